import JvmDerived
import JvmDerived.Pilot.@@N@@Statement
import JvmDerived.Pilot.@@N@@Code
set_option linter.unusedVariables false
set_option linter.unusedSimpArgs false
namespace Jvm.Pilot.@@N@@
open Jvm Jvm.ClassFile Sem Op Lib Jvm.Free Jvm.Stand Jvm.LawKit Jvm.RoadKit Bundle Jvm.Pilot.@@N@@.Jvm.D
-- LAYER BEGIN
section OwnW
variable {l : Launch} {Z : State} {y : MethodName} {bytes : ByteArray} {ml : Nat} {ret : Option FieldType} {R : Room} {n0 : Nat} {Q : Option Value → Heap → Prop} {h : Heap} {cells slots pc pc' : Nat} {Ls Ls' : Array Slot} {st st' : List Value} {a0 : Array Value}
/-- from this point of the body (heap h, so many cells and slots made, at pc with these locals and this stack) every run returns; Q holds of the value and the heap; all that was written lies at or above n0 -/
def own_W (l : Launch) (Z : State) (y : MethodName) (bytes : ByteArray) (ml : Nat) (ret : Option FieldType) (R : Room) (n0 : Nat) (Q : Option Value → Heap → Prop) (h : Heap) (cells slots pc : Nat) (Ls : Array Slot) (st : List Value) : Prop :=
  ∀ (p : Program) (e : Env) (s : State) (m : MethodId) (args : Array Value) (below : List Frame) (meth : Method) (c : Code) (T : State) (locs : List Loc),
    p.tables.exec = Jvm.exec → Z.Warmed39 s.vm → s.vm.findClass y.cls = some m.cls → c.code = bytes → c.maxLocals = ml → meth.sig.returnType = ret → meth.locks = false → meth.name = y.name → cells ≤ R.cells → slots ≤ R.slots →
    Stand p l e R s m args below meth c T locs cells slots → T.heap = h → Fr n0 locs →
    ∃ s₂ o, Steps p.tables e below (T.setTop (mkF m pc Ls st)) s₂ ∧ s₂.status = .running ∧ Ended s₂ below o ∧ ∃ v L, o = .returned v ∧ (Q v s₂.heap ∧ Fr n0 L) ∧ FrameEnd s o s₂ L R.cells R.slots
theorem own_pure (hs : ∀ (p : Program) (e : Env) (below : List Frame) (T target : State) (m : MethodId) (c : Code), At T m c below → p.tables.exec = Jvm.exec → c.code = bytes → Steps p.tables e below (T.setTop (mkF m pc' Ls' st')) target → Steps p.tables e below (T.setTop (mkF m pc Ls st)) target)
    (k : own_W l Z y bytes ml ret R n0 Q h cells slots pc' Ls' st') : own_W l Z y bytes ml ret R n0 Q h cells slots pc Ls st := by
  intro p e s m args below meth c T locs hx hZ hown hby hml hret hlk hnm hce hsl X eT N
  obtain ⟨s₂, o, h1, h2⟩ := k p e s m args below meth c T locs hx hZ hown hby hml hret hlk hnm hce hsl X eT N
  exact ⟨s₂, o, hs p e below T s₂ m c X.here hx hby h1, h2⟩
theorem own_more {cells' slots' : Nat} (hc : cells ≤ cells') (hs : slots ≤ slots') (hc' : cells' ≤ R.cells) (hs' : slots' ≤ R.slots) (k : own_W l Z y bytes ml ret R n0 Q h cells' slots' pc Ls st) : own_W l Z y bytes ml ret R n0 Q h cells slots pc Ls st := by
  intro p e s m args below meth c T locs hx hZ hown hby hml hret hlk hnm hce hsl X eT N
  exact k p e s m args below meth c T locs hx hZ hown hby hml hret hlk hnm hc' hs' (X.more hc hs) eT N
theorem own_weak {Q' : Option Value → Heap → Prop} (hq : ∀ v h, Q' v h → Q v h) (k : own_W l Z y bytes ml ret R n0 Q' h cells slots pc Ls st) : own_W l Z y bytes ml ret R n0 Q h cells slots pc Ls st := by
  intro p e s m args below meth c T locs hx hZ hown hby hml hret hlk hnm hce hsl X eT N
  obtain ⟨s₂, o, h1, h2, h3, v, L, h4, ⟨h5, h6⟩, h7⟩ := k p e s m args below meth c T locs hx hZ hown hby hml hret hlk hnm hce hsl X eT N
  exact ⟨s₂, o, h1, h2, h3, v, L, h4, ⟨hq _ _ h5, h6⟩, h7⟩
theorem own_iloadN {i : Fin 4} {u : Int32} (hd : decode bytes pc = .ok (.iload_n i, 1)) (hp : pc + 1 = pc') (hl : Ls[i.val]? = some (.val (.int u))) (k : own_W l Z y bytes ml ret R n0 Q h cells slots pc' Ls (.int u :: st)) : own_W l Z y bytes ml ret R n0 Q h cells slots pc Ls (st) :=
  own_pure (fun p e below T t m c hA hx hb hr => by subst hp; exact XS.iloadN hA hx rfl (hb ▸ hd) hl hr) k
theorem own_iload {i : Nat} {u : Int32} (hd : decode bytes pc = .ok (.iload i, 2)) (hp : pc + 2 = pc') (hl : Ls[i]? = some (.val (.int u))) (k : own_W l Z y bytes ml ret R n0 Q h cells slots pc' Ls (.int u :: st)) : own_W l Z y bytes ml ret R n0 Q h cells slots pc Ls (st) :=
  own_pure (fun p e below T t m c hA hx hb hr => by subst hp; exact XS.iload hA hx rfl (hb ▸ hd) hl hr) k
theorem own_lloadN {i : Fin 4} {u : Int64} (hd : decode bytes pc = .ok (.lload_n i, 1)) (hp : pc + 1 = pc') (hl : Ls[i.val]? = some (.val (.long u))) (k : own_W l Z y bytes ml ret R n0 Q h cells slots pc' Ls (.long u :: st)) : own_W l Z y bytes ml ret R n0 Q h cells slots pc Ls (st) :=
  own_pure (fun p e below T t m c hA hx hb hr => by subst hp; exact XT.lloadN hA hx rfl (hb ▸ hd) hl hr) k
theorem own_lload {i : Nat} {u : Int64} (hd : decode bytes pc = .ok (.lload i, 2)) (hp : pc + 2 = pc') (hl : Ls[i]? = some (.val (.long u))) (k : own_W l Z y bytes ml ret R n0 Q h cells slots pc' Ls (.long u :: st)) : own_W l Z y bytes ml ret R n0 Q h cells slots pc Ls (st) :=
  own_pure (fun p e below T t m c hA hx hb hr => by subst hp; exact XT.lload hA hx rfl (hb ▸ hd) hl hr) k
theorem own_aloadN {i : Fin 4} {u : Addr} (hd : decode bytes pc = .ok (.aload_n i, 1)) (hp : pc + 1 = pc') (hl : Ls[i.val]? = some (.val (.ref u))) (k : own_W l Z y bytes ml ret R n0 Q h cells slots pc' Ls (.ref u :: st)) : own_W l Z y bytes ml ret R n0 Q h cells slots pc Ls (st) :=
  own_pure (fun p e below T t m c hA hx hb hr => by subst hp; exact XS.aloadN hA hx rfl (hb ▸ hd) hl rfl hr) k
theorem own_aload {i : Nat} {u : Addr} (hd : decode bytes pc = .ok (.aload i, 2)) (hp : pc + 2 = pc') (hl : Ls[i]? = some (.val (.ref u))) (k : own_W l Z y bytes ml ret R n0 Q h cells slots pc' Ls (.ref u :: st)) : own_W l Z y bytes ml ret R n0 Q h cells slots pc Ls (st) :=
  own_pure (fun p e below T t m c hA hx hb hr => by subst hp; exact XS.aload hA hx rfl (hb ▸ hd) hl rfl hr) k
theorem own_istoreN {i : Fin 4} {u : Int32} (hd : decode bytes pc = .ok (.istore_n i, 1)) (hp : pc + 1 = pc') (hl : storeLocals Ls i.val (.int u) = some Ls') (k : own_W l Z y bytes ml ret R n0 Q h cells slots pc' Ls' (st)) : own_W l Z y bytes ml ret R n0 Q h cells slots pc Ls (.int u :: st) :=
  own_pure (fun p e below T t m c hA hx hb hr => by subst hp; exact XS.istoreN hA hx rfl (hb ▸ hd) rfl hl hr) k
theorem own_istore {i : Nat} {u : Int32} (hd : decode bytes pc = .ok (.istore i, 2)) (hp : pc + 2 = pc') (hl : storeLocals Ls i (.int u) = some Ls') (k : own_W l Z y bytes ml ret R n0 Q h cells slots pc' Ls' (st)) : own_W l Z y bytes ml ret R n0 Q h cells slots pc Ls (.int u :: st) :=
  own_pure (fun p e below T t m c hA hx hb hr => by subst hp; exact XS.istore hA hx rfl (hb ▸ hd) rfl hl hr) k
theorem own_lstoreN {i : Fin 4} {u : Int64} (hd : decode bytes pc = .ok (.lstore_n i, 1)) (hp : pc + 1 = pc') (hl : storeLocals Ls i.val (.long u) = some Ls') (k : own_W l Z y bytes ml ret R n0 Q h cells slots pc' Ls' (st)) : own_W l Z y bytes ml ret R n0 Q h cells slots pc Ls (.long u :: st) :=
  own_pure (fun p e below T t m c hA hx hb hr => by subst hp; exact XT.lstoreN hA hx rfl (hb ▸ hd) rfl hl hr) k
theorem own_lstore {i : Nat} {u : Int64} (hd : decode bytes pc = .ok (.lstore i, 2)) (hp : pc + 2 = pc') (hl : storeLocals Ls i (.long u) = some Ls') (k : own_W l Z y bytes ml ret R n0 Q h cells slots pc' Ls' (st)) : own_W l Z y bytes ml ret R n0 Q h cells slots pc Ls (.long u :: st) :=
  own_pure (fun p e below T t m c hA hx hb hr => by subst hp; exact XT.lstore hA hx rfl (hb ▸ hd) rfl hl hr) k
theorem own_astoreN {i : Fin 4} {u : Addr} (hd : decode bytes pc = .ok (.astore_n i, 1)) (hp : pc + 1 = pc') (hl : storeLocals Ls i.val (.ref u) = some Ls') (k : own_W l Z y bytes ml ret R n0 Q h cells slots pc' Ls' (st)) : own_W l Z y bytes ml ret R n0 Q h cells slots pc Ls (.ref u :: st) :=
  own_pure (fun p e below T t m c hA hx hb hr => by subst hp; exact XS.astoreN hA hx rfl (hb ▸ hd) rfl rfl hl hr) k
theorem own_astore {i : Nat} {u : Addr} (hd : decode bytes pc = .ok (.astore i, 2)) (hp : pc + 2 = pc') (hl : storeLocals Ls i (.ref u) = some Ls') (k : own_W l Z y bytes ml ret R n0 Q h cells slots pc' Ls' (st)) : own_W l Z y bytes ml ret R n0 Q h cells slots pc Ls (.ref u :: st) :=
  own_pure (fun p e below T t m c hA hx hb hr => by subst hp; exact XS.astore hA hx rfl (hb ▸ hd) rfl rfl hl hr) k
theorem own_iinc {i : Nat} {cst : Int} {u w : Int32} (hd : decode bytes pc = .ok (.iinc i cst, 3)) (hp : pc + 3 = pc') (hv : Int32.ofInt cst = w) (hl : Ls[i]? = some (.val (.int u))) (hl' : storeLocals Ls i (.int (u + w)) = some Ls') (k : own_W l Z y bytes ml ret R n0 Q h cells slots pc' Ls' st) : own_W l Z y bytes ml ret R n0 Q h cells slots pc Ls st :=
  own_pure (fun p e below T t m c hA hx hb hr => by subst hp; exact XT.iincV hA hx rfl w (hb ▸ hd) hv hl hl' hr) k
theorem own_iconst {i : Int} (u : Int32) (hd : decode bytes pc = .ok (.iconst i, 1)) (hp : pc + 1 = pc') (hv : Int32.ofInt i = u) (k : own_W l Z y bytes ml ret R n0 Q h cells slots pc' Ls (.int u :: st)) : own_W l Z y bytes ml ret R n0 Q h cells slots pc Ls st :=
  own_pure (fun p e below T t m c hA hx hb hr => by subst hp; exact XT.iconstV hA hx rfl u (hb ▸ hd) hv hr) k
theorem own_bipush {i : Int} (u : Int32) (hd : decode bytes pc = .ok (.bipush i, 2)) (hp : pc + 2 = pc') (hv : (Int8.ofInt i).toInt32 = u) (k : own_W l Z y bytes ml ret R n0 Q h cells slots pc' Ls (.int u :: st)) : own_W l Z y bytes ml ret R n0 Q h cells slots pc Ls st :=
  own_pure (fun p e below T t m c hA hx hb hr => by subst hp; exact XT.bipushV hA hx rfl u (hb ▸ hd) hv hr) k
theorem own_sipush {i : Int} (u : Int32) (hd : decode bytes pc = .ok (.sipush i, 3)) (hp : pc + 3 = pc') (hv : (Int16.ofInt i).toInt32 = u) (k : own_W l Z y bytes ml ret R n0 Q h cells slots pc' Ls (.int u :: st)) : own_W l Z y bytes ml ret R n0 Q h cells slots pc Ls st :=
  own_pure (fun p e below T t m c hA hx hb hr => by subst hp; exact XT.sipushV hA hx rfl u (hb ▸ hd) hv hr) k
theorem own_lconst {i : Fin 2} (u : Int64) (hd : decode bytes pc = .ok (.lconst i, 1)) (hp : pc + 1 = pc') (hv : Int64.ofNat i = u) (k : own_W l Z y bytes ml ret R n0 Q h cells slots pc' Ls (.long u :: st)) : own_W l Z y bytes ml ret R n0 Q h cells slots pc Ls st :=
  own_pure (fun p e below T t m c hA hx hb hr => by subst hp; exact XT.lconstV hA hx rfl u (hb ▸ hd) hv hr) k
theorem own_aconstNull (hd : decode bytes pc = .ok (.aconst_null, 1)) (hp : pc + 1 = pc') (k : own_W l Z y bytes ml ret R n0 Q h cells slots pc' Ls (.null :: st)) : own_W l Z y bytes ml ret R n0 Q h cells slots pc Ls (st) :=
  own_pure (fun p e below T t m c hA hx hb hr => by subst hp; exact XS.aconstNull hA hx rfl (hb ▸ hd)  hr) k
theorem own_iadd {u w : Int32} (hd : decode bytes pc = .ok (.iadd, 1)) (hp : pc + 1 = pc') (k : own_W l Z y bytes ml ret R n0 Q h cells slots pc' Ls (.int (u + w) :: st)) : own_W l Z y bytes ml ret R n0 Q h cells slots pc Ls (.int w :: .int u :: st) :=
  own_pure (fun p e below T t m c hA hx hb hr => by subst hp; exact XS.iadd hA hx rfl (hb ▸ hd) rfl hr) k
theorem own_isub {u w : Int32} (hd : decode bytes pc = .ok (.isub, 1)) (hp : pc + 1 = pc') (k : own_W l Z y bytes ml ret R n0 Q h cells slots pc' Ls (.int (u - w) :: st)) : own_W l Z y bytes ml ret R n0 Q h cells slots pc Ls (.int w :: .int u :: st) :=
  own_pure (fun p e below T t m c hA hx hb hr => by subst hp; exact XS.isub hA hx rfl (hb ▸ hd) rfl hr) k
theorem own_imul {u w : Int32} (hd : decode bytes pc = .ok (.imul, 1)) (hp : pc + 1 = pc') (k : own_W l Z y bytes ml ret R n0 Q h cells slots pc' Ls (.int (u * w) :: st)) : own_W l Z y bytes ml ret R n0 Q h cells slots pc Ls (.int w :: .int u :: st) :=
  own_pure (fun p e below T t m c hA hx hb hr => by subst hp; exact XS.imul hA hx rfl (hb ▸ hd) rfl hr) k
theorem own_iand {u w : Int32} (hd : decode bytes pc = .ok (.iand, 1)) (hp : pc + 1 = pc') (k : own_W l Z y bytes ml ret R n0 Q h cells slots pc' Ls (.int (u &&& w) :: st)) : own_W l Z y bytes ml ret R n0 Q h cells slots pc Ls (.int w :: .int u :: st) :=
  own_pure (fun p e below T t m c hA hx hb hr => by subst hp; exact XS.iand hA hx rfl (hb ▸ hd) rfl hr) k
theorem own_ior {u w : Int32} (hd : decode bytes pc = .ok (.ior, 1)) (hp : pc + 1 = pc') (k : own_W l Z y bytes ml ret R n0 Q h cells slots pc' Ls (.int (u ||| w) :: st)) : own_W l Z y bytes ml ret R n0 Q h cells slots pc Ls (.int w :: .int u :: st) :=
  own_pure (fun p e below T t m c hA hx hb hr => by subst hp; exact XT.ior hA hx rfl (hb ▸ hd) rfl hr) k
theorem own_ixor {u w : Int32} (hd : decode bytes pc = .ok (.ixor, 1)) (hp : pc + 1 = pc') (k : own_W l Z y bytes ml ret R n0 Q h cells slots pc' Ls (.int (u ^^^ w) :: st)) : own_W l Z y bytes ml ret R n0 Q h cells slots pc Ls (.int w :: .int u :: st) :=
  own_pure (fun p e below T t m c hA hx hb hr => by subst hp; exact XT.ixor hA hx rfl (hb ▸ hd) rfl hr) k
theorem own_ishl {u w : Int32} (hd : decode bytes pc = .ok (.ishl, 1)) (hp : pc + 1 = pc') (k : own_W l Z y bytes ml ret R n0 Q h cells slots pc' Ls (.int (u <<< (w &&& 31)) :: st)) : own_W l Z y bytes ml ret R n0 Q h cells slots pc Ls (.int w :: .int u :: st) :=
  own_pure (fun p e below T t m c hA hx hb hr => by subst hp; exact XT.ishl hA hx rfl (hb ▸ hd) rfl hr) k
theorem own_ishr {u w : Int32} (hd : decode bytes pc = .ok (.ishr, 1)) (hp : pc + 1 = pc') (k : own_W l Z y bytes ml ret R n0 Q h cells slots pc' Ls (.int (u >>> (w &&& 31)) :: st)) : own_W l Z y bytes ml ret R n0 Q h cells slots pc Ls (.int w :: .int u :: st) :=
  own_pure (fun p e below T t m c hA hx hb hr => by subst hp; exact XT.ishr hA hx rfl (hb ▸ hd) rfl hr) k
theorem own_iushr {u w : Int32} (hd : decode bytes pc = .ok (.iushr, 1)) (hp : pc + 1 = pc') (k : own_W l Z y bytes ml ret R n0 Q h cells slots pc' Ls (.int (XT.ushr u w) :: st)) : own_W l Z y bytes ml ret R n0 Q h cells slots pc Ls (.int w :: .int u :: st) :=
  own_pure (fun p e below T t m c hA hx hb hr => by subst hp; exact XT.iushr hA hx rfl (hb ▸ hd) rfl hr) k
theorem own_idiv {u w : Int32} (hd : decode bytes pc = .ok (.idiv, 1)) (hp : pc + 1 = pc') (hw : w ≠ 0) (k : own_W l Z y bytes ml ret R n0 Q h cells slots pc' Ls (.int (u / w) :: st)) : own_W l Z y bytes ml ret R n0 Q h cells slots pc Ls (.int w :: .int u :: st) :=
  own_pure (fun p e below T t m c hA hx hb hr => by subst hp; exact XS.idiv hA hx rfl (hb ▸ hd) rfl hw hr) k
theorem own_irem {u w : Int32} (hd : decode bytes pc = .ok (.irem, 1)) (hp : pc + 1 = pc') (hw : w ≠ 0) (k : own_W l Z y bytes ml ret R n0 Q h cells slots pc' Ls (.int (u % w) :: st)) : own_W l Z y bytes ml ret R n0 Q h cells slots pc Ls (.int w :: .int u :: st) :=
  own_pure (fun p e below T t m c hA hx hb hr => by subst hp; exact XS.irem hA hx rfl (hb ▸ hd) rfl hw (by rw [irem_eq_mod u w]; exact hr)) k
theorem own_ineg {u : Int32} (hd : decode bytes pc = .ok (.ineg, 1)) (hp : pc + 1 = pc') (k : own_W l Z y bytes ml ret R n0 Q h cells slots pc' Ls (.int (-u) :: st)) : own_W l Z y bytes ml ret R n0 Q h cells slots pc Ls (.int u :: st) :=
  own_pure (fun p e below T t m c hA hx hb hr => by subst hp; exact XS.ineg hA hx rfl (hb ▸ hd) rfl hr) k
theorem own_ladd {u w : Int64} (hd : decode bytes pc = .ok (.ladd, 1)) (hp : pc + 1 = pc') (k : own_W l Z y bytes ml ret R n0 Q h cells slots pc' Ls (.long (u + w) :: st)) : own_W l Z y bytes ml ret R n0 Q h cells slots pc Ls (.long w :: .long u :: st) :=
  own_pure (fun p e below T t m c hA hx hb hr => by subst hp; exact XT.ladd hA hx rfl (hb ▸ hd) rfl hr) k
theorem own_lsub {u w : Int64} (hd : decode bytes pc = .ok (.lsub, 1)) (hp : pc + 1 = pc') (k : own_W l Z y bytes ml ret R n0 Q h cells slots pc' Ls (.long (u - w) :: st)) : own_W l Z y bytes ml ret R n0 Q h cells slots pc Ls (.long w :: .long u :: st) :=
  own_pure (fun p e below T t m c hA hx hb hr => by subst hp; exact XT.lsub hA hx rfl (hb ▸ hd) rfl hr) k
theorem own_lmul {u w : Int64} (hd : decode bytes pc = .ok (.lmul, 1)) (hp : pc + 1 = pc') (k : own_W l Z y bytes ml ret R n0 Q h cells slots pc' Ls (.long (u * w) :: st)) : own_W l Z y bytes ml ret R n0 Q h cells slots pc Ls (.long w :: .long u :: st) :=
  own_pure (fun p e below T t m c hA hx hb hr => by subst hp; exact XT.lmul hA hx rfl (hb ▸ hd) rfl hr) k
theorem own_land {u w : Int64} (hd : decode bytes pc = .ok (.land, 1)) (hp : pc + 1 = pc') (k : own_W l Z y bytes ml ret R n0 Q h cells slots pc' Ls (.long (u &&& w) :: st)) : own_W l Z y bytes ml ret R n0 Q h cells slots pc Ls (.long w :: .long u :: st) :=
  own_pure (fun p e below T t m c hA hx hb hr => by subst hp; exact XT.land hA hx rfl (hb ▸ hd) rfl hr) k
theorem own_lor {u w : Int64} (hd : decode bytes pc = .ok (.lor, 1)) (hp : pc + 1 = pc') (k : own_W l Z y bytes ml ret R n0 Q h cells slots pc' Ls (.long (u ||| w) :: st)) : own_W l Z y bytes ml ret R n0 Q h cells slots pc Ls (.long w :: .long u :: st) :=
  own_pure (fun p e below T t m c hA hx hb hr => by subst hp; exact XT.lor hA hx rfl (hb ▸ hd) rfl hr) k
theorem own_lxor {u w : Int64} (hd : decode bytes pc = .ok (.lxor, 1)) (hp : pc + 1 = pc') (k : own_W l Z y bytes ml ret R n0 Q h cells slots pc' Ls (.long (u ^^^ w) :: st)) : own_W l Z y bytes ml ret R n0 Q h cells slots pc Ls (.long w :: .long u :: st) :=
  own_pure (fun p e below T t m c hA hx hb hr => by subst hp; exact XT.lxor hA hx rfl (hb ▸ hd) rfl hr) k
theorem own_lrem {u w : Int64} (hd : decode bytes pc = .ok (.lrem, 1)) (hp : pc + 1 = pc') (hw : w ≠ 0) (k : own_W l Z y bytes ml ret R n0 Q h cells slots pc' Ls (.long (u % w) :: st)) : own_W l Z y bytes ml ret R n0 Q h cells slots pc Ls (.long w :: .long u :: st) :=
  own_pure (fun p e below T t m c hA hx hb hr => by subst hp; exact XT.lrem hA hx rfl (hb ▸ hd) rfl hw (by rw [lrem_mod u w]; exact hr)) k
theorem own_lshl {u : Int64} {w : Int32} (hd : decode bytes pc = .ok (.lshl, 1)) (hp : pc + 1 = pc') (k : own_W l Z y bytes ml ret R n0 Q h cells slots pc' Ls (.long (u <<< (w.toInt64 &&& 63)) :: st)) : own_W l Z y bytes ml ret R n0 Q h cells slots pc Ls (.int w :: .long u :: st) :=
  own_pure (fun p e below T t m c hA hx hb hr => by subst hp; exact XT.lshl hA hx rfl (hb ▸ hd) rfl hr) k
theorem own_lshr {u : Int64} {w : Int32} (hd : decode bytes pc = .ok (.lshr, 1)) (hp : pc + 1 = pc') (k : own_W l Z y bytes ml ret R n0 Q h cells slots pc' Ls (.long (u >>> (w.toInt64 &&& 63)) :: st)) : own_W l Z y bytes ml ret R n0 Q h cells slots pc Ls (.int w :: .long u :: st) :=
  own_pure (fun p e below T t m c hA hx hb hr => by subst hp; exact XT.lshr hA hx rfl (hb ▸ hd) rfl hr) k
theorem own_lushr {u : Int64} {w : Int32} (hd : decode bytes pc = .ok (.lushr, 1)) (hp : pc + 1 = pc') (k : own_W l Z y bytes ml ret R n0 Q h cells slots pc' Ls (.long (XT.ushrL u w) :: st)) : own_W l Z y bytes ml ret R n0 Q h cells slots pc Ls (.int w :: .long u :: st) :=
  own_pure (fun p e below T t m c hA hx hb hr => by subst hp; exact XT.lushr hA hx rfl (hb ▸ hd) rfl hr) k
theorem own_i2l {u : Int32} (hd : decode bytes pc = .ok (.i2l, 1)) (hp : pc + 1 = pc') (k : own_W l Z y bytes ml ret R n0 Q h cells slots pc' Ls (.long u.toInt64 :: st)) : own_W l Z y bytes ml ret R n0 Q h cells slots pc Ls (.int u :: st) :=
  own_pure (fun p e below T t m c hA hx hb hr => by subst hp; exact XT.i2l hA hx rfl (hb ▸ hd) rfl hr) k
theorem own_l2i {u : Int64} (hd : decode bytes pc = .ok (.l2i, 1)) (hp : pc + 1 = pc') (k : own_W l Z y bytes ml ret R n0 Q h cells slots pc' Ls (.int u.toInt32 :: st)) : own_W l Z y bytes ml ret R n0 Q h cells slots pc Ls (.long u :: st) :=
  own_pure (fun p e below T t m c hA hx hb hr => by subst hp; exact XT.l2i hA hx rfl (hb ▸ hd) rfl hr) k
theorem own_i2b {u : Int32} (hd : decode bytes pc = .ok (.i2b, 1)) (hp : pc + 1 = pc') (k : own_W l Z y bytes ml ret R n0 Q h cells slots pc' Ls (.int u.toInt8.toInt32 :: st)) : own_W l Z y bytes ml ret R n0 Q h cells slots pc Ls (.int u :: st) :=
  own_pure (fun p e below T t m c hA hx hb hr => by subst hp; exact XT.i2b hA hx rfl (hb ▸ hd) rfl hr) k
theorem own_i2c {u : Int32} (hd : decode bytes pc = .ok (.i2c, 1)) (hp : pc + 1 = pc') (k : own_W l Z y bytes ml ret R n0 Q h cells slots pc' Ls (.int u.toUInt32.toUInt16.toUInt32.toInt32 :: st)) : own_W l Z y bytes ml ret R n0 Q h cells slots pc Ls (.int u :: st) :=
  own_pure (fun p e below T t m c hA hx hb hr => by subst hp; exact XT.i2c hA hx rfl (hb ▸ hd) rfl hr) k
theorem own_lcmp {u w : Int64} (hd : decode bytes pc = .ok (.lcmp, 1)) (hp : pc + 1 = pc') (k : own_W l Z y bytes ml ret R n0 Q h cells slots pc' Ls (.int (XT.cmpL u w) :: st)) : own_W l Z y bytes ml ret R n0 Q h cells slots pc Ls (.long w :: .long u :: st) :=
  own_pure (fun p e below T t m c hA hx hb hr => by subst hp; exact XT.lcmp hA hx rfl (hb ▸ hd) rfl hr) k
theorem own_dup {u : Value} (hd : decode bytes pc = .ok (.dup, 1)) (hp : pc + 1 = pc') (hc : u.category = 1) (k : own_W l Z y bytes ml ret R n0 Q h cells slots pc' Ls (u :: u :: st)) : own_W l Z y bytes ml ret R n0 Q h cells slots pc Ls (u :: st) :=
  own_pure (fun p e below T t m c hA hx hb hr => by subst hp; exact XS.dup hA hx rfl (hb ▸ hd) rfl hc hr) k
theorem own_pop {u : Value} (hd : decode bytes pc = .ok (.pop, 1)) (hp : pc + 1 = pc') (hc : u.category = 1) (k : own_W l Z y bytes ml ret R n0 Q h cells slots pc' Ls (st)) : own_W l Z y bytes ml ret R n0 Q h cells slots pc Ls (u :: st) :=
  own_pure (fun p e below T t m c hA hx hb hr => by subst hp; exact XT.pop hA hx rfl (hb ▸ hd) rfl hc hr) k
theorem own_dupX1 {u w : Value} (hd : decode bytes pc = .ok (.dup_x1, 1)) (hp : pc + 1 = pc') (hc : u.category = 1) (hc' : w.category = 1) (k : own_W l Z y bytes ml ret R n0 Q h cells slots pc' Ls (u :: w :: u :: st)) : own_W l Z y bytes ml ret R n0 Q h cells slots pc Ls (u :: w :: st) :=
  own_pure (fun p e below T t m c hA hx hb hr => by subst hp; exact XT.dupX1 hA hx rfl (hb ▸ hd) rfl hc hc' hr) k
theorem own_dup2 {u w : Value} (hd : decode bytes pc = .ok (.dup2, 1)) (hp : pc + 1 = pc') (hc : u.category = 1) (hc' : w.category = 1) (k : own_W l Z y bytes ml ret R n0 Q h cells slots pc' Ls (u :: w :: u :: w :: st)) : own_W l Z y bytes ml ret R n0 Q h cells slots pc Ls (u :: w :: st) :=
  own_pure (fun p e below T t m c hA hx hb hr => by subst hp; exact XT.dup2 hA hx rfl (hb ▸ hd) rfl hc hc' hr) k
theorem own_dup2L {u : Int64} (hd : decode bytes pc = .ok (.dup2, 1)) (hp : pc + 1 = pc') (k : own_W l Z y bytes ml ret R n0 Q h cells slots pc' Ls (.long u :: .long u :: st)) : own_W l Z y bytes ml ret R n0 Q h cells slots pc Ls (.long u :: st) :=
  own_pure (fun p e below T t m c hA hx hb hr => by subst hp; exact XT.dup2L hA hx rfl (hb ▸ hd) rfl hr) k
theorem own_pop2step {tb : Tables} [Ours tb] {e : Env} {below : List Frame} {T target : State} {m : MethodId} {c : Code} {g : JFrame} (h : At T m c below) (hx : tb.exec = Jvm.exec) (hg : g.method = m) {u : Int64} {rest : List Value} (hd : decode c.code g.pc = .ok (.pop2, 1)) (hs : g.stack = .long u :: rest)
    (hr : Steps tb e below (T.setTop { g with pc := g.pc + 1, stack := rest }) target) : Steps tb e below (T.setTop g) target := by
  subst hg
  jvm_step h [h.top, hx, hd, hs, pop2.wp_sem, Value.category]
  exact hr
theorem own_pop2L {u : Int64} (hd : decode bytes pc = .ok (.pop2, 1)) (hp : pc + 1 = pc') (k : own_W l Z y bytes ml ret R n0 Q h cells slots pc' Ls (st)) : own_W l Z y bytes ml ret R n0 Q h cells slots pc Ls (.long u :: st) :=
  own_pure (fun p e below T t m c hA hx hb hr => by subst hp; exact own_pop2step hA hx rfl (hb ▸ hd) rfl hr) k
theorem own_dupX2step {tb : Tables} [Ours tb] {e : Env} {below : List Frame} {T target : State} {m : MethodId} {c : Code} {g : JFrame} (h : At T m c below) (hx : tb.exec = Jvm.exec) (hg : g.method = m) {x y z : Value} {rest : List Value} (hd : decode c.code g.pc = .ok (.dup_x2, 1)) (hs : g.stack = x :: y :: z :: rest) (hc : x.category = 1) (hc' : y.category = 1) (hc'' : z.category = 1)
    (hr : Steps tb e below (T.setTop { g with pc := g.pc + 1, stack := x :: y :: z :: x :: rest }) target) : Steps tb e below (T.setTop g) target := by
  subst hg
  jvm_step h [h.top, hx, hd, hs, dup_x2.wp_sem, hc, hc', hc'']
  exact hr
theorem own_dupX2 {u w x : Value} (hd : decode bytes pc = .ok (.dup_x2, 1)) (hp : pc + 1 = pc') (hc : u.category = 1) (hc' : w.category = 1) (hc'' : x.category = 1) (k : own_W l Z y bytes ml ret R n0 Q h cells slots pc' Ls (u :: w :: x :: u :: st)) : own_W l Z y bytes ml ret R n0 Q h cells slots pc Ls (u :: w :: x :: st) :=
  own_pure (fun p e below T t m c hA hx hb hr => by subst hp; exact own_dupX2step hA hx rfl (hb ▸ hd) rfl hc hc' hc'' hr) k
theorem own_goto {o : Int} (hd : decode bytes pc = .ok (.goto o, 3)) (ho : 0 ≤ (pc : Int) + o) (hp : ((pc : Int) + o).toNat = pc') (k : own_W l Z y bytes ml ret R n0 Q h cells slots pc' Ls st) : own_W l Z y bytes ml ret R n0 Q h cells slots pc Ls st :=
  own_pure (fun p e below T t m c hA hx hb hr => XS.goto hA hx rfl rfl (hb ▸ hd) ho hp hr) k
theorem own_if_eq_t {u : Int32} {o : Int} (hd : decode bytes pc = .ok (.ifCond .eq o, 3)) (hc : u = 0) (ho : 0 ≤ (pc : Int) + o) (hp : ((pc : Int) + o).toNat = pc') (k : own_W l Z y bytes ml ret R n0 Q h cells slots pc' Ls st) : own_W l Z y bytes ml ret R n0 Q h cells slots pc Ls (.int u :: st) :=
  own_pure (fun p e below T t m c hA hx hb hr => XS.ifYes hA hx rfl rfl (hb ▸ hd) rfl (XT.i0_eq_t hc) ho hp hr) k
theorem own_if_eq_f {u : Int32} {o : Int} (hd : decode bytes pc = .ok (.ifCond .eq o, 3)) (hc : ¬ u = 0) (hp : pc + 3 = pc') (k : own_W l Z y bytes ml ret R n0 Q h cells slots pc' Ls st) : own_W l Z y bytes ml ret R n0 Q h cells slots pc Ls (.int u :: st) :=
  own_pure (fun p e below T t m c hA hx hb hr => by subst hp; exact XS.ifNo hA hx rfl (hb ▸ hd) rfl (XT.i0_eq_f hc) hr) k
theorem own_if_eq {u : Int32} {o : Int} {pf : Nat} (hd : decode bytes pc = .ok (.ifCond .eq o, 3)) (ho : 0 ≤ (pc : Int) + o) (hp : ((pc : Int) + o).toNat = pc') (hq : pc + 3 = pf) (kt : u = 0 → own_W l Z y bytes ml ret R n0 Q h cells slots pc' Ls st) (kf : ¬ u = 0 → own_W l Z y bytes ml ret R n0 Q h cells slots pf Ls st) : own_W l Z y bytes ml ret R n0 Q h cells slots pc Ls (.int u :: st) := by
  by_cases hc : u = 0
  · exact own_if_eq_t hd hc ho hp (kt hc)
  · exact own_if_eq_f hd (by first | exact hc | exact Decidable.not_not.mp hc) hq (kf (by first | exact hc | exact Decidable.not_not.mp hc))
theorem own_ic_eq_t {u w : Int32} {o : Int} (hd : decode bytes pc = .ok (.if_icmp .eq o, 3)) (hc : u = w) (ho : 0 ≤ (pc : Int) + o) (hp : ((pc : Int) + o).toNat = pc') (k : own_W l Z y bytes ml ret R n0 Q h cells slots pc' Ls st) : own_W l Z y bytes ml ret R n0 Q h cells slots pc Ls (.int w :: .int u :: st) :=
  own_pure (fun p e below T t m c hA hx hb hr => XS.icmpYes hA hx rfl rfl (hb ▸ hd) rfl (XT.ii_eq_t hc) ho hp hr) k
theorem own_ic_eq_f {u w : Int32} {o : Int} (hd : decode bytes pc = .ok (.if_icmp .eq o, 3)) (hc : ¬ u = w) (hp : pc + 3 = pc') (k : own_W l Z y bytes ml ret R n0 Q h cells slots pc' Ls st) : own_W l Z y bytes ml ret R n0 Q h cells slots pc Ls (.int w :: .int u :: st) :=
  own_pure (fun p e below T t m c hA hx hb hr => by subst hp; exact XS.icmpNo hA hx rfl (hb ▸ hd) rfl (XT.ii_eq_f hc) hr) k
theorem own_ic_eq {u w : Int32} {o : Int} {pf : Nat} (hd : decode bytes pc = .ok (.if_icmp .eq o, 3)) (ho : 0 ≤ (pc : Int) + o) (hp : ((pc : Int) + o).toNat = pc') (hq : pc + 3 = pf) (kt : u = w → own_W l Z y bytes ml ret R n0 Q h cells slots pc' Ls st) (kf : ¬ u = w → own_W l Z y bytes ml ret R n0 Q h cells slots pf Ls st) : own_W l Z y bytes ml ret R n0 Q h cells slots pc Ls (.int w :: .int u :: st) := by
  by_cases hc : u = w
  · exact own_ic_eq_t hd hc ho hp (kt hc)
  · exact own_ic_eq_f hd (by first | exact hc | exact Decidable.not_not.mp hc) hq (kf (by first | exact hc | exact Decidable.not_not.mp hc))
theorem own_il_eq_t {u w : Int64} {o : Int} (hd : decode bytes pc = .ok (.ifCond .eq o, 3)) (hc : u = w) (ho : 0 ≤ (pc : Int) + o) (hp : ((pc : Int) + o).toNat = pc') (k : own_W l Z y bytes ml ret R n0 Q h cells slots pc' Ls st) : own_W l Z y bytes ml ret R n0 Q h cells slots pc Ls (.int (XT.cmpL u w) :: st) :=
  own_pure (fun p e below T t m c hA hx hb hr => XS.ifYes hA hx rfl rfl (hb ▸ hd) rfl (XT.ll_eq_t hc) ho hp hr) k
theorem own_il_eq_f {u w : Int64} {o : Int} (hd : decode bytes pc = .ok (.ifCond .eq o, 3)) (hc : ¬ u = w) (hp : pc + 3 = pc') (k : own_W l Z y bytes ml ret R n0 Q h cells slots pc' Ls st) : own_W l Z y bytes ml ret R n0 Q h cells slots pc Ls (.int (XT.cmpL u w) :: st) :=
  own_pure (fun p e below T t m c hA hx hb hr => by subst hp; exact XS.ifNo hA hx rfl (hb ▸ hd) rfl (XT.ll_eq_f hc) hr) k
theorem own_il_eq {u w : Int64} {o : Int} {pf : Nat} (hd : decode bytes pc = .ok (.ifCond .eq o, 3)) (ho : 0 ≤ (pc : Int) + o) (hp : ((pc : Int) + o).toNat = pc') (hq : pc + 3 = pf) (kt : u = w → own_W l Z y bytes ml ret R n0 Q h cells slots pc' Ls st) (kf : ¬ u = w → own_W l Z y bytes ml ret R n0 Q h cells slots pf Ls st) : own_W l Z y bytes ml ret R n0 Q h cells slots pc Ls (.int (XT.cmpL u w) :: st) := by
  by_cases hc : u = w
  · exact own_il_eq_t hd hc ho hp (kt hc)
  · exact own_il_eq_f hd (by first | exact hc | exact Decidable.not_not.mp hc) hq (kf (by first | exact hc | exact Decidable.not_not.mp hc))
theorem own_if_ne_t {u : Int32} {o : Int} (hd : decode bytes pc = .ok (.ifCond .ne o, 3)) (hc : ¬ u = 0) (ho : 0 ≤ (pc : Int) + o) (hp : ((pc : Int) + o).toNat = pc') (k : own_W l Z y bytes ml ret R n0 Q h cells slots pc' Ls st) : own_W l Z y bytes ml ret R n0 Q h cells slots pc Ls (.int u :: st) :=
  own_pure (fun p e below T t m c hA hx hb hr => XS.ifYes hA hx rfl rfl (hb ▸ hd) rfl (XT.i0_ne_t hc) ho hp hr) k
theorem own_if_ne_f {u : Int32} {o : Int} (hd : decode bytes pc = .ok (.ifCond .ne o, 3)) (hc : u = 0) (hp : pc + 3 = pc') (k : own_W l Z y bytes ml ret R n0 Q h cells slots pc' Ls st) : own_W l Z y bytes ml ret R n0 Q h cells slots pc Ls (.int u :: st) :=
  own_pure (fun p e below T t m c hA hx hb hr => by subst hp; exact XS.ifNo hA hx rfl (hb ▸ hd) rfl (XT.i0_ne_f hc) hr) k
theorem own_if_ne {u : Int32} {o : Int} {pf : Nat} (hd : decode bytes pc = .ok (.ifCond .ne o, 3)) (ho : 0 ≤ (pc : Int) + o) (hp : ((pc : Int) + o).toNat = pc') (hq : pc + 3 = pf) (kt : ¬ u = 0 → own_W l Z y bytes ml ret R n0 Q h cells slots pc' Ls st) (kf : u = 0 → own_W l Z y bytes ml ret R n0 Q h cells slots pf Ls st) : own_W l Z y bytes ml ret R n0 Q h cells slots pc Ls (.int u :: st) := by
  by_cases hc : ¬ u = 0
  · exact own_if_ne_t hd hc ho hp (kt hc)
  · exact own_if_ne_f hd (by first | exact hc | exact Decidable.not_not.mp hc) hq (kf (by first | exact hc | exact Decidable.not_not.mp hc))
theorem own_ic_ne_t {u w : Int32} {o : Int} (hd : decode bytes pc = .ok (.if_icmp .ne o, 3)) (hc : ¬ u = w) (ho : 0 ≤ (pc : Int) + o) (hp : ((pc : Int) + o).toNat = pc') (k : own_W l Z y bytes ml ret R n0 Q h cells slots pc' Ls st) : own_W l Z y bytes ml ret R n0 Q h cells slots pc Ls (.int w :: .int u :: st) :=
  own_pure (fun p e below T t m c hA hx hb hr => XS.icmpYes hA hx rfl rfl (hb ▸ hd) rfl (XT.ii_ne_t hc) ho hp hr) k
theorem own_ic_ne_f {u w : Int32} {o : Int} (hd : decode bytes pc = .ok (.if_icmp .ne o, 3)) (hc : u = w) (hp : pc + 3 = pc') (k : own_W l Z y bytes ml ret R n0 Q h cells slots pc' Ls st) : own_W l Z y bytes ml ret R n0 Q h cells slots pc Ls (.int w :: .int u :: st) :=
  own_pure (fun p e below T t m c hA hx hb hr => by subst hp; exact XS.icmpNo hA hx rfl (hb ▸ hd) rfl (XT.ii_ne_f hc) hr) k
theorem own_ic_ne {u w : Int32} {o : Int} {pf : Nat} (hd : decode bytes pc = .ok (.if_icmp .ne o, 3)) (ho : 0 ≤ (pc : Int) + o) (hp : ((pc : Int) + o).toNat = pc') (hq : pc + 3 = pf) (kt : ¬ u = w → own_W l Z y bytes ml ret R n0 Q h cells slots pc' Ls st) (kf : u = w → own_W l Z y bytes ml ret R n0 Q h cells slots pf Ls st) : own_W l Z y bytes ml ret R n0 Q h cells slots pc Ls (.int w :: .int u :: st) := by
  by_cases hc : ¬ u = w
  · exact own_ic_ne_t hd hc ho hp (kt hc)
  · exact own_ic_ne_f hd (by first | exact hc | exact Decidable.not_not.mp hc) hq (kf (by first | exact hc | exact Decidable.not_not.mp hc))
theorem own_il_ne_t {u w : Int64} {o : Int} (hd : decode bytes pc = .ok (.ifCond .ne o, 3)) (hc : ¬ u = w) (ho : 0 ≤ (pc : Int) + o) (hp : ((pc : Int) + o).toNat = pc') (k : own_W l Z y bytes ml ret R n0 Q h cells slots pc' Ls st) : own_W l Z y bytes ml ret R n0 Q h cells slots pc Ls (.int (XT.cmpL u w) :: st) :=
  own_pure (fun p e below T t m c hA hx hb hr => XS.ifYes hA hx rfl rfl (hb ▸ hd) rfl (XT.ll_ne_t hc) ho hp hr) k
theorem own_il_ne_f {u w : Int64} {o : Int} (hd : decode bytes pc = .ok (.ifCond .ne o, 3)) (hc : u = w) (hp : pc + 3 = pc') (k : own_W l Z y bytes ml ret R n0 Q h cells slots pc' Ls st) : own_W l Z y bytes ml ret R n0 Q h cells slots pc Ls (.int (XT.cmpL u w) :: st) :=
  own_pure (fun p e below T t m c hA hx hb hr => by subst hp; exact XS.ifNo hA hx rfl (hb ▸ hd) rfl (XT.ll_ne_f hc) hr) k
theorem own_il_ne {u w : Int64} {o : Int} {pf : Nat} (hd : decode bytes pc = .ok (.ifCond .ne o, 3)) (ho : 0 ≤ (pc : Int) + o) (hp : ((pc : Int) + o).toNat = pc') (hq : pc + 3 = pf) (kt : ¬ u = w → own_W l Z y bytes ml ret R n0 Q h cells slots pc' Ls st) (kf : u = w → own_W l Z y bytes ml ret R n0 Q h cells slots pf Ls st) : own_W l Z y bytes ml ret R n0 Q h cells slots pc Ls (.int (XT.cmpL u w) :: st) := by
  by_cases hc : ¬ u = w
  · exact own_il_ne_t hd hc ho hp (kt hc)
  · exact own_il_ne_f hd (by first | exact hc | exact Decidable.not_not.mp hc) hq (kf (by first | exact hc | exact Decidable.not_not.mp hc))
theorem own_if_lt_t {u : Int32} {o : Int} (hd : decode bytes pc = .ok (.ifCond .lt o, 3)) (hc : u < 0) (ho : 0 ≤ (pc : Int) + o) (hp : ((pc : Int) + o).toNat = pc') (k : own_W l Z y bytes ml ret R n0 Q h cells slots pc' Ls st) : own_W l Z y bytes ml ret R n0 Q h cells slots pc Ls (.int u :: st) :=
  own_pure (fun p e below T t m c hA hx hb hr => XS.ifYes hA hx rfl rfl (hb ▸ hd) rfl (XT.i0_lt_t hc) ho hp hr) k
theorem own_if_lt_f {u : Int32} {o : Int} (hd : decode bytes pc = .ok (.ifCond .lt o, 3)) (hc : ¬ u < 0) (hp : pc + 3 = pc') (k : own_W l Z y bytes ml ret R n0 Q h cells slots pc' Ls st) : own_W l Z y bytes ml ret R n0 Q h cells slots pc Ls (.int u :: st) :=
  own_pure (fun p e below T t m c hA hx hb hr => by subst hp; exact XS.ifNo hA hx rfl (hb ▸ hd) rfl (XT.i0_lt_f hc) hr) k
theorem own_if_lt {u : Int32} {o : Int} {pf : Nat} (hd : decode bytes pc = .ok (.ifCond .lt o, 3)) (ho : 0 ≤ (pc : Int) + o) (hp : ((pc : Int) + o).toNat = pc') (hq : pc + 3 = pf) (kt : u < 0 → own_W l Z y bytes ml ret R n0 Q h cells slots pc' Ls st) (kf : ¬ u < 0 → own_W l Z y bytes ml ret R n0 Q h cells slots pf Ls st) : own_W l Z y bytes ml ret R n0 Q h cells slots pc Ls (.int u :: st) := by
  by_cases hc : u < 0
  · exact own_if_lt_t hd hc ho hp (kt hc)
  · exact own_if_lt_f hd (by first | exact hc | exact Decidable.not_not.mp hc) hq (kf (by first | exact hc | exact Decidable.not_not.mp hc))
theorem own_ic_lt_t {u w : Int32} {o : Int} (hd : decode bytes pc = .ok (.if_icmp .lt o, 3)) (hc : u < w) (ho : 0 ≤ (pc : Int) + o) (hp : ((pc : Int) + o).toNat = pc') (k : own_W l Z y bytes ml ret R n0 Q h cells slots pc' Ls st) : own_W l Z y bytes ml ret R n0 Q h cells slots pc Ls (.int w :: .int u :: st) :=
  own_pure (fun p e below T t m c hA hx hb hr => XS.icmpYes hA hx rfl rfl (hb ▸ hd) rfl (XT.ii_lt_t hc) ho hp hr) k
theorem own_ic_lt_f {u w : Int32} {o : Int} (hd : decode bytes pc = .ok (.if_icmp .lt o, 3)) (hc : ¬ u < w) (hp : pc + 3 = pc') (k : own_W l Z y bytes ml ret R n0 Q h cells slots pc' Ls st) : own_W l Z y bytes ml ret R n0 Q h cells slots pc Ls (.int w :: .int u :: st) :=
  own_pure (fun p e below T t m c hA hx hb hr => by subst hp; exact XS.icmpNo hA hx rfl (hb ▸ hd) rfl (XT.ii_lt_f hc) hr) k
theorem own_ic_lt {u w : Int32} {o : Int} {pf : Nat} (hd : decode bytes pc = .ok (.if_icmp .lt o, 3)) (ho : 0 ≤ (pc : Int) + o) (hp : ((pc : Int) + o).toNat = pc') (hq : pc + 3 = pf) (kt : u < w → own_W l Z y bytes ml ret R n0 Q h cells slots pc' Ls st) (kf : ¬ u < w → own_W l Z y bytes ml ret R n0 Q h cells slots pf Ls st) : own_W l Z y bytes ml ret R n0 Q h cells slots pc Ls (.int w :: .int u :: st) := by
  by_cases hc : u < w
  · exact own_ic_lt_t hd hc ho hp (kt hc)
  · exact own_ic_lt_f hd (by first | exact hc | exact Decidable.not_not.mp hc) hq (kf (by first | exact hc | exact Decidable.not_not.mp hc))
theorem own_il_lt_t {u w : Int64} {o : Int} (hd : decode bytes pc = .ok (.ifCond .lt o, 3)) (hc : u < w) (ho : 0 ≤ (pc : Int) + o) (hp : ((pc : Int) + o).toNat = pc') (k : own_W l Z y bytes ml ret R n0 Q h cells slots pc' Ls st) : own_W l Z y bytes ml ret R n0 Q h cells slots pc Ls (.int (XT.cmpL u w) :: st) :=
  own_pure (fun p e below T t m c hA hx hb hr => XS.ifYes hA hx rfl rfl (hb ▸ hd) rfl (XT.ll_lt_t hc) ho hp hr) k
theorem own_il_lt_f {u w : Int64} {o : Int} (hd : decode bytes pc = .ok (.ifCond .lt o, 3)) (hc : ¬ u < w) (hp : pc + 3 = pc') (k : own_W l Z y bytes ml ret R n0 Q h cells slots pc' Ls st) : own_W l Z y bytes ml ret R n0 Q h cells slots pc Ls (.int (XT.cmpL u w) :: st) :=
  own_pure (fun p e below T t m c hA hx hb hr => by subst hp; exact XS.ifNo hA hx rfl (hb ▸ hd) rfl (XT.ll_lt_f hc) hr) k
theorem own_il_lt {u w : Int64} {o : Int} {pf : Nat} (hd : decode bytes pc = .ok (.ifCond .lt o, 3)) (ho : 0 ≤ (pc : Int) + o) (hp : ((pc : Int) + o).toNat = pc') (hq : pc + 3 = pf) (kt : u < w → own_W l Z y bytes ml ret R n0 Q h cells slots pc' Ls st) (kf : ¬ u < w → own_W l Z y bytes ml ret R n0 Q h cells slots pf Ls st) : own_W l Z y bytes ml ret R n0 Q h cells slots pc Ls (.int (XT.cmpL u w) :: st) := by
  by_cases hc : u < w
  · exact own_il_lt_t hd hc ho hp (kt hc)
  · exact own_il_lt_f hd (by first | exact hc | exact Decidable.not_not.mp hc) hq (kf (by first | exact hc | exact Decidable.not_not.mp hc))
theorem own_if_ge_t {u : Int32} {o : Int} (hd : decode bytes pc = .ok (.ifCond .ge o, 3)) (hc : ¬ u < 0) (ho : 0 ≤ (pc : Int) + o) (hp : ((pc : Int) + o).toNat = pc') (k : own_W l Z y bytes ml ret R n0 Q h cells slots pc' Ls st) : own_W l Z y bytes ml ret R n0 Q h cells slots pc Ls (.int u :: st) :=
  own_pure (fun p e below T t m c hA hx hb hr => XS.ifYes hA hx rfl rfl (hb ▸ hd) rfl (XT.i0_ge_t hc) ho hp hr) k
theorem own_if_ge_f {u : Int32} {o : Int} (hd : decode bytes pc = .ok (.ifCond .ge o, 3)) (hc : u < 0) (hp : pc + 3 = pc') (k : own_W l Z y bytes ml ret R n0 Q h cells slots pc' Ls st) : own_W l Z y bytes ml ret R n0 Q h cells slots pc Ls (.int u :: st) :=
  own_pure (fun p e below T t m c hA hx hb hr => by subst hp; exact XS.ifNo hA hx rfl (hb ▸ hd) rfl (XT.i0_ge_f hc) hr) k
theorem own_if_ge {u : Int32} {o : Int} {pf : Nat} (hd : decode bytes pc = .ok (.ifCond .ge o, 3)) (ho : 0 ≤ (pc : Int) + o) (hp : ((pc : Int) + o).toNat = pc') (hq : pc + 3 = pf) (kt : ¬ u < 0 → own_W l Z y bytes ml ret R n0 Q h cells slots pc' Ls st) (kf : u < 0 → own_W l Z y bytes ml ret R n0 Q h cells slots pf Ls st) : own_W l Z y bytes ml ret R n0 Q h cells slots pc Ls (.int u :: st) := by
  by_cases hc : ¬ u < 0
  · exact own_if_ge_t hd hc ho hp (kt hc)
  · exact own_if_ge_f hd (by first | exact hc | exact Decidable.not_not.mp hc) hq (kf (by first | exact hc | exact Decidable.not_not.mp hc))
theorem own_ic_ge_t {u w : Int32} {o : Int} (hd : decode bytes pc = .ok (.if_icmp .ge o, 3)) (hc : ¬ u < w) (ho : 0 ≤ (pc : Int) + o) (hp : ((pc : Int) + o).toNat = pc') (k : own_W l Z y bytes ml ret R n0 Q h cells slots pc' Ls st) : own_W l Z y bytes ml ret R n0 Q h cells slots pc Ls (.int w :: .int u :: st) :=
  own_pure (fun p e below T t m c hA hx hb hr => XS.icmpYes hA hx rfl rfl (hb ▸ hd) rfl (XT.ii_ge_t hc) ho hp hr) k
theorem own_ic_ge_f {u w : Int32} {o : Int} (hd : decode bytes pc = .ok (.if_icmp .ge o, 3)) (hc : u < w) (hp : pc + 3 = pc') (k : own_W l Z y bytes ml ret R n0 Q h cells slots pc' Ls st) : own_W l Z y bytes ml ret R n0 Q h cells slots pc Ls (.int w :: .int u :: st) :=
  own_pure (fun p e below T t m c hA hx hb hr => by subst hp; exact XS.icmpNo hA hx rfl (hb ▸ hd) rfl (XT.ii_ge_f hc) hr) k
theorem own_ic_ge {u w : Int32} {o : Int} {pf : Nat} (hd : decode bytes pc = .ok (.if_icmp .ge o, 3)) (ho : 0 ≤ (pc : Int) + o) (hp : ((pc : Int) + o).toNat = pc') (hq : pc + 3 = pf) (kt : ¬ u < w → own_W l Z y bytes ml ret R n0 Q h cells slots pc' Ls st) (kf : u < w → own_W l Z y bytes ml ret R n0 Q h cells slots pf Ls st) : own_W l Z y bytes ml ret R n0 Q h cells slots pc Ls (.int w :: .int u :: st) := by
  by_cases hc : ¬ u < w
  · exact own_ic_ge_t hd hc ho hp (kt hc)
  · exact own_ic_ge_f hd (by first | exact hc | exact Decidable.not_not.mp hc) hq (kf (by first | exact hc | exact Decidable.not_not.mp hc))
theorem own_il_ge_t {u w : Int64} {o : Int} (hd : decode bytes pc = .ok (.ifCond .ge o, 3)) (hc : ¬ u < w) (ho : 0 ≤ (pc : Int) + o) (hp : ((pc : Int) + o).toNat = pc') (k : own_W l Z y bytes ml ret R n0 Q h cells slots pc' Ls st) : own_W l Z y bytes ml ret R n0 Q h cells slots pc Ls (.int (XT.cmpL u w) :: st) :=
  own_pure (fun p e below T t m c hA hx hb hr => XS.ifYes hA hx rfl rfl (hb ▸ hd) rfl (XT.ll_ge_t hc) ho hp hr) k
theorem own_il_ge_f {u w : Int64} {o : Int} (hd : decode bytes pc = .ok (.ifCond .ge o, 3)) (hc : u < w) (hp : pc + 3 = pc') (k : own_W l Z y bytes ml ret R n0 Q h cells slots pc' Ls st) : own_W l Z y bytes ml ret R n0 Q h cells slots pc Ls (.int (XT.cmpL u w) :: st) :=
  own_pure (fun p e below T t m c hA hx hb hr => by subst hp; exact XS.ifNo hA hx rfl (hb ▸ hd) rfl (XT.ll_ge_f hc) hr) k
theorem own_il_ge {u w : Int64} {o : Int} {pf : Nat} (hd : decode bytes pc = .ok (.ifCond .ge o, 3)) (ho : 0 ≤ (pc : Int) + o) (hp : ((pc : Int) + o).toNat = pc') (hq : pc + 3 = pf) (kt : ¬ u < w → own_W l Z y bytes ml ret R n0 Q h cells slots pc' Ls st) (kf : u < w → own_W l Z y bytes ml ret R n0 Q h cells slots pf Ls st) : own_W l Z y bytes ml ret R n0 Q h cells slots pc Ls (.int (XT.cmpL u w) :: st) := by
  by_cases hc : ¬ u < w
  · exact own_il_ge_t hd hc ho hp (kt hc)
  · exact own_il_ge_f hd (by first | exact hc | exact Decidable.not_not.mp hc) hq (kf (by first | exact hc | exact Decidable.not_not.mp hc))
theorem own_if_gt_t {u : Int32} {o : Int} (hd : decode bytes pc = .ok (.ifCond .gt o, 3)) (hc : 0 < u) (ho : 0 ≤ (pc : Int) + o) (hp : ((pc : Int) + o).toNat = pc') (k : own_W l Z y bytes ml ret R n0 Q h cells slots pc' Ls st) : own_W l Z y bytes ml ret R n0 Q h cells slots pc Ls (.int u :: st) :=
  own_pure (fun p e below T t m c hA hx hb hr => XS.ifYes hA hx rfl rfl (hb ▸ hd) rfl (XT.i0_gt_t hc) ho hp hr) k
theorem own_if_gt_f {u : Int32} {o : Int} (hd : decode bytes pc = .ok (.ifCond .gt o, 3)) (hc : ¬ 0 < u) (hp : pc + 3 = pc') (k : own_W l Z y bytes ml ret R n0 Q h cells slots pc' Ls st) : own_W l Z y bytes ml ret R n0 Q h cells slots pc Ls (.int u :: st) :=
  own_pure (fun p e below T t m c hA hx hb hr => by subst hp; exact XS.ifNo hA hx rfl (hb ▸ hd) rfl (XT.i0_gt_f hc) hr) k
theorem own_if_gt {u : Int32} {o : Int} {pf : Nat} (hd : decode bytes pc = .ok (.ifCond .gt o, 3)) (ho : 0 ≤ (pc : Int) + o) (hp : ((pc : Int) + o).toNat = pc') (hq : pc + 3 = pf) (kt : 0 < u → own_W l Z y bytes ml ret R n0 Q h cells slots pc' Ls st) (kf : ¬ 0 < u → own_W l Z y bytes ml ret R n0 Q h cells slots pf Ls st) : own_W l Z y bytes ml ret R n0 Q h cells slots pc Ls (.int u :: st) := by
  by_cases hc : 0 < u
  · exact own_if_gt_t hd hc ho hp (kt hc)
  · exact own_if_gt_f hd (by first | exact hc | exact Decidable.not_not.mp hc) hq (kf (by first | exact hc | exact Decidable.not_not.mp hc))
theorem own_ic_gt_t {u w : Int32} {o : Int} (hd : decode bytes pc = .ok (.if_icmp .gt o, 3)) (hc : w < u) (ho : 0 ≤ (pc : Int) + o) (hp : ((pc : Int) + o).toNat = pc') (k : own_W l Z y bytes ml ret R n0 Q h cells slots pc' Ls st) : own_W l Z y bytes ml ret R n0 Q h cells slots pc Ls (.int w :: .int u :: st) :=
  own_pure (fun p e below T t m c hA hx hb hr => XS.icmpYes hA hx rfl rfl (hb ▸ hd) rfl (XT.ii_gt_t hc) ho hp hr) k
theorem own_ic_gt_f {u w : Int32} {o : Int} (hd : decode bytes pc = .ok (.if_icmp .gt o, 3)) (hc : ¬ w < u) (hp : pc + 3 = pc') (k : own_W l Z y bytes ml ret R n0 Q h cells slots pc' Ls st) : own_W l Z y bytes ml ret R n0 Q h cells slots pc Ls (.int w :: .int u :: st) :=
  own_pure (fun p e below T t m c hA hx hb hr => by subst hp; exact XS.icmpNo hA hx rfl (hb ▸ hd) rfl (XT.ii_gt_f hc) hr) k
theorem own_ic_gt {u w : Int32} {o : Int} {pf : Nat} (hd : decode bytes pc = .ok (.if_icmp .gt o, 3)) (ho : 0 ≤ (pc : Int) + o) (hp : ((pc : Int) + o).toNat = pc') (hq : pc + 3 = pf) (kt : w < u → own_W l Z y bytes ml ret R n0 Q h cells slots pc' Ls st) (kf : ¬ w < u → own_W l Z y bytes ml ret R n0 Q h cells slots pf Ls st) : own_W l Z y bytes ml ret R n0 Q h cells slots pc Ls (.int w :: .int u :: st) := by
  by_cases hc : w < u
  · exact own_ic_gt_t hd hc ho hp (kt hc)
  · exact own_ic_gt_f hd (by first | exact hc | exact Decidable.not_not.mp hc) hq (kf (by first | exact hc | exact Decidable.not_not.mp hc))
theorem own_il_gt_t {u w : Int64} {o : Int} (hd : decode bytes pc = .ok (.ifCond .gt o, 3)) (hc : w < u) (ho : 0 ≤ (pc : Int) + o) (hp : ((pc : Int) + o).toNat = pc') (k : own_W l Z y bytes ml ret R n0 Q h cells slots pc' Ls st) : own_W l Z y bytes ml ret R n0 Q h cells slots pc Ls (.int (XT.cmpL u w) :: st) :=
  own_pure (fun p e below T t m c hA hx hb hr => XS.ifYes hA hx rfl rfl (hb ▸ hd) rfl (XT.ll_gt_t hc) ho hp hr) k
theorem own_il_gt_f {u w : Int64} {o : Int} (hd : decode bytes pc = .ok (.ifCond .gt o, 3)) (hc : ¬ w < u) (hp : pc + 3 = pc') (k : own_W l Z y bytes ml ret R n0 Q h cells slots pc' Ls st) : own_W l Z y bytes ml ret R n0 Q h cells slots pc Ls (.int (XT.cmpL u w) :: st) :=
  own_pure (fun p e below T t m c hA hx hb hr => by subst hp; exact XS.ifNo hA hx rfl (hb ▸ hd) rfl (XT.ll_gt_f hc) hr) k
theorem own_il_gt {u w : Int64} {o : Int} {pf : Nat} (hd : decode bytes pc = .ok (.ifCond .gt o, 3)) (ho : 0 ≤ (pc : Int) + o) (hp : ((pc : Int) + o).toNat = pc') (hq : pc + 3 = pf) (kt : w < u → own_W l Z y bytes ml ret R n0 Q h cells slots pc' Ls st) (kf : ¬ w < u → own_W l Z y bytes ml ret R n0 Q h cells slots pf Ls st) : own_W l Z y bytes ml ret R n0 Q h cells slots pc Ls (.int (XT.cmpL u w) :: st) := by
  by_cases hc : w < u
  · exact own_il_gt_t hd hc ho hp (kt hc)
  · exact own_il_gt_f hd (by first | exact hc | exact Decidable.not_not.mp hc) hq (kf (by first | exact hc | exact Decidable.not_not.mp hc))
theorem own_if_le_t {u : Int32} {o : Int} (hd : decode bytes pc = .ok (.ifCond .le o, 3)) (hc : ¬ 0 < u) (ho : 0 ≤ (pc : Int) + o) (hp : ((pc : Int) + o).toNat = pc') (k : own_W l Z y bytes ml ret R n0 Q h cells slots pc' Ls st) : own_W l Z y bytes ml ret R n0 Q h cells slots pc Ls (.int u :: st) :=
  own_pure (fun p e below T t m c hA hx hb hr => XS.ifYes hA hx rfl rfl (hb ▸ hd) rfl (XT.i0_le_t hc) ho hp hr) k
theorem own_if_le_f {u : Int32} {o : Int} (hd : decode bytes pc = .ok (.ifCond .le o, 3)) (hc : 0 < u) (hp : pc + 3 = pc') (k : own_W l Z y bytes ml ret R n0 Q h cells slots pc' Ls st) : own_W l Z y bytes ml ret R n0 Q h cells slots pc Ls (.int u :: st) :=
  own_pure (fun p e below T t m c hA hx hb hr => by subst hp; exact XS.ifNo hA hx rfl (hb ▸ hd) rfl (XT.i0_le_f hc) hr) k
theorem own_if_le {u : Int32} {o : Int} {pf : Nat} (hd : decode bytes pc = .ok (.ifCond .le o, 3)) (ho : 0 ≤ (pc : Int) + o) (hp : ((pc : Int) + o).toNat = pc') (hq : pc + 3 = pf) (kt : ¬ 0 < u → own_W l Z y bytes ml ret R n0 Q h cells slots pc' Ls st) (kf : 0 < u → own_W l Z y bytes ml ret R n0 Q h cells slots pf Ls st) : own_W l Z y bytes ml ret R n0 Q h cells slots pc Ls (.int u :: st) := by
  by_cases hc : ¬ 0 < u
  · exact own_if_le_t hd hc ho hp (kt hc)
  · exact own_if_le_f hd (by first | exact hc | exact Decidable.not_not.mp hc) hq (kf (by first | exact hc | exact Decidable.not_not.mp hc))
theorem own_ic_le_t {u w : Int32} {o : Int} (hd : decode bytes pc = .ok (.if_icmp .le o, 3)) (hc : ¬ w < u) (ho : 0 ≤ (pc : Int) + o) (hp : ((pc : Int) + o).toNat = pc') (k : own_W l Z y bytes ml ret R n0 Q h cells slots pc' Ls st) : own_W l Z y bytes ml ret R n0 Q h cells slots pc Ls (.int w :: .int u :: st) :=
  own_pure (fun p e below T t m c hA hx hb hr => XS.icmpYes hA hx rfl rfl (hb ▸ hd) rfl (XT.ii_le_t hc) ho hp hr) k
theorem own_ic_le_f {u w : Int32} {o : Int} (hd : decode bytes pc = .ok (.if_icmp .le o, 3)) (hc : w < u) (hp : pc + 3 = pc') (k : own_W l Z y bytes ml ret R n0 Q h cells slots pc' Ls st) : own_W l Z y bytes ml ret R n0 Q h cells slots pc Ls (.int w :: .int u :: st) :=
  own_pure (fun p e below T t m c hA hx hb hr => by subst hp; exact XS.icmpNo hA hx rfl (hb ▸ hd) rfl (XT.ii_le_f hc) hr) k
theorem own_ic_le {u w : Int32} {o : Int} {pf : Nat} (hd : decode bytes pc = .ok (.if_icmp .le o, 3)) (ho : 0 ≤ (pc : Int) + o) (hp : ((pc : Int) + o).toNat = pc') (hq : pc + 3 = pf) (kt : ¬ w < u → own_W l Z y bytes ml ret R n0 Q h cells slots pc' Ls st) (kf : w < u → own_W l Z y bytes ml ret R n0 Q h cells slots pf Ls st) : own_W l Z y bytes ml ret R n0 Q h cells slots pc Ls (.int w :: .int u :: st) := by
  by_cases hc : ¬ w < u
  · exact own_ic_le_t hd hc ho hp (kt hc)
  · exact own_ic_le_f hd (by first | exact hc | exact Decidable.not_not.mp hc) hq (kf (by first | exact hc | exact Decidable.not_not.mp hc))
theorem own_il_le_t {u w : Int64} {o : Int} (hd : decode bytes pc = .ok (.ifCond .le o, 3)) (hc : ¬ w < u) (ho : 0 ≤ (pc : Int) + o) (hp : ((pc : Int) + o).toNat = pc') (k : own_W l Z y bytes ml ret R n0 Q h cells slots pc' Ls st) : own_W l Z y bytes ml ret R n0 Q h cells slots pc Ls (.int (XT.cmpL u w) :: st) :=
  own_pure (fun p e below T t m c hA hx hb hr => XS.ifYes hA hx rfl rfl (hb ▸ hd) rfl (XT.ll_le_t hc) ho hp hr) k
theorem own_il_le_f {u w : Int64} {o : Int} (hd : decode bytes pc = .ok (.ifCond .le o, 3)) (hc : w < u) (hp : pc + 3 = pc') (k : own_W l Z y bytes ml ret R n0 Q h cells slots pc' Ls st) : own_W l Z y bytes ml ret R n0 Q h cells slots pc Ls (.int (XT.cmpL u w) :: st) :=
  own_pure (fun p e below T t m c hA hx hb hr => by subst hp; exact XS.ifNo hA hx rfl (hb ▸ hd) rfl (XT.ll_le_f hc) hr) k
theorem own_il_le {u w : Int64} {o : Int} {pf : Nat} (hd : decode bytes pc = .ok (.ifCond .le o, 3)) (ho : 0 ≤ (pc : Int) + o) (hp : ((pc : Int) + o).toNat = pc') (hq : pc + 3 = pf) (kt : ¬ w < u → own_W l Z y bytes ml ret R n0 Q h cells slots pc' Ls st) (kf : w < u → own_W l Z y bytes ml ret R n0 Q h cells slots pf Ls st) : own_W l Z y bytes ml ret R n0 Q h cells slots pc Ls (.int (XT.cmpL u w) :: st) := by
  by_cases hc : ¬ w < u
  · exact own_il_le_t hd hc ho hp (kt hc)
  · exact own_il_le_f hd (by first | exact hc | exact Decidable.not_not.mp hc) hq (kf (by first | exact hc | exact Decidable.not_not.mp hc))
theorem own_ifnull_f {u : Addr} {o : Int} (hd : decode bytes pc = .ok (.ifnull o, 3)) (hp : pc + 3 = pc') (k : own_W l Z y bytes ml ret R n0 Q h cells slots pc' Ls st) : own_W l Z y bytes ml ret R n0 Q h cells slots pc Ls (.ref u :: st) :=
  own_pure (fun p e below T t m c hA hx hb hr => by subst hp; exact XS.ifnullNo hA hx rfl (hb ▸ hd) rfl hr) k
theorem own_ifnonnull_t {u : Addr} {o : Int} (hd : decode bytes pc = .ok (.ifnonnull o, 3)) (ho : 0 ≤ (pc : Int) + o) (hp : ((pc : Int) + o).toNat = pc') (k : own_W l Z y bytes ml ret R n0 Q h cells slots pc' Ls st) : own_W l Z y bytes ml ret R n0 Q h cells slots pc Ls (.ref u :: st) :=
  own_pure (fun p e below T t m c hA hx hb hr => XT.ifnonnullYes hA hx rfl rfl (hb ▸ hd) rfl ho hp hr) k
theorem own_ldcI {idx : Nat} {u : Int32} (w : (Jvm.Cond.constant y.cls idx u).before a0 Z = true) (hd : decode bytes pc = .ok (.ldc idx, 2)) (hp : pc + 2 = pc') (k : own_W l Z y bytes ml ret R n0 Q h cells slots pc' Ls (.int u :: st)) : own_W l Z y bytes ml ret R n0 Q h cells slots pc Ls st := by
  intro p e s m args below meth c T locs hx hZ hown hby hml hret hlk hnm hce hsl X eT N
  subst hp
  obtain ⟨s₂, o, h1, h2⟩ := k p e s m args below meth c T locs hx hZ hown hby hml hret hlk hnm hce hsl X eT N
  exact ⟨s₂, o, X.ldcInt hx hown (mvT hZ w) (g := mkF m pc Ls st) rfl (hb hby hd) _ h1, h2⟩
theorem own_ldcWI {idx : Nat} {u : Int32} (w : (Jvm.Cond.constant y.cls idx u).before a0 Z = true) (hd : decode bytes pc = .ok (.ldc_w idx, 3)) (hp : pc + 3 = pc') (k : own_W l Z y bytes ml ret R n0 Q h cells slots pc' Ls (.int u :: st)) : own_W l Z y bytes ml ret R n0 Q h cells slots pc Ls st := by
  intro p e s m args below meth c T locs hx hZ hown hby hml hret hlk hnm hce hsl X eT N
  subst hp
  obtain ⟨s₂, o, h1, h2⟩ := k p e s m args below meth c T locs hx hZ hown hby hml hret hlk hnm hce hsl X eT N
  exact ⟨s₂, o, X.ldcWInt hx hown (mvT hZ w) (g := mkF m pc Ls st) rfl (hb hby hd) _ h1, h2⟩
theorem own_ldc2 {idx : Nat} {u : Int64} (w : (Jvm.Cond.constantLong y.cls idx u).before a0 Z = true) (hd : decode bytes pc = .ok (.ldc2_w idx, 3)) (hp : pc + 3 = pc') (k : own_W l Z y bytes ml ret R n0 Q h cells slots pc' Ls (.long u :: st)) : own_W l Z y bytes ml ret R n0 Q h cells slots pc Ls st := by
  intro p e s m args below meth c T locs hx hZ hown hby hml hret hlk hnm hce hsl X eT N
  subst hp
  obtain ⟨s₂, o, h1, h2⟩ := k p e s m args below meth c T locs hx hZ hown hby hml hret hlk hnm hce hsl X eT N
  exact ⟨s₂, o, X.ldc2Long hx hown (mvT hZ w) (g := mkF m pc Ls st) rfl (hb hby hd) _ h1, h2⟩
theorem own_iret {u : Int32} (hr0 : ret = some .int) (hd : decode bytes pc = .ok (.ireturn, 1)) (hq : Q (some (.int u)) h) : own_W l Z y bytes ml ret R n0 Q h cells slots pc Ls (.int u :: st) := by
  intro p e s m args below meth c T locs hx hZ hown hby hml hret hlk hnm hce hsl X eT N
  subst hr0
  obtain ⟨fs, hr, hrun, hended, hW, hsame⟩ := X.leave (v := some (.int u)) (fun h => by rw [hret] at h; cases h) hlk
  refine ⟨_, _, ?_, hrun, hended, _, _, rfl, ⟨?_, N⟩, ⟨_, rfl⟩, hW, hsame.mono hce hsl⟩
  · exact retOut X hx hret rfl (Or.inl ⟨rfl, Or.inl rfl, _, rfl⟩) (hb hby hd) hr
  · rw [show (T.setFrames fs).heap = h from eT]; exact hq
theorem own_zret {u : Int32} {t : FieldType} (hr0 : ret = some t) (ht : t = .boolean ∨ t = .byte ∨ t = .char ∨ t = .short) (hd : decode bytes pc = .ok (.ireturn, 1)) (hq : Q (some (.int (nar t u))) h) : own_W l Z y bytes ml ret R n0 Q h cells slots pc Ls (.int u :: st) := by
  intro p e s m args below meth c T locs hx hZ hown hby hml hret hlk hnm hce hsl X eT N
  subst hr0
  obtain ⟨fs, hr, hrun, hended, hW, hsame⟩ := X.leave (v := some (.int (nar t u))) (fun h => by rw [hret] at h; cases h) hlk
  refine ⟨_, _, ?_, hrun, hended, _, _, rfl, ⟨?_, N⟩, ⟨_, rfl⟩, hW, hsame.mono hce hsl⟩
  · exact retN X hx hret ht (hb hby hd) hr
  · rw [show (T.setFrames fs).heap = h from eT]; exact hq
theorem own_bret {u v : Int32} (hr0 : ret = some .boolean) (hv : u &&& 1 = v) (hd : decode bytes pc = .ok (.ireturn, 1)) (hq : Q (some (.int v)) h) : own_W l Z y bytes ml ret R n0 Q h cells slots pc Ls (.int u :: st) :=
  own_zret hr0 (Or.inl rfl) hd (by subst hv; exact hq)
theorem own_lret {u : Int64} (hr0 : ret = some .long) (hd : decode bytes pc = .ok (.lreturn, 1)) (hq : Q (some (.long u)) h) : own_W l Z y bytes ml ret R n0 Q h cells slots pc Ls (.long u :: st) := by
  intro p e s m args below meth c T locs hx hZ hown hby hml hret hlk hnm hce hsl X eT N
  subst hr0
  obtain ⟨fs, hr, hrun, hended, hW, hsame⟩ := X.leave (v := some (.long u)) (fun h => by rw [hret] at h; cases h) hlk
  refine ⟨_, _, ?_, hrun, hended, _, _, rfl, ⟨?_, N⟩, ⟨_, rfl⟩, hW, hsame.mono hce hsl⟩
  · exact retOut X hx hret rfl (Or.inr (Or.inl ⟨rfl, rfl, _, rfl⟩)) (hb hby hd) hr
  · rw [show (T.setFrames fs).heap = h from eT]; exact hq
theorem own_aret {u : Addr} {t : FieldType} (hr0 : ret = some t) (ht : t.isReference = true) (hn : narrow t (.ref u) = .ref u) (hd : decode bytes pc = .ok (.areturn, 1)) (hq : Q (some (.ref u)) h) : own_W l Z y bytes ml ret R n0 Q h cells slots pc Ls (.ref u :: st) := by
  intro p e s m args below meth c T locs hx hZ hown hby hml hret hlk hnm hce hsl X eT N
  subst hr0
  obtain ⟨fs, hr, hrun, hended, hW, hsame⟩ := X.leave (v := some (.ref u)) (fun h => by rw [hret] at h; cases h) hlk
  refine ⟨_, _, ?_, hrun, hended, _, _, rfl, ⟨?_, N⟩, ⟨_, rfl⟩, hW, hsame.mono hce hsl⟩
  · exact retOut X hx hret hn (Or.inr (Or.inr (Or.inr (Or.inr ⟨rfl, ht, rfl⟩)))) (hb hby hd) hr
  · rw [show (T.setFrames fs).heap = h from eT]; exact hq
theorem own_ret (hr0 : ret = none) (hd : decode bytes pc = .ok (.return_, 1)) (hq : Q none h) : own_W l Z y bytes ml ret R n0 Q h cells slots pc Ls [] := by
  intro p e s m args below meth c T locs hx hZ hown hby hml hret hlk hnm hce hsl X eT N
  subst hr0
  obtain ⟨fs, hr, hrun, hended, hW, hsame⟩ := X.leave (v := none) (fun _ => rfl) hlk
  refine ⟨_, _, ?_, hrun, hended, _, _, rfl, ⟨?_, N⟩, ⟨_, rfl⟩, hW, hsame.mono hce hsl⟩
  · exact X.returnOut hx hret (hb hby hd) hr
  · rw [show (T.setFrames fs).heap = h from eT]; exact hq
theorem own_getF {O n d : String} {idx : Nat} {a : Addr} {v : Value} (w : (Jvm.Cond.fieldLink y.cls idx O n d).before a0 Z = true) (F : Fld Z h a O n d v) (hd : decode bytes pc = .ok (.getfield idx, 3)) (hp : pc + 3 = pc') (k : own_W l Z y bytes ml ret R n0 Q h cells slots pc' Ls (v :: st)) : own_W l Z y bytes ml ret R n0 Q h cells slots pc Ls (.ref a :: st) := by
  intro p e s m args below meth c T locs hx hZ hown hby hml hret hlk hnm hce hsl X eT N
  subst hp
  obtain ⟨T', X', e', st'⟩ := getF X hx hZ hown (host := "") (Or.inl w) Via.refl eT F (g := mkF m pc Ls (.ref a :: st)) rfl rfl (hb hby hd)
  obtain ⟨s₂, o, h1, h2⟩ := k p e s m args below meth c T' locs hx hZ hown hby hml hret hlk hnm hce hsl X' e' N
  exact ⟨s₂, o, st' _ h1, h2⟩
theorem own_putF {O n d C : String} {idx kk : Nat} {a : Addr} {v old : Value} {ty : FieldType} (w : (Jvm.Cond.fieldLink y.cls idx O n d).before a0 Z = true) (F : Fld Z h a O n d old) (E : Exa Z h a C) (L : (Jvm.Cond.lays C O n d).before a0 Z = true ∨ ((Jvm.Cond.laysFinal C O n d).before a0 Z = true ∧ y.cls = O ∧ y.name = "<init>")) (wi : (Jvm.Cond.instantiable C kk).before a0 Z = true)
    (ge : n0 ≤ a) (hty : parseFieldDescriptor d = some ty) (hn : narrow ty v = v) (hf : fits ty v = true) (hd : decode bytes pc = .ok (.putfield idx, 3)) (hp : pc + 3 = pc')
    (k : ∀ h', Wr h h' a (Jvm.RoadKit.slotOf Z O n d) v → Keep h h' [a] → own_W l Z y bytes ml ret R n0 Q h' cells slots pc' Ls st) : own_W l Z y bytes ml ret R n0 Q h cells slots pc Ls (v :: .ref a :: st) := by
  intro p e s m args below meth c T locs hx hZ hown hby hml hret hlk hnm hce hsl X eT N
  subst hp
  obtain ⟨T', h', X', e', W', st'⟩ := putF X hx hZ hown (host := "") (Or.inl w) Via.refl eT F E (L.imp id fun q => ⟨q.1, q.2.1, hnm.trans q.2.2⟩) wi hty hn hf (g := mkF m pc Ls (v :: .ref a :: st)) rfl rfl (hb hby hd)
  obtain ⟨s₂, o, h1, h2⟩ := k h' W' (Keep.of_wr W') p e s m args below meth c T' _ hx hZ hown hby hml hret hlk hnm hce hsl X' e' (Fr.snoc X' N ge)
  exact ⟨s₂, o, st' _ h1, h2⟩
theorem own_new {C : String} {idx n : Nat} (w : (Jvm.Cond.classLink y.cls idx C).before a0 Z = true) (wi : (Jvm.Cond.instantiable C n).before a0 Z = true) (wz : (Jvm.Cond.initialized C).before a0 Z = true) (hd : decode bytes pc = .ok (.new idx, 3)) (hp : pc + 3 = pc') (hc : cells + 1 ≤ R.cells) (hl : slots + n ≤ R.slots)
    (k : ∀ (h' : Heap) (a : Addr), h.size ≤ a → a < h'.size → Ext h h' → Exa Z h' a C → (∀ {O nm d : String} {ty : FieldType}, Laid Z a0 C O nm d → parseFieldDescriptor d = some ty → Fld Z h' a O nm d (defaultValue ty)) → own_W l Z y bytes ml ret R n0 Q h' (cells + 1) (slots + n) pc' Ls (.ref a :: st)) : own_W l Z y bytes ml ret R n0 Q h cells slots pc Ls st := by
  intro p e s m args below meth c T locs hx hZ hown hby hml hret hlk hnm hce hsl X eT N
  subst hp
  obtain ⟨T', h', X', e', E', A', D', -, st'⟩ := newO X hx hZ hown w wi wz eT (g := mkF m pc Ls st) rfl (hb hby hd) hc hl
  obtain ⟨s₂, o, h1, h2⟩ := k h' h.size (Nat.le_refl _) A'.lt E' A' D' p e s m args below meth c T' _ hx hZ hown hby hml hret hlk hnm hc hl X' e' N
  exact ⟨s₂, o, st' _ h1, h2⟩
theorem own_initO {idx W : Nat} {a : Addr} (w1 : (Jvm.Cond.methodLink y.cls idx Lib.objectInit).before a0 Z = true) (w2 : (Jvm.Cond.instanceMethod Lib.objectInit).before a0 Z = true) (w3 : (Jvm.Cond.code Lib.objectInit ⟨#[0xb1]⟩ 1 none).before a0 Z = true) (hd : decode bytes pc = .ok (.invokespecial idx, 3)) (hp : pc + 3 = pc')
    (hsz : Ls.size = ml) (hf : 1 ≤ R.frames) (hW : (st.map fun v => v.category).sum ≤ W) (hl : W + 12 ≤ R.locals) (k : own_W l Z y bytes ml ret R n0 Q h cells slots pc' Ls st) : own_W l Z y bytes ml ret R n0 Q h cells slots pc Ls (.ref a :: st) := by
  intro p e s m args below meth c T locs hx hZ hown hby hml hret hlk hnm hce hsl X eT N
  subst hp
  obtain ⟨T', X', e', st'⟩ := initO X hx hZ hown w1 w2 w3 eT (g := mkF m pc Ls (.ref a :: st)) rfl (by rw [hml]; exact hsz) rfl (hb hby hd) hf (W := W) (by show 2 * 0 + _ ≤ _; omega) hl
  obtain ⟨s₂, o, h1, h2⟩ := k p e s m args below meth c T' locs hx hZ hown hby hml hret hlk hnm hce hsl X' e' N
  exact ⟨s₂, o, st' _ h1, h2⟩
/-- an array of this component type with just these components -/
def own_A (Z : State) (h : Heap) (a : Addr) (ty : FieldType) (vs : List Value) : Prop := ∃ c : Cell, Arr Z h a c ty ∧ c.slots.toList = vs ∧ vs.length < 2 ^ 31 ∧ ∀ v ∈ vs, fits ty v = true
theorem own_A.lt {a : Addr} {ty : FieldType} {vs : List Value} (A : own_A Z h a ty vs) : a < h.size := by obtain ⟨c, A, -⟩ := A; exact A.lt
theorem own_A.ext {h' : Heap} {a : Addr} {ty : FieldType} {vs : List Value} (A : own_A Z h a ty vs) (E : Ext h h') : own_A Z h' a ty vs := by obtain ⟨c, A, r⟩ := A; exact ⟨c, A.ext E, r⟩
theorem own_A.keep {h' : Heap} {a : Addr} {ty : FieldType} {vs : List Value} {ws : List Addr} (A : own_A Z h a ty vs) (K : Keep h h' ws) (q : a ∉ ws) : own_A Z h' a ty vs := by obtain ⟨c, A, r⟩ := A; exact ⟨c, ⟨K.2.1 a c A.1 q, A.2⟩, r⟩
theorem own_A.cast {a : Addr} {ty : FieldType} {vs vs' : List Value} (A : own_A Z h a ty vs) (q : vs = vs') : own_A Z h a ty vs' := q ▸ A
theorem own_size {c : Cell} {vs : List Value} (q : c.slots.toList = vs) : c.slots.size = vs.length := by rw [← q]; simp
theorem own_in {c : Cell} {vs : List Value} {j : Int32} (q : c.slots.toList = vs) (h0 : ¬ j < 0) (h1 : j.toNatClampNeg < vs.length) : ¬ (j < 0 ∨ c.slots.size ≤ j.toNatClampNeg) := by rw [own_size q]; rintro (u | u); exact h0 u; omega
theorem own_get {c : Cell} {vs : List Value} {j : Nat} {v : Value} (q : c.slots.toList = vs) (h1 : vs[j]? = some v) : c.slots[j]? = some v := by rw [← Array.getElem?_toList, q]; exact h1
theorem own_A.set {h' : Heap} {a : Addr} {ty : FieldType} {vs : List Value} {j : Nat} {v : Value} {c : Cell} (A : Arr Z h a c ty) (q : c.slots.toList = vs) (hl : vs.length < 2 ^ 31) (hft : ∀ v ∈ vs, fits ty v = true) (hv : fits ty v = true) (W : Wr h h' a j v) : own_A Z h' a ty (vs.set j v) := by
  refine ⟨_, A.same W, ?_, by simpa using hl, fun w hw => (List.mem_or_eq_of_mem_set hw).elim (hft w) fun e => e ▸ hv⟩
  rw [← q]; simp [Cell.setSlot]
theorem own_fitd (ty : FieldType) : fits ty (defaultValue ty) = true := by cases ty <;> rfl
theorem own_len {a : Addr} {ty : FieldType} {vs : List Value} {n : Int32} (A : own_A Z h a ty vs) (hn : vs.length.toInt32 = n) (hd : decode bytes pc = .ok (.arraylength, 1)) (hp : pc + 1 = pc') (k : own_W l Z y bytes ml ret R n0 Q h cells slots pc' Ls (.int n :: st)) : own_W l Z y bytes ml ret R n0 Q h cells slots pc Ls (.ref a :: st) := by
  intro p e s m args below meth c T locs hx hZ hown hby hml hret hlk hnm hce hsl X eT N
  subst hp hn
  obtain ⟨cl, A, q, hl, hft⟩ := A
  obtain ⟨s₂, o, h1, h2⟩ := k p e s m args below meth c T locs hx hZ hown hby hml hret hlk hnm hce hsl X eT N
  refine ⟨s₂, o, X.arraylength hx (by rw [eT]; exact A.1) (State.isArrayOf_alike hZ.alike A.2.1) (g := mkF m pc Ls (.ref a :: st)) rfl rfl (hb hby hd) _ ?_, h2⟩
  rw [own_size q]; exact h1
theorem own_iaload {a : Addr} {vs : List Value} {j : Int32} {v : Value} (A : own_A Z h a .int vs) (h0 : ¬ j < 0) (hv : vs[j.toNatClampNeg]? = some v) (hd : decode bytes pc = .ok (.iaload, 1)) (hp : pc + 1 = pc') (k : own_W l Z y bytes ml ret R n0 Q h cells slots pc' Ls (v :: st)) : own_W l Z y bytes ml ret R n0 Q h cells slots pc Ls (.int j :: .ref a :: st) := by
  intro p e s m args below meth c T locs hx hZ hown hby hml hret hlk hnm hce hsl X eT N
  subst hp
  obtain ⟨cl, A, q, hl, hft⟩ := A
  obtain ⟨s₂, o, h1, h2⟩ := k p e s m args below meth c T locs hx hZ hown hby hml hret hlk hnm hce hsl X eT N
  exact ⟨s₂, o, X.iaload hx (by rw [eT]; exact A.1) (State.isArrayOf_alike hZ.alike A.2.1) A.2.2 (own_in q h0 (List.getElem?_eq_some_iff.mp hv).1) (own_get q hv) (g := mkF m pc Ls (.int j :: .ref a :: st)) rfl rfl (hb hby hd) _ h1, h2⟩
theorem own_laload {a : Addr} {vs : List Value} {j : Int32} {v : Value} (A : own_A Z h a .long vs) (h0 : ¬ j < 0) (hv : vs[j.toNatClampNeg]? = some v) (hd : decode bytes pc = .ok (.laload, 1)) (hp : pc + 1 = pc') (k : own_W l Z y bytes ml ret R n0 Q h cells slots pc' Ls (v :: st)) : own_W l Z y bytes ml ret R n0 Q h cells slots pc Ls (.int j :: .ref a :: st) := by
  intro p e s m args below meth c T locs hx hZ hown hby hml hret hlk hnm hce hsl X eT N
  subst hp
  obtain ⟨cl, A, q, hl, hft⟩ := A
  obtain ⟨s₂, o, h1, h2⟩ := k p e s m args below meth c T locs hx hZ hown hby hml hret hlk hnm hce hsl X eT N
  exact ⟨s₂, o, X.laload hx (by rw [eT]; exact A.1) (State.isArrayOf_alike hZ.alike A.2.1) A.2.2 (own_in q h0 (List.getElem?_eq_some_iff.mp hv).1) (own_get q hv) (g := mkF m pc Ls (.int j :: .ref a :: st)) rfl rfl (hb hby hd) _ h1, h2⟩
theorem own_caload {a : Addr} {vs : List Value} {j : Int32} {v : Value} (A : own_A Z h a .char vs) (h0 : ¬ j < 0) (hv : vs[j.toNatClampNeg]? = some v) (hd : decode bytes pc = .ok (.caload, 1)) (hp : pc + 1 = pc') (k : own_W l Z y bytes ml ret R n0 Q h cells slots pc' Ls (v :: st)) : own_W l Z y bytes ml ret R n0 Q h cells slots pc Ls (.int j :: .ref a :: st) := by
  intro p e s m args below meth c T locs hx hZ hown hby hml hret hlk hnm hce hsl X eT N
  subst hp
  obtain ⟨cl, A, q, hl, hft⟩ := A
  obtain ⟨s₂, o, h1, h2⟩ := k p e s m args below meth c T locs hx hZ hown hby hml hret hlk hnm hce hsl X eT N
  exact ⟨s₂, o, X.caload hx (by rw [eT]; exact A.1) (State.isArrayOf_alike hZ.alike A.2.1) A.2.2 (own_in q h0 (List.getElem?_eq_some_iff.mp hv).1) (own_get q hv) (g := mkF m pc Ls (.int j :: .ref a :: st)) rfl rfl (hb hby hd) _ h1, h2⟩
theorem own_baload {a : Addr} {vs : List Value} {j : Int32} {v : Value} (A : own_A Z h a .byte vs) (h0 : ¬ j < 0) (hv : vs[j.toNatClampNeg]? = some v) (hd : decode bytes pc = .ok (.baload, 1)) (hp : pc + 1 = pc') (k : own_W l Z y bytes ml ret R n0 Q h cells slots pc' Ls (v :: st)) : own_W l Z y bytes ml ret R n0 Q h cells slots pc Ls (.int j :: .ref a :: st) := by
  intro p e s m args below meth c T locs hx hZ hown hby hml hret hlk hnm hce hsl X eT N
  subst hp
  obtain ⟨cl, A, q, hl, hft⟩ := A
  obtain ⟨s₂, o, h1, h2⟩ := k p e s m args below meth c T locs hx hZ hown hby hml hret hlk hnm hce hsl X eT N
  exact ⟨s₂, o, X.baloadBytes hx (by rw [eT]; exact A.1) (State.isArrayOf_alike hZ.alike A.2.1) A.2.2 (own_in q h0 (List.getElem?_eq_some_iff.mp hv).1) (own_get q hv) (g := mkF m pc Ls (.int j :: .ref a :: st)) rfl rfl (hb hby hd) _ h1, h2⟩
theorem own_zaload {a : Addr} {vs : List Value} {j : Int32} {v : Value} (A : own_A Z h a .boolean vs) (h0 : ¬ j < 0) (hv : vs[j.toNatClampNeg]? = some v) (hd : decode bytes pc = .ok (.baload, 1)) (hp : pc + 1 = pc') (k : own_W l Z y bytes ml ret R n0 Q h cells slots pc' Ls (v :: st)) : own_W l Z y bytes ml ret R n0 Q h cells slots pc Ls (.int j :: .ref a :: st) := by
  intro p e s m args below meth c T locs hx hZ hown hby hml hret hlk hnm hce hsl X eT N
  subst hp
  obtain ⟨cl, A, q, hl, hft⟩ := A
  obtain ⟨s₂, o, h1, h2⟩ := k p e s m args below meth c T locs hx hZ hown hby hml hret hlk hnm hce hsl X eT N
  exact ⟨s₂, o, X.baloadBooleans hx (by rw [eT]; exact A.1) (State.isArrayOf_alike hZ.alike A.2.1) A.2.2 (own_in q h0 (List.getElem?_eq_some_iff.mp hv).1) (own_get q hv) (g := mkF m pc Ls (.int j :: .ref a :: st)) rfl rfl (hb hby hd) _ h1, h2⟩
theorem own_iastore {a : Addr} {vs : List Value} {j : Int32} {u : Int32} (A : own_A Z h a .int vs) (h0 : ¬ j < 0) (h1 : j.toNatClampNeg < vs.length) (ge : n0 ≤ a) (hd : decode bytes pc = .ok (.iastore, 1)) (hp : pc + 1 = pc') (k : ∀ h', Keep h h' [a] → own_A Z h' a .int (vs.set j.toNatClampNeg (.int u)) → own_W l Z y bytes ml ret R n0 Q h' cells slots pc' Ls st) : own_W l Z y bytes ml ret R n0 Q h cells slots pc Ls (.int u :: .int j :: .ref a :: st) := by
  intro p e s m args below meth c T locs hx hZ hown hby hml hret hlk hnm hce hsl X eT N
  subst hp
  obtain ⟨cl, A, q, hl, hft⟩ := A
  obtain ⟨T', h', X', e', W', st'⟩ := stI X hx hZ eT A (own_in q h0 h1) (g := mkF m pc Ls (.int u :: .int j :: .ref a :: st)) rfl rfl (hb hby hd)
  obtain ⟨s₂, o, h1, h2⟩ := k h' (Keep.of_wr W') (own_A.set A q hl hft rfl W') p e s m args below meth c T' _ hx hZ hown hby hml hret hlk hnm hce hsl X' e' (Fr.snoc X' N ge)
  exact ⟨s₂, o, st' _ h1, h2⟩
theorem own_lastore {a : Addr} {vs : List Value} {j : Int32} {u : Int64} (A : own_A Z h a .long vs) (h0 : ¬ j < 0) (h1 : j.toNatClampNeg < vs.length) (ge : n0 ≤ a) (hd : decode bytes pc = .ok (.lastore, 1)) (hp : pc + 1 = pc') (k : ∀ h', Keep h h' [a] → own_A Z h' a .long (vs.set j.toNatClampNeg (.long u)) → own_W l Z y bytes ml ret R n0 Q h' cells slots pc' Ls st) : own_W l Z y bytes ml ret R n0 Q h cells slots pc Ls (.long u :: .int j :: .ref a :: st) := by
  intro p e s m args below meth c T locs hx hZ hown hby hml hret hlk hnm hce hsl X eT N
  subst hp
  obtain ⟨cl, A, q, hl, hft⟩ := A
  obtain ⟨T', h', X', e', W', st'⟩ := stJ X hx hZ eT A (own_in q h0 h1) (g := mkF m pc Ls (.long u :: .int j :: .ref a :: st)) rfl rfl (hb hby hd)
  obtain ⟨s₂, o, h1, h2⟩ := k h' (Keep.of_wr W') (own_A.set A q hl hft rfl W') p e s m args below meth c T' _ hx hZ hown hby hml hret hlk hnm hce hsl X' e' (Fr.snoc X' N ge)
  exact ⟨s₂, o, st' _ h1, h2⟩
theorem own_castore {a : Addr} {vs : List Value} {j : Int32} {u : Int32} (A : own_A Z h a .char vs) (h0 : ¬ j < 0) (h1 : j.toNatClampNeg < vs.length) (ge : n0 ≤ a) (hd : decode bytes pc = .ok (.castore, 1)) (hp : pc + 1 = pc') (k : ∀ h', Keep h h' [a] → own_A Z h' a .char (vs.set j.toNatClampNeg (.int (nar .char u))) → own_W l Z y bytes ml ret R n0 Q h' cells slots pc' Ls st) : own_W l Z y bytes ml ret R n0 Q h cells slots pc Ls (.int u :: .int j :: .ref a :: st) := by
  intro p e s m args below meth c T locs hx hZ hown hby hml hret hlk hnm hce hsl X eT N
  subst hp
  obtain ⟨cl, A, q, hl, hft⟩ := A
  obtain ⟨T', h', X', e', W', st'⟩ := stC X hx hZ eT A (own_in q h0 h1) (g := mkF m pc Ls (.int u :: .int j :: .ref a :: st)) rfl rfl (hb hby hd)
  obtain ⟨s₂, o, h1, h2⟩ := k h' (Keep.of_wr W') (own_A.set A q hl hft (fits_nar_char u) W') p e s m args below meth c T' _ hx hZ hown hby hml hret hlk hnm hce hsl X' e' (Fr.snoc X' N ge)
  exact ⟨s₂, o, st' _ h1, h2⟩
theorem own_bastore {a : Addr} {vs : List Value} {j : Int32} {u : Int32} (A : own_A Z h a .byte vs) (h0 : ¬ j < 0) (h1 : j.toNatClampNeg < vs.length) (ge : n0 ≤ a) (hd : decode bytes pc = .ok (.bastore, 1)) (hp : pc + 1 = pc') (k : ∀ h', Keep h h' [a] → own_A Z h' a .byte (vs.set j.toNatClampNeg (.int (nar .byte u))) → own_W l Z y bytes ml ret R n0 Q h' cells slots pc' Ls st) : own_W l Z y bytes ml ret R n0 Q h cells slots pc Ls (.int u :: .int j :: .ref a :: st) := by
  intro p e s m args below meth c T locs hx hZ hown hby hml hret hlk hnm hce hsl X eT N
  subst hp
  obtain ⟨cl, A, q, hl, hft⟩ := A
  obtain ⟨T', h', X', e', W', st'⟩ := stB X hx hZ eT A (own_in q h0 h1) (g := mkF m pc Ls (.int u :: .int j :: .ref a :: st)) rfl rfl (hb hby hd)
  obtain ⟨s₂, o, h1, h2⟩ := k h' (Keep.of_wr W') (own_A.set A q hl hft (fits_nar_byte u) W') p e s m args below meth c T' _ hx hZ hown hby hml hret hlk hnm hce hsl X' e' (Fr.snoc X' N ge)
  exact ⟨s₂, o, st' _ h1, h2⟩
theorem own_zastore {a : Addr} {vs : List Value} {j : Int32} {u : Int32} (A : own_A Z h a .boolean vs) (h0 : ¬ j < 0) (h1 : j.toNatClampNeg < vs.length) (ge : n0 ≤ a) (hd : decode bytes pc = .ok (.bastore, 1)) (hp : pc + 1 = pc') (k : ∀ h', Keep h h' [a] → own_A Z h' a .boolean (vs.set j.toNatClampNeg (.int (nar .boolean u))) → own_W l Z y bytes ml ret R n0 Q h' cells slots pc' Ls st) : own_W l Z y bytes ml ret R n0 Q h cells slots pc Ls (.int u :: .int j :: .ref a :: st) := by
  intro p e s m args below meth c T locs hx hZ hown hby hml hret hlk hnm hce hsl X eT N
  subst hp
  obtain ⟨cl, A, q, hl, hft⟩ := A
  obtain ⟨T', h', X', e', W', st'⟩ := stZ X hx hZ eT A (own_in q h0 h1) (g := mkF m pc Ls (.int u :: .int j :: .ref a :: st)) rfl rfl (hb hby hd)
  obtain ⟨s₂, o, h1, h2⟩ := k h' (Keep.of_wr W') (own_A.set A q hl hft (fits_nar_bool u) W') p e s m args below meth c T' _ hx hZ hown hby hml hret hlk hnm hce hsl X' e' (Fr.snoc X' N ge)
  exact ⟨s₂, o, st' _ h1, h2⟩
theorem own_newarrE {aty : ArrayType} {ty : FieldType} {n : Int32} {cap : Nat} (w : (Jvm.Cond.arrayClass ty).before a0 Z = true) (ht : newarray.typeOf aty = ty) (hd : decode bytes pc = .ok (.newarray aty, 2)) (hp : pc + 2 = pc') (hn : ¬ n < 0) (hcap : n.toNatClampNeg ≤ cap) (hb8 : cap * 8 ≤ 536870912) (hc : cells + 1 ≤ R.cells) (hl : slots + cap ≤ R.slots)
    (k : ∀ (h' : Heap) (a : Addr), h.size ≤ a → a < h'.size → Ext h h' → own_A Z h' a ty (List.replicate n.toNatClampNeg (defaultValue ty)) → Exa Z h' a ("[" ++ ty.toString) → own_W l Z y bytes ml ret R n0 Q h' (cells + 1) (slots + cap) pc' Ls (.ref a :: st)) : own_W l Z y bytes ml ret R n0 Q h cells slots pc Ls (.int n :: st) := by
  intro p e s m args below meth c T locs hx hZ hown hby hml hret hlk hnm hce hsl X eT N
  subst hp ht
  have hcb : componentBytes (newarray.typeOf aty) ≤ 8 := by cases aty <;> decide
  obtain ⟨cA, kA, comp, g1, g2, g3, X', st'⟩ := X.newarrayPrim hx (mvA hZ w) (g := mkF m pc Ls (.int n :: st)) rfl (hb hby hd) rfl hn (Nat.le_trans (Nat.mul_le_mul hcap hcb) hb8) hc (by omega)
  rw [hZ.alike.findClass] at g1
  obtain ⟨kZ, z1, -⟩ := Vm.findClass_spec g1
  obtain ⟨k', z2, z3⟩ := hZ.alike.2.2 _ _ z1
  cases g2.symm.trans z2
  have kk : kZ.kind = .array comp (newarray.typeOf aty) := by rw [← g3, z3]
  have hN : (T.heap.push ({ cls := cA, slots := Array.replicate n.toNatClampNeg (defaultValue (newarray.typeOf aty)), vm := .none } : Cell))[T.heap.size]? = some { cls := cA, slots := Array.replicate n.toNatClampNeg (defaultValue (newarray.typeOf aty)), vm := .none } := by simp
  have E' : Ext h (T.heap.push ({ cls := cA, slots := Array.replicate n.toNatClampNeg (defaultValue (newarray.typeOf aty)), vm := .none } : Cell)) := by
    subst eT
    refine ⟨by simp, fun b cc hb' => ?_⟩
    rw [Array.getElem?_push_lt (Array.getElem?_eq_some_iff.mp hb').1]; exact (Array.getElem?_eq_getElem _).symm.trans hb'
  have A' : own_A Z (T.heap.push ({ cls := cA, slots := Array.replicate n.toNatClampNeg (defaultValue (newarray.typeOf aty)), vm := .none } : Cell)) T.heap.size (newarray.typeOf aty) (List.replicate n.toNatClampNeg (defaultValue (newarray.typeOf aty))) :=
    ⟨_, ⟨hN, ⟨by simp, kZ, z1, comp, kk⟩, by simp⟩, by simp, by simp only [List.length_replicate]; exact (back32 hn).2, fun v hv => by rw [(List.mem_replicate.mp hv).2]; exact own_fitd _⟩
  have X2 := X'.more (Nat.le_refl _) (Nat.add_le_add_left hcap slots)
  obtain ⟨s₂, o, h1, h2⟩ := k _ T.heap.size (by rw [eT]; exact Nat.le_refl _) A'.lt E' A' ⟨_, kZ, hN, g1, z1, rfl, fun q => by rw [kk] at q; cases q⟩ p e s m args below meth c _ _ hx hZ hown hby hml hret hlk hnm hc hl X2 rfl N
  exact ⟨s₂, o, st' _ h1, h2⟩
theorem own_newarr {aty : ArrayType} {ty : FieldType} {n : Int32} {cap : Nat} (w : (Jvm.Cond.arrayClass ty).before a0 Z = true) (ht : newarray.typeOf aty = ty) (hd : decode bytes pc = .ok (.newarray aty, 2)) (hp : pc + 2 = pc') (hn : ¬ n < 0) (hcap : n.toNatClampNeg ≤ cap) (hb8 : cap * 8 ≤ 536870912) (hc : cells + 1 ≤ R.cells) (hl : slots + cap ≤ R.slots)
    (k : ∀ (h' : Heap) (a : Addr), h.size ≤ a → a < h'.size → Ext h h' → own_A Z h' a ty (List.replicate n.toNatClampNeg (defaultValue ty)) → own_W l Z y bytes ml ret R n0 Q h' (cells + 1) (slots + cap) pc' Ls (.ref a :: st)) : own_W l Z y bytes ml ret R n0 Q h cells slots pc Ls (.int n :: st) :=
  own_newarrE w ht hd hp hn hcap hb8 hc hl fun h' a q1 q2 q3 q4 _ => k h' a q1 q2 q3 q4
theorem own_cast {idx : Nat} {K : String} {a : Addr} (w : (Jvm.Cond.classLink y.cls idx K).before a0 Z = true) (F : Ins Z h a K true) (hd : decode bytes pc = .ok (.checkcast idx, 3)) (hp : pc + 3 = pc') (k : own_W l Z y bytes ml ret R n0 Q h cells slots pc' Ls (.ref a :: st)) : own_W l Z y bytes ml ret R n0 Q h cells slots pc Ls (.ref a :: st) := by
  intro p e s m args below meth c T locs hx hZ hown hby hml hret hlk hnm hce hsl X eT N
  subst hp
  obtain ⟨T', X', e', st'⟩ := castY X hx hZ hown w eT F (g := mkF m pc Ls (.ref a :: st)) rfl rfl (hb hby hd)
  obtain ⟨s₂, o, h1, h2⟩ := k p e s m args below meth c T' locs hx hZ hown hby hml hret hlk hnm hce hsl X' e' N
  exact ⟨s₂, o, st' _ h1, h2⟩
theorem own_clone {ad : String} {idx W cap : Nat} {a : Addr} {ty : FieldType} {vs : List Value} (w1 : (Jvm.Cond.methodLink y.cls idx ⟨ad, "clone", "()Ljava/lang/Object;"⟩).before a0 Z = true) (w2 : (Jvm.Cond.sameMethod ad "java/lang/Object" "clone" "()Ljava/lang/Object;").before a0 Z = true) (w3 : (Jvm.Cond.native ⟨"java/lang/Object", "clone", "()Ljava/lang/Object;"⟩).before a0 Z = true)
    (w4 : (Jvm.Cond.instanceMethod ⟨"java/lang/Object", "clone", "()Ljava/lang/Object;"⟩).before a0 Z = true) (w5 : (Jvm.Cond.selects ad ⟨ad, "clone", "()Ljava/lang/Object;"⟩ ⟨"java/lang/Object", "clone", "()Ljava/lang/Object;"⟩).before a0 Z = true) (w6 : (Jvm.Cond.castable ad "java/lang/Cloneable").before a0 Z = true)
    (A : own_A Z h a ty vs) (E : Exa Z h a ad) (hd : decode bytes pc = .ok (.invokevirtual idx, 3)) (hp : pc + 3 = pc') (hsz : Ls.size = ml) (hf : 1 ≤ R.frames) (hW : (st.map fun v => v.category).sum ≤ W) (hl : W + 14 ≤ R.locals) (hcap : vs.length ≤ cap) (hc : cells + 1 ≤ R.cells) (hsl' : slots + cap ≤ R.slots)
    (k : ∀ (h' : Heap) (b : Addr), h.size ≤ b → b < h'.size → Ext h h' → own_A Z h' b ty vs → Exa Z h' b ad → own_W l Z y bytes ml ret R n0 Q h' (cells + 1) (slots + cap) pc' Ls (.ref b :: st)) : own_W l Z y bytes ml ret R n0 Q h cells slots pc Ls (.ref a :: st) := by
  intro p e s m args below meth c T locs hx hZ hown hby hml hret hlk hnm hce hsl X eT N
  subst hp
  obtain ⟨cl, A, q, hlen, hft⟩ := A
  have F : FitC Z cl := fun i v hv => by
    obtain ⟨-, k, hk, comp, hkind⟩ := A.2.1
    have e1 : Z.slotType? cl.cls .none i = some ty := by simp [State.slotType?, hk, hkind]
    have mem : v ∈ vs := by rw [← q]; rw [← Array.getElem?_toList] at hv; exact List.mem_of_getElem? hv
    simpa [State.fitsSlot, e1] using hft v mem
  obtain ⟨T', h', X', e', E', A', E2, st'⟩ := cloneA X hx hZ hown w1 w2 w3 w4 w5 w6 eT A E F (g := mkF m pc Ls (.ref a :: st)) rfl (by rw [hml]; exact hsz) rfl (hb hby hd) hf (W := W) (by show 2 * 0 + _ ≤ _; omega) hl (cap := cap) (by rw [own_size q]; exact hcap) hc hsl'
  obtain ⟨s₂, o, h1, h2⟩ := k h' h.size (Nat.le_refl _) A'.lt E' ⟨_, A', q, hlen, hft⟩ E2 p e s m args below meth c T' locs hx hZ hown hby hml hret hlk hnm hc hsl' X' e' N
  exact ⟨s₂, o, st' _ h1, h2⟩
theorem own_getD {α : Type} (l : List α) (d : α) {i : Nat} (h : i < l.length) : l.getD i d = l[i] := by
  rw [List.getD_eq_getElem?_getD, List.getElem?_eq_getElem h]; rfl
theorem own_len32 {n : Nat} (h : n < 2 ^ 31) : n.toInt32.toNatClampNeg = n ∧ ¬ n.toInt32 < 0 := by
  have e := len_toInt h
  have z : (0 : Int32).toInt = 0 := rfl
  exact ⟨by rw [Int32.toNatClampNeg, e]; rfl, by rw [Int32.lt_iff_toInt_lt, e, z]; omega⟩
theorem own_A.arv {a : Addr} {ty : FieldType} {vs : List Value} (A : own_A Z h a ty vs) (d : Value) : ∃ k, Arv Z h a k ty vs.length.toInt32 vs d := by
  obtain ⟨c, A, q, hl, hft⟩ := A
  have e := own_len32 hl
  refine ⟨c.cls, c, A, rfl, by rw [e.1]; exact own_size q, e.2, fun k hk => ?_, fun k hk => ?_⟩
  · rw [own_size q] at hk
    refine own_get q ?_
    rw [own_getD _ _ hk]; exact List.getElem?_eq_getElem hk
  · rw [own_size q] at hk
    rw [own_getD _ _ hk]; exact hft _ (List.getElem_mem hk)
theorem own_A.ofArv {a : Addr} {ty : FieldType} {vs : List Value} {k : ClassId} {z : Int32} {d : Value} (A : Arv Z h a k ty z vs d) (hz : z.toNatClampNeg = vs.length) (hl : vs.length < 2 ^ 31) : own_A Z h a ty vs := by
  obtain ⟨c, A, -, hs, -, H, G⟩ := A
  have e : c.slots.toList = vs := by
    apply List.ext_getElem?
    intro i
    by_cases hi : i < vs.length
    · rw [Array.getElem?_toList, H i (by omega), own_getD _ _ hi, List.getElem?_eq_getElem hi]
    · rw [List.getElem?_eq_none (by rw [Array.length_toList]; omega), List.getElem?_eq_none (by omega)]
  refine ⟨c, A, e, hl, fun v hv => ?_⟩
  obtain ⟨i, hi, rfl⟩ := List.mem_iff_getElem.mp hv
  have := G i (by omega)
  rwa [own_getD _ _ hi] at this
theorem own_slice (vs : List Value) (d : Value) (p n : Nat) (h : p + n ≤ vs.length) : (vs.drop p).take n = (List.range n).map fun i => vs.getD (p + i) d := by
  apply List.ext_getElem
  · simp; omega
  · intro i h1 h2
    simp only [List.length_map, List.length_range] at h2
    simp [List.getD_eq_getElem?_getD, show p + i < vs.length by omega]
theorem own_acopy {idx W : Nat} {a b : Addr} {ty : FieldType} {vs vd : List Value} {sp dp nn : Int32} (w1 : (Jvm.Cond.methodLink y.cls idx Jvm.Stand.acN).before a0 Z = true) (w2 : (Jvm.Cond.native Jvm.Stand.acN).before a0 Z = true) (w3 : (Jvm.Cond.static Jvm.Stand.acN).before a0 Z = true) (w4 : (Jvm.Cond.initialized "java/lang/System").before a0 Z = true)
    (A : own_A Z h a ty vs) (B : own_A Z h b ty vd) (hty : refKind ty = false) (h1 : ¬ sp < 0) (h2 : ¬ dp < 0) (h3 : ¬ nn < 0) (h4 : sp.toNatClampNeg + nn.toNatClampNeg ≤ vs.length) (h5 : dp.toNatClampNeg + nn.toNatClampNeg ≤ vd.length) (ge : n0 ≤ b)
    (hd : decode bytes pc = .ok (.invokestatic idx, 3)) (hp : pc + 3 = pc') (hsz : Ls.size = ml) (hf : 1 ≤ R.frames) (hW : (st.map fun v => v.category).sum ≤ W) (hlo : W + (nativeFrameWords "java/lang/System" "arraycopy" 5 + 11) ≤ R.locals)
    (k : ∀ h', Keep h h' [b] → own_A Z h' b ty (vd.take dp.toNatClampNeg ++ (vs.drop sp.toNatClampNeg).take nn.toNatClampNeg ++ vd.drop (dp.toNatClampNeg + nn.toNatClampNeg)) → own_W l Z y bytes ml ret R n0 Q h' cells slots pc' Ls st) : own_W l Z y bytes ml ret R n0 Q h cells slots pc Ls (.int nn :: .int dp :: .ref b :: .int sp :: .ref a :: st) := by
  intro p e s m args below meth c T locs hx hZ hown hby hml hret hlk hnm hce hsl X eT N
  subst hp
  have hlv : vs.length < 2 ^ 31 := by obtain ⟨_, _, _, q, _⟩ := A; exact q
  have hld : vd.length < 2 ^ 31 := by obtain ⟨_, _, _, q, _⟩ := B; exact q
  obtain ⟨k1, A1⟩ := A.arv .null
  obtain ⟨k2, B1⟩ := B.arv .null
  have e1 := own_len32 hlv
  have e2 := own_len32 hld
  obtain ⟨T', h', L, X', e', N', K', B', st'⟩ := cpA X hx hZ hown w1 w2 w3 w4 eT A1 B1 (Or.inl ⟨rfl, hty⟩) h1 h2 h3 (by rw [e1.1]; exact h4) (by rw [e2.1]; exact h5) (own_slice vs .null _ _ h4) h5 N ge (g := mkF m pc Ls (.int nn :: .int dp :: .ref b :: .int sp :: .ref a :: st)) rfl (by rw [hml]; exact hsz) rfl (hb hby hd) hf (W := W) (by show 2 * 0 + _ ≤ _; omega) hlo
  have hlen : (vd.take dp.toNatClampNeg ++ (vs.drop sp.toNatClampNeg).take nn.toNatClampNeg ++ vd.drop (dp.toNatClampNeg + nn.toNatClampNeg)).length = vd.length := by
    simp only [List.length_append, List.length_take, List.length_drop]; omega
  obtain ⟨s₂, o, q1, q2⟩ := k h' K' (own_A.ofArv B' (by rw [e2.1, hlen]) (by rw [hlen]; exact hld)) p e s m args below meth c T' L hx hZ hown hby hml hret hlk hnm hce hsl X' e' N'
  exact ⟨s₂, o, st' _ q1, q2⟩
theorem own_met {z : MethodName} {rm : Room} {argsL : List Value} {Lc : Array Slot} (hC : own_W l Z z bytes ml ret rm n0 Q h 0 0 0 Lc []) (pn : plainFor z = true) (hent : Jvm.Sym.laidSlots argsL ++ List.replicate (ml - (Jvm.Sym.laidSlots argsL).length) .unset = Lc.toList) (ws : List Jvm.Cond) :
    MetFree l z (head1 (Jvm.Cond.code z bytes ml ret :: ws) rm) (fun a U => a = argsL.toArray ∧ Z.Warmed39 U.vm ∧ U.heap = h) (fun _ _ _ _ _ => True) (fun _ U o U' => ∃ v L, o = .returned v ∧ (Q v U'.heap ∧ Fr n0 L) ∧ FrameEnd U o U' L rm.cells rm.slots) := by
  refine MetFree.of_bodySF pn hisR ?_
  intro p e s m args below meth c s₁ Bd hml0 hP hK
  obtain ⟨rfl, hZ, hh⟩ := hP
  obtain ⟨s₂, o, h1, h2, h3, h4⟩ := hC p e s m _ below meth c s₁ [] Bd.exec hZ (findClass_of_methodNamed Bd.named) Bd.bytes hml0 Bd.returns Bd.notSynchronized (name_of_methodNamed Bd.named Bd.method).1 (Nat.zero_le _) (Nat.zero_le _) (Stand.of_body Bd) (by rw [← hh, Bd.state]; rfl) (Fr.nil n0)
  exact ⟨s₂, o, (XT.entry (by simpa using hent)).trans h1, h2, h3, h4⟩
theorem own_static {z : MethodName} {bytes' : ByteArray} {ml' : Nat} {ret' : Option FieldType} {rm : Room} {Qc : Option Value → Heap → Prop} {Lc : Array Slot} {argsL rest : List Value} {ps : List FieldType} {rt : Option FieldType} {idx W : Nat} (hC : own_W l Z z bytes' ml' ret' rm n0 Qc h 0 0 0 Lc []) (w1 : (Jvm.Cond.methodLink y.cls idx z).before a0 Z = true) (w2 : (Jvm.Cond.static z).before a0 Z = true) (w3 : (Jvm.Cond.initialized z.cls).before a0 Z = true) (w4 : (Jvm.Cond.code z bytes' ml' ret').before a0 Z = true) (pn : plainFor z = true) (hy : z.cls ≠ "java/lang/invoke/MethodHandle" ∧ z.cls ≠ "java/lang/invoke/VarHandle") (pd : parseMethodDescriptor z.desc = some ⟨ps, rt⟩) (hlen : argsL.length = ps.length)
    (hst : st = argsL.reverse ++ rest) (hent : Jvm.Sym.laidSlots argsL ++ List.replicate (ml' - (Jvm.Sym.laidSlots argsL).length) .unset = Lc.toList) (hW : (rest.map fun v => v.category).sum ≤ W) (hfr : rm.frames + 1 ≤ R.frames) (hlo : W + (ml' + 11) + rm.locals ≤ R.locals) (hce' : cells + rm.cells ≤ R.cells) (hsl' : slots + rm.slots ≤ R.slots) (hsz : Ls.size = ml) (hd : decode bytes pc = .ok (.invokestatic idx, 3)) (hp : pc + 3 = pc') (k : ∀ v h', Qc v h' → own_W l Z y bytes ml ret R n0 Q h' (cells + rm.cells) (slots + rm.slots) pc' Ls (v.toList ++ rest)) : own_W l Z y bytes ml ret R n0 Q h cells slots pc Ls st := by
  intro p e s m args below meth c T locs hx hZ hown hby hml hret hlk hnm hce hsl X eT N
  subst hp
  obtain ⟨v, vm₁, ⟨T1, L1, k1, n1⟩, -, X1, ⟨Lc1, hQ1, l1, y1, z1⟩, st1⟩ := Jvm.LawKit.callS X hx (y := z) hown (mvT hZ w1) (mvT hZ w2) (mvT hZ w3) (mvT hZ w4) hy (backOf (W := W) (Q := fun v h L => Qc v h ∧ Fr n0 L) (own_met hC pn hent []) hZ w4 w3 hfr hlo) (g := mkF m pc Ls st) rfl (by rw [hml]; exact hsz) (argsL := argsL) (rest := rest) (lenOf pd hlen) hst (by show 2 * 0 + _ ≤ _; omega) (hb hby hd) (fun _ _ => ⟨rfl, eT, hce', hsl'⟩)
  dsimp only [Pt.U, Pt.locs, Pt.cells, Pt.slots] at X1 l1 y1 z1 st1 hQ1
  subst l1 y1 z1
  obtain ⟨s₂, o, h1, h2⟩ := k v T1.heap hQ1.1 p e s m args below meth c T1 _ hx hZ hown hby hml hret hlk hnm hce' hsl' X1 rfl (Fr.app N hQ1.2)
  exact ⟨s₂, o, st1 _ h1, h2⟩
theorem own_special {z : MethodName} {bytes' : ByteArray} {ml' : Nat} {ret' : Option FieldType} {rm : Room} {Qc : Option Value → Heap → Prop} {Lc : Array Slot} {argsL rest : List Value} {ps : List FieldType} {rt : Option FieldType} {idx W : Nat} {a : Addr} (hC : own_W l Z z bytes' ml' none rm n0 Qc h 0 0 0 Lc []) (w1 : (Jvm.Cond.methodLink y.cls idx z).before a0 Z = true) (w2 : (Jvm.Cond.instanceMethod z).before a0 Z = true) (w3 : (Jvm.Cond.initialized z.cls).before a0 Z = true) (w4 : (Jvm.Cond.code z bytes' ml' none).before a0 Z = true) (hzn : z.name = "<init>") (pn : plainFor z = true) (hy : z.cls ≠ "java/lang/invoke/MethodHandle" ∧ z.cls ≠ "java/lang/invoke/VarHandle") (pd : parseMethodDescriptor z.desc = some ⟨ps, rt⟩) (hlen : argsL.length = ps.length)
    (hst : st = argsL.reverse ++ .ref a :: rest) (hent : Jvm.Sym.laidSlots (.ref a :: argsL) ++ List.replicate (ml' - (Jvm.Sym.laidSlots (.ref a :: argsL)).length) .unset = Lc.toList) (hW : (rest.map fun v => v.category).sum ≤ W) (hfr : rm.frames + 1 ≤ R.frames) (hlo : W + (ml' + 11) + rm.locals ≤ R.locals) (hce' : cells + rm.cells ≤ R.cells) (hsl' : slots + rm.slots ≤ R.slots) (hsz : Ls.size = ml) (hd : decode bytes pc = .ok (.invokespecial idx, 3)) (hp : pc + 3 = pc') (k : ∀ v h', Qc v h' → own_W l Z y bytes ml ret R n0 Q h' (cells + rm.cells) (slots + rm.slots) pc' Ls (v.toList ++ rest)) : own_W l Z y bytes ml ret R n0 Q h cells slots pc Ls st := by
  intro p e s m args below meth c T locs hx hZ hown hby hml hret hlk hnm hce hsl X eT N
  subst hp
  obtain ⟨v, vm₁, ⟨T1, L1, k1, n1⟩, -, X1, ⟨Lc1, hQ1, l1, y1, z1⟩, st1⟩ := X.specialBack hx (y := z) hzn hown (mvT hZ w1) (mvT hZ w2) (mvT hZ w4) hy (backOf (W := W) (Q := fun v h L => Qc v h ∧ Fr n0 L) (own_met hC pn hent []) hZ w4 w3 hfr hlo) (g := mkF m pc Ls st) rfl (by rw [hml]; exact hsz) (Steps.refl _) (a := a) (argsL := argsL) (rest := rest) (lenOf pd hlen) hst (by show 2 * 0 + _ ≤ _; omega) (hb hby hd) (fun _ _ => ⟨rfl, eT, hce', hsl'⟩)
  dsimp only [Pt.U, Pt.locs, Pt.cells, Pt.slots] at X1 l1 y1 z1 st1 hQ1
  subst l1 y1 z1
  obtain ⟨s₂, o, h1, h2⟩ := k v T1.heap hQ1.1 p e s m args below meth c T1 _ hx hZ hown hby hml hret hlk hnm hce' hsl' X1 rfl (Fr.app N hQ1.2)
  exact ⟨s₂, o, st1.trans h1, h2⟩
theorem own_virtual {z : MethodName} {bytes' : ByteArray} {ml' : Nat} {ret' : Option FieldType} {rm : Room} {Qc : Option Value → Heap → Prop} {Lc : Array Slot} {argsL rest : List Value} {ps : List FieldType} {rt : Option FieldType} {idx W : Nat} {a : Addr} {C : String} (hC : own_W l Z z bytes' ml' ret' rm n0 Qc h 0 0 0 Lc []) (E : Exa Z h a C) (w1 : (Jvm.Cond.methodLink y.cls idx z).before a0 Z = true) (w2 : (Jvm.Cond.declares z).before a0 Z = true) (w5 : (Jvm.Cond.selects C z z).before a0 Z = true) (w6 : (Jvm.Cond.instanceMethod z).before a0 Z = true) (w3 : (Jvm.Cond.initialized z.cls).before a0 Z = true) (w4 : (Jvm.Cond.code z bytes' ml' ret').before a0 Z = true) (pn : plainFor z = true) (hy : z.cls ≠ "java/lang/invoke/MethodHandle" ∧ z.cls ≠ "java/lang/invoke/VarHandle") (pd : parseMethodDescriptor z.desc = some ⟨ps, rt⟩) (hlen : argsL.length = ps.length)
    (hst : st = argsL.reverse ++ .ref a :: rest) (hent : Jvm.Sym.laidSlots (.ref a :: argsL) ++ List.replicate (ml' - (Jvm.Sym.laidSlots (.ref a :: argsL)).length) .unset = Lc.toList) (hW : (rest.map fun v => v.category).sum ≤ W) (hfr : rm.frames + 1 ≤ R.frames) (hlo : W + (ml' + 11) + rm.locals ≤ R.locals) (hce' : cells + rm.cells ≤ R.cells) (hsl' : slots + rm.slots ≤ R.slots) (hsz : Ls.size = ml) (hd : decode bytes pc = .ok (.invokevirtual idx, 3)) (hp : pc + 3 = pc') (k : ∀ v h', Qc v h' → own_W l Z y bytes ml ret R n0 Q h' (cells + rm.cells) (slots + rm.slots) pc' Ls (v.toList ++ rest)) : own_W l Z y bytes ml ret R n0 Q h cells slots pc Ls st := by
  intro p e s m args below meth c T locs hx hZ hown hby hml hret hlk hnm hce hsl X eT N
  subst hp
  obtain ⟨cq, kq, qa, qb, qc⟩ := isOf hZ eT E
  obtain ⟨v, vm₁, ⟨T1, L1, k1, n1⟩, -, X1, ⟨Lc1, hQ1, l1, y1, z1⟩, st1⟩ := X.virtualBack hx (y := z) (z := z) hown (mvT hZ w1) (mvT hZ w2) (notFace_of_selects (args := #[]) (mvT hZ w5)) (mvT hZ w5) (mvT hZ w6) hy (backOf (W := W) (Q := fun v h L => Qc v h ∧ Fr n0 L) (own_met hC pn hent []) hZ w4 w3 hfr hlo) qa qc (g := mkF m pc Ls st) rfl (by rw [hml]; exact hsz) (Steps.refl _) (argsL := argsL) (rest := rest) (lenOf pd hlen) hst (by show 2 * 0 + _ ≤ _; omega) (hb hby hd) (fun _ _ => ⟨rfl, eT, hce', hsl'⟩)
  dsimp only [Pt.U, Pt.locs, Pt.cells, Pt.slots] at X1 l1 y1 z1 st1 hQ1
  subst l1 y1 z1
  obtain ⟨s₂, o, h1, h2⟩ := k v T1.heap hQ1.1 p e s m args below meth c T1 _ hx hZ hown hby hml hret hlk hnm hce' hsl' X1 rfl (Fr.app N hQ1.2)
  exact ⟨s₂, o, st1.trans h1, h2⟩
theorem own_private {z : MethodName} {bytes' : ByteArray} {ml' : Nat} {ret' : Option FieldType} {rm : Room} {Qc : Option Value → Heap → Prop} {Lc : Array Slot} {argsL rest : List Value} {ps : List FieldType} {rt : Option FieldType} {idx W : Nat} {a : Addr} {C : String} {kk : Nat} (hC : own_W l Z z bytes' ml' ret' rm n0 Qc h 0 0 0 Lc []) (E : Exa Z h a C) (w1 : (Jvm.Cond.methodLink y.cls idx z).before a0 Z = true) (w6 : (Jvm.Cond.instanceMethod z).before a0 Z = true) (wp : (Jvm.Cond.privateMethod z).before a0 Z = true) (wi : (Jvm.Cond.instantiable z.cls kk).before a0 Z = true) (w3 : (Jvm.Cond.initialized z.cls).before a0 Z = true) (w4 : (Jvm.Cond.code z bytes' ml' ret').before a0 Z = true) (pn : plainFor z = true) (hy : z.cls ≠ "java/lang/invoke/MethodHandle" ∧ z.cls ≠ "java/lang/invoke/VarHandle") (pd : parseMethodDescriptor z.desc = some ⟨ps, rt⟩) (hlen : argsL.length = ps.length)
    (hst : st = argsL.reverse ++ .ref a :: rest) (hent : Jvm.Sym.laidSlots (.ref a :: argsL) ++ List.replicate (ml' - (Jvm.Sym.laidSlots (.ref a :: argsL)).length) .unset = Lc.toList) (hW : (rest.map fun v => v.category).sum ≤ W) (hfr : rm.frames + 1 ≤ R.frames) (hlo : W + (ml' + 11) + rm.locals ≤ R.locals) (hce' : cells + rm.cells ≤ R.cells) (hsl' : slots + rm.slots ≤ R.slots) (hsz : Ls.size = ml) (hd : decode bytes pc = .ok (.invokevirtual idx, 3)) (hp : pc + 3 = pc') (k : ∀ v h', Qc v h' → own_W l Z y bytes ml ret R n0 Q h' (cells + rm.cells) (slots + rm.slots) pc' Ls (v.toList ++ rest)) : own_W l Z y bytes ml ret R n0 Q h cells slots pc Ls st := by
  intro p e s m args below meth c T locs hx hZ hown hby hml hret hlk hnm hce hsl X eT N
  subst hp
  obtain ⟨c2, k2, i1, i2, i3, i4, -⟩ := Cond.instantiable_spec (mvT (args := args) hZ wi)
  have hpr := Cond.privateMethod_at (mvP (args := #[]) hZ wp)
  have hsel := Jvm.Stand.selects_self_of_private (args := args) i1 i2 (Bool.or_eq_false_iff.mp i4).1 hpr (mvT hZ w6) hy
  obtain ⟨cell, qc, qo⟩ := E.cell
  obtain ⟨v, vm₁, ⟨T1, L1, k1, n1⟩, -, X1, ⟨Lc1, hQ1, l1, y1, z1⟩, st1⟩ := X.privateBack hx (y := z) hown (mvT hZ w1) (mvT hZ w6) hsel hpr (mvT hZ w4) hy (backOf (W := W) (Q := fun v h L => Qc v h ∧ Fr n0 L) (own_met hC pn hent []) hZ w4 w3 hfr hlo) (g := mkF m pc Ls st) rfl (by rw [hml]; exact hsz) (Steps.refl _) (a := a) (by rw [eT]; exact qc) qo (argsL := argsL) (rest := rest) (lenOf pd hlen) hst (by show 2 * 0 + _ ≤ _; omega) (hb hby hd) (fun _ _ => ⟨rfl, eT, hce', hsl'⟩)
  dsimp only [Pt.U, Pt.locs, Pt.cells, Pt.slots] at X1 l1 y1 z1 st1 hQ1
  subst l1 y1 z1
  obtain ⟨s₂, o, h1, h2⟩ := k v T1.heap hQ1.1 p e s m args below meth c T1 _ hx hZ hown hby hml hret hlk hnm hce' hsl' X1 rfl (Fr.app N hQ1.2)
  exact ⟨s₂, o, st1.trans h1, h2⟩
theorem own_refBack {p : Program} {e : Env} {s : State} {m : MethodId} {args : Array Value} {below : List Frame} {meth : Method} {c : Code} {T : State} {locs : List Loc} (X : Stand p l e R s m args below meth c T locs cells slots) (hexec : p.tables.exec = Jvm.exec) (hZ : Z.Warmed39 s.vm) {own : String} {index : Nat} {z : MethodName} (hzn : z.name = "<init>")
    (hown : s.vm.findClass own = some m.cls) (w1 : (Jvm.Cond.methodRef own index z).before a0 Z = true) (w2 : (Jvm.Cond.instanceMethod z).before a0 Z = true) {bytes' : ByteArray} {maxL : Nat} (w4 : (Jvm.Cond.code z bytes' maxL none).before a0 Z = true)
    (hy : z.cls ≠ "java/lang/invoke/MethodHandle" ∧ z.cls ≠ "java/lang/invoke/VarHandle") {W : Nat} {Pre : Pt → Array Value → Prop} {Post : Pt → Array Value → Option Value → Pt → Prop} (hK : Back l R p e below s args z 3 W Pre Post)
    {g : JFrame} (hg : g.method = m) (hsize : g.locals.size = c.maxLocals) {a : Addr} {argsL rest : List Value} (hlen : ∀ sig, parseMethodDescriptor z.desc = some sig → argsL.length = sig.parameters.length) (hstack : g.stack = argsL.reverse ++ .ref a :: rest) (hW : 2 * g.monitorRoom + (rest.map fun v => v.category).sum ≤ W)
    (hdg : decode c.code g.pc = .ok (.invokespecial index, 3)) (hpre : Pre ⟨T, locs, cells, slots⟩ (.ref a :: argsL).toArray) :
    ∃ (v : Option Value) (B : Pt), Stand p l e R s m args below meth c B.U B.locs B.cells B.slots ∧ Post ⟨T, locs, cells, slots⟩ (.ref a :: argsL).toArray v B ∧ Steps p.tables e below (T.setTop g) (B.U.setTop { g with pc := g.pc + 3, stack := v.toList ++ rest }) := by
  obtain ⟨obj, methO, hnO, hmO, hstO, habO⟩ := Cond.instanceMethod_spec (mvT (args := args) hZ w2)
  obtain ⟨methO', cO, hmO', hcO, -, -, -, -, -, hsigO⟩ := Cond.code_spec hnO (mvT (args := args) hZ w4)
  cases hmO.symm.trans hmO'
  obtain ⟨kO, hkO, hnameO⟩ := className_of_methodNamed hnO
  obtain ⟨hnameMO, hdescO⟩ := name_of_methodNamed hnO hmO
  have hU : Z.Warmed39 T.vm := wtrans hZ X.warmed
  obtain ⟨objZ, methZ, hnZ, -⟩ := Cond.instanceMethod_spec w2
  have hT := Cond.methodRef_warmed39 hU hnZ hy w1
  have hownT : (Z.setVm T.vm).vm.findClass own = some m.cls := by show T.vm.findClass own = _; rw [X.warmed.alike.findClass]; exact hown
  obtain ⟨m', c', f1, f2, f3, f4⟩ := Cond.methodRef_named (s := Z.setVm T.vm) e hownT hT
  have hnT : T.methodNamed? z = some obj := X.named hnO
  have hn' : (Z.setVm T.vm).methodNamed? z = some obj := hnT
  cases (State.methodFound?_of_named hn' hy).symm.trans f1
  cases (findClass_of_methodNamed hn').symm.trans f3
  obtain ⟨kO', hkT, -⟩ := X.warmed.alike.2.2 _ _ hkO
  have hmT : T.vm.method? obj = some methO := by rw [X.warmed.alike.method?]; exact hmO
  have hfound : lookupSpecial T.vm obj.cls "<init>" methO.desc = .method obj := by rw [hdescO, ← hzn]; exact lookupSpecial_of_named hnT hmT hstO
  have hstep : ∀ target, (∀ acts, Steps p.tables e below (doInvoke e (T.setTop { g with stack := rest }) acts obj (.ref a :: argsL).toArray).1 target) → Steps p.tables e below (T.setTop g) target := by
    intro target hrest
    subst hg
    jvm_step X.here [hexec, hdg, invokespecial.wp_init (e := e) (s := T) (k := kO') (meth := methO) (m := obj) (a := a) (args := argsL) (rest := rest) (f := g) X.here.top f4 f2 hkT hmT (by rw [hnameMO]; exact hzn) hstO habO hfound (hlen _ hsigO) hstack]
    exact hrest
  obtain ⟨v, B, X', hpost, hsteps⟩ := hK m meth c ⟨T, locs, cells, slots⟩ { g with stack := rest } (.invokespecial index) obj (.ref a :: argsL).toArray X hg hsize hdg hW hnT hpre
  exact ⟨v, B, X', hpost, hstep _ fun acts => by rw [doInvoke_state]; exact hsteps⟩
theorem own_specialRef {z : MethodName} {bytes' : ByteArray} {ml' : Nat} {ret' : Option FieldType} {rm : Room} {Qc : Option Value → Heap → Prop} {Lc : Array Slot} {argsL rest : List Value} {ps : List FieldType} {rt : Option FieldType} {idx W : Nat} {a : Addr} (hC : own_W l Z z bytes' ml' none rm n0 Qc h 0 0 0 Lc []) (w1 : (Jvm.Cond.methodRef y.cls idx z).before a0 Z = true) (w2 : (Jvm.Cond.instanceMethod z).before a0 Z = true) (w3 : (Jvm.Cond.initialized z.cls).before a0 Z = true) (w4 : (Jvm.Cond.code z bytes' ml' none).before a0 Z = true) (hzn : z.name = "<init>") (pn : plainFor z = true) (hy : z.cls ≠ "java/lang/invoke/MethodHandle" ∧ z.cls ≠ "java/lang/invoke/VarHandle") (pd : parseMethodDescriptor z.desc = some ⟨ps, rt⟩) (hlen : argsL.length = ps.length)
    (hst : st = argsL.reverse ++ .ref a :: rest) (hent : Jvm.Sym.laidSlots (.ref a :: argsL) ++ List.replicate (ml' - (Jvm.Sym.laidSlots (.ref a :: argsL)).length) .unset = Lc.toList) (hW : (rest.map fun v => v.category).sum ≤ W) (hfr : rm.frames + 1 ≤ R.frames) (hlo : W + (ml' + 11) + rm.locals ≤ R.locals) (hce' : cells + rm.cells ≤ R.cells) (hsl' : slots + rm.slots ≤ R.slots) (hsz : Ls.size = ml) (hd : decode bytes pc = .ok (.invokespecial idx, 3)) (hp : pc + 3 = pc') (k : ∀ v h', Qc v h' → own_W l Z y bytes ml ret R n0 Q h' (cells + rm.cells) (slots + rm.slots) pc' Ls (v.toList ++ rest)) : own_W l Z y bytes ml ret R n0 Q h cells slots pc Ls st := by
  intro p e s m args below meth c T locs hx hZ hown hby hml hret hlk hnm hce hsl X eT N
  subst hp
  obtain ⟨v, ⟨T1, L1, k1, n1⟩, X1, ⟨Lc1, hQ1, l1, y1, z1⟩, st1⟩ := own_refBack X hx hZ hzn hown w1 w2 w4 hy (backOf (W := W) (Q := fun v h L => Qc v h ∧ Fr n0 L) (own_met hC pn hent []) hZ w4 w3 hfr hlo) (g := mkF m pc Ls st) rfl (by rw [hml]; exact hsz) (a := a) (argsL := argsL) (rest := rest) (lenOf pd hlen) hst (by show 2 * 0 + _ ≤ _; omega) (hb hby hd) ⟨rfl, eT, hce', hsl'⟩
  dsimp only [Pt.U, Pt.locs, Pt.cells, Pt.slots] at X1 l1 y1 z1 st1 hQ1
  subst l1 y1 z1
  obtain ⟨s₂, o, h1, h2⟩ := k v T1.heap hQ1.1 p e s m args below meth c T1 _ hx hZ hown hby hml hret hlk hnm hce' hsl' X1 rfl (Fr.app N hQ1.2)
  exact ⟨s₂, o, st1.trans h1, h2⟩
end OwnW
-- LAYER END
theorem d1_0 : decode prog_80_method_1_code 0 = .ok (.aload_n 0, 1) := by decide +kernel
theorem d1_1 : decode prog_80_method_1_code 1 = .ok (.aload_n 1, 1) := by decide +kernel
theorem d1_2 : decode prog_80_method_1_code 2 = .ok (.iconst 0, 1) := by decide +kernel
theorem d1_3 : decode prog_80_method_1_code 3 = .ok (.aload_n 1, 1) := by decide +kernel
theorem d1_4 : decode prog_80_method_1_code 4 = .ok (.arraylength, 1) := by decide +kernel
theorem d1_5 : decode prog_80_method_1_code 5 = .ok (.invokespecial 1, 3) := by decide +kernel
theorem d1_8 : decode prog_80_method_1_code 8 = .ok (.return_, 1) := by decide +kernel
theorem d2_0 : decode prog_80_method_3_code 0 = .ok (.aload_n 0, 1) := by decide +kernel
theorem d2_1 : decode prog_80_method_3_code 1 = .ok (.invokespecial 7, 3) := by decide +kernel
theorem d2_4 : decode prog_80_method_3_code 4 = .ok (.aload_n 0, 1) := by decide +kernel
theorem d2_5 : decode prog_80_method_3_code 5 = .ok (.aload_n 1, 1) := by decide +kernel
theorem d2_6 : decode prog_80_method_3_code 6 = .ok (.putfield 12, 3) := by decide +kernel
theorem d2_9 : decode prog_80_method_3_code 9 = .ok (.aload_n 0, 1) := by decide +kernel
theorem d2_10 : decode prog_80_method_3_code 10 = .ok (.iload_n 2, 1) := by decide +kernel
theorem d2_11 : decode prog_80_method_3_code 11 = .ok (.putfield 16, 3) := by decide +kernel
theorem d2_14 : decode prog_80_method_3_code 14 = .ok (.aload_n 0, 1) := by decide +kernel
theorem d2_15 : decode prog_80_method_3_code 15 = .ok (.iload_n 3, 1) := by decide +kernel
theorem d2_16 : decode prog_80_method_3_code 16 = .ok (.putfield 20, 3) := by decide +kernel
theorem d2_19 : decode prog_80_method_3_code 19 = .ok (.return_, 1) := by decide +kernel
theorem d3_0 : decode object_method_1_code 0 = .ok (.return_, 1) := by decide +kernel
theorem d4_0 : decode method_2_code 0 = .ok (.iload_n 2, 1) := by decide +kernel
theorem d4_1 : decode method_2_code 1 = .ok (.ifCond .ge 5, 3) := by decide +kernel
theorem d4_4 : decode method_2_code 4 = .ok (.iconst (-1), 1) := by decide +kernel
theorem d4_5 : decode method_2_code 5 = .ok (.ireturn, 1) := by decide +kernel
theorem d4_6 : decode method_2_code 6 = .ok (.iload_n 2, 1) := by decide +kernel
theorem d4_7 : decode method_2_code 7 = .ok (.aload_n 1, 1) := by decide +kernel
theorem d4_8 : decode method_2_code 8 = .ok (.arraylength, 1) := by decide +kernel
theorem d4_9 : decode method_2_code 9 = .ok (.if_icmp .ge 14, 3) := by decide +kernel
theorem d4_12 : decode method_2_code 12 = .ok (.aload_n 1, 1) := by decide +kernel
theorem d4_13 : decode method_2_code 13 = .ok (.iload_n 2, 1) := by decide +kernel
theorem d4_14 : decode method_2_code 14 = .ok (.baload, 1) := by decide +kernel
theorem d4_15 : decode method_2_code 15 = .ok (.iload_n 3, 1) := by decide +kernel
theorem d4_16 : decode method_2_code 16 = .ok (.if_icmp .ne 7, 3) := by decide +kernel
theorem d4_19 : decode method_2_code 19 = .ok (.iconst 1, 1) := by decide +kernel
theorem d4_20 : decode method_2_code 20 = .ok (.goto 4, 3) := by decide +kernel
theorem d4_23 : decode method_2_code 23 = .ok (.iconst 0, 1) := by decide +kernel
theorem d4_24 : decode method_2_code 24 = .ok (.istore 4, 2) := by decide +kernel
theorem d4_26 : decode method_2_code 26 = .ok (.aload_n 0, 1) := by decide +kernel
theorem d4_27 : decode method_2_code 27 = .ok (.iload_n 3, 1) := by decide +kernel
theorem d4_28 : decode method_2_code 28 = .ok (.invokevirtual 7, 3) := by decide +kernel
theorem d4_31 : decode method_2_code 31 = .ok (.istore 5, 2) := by decide +kernel
theorem d4_33 : decode method_2_code 33 = .ok (.iload 4, 2) := by decide +kernel
theorem d4_35 : decode method_2_code 35 = .ok (.ifCond .eq 9, 3) := by decide +kernel
theorem d4_38 : decode method_2_code 38 = .ok (.iload_n 2, 1) := by decide +kernel
theorem d4_39 : decode method_2_code 39 = .ok (.iconst 1, 1) := by decide +kernel
theorem d4_40 : decode method_2_code 40 = .ok (.iadd, 1) := by decide +kernel
theorem d4_41 : decode method_2_code 41 = .ok (.goto 4, 3) := by decide +kernel
theorem d4_44 : decode method_2_code 44 = .ok (.iload_n 2, 1) := by decide +kernel
theorem d4_45 : decode method_2_code 45 = .ok (.istore 6, 2) := by decide +kernel
theorem d4_47 : decode method_2_code 47 = .ok (.iload 5, 2) := by decide +kernel
theorem d4_49 : decode method_2_code 49 = .ok (.iload 4, 2) := by decide +kernel
theorem d4_51 : decode method_2_code 51 = .ok (.if_icmp .eq 5, 3) := by decide +kernel
theorem d4_54 : decode method_2_code 54 = .ok (.iconst (-1), 1) := by decide +kernel
theorem d4_55 : decode method_2_code 55 = .ok (.ireturn, 1) := by decide +kernel
theorem d4_56 : decode method_2_code 56 = .ok (.aload_n 0, 1) := by decide +kernel
theorem d4_57 : decode method_2_code 57 = .ok (.invokevirtual 13, 3) := by decide +kernel
theorem d4_60 : decode method_2_code 60 = .ok (.iload 6, 2) := by decide +kernel
theorem d4_62 : decode method_2_code 62 = .ok (.if_icmp .eq 5, 3) := by decide +kernel
theorem d4_65 : decode method_2_code 65 = .ok (.iconst (-1), 1) := by decide +kernel
theorem d4_66 : decode method_2_code 66 = .ok (.ireturn, 1) := by decide +kernel
theorem d4_67 : decode method_2_code 67 = .ok (.aload_n 0, 1) := by decide +kernel
theorem d4_68 : decode method_2_code 68 = .ok (.invokevirtual 17, 3) := by decide +kernel
theorem d4_71 : decode method_2_code 71 = .ok (.aload_n 1, 1) := by decide +kernel
theorem d4_72 : decode method_2_code 72 = .ok (.arraylength, 1) := by decide +kernel
theorem d4_73 : decode method_2_code 73 = .ok (.iload 6, 2) := by decide +kernel
theorem d4_75 : decode method_2_code 75 = .ok (.isub, 1) := by decide +kernel
theorem d4_76 : decode method_2_code 76 = .ok (.if_icmp .eq 5, 3) := by decide +kernel
theorem d4_79 : decode method_2_code 79 = .ok (.iconst (-1), 1) := by decide +kernel
theorem d4_80 : decode method_2_code 80 = .ok (.ireturn, 1) := by decide +kernel
theorem d4_81 : decode method_2_code 81 = .ok (.iload 6, 2) := by decide +kernel
theorem d4_83 : decode method_2_code 83 = .ok (.ireturn, 1) := by decide +kernel
theorem d5_0 : decode prog_80_method_8_code 0 = .ok (.aload_n 0, 1) := by decide +kernel
theorem d5_1 : decode prog_80_method_8_code 1 = .ok (.getfield 16, 3) := by decide +kernel
theorem d5_4 : decode prog_80_method_8_code 4 = .ok (.aload_n 0, 1) := by decide +kernel
theorem d5_5 : decode prog_80_method_8_code 5 = .ok (.getfield 20, 3) := by decide +kernel
theorem d5_8 : decode prog_80_method_8_code 8 = .ok (.if_icmp .eq 16, 3) := by decide +kernel
theorem d5_11 : decode prog_80_method_8_code 11 = .ok (.aload_n 0, 1) := by decide +kernel
theorem d5_12 : decode prog_80_method_8_code 12 = .ok (.getfield 12, 3) := by decide +kernel
theorem d5_15 : decode prog_80_method_8_code 15 = .ok (.aload_n 0, 1) := by decide +kernel
theorem d5_16 : decode prog_80_method_8_code 16 = .ok (.getfield 16, 3) := by decide +kernel
theorem d5_19 : decode prog_80_method_8_code 19 = .ok (.baload, 1) := by decide +kernel
theorem d5_20 : decode prog_80_method_8_code 20 = .ok (.iload_n 1, 1) := by decide +kernel
theorem d5_21 : decode prog_80_method_8_code 21 = .ok (.if_icmp .eq 5, 3) := by decide +kernel
theorem d5_24 : decode prog_80_method_8_code 24 = .ok (.iconst 0, 1) := by decide +kernel
theorem d5_25 : decode prog_80_method_8_code 25 = .ok (.ireturn, 1) := by decide +kernel
theorem d5_26 : decode prog_80_method_8_code 26 = .ok (.aload_n 0, 1) := by decide +kernel
theorem d5_27 : decode prog_80_method_8_code 27 = .ok (.dup, 1) := by decide +kernel
theorem d5_28 : decode prog_80_method_8_code 28 = .ok (.getfield 16, 3) := by decide +kernel
theorem d5_31 : decode prog_80_method_8_code 31 = .ok (.iconst 1, 1) := by decide +kernel
theorem d5_32 : decode prog_80_method_8_code 32 = .ok (.iadd, 1) := by decide +kernel
theorem d5_33 : decode prog_80_method_8_code 33 = .ok (.putfield 16, 3) := by decide +kernel
theorem d5_36 : decode prog_80_method_8_code 36 = .ok (.iconst 1, 1) := by decide +kernel
theorem d5_37 : decode prog_80_method_8_code 37 = .ok (.ireturn, 1) := by decide +kernel
theorem d6_0 : decode prog_80_method_11_code 0 = .ok (.aload_n 0, 1) := by decide +kernel
theorem d6_1 : decode prog_80_method_11_code 1 = .ok (.getfield 16, 3) := by decide +kernel
theorem d6_4 : decode prog_80_method_11_code 4 = .ok (.ireturn, 1) := by decide +kernel
theorem d7_0 : decode prog_80_method_9_code 0 = .ok (.aload_n 0, 1) := by decide +kernel
theorem d7_1 : decode prog_80_method_9_code 1 = .ok (.getfield 20, 3) := by decide +kernel
theorem d7_4 : decode prog_80_method_9_code 4 = .ok (.aload_n 0, 1) := by decide +kernel
theorem d7_5 : decode prog_80_method_9_code 5 = .ok (.getfield 16, 3) := by decide +kernel
theorem d7_8 : decode prog_80_method_9_code 8 = .ok (.isub, 1) := by decide +kernel
theorem d7_9 : decode prog_80_method_9_code 9 = .ok (.ireturn, 1) := by decide +kernel
theorem own_pn0 : plainName "com/example/cursorwire/cursorwire/wire/ProtoReaderSkipTagPinLaw" = true := by decide +kernel
theorem own_pn1 : plainName "com/example/cursorwire/cursorwire/wire/ProtoReader" = true := by decide +kernel
theorem own_pd0 : parseMethodDescriptor "(IIII)Z" = some ⟨[.int, .int, .int, .int], (some .boolean)⟩ := by decide +kernel
theorem own_pd1 : parseMethodDescriptor "([B)V" = some ⟨[(.array .byte)], none⟩ := by decide +kernel
theorem own_pd2 : parseMethodDescriptor "([BII)V" = some ⟨[(.array .byte), .int, .int], none⟩ := by decide +kernel
theorem own_pd3 : parseMethodDescriptor "()V" = some ⟨[], none⟩ := by decide +kernel
theorem own_pd4 : parseMethodDescriptor "(Lcom/example/cursorwire/cursorwire/wire/ProtoReader;[BII)I" = some ⟨[(.object "com/example/cursorwire/cursorwire/wire/ProtoReader"), (.array .byte), .int, .int], (some .int)⟩ := by decide +kernel
theorem own_pd5 : parseMethodDescriptor "(I)Z" = some ⟨[.int], (some .boolean)⟩ := by decide +kernel
theorem own_pd6 : parseMethodDescriptor "()I" = some ⟨[], (some .int)⟩ := by decide +kernel
def own_at (xs : List Int32) (p : Int32) : Int32 := xs.getD p.toNatClampNeg 0
def own_nx (xs : List Int32) (n p t : Int32) : Int32 := if ¬ p < n then p else if ¬ own_at xs p = t then p else p + 1
def own_sk (xs : List Int32) (n p t : Int32) : Int32 := if ¬ p < n then 0 else if ¬ own_at xs p = t then 0 else 1
theorem own_get1 (xs : List Int32) (n p : Int32) (hl : (xs.map Value.int).length.toInt32 = n) (hb : xs.length < 2 ^ 31) (h0 : ¬ p < 0) (h : p < n) : (xs.map Value.int)[p.toNatClampNeg]? = some (.int (own_at xs p)) := by
  rw [List.length_map] at hl
  have e := len_toInt hb
  rw [hl] at e
  rw [Int32.lt_iff_toInt_lt] at h h0
  have z : (0 : Int32).toInt = 0 := rfl
  have q : p.toNatClampNeg < xs.length := by rw [Int32.toNatClampNeg]; omega
  unfold own_at
  simp [q]
theorem own_nx_ok (xs : List Int32) (n p t : Int32) (h0 : ¬ p < 0) (hn : ¬ n < p) : ¬ own_nx xs n p t < 0 ∧ ¬ n < own_nx xs n p t := by
  have h1 := c_iadd p 1; have h2 := rng32 (p + 1); have h3 := rng32 p; have h4 := rng32 n
  have z : (0 : Int32).toInt = 0 := rfl
  have o : (1 : Int32).toInt = 1 := rfl
  unfold own_nx
  split
  · exact ⟨h0, hn⟩
  · rename_i hh
    split
    · exact ⟨h0, hn⟩
    · rw [Int32.lt_iff_toInt_lt] at *
      rw [Int32.lt_iff_toInt_lt]
      omega
theorem own_eqn (n p : Int32) (hn : ¬ n < p) : p = n ↔ ¬ p < n := by
  rw [Int32.lt_iff_toInt_lt] at *
  rw [← Int32.toInt_inj]; omega
set_option maxRecDepth 65536 in
set_option maxHeartbeats 40000000 in
theorem own_mk2 (l : Launch) (Z : State) (a0 : Array Value) (hw : ∀ d ∈ tables_1, d.before a0 Z = true) (r b : Addr) (p n : Int32) (h0 : Heap) (n0 : Nat) (hn0 : n0 ≤ h0.size) (ge_r : n0 ≤ r) (E_r : Exa Z h0 r "com/example/cursorwire/cursorwire/wire/ProtoReader") (F_r_buffer : Fld Z h0 r "com/example/cursorwire/cursorwire/wire/ProtoReader" "buffer" "[B" (.null)) (F_r_position : Fld Z h0 r "com/example/cursorwire/cursorwire/wire/ProtoReader" "position" "I" (.int 0)) (F_r_limit : Fld Z h0 r "com/example/cursorwire/cursorwire/wire/ProtoReader" "limit" "I" (.int 0)) :
    own_W l Z (⟨"com/example/cursorwire/cursorwire/wire/ProtoReader", "<init>", "([BII)V"⟩ : MethodName) prog_80_method_3_code 4 none ({ frames := 1, cells := 0, slots := 0, locals := 12 } : Room) n0 (fun v h => v = none ∧ Keep h0 h [r] ∧ Exa Z h r "com/example/cursorwire/cursorwire/wire/ProtoReader" ∧ Fld Z h r "com/example/cursorwire/cursorwire/wire/ProtoReader" "buffer" "[B" (.ref b) ∧ Fld Z h r "com/example/cursorwire/cursorwire/wire/ProtoReader" "position" "I" (.int p) ∧ Fld Z h r "com/example/cursorwire/cursorwire/wire/ProtoReader" "limit" "I" (.int n)) h0 0 0 0 #[.val (.ref r), .val (.ref b), .val (.int p), .val (.int n)] [] := by
  refine own_aloadN (pc' := 1) d2_0 rfl rfl ?_
  refine own_initO (pc' := 4) (W := 0) (hw _ (List.mem_of_getElem? (i := 11) rfl)) (hw _ (List.mem_of_getElem? (i := 12) rfl)) (hw _ (List.mem_of_getElem? (i := 13) rfl)) d2_1 rfl rfl (by decide) (Nat.le_refl _) (by decide) ?_
  refine own_aloadN (pc' := 5) d2_4 rfl rfl ?_
  refine own_aloadN (pc' := 6) d2_5 rfl rfl ?_
  refine own_putF (pc' := 9) (hw _ (List.mem_of_getElem? (i := 14) rfl)) F_r_buffer E_r (Or.inr ⟨(hw _ (List.mem_of_getElem? (i := 15) rfl)), rfl, rfl⟩) (hw _ (List.mem_of_getElem? (i := 3) rfl)) ge_r (ty := (.array .byte)) (by decide) rfl rfl d2_6 rfl (fun h1 Wr2 K3 => ?_)
  replace E_r := E_r.wr Wr2
  replace F_r_buffer := F_r_buffer.same Wr2
  replace F_r_position := F_r_position.other Wr2 (Or.inr (slot_ne (a0 := a0) (Or.inl (hw _ (List.mem_of_getElem? (i := 17) rfl))) (Or.inr (hw _ (List.mem_of_getElem? (i := 15) rfl))) (by decide) (t := .int) (by decide) (t' := (.array .byte)) (by decide)))
  replace F_r_limit := F_r_limit.other Wr2 (Or.inr (slot_ne (a0 := a0) (Or.inl (hw _ (List.mem_of_getElem? (i := 19) rfl))) (Or.inr (hw _ (List.mem_of_getElem? (i := 15) rfl))) (by decide) (t := .int) (by decide) (t' := (.array .byte)) (by decide)))
  replace hn0 : n0 ≤ h1.size := Nat.le_trans hn0 K3.1
  refine own_aloadN (pc' := 10) d2_9 rfl rfl ?_
  refine own_iloadN (pc' := 11) d2_10 rfl rfl ?_
  refine own_putF (pc' := 14) (hw _ (List.mem_of_getElem? (i := 16) rfl)) F_r_position E_r (Or.inl (hw _ (List.mem_of_getElem? (i := 17) rfl))) (hw _ (List.mem_of_getElem? (i := 3) rfl)) ge_r (ty := .int) (by decide) rfl rfl d2_11 rfl (fun h4 Wr5 K6 => ?_)
  replace E_r := E_r.wr Wr5
  replace F_r_buffer := F_r_buffer.other Wr5 (Or.inr (slot_ne (a0 := a0) (Or.inr (hw _ (List.mem_of_getElem? (i := 15) rfl))) (Or.inl (hw _ (List.mem_of_getElem? (i := 17) rfl))) (by decide) (t := (.array .byte)) (by decide) (t' := .int) (by decide)))
  replace F_r_position := F_r_position.same Wr5
  replace F_r_limit := F_r_limit.other Wr5 (Or.inr (slot_ne (a0 := a0) (Or.inl (hw _ (List.mem_of_getElem? (i := 19) rfl))) (Or.inl (hw _ (List.mem_of_getElem? (i := 17) rfl))) (by decide) (t := .int) (by decide) (t' := .int) (by decide)))
  replace hn0 : n0 ≤ h4.size := Nat.le_trans hn0 K6.1
  refine own_aloadN (pc' := 15) d2_14 rfl rfl ?_
  refine own_iloadN (pc' := 16) d2_15 rfl rfl ?_
  refine own_putF (pc' := 19) (hw _ (List.mem_of_getElem? (i := 18) rfl)) F_r_limit E_r (Or.inl (hw _ (List.mem_of_getElem? (i := 19) rfl))) (hw _ (List.mem_of_getElem? (i := 3) rfl)) ge_r (ty := .int) (by decide) rfl rfl d2_16 rfl (fun h7 Wr8 K9 => ?_)
  replace E_r := E_r.wr Wr8
  replace F_r_buffer := F_r_buffer.other Wr8 (Or.inr (slot_ne (a0 := a0) (Or.inr (hw _ (List.mem_of_getElem? (i := 15) rfl))) (Or.inl (hw _ (List.mem_of_getElem? (i := 19) rfl))) (by decide) (t := (.array .byte)) (by decide) (t' := .int) (by decide)))
  replace F_r_position := F_r_position.other Wr8 (Or.inr (slot_ne (a0 := a0) (Or.inl (hw _ (List.mem_of_getElem? (i := 17) rfl))) (Or.inl (hw _ (List.mem_of_getElem? (i := 19) rfl))) (by decide) (t := .int) (by decide) (t' := .int) (by decide)))
  replace F_r_limit := F_r_limit.same Wr8
  replace hn0 : n0 ≤ h7.size := Nat.le_trans hn0 K9.1
  exact own_ret rfl d2_19 ⟨rfl, ((((Keep.refl h0 [r]).trans K3 (fun x hx => Or.inl hx)).trans K6 (fun x hx => Or.inl hx)).trans K9 (fun x hx => Or.inl hx)), E_r, F_r_buffer, F_r_position, F_r_limit⟩
set_option maxRecDepth 65536 in
set_option maxHeartbeats 40000000 in
theorem own_mk (l : Launch) (Z : State) (a0 : Array Value) (hw : ∀ d ∈ tables_1, d.before a0 Z = true) (r b : Addr) (vs : List Value) (n : Int32) (h0 : Heap) (n0 : Nat) (hn0 : n0 ≤ h0.size) (ge_r : n0 ≤ r) (A_b : own_A Z h0 b .byte vs) (hlen : vs.length.toInt32 = n) (E_r : Exa Z h0 r "com/example/cursorwire/cursorwire/wire/ProtoReader") (F_r_buffer : Fld Z h0 r "com/example/cursorwire/cursorwire/wire/ProtoReader" "buffer" "[B" (.null)) (F_r_position : Fld Z h0 r "com/example/cursorwire/cursorwire/wire/ProtoReader" "position" "I" (.int 0)) (F_r_limit : Fld Z h0 r "com/example/cursorwire/cursorwire/wire/ProtoReader" "limit" "I" (.int 0)) :
    own_W l Z (⟨"com/example/cursorwire/cursorwire/wire/ProtoReader", "<init>", "([B)V"⟩ : MethodName) prog_80_method_1_code 2 none ({ frames := 2, cells := 0, slots := 0, locals := 27 } : Room) n0 (fun v h => v = none ∧ Keep h0 h [r] ∧ Exa Z h r "com/example/cursorwire/cursorwire/wire/ProtoReader" ∧ Fld Z h r "com/example/cursorwire/cursorwire/wire/ProtoReader" "buffer" "[B" (.ref b) ∧ Fld Z h r "com/example/cursorwire/cursorwire/wire/ProtoReader" "position" "I" (.int 0) ∧ Fld Z h r "com/example/cursorwire/cursorwire/wire/ProtoReader" "limit" "I" (.int n)) h0 0 0 0 #[.val (.ref r), .val (.ref b)] [] := by
  refine own_aloadN (pc' := 1) d1_0 rfl rfl ?_
  refine own_aloadN (pc' := 2) d1_1 rfl rfl ?_
  refine own_iconst (0 : Int32) (pc' := 3) d1_2 rfl rfl ?_
  refine own_aloadN (pc' := 4) d1_3 rfl rfl ?_
  refine own_len (pc' := 5) (n := n) A_b hlen d1_4 rfl ?_
  refine own_special (ret' := none) (own_mk2 l Z a0 hw r b 0 n h0 n0 hn0 ge_r E_r F_r_buffer F_r_position F_r_limit) (hw _ (List.mem_of_getElem? (i := 8) rfl)) (hw _ (List.mem_of_getElem? (i := 9) rfl)) (hw _ (List.mem_of_getElem? (i := 4) rfl)) (hw _ (List.mem_of_getElem? (i := 10) rfl)) rfl (plainFor_of_name own_pn1) (by decide) own_pd2 rfl (argsL := [.ref b, .int (0 : Int32), .int n]) (rest := []) rfl rfl (W := 0) (Nat.le_refl _) (by decide) (by decide) (by decide) (by decide) rfl d1_5 (pc' := 8) rfl (fun v_ h10 hq => ?_)
  obtain ⟨rfl, K_1, E_1, F_1, F_2, F_3⟩ := hq
  show own_W l Z (⟨"com/example/cursorwire/cursorwire/wire/ProtoReader", "<init>", "([B)V"⟩ : MethodName) prog_80_method_1_code 2 none ({ frames := 2, cells := 0, slots := 0, locals := 27 } : Room) n0 (fun v h => v = none ∧ Keep h0 h [r] ∧ Exa Z h r "com/example/cursorwire/cursorwire/wire/ProtoReader" ∧ Fld Z h r "com/example/cursorwire/cursorwire/wire/ProtoReader" "buffer" "[B" (.ref b) ∧ Fld Z h r "com/example/cursorwire/cursorwire/wire/ProtoReader" "position" "I" (.int 0) ∧ Fld Z h r "com/example/cursorwire/cursorwire/wire/ProtoReader" "limit" "I" (.int n)) h10 0 0 8 #[.val (.ref r), .val (.ref b)] []
  exact own_ret rfl d1_8 ⟨rfl, K_1, E_1, F_1, F_2, F_3⟩
set_option maxRecDepth 65536 in
set_option maxHeartbeats 40000000 in
theorem own_skW (l : Launch) (Z : State) (a0 : Array Value) (hw : ∀ d ∈ tables_1, d.before a0 Z = true) (r b : Addr) (xs : List Int32) (n p t : Int32) (h0 : Heap) (n0 : Nat) (hn0 : n0 ≤ h0.size) (hlen : (xs.map Value.int).length.toInt32 = n) (hbig : xs.length < 2 ^ 31) (hp0 : ¬ p < 0) (hpn : ¬ n < p) (ge_r : n0 ≤ r) (ne_r_b : r ≠ b) (A_b : own_A Z h0 b .byte (xs.map Value.int)) (E_r : Exa Z h0 r "com/example/cursorwire/cursorwire/wire/ProtoReader") (F_r_buffer : Fld Z h0 r "com/example/cursorwire/cursorwire/wire/ProtoReader" "buffer" "[B" (.ref b)) (F_r_position : Fld Z h0 r "com/example/cursorwire/cursorwire/wire/ProtoReader" "position" "I" (.int p)) (F_r_limit : Fld Z h0 r "com/example/cursorwire/cursorwire/wire/ProtoReader" "limit" "I" (.int n)) :
    own_W l Z (⟨"com/example/cursorwire/cursorwire/wire/ProtoReader", "skipTag", "(I)Z"⟩ : MethodName) prog_80_method_8_code 2 (some .boolean) ({ frames := 0, cells := 0, slots := 0, locals := 0 } : Room) n0 (fun v h => v = some (.int (own_sk xs n p t)) ∧ Keep h0 h [r] ∧ Exa Z h r "com/example/cursorwire/cursorwire/wire/ProtoReader" ∧ Fld Z h r "com/example/cursorwire/cursorwire/wire/ProtoReader" "buffer" "[B" (.ref b) ∧ Fld Z h r "com/example/cursorwire/cursorwire/wire/ProtoReader" "position" "I" (.int (own_nx xs n p t)) ∧ Fld Z h r "com/example/cursorwire/cursorwire/wire/ProtoReader" "limit" "I" (.int n)) h0 0 0 0 #[.val (.ref r), .val (.int t)] [] := by
  refine own_aloadN (pc' := 1) d5_0 rfl rfl ?_
  refine own_getF (pc' := 4) (hw _ (List.mem_of_getElem? (i := 16) rfl)) F_r_position d5_1 rfl ?_
  refine own_aloadN (pc' := 5) d5_4 rfl rfl ?_
  refine own_getF (pc' := 8) (hw _ (List.mem_of_getElem? (i := 18) rfl)) F_r_limit d5_5 rfl ?_
  refine own_ic_eq (pc' := 24) (pf := 11) d5_8 (by decide) (by decide) rfl (fun h_8 => ?_) (fun h_8 => ?_)
  · have h1 := (own_eqn n p hpn).mp h_8
    refine own_iconst (0 : Int32) (pc' := 25) d5_24 rfl rfl ?_
    have e1 : own_sk xs n p t = 0 := by unfold own_sk; simp [h1]
    have e2 : own_nx xs n p t = p := by unfold own_nx; simp [h1]
    rw [e1, e2]
    exact own_bret (v := (0 : Int32)) rfl (by first | rfl | decide | assumption) d5_25 ⟨rfl, Keep.refl h0 [r], E_r, F_r_buffer, F_r_position, F_r_limit⟩
  · have h1 : p < n := Decidable.not_not.mp (fun q => h_8 ((own_eqn n p hpn).mpr q))
    refine own_aloadN (pc' := 12) d5_11 rfl rfl ?_
    refine own_getF (pc' := 15) (hw _ (List.mem_of_getElem? (i := 14) rfl)) F_r_buffer d5_12 rfl ?_
    refine own_aloadN (pc' := 16) d5_15 rfl rfl ?_
    refine own_getF (pc' := 19) (hw _ (List.mem_of_getElem? (i := 16) rfl)) F_r_position d5_16 rfl ?_
    refine own_baload (pc' := 20) (v := .int (own_at xs p)) A_b hp0 (own_get1 xs n p hlen hbig hp0 h1) d5_19 rfl ?_
    refine own_iloadN (pc' := 21) d5_20 rfl rfl ?_
    refine own_ic_eq (pc' := 26) (pf := 24) d5_21 (by decide) (by decide) rfl (fun h_21 => ?_) (fun h_21 => ?_)
    · have e1 : own_sk xs n p t = 1 := by unfold own_sk; simp [h1, h_21]
      have e2 : own_nx xs n p t = p + 1 := by unfold own_nx; simp [h1, h_21]
      rw [e1, e2]
      refine own_aloadN (pc' := 27) d5_26 rfl rfl ?_
      refine own_dup (pc' := 28) d5_27 rfl rfl ?_
      refine own_getF (pc' := 31) (hw _ (List.mem_of_getElem? (i := 16) rfl)) F_r_position d5_28 rfl ?_
      refine own_iconst (1 : Int32) (pc' := 32) d5_31 rfl rfl ?_
      refine own_iadd (pc' := 33) d5_32 rfl ?_
      refine own_putF (pc' := 36) (hw _ (List.mem_of_getElem? (i := 16) rfl)) F_r_position E_r (Or.inl (hw _ (List.mem_of_getElem? (i := 17) rfl))) (hw _ (List.mem_of_getElem? (i := 3) rfl)) ge_r (ty := .int) (by decide) rfl rfl d5_33 rfl (fun h11 Wr12 K13 => ?_)
      replace A_b := A_b.keep K13 (ninS (Ne.symm ne_r_b) nin0)
      replace E_r := E_r.wr Wr12
      replace F_r_buffer := F_r_buffer.other Wr12 (Or.inr (slot_ne (a0 := a0) (Or.inr (hw _ (List.mem_of_getElem? (i := 15) rfl))) (Or.inl (hw _ (List.mem_of_getElem? (i := 17) rfl))) (by decide) (t := (.array .byte)) (by decide) (t' := .int) (by decide)))
      replace F_r_position := F_r_position.same Wr12
      replace F_r_limit := F_r_limit.other Wr12 (Or.inr (slot_ne (a0 := a0) (Or.inl (hw _ (List.mem_of_getElem? (i := 19) rfl))) (Or.inl (hw _ (List.mem_of_getElem? (i := 17) rfl))) (by decide) (t := .int) (by decide) (t' := .int) (by decide)))
      replace hn0 : n0 ≤ h11.size := Nat.le_trans hn0 K13.1
      refine own_iconst (1 : Int32) (pc' := 37) d5_36 rfl rfl ?_
      exact own_bret (v := (1 : Int32)) rfl (by first | rfl | decide | assumption) d5_37 ⟨rfl, K13, E_r, F_r_buffer, F_r_position, F_r_limit⟩
    · refine own_iconst (0 : Int32) (pc' := 25) d5_24 rfl rfl ?_
      have e1 : own_sk xs n p t = 0 := by unfold own_sk; simp [h1, h_21]
      have e2 : own_nx xs n p t = p := by unfold own_nx; simp [h1, h_21]
      rw [e1, e2]
      exact own_bret (v := (0 : Int32)) rfl (by first | rfl | decide | assumption) d5_25 ⟨rfl, Keep.refl h0 [r], E_r, F_r_buffer, F_r_position, F_r_limit⟩
set_option maxRecDepth 65536 in
set_option maxHeartbeats 40000000 in
theorem own_posW (l : Launch) (Z : State) (a0 : Array Value) (hw : ∀ d ∈ tables_1, d.before a0 Z = true) (r : Addr) (p n : Int32) (h0 : Heap) (n0 : Nat) (hn0 : n0 ≤ h0.size) (F_p : Fld Z h0 r "com/example/cursorwire/cursorwire/wire/ProtoReader" "position" "I" (.int p)) (F_n : Fld Z h0 r "com/example/cursorwire/cursorwire/wire/ProtoReader" "limit" "I" (.int n)) :
    own_W l Z (⟨"com/example/cursorwire/cursorwire/wire/ProtoReader", "position", "()I"⟩ : MethodName) prog_80_method_11_code 1 (some .int) ({ frames := 0, cells := 0, slots := 0, locals := 0 } : Room) n0 (fun v h => v = some (.int p) ∧ h0 = h) h0 0 0 0 #[.val (.ref r)] [] := by
  refine own_aloadN (pc' := 1) d6_0 rfl rfl ?_
  refine own_getF (pc' := 4) (hw _ (List.mem_of_getElem? (i := 16) rfl)) F_p d6_1 rfl ?_
  exact own_iret rfl d6_4 ⟨rfl, rfl⟩
set_option maxRecDepth 65536 in
set_option maxHeartbeats 40000000 in
theorem own_rmW (l : Launch) (Z : State) (a0 : Array Value) (hw : ∀ d ∈ tables_1, d.before a0 Z = true) (r : Addr) (p n : Int32) (h0 : Heap) (n0 : Nat) (hn0 : n0 ≤ h0.size) (F_p : Fld Z h0 r "com/example/cursorwire/cursorwire/wire/ProtoReader" "position" "I" (.int p)) (F_n : Fld Z h0 r "com/example/cursorwire/cursorwire/wire/ProtoReader" "limit" "I" (.int n)) :
    own_W l Z (⟨"com/example/cursorwire/cursorwire/wire/ProtoReader", "remaining", "()I"⟩ : MethodName) prog_80_method_9_code 1 (some .int) ({ frames := 0, cells := 0, slots := 0, locals := 0 } : Room) n0 (fun v h => v = some (.int (n - p)) ∧ h0 = h) h0 0 0 0 #[.val (.ref r)] [] := by
  refine own_aloadN (pc' := 1) d7_0 rfl rfl ?_
  refine own_getF (pc' := 4) (hw _ (List.mem_of_getElem? (i := 18) rfl)) F_n d7_1 rfl ?_
  refine own_aloadN (pc' := 5) d7_4 rfl rfl ?_
  refine own_getF (pc' := 8) (hw _ (List.mem_of_getElem? (i := 16) rfl)) F_p d7_5 rfl ?_
  refine own_isub (pc' := 9) d7_8 rfl ?_
  exact own_iret rfl d7_9 ⟨rfl, rfl⟩
set_option maxRecDepth 65536 in
set_option maxHeartbeats 40000000 in
theorem own_stepW (l : Launch) (Z : State) (a0 : Array Value) (hw : ∀ d ∈ tables_1, d.before a0 Z = true) (r b : Addr) (xs : List Int32) (n p t : Int32) (h0 : Heap) (n0 : Nat) (hn0 : n0 ≤ h0.size) (hlen : (xs.map Value.int).length.toInt32 = n) (hbig : xs.length < 2 ^ 31) (hp0 : ¬ p < 0) (hpn : ¬ n < p) (ge_r : n0 ≤ r) (ne_r_b : r ≠ b) (A_b : own_A Z h0 b .byte (xs.map Value.int)) (E_r : Exa Z h0 r "com/example/cursorwire/cursorwire/wire/ProtoReader") (F_r_buffer : Fld Z h0 r "com/example/cursorwire/cursorwire/wire/ProtoReader" "buffer" "[B" (.ref b)) (F_r_position : Fld Z h0 r "com/example/cursorwire/cursorwire/wire/ProtoReader" "position" "I" (.int p)) (F_r_limit : Fld Z h0 r "com/example/cursorwire/cursorwire/wire/ProtoReader" "limit" "I" (.int n)) :
    own_W l Z (⟨"com/example/cursorwire/cursorwire/wire/ProtoReaderSkipTagPinLaw", "step", "(Lcom/example/cursorwire/cursorwire/wire/ProtoReader;[BII)I"⟩ : MethodName) method_2_code 7 (some .int) ({ frames := 1, cells := 0, slots := 0, locals := 13 } : Room) n0 (fun v h => v = some (.int (own_nx xs n p t)) ∧ Keep h0 h [r] ∧ Exa Z h r "com/example/cursorwire/cursorwire/wire/ProtoReader" ∧ Fld Z h r "com/example/cursorwire/cursorwire/wire/ProtoReader" "buffer" "[B" (.ref b) ∧ Fld Z h r "com/example/cursorwire/cursorwire/wire/ProtoReader" "position" "I" (.int (own_nx xs n p t)) ∧ Fld Z h r "com/example/cursorwire/cursorwire/wire/ProtoReader" "limit" "I" (.int n)) h0 0 0 0 #[.val (.ref r), .val (.ref b), .val (.int p), .val (.int t), .unset, .unset, .unset] [] := by
  refine own_iloadN (pc' := 1) d4_0 rfl rfl ?_
  refine own_if_ge_t (pc' := 6) d4_1 hp0 (by decide) (by decide) ?_
  refine own_iloadN (pc' := 7) d4_6 rfl rfl ?_
  refine own_aloadN (pc' := 8) d4_7 rfl rfl ?_
  refine own_len (pc' := 9) (n := n) A_b hlen d4_8 rfl ?_
  refine own_ic_ge (pc' := 23) (pf := 12) d4_9 (by decide) (by decide) rfl (fun h_9 => ?_) (fun h_9 => ?_)
  · have e1 : own_sk xs n p t = 0 := by unfold own_sk; simp [h_9]
    have e2 : own_nx xs n p t = p := by unfold own_nx; simp [h_9]
    refine own_iconst (0 : Int32) (pc' := 24) d4_23 rfl rfl ?_
    refine own_istore (pc' := 26) (Ls' := #[.val (.ref r), .val (.ref b), .val (.int p), .val (.int t), .val (.int (0 : Int32)), .unset, .unset]) d4_24 rfl rfl ?_
    refine own_aloadN (pc' := 27) d4_26 rfl rfl ?_
    refine own_iloadN (pc' := 28) d4_27 rfl rfl ?_
    refine own_virtual (own_skW l Z a0 hw r b xs n p t h0 n0 hn0 hlen hbig hp0 hpn ge_r ne_r_b A_b E_r F_r_buffer F_r_position F_r_limit) E_r (hw _ (List.mem_of_getElem? (i := 24) rfl)) (hw _ (List.mem_of_getElem? (i := 25) rfl)) (hw _ (List.mem_of_getElem? (i := 27) rfl)) (hw _ (List.mem_of_getElem? (i := 26) rfl)) (hw _ (List.mem_of_getElem? (i := 4) rfl)) (hw _ (List.mem_of_getElem? (i := 28) rfl)) (plainFor_of_name own_pn1) (by decide) own_pd5 rfl (argsL := [.int t]) (rest := []) rfl rfl (W := 0) (Nat.le_refl _) (by decide) (by decide) (by decide) (by decide) rfl d4_28 (pc' := 31) rfl (fun v_ h14 hq => ?_)
    obtain ⟨rfl, K_1, E_1, F_1, F_2, F_3⟩ := hq
    show own_W l Z (⟨"com/example/cursorwire/cursorwire/wire/ProtoReaderSkipTagPinLaw", "step", "(Lcom/example/cursorwire/cursorwire/wire/ProtoReader;[BII)I"⟩ : MethodName) method_2_code 7 (some .int) ({ frames := 1, cells := 0, slots := 0, locals := 13 } : Room) n0 (fun v h => v = some (.int (own_nx xs n p t)) ∧ Keep h0 h [r] ∧ Exa Z h r "com/example/cursorwire/cursorwire/wire/ProtoReader" ∧ Fld Z h r "com/example/cursorwire/cursorwire/wire/ProtoReader" "buffer" "[B" (.ref b) ∧ Fld Z h r "com/example/cursorwire/cursorwire/wire/ProtoReader" "position" "I" (.int (own_nx xs n p t)) ∧ Fld Z h r "com/example/cursorwire/cursorwire/wire/ProtoReader" "limit" "I" (.int n)) h14 0 0 31 #[.val (.ref r), .val (.ref b), .val (.int p), .val (.int t), .val (.int (0 : Int32)), .unset, .unset] [.int (own_sk xs n p t)]
    replace A_b := A_b.keep K_1 (ninS (Ne.symm ne_r_b) nin0)
    replace E_r := E_1
    replace F_r_buffer := F_1
    replace F_r_position := F_2
    replace F_r_limit := F_3
    replace hn0 : n0 ≤ h14.size := Nat.le_trans hn0 K_1.1
    refine own_istore (pc' := 33) (Ls' := #[.val (.ref r), .val (.ref b), .val (.int p), .val (.int t), .val (.int (0 : Int32)), .val (.int (own_sk xs n p t)), .unset]) d4_31 rfl rfl ?_
    refine own_iload (pc' := 35) d4_33 rfl rfl ?_
    refine own_if_eq_t (pc' := 44) d4_35 (by decide) (by decide) (by decide) ?_
    refine own_iloadN (pc' := 45) d4_44 rfl rfl ?_
    refine own_istore (pc' := 47) (Ls' := #[.val (.ref r), .val (.ref b), .val (.int p), .val (.int t), .val (.int (0 : Int32)), .val (.int (own_sk xs n p t)), .val (.int p)]) d4_45 rfl rfl ?_
    refine own_iload (pc' := 49) d4_47 rfl rfl ?_
    refine own_iload (pc' := 51) d4_49 rfl rfl ?_
    refine own_ic_eq_t (pc' := 56) d4_51 e1 (by decide) (by decide) ?_
    refine own_aloadN (pc' := 57) d4_56 rfl rfl ?_
    refine own_virtual (own_posW l Z a0 hw r (own_nx xs n p t) n h14 n0 hn0 F_r_position F_r_limit) E_r (hw _ (List.mem_of_getElem? (i := 29) rfl)) (hw _ (List.mem_of_getElem? (i := 30) rfl)) (hw _ (List.mem_of_getElem? (i := 32) rfl)) (hw _ (List.mem_of_getElem? (i := 31) rfl)) (hw _ (List.mem_of_getElem? (i := 4) rfl)) (hw _ (List.mem_of_getElem? (i := 33) rfl)) (plainFor_of_name own_pn1) (by decide) own_pd6 rfl (argsL := []) (rest := []) rfl rfl (W := 0) (Nat.le_refl _) (by decide) (by decide) (by decide) (by decide) rfl d4_57 (pc' := 60) rfl (fun v_ h15 hq => ?_)
    obtain ⟨rfl, rfl⟩ := hq
    show own_W l Z (⟨"com/example/cursorwire/cursorwire/wire/ProtoReaderSkipTagPinLaw", "step", "(Lcom/example/cursorwire/cursorwire/wire/ProtoReader;[BII)I"⟩ : MethodName) method_2_code 7 (some .int) ({ frames := 1, cells := 0, slots := 0, locals := 13 } : Room) n0 (fun v h => v = some (.int (own_nx xs n p t)) ∧ Keep h0 h [r] ∧ Exa Z h r "com/example/cursorwire/cursorwire/wire/ProtoReader" ∧ Fld Z h r "com/example/cursorwire/cursorwire/wire/ProtoReader" "buffer" "[B" (.ref b) ∧ Fld Z h r "com/example/cursorwire/cursorwire/wire/ProtoReader" "position" "I" (.int (own_nx xs n p t)) ∧ Fld Z h r "com/example/cursorwire/cursorwire/wire/ProtoReader" "limit" "I" (.int n)) h14 0 0 60 #[.val (.ref r), .val (.ref b), .val (.int p), .val (.int t), .val (.int (0 : Int32)), .val (.int (own_sk xs n p t)), .val (.int p)] [.int (own_nx xs n p t)]
    refine own_iload (pc' := 62) d4_60 rfl rfl ?_
    refine own_ic_eq_t (pc' := 67) d4_62 e2 (by decide) (by decide) ?_
    refine own_aloadN (pc' := 68) d4_67 rfl rfl ?_
    refine own_virtual (own_rmW l Z a0 hw r (own_nx xs n p t) n h14 n0 hn0 F_r_position F_r_limit) E_r (hw _ (List.mem_of_getElem? (i := 34) rfl)) (hw _ (List.mem_of_getElem? (i := 35) rfl)) (hw _ (List.mem_of_getElem? (i := 37) rfl)) (hw _ (List.mem_of_getElem? (i := 36) rfl)) (hw _ (List.mem_of_getElem? (i := 4) rfl)) (hw _ (List.mem_of_getElem? (i := 38) rfl)) (plainFor_of_name own_pn1) (by decide) own_pd6 rfl (argsL := []) (rest := []) rfl rfl (W := 0) (Nat.le_refl _) (by decide) (by decide) (by decide) (by decide) rfl d4_68 (pc' := 71) rfl (fun v_ h16 hq => ?_)
    obtain ⟨rfl, rfl⟩ := hq
    show own_W l Z (⟨"com/example/cursorwire/cursorwire/wire/ProtoReaderSkipTagPinLaw", "step", "(Lcom/example/cursorwire/cursorwire/wire/ProtoReader;[BII)I"⟩ : MethodName) method_2_code 7 (some .int) ({ frames := 1, cells := 0, slots := 0, locals := 13 } : Room) n0 (fun v h => v = some (.int (own_nx xs n p t)) ∧ Keep h0 h [r] ∧ Exa Z h r "com/example/cursorwire/cursorwire/wire/ProtoReader" ∧ Fld Z h r "com/example/cursorwire/cursorwire/wire/ProtoReader" "buffer" "[B" (.ref b) ∧ Fld Z h r "com/example/cursorwire/cursorwire/wire/ProtoReader" "position" "I" (.int (own_nx xs n p t)) ∧ Fld Z h r "com/example/cursorwire/cursorwire/wire/ProtoReader" "limit" "I" (.int n)) h14 0 0 71 #[.val (.ref r), .val (.ref b), .val (.int p), .val (.int t), .val (.int (0 : Int32)), .val (.int (own_sk xs n p t)), .val (.int p)] [.int (n - (own_nx xs n p t))]
    refine own_aloadN (pc' := 72) d4_71 rfl rfl ?_
    refine own_len (pc' := 73) (n := n) A_b hlen d4_72 rfl ?_
    refine own_iload (pc' := 75) d4_73 rfl rfl ?_
    refine own_isub (pc' := 76) d4_75 rfl ?_
    refine own_ic_eq_t (pc' := 81) d4_76 (by rw [e2]) (by decide) (by decide) ?_
    refine own_iload (pc' := 83) d4_81 rfl rfl ?_
    exact own_iret rfl d4_83 ⟨by rw [e2], K_1, E_r, F_r_buffer, F_r_position, F_r_limit⟩
  · refine own_aloadN (pc' := 13) d4_12 rfl rfl ?_
    refine own_iloadN (pc' := 14) d4_13 rfl rfl ?_
    refine own_baload (pc' := 15) (v := .int (own_at xs p)) A_b hp0 (own_get1 xs n p hlen hbig hp0 h_9) d4_14 rfl ?_
    refine own_iloadN (pc' := 16) d4_15 rfl rfl ?_
    refine own_ic_ne (pc' := 23) (pf := 19) d4_16 (by decide) (by decide) rfl (fun h_16 => ?_) (fun h_16 => ?_)
    · have e1 : own_sk xs n p t = 0 := by unfold own_sk; simp [h_9, h_16]
      have e2 : own_nx xs n p t = p := by unfold own_nx; simp [h_9, h_16]
      refine own_iconst (0 : Int32) (pc' := 24) d4_23 rfl rfl ?_
      refine own_istore (pc' := 26) (Ls' := #[.val (.ref r), .val (.ref b), .val (.int p), .val (.int t), .val (.int (0 : Int32)), .unset, .unset]) d4_24 rfl rfl ?_
      refine own_aloadN (pc' := 27) d4_26 rfl rfl ?_
      refine own_iloadN (pc' := 28) d4_27 rfl rfl ?_
      refine own_virtual (own_skW l Z a0 hw r b xs n p t h0 n0 hn0 hlen hbig hp0 hpn ge_r ne_r_b A_b E_r F_r_buffer F_r_position F_r_limit) E_r (hw _ (List.mem_of_getElem? (i := 24) rfl)) (hw _ (List.mem_of_getElem? (i := 25) rfl)) (hw _ (List.mem_of_getElem? (i := 27) rfl)) (hw _ (List.mem_of_getElem? (i := 26) rfl)) (hw _ (List.mem_of_getElem? (i := 4) rfl)) (hw _ (List.mem_of_getElem? (i := 28) rfl)) (plainFor_of_name own_pn1) (by decide) own_pd5 rfl (argsL := [.int t]) (rest := []) rfl rfl (W := 0) (Nat.le_refl _) (by decide) (by decide) (by decide) (by decide) rfl d4_28 (pc' := 31) rfl (fun v_ h17 hq => ?_)
      obtain ⟨rfl, K_1, E_1, F_1, F_2, F_3⟩ := hq
      show own_W l Z (⟨"com/example/cursorwire/cursorwire/wire/ProtoReaderSkipTagPinLaw", "step", "(Lcom/example/cursorwire/cursorwire/wire/ProtoReader;[BII)I"⟩ : MethodName) method_2_code 7 (some .int) ({ frames := 1, cells := 0, slots := 0, locals := 13 } : Room) n0 (fun v h => v = some (.int (own_nx xs n p t)) ∧ Keep h0 h [r] ∧ Exa Z h r "com/example/cursorwire/cursorwire/wire/ProtoReader" ∧ Fld Z h r "com/example/cursorwire/cursorwire/wire/ProtoReader" "buffer" "[B" (.ref b) ∧ Fld Z h r "com/example/cursorwire/cursorwire/wire/ProtoReader" "position" "I" (.int (own_nx xs n p t)) ∧ Fld Z h r "com/example/cursorwire/cursorwire/wire/ProtoReader" "limit" "I" (.int n)) h17 0 0 31 #[.val (.ref r), .val (.ref b), .val (.int p), .val (.int t), .val (.int (0 : Int32)), .unset, .unset] [.int (own_sk xs n p t)]
      replace A_b := A_b.keep K_1 (ninS (Ne.symm ne_r_b) nin0)
      replace E_r := E_1
      replace F_r_buffer := F_1
      replace F_r_position := F_2
      replace F_r_limit := F_3
      replace hn0 : n0 ≤ h17.size := Nat.le_trans hn0 K_1.1
      refine own_istore (pc' := 33) (Ls' := #[.val (.ref r), .val (.ref b), .val (.int p), .val (.int t), .val (.int (0 : Int32)), .val (.int (own_sk xs n p t)), .unset]) d4_31 rfl rfl ?_
      refine own_iload (pc' := 35) d4_33 rfl rfl ?_
      refine own_if_eq_t (pc' := 44) d4_35 (by decide) (by decide) (by decide) ?_
      refine own_iloadN (pc' := 45) d4_44 rfl rfl ?_
      refine own_istore (pc' := 47) (Ls' := #[.val (.ref r), .val (.ref b), .val (.int p), .val (.int t), .val (.int (0 : Int32)), .val (.int (own_sk xs n p t)), .val (.int p)]) d4_45 rfl rfl ?_
      refine own_iload (pc' := 49) d4_47 rfl rfl ?_
      refine own_iload (pc' := 51) d4_49 rfl rfl ?_
      refine own_ic_eq_t (pc' := 56) d4_51 e1 (by decide) (by decide) ?_
      refine own_aloadN (pc' := 57) d4_56 rfl rfl ?_
      refine own_virtual (own_posW l Z a0 hw r (own_nx xs n p t) n h17 n0 hn0 F_r_position F_r_limit) E_r (hw _ (List.mem_of_getElem? (i := 29) rfl)) (hw _ (List.mem_of_getElem? (i := 30) rfl)) (hw _ (List.mem_of_getElem? (i := 32) rfl)) (hw _ (List.mem_of_getElem? (i := 31) rfl)) (hw _ (List.mem_of_getElem? (i := 4) rfl)) (hw _ (List.mem_of_getElem? (i := 33) rfl)) (plainFor_of_name own_pn1) (by decide) own_pd6 rfl (argsL := []) (rest := []) rfl rfl (W := 0) (Nat.le_refl _) (by decide) (by decide) (by decide) (by decide) rfl d4_57 (pc' := 60) rfl (fun v_ h18 hq => ?_)
      obtain ⟨rfl, rfl⟩ := hq
      show own_W l Z (⟨"com/example/cursorwire/cursorwire/wire/ProtoReaderSkipTagPinLaw", "step", "(Lcom/example/cursorwire/cursorwire/wire/ProtoReader;[BII)I"⟩ : MethodName) method_2_code 7 (some .int) ({ frames := 1, cells := 0, slots := 0, locals := 13 } : Room) n0 (fun v h => v = some (.int (own_nx xs n p t)) ∧ Keep h0 h [r] ∧ Exa Z h r "com/example/cursorwire/cursorwire/wire/ProtoReader" ∧ Fld Z h r "com/example/cursorwire/cursorwire/wire/ProtoReader" "buffer" "[B" (.ref b) ∧ Fld Z h r "com/example/cursorwire/cursorwire/wire/ProtoReader" "position" "I" (.int (own_nx xs n p t)) ∧ Fld Z h r "com/example/cursorwire/cursorwire/wire/ProtoReader" "limit" "I" (.int n)) h17 0 0 60 #[.val (.ref r), .val (.ref b), .val (.int p), .val (.int t), .val (.int (0 : Int32)), .val (.int (own_sk xs n p t)), .val (.int p)] [.int (own_nx xs n p t)]
      refine own_iload (pc' := 62) d4_60 rfl rfl ?_
      refine own_ic_eq_t (pc' := 67) d4_62 e2 (by decide) (by decide) ?_
      refine own_aloadN (pc' := 68) d4_67 rfl rfl ?_
      refine own_virtual (own_rmW l Z a0 hw r (own_nx xs n p t) n h17 n0 hn0 F_r_position F_r_limit) E_r (hw _ (List.mem_of_getElem? (i := 34) rfl)) (hw _ (List.mem_of_getElem? (i := 35) rfl)) (hw _ (List.mem_of_getElem? (i := 37) rfl)) (hw _ (List.mem_of_getElem? (i := 36) rfl)) (hw _ (List.mem_of_getElem? (i := 4) rfl)) (hw _ (List.mem_of_getElem? (i := 38) rfl)) (plainFor_of_name own_pn1) (by decide) own_pd6 rfl (argsL := []) (rest := []) rfl rfl (W := 0) (Nat.le_refl _) (by decide) (by decide) (by decide) (by decide) rfl d4_68 (pc' := 71) rfl (fun v_ h19 hq => ?_)
      obtain ⟨rfl, rfl⟩ := hq
      show own_W l Z (⟨"com/example/cursorwire/cursorwire/wire/ProtoReaderSkipTagPinLaw", "step", "(Lcom/example/cursorwire/cursorwire/wire/ProtoReader;[BII)I"⟩ : MethodName) method_2_code 7 (some .int) ({ frames := 1, cells := 0, slots := 0, locals := 13 } : Room) n0 (fun v h => v = some (.int (own_nx xs n p t)) ∧ Keep h0 h [r] ∧ Exa Z h r "com/example/cursorwire/cursorwire/wire/ProtoReader" ∧ Fld Z h r "com/example/cursorwire/cursorwire/wire/ProtoReader" "buffer" "[B" (.ref b) ∧ Fld Z h r "com/example/cursorwire/cursorwire/wire/ProtoReader" "position" "I" (.int (own_nx xs n p t)) ∧ Fld Z h r "com/example/cursorwire/cursorwire/wire/ProtoReader" "limit" "I" (.int n)) h17 0 0 71 #[.val (.ref r), .val (.ref b), .val (.int p), .val (.int t), .val (.int (0 : Int32)), .val (.int (own_sk xs n p t)), .val (.int p)] [.int (n - (own_nx xs n p t))]
      refine own_aloadN (pc' := 72) d4_71 rfl rfl ?_
      refine own_len (pc' := 73) (n := n) A_b hlen d4_72 rfl ?_
      refine own_iload (pc' := 75) d4_73 rfl rfl ?_
      refine own_isub (pc' := 76) d4_75 rfl ?_
      refine own_ic_eq_t (pc' := 81) d4_76 (by rw [e2]) (by decide) (by decide) ?_
      refine own_iload (pc' := 83) d4_81 rfl rfl ?_
      exact own_iret rfl d4_83 ⟨by rw [e2], K_1, E_r, F_r_buffer, F_r_position, F_r_limit⟩
    · have e1 : own_sk xs n p t = 1 := by unfold own_sk; simp [h_9, h_16]
      have e2 : own_nx xs n p t = p + 1 := by unfold own_nx; simp [h_9, h_16]
      refine own_iconst (1 : Int32) (pc' := 20) d4_19 rfl rfl ?_
      refine own_goto (pc' := 24) d4_20 (by decide) (by decide) ?_
      refine own_istore (pc' := 26) (Ls' := #[.val (.ref r), .val (.ref b), .val (.int p), .val (.int t), .val (.int (1 : Int32)), .unset, .unset]) d4_24 rfl rfl ?_
      refine own_aloadN (pc' := 27) d4_26 rfl rfl ?_
      refine own_iloadN (pc' := 28) d4_27 rfl rfl ?_
      refine own_virtual (own_skW l Z a0 hw r b xs n p t h0 n0 hn0 hlen hbig hp0 hpn ge_r ne_r_b A_b E_r F_r_buffer F_r_position F_r_limit) E_r (hw _ (List.mem_of_getElem? (i := 24) rfl)) (hw _ (List.mem_of_getElem? (i := 25) rfl)) (hw _ (List.mem_of_getElem? (i := 27) rfl)) (hw _ (List.mem_of_getElem? (i := 26) rfl)) (hw _ (List.mem_of_getElem? (i := 4) rfl)) (hw _ (List.mem_of_getElem? (i := 28) rfl)) (plainFor_of_name own_pn1) (by decide) own_pd5 rfl (argsL := [.int t]) (rest := []) rfl rfl (W := 0) (Nat.le_refl _) (by decide) (by decide) (by decide) (by decide) rfl d4_28 (pc' := 31) rfl (fun v_ h20 hq => ?_)
      obtain ⟨rfl, K_1, E_1, F_1, F_2, F_3⟩ := hq
      show own_W l Z (⟨"com/example/cursorwire/cursorwire/wire/ProtoReaderSkipTagPinLaw", "step", "(Lcom/example/cursorwire/cursorwire/wire/ProtoReader;[BII)I"⟩ : MethodName) method_2_code 7 (some .int) ({ frames := 1, cells := 0, slots := 0, locals := 13 } : Room) n0 (fun v h => v = some (.int (own_nx xs n p t)) ∧ Keep h0 h [r] ∧ Exa Z h r "com/example/cursorwire/cursorwire/wire/ProtoReader" ∧ Fld Z h r "com/example/cursorwire/cursorwire/wire/ProtoReader" "buffer" "[B" (.ref b) ∧ Fld Z h r "com/example/cursorwire/cursorwire/wire/ProtoReader" "position" "I" (.int (own_nx xs n p t)) ∧ Fld Z h r "com/example/cursorwire/cursorwire/wire/ProtoReader" "limit" "I" (.int n)) h20 0 0 31 #[.val (.ref r), .val (.ref b), .val (.int p), .val (.int t), .val (.int (1 : Int32)), .unset, .unset] [.int (own_sk xs n p t)]
      replace A_b := A_b.keep K_1 (ninS (Ne.symm ne_r_b) nin0)
      replace E_r := E_1
      replace F_r_buffer := F_1
      replace F_r_position := F_2
      replace F_r_limit := F_3
      replace hn0 : n0 ≤ h20.size := Nat.le_trans hn0 K_1.1
      refine own_istore (pc' := 33) (Ls' := #[.val (.ref r), .val (.ref b), .val (.int p), .val (.int t), .val (.int (1 : Int32)), .val (.int (own_sk xs n p t)), .unset]) d4_31 rfl rfl ?_
      refine own_iload (pc' := 35) d4_33 rfl rfl ?_
      refine own_if_eq_f (pc' := 38) d4_35 (by decide) rfl ?_
      refine own_iloadN (pc' := 39) d4_38 rfl rfl ?_
      refine own_iconst (1 : Int32) (pc' := 40) d4_39 rfl rfl ?_
      refine own_iadd (pc' := 41) d4_40 rfl ?_
      refine own_goto (pc' := 45) d4_41 (by decide) (by decide) ?_
      refine own_istore (pc' := 47) (Ls' := #[.val (.ref r), .val (.ref b), .val (.int p), .val (.int t), .val (.int (1 : Int32)), .val (.int (own_sk xs n p t)), .val (.int (p + (1 : Int32)))]) d4_45 rfl rfl ?_
      refine own_iload (pc' := 49) d4_47 rfl rfl ?_
      refine own_iload (pc' := 51) d4_49 rfl rfl ?_
      refine own_ic_eq_t (pc' := 56) d4_51 e1 (by decide) (by decide) ?_
      refine own_aloadN (pc' := 57) d4_56 rfl rfl ?_
      refine own_virtual (own_posW l Z a0 hw r (own_nx xs n p t) n h20 n0 hn0 F_r_position F_r_limit) E_r (hw _ (List.mem_of_getElem? (i := 29) rfl)) (hw _ (List.mem_of_getElem? (i := 30) rfl)) (hw _ (List.mem_of_getElem? (i := 32) rfl)) (hw _ (List.mem_of_getElem? (i := 31) rfl)) (hw _ (List.mem_of_getElem? (i := 4) rfl)) (hw _ (List.mem_of_getElem? (i := 33) rfl)) (plainFor_of_name own_pn1) (by decide) own_pd6 rfl (argsL := []) (rest := []) rfl rfl (W := 0) (Nat.le_refl _) (by decide) (by decide) (by decide) (by decide) rfl d4_57 (pc' := 60) rfl (fun v_ h21 hq => ?_)
      obtain ⟨rfl, rfl⟩ := hq
      show own_W l Z (⟨"com/example/cursorwire/cursorwire/wire/ProtoReaderSkipTagPinLaw", "step", "(Lcom/example/cursorwire/cursorwire/wire/ProtoReader;[BII)I"⟩ : MethodName) method_2_code 7 (some .int) ({ frames := 1, cells := 0, slots := 0, locals := 13 } : Room) n0 (fun v h => v = some (.int (own_nx xs n p t)) ∧ Keep h0 h [r] ∧ Exa Z h r "com/example/cursorwire/cursorwire/wire/ProtoReader" ∧ Fld Z h r "com/example/cursorwire/cursorwire/wire/ProtoReader" "buffer" "[B" (.ref b) ∧ Fld Z h r "com/example/cursorwire/cursorwire/wire/ProtoReader" "position" "I" (.int (own_nx xs n p t)) ∧ Fld Z h r "com/example/cursorwire/cursorwire/wire/ProtoReader" "limit" "I" (.int n)) h20 0 0 60 #[.val (.ref r), .val (.ref b), .val (.int p), .val (.int t), .val (.int (1 : Int32)), .val (.int (own_sk xs n p t)), .val (.int (p + (1 : Int32)))] [.int (own_nx xs n p t)]
      refine own_iload (pc' := 62) d4_60 rfl rfl ?_
      refine own_ic_eq_t (pc' := 67) d4_62 e2 (by decide) (by decide) ?_
      refine own_aloadN (pc' := 68) d4_67 rfl rfl ?_
      refine own_virtual (own_rmW l Z a0 hw r (own_nx xs n p t) n h20 n0 hn0 F_r_position F_r_limit) E_r (hw _ (List.mem_of_getElem? (i := 34) rfl)) (hw _ (List.mem_of_getElem? (i := 35) rfl)) (hw _ (List.mem_of_getElem? (i := 37) rfl)) (hw _ (List.mem_of_getElem? (i := 36) rfl)) (hw _ (List.mem_of_getElem? (i := 4) rfl)) (hw _ (List.mem_of_getElem? (i := 38) rfl)) (plainFor_of_name own_pn1) (by decide) own_pd6 rfl (argsL := []) (rest := []) rfl rfl (W := 0) (Nat.le_refl _) (by decide) (by decide) (by decide) (by decide) rfl d4_68 (pc' := 71) rfl (fun v_ h22 hq => ?_)
      obtain ⟨rfl, rfl⟩ := hq
      show own_W l Z (⟨"com/example/cursorwire/cursorwire/wire/ProtoReaderSkipTagPinLaw", "step", "(Lcom/example/cursorwire/cursorwire/wire/ProtoReader;[BII)I"⟩ : MethodName) method_2_code 7 (some .int) ({ frames := 1, cells := 0, slots := 0, locals := 13 } : Room) n0 (fun v h => v = some (.int (own_nx xs n p t)) ∧ Keep h0 h [r] ∧ Exa Z h r "com/example/cursorwire/cursorwire/wire/ProtoReader" ∧ Fld Z h r "com/example/cursorwire/cursorwire/wire/ProtoReader" "buffer" "[B" (.ref b) ∧ Fld Z h r "com/example/cursorwire/cursorwire/wire/ProtoReader" "position" "I" (.int (own_nx xs n p t)) ∧ Fld Z h r "com/example/cursorwire/cursorwire/wire/ProtoReader" "limit" "I" (.int n)) h20 0 0 71 #[.val (.ref r), .val (.ref b), .val (.int p), .val (.int t), .val (.int (1 : Int32)), .val (.int (own_sk xs n p t)), .val (.int (p + (1 : Int32)))] [.int (n - (own_nx xs n p t))]
      refine own_aloadN (pc' := 72) d4_71 rfl rfl ?_
      refine own_len (pc' := 73) (n := n) A_b hlen d4_72 rfl ?_
      refine own_iload (pc' := 75) d4_73 rfl rfl ?_
      refine own_isub (pc' := 76) d4_75 rfl ?_
      refine own_ic_eq_t (pc' := 81) d4_76 (by rw [e2]) (by decide) (by decide) ?_
      refine own_iload (pc' := 83) d4_81 rfl rfl ?_
      exact own_iret rfl d4_83 ⟨by rw [e2], K_1, E_r, F_r_buffer, F_r_position, F_r_limit⟩
set_option maxRecDepth 65536 in
set_option maxHeartbeats 40000000 in
theorem own_law2 (l : Launch) (Z : State) (a0 : Array Value) (hw : ∀ d ∈ tables_1, d.before a0 Z = true) (x0 x1 x2 x3 len t1 t2 t3 b0 b1 : Int32) (b : Addr) (xs : List Int32) (n : Int32) (h0 : Heap) (n0 : Nat) (hn0 : n0 ≤ h0.size) (hlen : (xs.map Value.int).length.toInt32 = n) (hbig : xs.length < 2 ^ 31) (hn : ¬ n < 0) (ge_b : n0 ≤ b) (A_b : own_A Z h0 b .byte (xs.map Value.int)) :
    own_W l Z x code maxLocals ret room_1 n0 (fun v h => v = some (.int 1)) h0 1 2 114 #[.val (.int x0), .val (.int x1), .val (.int x2), .val (.int x3), .val (.int len), .val (.int t1), .val (.int t2), .val (.int t3), .val (.int b0), .val (.int b1), .val (.ref b), .unset, .unset] [] := by
  refine own_new (pc' := 117) (hw _ (List.mem_of_getElem? (i := 2) rfl)) (hw _ (List.mem_of_getElem? (i := 3) rfl)) (hw _ (List.mem_of_getElem? (i := 4) rfl)) at_114 rfl (by decide) (by decide) (fun h23 r gt_r lt_r E24 E_r D_r => ?_)
  have ge_r : n0 ≤ r := Nat.le_trans hn0 gt_r
  have ne_b_r : b ≠ r := Nat.ne_of_lt (by have q := Nat.lt_of_lt_of_le A_b.lt (Nat.le_refl _); omega)
  replace A_b := A_b.ext E24
  replace hn0 : n0 ≤ h23.size := Nat.le_trans hn0 E24.1
  have F_r_buffer : Fld Z h23 r "com/example/cursorwire/cursorwire/wire/ProtoReader" "buffer" "[B" (.null) := D_r (Or.inr (hw _ (List.mem_of_getElem? (i := 15) rfl))) (ty := (.array .byte)) (by decide)
  have F_r_position : Fld Z h23 r "com/example/cursorwire/cursorwire/wire/ProtoReader" "position" "I" (.int (0 : Int32)) := D_r (Or.inl (hw _ (List.mem_of_getElem? (i := 17) rfl))) (ty := .int) (by decide)
  have F_r_limit : Fld Z h23 r "com/example/cursorwire/cursorwire/wire/ProtoReader" "limit" "I" (.int (0 : Int32)) := D_r (Or.inl (hw _ (List.mem_of_getElem? (i := 19) rfl))) (ty := .int) (by decide)
  have ne_r_b : r ≠ b := Ne.symm ne_b_r
  refine own_dup (pc' := 118) at_117 rfl rfl ?_
  refine own_aload (pc' := 120) at_118 rfl rfl ?_
  refine own_special (ret' := none) (own_mk l Z a0 hw r b _ n h23 n0 hn0 ge_r A_b hlen E_r F_r_buffer F_r_position F_r_limit) (hw _ (List.mem_of_getElem? (i := 5) rfl)) (hw _ (List.mem_of_getElem? (i := 6) rfl)) (hw _ (List.mem_of_getElem? (i := 4) rfl)) (hw _ (List.mem_of_getElem? (i := 7) rfl)) rfl (plainFor_of_name own_pn1) (by decide) own_pd1 rfl (argsL := [.ref b]) (rest := [.ref r]) rfl rfl (W := 1) (Nat.le_refl _) (by decide) (by decide) (by decide) (by decide) rfl at_120 (pc' := 123) rfl (fun v_ h25 hq => ?_)
  obtain ⟨rfl, K_1, E_1, F_1, F_2, F_3⟩ := hq
  show own_W l Z x code maxLocals ret room_1 n0 (fun v h => v = some (.int 1)) h25 2 5 123 #[.val (.int x0), .val (.int x1), .val (.int x2), .val (.int x3), .val (.int len), .val (.int t1), .val (.int t2), .val (.int t3), .val (.int b0), .val (.int b1), .val (.ref b), .unset, .unset] [.ref r]
  replace A_b := A_b.keep K_1 (ninS ne_b_r nin0)
  replace E_r := E_1
  replace F_r_buffer := F_1
  replace F_r_position := F_2
  replace F_r_limit := F_3
  replace hn0 : n0 ≤ h25.size := Nat.le_trans hn0 K_1.1
  have ok0 : ¬ (0 : Int32) < 0 ∧ ¬ n < (0 : Int32) := ⟨by decide, hn⟩
  refine own_astore (pc' := 125) (Ls' := #[.val (.int x0), .val (.int x1), .val (.int x2), .val (.int x3), .val (.int len), .val (.int t1), .val (.int t2), .val (.int t3), .val (.int b0), .val (.int b1), .val (.ref b), .val (.ref r), .unset]) at_123 rfl rfl ?_
  refine own_aload (pc' := 127) at_125 rfl rfl ?_
  refine own_aload (pc' := 129) at_127 rfl rfl ?_
  refine own_iconst (0 : Int32) (pc' := 130) at_129 rfl rfl ?_
  refine own_iload (pc' := 132) at_130 rfl rfl ?_
  refine own_static (own_stepW l Z a0 hw r b xs n (0 : Int32) t1 h25 n0 hn0 hlen hbig ok0.1 ok0.2 ge_r ne_r_b A_b E_r F_r_buffer F_r_position F_r_limit) (hw _ (List.mem_of_getElem? (i := 20) rfl)) (hw _ (List.mem_of_getElem? (i := 21) rfl)) (hw _ (List.mem_of_getElem? (i := 22) rfl)) (hw _ (List.mem_of_getElem? (i := 23) rfl)) (plainFor_of_name own_pn0) (by decide) own_pd4 rfl (argsL := [.ref r, .ref b, .int (0 : Int32), .int t1]) (rest := []) rfl rfl (W := 0) (Nat.le_refl _) (by decide) (by decide) (by decide) (by decide) rfl at_132 (pc' := 135) rfl (fun v_ h26 hq => ?_)
  obtain ⟨rfl, K_s1, E_s1, F_a1, F_b1, F_c1⟩ := hq
  show own_W l Z x code maxLocals ret room_1 n0 (fun v h => v = some (.int 1)) h26 2 5 135 #[.val (.int x0), .val (.int x1), .val (.int x2), .val (.int x3), .val (.int len), .val (.int t1), .val (.int t2), .val (.int t3), .val (.int b0), .val (.int b1), .val (.ref b), .val (.ref r), .unset] [.int (own_nx xs n (0 : Int32) t1)]
  replace A_b := A_b.keep K_s1 (ninS ne_b_r nin0)
  replace E_r := E_s1
  replace F_r_buffer := F_a1
  replace F_r_position := F_b1
  replace F_r_limit := F_c1
  replace hn0 : n0 ≤ h26.size := Nat.le_trans hn0 K_s1.1
  have ok1 := own_nx_ok xs n (0 : Int32) t1 ok0.1 ok0.2
  refine own_istore (pc' := 137) (Ls' := #[.val (.int x0), .val (.int x1), .val (.int x2), .val (.int x3), .val (.int len), .val (.int t1), .val (.int t2), .val (.int t3), .val (.int b0), .val (.int b1), .val (.ref b), .val (.ref r), .val (.int (own_nx xs n (0 : Int32) t1))]) at_135 rfl rfl ?_
  refine own_aload (pc' := 139) at_137 rfl rfl ?_
  refine own_aload (pc' := 141) at_139 rfl rfl ?_
  refine own_iload (pc' := 143) at_141 rfl rfl ?_
  refine own_iload (pc' := 145) at_143 rfl rfl ?_
  refine own_static (own_stepW l Z a0 hw r b xs n (own_nx xs n (0 : Int32) t1) t2 h26 n0 hn0 hlen hbig ok1.1 ok1.2 ge_r ne_r_b A_b E_r F_r_buffer F_r_position F_r_limit) (hw _ (List.mem_of_getElem? (i := 20) rfl)) (hw _ (List.mem_of_getElem? (i := 21) rfl)) (hw _ (List.mem_of_getElem? (i := 22) rfl)) (hw _ (List.mem_of_getElem? (i := 23) rfl)) (plainFor_of_name own_pn0) (by decide) own_pd4 rfl (argsL := [.ref r, .ref b, .int (own_nx xs n (0 : Int32) t1), .int t2]) (rest := []) rfl rfl (W := 0) (Nat.le_refl _) (by decide) (by decide) (by decide) (by decide) rfl at_145 (pc' := 148) rfl (fun v_ h27 hq => ?_)
  obtain ⟨rfl, K_s2, E_s2, F_a2, F_b2, F_c2⟩ := hq
  show own_W l Z x code maxLocals ret room_1 n0 (fun v h => v = some (.int 1)) h27 2 5 148 #[.val (.int x0), .val (.int x1), .val (.int x2), .val (.int x3), .val (.int len), .val (.int t1), .val (.int t2), .val (.int t3), .val (.int b0), .val (.int b1), .val (.ref b), .val (.ref r), .val (.int (own_nx xs n (0 : Int32) t1))] [.int (own_nx xs n (own_nx xs n (0 : Int32) t1) t2)]
  replace A_b := A_b.keep K_s2 (ninS ne_b_r nin0)
  replace E_r := E_s2
  replace F_r_buffer := F_a2
  replace F_r_position := F_b2
  replace F_r_limit := F_c2
  replace hn0 : n0 ≤ h27.size := Nat.le_trans hn0 K_s2.1
  have ok2 := own_nx_ok xs n (own_nx xs n (0 : Int32) t1) t2 ok1.1 ok1.2
  refine own_istore (pc' := 150) (Ls' := #[.val (.int x0), .val (.int x1), .val (.int x2), .val (.int x3), .val (.int len), .val (.int t1), .val (.int t2), .val (.int t3), .val (.int b0), .val (.int b1), .val (.ref b), .val (.ref r), .val (.int (own_nx xs n (own_nx xs n (0 : Int32) t1) t2))]) at_148 rfl rfl ?_
  refine own_aload (pc' := 152) at_150 rfl rfl ?_
  refine own_aload (pc' := 154) at_152 rfl rfl ?_
  refine own_iload (pc' := 156) at_154 rfl rfl ?_
  refine own_iload (pc' := 158) at_156 rfl rfl ?_
  refine own_static (own_stepW l Z a0 hw r b xs n (own_nx xs n (own_nx xs n (0 : Int32) t1) t2) t3 h27 n0 hn0 hlen hbig ok2.1 ok2.2 ge_r ne_r_b A_b E_r F_r_buffer F_r_position F_r_limit) (hw _ (List.mem_of_getElem? (i := 20) rfl)) (hw _ (List.mem_of_getElem? (i := 21) rfl)) (hw _ (List.mem_of_getElem? (i := 22) rfl)) (hw _ (List.mem_of_getElem? (i := 23) rfl)) (plainFor_of_name own_pn0) (by decide) own_pd4 rfl (argsL := [.ref r, .ref b, .int (own_nx xs n (own_nx xs n (0 : Int32) t1) t2), .int t3]) (rest := []) rfl rfl (W := 0) (Nat.le_refl _) (by decide) (by decide) (by decide) (by decide) rfl at_158 (pc' := 161) rfl (fun v_ h28 hq => ?_)
  obtain ⟨rfl, K_s3, E_s3, F_a3, F_b3, F_c3⟩ := hq
  show own_W l Z x code maxLocals ret room_1 n0 (fun v h => v = some (.int 1)) h28 2 5 161 #[.val (.int x0), .val (.int x1), .val (.int x2), .val (.int x3), .val (.int len), .val (.int t1), .val (.int t2), .val (.int t3), .val (.int b0), .val (.int b1), .val (.ref b), .val (.ref r), .val (.int (own_nx xs n (own_nx xs n (0 : Int32) t1) t2))] [.int (own_nx xs n (own_nx xs n (own_nx xs n (0 : Int32) t1) t2) t3)]
  replace A_b := A_b.keep K_s3 (ninS ne_b_r nin0)
  replace E_r := E_s3
  replace F_r_buffer := F_a3
  replace F_r_position := F_b3
  replace F_r_limit := F_c3
  replace hn0 : n0 ≤ h28.size := Nat.le_trans hn0 K_s3.1
  have ok3 := own_nx_ok xs n (own_nx xs n (own_nx xs n (0 : Int32) t1) t2) t3 ok2.1 ok2.2
  refine own_istore (pc' := 163) (Ls' := #[.val (.int x0), .val (.int x1), .val (.int x2), .val (.int x3), .val (.int len), .val (.int t1), .val (.int t2), .val (.int t3), .val (.int b0), .val (.int b1), .val (.ref b), .val (.ref r), .val (.int (own_nx xs n (own_nx xs n (own_nx xs n (0 : Int32) t1) t2) t3))]) at_161 rfl rfl ?_
  refine own_iload (pc' := 165) at_163 rfl rfl ?_
  refine own_if_lt_f (pc' := 168) at_165 ok3.1 rfl ?_
  refine own_iconst (1 : Int32) (pc' := 169) at_168 rfl rfl ?_
  refine own_goto (pc' := 173) at_169 (by decide) (by decide) ?_
  exact own_bret (v := (1 : Int32)) rfl (by first | rfl | decide | assumption) at_173 rfl
set_option maxRecDepth 65536 in
set_option maxHeartbeats 40000000 in
theorem own_law (l : Launch) (Z : State) (a0 : Array Value) (hw : ∀ d ∈ tables_1, d.before a0 Z = true) (x0 x1 x2 x3 : Int32) (h0 : Heap) (n0 : Nat) (hn0 : n0 ≤ h0.size) :
    own_W l Z x code maxLocals ret room_1 n0 (fun v h => v = some (.int 1)) h0 0 0 0 #[.val (.int x0), .val (.int x1), .val (.int x2), .val (.int x3), .unset, .unset, .unset, .unset, .unset, .unset, .unset, .unset, .unset] [] := by
  refine own_iloadN (pc' := 1) at_0 rfl rfl ?_
  refine own_ldcI (pc' := 3) (u := (2147483647 : Int32)) (hw _ (List.mem_of_getElem? (i := 0) rfl)) at_1 rfl ?_
  refine own_iand (pc' := 4) at_3 rfl ?_
  refine own_iconst (3 : Int32) (pc' := 5) at_4 rfl rfl ?_
  refine own_irem (pc' := 6) at_5 rfl (by decide) ?_
  refine own_istore (pc' := 8) (Ls' := #[.val (.int x0), .val (.int x1), .val (.int x2), .val (.int x3), .val (.int ((x0 &&& (2147483647 : Int32)) % (3 : Int32))), .unset, .unset, .unset, .unset, .unset, .unset, .unset, .unset]) at_6 rfl rfl ?_
  refine own_iloadN (pc' := 9) at_8 rfl rfl ?_
  refine own_bipush (127 : Int32) (pc' := 11) at_9 rfl rfl ?_
  refine own_iand (pc' := 12) at_11 rfl ?_
  refine own_istore (pc' := 14) (Ls' := #[.val (.int x0), .val (.int x1), .val (.int x2), .val (.int x3), .val (.int ((x0 &&& (2147483647 : Int32)) % (3 : Int32))), .val (.int (x1 &&& (127 : Int32))), .unset, .unset, .unset, .unset, .unset, .unset, .unset]) at_12 rfl rfl ?_
  refine own_iloadN (pc' := 15) at_14 rfl rfl ?_
  refine own_bipush (7 : Int32) (pc' := 17) at_15 rfl rfl ?_
  refine own_iushr (pc' := 18) at_17 rfl ?_
  refine own_bipush (127 : Int32) (pc' := 20) at_18 rfl rfl ?_
  refine own_iand (pc' := 21) at_20 rfl ?_
  refine own_istore (pc' := 23) (Ls' := #[.val (.int x0), .val (.int x1), .val (.int x2), .val (.int x3), .val (.int ((x0 &&& (2147483647 : Int32)) % (3 : Int32))), .val (.int (x1 &&& (127 : Int32))), .val (.int ((XT.ushr x1 (7 : Int32)) &&& (127 : Int32))), .unset, .unset, .unset, .unset, .unset, .unset]) at_21 rfl rfl ?_
  refine own_iloadN (pc' := 24) at_23 rfl rfl ?_
  refine own_bipush (14 : Int32) (pc' := 26) at_24 rfl rfl ?_
  refine own_iushr (pc' := 27) at_26 rfl ?_
  refine own_bipush (127 : Int32) (pc' := 29) at_27 rfl rfl ?_
  refine own_iand (pc' := 30) at_29 rfl ?_
  refine own_istore (pc' := 32) (Ls' := #[.val (.int x0), .val (.int x1), .val (.int x2), .val (.int x3), .val (.int ((x0 &&& (2147483647 : Int32)) % (3 : Int32))), .val (.int (x1 &&& (127 : Int32))), .val (.int ((XT.ushr x1 (7 : Int32)) &&& (127 : Int32))), .val (.int ((XT.ushr x1 (14 : Int32)) &&& (127 : Int32))), .unset, .unset, .unset, .unset, .unset]) at_30 rfl rfl ?_
  refine own_iloadN (pc' := 33) at_32 rfl rfl ?_
  refine own_iconst (1 : Int32) (pc' := 34) at_33 rfl rfl ?_
  refine own_iand (pc' := 35) at_34 rfl ?_
  refine own_if_eq (pc' := 44) (pf := 38) at_35 (by decide) (by decide) rfl (fun h_35 => ?_) (fun h_35 => ?_)
  · refine own_iloadN (pc' := 45) at_44 rfl rfl ?_
    refine own_i2b (pc' := 46) at_45 rfl ?_
    refine own_istore (pc' := 48) (Ls' := #[.val (.int x0), .val (.int x1), .val (.int x2), .val (.int x3), .val (.int ((x0 &&& (2147483647 : Int32)) % (3 : Int32))), .val (.int (x1 &&& (127 : Int32))), .val (.int ((XT.ushr x1 (7 : Int32)) &&& (127 : Int32))), .val (.int ((XT.ushr x1 (14 : Int32)) &&& (127 : Int32))), .val (.int (x2.toInt8.toInt32)), .unset, .unset, .unset, .unset]) at_46 rfl rfl ?_
    refine own_iloadN (pc' := 49) at_48 rfl rfl ?_
    refine own_iconst (2 : Int32) (pc' := 50) at_49 rfl rfl ?_
    refine own_iand (pc' := 51) at_50 rfl ?_
    refine own_if_eq (pc' := 60) (pf := 54) at_51 (by decide) (by decide) rfl (fun h_51 => ?_) (fun h_51 => ?_)
    · refine own_iloadN (pc' := 61) at_60 rfl rfl ?_
      refine own_bipush (8 : Int32) (pc' := 63) at_61 rfl rfl ?_
      refine own_ishr (pc' := 64) at_63 rfl ?_
      refine own_i2b (pc' := 65) at_64 rfl ?_
      refine own_istore (pc' := 67) (Ls' := #[.val (.int x0), .val (.int x1), .val (.int x2), .val (.int x3), .val (.int ((x0 &&& (2147483647 : Int32)) % (3 : Int32))), .val (.int (x1 &&& (127 : Int32))), .val (.int ((XT.ushr x1 (7 : Int32)) &&& (127 : Int32))), .val (.int ((XT.ushr x1 (14 : Int32)) &&& (127 : Int32))), .val (.int (x2.toInt8.toInt32)), .val (.int ((x2 >>> ((8 : Int32) &&& 31)).toInt8.toInt32)), .unset, .unset, .unset]) at_65 rfl rfl ?_
      refine own_iload (pc' := 69) at_67 rfl rfl ?_
      refine own_if_ne (pc' := 80) (pf := 72) at_69 (by decide) (by decide) rfl (fun h_69 => ?_) (fun h_69 => ?_)
      · refine own_iload (pc' := 82) at_80 rfl rfl ?_
        refine own_iconst (1 : Int32) (pc' := 83) at_82 rfl rfl ?_
        refine own_ic_ne (pc' := 99) (pf := 86) at_83 (by decide) (by decide) rfl (fun h_83 => ?_) (fun h_83 => ?_)
        · refine own_iconst (2 : Int32) (pc' := 100) at_99 rfl rfl ?_
          refine own_newarr (pc' := 102) (ty := .byte) (cap := 2) (hw _ (List.mem_of_getElem? (i := 1) rfl)) rfl at_100 rfl (by decide) (by decide) (by decide) (by decide) (by decide) (fun h29 b gt_b lt_b E30 A_b => ?_)
          have ge_b : n0 ≤ b := Nat.le_trans hn0 gt_b
          replace hn0 : n0 ≤ h29.size := Nat.le_trans hn0 E30.1
          replace A_b : own_A Z h29 b .byte [.int (0 : Int32), .int (0 : Int32)] := A_b.cast rfl
          refine own_dup (pc' := 103) at_102 rfl rfl ?_
          refine own_iconst (0 : Int32) (pc' := 104) at_103 rfl rfl ?_
          refine own_iload (pc' := 106) at_104 rfl rfl ?_
          refine own_bastore (pc' := 107) A_b (by decide) (by first | decide | (simp only [List.length_cons, List.length_nil, List.length_set, List.length_replicate]; decide)) ge_b at_106 rfl (fun h31 K32 A_new => ?_)
          replace hn0 : n0 ≤ h31.size := Nat.le_trans hn0 K32.1
          replace A_b : own_A Z h31 b .byte [.int (nar .byte (x2.toInt8.toInt32)), .int (0 : Int32)] := A_new.cast rfl
          refine own_dup (pc' := 108) at_107 rfl rfl ?_
          refine own_iconst (1 : Int32) (pc' := 109) at_108 rfl rfl ?_
          refine own_iload (pc' := 111) at_109 rfl rfl ?_
          refine own_bastore (pc' := 112) A_b (by decide) (by first | decide | (simp only [List.length_cons, List.length_nil, List.length_set, List.length_replicate]; decide)) ge_b at_111 rfl (fun h33 K34 A_new => ?_)
          replace hn0 : n0 ≤ h33.size := Nat.le_trans hn0 K34.1
          replace A_b : own_A Z h33 b .byte [.int (nar .byte (x2.toInt8.toInt32)), .int (nar .byte ((x2 >>> ((8 : Int32) &&& 31)).toInt8.toInt32))] := A_new.cast rfl
          refine own_astore (pc' := 114) (Ls' := #[.val (.int x0), .val (.int x1), .val (.int x2), .val (.int x3), .val (.int ((x0 &&& (2147483647 : Int32)) % (3 : Int32))), .val (.int (x1 &&& (127 : Int32))), .val (.int ((XT.ushr x1 (7 : Int32)) &&& (127 : Int32))), .val (.int ((XT.ushr x1 (14 : Int32)) &&& (127 : Int32))), .val (.int (x2.toInt8.toInt32)), .val (.int ((x2 >>> ((8 : Int32) &&& 31)).toInt8.toInt32)), .val (.ref b), .unset, .unset]) at_112 rfl rfl ?_
          exact own_more (cells' := 1) (slots' := 2) (by decide) (by decide) (by decide) (by decide) (own_law2 l Z a0 hw x0 x1 x2 x3 _ _ _ _ _ _ b [(nar .byte (x2.toInt8.toInt32)), (nar .byte ((x2 >>> ((8 : Int32) &&& 31)).toInt8.toInt32))] (2 : Int32) h33 n0 hn0 rfl (show (2 : Nat) < 2 ^ 31 by decide) (by decide) ge_b A_b)
        · refine own_iconst (1 : Int32) (pc' := 87) at_86 rfl rfl ?_
          refine own_newarr (pc' := 89) (ty := .byte) (cap := 1) (hw _ (List.mem_of_getElem? (i := 1) rfl)) rfl at_87 rfl (by decide) (by decide) (by decide) (by decide) (by decide) (fun h35 b gt_b lt_b E36 A_b => ?_)
          have ge_b : n0 ≤ b := Nat.le_trans hn0 gt_b
          replace hn0 : n0 ≤ h35.size := Nat.le_trans hn0 E36.1
          replace A_b : own_A Z h35 b .byte [.int (0 : Int32)] := A_b.cast rfl
          refine own_dup (pc' := 90) at_89 rfl rfl ?_
          refine own_iconst (0 : Int32) (pc' := 91) at_90 rfl rfl ?_
          refine own_iload (pc' := 93) at_91 rfl rfl ?_
          refine own_bastore (pc' := 94) A_b (by decide) (by first | decide | (simp only [List.length_cons, List.length_nil, List.length_set, List.length_replicate]; decide)) ge_b at_93 rfl (fun h37 K38 A_new => ?_)
          replace hn0 : n0 ≤ h37.size := Nat.le_trans hn0 K38.1
          replace A_b : own_A Z h37 b .byte [.int (nar .byte (x2.toInt8.toInt32))] := A_new.cast rfl
          refine own_astore (pc' := 96) (Ls' := #[.val (.int x0), .val (.int x1), .val (.int x2), .val (.int x3), .val (.int ((x0 &&& (2147483647 : Int32)) % (3 : Int32))), .val (.int (x1 &&& (127 : Int32))), .val (.int ((XT.ushr x1 (7 : Int32)) &&& (127 : Int32))), .val (.int ((XT.ushr x1 (14 : Int32)) &&& (127 : Int32))), .val (.int (x2.toInt8.toInt32)), .val (.int ((x2 >>> ((8 : Int32) &&& 31)).toInt8.toInt32)), .val (.ref b), .unset, .unset]) at_94 rfl rfl ?_
          refine own_goto (pc' := 114) at_96 (by decide) (by decide) ?_
          exact own_more (cells' := 1) (slots' := 2) (by decide) (by decide) (by decide) (by decide) (own_law2 l Z a0 hw x0 x1 x2 x3 _ _ _ _ _ _ b [(nar .byte (x2.toInt8.toInt32))] (1 : Int32) h37 n0 hn0 rfl (show (1 : Nat) < 2 ^ 31 by decide) (by decide) ge_b A_b)
      · refine own_iconst (0 : Int32) (pc' := 73) at_72 rfl rfl ?_
        refine own_newarr (pc' := 75) (ty := .byte) (cap := 0) (hw _ (List.mem_of_getElem? (i := 1) rfl)) rfl at_73 rfl (by decide) (by decide) (by decide) (by decide) (by decide) (fun h39 b gt_b lt_b E40 A_b => ?_)
        have ge_b : n0 ≤ b := Nat.le_trans hn0 gt_b
        replace hn0 : n0 ≤ h39.size := Nat.le_trans hn0 E40.1
        replace A_b : own_A Z h39 b .byte [] := A_b.cast rfl
        refine own_astore (pc' := 77) (Ls' := #[.val (.int x0), .val (.int x1), .val (.int x2), .val (.int x3), .val (.int ((x0 &&& (2147483647 : Int32)) % (3 : Int32))), .val (.int (x1 &&& (127 : Int32))), .val (.int ((XT.ushr x1 (7 : Int32)) &&& (127 : Int32))), .val (.int ((XT.ushr x1 (14 : Int32)) &&& (127 : Int32))), .val (.int (x2.toInt8.toInt32)), .val (.int ((x2 >>> ((8 : Int32) &&& 31)).toInt8.toInt32)), .val (.ref b), .unset, .unset]) at_75 rfl rfl ?_
        refine own_goto (pc' := 114) at_77 (by decide) (by decide) ?_
        exact own_more (cells' := 1) (slots' := 2) (by decide) (by decide) (by decide) (by decide) (own_law2 l Z a0 hw x0 x1 x2 x3 _ _ _ _ _ _ b [] (0 : Int32) h39 n0 hn0 rfl (show (0 : Nat) < 2 ^ 31 by decide) (by decide) ge_b A_b)
    · refine own_iload (pc' := 56) at_54 rfl rfl ?_
      refine own_i2b (pc' := 57) at_56 rfl ?_
      refine own_goto (pc' := 65) at_57 (by decide) (by decide) ?_
      refine own_istore (pc' := 67) (Ls' := #[.val (.int x0), .val (.int x1), .val (.int x2), .val (.int x3), .val (.int ((x0 &&& (2147483647 : Int32)) % (3 : Int32))), .val (.int (x1 &&& (127 : Int32))), .val (.int ((XT.ushr x1 (7 : Int32)) &&& (127 : Int32))), .val (.int ((XT.ushr x1 (14 : Int32)) &&& (127 : Int32))), .val (.int (x2.toInt8.toInt32)), .val (.int (((XT.ushr x1 (7 : Int32)) &&& (127 : Int32)).toInt8.toInt32)), .unset, .unset, .unset]) at_65 rfl rfl ?_
      refine own_iload (pc' := 69) at_67 rfl rfl ?_
      refine own_if_ne (pc' := 80) (pf := 72) at_69 (by decide) (by decide) rfl (fun h_69 => ?_) (fun h_69 => ?_)
      · refine own_iload (pc' := 82) at_80 rfl rfl ?_
        refine own_iconst (1 : Int32) (pc' := 83) at_82 rfl rfl ?_
        refine own_ic_ne (pc' := 99) (pf := 86) at_83 (by decide) (by decide) rfl (fun h_83 => ?_) (fun h_83 => ?_)
        · refine own_iconst (2 : Int32) (pc' := 100) at_99 rfl rfl ?_
          refine own_newarr (pc' := 102) (ty := .byte) (cap := 2) (hw _ (List.mem_of_getElem? (i := 1) rfl)) rfl at_100 rfl (by decide) (by decide) (by decide) (by decide) (by decide) (fun h41 b gt_b lt_b E42 A_b => ?_)
          have ge_b : n0 ≤ b := Nat.le_trans hn0 gt_b
          replace hn0 : n0 ≤ h41.size := Nat.le_trans hn0 E42.1
          replace A_b : own_A Z h41 b .byte [.int (0 : Int32), .int (0 : Int32)] := A_b.cast rfl
          refine own_dup (pc' := 103) at_102 rfl rfl ?_
          refine own_iconst (0 : Int32) (pc' := 104) at_103 rfl rfl ?_
          refine own_iload (pc' := 106) at_104 rfl rfl ?_
          refine own_bastore (pc' := 107) A_b (by decide) (by first | decide | (simp only [List.length_cons, List.length_nil, List.length_set, List.length_replicate]; decide)) ge_b at_106 rfl (fun h43 K44 A_new => ?_)
          replace hn0 : n0 ≤ h43.size := Nat.le_trans hn0 K44.1
          replace A_b : own_A Z h43 b .byte [.int (nar .byte (x2.toInt8.toInt32)), .int (0 : Int32)] := A_new.cast rfl
          refine own_dup (pc' := 108) at_107 rfl rfl ?_
          refine own_iconst (1 : Int32) (pc' := 109) at_108 rfl rfl ?_
          refine own_iload (pc' := 111) at_109 rfl rfl ?_
          refine own_bastore (pc' := 112) A_b (by decide) (by first | decide | (simp only [List.length_cons, List.length_nil, List.length_set, List.length_replicate]; decide)) ge_b at_111 rfl (fun h45 K46 A_new => ?_)
          replace hn0 : n0 ≤ h45.size := Nat.le_trans hn0 K46.1
          replace A_b : own_A Z h45 b .byte [.int (nar .byte (x2.toInt8.toInt32)), .int (nar .byte (((XT.ushr x1 (7 : Int32)) &&& (127 : Int32)).toInt8.toInt32))] := A_new.cast rfl
          refine own_astore (pc' := 114) (Ls' := #[.val (.int x0), .val (.int x1), .val (.int x2), .val (.int x3), .val (.int ((x0 &&& (2147483647 : Int32)) % (3 : Int32))), .val (.int (x1 &&& (127 : Int32))), .val (.int ((XT.ushr x1 (7 : Int32)) &&& (127 : Int32))), .val (.int ((XT.ushr x1 (14 : Int32)) &&& (127 : Int32))), .val (.int (x2.toInt8.toInt32)), .val (.int (((XT.ushr x1 (7 : Int32)) &&& (127 : Int32)).toInt8.toInt32)), .val (.ref b), .unset, .unset]) at_112 rfl rfl ?_
          exact own_more (cells' := 1) (slots' := 2) (by decide) (by decide) (by decide) (by decide) (own_law2 l Z a0 hw x0 x1 x2 x3 _ _ _ _ _ _ b [(nar .byte (x2.toInt8.toInt32)), (nar .byte (((XT.ushr x1 (7 : Int32)) &&& (127 : Int32)).toInt8.toInt32))] (2 : Int32) h45 n0 hn0 rfl (show (2 : Nat) < 2 ^ 31 by decide) (by decide) ge_b A_b)
        · refine own_iconst (1 : Int32) (pc' := 87) at_86 rfl rfl ?_
          refine own_newarr (pc' := 89) (ty := .byte) (cap := 1) (hw _ (List.mem_of_getElem? (i := 1) rfl)) rfl at_87 rfl (by decide) (by decide) (by decide) (by decide) (by decide) (fun h47 b gt_b lt_b E48 A_b => ?_)
          have ge_b : n0 ≤ b := Nat.le_trans hn0 gt_b
          replace hn0 : n0 ≤ h47.size := Nat.le_trans hn0 E48.1
          replace A_b : own_A Z h47 b .byte [.int (0 : Int32)] := A_b.cast rfl
          refine own_dup (pc' := 90) at_89 rfl rfl ?_
          refine own_iconst (0 : Int32) (pc' := 91) at_90 rfl rfl ?_
          refine own_iload (pc' := 93) at_91 rfl rfl ?_
          refine own_bastore (pc' := 94) A_b (by decide) (by first | decide | (simp only [List.length_cons, List.length_nil, List.length_set, List.length_replicate]; decide)) ge_b at_93 rfl (fun h49 K50 A_new => ?_)
          replace hn0 : n0 ≤ h49.size := Nat.le_trans hn0 K50.1
          replace A_b : own_A Z h49 b .byte [.int (nar .byte (x2.toInt8.toInt32))] := A_new.cast rfl
          refine own_astore (pc' := 96) (Ls' := #[.val (.int x0), .val (.int x1), .val (.int x2), .val (.int x3), .val (.int ((x0 &&& (2147483647 : Int32)) % (3 : Int32))), .val (.int (x1 &&& (127 : Int32))), .val (.int ((XT.ushr x1 (7 : Int32)) &&& (127 : Int32))), .val (.int ((XT.ushr x1 (14 : Int32)) &&& (127 : Int32))), .val (.int (x2.toInt8.toInt32)), .val (.int (((XT.ushr x1 (7 : Int32)) &&& (127 : Int32)).toInt8.toInt32)), .val (.ref b), .unset, .unset]) at_94 rfl rfl ?_
          refine own_goto (pc' := 114) at_96 (by decide) (by decide) ?_
          exact own_more (cells' := 1) (slots' := 2) (by decide) (by decide) (by decide) (by decide) (own_law2 l Z a0 hw x0 x1 x2 x3 _ _ _ _ _ _ b [(nar .byte (x2.toInt8.toInt32))] (1 : Int32) h49 n0 hn0 rfl (show (1 : Nat) < 2 ^ 31 by decide) (by decide) ge_b A_b)
      · refine own_iconst (0 : Int32) (pc' := 73) at_72 rfl rfl ?_
        refine own_newarr (pc' := 75) (ty := .byte) (cap := 0) (hw _ (List.mem_of_getElem? (i := 1) rfl)) rfl at_73 rfl (by decide) (by decide) (by decide) (by decide) (by decide) (fun h51 b gt_b lt_b E52 A_b => ?_)
        have ge_b : n0 ≤ b := Nat.le_trans hn0 gt_b
        replace hn0 : n0 ≤ h51.size := Nat.le_trans hn0 E52.1
        replace A_b : own_A Z h51 b .byte [] := A_b.cast rfl
        refine own_astore (pc' := 77) (Ls' := #[.val (.int x0), .val (.int x1), .val (.int x2), .val (.int x3), .val (.int ((x0 &&& (2147483647 : Int32)) % (3 : Int32))), .val (.int (x1 &&& (127 : Int32))), .val (.int ((XT.ushr x1 (7 : Int32)) &&& (127 : Int32))), .val (.int ((XT.ushr x1 (14 : Int32)) &&& (127 : Int32))), .val (.int (x2.toInt8.toInt32)), .val (.int (((XT.ushr x1 (7 : Int32)) &&& (127 : Int32)).toInt8.toInt32)), .val (.ref b), .unset, .unset]) at_75 rfl rfl ?_
        refine own_goto (pc' := 114) at_77 (by decide) (by decide) ?_
        exact own_more (cells' := 1) (slots' := 2) (by decide) (by decide) (by decide) (by decide) (own_law2 l Z a0 hw x0 x1 x2 x3 _ _ _ _ _ _ b [] (0 : Int32) h51 n0 hn0 rfl (show (0 : Nat) < 2 ^ 31 by decide) (by decide) ge_b A_b)
  · refine own_iload (pc' := 40) at_38 rfl rfl ?_
    refine own_i2b (pc' := 41) at_40 rfl ?_
    refine own_goto (pc' := 46) at_41 (by decide) (by decide) ?_
    refine own_istore (pc' := 48) (Ls' := #[.val (.int x0), .val (.int x1), .val (.int x2), .val (.int x3), .val (.int ((x0 &&& (2147483647 : Int32)) % (3 : Int32))), .val (.int (x1 &&& (127 : Int32))), .val (.int ((XT.ushr x1 (7 : Int32)) &&& (127 : Int32))), .val (.int ((XT.ushr x1 (14 : Int32)) &&& (127 : Int32))), .val (.int ((x1 &&& (127 : Int32)).toInt8.toInt32)), .unset, .unset, .unset, .unset]) at_46 rfl rfl ?_
    refine own_iloadN (pc' := 49) at_48 rfl rfl ?_
    refine own_iconst (2 : Int32) (pc' := 50) at_49 rfl rfl ?_
    refine own_iand (pc' := 51) at_50 rfl ?_
    refine own_if_eq (pc' := 60) (pf := 54) at_51 (by decide) (by decide) rfl (fun h_51 => ?_) (fun h_51 => ?_)
    · refine own_iloadN (pc' := 61) at_60 rfl rfl ?_
      refine own_bipush (8 : Int32) (pc' := 63) at_61 rfl rfl ?_
      refine own_ishr (pc' := 64) at_63 rfl ?_
      refine own_i2b (pc' := 65) at_64 rfl ?_
      refine own_istore (pc' := 67) (Ls' := #[.val (.int x0), .val (.int x1), .val (.int x2), .val (.int x3), .val (.int ((x0 &&& (2147483647 : Int32)) % (3 : Int32))), .val (.int (x1 &&& (127 : Int32))), .val (.int ((XT.ushr x1 (7 : Int32)) &&& (127 : Int32))), .val (.int ((XT.ushr x1 (14 : Int32)) &&& (127 : Int32))), .val (.int ((x1 &&& (127 : Int32)).toInt8.toInt32)), .val (.int ((x2 >>> ((8 : Int32) &&& 31)).toInt8.toInt32)), .unset, .unset, .unset]) at_65 rfl rfl ?_
      refine own_iload (pc' := 69) at_67 rfl rfl ?_
      refine own_if_ne (pc' := 80) (pf := 72) at_69 (by decide) (by decide) rfl (fun h_69 => ?_) (fun h_69 => ?_)
      · refine own_iload (pc' := 82) at_80 rfl rfl ?_
        refine own_iconst (1 : Int32) (pc' := 83) at_82 rfl rfl ?_
        refine own_ic_ne (pc' := 99) (pf := 86) at_83 (by decide) (by decide) rfl (fun h_83 => ?_) (fun h_83 => ?_)
        · refine own_iconst (2 : Int32) (pc' := 100) at_99 rfl rfl ?_
          refine own_newarr (pc' := 102) (ty := .byte) (cap := 2) (hw _ (List.mem_of_getElem? (i := 1) rfl)) rfl at_100 rfl (by decide) (by decide) (by decide) (by decide) (by decide) (fun h53 b gt_b lt_b E54 A_b => ?_)
          have ge_b : n0 ≤ b := Nat.le_trans hn0 gt_b
          replace hn0 : n0 ≤ h53.size := Nat.le_trans hn0 E54.1
          replace A_b : own_A Z h53 b .byte [.int (0 : Int32), .int (0 : Int32)] := A_b.cast rfl
          refine own_dup (pc' := 103) at_102 rfl rfl ?_
          refine own_iconst (0 : Int32) (pc' := 104) at_103 rfl rfl ?_
          refine own_iload (pc' := 106) at_104 rfl rfl ?_
          refine own_bastore (pc' := 107) A_b (by decide) (by first | decide | (simp only [List.length_cons, List.length_nil, List.length_set, List.length_replicate]; decide)) ge_b at_106 rfl (fun h55 K56 A_new => ?_)
          replace hn0 : n0 ≤ h55.size := Nat.le_trans hn0 K56.1
          replace A_b : own_A Z h55 b .byte [.int (nar .byte ((x1 &&& (127 : Int32)).toInt8.toInt32)), .int (0 : Int32)] := A_new.cast rfl
          refine own_dup (pc' := 108) at_107 rfl rfl ?_
          refine own_iconst (1 : Int32) (pc' := 109) at_108 rfl rfl ?_
          refine own_iload (pc' := 111) at_109 rfl rfl ?_
          refine own_bastore (pc' := 112) A_b (by decide) (by first | decide | (simp only [List.length_cons, List.length_nil, List.length_set, List.length_replicate]; decide)) ge_b at_111 rfl (fun h57 K58 A_new => ?_)
          replace hn0 : n0 ≤ h57.size := Nat.le_trans hn0 K58.1
          replace A_b : own_A Z h57 b .byte [.int (nar .byte ((x1 &&& (127 : Int32)).toInt8.toInt32)), .int (nar .byte ((x2 >>> ((8 : Int32) &&& 31)).toInt8.toInt32))] := A_new.cast rfl
          refine own_astore (pc' := 114) (Ls' := #[.val (.int x0), .val (.int x1), .val (.int x2), .val (.int x3), .val (.int ((x0 &&& (2147483647 : Int32)) % (3 : Int32))), .val (.int (x1 &&& (127 : Int32))), .val (.int ((XT.ushr x1 (7 : Int32)) &&& (127 : Int32))), .val (.int ((XT.ushr x1 (14 : Int32)) &&& (127 : Int32))), .val (.int ((x1 &&& (127 : Int32)).toInt8.toInt32)), .val (.int ((x2 >>> ((8 : Int32) &&& 31)).toInt8.toInt32)), .val (.ref b), .unset, .unset]) at_112 rfl rfl ?_
          exact own_more (cells' := 1) (slots' := 2) (by decide) (by decide) (by decide) (by decide) (own_law2 l Z a0 hw x0 x1 x2 x3 _ _ _ _ _ _ b [(nar .byte ((x1 &&& (127 : Int32)).toInt8.toInt32)), (nar .byte ((x2 >>> ((8 : Int32) &&& 31)).toInt8.toInt32))] (2 : Int32) h57 n0 hn0 rfl (show (2 : Nat) < 2 ^ 31 by decide) (by decide) ge_b A_b)
        · refine own_iconst (1 : Int32) (pc' := 87) at_86 rfl rfl ?_
          refine own_newarr (pc' := 89) (ty := .byte) (cap := 1) (hw _ (List.mem_of_getElem? (i := 1) rfl)) rfl at_87 rfl (by decide) (by decide) (by decide) (by decide) (by decide) (fun h59 b gt_b lt_b E60 A_b => ?_)
          have ge_b : n0 ≤ b := Nat.le_trans hn0 gt_b
          replace hn0 : n0 ≤ h59.size := Nat.le_trans hn0 E60.1
          replace A_b : own_A Z h59 b .byte [.int (0 : Int32)] := A_b.cast rfl
          refine own_dup (pc' := 90) at_89 rfl rfl ?_
          refine own_iconst (0 : Int32) (pc' := 91) at_90 rfl rfl ?_
          refine own_iload (pc' := 93) at_91 rfl rfl ?_
          refine own_bastore (pc' := 94) A_b (by decide) (by first | decide | (simp only [List.length_cons, List.length_nil, List.length_set, List.length_replicate]; decide)) ge_b at_93 rfl (fun h61 K62 A_new => ?_)
          replace hn0 : n0 ≤ h61.size := Nat.le_trans hn0 K62.1
          replace A_b : own_A Z h61 b .byte [.int (nar .byte ((x1 &&& (127 : Int32)).toInt8.toInt32))] := A_new.cast rfl
          refine own_astore (pc' := 96) (Ls' := #[.val (.int x0), .val (.int x1), .val (.int x2), .val (.int x3), .val (.int ((x0 &&& (2147483647 : Int32)) % (3 : Int32))), .val (.int (x1 &&& (127 : Int32))), .val (.int ((XT.ushr x1 (7 : Int32)) &&& (127 : Int32))), .val (.int ((XT.ushr x1 (14 : Int32)) &&& (127 : Int32))), .val (.int ((x1 &&& (127 : Int32)).toInt8.toInt32)), .val (.int ((x2 >>> ((8 : Int32) &&& 31)).toInt8.toInt32)), .val (.ref b), .unset, .unset]) at_94 rfl rfl ?_
          refine own_goto (pc' := 114) at_96 (by decide) (by decide) ?_
          exact own_more (cells' := 1) (slots' := 2) (by decide) (by decide) (by decide) (by decide) (own_law2 l Z a0 hw x0 x1 x2 x3 _ _ _ _ _ _ b [(nar .byte ((x1 &&& (127 : Int32)).toInt8.toInt32))] (1 : Int32) h61 n0 hn0 rfl (show (1 : Nat) < 2 ^ 31 by decide) (by decide) ge_b A_b)
      · refine own_iconst (0 : Int32) (pc' := 73) at_72 rfl rfl ?_
        refine own_newarr (pc' := 75) (ty := .byte) (cap := 0) (hw _ (List.mem_of_getElem? (i := 1) rfl)) rfl at_73 rfl (by decide) (by decide) (by decide) (by decide) (by decide) (fun h63 b gt_b lt_b E64 A_b => ?_)
        have ge_b : n0 ≤ b := Nat.le_trans hn0 gt_b
        replace hn0 : n0 ≤ h63.size := Nat.le_trans hn0 E64.1
        replace A_b : own_A Z h63 b .byte [] := A_b.cast rfl
        refine own_astore (pc' := 77) (Ls' := #[.val (.int x0), .val (.int x1), .val (.int x2), .val (.int x3), .val (.int ((x0 &&& (2147483647 : Int32)) % (3 : Int32))), .val (.int (x1 &&& (127 : Int32))), .val (.int ((XT.ushr x1 (7 : Int32)) &&& (127 : Int32))), .val (.int ((XT.ushr x1 (14 : Int32)) &&& (127 : Int32))), .val (.int ((x1 &&& (127 : Int32)).toInt8.toInt32)), .val (.int ((x2 >>> ((8 : Int32) &&& 31)).toInt8.toInt32)), .val (.ref b), .unset, .unset]) at_75 rfl rfl ?_
        refine own_goto (pc' := 114) at_77 (by decide) (by decide) ?_
        exact own_more (cells' := 1) (slots' := 2) (by decide) (by decide) (by decide) (by decide) (own_law2 l Z a0 hw x0 x1 x2 x3 _ _ _ _ _ _ b [] (0 : Int32) h63 n0 hn0 rfl (show (0 : Nat) < 2 ^ 31 by decide) (by decide) ge_b A_b)
    · refine own_iload (pc' := 56) at_54 rfl rfl ?_
      refine own_i2b (pc' := 57) at_56 rfl ?_
      refine own_goto (pc' := 65) at_57 (by decide) (by decide) ?_
      refine own_istore (pc' := 67) (Ls' := #[.val (.int x0), .val (.int x1), .val (.int x2), .val (.int x3), .val (.int ((x0 &&& (2147483647 : Int32)) % (3 : Int32))), .val (.int (x1 &&& (127 : Int32))), .val (.int ((XT.ushr x1 (7 : Int32)) &&& (127 : Int32))), .val (.int ((XT.ushr x1 (14 : Int32)) &&& (127 : Int32))), .val (.int ((x1 &&& (127 : Int32)).toInt8.toInt32)), .val (.int (((XT.ushr x1 (7 : Int32)) &&& (127 : Int32)).toInt8.toInt32)), .unset, .unset, .unset]) at_65 rfl rfl ?_
      refine own_iload (pc' := 69) at_67 rfl rfl ?_
      refine own_if_ne (pc' := 80) (pf := 72) at_69 (by decide) (by decide) rfl (fun h_69 => ?_) (fun h_69 => ?_)
      · refine own_iload (pc' := 82) at_80 rfl rfl ?_
        refine own_iconst (1 : Int32) (pc' := 83) at_82 rfl rfl ?_
        refine own_ic_ne (pc' := 99) (pf := 86) at_83 (by decide) (by decide) rfl (fun h_83 => ?_) (fun h_83 => ?_)
        · refine own_iconst (2 : Int32) (pc' := 100) at_99 rfl rfl ?_
          refine own_newarr (pc' := 102) (ty := .byte) (cap := 2) (hw _ (List.mem_of_getElem? (i := 1) rfl)) rfl at_100 rfl (by decide) (by decide) (by decide) (by decide) (by decide) (fun h65 b gt_b lt_b E66 A_b => ?_)
          have ge_b : n0 ≤ b := Nat.le_trans hn0 gt_b
          replace hn0 : n0 ≤ h65.size := Nat.le_trans hn0 E66.1
          replace A_b : own_A Z h65 b .byte [.int (0 : Int32), .int (0 : Int32)] := A_b.cast rfl
          refine own_dup (pc' := 103) at_102 rfl rfl ?_
          refine own_iconst (0 : Int32) (pc' := 104) at_103 rfl rfl ?_
          refine own_iload (pc' := 106) at_104 rfl rfl ?_
          refine own_bastore (pc' := 107) A_b (by decide) (by first | decide | (simp only [List.length_cons, List.length_nil, List.length_set, List.length_replicate]; decide)) ge_b at_106 rfl (fun h67 K68 A_new => ?_)
          replace hn0 : n0 ≤ h67.size := Nat.le_trans hn0 K68.1
          replace A_b : own_A Z h67 b .byte [.int (nar .byte ((x1 &&& (127 : Int32)).toInt8.toInt32)), .int (0 : Int32)] := A_new.cast rfl
          refine own_dup (pc' := 108) at_107 rfl rfl ?_
          refine own_iconst (1 : Int32) (pc' := 109) at_108 rfl rfl ?_
          refine own_iload (pc' := 111) at_109 rfl rfl ?_
          refine own_bastore (pc' := 112) A_b (by decide) (by first | decide | (simp only [List.length_cons, List.length_nil, List.length_set, List.length_replicate]; decide)) ge_b at_111 rfl (fun h69 K70 A_new => ?_)
          replace hn0 : n0 ≤ h69.size := Nat.le_trans hn0 K70.1
          replace A_b : own_A Z h69 b .byte [.int (nar .byte ((x1 &&& (127 : Int32)).toInt8.toInt32)), .int (nar .byte (((XT.ushr x1 (7 : Int32)) &&& (127 : Int32)).toInt8.toInt32))] := A_new.cast rfl
          refine own_astore (pc' := 114) (Ls' := #[.val (.int x0), .val (.int x1), .val (.int x2), .val (.int x3), .val (.int ((x0 &&& (2147483647 : Int32)) % (3 : Int32))), .val (.int (x1 &&& (127 : Int32))), .val (.int ((XT.ushr x1 (7 : Int32)) &&& (127 : Int32))), .val (.int ((XT.ushr x1 (14 : Int32)) &&& (127 : Int32))), .val (.int ((x1 &&& (127 : Int32)).toInt8.toInt32)), .val (.int (((XT.ushr x1 (7 : Int32)) &&& (127 : Int32)).toInt8.toInt32)), .val (.ref b), .unset, .unset]) at_112 rfl rfl ?_
          exact own_more (cells' := 1) (slots' := 2) (by decide) (by decide) (by decide) (by decide) (own_law2 l Z a0 hw x0 x1 x2 x3 _ _ _ _ _ _ b [(nar .byte ((x1 &&& (127 : Int32)).toInt8.toInt32)), (nar .byte (((XT.ushr x1 (7 : Int32)) &&& (127 : Int32)).toInt8.toInt32))] (2 : Int32) h69 n0 hn0 rfl (show (2 : Nat) < 2 ^ 31 by decide) (by decide) ge_b A_b)
        · refine own_iconst (1 : Int32) (pc' := 87) at_86 rfl rfl ?_
          refine own_newarr (pc' := 89) (ty := .byte) (cap := 1) (hw _ (List.mem_of_getElem? (i := 1) rfl)) rfl at_87 rfl (by decide) (by decide) (by decide) (by decide) (by decide) (fun h71 b gt_b lt_b E72 A_b => ?_)
          have ge_b : n0 ≤ b := Nat.le_trans hn0 gt_b
          replace hn0 : n0 ≤ h71.size := Nat.le_trans hn0 E72.1
          replace A_b : own_A Z h71 b .byte [.int (0 : Int32)] := A_b.cast rfl
          refine own_dup (pc' := 90) at_89 rfl rfl ?_
          refine own_iconst (0 : Int32) (pc' := 91) at_90 rfl rfl ?_
          refine own_iload (pc' := 93) at_91 rfl rfl ?_
          refine own_bastore (pc' := 94) A_b (by decide) (by first | decide | (simp only [List.length_cons, List.length_nil, List.length_set, List.length_replicate]; decide)) ge_b at_93 rfl (fun h73 K74 A_new => ?_)
          replace hn0 : n0 ≤ h73.size := Nat.le_trans hn0 K74.1
          replace A_b : own_A Z h73 b .byte [.int (nar .byte ((x1 &&& (127 : Int32)).toInt8.toInt32))] := A_new.cast rfl
          refine own_astore (pc' := 96) (Ls' := #[.val (.int x0), .val (.int x1), .val (.int x2), .val (.int x3), .val (.int ((x0 &&& (2147483647 : Int32)) % (3 : Int32))), .val (.int (x1 &&& (127 : Int32))), .val (.int ((XT.ushr x1 (7 : Int32)) &&& (127 : Int32))), .val (.int ((XT.ushr x1 (14 : Int32)) &&& (127 : Int32))), .val (.int ((x1 &&& (127 : Int32)).toInt8.toInt32)), .val (.int (((XT.ushr x1 (7 : Int32)) &&& (127 : Int32)).toInt8.toInt32)), .val (.ref b), .unset, .unset]) at_94 rfl rfl ?_
          refine own_goto (pc' := 114) at_96 (by decide) (by decide) ?_
          exact own_more (cells' := 1) (slots' := 2) (by decide) (by decide) (by decide) (by decide) (own_law2 l Z a0 hw x0 x1 x2 x3 _ _ _ _ _ _ b [(nar .byte ((x1 &&& (127 : Int32)).toInt8.toInt32))] (1 : Int32) h73 n0 hn0 rfl (show (1 : Nat) < 2 ^ 31 by decide) (by decide) ge_b A_b)
      · refine own_iconst (0 : Int32) (pc' := 73) at_72 rfl rfl ?_
        refine own_newarr (pc' := 75) (ty := .byte) (cap := 0) (hw _ (List.mem_of_getElem? (i := 1) rfl)) rfl at_73 rfl (by decide) (by decide) (by decide) (by decide) (by decide) (fun h75 b gt_b lt_b E76 A_b => ?_)
        have ge_b : n0 ≤ b := Nat.le_trans hn0 gt_b
        replace hn0 : n0 ≤ h75.size := Nat.le_trans hn0 E76.1
        replace A_b : own_A Z h75 b .byte [] := A_b.cast rfl
        refine own_astore (pc' := 77) (Ls' := #[.val (.int x0), .val (.int x1), .val (.int x2), .val (.int x3), .val (.int ((x0 &&& (2147483647 : Int32)) % (3 : Int32))), .val (.int (x1 &&& (127 : Int32))), .val (.int ((XT.ushr x1 (7 : Int32)) &&& (127 : Int32))), .val (.int ((XT.ushr x1 (14 : Int32)) &&& (127 : Int32))), .val (.int ((x1 &&& (127 : Int32)).toInt8.toInt32)), .val (.int (((XT.ushr x1 (7 : Int32)) &&& (127 : Int32)).toInt8.toInt32)), .val (.ref b), .unset, .unset]) at_75 rfl rfl ?_
        refine own_goto (pc' := 114) at_77 (by decide) (by decide) ?_
        exact own_more (cells' := 1) (slots' := 2) (by decide) (by decide) (by decide) (by decide) (own_law2 l Z a0 hw x0 x1 x2 x3 _ _ _ _ _ _ b [] (0 : Int32) h75 n0 hn0 rfl (show (0 : Nat) < 2 ^ 31 by decide) (by decide) ge_b A_b)
set_option maxRecDepth 65536 in
set_option maxHeartbeats 40000000 in
theorem comes_1 {Post : Tables → Env → Array Value → State → Outcome → State → Prop} (hpost : ∀ tb e args s v u, (limb_1_1.after args s (.returned v) u = true ∧ limb_1_2.after args s (.returned v) u = true ∧ True) → FrameEnd s (.returned v) u (Jvm.fieldLocs frame_1_writes args s ++ Jvm.arrayLocs frame_1_arrays args s ++ Jvm.staticLocs frame_1_statics s) 16 128 → Post tb e args s (.returned v) u) :
    ArmFor flags0 classFile x code maxLocals ret World_1 tables_1 room_1 Calls_1 rest_1 Pre_1 Post := by
  intro l hfl _ _ p e ha hc hk s m args below hf hA hF happ hP
  obtain ⟨hcalls, hrest, hpre⟩ := hP
  obtain ⟨-, -, -, hnamed, -, -, -, hat⟩ := (Spec.applies_iff hf).mp happ
  obtain ⟨hg, hn⟩ := and_e (Cond.before_iff.mp (show (Jvm.Cond.and given_1 narrow_1).before args s = true from hpre))
  obtain ⟨hcount, hg0⟩ := and_e hg
  obtain ⟨w0, w1, w2, w3, rfl⟩ : ∃ w0 w1 w2 w3 : Value, args = #[w0, w1, w2, w3] := by
    have hs : args.size = 4 := by simpa [Cond.value, given_1] using hcount
    obtain ⟨L⟩ := args
    match L, hs with
    | [w0, w1, w2, w3], _ => exact ⟨w0, w1, w2, w3, rfl⟩
  have hw := fun d (hd : d ∈ tables_1) => atoms_spec (ws := Jvm.Cond.code x code maxLocals ret :: tables_1) hat d (List.mem_cons_of_mem _ hd)
  obtain ⟨hg0v, hg1⟩ := and_e hg0
  obtain ⟨x0, e0⟩ := is_v hg0v
  obtain rfl : w0 = (.int x0) := Option.some.inj e0
  obtain ⟨hg1v, hg2⟩ := and_e hg1
  obtain ⟨x1, e1⟩ := is_v hg1v
  obtain rfl : w1 = (.int x1) := Option.some.inj e1
  obtain ⟨hg2v, hg3⟩ := and_e hg2
  obtain ⟨x2, e2⟩ := is_v hg2v
  obtain rfl : w2 = (.int x2) := Option.some.inj e2
  obtain ⟨x3, e3⟩ := is_v hg3
  obtain rfl : w3 = (.int x3) := Option.some.inj e3
  obtain ⟨n, o, h1, h2, h3, _, L, rfl, ⟨hq1, N⟩, hq⟩ := own_met (argsL := [.int x0, .int x1, .int x2, .int x3]) (own_law l s _ hw x0 x1 x2 x3 s.heap s.heap.size (Nat.le_refl _)) (plainFor_of_name own_pn0) rfl tables_1 p e ha hc hk s m _ below hf ((Spec.applies_iff_loose hf).mp happ).1 ⟨rfl, State.Warmed39.refl s, rfl⟩ trivial
  subst hq1
  refine ⟨n, _, h1, h2, h3, hpost _ _ _ _ _ _ ⟨Cond.after_iff.mpr rfl, Cond.after_iff.mpr (eq_i res_at (Term.int_eval (1)) rfl), trivial⟩ ⟨hq.1, hq.2.1, (hq.2.2.sift fun y hy => Or.inr (N y hy)).mono (by decide) (by decide)⟩⟩
theorem main_1_1 : Claimed_1_1 := comes_1 fun _ _ _ _ _ _ h hF => ⟨h.1, hF⟩
theorem main_1_2 : Claimed_1_2 := comes_1 fun _ _ _ _ _ _ h hF => ⟨h.2.1, hF⟩
end Jvm.Pilot.@@N@@
namespace Jvm.Pilot.@@N@@
open Jvm Jvm.ClassFile Sem Op Lib Jvm.Free Jvm.Stand Jvm.Pilot.@@N@@.Jvm.D
/-! MADE BY PROGRAM (witnessworld.py) out of the Statement's table words and the real class files: 9 classes; the members and pool entries that the words name. The judged class is class 1, her method 2. -/
namespace start1
open Jvm.ClassFile
def u (s : String) : CpInfo := .utf8 (stringToUtf16 s)
/-- a pool by its gaps: so many unusable entries, then the entry; so many at the end -/
def gap : Nat → List CpInfo → List CpInfo
  | 0, r => r
  | n + 1, r => .unusable :: gap n r
def poolList (es : List (Nat × CpInfo)) (last : Nat) : List CpInfo := es.foldr (fun e r => gap e.1 (e.2 :: r)) (gap last [])
def pool (es : List (Nat × CpInfo)) (last : Nat) : Array CpInfo := ⟨poolList es last⟩
def fileOf (pool : Array CpInfo) (this : Nat) (attrs : Array Attribute := #[]) (ms : Array MethodInfo := #[]) (fl : Nat := 33) (sup : Nat := 0) (ifs : Array Nat := #[]) (fds : Array FieldInfo := #[]) : ClassFile where
  minorVersion := 0
  majorVersion := 65
  constantPool := pool
  accessFlags := fl
  thisClass := this
  superClass := sup
  interfaces := ifs
  fields := fds
  methods := ms
  attributes := attrs
def plain (name : String) (sup : Option ClassId) : Class where
  name := name
  kind := .ordinary
  loader := none
  accessFlags := 33
  super := sup
  interfaces := #[]
  cf := none
  fields := #[]
  methods := #[]
  instanceTypes := #[]
  staticTypes := #[]
  resolved := #[]
  callSites := []
  init := .initialized
  statics := none
  mirror := none

def pool0 : Array CpInfo := pool [(5, u "<init>"), (0, u "()V"), (1, .class_ 10), (1, u "java/lang/Object")] 113

def k0c0 : Code := { maxStack := 0, maxLocals := 1, code := object_method_1_code, exceptionTable := #[], attributes := #[] }
def k0m0 : Method := { name := "<init>", desc := "()V", sig := { parameters := [], returnType := none }, accessFlags := 1, code := some k0c0 }
/-- java/lang/Object -/
def k0 : Class := { plain "java/lang/Object" none with
  accessFlags := 33
  interfaces := #[]
  cf := some (fileOf pool0 8 #[] #[{ accessFlags := 1, nameIndex := 5, descriptorIndex := 6, attributes := #[] }] 33 0 #[] #[])
  fields := #[]
  methods := #[k0m0]
  instanceTypes := #[]
  staticTypes := #[]
  resolved := Array.replicate 124 none
  statics := none }

def pool1 : Array CpInfo := pool [(2, .class_ 4), (1, u "java/lang/Object"), (0, u "<init>"), (0, u "()V"), (0, .methodref 8 9), (0, .class_ 10), (0, .nameAndType 11 12), (0, u "com/example/cursorwire/cursorwire/wire/ProtoReader"), (0, u "skipTag"), (0, u "(I)Z"), (0, .methodref 8 14), (0, .nameAndType 15 16), (0, u "position"), (0, u "()I"), (0, .methodref 8 18), (0, .nameAndType 19 16), (0, u "remaining"), (0, .integer 2147483647), (0, .methodref 8 22), (0, .nameAndType 5 23), (0, u "([B)V"), (0, .methodref 25 26), (0, .class_ 27), (0, .nameAndType 28 29), (0, u "com/example/cursorwire/cursorwire/wire/ProtoReaderSkipTagPinLaw"), (0, u "step"), (0, u "(Lcom/example/cursorwire/cursorwire/wire/ProtoReader;[BII)I"), (3, u "law"), (0, u "(IIII)Z")] 4

def k1m0 : Method := { name := "<init>", desc := "()V", sig := { parameters := [], returnType := none }, accessFlags := 2, code := none }
def k1c1 : Code := { maxStack := 3, maxLocals := 7, code := method_2_code, exceptionTable := #[], attributes := #[] }
def k1m1 : Method := { name := "step", desc := "(Lcom/example/cursorwire/cursorwire/wire/ProtoReader;[BII)I", sig := { parameters := [(.object "com/example/cursorwire/cursorwire/wire/ProtoReader"), (.array .byte), .int, .int], returnType := some .int }, accessFlags := 10, code := some k1c1 }
def k1c2 : Code := { maxStack := 4, maxLocals := 13, code := code, exceptionTable := #[], attributes := #[] }
def k1m2 : Method := { name := "law", desc := "(IIII)Z", sig := { parameters := [.int, .int, .int, .int], returnType := some .boolean }, accessFlags := 9, code := some k1c2 }
/-- com/example/cursorwire/cursorwire/wire/ProtoReaderSkipTagPinLaw -/
def k1 : Class := { plain "com/example/cursorwire/cursorwire/wire/ProtoReaderSkipTagPinLaw" (some 0) with
  accessFlags := 49
  interfaces := #[]
  cf := some (fileOf pool1 25 #[] #[{ accessFlags := 2, nameIndex := 5, descriptorIndex := 6, attributes := #[] }, { accessFlags := 10, nameIndex := 28, descriptorIndex := 29, attributes := #[] }, { accessFlags := 9, nameIndex := 33, descriptorIndex := 34, attributes := #[] }] 49 2 #[] #[])
  fields := #[]
  methods := #[k1m0, k1m1, k1m2]
  instanceTypes := #[]
  staticTypes := #[]
  resolved := Array.replicate 39 none
  statics := none }

def pool2 : Array CpInfo := pool [(1, .methodref 2 3), (0, .class_ 4), (0, .nameAndType 5 6), (0, u "com/example/cursorwire/cursorwire/wire/ProtoReader"), (0, u "<init>"), (0, u "([BII)V"), (0, .methodref 8 9), (0, .class_ 10), (0, .nameAndType 5 11), (0, u "java/lang/Object"), (0, u "()V"), (0, .fieldref 2 13), (0, .nameAndType 14 15), (0, u "buffer"), (0, u "[B"), (0, .fieldref 2 17), (0, .nameAndType 18 19), (0, u "position"), (0, u "I"), (0, .fieldref 2 21), (0, .nameAndType 22 19), (0, u "limit"), (52, u "()I"), (60, u "VARINT"), (2, u "I64"), (1, u "LEN"), (1, u "SGROUP"), (1, u "EGROUP"), (1, u "I32"), (1, u "MAX_FIELD_NUMBER"), (1, u "MAX_VARINT_LENGTH"), (1, u "MAX_GROUP_DEPTH"), (1, u "([B)V"), (4, u "skipTag"), (0, u "(I)Z"), (0, u "remaining")] 35

def k2c0 : Code := { maxStack := 4, maxLocals := 2, code := prog_80_method_1_code, exceptionTable := #[], attributes := #[] }
def k2m0 : Method := { name := "<init>", desc := "([B)V", sig := { parameters := [(.array .byte)], returnType := none }, accessFlags := 1, code := some k2c0 }
def k2c1 : Code := { maxStack := 2, maxLocals := 4, code := prog_80_method_3_code, exceptionTable := #[], attributes := #[] }
def k2m1 : Method := { name := "<init>", desc := "([BII)V", sig := { parameters := [(.array .byte), .int, .int], returnType := none }, accessFlags := 2, code := some k2c1 }
def k2c2 : Code := { maxStack := 3, maxLocals := 2, code := prog_80_method_8_code, exceptionTable := #[], attributes := #[] }
def k2m2 : Method := { name := "skipTag", desc := "(I)Z", sig := { parameters := [.int], returnType := some .boolean }, accessFlags := 0, code := some k2c2 }
def k2c3 : Code := { maxStack := 2, maxLocals := 1, code := prog_80_method_9_code, exceptionTable := #[], attributes := #[] }
def k2m3 : Method := { name := "remaining", desc := "()I", sig := { parameters := [], returnType := some .int }, accessFlags := 0, code := some k2c3 }
def k2c4 : Code := { maxStack := 1, maxLocals := 1, code := prog_80_method_11_code, exceptionTable := #[], attributes := #[] }
def k2m4 : Method := { name := "position", desc := "()I", sig := { parameters := [], returnType := some .int }, accessFlags := 0, code := some k2c4 }
/-- com/example/cursorwire/cursorwire/wire/ProtoReader -/
def k2 : Class := { plain "com/example/cursorwire/cursorwire/wire/ProtoReader" (some 0) with
  accessFlags := 49
  interfaces := #[]
  cf := some (fileOf pool2 2 #[] #[{ accessFlags := 1, nameIndex := 5, descriptorIndex := 155, attributes := #[] }, { accessFlags := 2, nameIndex := 5, descriptorIndex := 6, attributes := #[] }, { accessFlags := 0, nameIndex := 160, descriptorIndex := 161, attributes := #[] }, { accessFlags := 0, nameIndex := 162, descriptorIndex := 75, attributes := #[] }, { accessFlags := 0, nameIndex := 18, descriptorIndex := 75, attributes := #[] }] 49 8 #[] #[{ accessFlags := 24, nameIndex := 136, descriptorIndex := 19, attributes := #[] }, { accessFlags := 24, nameIndex := 139, descriptorIndex := 19, attributes := #[] }, { accessFlags := 24, nameIndex := 141, descriptorIndex := 19, attributes := #[] }, { accessFlags := 24, nameIndex := 143, descriptorIndex := 19, attributes := #[] }, { accessFlags := 24, nameIndex := 145, descriptorIndex := 19, attributes := #[] }, { accessFlags := 24, nameIndex := 147, descriptorIndex := 19, attributes := #[] }, { accessFlags := 26, nameIndex := 149, descriptorIndex := 19, attributes := #[] }, { accessFlags := 26, nameIndex := 151, descriptorIndex := 19, attributes := #[] }, { accessFlags := 26, nameIndex := 153, descriptorIndex := 19, attributes := #[] }, { accessFlags := 18, nameIndex := 14, descriptorIndex := 15, attributes := #[] }, { accessFlags := 2, nameIndex := 22, descriptorIndex := 19, attributes := #[] }, { accessFlags := 2, nameIndex := 18, descriptorIndex := 19, attributes := #[] }])
  fields := #[{ name := "VARINT", type := .int, accessFlags := 24, slot := 0, constantValue := 0 }, { name := "I64", type := .int, accessFlags := 24, slot := 1, constantValue := 0 }, { name := "LEN", type := .int, accessFlags := 24, slot := 2, constantValue := 0 }, { name := "SGROUP", type := .int, accessFlags := 24, slot := 3, constantValue := 0 }, { name := "EGROUP", type := .int, accessFlags := 24, slot := 4, constantValue := 0 }, { name := "I32", type := .int, accessFlags := 24, slot := 5, constantValue := 0 }, { name := "MAX_FIELD_NUMBER", type := .int, accessFlags := 26, slot := 6, constantValue := 0 }, { name := "MAX_VARINT_LENGTH", type := .int, accessFlags := 26, slot := 7, constantValue := 0 }, { name := "MAX_GROUP_DEPTH", type := .int, accessFlags := 26, slot := 8, constantValue := 0 }, { name := "buffer", type := (.array .byte), accessFlags := 18, slot := 0, constantValue := 0 }, { name := "limit", type := .int, accessFlags := 2, slot := 1, constantValue := 0 }, { name := "position", type := .int, accessFlags := 2, slot := 2, constantValue := 0 }]
  methods := #[k2m0, k2m1, k2m2, k2m3, k2m4]
  instanceTypes := #[(.array .byte), .int, .int]
  staticTypes := #[.int, .int, .int, .int, .int, .int, .int, .int, .int]
  resolved := Array.replicate 198 none
  statics := none }

def pool3 : Array CpInfo := pool [(1, u "java/lang/Cloneable"), (0, .class_ 1), (0, u "java/lang/Object"), (0, .class_ 3)] 3

/-- java/lang/Cloneable -/
def k3 : Class := { plain "java/lang/Cloneable" (some 0) with
  accessFlags := 1537
  interfaces := #[]
  cf := some (fileOf pool3 2 #[] #[] 1537 4 #[] #[])
  fields := #[]
  methods := #[]
  instanceTypes := #[]
  staticTypes := #[]
  resolved := Array.replicate 8 none
  statics := none }

def pool4 : Array CpInfo := pool [(1, u "java/io/Serializable"), (0, .class_ 1), (0, u "java/lang/Object"), (0, .class_ 3)] 3

/-- java/io/Serializable -/
def k4 : Class := { plain "java/io/Serializable" (some 0) with
  accessFlags := 1537
  interfaces := #[]
  cf := some (fileOf pool4 2 #[] #[] 1537 4 #[] #[])
  fields := #[]
  methods := #[]
  instanceTypes := #[]
  staticTypes := #[]
  resolved := Array.replicate 8 none
  statics := none }

/-- the primitive byte -/
def k5 : Class := { plain "byte" none with kind := .primitive 'B', accessFlags := 0x411 }
/-- [B -/
def k6 : Class := { plain "[B" (some 0) with kind := .array 5 .byte, interfaces := #[3, 4], accessFlags := 1041 }

/-- the primitive int -/
def k7 : Class := { plain "int" none with kind := .primitive 'I', accessFlags := 0x411 }
/-- [I -/
def k8 : Class := { plain "[I" (some 0) with kind := .array 7 .int, interfaces := #[3, 4], accessFlags := 1041 }

def heap : Heap := #[]
def classes : Array Class := #[k0, k1, k2, k3, k4, k5, k6, k7, k8]
def interned : List (Array UInt16 × Addr) := []
def slotsUsed : Nat := 0
def theMethod : MethodId := ⟨1, 2⟩
def args0 : Array Value := #[.int 5, .int 7, .int 9, .int 1]
def aboutOver (below : List Frame) : State where
  vm := { classes := classes, interned := interned.toArray }
  heap := heap
  slotsUsed := slotsUsed
  threads := #[{ frames := .invoking theMethod args0 :: below }]
def below0 : List Frame := [.native { method := ⟨0, 0⟩, args := #[] }]
def about1 : State := aboutOver below0
def p0 : Program := .bare "" "" ""
def e0 : Env := launch0.env 0 0 0
theorem w_frames : about1.frames = Frame.invoking theMethod args0 :: below0 := rfl
set_option maxRecDepth 65536 in
theorem w_args : argsFit about1.vm theMethod args0 = true := by decide +kernel
set_option maxRecDepth 65536 in
theorem w_heap : heapFits about1 = true := by decide +kernel
set_option maxRecDepth 65536 in
theorem w_runnable : about1.curStatus? = some .runnable := by decide +kernel
set_option maxRecDepth 65536 in
theorem w_alone : about1.alone = true := by decide +kernel
set_option maxRecDepth 65536 in
theorem w_named : about1.methodNamed? x = some theMethod := by decide +kernel
set_option maxRecDepth 65536 in
theorem w_hears : about1.hears theMethod below0 = true := by decide +kernel
set_option maxRecDepth 65536 in
theorem w_ripe : about1.ripe theMethod args0 below0 = true := by decide +kernel
theorem w_running : about1.status = .running := rfl
set_option maxRecDepth 65536 in
theorem w_room : about1.hasRoom e0.platform room_1 = true :=
  launch0.hasRoom_least _ room_1 (by decide +kernel) (by decide +kernel) (by decide +kernel) (by decide +kernel) (by decide +kernel) (by decide +kernel)
theorem allAtoms_all (ts : List Jvm.Cond) (a : Array Jvm.Value) (st : Jvm.State) : (allAtoms ts).before a st = ts.all (fun c => c.before a st) := by
  induction ts with
  | nil => rfl
  | cons c t ih =>
    show (Jvm.Cond.and c (allAtoms t)).before a st = _
    rw [Jvm.Cond.before_and, ih, List.all_cons]
def words1 : List Jvm.Cond := Jvm.Cond.code x code maxLocals ret :: tables_1
/-- a 'code' word, met by the world's own term for the bytes: nothing is compared byte by byte -/
theorem code_word {y : MethodName} {bytes : ByteArray} {mx : Nat} {rt : Option FieldType} {a : Array Value} {s : State} {m : MethodId} {meth : Method} {c : Code} (h1 : s.methodNamed? y = some m) (h2 : s.vm.method? m = some meth) (h3 : meth.code = some c) (h4 : c.code = bytes)
    (h5 : (c.maxLocals == mx && c.exceptionTable.isEmpty && decide (c.maxStack ≤ mostOperands) && decide (meth.sig.returnType = rt) && !meth.locks && decide (parseMethodDescriptor y.desc = some meth.sig)) = true) : (Jvm.Cond.code y bytes mx rt).before a s = true := by
  simp only [Bool.and_eq_true, beq_iff_eq, Bool.not_eq_true', decide_eq_true_eq] at h5
  obtain ⟨⟨⟨⟨⟨g1, g2⟩, g3⟩, g4⟩, g5⟩, g6⟩ := h5
  simp [Cond.before, Cond.holds, Cond.value, h1, h2, h3, h4, g1, g2, g3, g4, g5, g6]
def isCode : Jvm.Cond → Bool
  | .code _ _ _ _ => true
  | _ => false
theorem all_split {L : List Jvm.Cond} {P : Jvm.Cond → Bool} (h1 : L.all (fun c => isCode c || P c) = true) (h2 : ∀ c ∈ L.filter isCode, P c = true) : L.all P = true := by
  refine List.all_eq_true.mpr fun c hc => ?_
  have h := List.all_eq_true.mp h1 c hc
  rcases Bool.eq_false_or_eq_true (isCode c) with hi | hi
  · exact h2 c (List.mem_filter.mpr ⟨hc, hi⟩)
  · simpa [hi] using h
set_option maxRecDepth 65536 in
theorem w_c0 : (Jvm.Cond.code x code maxLocals ret).before args0 about1 = true := code_word (m := ⟨1, 2⟩) (meth := k1m2) (c := k1c2) (by decide +kernel) rfl rfl rfl (by decide +kernel)
set_option maxRecDepth 65536 in
theorem w_c1 : (Jvm.Cond.code ({ cls := "com/example/cursorwire/cursorwire/wire/ProtoReader", name := "<init>", desc := "([B)V" } : Jvm.MethodName) prog_80_method_1_code (2 : Nat) (Option.none : Option Jvm.ClassFile.FieldType)).before args0 about1 = true := code_word (m := ⟨2, 0⟩) (meth := k2m0) (c := k2c0) (by decide +kernel) rfl rfl rfl (by decide +kernel)
set_option maxRecDepth 65536 in
theorem w_c2 : (Jvm.Cond.code ({ cls := "com/example/cursorwire/cursorwire/wire/ProtoReader", name := "<init>", desc := "([BII)V" } : Jvm.MethodName) prog_80_method_3_code (4 : Nat) (Option.none : Option Jvm.ClassFile.FieldType)).before args0 about1 = true := code_word (m := ⟨2, 1⟩) (meth := k2m1) (c := k2c1) (by decide +kernel) rfl rfl rfl (by decide +kernel)
set_option maxRecDepth 65536 in
theorem w_c3 : (Jvm.Cond.code ({ cls := "java/lang/Object", name := "<init>", desc := "()V" } : Jvm.MethodName) object_method_1_code (1 : Nat) (Option.none : Option Jvm.ClassFile.FieldType)).before args0 about1 = true := code_word (m := ⟨0, 0⟩) (meth := k0m0) (c := k0c0) (by decide +kernel) rfl rfl rfl (by decide +kernel)
set_option maxRecDepth 65536 in
theorem w_c4 : (Jvm.Cond.code ({ cls := "com/example/cursorwire/cursorwire/wire/ProtoReaderSkipTagPinLaw", name := "step", desc := "(Lcom/example/cursorwire/cursorwire/wire/ProtoReader;[BII)I" } : Jvm.MethodName) method_2_code (7 : Nat) (Option.some Jvm.ClassFile.FieldType.int)).before args0 about1 = true := code_word (m := ⟨1, 1⟩) (meth := k1m1) (c := k1c1) (by decide +kernel) rfl rfl rfl (by decide +kernel)
set_option maxRecDepth 65536 in
theorem w_c5 : (Jvm.Cond.code ({ cls := "com/example/cursorwire/cursorwire/wire/ProtoReader", name := "skipTag", desc := "(I)Z" } : Jvm.MethodName) prog_80_method_8_code (2 : Nat) (Option.some Jvm.ClassFile.FieldType.boolean)).before args0 about1 = true := code_word (m := ⟨2, 2⟩) (meth := k2m2) (c := k2c2) (by decide +kernel) rfl rfl rfl (by decide +kernel)
set_option maxRecDepth 65536 in
theorem w_c6 : (Jvm.Cond.code ({ cls := "com/example/cursorwire/cursorwire/wire/ProtoReader", name := "position", desc := "()I" } : Jvm.MethodName) prog_80_method_11_code (1 : Nat) (Option.some Jvm.ClassFile.FieldType.int)).before args0 about1 = true := code_word (m := ⟨2, 4⟩) (meth := k2m4) (c := k2c4) (by decide +kernel) rfl rfl rfl (by decide +kernel)
set_option maxRecDepth 65536 in
theorem w_c7 : (Jvm.Cond.code ({ cls := "com/example/cursorwire/cursorwire/wire/ProtoReader", name := "remaining", desc := "()I" } : Jvm.MethodName) prog_80_method_9_code (1 : Nat) (Option.some Jvm.ClassFile.FieldType.int)).before args0 about1 = true := code_word (m := ⟨2, 3⟩) (meth := k2m3) (c := k2c3) (by decide +kernel) rfl rfl rfl (by decide +kernel)
def codes1 : List Jvm.Cond := [Jvm.Cond.code x code maxLocals ret, Jvm.Cond.code ({ cls := "com/example/cursorwire/cursorwire/wire/ProtoReader", name := "<init>", desc := "([B)V" } : Jvm.MethodName) prog_80_method_1_code (2 : Nat) (Option.none : Option Jvm.ClassFile.FieldType), Jvm.Cond.code ({ cls := "com/example/cursorwire/cursorwire/wire/ProtoReader", name := "<init>", desc := "([BII)V" } : Jvm.MethodName) prog_80_method_3_code (4 : Nat) (Option.none : Option Jvm.ClassFile.FieldType), Jvm.Cond.code ({ cls := "java/lang/Object", name := "<init>", desc := "()V" } : Jvm.MethodName) object_method_1_code (1 : Nat) (Option.none : Option Jvm.ClassFile.FieldType), Jvm.Cond.code ({ cls := "com/example/cursorwire/cursorwire/wire/ProtoReaderSkipTagPinLaw", name := "step", desc := "(Lcom/example/cursorwire/cursorwire/wire/ProtoReader;[BII)I" } : Jvm.MethodName) method_2_code (7 : Nat) (Option.some Jvm.ClassFile.FieldType.int), Jvm.Cond.code ({ cls := "com/example/cursorwire/cursorwire/wire/ProtoReader", name := "skipTag", desc := "(I)Z" } : Jvm.MethodName) prog_80_method_8_code (2 : Nat) (Option.some Jvm.ClassFile.FieldType.boolean), Jvm.Cond.code ({ cls := "com/example/cursorwire/cursorwire/wire/ProtoReader", name := "position", desc := "()I" } : Jvm.MethodName) prog_80_method_11_code (1 : Nat) (Option.some Jvm.ClassFile.FieldType.int), Jvm.Cond.code ({ cls := "com/example/cursorwire/cursorwire/wire/ProtoReader", name := "remaining", desc := "()I" } : Jvm.MethodName) prog_80_method_9_code (1 : Nat) (Option.some Jvm.ClassFile.FieldType.int)]
set_option maxRecDepth 65536 in
theorem codes_eq : words1.filter isCode = codes1 := rfl
theorem w_codes : ∀ c ∈ words1.filter isCode, c.before args0 about1 = true := by
  rw [codes_eq]
  intro c hc
  simp only [codes1, List.mem_cons, List.not_mem_nil, or_false] at hc
  rcases hc with rfl | rfl | rfl | rfl | rfl | rfl | rfl | rfl
  · exact w_c0
  · exact w_c1
  · exact w_c2
  · exact w_c3
  · exact w_c4
  · exact w_c5
  · exact w_c6
  · exact w_c7
set_option maxRecDepth 65536 in
theorem w_t1 : (words1.take 24).all (fun c => isCode c || c.before args0 about1) = true := by decide +kernel
set_option maxRecDepth 65536 in
theorem w_t2 : (words1.drop 24).all (fun c => isCode c || c.before args0 about1) = true := by decide +kernel
theorem w_tables : (allAtoms (Jvm.Cond.code x code maxLocals ret :: tables_1)).before args0 about1 = true := by
  rw [allAtoms_all]
  show words1.all (fun c => c.before args0 about1) = true
  refine all_split ?_ w_codes
  rw [← List.take_append_drop 24 words1, List.all_append, w_t1, w_t2]
  rfl
set_option maxRecDepth 65536 in
theorem w_case : (Jvm.Cond.and given_1 narrow_1).before args0 about1 = true := by decide +kernel
theorem w_applies : (headSpec (Jvm.Cond.code x code maxLocals ret :: tables_1) room_1).applies x e0.platform about1 = true :=
  (Spec.applies_iff w_frames).mpr ⟨w_running, w_runnable, w_alone, w_named, w_hears, w_ripe, w_room, w_tables⟩
theorem atStart : AtStart classFile x code maxLocals ret World_1 tables_1 room_1 Calls_1 rest_1 Pre_1 launch0 p0 e0 about1 theMethod args0 below0 :=
  ⟨lists_1, trivial, launch0.admits_env _ _ _, launch0.least_env, fairChoices_fair.cas, fairChoices_fair.clock, w_frames, w_args, w_heap, w_applies, trivial, trivial, w_case⟩
end start1
theorem witness_1 : WitnessClaimed_1 := ⟨start1.p0, start1.e0, start1.about1, start1.theMethod, start1.args0, start1.below0, start1.atStart⟩
end Jvm.Pilot.@@N@@

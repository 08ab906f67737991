import JvmDerived
import JvmDerived.Pilot.@@N@@Statement
import JvmDerived.Pilot.@@N@@Code
set_option linter.unusedVariables false
set_option linter.unusedSimpArgs false
namespace Jvm.Pilot.@@N@@
open Jvm Jvm.ClassFile Sem Op Lib Jvm.Free Jvm.Stand Jvm.LawKit Jvm.RoadKit Bundle Jvm.Pilot.@@N@@.Jvm.D
-- LAYER BEGIN
section OwnW
variable {l : Launch} {Z : State} {y : MethodName} {bytes : ByteArray} {ml : Nat} {ret : Option FieldType} {R : Room} {n0 : Nat} {Q : Option Value → Heap → Prop} {h : Heap} {cells slots pc pc' : Nat} {Ls Ls' : Array Slot} {st st' : List Value} {a0 : Array Value}
/-- from this point of the body (heap h, so many cells and slots made, at pc with these locals and this stack) every run returns; Q holds of the value and the heap; all that was written lies at or above n0 -/
def own_W (l : Launch) (Z : State) (y : MethodName) (bytes : ByteArray) (ml : Nat) (ret : Option FieldType) (R : Room) (n0 : Nat) (Q : Option Value → Heap → Prop) (h : Heap) (cells slots pc : Nat) (Ls : Array Slot) (st : List Value) : Prop :=
  ∀ (p : Program) (e : Env) (s : State) (m : MethodId) (args : Array Value) (below : List Frame) (meth : Method) (c : Code) (T : State) (locs : List Loc),
    p.tables.exec = Jvm.exec → Z.Warmed39 s.vm → s.vm.findClass y.cls = some m.cls → c.code = bytes → c.maxLocals = ml → meth.sig.returnType = ret → meth.locks = false → meth.name = y.name → cells ≤ R.cells → slots ≤ R.slots →
    Stand p l e R s m args below meth c T locs cells slots → T.heap = h → Fr n0 locs →
    ∃ s₂ o, Steps p.tables e below (T.setTop (mkF m pc Ls st)) s₂ ∧ s₂.status = .running ∧ Ended s₂ below o ∧ ∃ v L, o = .returned v ∧ (Q v s₂.heap ∧ Fr n0 L) ∧ FrameEnd s o s₂ L R.cells R.slots
theorem own_pure (hs : ∀ (p : Program) (e : Env) (below : List Frame) (T target : State) (m : MethodId) (c : Code), At T m c below → p.tables.exec = Jvm.exec → c.code = bytes → Steps p.tables e below (T.setTop (mkF m pc' Ls' st')) target → Steps p.tables e below (T.setTop (mkF m pc Ls st)) target)
    (k : own_W l Z y bytes ml ret R n0 Q h cells slots pc' Ls' st') : own_W l Z y bytes ml ret R n0 Q h cells slots pc Ls st := by
  intro p e s m args below meth c T locs hx hZ hown hby hml hret hlk hnm hce hsl X eT N
  obtain ⟨s₂, o, h1, h2⟩ := k p e s m args below meth c T locs hx hZ hown hby hml hret hlk hnm hce hsl X eT N
  exact ⟨s₂, o, hs p e below T s₂ m c X.here hx hby h1, h2⟩
theorem own_more {cells' slots' : Nat} (hc : cells ≤ cells') (hs : slots ≤ slots') (hc' : cells' ≤ R.cells) (hs' : slots' ≤ R.slots) (k : own_W l Z y bytes ml ret R n0 Q h cells' slots' pc Ls st) : own_W l Z y bytes ml ret R n0 Q h cells slots pc Ls st := by
  intro p e s m args below meth c T locs hx hZ hown hby hml hret hlk hnm hce hsl X eT N
  exact k p e s m args below meth c T locs hx hZ hown hby hml hret hlk hnm hc' hs' (X.more hc hs) eT N
theorem own_weak {Q' : Option Value → Heap → Prop} (hq : ∀ v h, Q' v h → Q v h) (k : own_W l Z y bytes ml ret R n0 Q' h cells slots pc Ls st) : own_W l Z y bytes ml ret R n0 Q h cells slots pc Ls st := by
  intro p e s m args below meth c T locs hx hZ hown hby hml hret hlk hnm hce hsl X eT N
  obtain ⟨s₂, o, h1, h2, h3, v, L, h4, ⟨h5, h6⟩, h7⟩ := k p e s m args below meth c T locs hx hZ hown hby hml hret hlk hnm hce hsl X eT N
  exact ⟨s₂, o, h1, h2, h3, v, L, h4, ⟨hq _ _ h5, h6⟩, h7⟩
theorem own_iloadN {i : Fin 4} {u : Int32} (hd : decode bytes pc = .ok (.iload_n i, 1)) (hp : pc + 1 = pc') (hl : Ls[i.val]? = some (.val (.int u))) (k : own_W l Z y bytes ml ret R n0 Q h cells slots pc' Ls (.int u :: st)) : own_W l Z y bytes ml ret R n0 Q h cells slots pc Ls (st) :=
  own_pure (fun p e below T t m c hA hx hb hr => by subst hp; exact XS.iloadN hA hx rfl (hb ▸ hd) hl hr) k
theorem own_iload {i : Nat} {u : Int32} (hd : decode bytes pc = .ok (.iload i, 2)) (hp : pc + 2 = pc') (hl : Ls[i]? = some (.val (.int u))) (k : own_W l Z y bytes ml ret R n0 Q h cells slots pc' Ls (.int u :: st)) : own_W l Z y bytes ml ret R n0 Q h cells slots pc Ls (st) :=
  own_pure (fun p e below T t m c hA hx hb hr => by subst hp; exact XS.iload hA hx rfl (hb ▸ hd) hl hr) k
theorem own_lloadN {i : Fin 4} {u : Int64} (hd : decode bytes pc = .ok (.lload_n i, 1)) (hp : pc + 1 = pc') (hl : Ls[i.val]? = some (.val (.long u))) (k : own_W l Z y bytes ml ret R n0 Q h cells slots pc' Ls (.long u :: st)) : own_W l Z y bytes ml ret R n0 Q h cells slots pc Ls (st) :=
  own_pure (fun p e below T t m c hA hx hb hr => by subst hp; exact XT.lloadN hA hx rfl (hb ▸ hd) hl hr) k
theorem own_lload {i : Nat} {u : Int64} (hd : decode bytes pc = .ok (.lload i, 2)) (hp : pc + 2 = pc') (hl : Ls[i]? = some (.val (.long u))) (k : own_W l Z y bytes ml ret R n0 Q h cells slots pc' Ls (.long u :: st)) : own_W l Z y bytes ml ret R n0 Q h cells slots pc Ls (st) :=
  own_pure (fun p e below T t m c hA hx hb hr => by subst hp; exact XT.lload hA hx rfl (hb ▸ hd) hl hr) k
theorem own_aloadN {i : Fin 4} {u : Addr} (hd : decode bytes pc = .ok (.aload_n i, 1)) (hp : pc + 1 = pc') (hl : Ls[i.val]? = some (.val (.ref u))) (k : own_W l Z y bytes ml ret R n0 Q h cells slots pc' Ls (.ref u :: st)) : own_W l Z y bytes ml ret R n0 Q h cells slots pc Ls (st) :=
  own_pure (fun p e below T t m c hA hx hb hr => by subst hp; exact XS.aloadN hA hx rfl (hb ▸ hd) hl rfl hr) k
theorem own_aload {i : Nat} {u : Addr} (hd : decode bytes pc = .ok (.aload i, 2)) (hp : pc + 2 = pc') (hl : Ls[i]? = some (.val (.ref u))) (k : own_W l Z y bytes ml ret R n0 Q h cells slots pc' Ls (.ref u :: st)) : own_W l Z y bytes ml ret R n0 Q h cells slots pc Ls (st) :=
  own_pure (fun p e below T t m c hA hx hb hr => by subst hp; exact XS.aload hA hx rfl (hb ▸ hd) hl rfl hr) k
theorem own_istoreN {i : Fin 4} {u : Int32} (hd : decode bytes pc = .ok (.istore_n i, 1)) (hp : pc + 1 = pc') (hl : storeLocals Ls i.val (.int u) = some Ls') (k : own_W l Z y bytes ml ret R n0 Q h cells slots pc' Ls' (st)) : own_W l Z y bytes ml ret R n0 Q h cells slots pc Ls (.int u :: st) :=
  own_pure (fun p e below T t m c hA hx hb hr => by subst hp; exact XS.istoreN hA hx rfl (hb ▸ hd) rfl hl hr) k
theorem own_istore {i : Nat} {u : Int32} (hd : decode bytes pc = .ok (.istore i, 2)) (hp : pc + 2 = pc') (hl : storeLocals Ls i (.int u) = some Ls') (k : own_W l Z y bytes ml ret R n0 Q h cells slots pc' Ls' (st)) : own_W l Z y bytes ml ret R n0 Q h cells slots pc Ls (.int u :: st) :=
  own_pure (fun p e below T t m c hA hx hb hr => by subst hp; exact XS.istore hA hx rfl (hb ▸ hd) rfl hl hr) k
theorem own_lstoreN {i : Fin 4} {u : Int64} (hd : decode bytes pc = .ok (.lstore_n i, 1)) (hp : pc + 1 = pc') (hl : storeLocals Ls i.val (.long u) = some Ls') (k : own_W l Z y bytes ml ret R n0 Q h cells slots pc' Ls' (st)) : own_W l Z y bytes ml ret R n0 Q h cells slots pc Ls (.long u :: st) :=
  own_pure (fun p e below T t m c hA hx hb hr => by subst hp; exact XT.lstoreN hA hx rfl (hb ▸ hd) rfl hl hr) k
theorem own_lstore {i : Nat} {u : Int64} (hd : decode bytes pc = .ok (.lstore i, 2)) (hp : pc + 2 = pc') (hl : storeLocals Ls i (.long u) = some Ls') (k : own_W l Z y bytes ml ret R n0 Q h cells slots pc' Ls' (st)) : own_W l Z y bytes ml ret R n0 Q h cells slots pc Ls (.long u :: st) :=
  own_pure (fun p e below T t m c hA hx hb hr => by subst hp; exact XT.lstore hA hx rfl (hb ▸ hd) rfl hl hr) k
theorem own_astoreN {i : Fin 4} {u : Addr} (hd : decode bytes pc = .ok (.astore_n i, 1)) (hp : pc + 1 = pc') (hl : storeLocals Ls i.val (.ref u) = some Ls') (k : own_W l Z y bytes ml ret R n0 Q h cells slots pc' Ls' (st)) : own_W l Z y bytes ml ret R n0 Q h cells slots pc Ls (.ref u :: st) :=
  own_pure (fun p e below T t m c hA hx hb hr => by subst hp; exact XS.astoreN hA hx rfl (hb ▸ hd) rfl rfl hl hr) k
theorem own_astore {i : Nat} {u : Addr} (hd : decode bytes pc = .ok (.astore i, 2)) (hp : pc + 2 = pc') (hl : storeLocals Ls i (.ref u) = some Ls') (k : own_W l Z y bytes ml ret R n0 Q h cells slots pc' Ls' (st)) : own_W l Z y bytes ml ret R n0 Q h cells slots pc Ls (.ref u :: st) :=
  own_pure (fun p e below T t m c hA hx hb hr => by subst hp; exact XS.astore hA hx rfl (hb ▸ hd) rfl rfl hl hr) k
theorem own_iinc {i : Nat} {cst : Int} {u w : Int32} (hd : decode bytes pc = .ok (.iinc i cst, 3)) (hp : pc + 3 = pc') (hv : Int32.ofInt cst = w) (hl : Ls[i]? = some (.val (.int u))) (hl' : storeLocals Ls i (.int (u + w)) = some Ls') (k : own_W l Z y bytes ml ret R n0 Q h cells slots pc' Ls' st) : own_W l Z y bytes ml ret R n0 Q h cells slots pc Ls st :=
  own_pure (fun p e below T t m c hA hx hb hr => by subst hp; exact XT.iincV hA hx rfl w (hb ▸ hd) hv hl hl' hr) k
theorem own_iconst {i : Int} (u : Int32) (hd : decode bytes pc = .ok (.iconst i, 1)) (hp : pc + 1 = pc') (hv : Int32.ofInt i = u) (k : own_W l Z y bytes ml ret R n0 Q h cells slots pc' Ls (.int u :: st)) : own_W l Z y bytes ml ret R n0 Q h cells slots pc Ls st :=
  own_pure (fun p e below T t m c hA hx hb hr => by subst hp; exact XT.iconstV hA hx rfl u (hb ▸ hd) hv hr) k
theorem own_bipush {i : Int} (u : Int32) (hd : decode bytes pc = .ok (.bipush i, 2)) (hp : pc + 2 = pc') (hv : (Int8.ofInt i).toInt32 = u) (k : own_W l Z y bytes ml ret R n0 Q h cells slots pc' Ls (.int u :: st)) : own_W l Z y bytes ml ret R n0 Q h cells slots pc Ls st :=
  own_pure (fun p e below T t m c hA hx hb hr => by subst hp; exact XT.bipushV hA hx rfl u (hb ▸ hd) hv hr) k
theorem own_sipush {i : Int} (u : Int32) (hd : decode bytes pc = .ok (.sipush i, 3)) (hp : pc + 3 = pc') (hv : (Int16.ofInt i).toInt32 = u) (k : own_W l Z y bytes ml ret R n0 Q h cells slots pc' Ls (.int u :: st)) : own_W l Z y bytes ml ret R n0 Q h cells slots pc Ls st :=
  own_pure (fun p e below T t m c hA hx hb hr => by subst hp; exact XT.sipushV hA hx rfl u (hb ▸ hd) hv hr) k
theorem own_lconst {i : Fin 2} (u : Int64) (hd : decode bytes pc = .ok (.lconst i, 1)) (hp : pc + 1 = pc') (hv : Int64.ofNat i = u) (k : own_W l Z y bytes ml ret R n0 Q h cells slots pc' Ls (.long u :: st)) : own_W l Z y bytes ml ret R n0 Q h cells slots pc Ls st :=
  own_pure (fun p e below T t m c hA hx hb hr => by subst hp; exact XT.lconstV hA hx rfl u (hb ▸ hd) hv hr) k
theorem own_aconstNull (hd : decode bytes pc = .ok (.aconst_null, 1)) (hp : pc + 1 = pc') (k : own_W l Z y bytes ml ret R n0 Q h cells slots pc' Ls (.null :: st)) : own_W l Z y bytes ml ret R n0 Q h cells slots pc Ls (st) :=
  own_pure (fun p e below T t m c hA hx hb hr => by subst hp; exact XS.aconstNull hA hx rfl (hb ▸ hd)  hr) k
theorem own_iadd {u w : Int32} (hd : decode bytes pc = .ok (.iadd, 1)) (hp : pc + 1 = pc') (k : own_W l Z y bytes ml ret R n0 Q h cells slots pc' Ls (.int (u + w) :: st)) : own_W l Z y bytes ml ret R n0 Q h cells slots pc Ls (.int w :: .int u :: st) :=
  own_pure (fun p e below T t m c hA hx hb hr => by subst hp; exact XS.iadd hA hx rfl (hb ▸ hd) rfl hr) k
theorem own_isub {u w : Int32} (hd : decode bytes pc = .ok (.isub, 1)) (hp : pc + 1 = pc') (k : own_W l Z y bytes ml ret R n0 Q h cells slots pc' Ls (.int (u - w) :: st)) : own_W l Z y bytes ml ret R n0 Q h cells slots pc Ls (.int w :: .int u :: st) :=
  own_pure (fun p e below T t m c hA hx hb hr => by subst hp; exact XS.isub hA hx rfl (hb ▸ hd) rfl hr) k
theorem own_imul {u w : Int32} (hd : decode bytes pc = .ok (.imul, 1)) (hp : pc + 1 = pc') (k : own_W l Z y bytes ml ret R n0 Q h cells slots pc' Ls (.int (u * w) :: st)) : own_W l Z y bytes ml ret R n0 Q h cells slots pc Ls (.int w :: .int u :: st) :=
  own_pure (fun p e below T t m c hA hx hb hr => by subst hp; exact XS.imul hA hx rfl (hb ▸ hd) rfl hr) k
theorem own_iand {u w : Int32} (hd : decode bytes pc = .ok (.iand, 1)) (hp : pc + 1 = pc') (k : own_W l Z y bytes ml ret R n0 Q h cells slots pc' Ls (.int (u &&& w) :: st)) : own_W l Z y bytes ml ret R n0 Q h cells slots pc Ls (.int w :: .int u :: st) :=
  own_pure (fun p e below T t m c hA hx hb hr => by subst hp; exact XS.iand hA hx rfl (hb ▸ hd) rfl hr) k
theorem own_ior {u w : Int32} (hd : decode bytes pc = .ok (.ior, 1)) (hp : pc + 1 = pc') (k : own_W l Z y bytes ml ret R n0 Q h cells slots pc' Ls (.int (u ||| w) :: st)) : own_W l Z y bytes ml ret R n0 Q h cells slots pc Ls (.int w :: .int u :: st) :=
  own_pure (fun p e below T t m c hA hx hb hr => by subst hp; exact XT.ior hA hx rfl (hb ▸ hd) rfl hr) k
theorem own_ixor {u w : Int32} (hd : decode bytes pc = .ok (.ixor, 1)) (hp : pc + 1 = pc') (k : own_W l Z y bytes ml ret R n0 Q h cells slots pc' Ls (.int (u ^^^ w) :: st)) : own_W l Z y bytes ml ret R n0 Q h cells slots pc Ls (.int w :: .int u :: st) :=
  own_pure (fun p e below T t m c hA hx hb hr => by subst hp; exact XT.ixor hA hx rfl (hb ▸ hd) rfl hr) k
theorem own_ishl {u w : Int32} (hd : decode bytes pc = .ok (.ishl, 1)) (hp : pc + 1 = pc') (k : own_W l Z y bytes ml ret R n0 Q h cells slots pc' Ls (.int (u <<< (w &&& 31)) :: st)) : own_W l Z y bytes ml ret R n0 Q h cells slots pc Ls (.int w :: .int u :: st) :=
  own_pure (fun p e below T t m c hA hx hb hr => by subst hp; exact XT.ishl hA hx rfl (hb ▸ hd) rfl hr) k
theorem own_ishr {u w : Int32} (hd : decode bytes pc = .ok (.ishr, 1)) (hp : pc + 1 = pc') (k : own_W l Z y bytes ml ret R n0 Q h cells slots pc' Ls (.int (u >>> (w &&& 31)) :: st)) : own_W l Z y bytes ml ret R n0 Q h cells slots pc Ls (.int w :: .int u :: st) :=
  own_pure (fun p e below T t m c hA hx hb hr => by subst hp; exact XT.ishr hA hx rfl (hb ▸ hd) rfl hr) k
theorem own_iushr {u w : Int32} (hd : decode bytes pc = .ok (.iushr, 1)) (hp : pc + 1 = pc') (k : own_W l Z y bytes ml ret R n0 Q h cells slots pc' Ls (.int (XT.ushr u w) :: st)) : own_W l Z y bytes ml ret R n0 Q h cells slots pc Ls (.int w :: .int u :: st) :=
  own_pure (fun p e below T t m c hA hx hb hr => by subst hp; exact XT.iushr hA hx rfl (hb ▸ hd) rfl hr) k
theorem own_idiv {u w : Int32} (hd : decode bytes pc = .ok (.idiv, 1)) (hp : pc + 1 = pc') (hw : w ≠ 0) (k : own_W l Z y bytes ml ret R n0 Q h cells slots pc' Ls (.int (u / w) :: st)) : own_W l Z y bytes ml ret R n0 Q h cells slots pc Ls (.int w :: .int u :: st) :=
  own_pure (fun p e below T t m c hA hx hb hr => by subst hp; exact XS.idiv hA hx rfl (hb ▸ hd) rfl hw hr) k
theorem own_irem {u w : Int32} (hd : decode bytes pc = .ok (.irem, 1)) (hp : pc + 1 = pc') (hw : w ≠ 0) (k : own_W l Z y bytes ml ret R n0 Q h cells slots pc' Ls (.int (u % w) :: st)) : own_W l Z y bytes ml ret R n0 Q h cells slots pc Ls (.int w :: .int u :: st) :=
  own_pure (fun p e below T t m c hA hx hb hr => by subst hp; exact XS.irem hA hx rfl (hb ▸ hd) rfl hw (by rw [irem_eq_mod u w]; exact hr)) k
theorem own_ineg {u : Int32} (hd : decode bytes pc = .ok (.ineg, 1)) (hp : pc + 1 = pc') (k : own_W l Z y bytes ml ret R n0 Q h cells slots pc' Ls (.int (-u) :: st)) : own_W l Z y bytes ml ret R n0 Q h cells slots pc Ls (.int u :: st) :=
  own_pure (fun p e below T t m c hA hx hb hr => by subst hp; exact XS.ineg hA hx rfl (hb ▸ hd) rfl hr) k
theorem own_ladd {u w : Int64} (hd : decode bytes pc = .ok (.ladd, 1)) (hp : pc + 1 = pc') (k : own_W l Z y bytes ml ret R n0 Q h cells slots pc' Ls (.long (u + w) :: st)) : own_W l Z y bytes ml ret R n0 Q h cells slots pc Ls (.long w :: .long u :: st) :=
  own_pure (fun p e below T t m c hA hx hb hr => by subst hp; exact XT.ladd hA hx rfl (hb ▸ hd) rfl hr) k
theorem own_lsub {u w : Int64} (hd : decode bytes pc = .ok (.lsub, 1)) (hp : pc + 1 = pc') (k : own_W l Z y bytes ml ret R n0 Q h cells slots pc' Ls (.long (u - w) :: st)) : own_W l Z y bytes ml ret R n0 Q h cells slots pc Ls (.long w :: .long u :: st) :=
  own_pure (fun p e below T t m c hA hx hb hr => by subst hp; exact XT.lsub hA hx rfl (hb ▸ hd) rfl hr) k
theorem own_lmul {u w : Int64} (hd : decode bytes pc = .ok (.lmul, 1)) (hp : pc + 1 = pc') (k : own_W l Z y bytes ml ret R n0 Q h cells slots pc' Ls (.long (u * w) :: st)) : own_W l Z y bytes ml ret R n0 Q h cells slots pc Ls (.long w :: .long u :: st) :=
  own_pure (fun p e below T t m c hA hx hb hr => by subst hp; exact XT.lmul hA hx rfl (hb ▸ hd) rfl hr) k
theorem own_land {u w : Int64} (hd : decode bytes pc = .ok (.land, 1)) (hp : pc + 1 = pc') (k : own_W l Z y bytes ml ret R n0 Q h cells slots pc' Ls (.long (u &&& w) :: st)) : own_W l Z y bytes ml ret R n0 Q h cells slots pc Ls (.long w :: .long u :: st) :=
  own_pure (fun p e below T t m c hA hx hb hr => by subst hp; exact XT.land hA hx rfl (hb ▸ hd) rfl hr) k
theorem own_lor {u w : Int64} (hd : decode bytes pc = .ok (.lor, 1)) (hp : pc + 1 = pc') (k : own_W l Z y bytes ml ret R n0 Q h cells slots pc' Ls (.long (u ||| w) :: st)) : own_W l Z y bytes ml ret R n0 Q h cells slots pc Ls (.long w :: .long u :: st) :=
  own_pure (fun p e below T t m c hA hx hb hr => by subst hp; exact XT.lor hA hx rfl (hb ▸ hd) rfl hr) k
theorem own_lxor {u w : Int64} (hd : decode bytes pc = .ok (.lxor, 1)) (hp : pc + 1 = pc') (k : own_W l Z y bytes ml ret R n0 Q h cells slots pc' Ls (.long (u ^^^ w) :: st)) : own_W l Z y bytes ml ret R n0 Q h cells slots pc Ls (.long w :: .long u :: st) :=
  own_pure (fun p e below T t m c hA hx hb hr => by subst hp; exact XT.lxor hA hx rfl (hb ▸ hd) rfl hr) k
theorem own_lrem {u w : Int64} (hd : decode bytes pc = .ok (.lrem, 1)) (hp : pc + 1 = pc') (hw : w ≠ 0) (k : own_W l Z y bytes ml ret R n0 Q h cells slots pc' Ls (.long (u % w) :: st)) : own_W l Z y bytes ml ret R n0 Q h cells slots pc Ls (.long w :: .long u :: st) :=
  own_pure (fun p e below T t m c hA hx hb hr => by subst hp; exact XT.lrem hA hx rfl (hb ▸ hd) rfl hw (by rw [lrem_mod u w]; exact hr)) k
theorem own_lshl {u : Int64} {w : Int32} (hd : decode bytes pc = .ok (.lshl, 1)) (hp : pc + 1 = pc') (k : own_W l Z y bytes ml ret R n0 Q h cells slots pc' Ls (.long (u <<< (w.toInt64 &&& 63)) :: st)) : own_W l Z y bytes ml ret R n0 Q h cells slots pc Ls (.int w :: .long u :: st) :=
  own_pure (fun p e below T t m c hA hx hb hr => by subst hp; exact XT.lshl hA hx rfl (hb ▸ hd) rfl hr) k
theorem own_lshr {u : Int64} {w : Int32} (hd : decode bytes pc = .ok (.lshr, 1)) (hp : pc + 1 = pc') (k : own_W l Z y bytes ml ret R n0 Q h cells slots pc' Ls (.long (u >>> (w.toInt64 &&& 63)) :: st)) : own_W l Z y bytes ml ret R n0 Q h cells slots pc Ls (.int w :: .long u :: st) :=
  own_pure (fun p e below T t m c hA hx hb hr => by subst hp; exact XT.lshr hA hx rfl (hb ▸ hd) rfl hr) k
theorem own_lushr {u : Int64} {w : Int32} (hd : decode bytes pc = .ok (.lushr, 1)) (hp : pc + 1 = pc') (k : own_W l Z y bytes ml ret R n0 Q h cells slots pc' Ls (.long (XT.ushrL u w) :: st)) : own_W l Z y bytes ml ret R n0 Q h cells slots pc Ls (.int w :: .long u :: st) :=
  own_pure (fun p e below T t m c hA hx hb hr => by subst hp; exact XT.lushr hA hx rfl (hb ▸ hd) rfl hr) k
theorem own_i2l {u : Int32} (hd : decode bytes pc = .ok (.i2l, 1)) (hp : pc + 1 = pc') (k : own_W l Z y bytes ml ret R n0 Q h cells slots pc' Ls (.long u.toInt64 :: st)) : own_W l Z y bytes ml ret R n0 Q h cells slots pc Ls (.int u :: st) :=
  own_pure (fun p e below T t m c hA hx hb hr => by subst hp; exact XT.i2l hA hx rfl (hb ▸ hd) rfl hr) k
theorem own_l2i {u : Int64} (hd : decode bytes pc = .ok (.l2i, 1)) (hp : pc + 1 = pc') (k : own_W l Z y bytes ml ret R n0 Q h cells slots pc' Ls (.int u.toInt32 :: st)) : own_W l Z y bytes ml ret R n0 Q h cells slots pc Ls (.long u :: st) :=
  own_pure (fun p e below T t m c hA hx hb hr => by subst hp; exact XT.l2i hA hx rfl (hb ▸ hd) rfl hr) k
theorem own_i2b {u : Int32} (hd : decode bytes pc = .ok (.i2b, 1)) (hp : pc + 1 = pc') (k : own_W l Z y bytes ml ret R n0 Q h cells slots pc' Ls (.int u.toInt8.toInt32 :: st)) : own_W l Z y bytes ml ret R n0 Q h cells slots pc Ls (.int u :: st) :=
  own_pure (fun p e below T t m c hA hx hb hr => by subst hp; exact XT.i2b hA hx rfl (hb ▸ hd) rfl hr) k
theorem own_i2c {u : Int32} (hd : decode bytes pc = .ok (.i2c, 1)) (hp : pc + 1 = pc') (k : own_W l Z y bytes ml ret R n0 Q h cells slots pc' Ls (.int u.toUInt32.toUInt16.toUInt32.toInt32 :: st)) : own_W l Z y bytes ml ret R n0 Q h cells slots pc Ls (.int u :: st) :=
  own_pure (fun p e below T t m c hA hx hb hr => by subst hp; exact XT.i2c hA hx rfl (hb ▸ hd) rfl hr) k
theorem own_lcmp {u w : Int64} (hd : decode bytes pc = .ok (.lcmp, 1)) (hp : pc + 1 = pc') (k : own_W l Z y bytes ml ret R n0 Q h cells slots pc' Ls (.int (XT.cmpL u w) :: st)) : own_W l Z y bytes ml ret R n0 Q h cells slots pc Ls (.long w :: .long u :: st) :=
  own_pure (fun p e below T t m c hA hx hb hr => by subst hp; exact XT.lcmp hA hx rfl (hb ▸ hd) rfl hr) k
theorem own_dup {u : Value} (hd : decode bytes pc = .ok (.dup, 1)) (hp : pc + 1 = pc') (hc : u.category = 1) (k : own_W l Z y bytes ml ret R n0 Q h cells slots pc' Ls (u :: u :: st)) : own_W l Z y bytes ml ret R n0 Q h cells slots pc Ls (u :: st) :=
  own_pure (fun p e below T t m c hA hx hb hr => by subst hp; exact XS.dup hA hx rfl (hb ▸ hd) rfl hc hr) k
theorem own_pop {u : Value} (hd : decode bytes pc = .ok (.pop, 1)) (hp : pc + 1 = pc') (hc : u.category = 1) (k : own_W l Z y bytes ml ret R n0 Q h cells slots pc' Ls (st)) : own_W l Z y bytes ml ret R n0 Q h cells slots pc Ls (u :: st) :=
  own_pure (fun p e below T t m c hA hx hb hr => by subst hp; exact XT.pop hA hx rfl (hb ▸ hd) rfl hc hr) k
theorem own_dupX1 {u w : Value} (hd : decode bytes pc = .ok (.dup_x1, 1)) (hp : pc + 1 = pc') (hc : u.category = 1) (hc' : w.category = 1) (k : own_W l Z y bytes ml ret R n0 Q h cells slots pc' Ls (u :: w :: u :: st)) : own_W l Z y bytes ml ret R n0 Q h cells slots pc Ls (u :: w :: st) :=
  own_pure (fun p e below T t m c hA hx hb hr => by subst hp; exact XT.dupX1 hA hx rfl (hb ▸ hd) rfl hc hc' hr) k
theorem own_dup2 {u w : Value} (hd : decode bytes pc = .ok (.dup2, 1)) (hp : pc + 1 = pc') (hc : u.category = 1) (hc' : w.category = 1) (k : own_W l Z y bytes ml ret R n0 Q h cells slots pc' Ls (u :: w :: u :: w :: st)) : own_W l Z y bytes ml ret R n0 Q h cells slots pc Ls (u :: w :: st) :=
  own_pure (fun p e below T t m c hA hx hb hr => by subst hp; exact XT.dup2 hA hx rfl (hb ▸ hd) rfl hc hc' hr) k
theorem own_dup2L {u : Int64} (hd : decode bytes pc = .ok (.dup2, 1)) (hp : pc + 1 = pc') (k : own_W l Z y bytes ml ret R n0 Q h cells slots pc' Ls (.long u :: .long u :: st)) : own_W l Z y bytes ml ret R n0 Q h cells slots pc Ls (.long u :: st) :=
  own_pure (fun p e below T t m c hA hx hb hr => by subst hp; exact XT.dup2L hA hx rfl (hb ▸ hd) rfl hr) k
theorem own_pop2step {tb : Tables} [Ours tb] {e : Env} {below : List Frame} {T target : State} {m : MethodId} {c : Code} {g : JFrame} (h : At T m c below) (hx : tb.exec = Jvm.exec) (hg : g.method = m) {u : Int64} {rest : List Value} (hd : decode c.code g.pc = .ok (.pop2, 1)) (hs : g.stack = .long u :: rest)
    (hr : Steps tb e below (T.setTop { g with pc := g.pc + 1, stack := rest }) target) : Steps tb e below (T.setTop g) target := by
  subst hg
  jvm_step h [h.top, hx, hd, hs, pop2.wp_sem, Value.category]
  exact hr
theorem own_pop2L {u : Int64} (hd : decode bytes pc = .ok (.pop2, 1)) (hp : pc + 1 = pc') (k : own_W l Z y bytes ml ret R n0 Q h cells slots pc' Ls (st)) : own_W l Z y bytes ml ret R n0 Q h cells slots pc Ls (.long u :: st) :=
  own_pure (fun p e below T t m c hA hx hb hr => by subst hp; exact own_pop2step hA hx rfl (hb ▸ hd) rfl hr) k
theorem own_dupX2step {tb : Tables} [Ours tb] {e : Env} {below : List Frame} {T target : State} {m : MethodId} {c : Code} {g : JFrame} (h : At T m c below) (hx : tb.exec = Jvm.exec) (hg : g.method = m) {x y z : Value} {rest : List Value} (hd : decode c.code g.pc = .ok (.dup_x2, 1)) (hs : g.stack = x :: y :: z :: rest) (hc : x.category = 1) (hc' : y.category = 1) (hc'' : z.category = 1)
    (hr : Steps tb e below (T.setTop { g with pc := g.pc + 1, stack := x :: y :: z :: x :: rest }) target) : Steps tb e below (T.setTop g) target := by
  subst hg
  jvm_step h [h.top, hx, hd, hs, dup_x2.wp_sem, hc, hc', hc'']
  exact hr
theorem own_dupX2 {u w x : Value} (hd : decode bytes pc = .ok (.dup_x2, 1)) (hp : pc + 1 = pc') (hc : u.category = 1) (hc' : w.category = 1) (hc'' : x.category = 1) (k : own_W l Z y bytes ml ret R n0 Q h cells slots pc' Ls (u :: w :: x :: u :: st)) : own_W l Z y bytes ml ret R n0 Q h cells slots pc Ls (u :: w :: x :: st) :=
  own_pure (fun p e below T t m c hA hx hb hr => by subst hp; exact own_dupX2step hA hx rfl (hb ▸ hd) rfl hc hc' hc'' hr) k
theorem own_goto {o : Int} (hd : decode bytes pc = .ok (.goto o, 3)) (ho : 0 ≤ (pc : Int) + o) (hp : ((pc : Int) + o).toNat = pc') (k : own_W l Z y bytes ml ret R n0 Q h cells slots pc' Ls st) : own_W l Z y bytes ml ret R n0 Q h cells slots pc Ls st :=
  own_pure (fun p e below T t m c hA hx hb hr => XS.goto hA hx rfl rfl (hb ▸ hd) ho hp hr) k
theorem own_if_eq_t {u : Int32} {o : Int} (hd : decode bytes pc = .ok (.ifCond .eq o, 3)) (hc : u = 0) (ho : 0 ≤ (pc : Int) + o) (hp : ((pc : Int) + o).toNat = pc') (k : own_W l Z y bytes ml ret R n0 Q h cells slots pc' Ls st) : own_W l Z y bytes ml ret R n0 Q h cells slots pc Ls (.int u :: st) :=
  own_pure (fun p e below T t m c hA hx hb hr => XS.ifYes hA hx rfl rfl (hb ▸ hd) rfl (XT.i0_eq_t hc) ho hp hr) k
theorem own_if_eq_f {u : Int32} {o : Int} (hd : decode bytes pc = .ok (.ifCond .eq o, 3)) (hc : ¬ u = 0) (hp : pc + 3 = pc') (k : own_W l Z y bytes ml ret R n0 Q h cells slots pc' Ls st) : own_W l Z y bytes ml ret R n0 Q h cells slots pc Ls (.int u :: st) :=
  own_pure (fun p e below T t m c hA hx hb hr => by subst hp; exact XS.ifNo hA hx rfl (hb ▸ hd) rfl (XT.i0_eq_f hc) hr) k
theorem own_if_eq {u : Int32} {o : Int} {pf : Nat} (hd : decode bytes pc = .ok (.ifCond .eq o, 3)) (ho : 0 ≤ (pc : Int) + o) (hp : ((pc : Int) + o).toNat = pc') (hq : pc + 3 = pf) (kt : u = 0 → own_W l Z y bytes ml ret R n0 Q h cells slots pc' Ls st) (kf : ¬ u = 0 → own_W l Z y bytes ml ret R n0 Q h cells slots pf Ls st) : own_W l Z y bytes ml ret R n0 Q h cells slots pc Ls (.int u :: st) := by
  by_cases hc : u = 0
  · exact own_if_eq_t hd hc ho hp (kt hc)
  · exact own_if_eq_f hd (by first | exact hc | exact Decidable.not_not.mp hc) hq (kf (by first | exact hc | exact Decidable.not_not.mp hc))
theorem own_ic_eq_t {u w : Int32} {o : Int} (hd : decode bytes pc = .ok (.if_icmp .eq o, 3)) (hc : u = w) (ho : 0 ≤ (pc : Int) + o) (hp : ((pc : Int) + o).toNat = pc') (k : own_W l Z y bytes ml ret R n0 Q h cells slots pc' Ls st) : own_W l Z y bytes ml ret R n0 Q h cells slots pc Ls (.int w :: .int u :: st) :=
  own_pure (fun p e below T t m c hA hx hb hr => XS.icmpYes hA hx rfl rfl (hb ▸ hd) rfl (XT.ii_eq_t hc) ho hp hr) k
theorem own_ic_eq_f {u w : Int32} {o : Int} (hd : decode bytes pc = .ok (.if_icmp .eq o, 3)) (hc : ¬ u = w) (hp : pc + 3 = pc') (k : own_W l Z y bytes ml ret R n0 Q h cells slots pc' Ls st) : own_W l Z y bytes ml ret R n0 Q h cells slots pc Ls (.int w :: .int u :: st) :=
  own_pure (fun p e below T t m c hA hx hb hr => by subst hp; exact XS.icmpNo hA hx rfl (hb ▸ hd) rfl (XT.ii_eq_f hc) hr) k
theorem own_ic_eq {u w : Int32} {o : Int} {pf : Nat} (hd : decode bytes pc = .ok (.if_icmp .eq o, 3)) (ho : 0 ≤ (pc : Int) + o) (hp : ((pc : Int) + o).toNat = pc') (hq : pc + 3 = pf) (kt : u = w → own_W l Z y bytes ml ret R n0 Q h cells slots pc' Ls st) (kf : ¬ u = w → own_W l Z y bytes ml ret R n0 Q h cells slots pf Ls st) : own_W l Z y bytes ml ret R n0 Q h cells slots pc Ls (.int w :: .int u :: st) := by
  by_cases hc : u = w
  · exact own_ic_eq_t hd hc ho hp (kt hc)
  · exact own_ic_eq_f hd (by first | exact hc | exact Decidable.not_not.mp hc) hq (kf (by first | exact hc | exact Decidable.not_not.mp hc))
theorem own_il_eq_t {u w : Int64} {o : Int} (hd : decode bytes pc = .ok (.ifCond .eq o, 3)) (hc : u = w) (ho : 0 ≤ (pc : Int) + o) (hp : ((pc : Int) + o).toNat = pc') (k : own_W l Z y bytes ml ret R n0 Q h cells slots pc' Ls st) : own_W l Z y bytes ml ret R n0 Q h cells slots pc Ls (.int (XT.cmpL u w) :: st) :=
  own_pure (fun p e below T t m c hA hx hb hr => XS.ifYes hA hx rfl rfl (hb ▸ hd) rfl (XT.ll_eq_t hc) ho hp hr) k
theorem own_il_eq_f {u w : Int64} {o : Int} (hd : decode bytes pc = .ok (.ifCond .eq o, 3)) (hc : ¬ u = w) (hp : pc + 3 = pc') (k : own_W l Z y bytes ml ret R n0 Q h cells slots pc' Ls st) : own_W l Z y bytes ml ret R n0 Q h cells slots pc Ls (.int (XT.cmpL u w) :: st) :=
  own_pure (fun p e below T t m c hA hx hb hr => by subst hp; exact XS.ifNo hA hx rfl (hb ▸ hd) rfl (XT.ll_eq_f hc) hr) k
theorem own_il_eq {u w : Int64} {o : Int} {pf : Nat} (hd : decode bytes pc = .ok (.ifCond .eq o, 3)) (ho : 0 ≤ (pc : Int) + o) (hp : ((pc : Int) + o).toNat = pc') (hq : pc + 3 = pf) (kt : u = w → own_W l Z y bytes ml ret R n0 Q h cells slots pc' Ls st) (kf : ¬ u = w → own_W l Z y bytes ml ret R n0 Q h cells slots pf Ls st) : own_W l Z y bytes ml ret R n0 Q h cells slots pc Ls (.int (XT.cmpL u w) :: st) := by
  by_cases hc : u = w
  · exact own_il_eq_t hd hc ho hp (kt hc)
  · exact own_il_eq_f hd (by first | exact hc | exact Decidable.not_not.mp hc) hq (kf (by first | exact hc | exact Decidable.not_not.mp hc))
theorem own_if_ne_t {u : Int32} {o : Int} (hd : decode bytes pc = .ok (.ifCond .ne o, 3)) (hc : ¬ u = 0) (ho : 0 ≤ (pc : Int) + o) (hp : ((pc : Int) + o).toNat = pc') (k : own_W l Z y bytes ml ret R n0 Q h cells slots pc' Ls st) : own_W l Z y bytes ml ret R n0 Q h cells slots pc Ls (.int u :: st) :=
  own_pure (fun p e below T t m c hA hx hb hr => XS.ifYes hA hx rfl rfl (hb ▸ hd) rfl (XT.i0_ne_t hc) ho hp hr) k
theorem own_if_ne_f {u : Int32} {o : Int} (hd : decode bytes pc = .ok (.ifCond .ne o, 3)) (hc : u = 0) (hp : pc + 3 = pc') (k : own_W l Z y bytes ml ret R n0 Q h cells slots pc' Ls st) : own_W l Z y bytes ml ret R n0 Q h cells slots pc Ls (.int u :: st) :=
  own_pure (fun p e below T t m c hA hx hb hr => by subst hp; exact XS.ifNo hA hx rfl (hb ▸ hd) rfl (XT.i0_ne_f hc) hr) k
theorem own_if_ne {u : Int32} {o : Int} {pf : Nat} (hd : decode bytes pc = .ok (.ifCond .ne o, 3)) (ho : 0 ≤ (pc : Int) + o) (hp : ((pc : Int) + o).toNat = pc') (hq : pc + 3 = pf) (kt : ¬ u = 0 → own_W l Z y bytes ml ret R n0 Q h cells slots pc' Ls st) (kf : u = 0 → own_W l Z y bytes ml ret R n0 Q h cells slots pf Ls st) : own_W l Z y bytes ml ret R n0 Q h cells slots pc Ls (.int u :: st) := by
  by_cases hc : ¬ u = 0
  · exact own_if_ne_t hd hc ho hp (kt hc)
  · exact own_if_ne_f hd (by first | exact hc | exact Decidable.not_not.mp hc) hq (kf (by first | exact hc | exact Decidable.not_not.mp hc))
theorem own_ic_ne_t {u w : Int32} {o : Int} (hd : decode bytes pc = .ok (.if_icmp .ne o, 3)) (hc : ¬ u = w) (ho : 0 ≤ (pc : Int) + o) (hp : ((pc : Int) + o).toNat = pc') (k : own_W l Z y bytes ml ret R n0 Q h cells slots pc' Ls st) : own_W l Z y bytes ml ret R n0 Q h cells slots pc Ls (.int w :: .int u :: st) :=
  own_pure (fun p e below T t m c hA hx hb hr => XS.icmpYes hA hx rfl rfl (hb ▸ hd) rfl (XT.ii_ne_t hc) ho hp hr) k
theorem own_ic_ne_f {u w : Int32} {o : Int} (hd : decode bytes pc = .ok (.if_icmp .ne o, 3)) (hc : u = w) (hp : pc + 3 = pc') (k : own_W l Z y bytes ml ret R n0 Q h cells slots pc' Ls st) : own_W l Z y bytes ml ret R n0 Q h cells slots pc Ls (.int w :: .int u :: st) :=
  own_pure (fun p e below T t m c hA hx hb hr => by subst hp; exact XS.icmpNo hA hx rfl (hb ▸ hd) rfl (XT.ii_ne_f hc) hr) k
theorem own_ic_ne {u w : Int32} {o : Int} {pf : Nat} (hd : decode bytes pc = .ok (.if_icmp .ne o, 3)) (ho : 0 ≤ (pc : Int) + o) (hp : ((pc : Int) + o).toNat = pc') (hq : pc + 3 = pf) (kt : ¬ u = w → own_W l Z y bytes ml ret R n0 Q h cells slots pc' Ls st) (kf : u = w → own_W l Z y bytes ml ret R n0 Q h cells slots pf Ls st) : own_W l Z y bytes ml ret R n0 Q h cells slots pc Ls (.int w :: .int u :: st) := by
  by_cases hc : ¬ u = w
  · exact own_ic_ne_t hd hc ho hp (kt hc)
  · exact own_ic_ne_f hd (by first | exact hc | exact Decidable.not_not.mp hc) hq (kf (by first | exact hc | exact Decidable.not_not.mp hc))
theorem own_il_ne_t {u w : Int64} {o : Int} (hd : decode bytes pc = .ok (.ifCond .ne o, 3)) (hc : ¬ u = w) (ho : 0 ≤ (pc : Int) + o) (hp : ((pc : Int) + o).toNat = pc') (k : own_W l Z y bytes ml ret R n0 Q h cells slots pc' Ls st) : own_W l Z y bytes ml ret R n0 Q h cells slots pc Ls (.int (XT.cmpL u w) :: st) :=
  own_pure (fun p e below T t m c hA hx hb hr => XS.ifYes hA hx rfl rfl (hb ▸ hd) rfl (XT.ll_ne_t hc) ho hp hr) k
theorem own_il_ne_f {u w : Int64} {o : Int} (hd : decode bytes pc = .ok (.ifCond .ne o, 3)) (hc : u = w) (hp : pc + 3 = pc') (k : own_W l Z y bytes ml ret R n0 Q h cells slots pc' Ls st) : own_W l Z y bytes ml ret R n0 Q h cells slots pc Ls (.int (XT.cmpL u w) :: st) :=
  own_pure (fun p e below T t m c hA hx hb hr => by subst hp; exact XS.ifNo hA hx rfl (hb ▸ hd) rfl (XT.ll_ne_f hc) hr) k
theorem own_il_ne {u w : Int64} {o : Int} {pf : Nat} (hd : decode bytes pc = .ok (.ifCond .ne o, 3)) (ho : 0 ≤ (pc : Int) + o) (hp : ((pc : Int) + o).toNat = pc') (hq : pc + 3 = pf) (kt : ¬ u = w → own_W l Z y bytes ml ret R n0 Q h cells slots pc' Ls st) (kf : u = w → own_W l Z y bytes ml ret R n0 Q h cells slots pf Ls st) : own_W l Z y bytes ml ret R n0 Q h cells slots pc Ls (.int (XT.cmpL u w) :: st) := by
  by_cases hc : ¬ u = w
  · exact own_il_ne_t hd hc ho hp (kt hc)
  · exact own_il_ne_f hd (by first | exact hc | exact Decidable.not_not.mp hc) hq (kf (by first | exact hc | exact Decidable.not_not.mp hc))
theorem own_if_lt_t {u : Int32} {o : Int} (hd : decode bytes pc = .ok (.ifCond .lt o, 3)) (hc : u < 0) (ho : 0 ≤ (pc : Int) + o) (hp : ((pc : Int) + o).toNat = pc') (k : own_W l Z y bytes ml ret R n0 Q h cells slots pc' Ls st) : own_W l Z y bytes ml ret R n0 Q h cells slots pc Ls (.int u :: st) :=
  own_pure (fun p e below T t m c hA hx hb hr => XS.ifYes hA hx rfl rfl (hb ▸ hd) rfl (XT.i0_lt_t hc) ho hp hr) k
theorem own_if_lt_f {u : Int32} {o : Int} (hd : decode bytes pc = .ok (.ifCond .lt o, 3)) (hc : ¬ u < 0) (hp : pc + 3 = pc') (k : own_W l Z y bytes ml ret R n0 Q h cells slots pc' Ls st) : own_W l Z y bytes ml ret R n0 Q h cells slots pc Ls (.int u :: st) :=
  own_pure (fun p e below T t m c hA hx hb hr => by subst hp; exact XS.ifNo hA hx rfl (hb ▸ hd) rfl (XT.i0_lt_f hc) hr) k
theorem own_if_lt {u : Int32} {o : Int} {pf : Nat} (hd : decode bytes pc = .ok (.ifCond .lt o, 3)) (ho : 0 ≤ (pc : Int) + o) (hp : ((pc : Int) + o).toNat = pc') (hq : pc + 3 = pf) (kt : u < 0 → own_W l Z y bytes ml ret R n0 Q h cells slots pc' Ls st) (kf : ¬ u < 0 → own_W l Z y bytes ml ret R n0 Q h cells slots pf Ls st) : own_W l Z y bytes ml ret R n0 Q h cells slots pc Ls (.int u :: st) := by
  by_cases hc : u < 0
  · exact own_if_lt_t hd hc ho hp (kt hc)
  · exact own_if_lt_f hd (by first | exact hc | exact Decidable.not_not.mp hc) hq (kf (by first | exact hc | exact Decidable.not_not.mp hc))
theorem own_ic_lt_t {u w : Int32} {o : Int} (hd : decode bytes pc = .ok (.if_icmp .lt o, 3)) (hc : u < w) (ho : 0 ≤ (pc : Int) + o) (hp : ((pc : Int) + o).toNat = pc') (k : own_W l Z y bytes ml ret R n0 Q h cells slots pc' Ls st) : own_W l Z y bytes ml ret R n0 Q h cells slots pc Ls (.int w :: .int u :: st) :=
  own_pure (fun p e below T t m c hA hx hb hr => XS.icmpYes hA hx rfl rfl (hb ▸ hd) rfl (XT.ii_lt_t hc) ho hp hr) k
theorem own_ic_lt_f {u w : Int32} {o : Int} (hd : decode bytes pc = .ok (.if_icmp .lt o, 3)) (hc : ¬ u < w) (hp : pc + 3 = pc') (k : own_W l Z y bytes ml ret R n0 Q h cells slots pc' Ls st) : own_W l Z y bytes ml ret R n0 Q h cells slots pc Ls (.int w :: .int u :: st) :=
  own_pure (fun p e below T t m c hA hx hb hr => by subst hp; exact XS.icmpNo hA hx rfl (hb ▸ hd) rfl (XT.ii_lt_f hc) hr) k
theorem own_ic_lt {u w : Int32} {o : Int} {pf : Nat} (hd : decode bytes pc = .ok (.if_icmp .lt o, 3)) (ho : 0 ≤ (pc : Int) + o) (hp : ((pc : Int) + o).toNat = pc') (hq : pc + 3 = pf) (kt : u < w → own_W l Z y bytes ml ret R n0 Q h cells slots pc' Ls st) (kf : ¬ u < w → own_W l Z y bytes ml ret R n0 Q h cells slots pf Ls st) : own_W l Z y bytes ml ret R n0 Q h cells slots pc Ls (.int w :: .int u :: st) := by
  by_cases hc : u < w
  · exact own_ic_lt_t hd hc ho hp (kt hc)
  · exact own_ic_lt_f hd (by first | exact hc | exact Decidable.not_not.mp hc) hq (kf (by first | exact hc | exact Decidable.not_not.mp hc))
theorem own_il_lt_t {u w : Int64} {o : Int} (hd : decode bytes pc = .ok (.ifCond .lt o, 3)) (hc : u < w) (ho : 0 ≤ (pc : Int) + o) (hp : ((pc : Int) + o).toNat = pc') (k : own_W l Z y bytes ml ret R n0 Q h cells slots pc' Ls st) : own_W l Z y bytes ml ret R n0 Q h cells slots pc Ls (.int (XT.cmpL u w) :: st) :=
  own_pure (fun p e below T t m c hA hx hb hr => XS.ifYes hA hx rfl rfl (hb ▸ hd) rfl (XT.ll_lt_t hc) ho hp hr) k
theorem own_il_lt_f {u w : Int64} {o : Int} (hd : decode bytes pc = .ok (.ifCond .lt o, 3)) (hc : ¬ u < w) (hp : pc + 3 = pc') (k : own_W l Z y bytes ml ret R n0 Q h cells slots pc' Ls st) : own_W l Z y bytes ml ret R n0 Q h cells slots pc Ls (.int (XT.cmpL u w) :: st) :=
  own_pure (fun p e below T t m c hA hx hb hr => by subst hp; exact XS.ifNo hA hx rfl (hb ▸ hd) rfl (XT.ll_lt_f hc) hr) k
theorem own_il_lt {u w : Int64} {o : Int} {pf : Nat} (hd : decode bytes pc = .ok (.ifCond .lt o, 3)) (ho : 0 ≤ (pc : Int) + o) (hp : ((pc : Int) + o).toNat = pc') (hq : pc + 3 = pf) (kt : u < w → own_W l Z y bytes ml ret R n0 Q h cells slots pc' Ls st) (kf : ¬ u < w → own_W l Z y bytes ml ret R n0 Q h cells slots pf Ls st) : own_W l Z y bytes ml ret R n0 Q h cells slots pc Ls (.int (XT.cmpL u w) :: st) := by
  by_cases hc : u < w
  · exact own_il_lt_t hd hc ho hp (kt hc)
  · exact own_il_lt_f hd (by first | exact hc | exact Decidable.not_not.mp hc) hq (kf (by first | exact hc | exact Decidable.not_not.mp hc))
theorem own_if_ge_t {u : Int32} {o : Int} (hd : decode bytes pc = .ok (.ifCond .ge o, 3)) (hc : ¬ u < 0) (ho : 0 ≤ (pc : Int) + o) (hp : ((pc : Int) + o).toNat = pc') (k : own_W l Z y bytes ml ret R n0 Q h cells slots pc' Ls st) : own_W l Z y bytes ml ret R n0 Q h cells slots pc Ls (.int u :: st) :=
  own_pure (fun p e below T t m c hA hx hb hr => XS.ifYes hA hx rfl rfl (hb ▸ hd) rfl (XT.i0_ge_t hc) ho hp hr) k
theorem own_if_ge_f {u : Int32} {o : Int} (hd : decode bytes pc = .ok (.ifCond .ge o, 3)) (hc : u < 0) (hp : pc + 3 = pc') (k : own_W l Z y bytes ml ret R n0 Q h cells slots pc' Ls st) : own_W l Z y bytes ml ret R n0 Q h cells slots pc Ls (.int u :: st) :=
  own_pure (fun p e below T t m c hA hx hb hr => by subst hp; exact XS.ifNo hA hx rfl (hb ▸ hd) rfl (XT.i0_ge_f hc) hr) k
theorem own_if_ge {u : Int32} {o : Int} {pf : Nat} (hd : decode bytes pc = .ok (.ifCond .ge o, 3)) (ho : 0 ≤ (pc : Int) + o) (hp : ((pc : Int) + o).toNat = pc') (hq : pc + 3 = pf) (kt : ¬ u < 0 → own_W l Z y bytes ml ret R n0 Q h cells slots pc' Ls st) (kf : u < 0 → own_W l Z y bytes ml ret R n0 Q h cells slots pf Ls st) : own_W l Z y bytes ml ret R n0 Q h cells slots pc Ls (.int u :: st) := by
  by_cases hc : ¬ u < 0
  · exact own_if_ge_t hd hc ho hp (kt hc)
  · exact own_if_ge_f hd (by first | exact hc | exact Decidable.not_not.mp hc) hq (kf (by first | exact hc | exact Decidable.not_not.mp hc))
theorem own_ic_ge_t {u w : Int32} {o : Int} (hd : decode bytes pc = .ok (.if_icmp .ge o, 3)) (hc : ¬ u < w) (ho : 0 ≤ (pc : Int) + o) (hp : ((pc : Int) + o).toNat = pc') (k : own_W l Z y bytes ml ret R n0 Q h cells slots pc' Ls st) : own_W l Z y bytes ml ret R n0 Q h cells slots pc Ls (.int w :: .int u :: st) :=
  own_pure (fun p e below T t m c hA hx hb hr => XS.icmpYes hA hx rfl rfl (hb ▸ hd) rfl (XT.ii_ge_t hc) ho hp hr) k
theorem own_ic_ge_f {u w : Int32} {o : Int} (hd : decode bytes pc = .ok (.if_icmp .ge o, 3)) (hc : u < w) (hp : pc + 3 = pc') (k : own_W l Z y bytes ml ret R n0 Q h cells slots pc' Ls st) : own_W l Z y bytes ml ret R n0 Q h cells slots pc Ls (.int w :: .int u :: st) :=
  own_pure (fun p e below T t m c hA hx hb hr => by subst hp; exact XS.icmpNo hA hx rfl (hb ▸ hd) rfl (XT.ii_ge_f hc) hr) k
theorem own_ic_ge {u w : Int32} {o : Int} {pf : Nat} (hd : decode bytes pc = .ok (.if_icmp .ge o, 3)) (ho : 0 ≤ (pc : Int) + o) (hp : ((pc : Int) + o).toNat = pc') (hq : pc + 3 = pf) (kt : ¬ u < w → own_W l Z y bytes ml ret R n0 Q h cells slots pc' Ls st) (kf : u < w → own_W l Z y bytes ml ret R n0 Q h cells slots pf Ls st) : own_W l Z y bytes ml ret R n0 Q h cells slots pc Ls (.int w :: .int u :: st) := by
  by_cases hc : ¬ u < w
  · exact own_ic_ge_t hd hc ho hp (kt hc)
  · exact own_ic_ge_f hd (by first | exact hc | exact Decidable.not_not.mp hc) hq (kf (by first | exact hc | exact Decidable.not_not.mp hc))
theorem own_il_ge_t {u w : Int64} {o : Int} (hd : decode bytes pc = .ok (.ifCond .ge o, 3)) (hc : ¬ u < w) (ho : 0 ≤ (pc : Int) + o) (hp : ((pc : Int) + o).toNat = pc') (k : own_W l Z y bytes ml ret R n0 Q h cells slots pc' Ls st) : own_W l Z y bytes ml ret R n0 Q h cells slots pc Ls (.int (XT.cmpL u w) :: st) :=
  own_pure (fun p e below T t m c hA hx hb hr => XS.ifYes hA hx rfl rfl (hb ▸ hd) rfl (XT.ll_ge_t hc) ho hp hr) k
theorem own_il_ge_f {u w : Int64} {o : Int} (hd : decode bytes pc = .ok (.ifCond .ge o, 3)) (hc : u < w) (hp : pc + 3 = pc') (k : own_W l Z y bytes ml ret R n0 Q h cells slots pc' Ls st) : own_W l Z y bytes ml ret R n0 Q h cells slots pc Ls (.int (XT.cmpL u w) :: st) :=
  own_pure (fun p e below T t m c hA hx hb hr => by subst hp; exact XS.ifNo hA hx rfl (hb ▸ hd) rfl (XT.ll_ge_f hc) hr) k
theorem own_il_ge {u w : Int64} {o : Int} {pf : Nat} (hd : decode bytes pc = .ok (.ifCond .ge o, 3)) (ho : 0 ≤ (pc : Int) + o) (hp : ((pc : Int) + o).toNat = pc') (hq : pc + 3 = pf) (kt : ¬ u < w → own_W l Z y bytes ml ret R n0 Q h cells slots pc' Ls st) (kf : u < w → own_W l Z y bytes ml ret R n0 Q h cells slots pf Ls st) : own_W l Z y bytes ml ret R n0 Q h cells slots pc Ls (.int (XT.cmpL u w) :: st) := by
  by_cases hc : ¬ u < w
  · exact own_il_ge_t hd hc ho hp (kt hc)
  · exact own_il_ge_f hd (by first | exact hc | exact Decidable.not_not.mp hc) hq (kf (by first | exact hc | exact Decidable.not_not.mp hc))
theorem own_if_gt_t {u : Int32} {o : Int} (hd : decode bytes pc = .ok (.ifCond .gt o, 3)) (hc : 0 < u) (ho : 0 ≤ (pc : Int) + o) (hp : ((pc : Int) + o).toNat = pc') (k : own_W l Z y bytes ml ret R n0 Q h cells slots pc' Ls st) : own_W l Z y bytes ml ret R n0 Q h cells slots pc Ls (.int u :: st) :=
  own_pure (fun p e below T t m c hA hx hb hr => XS.ifYes hA hx rfl rfl (hb ▸ hd) rfl (XT.i0_gt_t hc) ho hp hr) k
theorem own_if_gt_f {u : Int32} {o : Int} (hd : decode bytes pc = .ok (.ifCond .gt o, 3)) (hc : ¬ 0 < u) (hp : pc + 3 = pc') (k : own_W l Z y bytes ml ret R n0 Q h cells slots pc' Ls st) : own_W l Z y bytes ml ret R n0 Q h cells slots pc Ls (.int u :: st) :=
  own_pure (fun p e below T t m c hA hx hb hr => by subst hp; exact XS.ifNo hA hx rfl (hb ▸ hd) rfl (XT.i0_gt_f hc) hr) k
theorem own_if_gt {u : Int32} {o : Int} {pf : Nat} (hd : decode bytes pc = .ok (.ifCond .gt o, 3)) (ho : 0 ≤ (pc : Int) + o) (hp : ((pc : Int) + o).toNat = pc') (hq : pc + 3 = pf) (kt : 0 < u → own_W l Z y bytes ml ret R n0 Q h cells slots pc' Ls st) (kf : ¬ 0 < u → own_W l Z y bytes ml ret R n0 Q h cells slots pf Ls st) : own_W l Z y bytes ml ret R n0 Q h cells slots pc Ls (.int u :: st) := by
  by_cases hc : 0 < u
  · exact own_if_gt_t hd hc ho hp (kt hc)
  · exact own_if_gt_f hd (by first | exact hc | exact Decidable.not_not.mp hc) hq (kf (by first | exact hc | exact Decidable.not_not.mp hc))
theorem own_ic_gt_t {u w : Int32} {o : Int} (hd : decode bytes pc = .ok (.if_icmp .gt o, 3)) (hc : w < u) (ho : 0 ≤ (pc : Int) + o) (hp : ((pc : Int) + o).toNat = pc') (k : own_W l Z y bytes ml ret R n0 Q h cells slots pc' Ls st) : own_W l Z y bytes ml ret R n0 Q h cells slots pc Ls (.int w :: .int u :: st) :=
  own_pure (fun p e below T t m c hA hx hb hr => XS.icmpYes hA hx rfl rfl (hb ▸ hd) rfl (XT.ii_gt_t hc) ho hp hr) k
theorem own_ic_gt_f {u w : Int32} {o : Int} (hd : decode bytes pc = .ok (.if_icmp .gt o, 3)) (hc : ¬ w < u) (hp : pc + 3 = pc') (k : own_W l Z y bytes ml ret R n0 Q h cells slots pc' Ls st) : own_W l Z y bytes ml ret R n0 Q h cells slots pc Ls (.int w :: .int u :: st) :=
  own_pure (fun p e below T t m c hA hx hb hr => by subst hp; exact XS.icmpNo hA hx rfl (hb ▸ hd) rfl (XT.ii_gt_f hc) hr) k
theorem own_ic_gt {u w : Int32} {o : Int} {pf : Nat} (hd : decode bytes pc = .ok (.if_icmp .gt o, 3)) (ho : 0 ≤ (pc : Int) + o) (hp : ((pc : Int) + o).toNat = pc') (hq : pc + 3 = pf) (kt : w < u → own_W l Z y bytes ml ret R n0 Q h cells slots pc' Ls st) (kf : ¬ w < u → own_W l Z y bytes ml ret R n0 Q h cells slots pf Ls st) : own_W l Z y bytes ml ret R n0 Q h cells slots pc Ls (.int w :: .int u :: st) := by
  by_cases hc : w < u
  · exact own_ic_gt_t hd hc ho hp (kt hc)
  · exact own_ic_gt_f hd (by first | exact hc | exact Decidable.not_not.mp hc) hq (kf (by first | exact hc | exact Decidable.not_not.mp hc))
theorem own_il_gt_t {u w : Int64} {o : Int} (hd : decode bytes pc = .ok (.ifCond .gt o, 3)) (hc : w < u) (ho : 0 ≤ (pc : Int) + o) (hp : ((pc : Int) + o).toNat = pc') (k : own_W l Z y bytes ml ret R n0 Q h cells slots pc' Ls st) : own_W l Z y bytes ml ret R n0 Q h cells slots pc Ls (.int (XT.cmpL u w) :: st) :=
  own_pure (fun p e below T t m c hA hx hb hr => XS.ifYes hA hx rfl rfl (hb ▸ hd) rfl (XT.ll_gt_t hc) ho hp hr) k
theorem own_il_gt_f {u w : Int64} {o : Int} (hd : decode bytes pc = .ok (.ifCond .gt o, 3)) (hc : ¬ w < u) (hp : pc + 3 = pc') (k : own_W l Z y bytes ml ret R n0 Q h cells slots pc' Ls st) : own_W l Z y bytes ml ret R n0 Q h cells slots pc Ls (.int (XT.cmpL u w) :: st) :=
  own_pure (fun p e below T t m c hA hx hb hr => by subst hp; exact XS.ifNo hA hx rfl (hb ▸ hd) rfl (XT.ll_gt_f hc) hr) k
theorem own_il_gt {u w : Int64} {o : Int} {pf : Nat} (hd : decode bytes pc = .ok (.ifCond .gt o, 3)) (ho : 0 ≤ (pc : Int) + o) (hp : ((pc : Int) + o).toNat = pc') (hq : pc + 3 = pf) (kt : w < u → own_W l Z y bytes ml ret R n0 Q h cells slots pc' Ls st) (kf : ¬ w < u → own_W l Z y bytes ml ret R n0 Q h cells slots pf Ls st) : own_W l Z y bytes ml ret R n0 Q h cells slots pc Ls (.int (XT.cmpL u w) :: st) := by
  by_cases hc : w < u
  · exact own_il_gt_t hd hc ho hp (kt hc)
  · exact own_il_gt_f hd (by first | exact hc | exact Decidable.not_not.mp hc) hq (kf (by first | exact hc | exact Decidable.not_not.mp hc))
theorem own_if_le_t {u : Int32} {o : Int} (hd : decode bytes pc = .ok (.ifCond .le o, 3)) (hc : ¬ 0 < u) (ho : 0 ≤ (pc : Int) + o) (hp : ((pc : Int) + o).toNat = pc') (k : own_W l Z y bytes ml ret R n0 Q h cells slots pc' Ls st) : own_W l Z y bytes ml ret R n0 Q h cells slots pc Ls (.int u :: st) :=
  own_pure (fun p e below T t m c hA hx hb hr => XS.ifYes hA hx rfl rfl (hb ▸ hd) rfl (XT.i0_le_t hc) ho hp hr) k
theorem own_if_le_f {u : Int32} {o : Int} (hd : decode bytes pc = .ok (.ifCond .le o, 3)) (hc : 0 < u) (hp : pc + 3 = pc') (k : own_W l Z y bytes ml ret R n0 Q h cells slots pc' Ls st) : own_W l Z y bytes ml ret R n0 Q h cells slots pc Ls (.int u :: st) :=
  own_pure (fun p e below T t m c hA hx hb hr => by subst hp; exact XS.ifNo hA hx rfl (hb ▸ hd) rfl (XT.i0_le_f hc) hr) k
theorem own_if_le {u : Int32} {o : Int} {pf : Nat} (hd : decode bytes pc = .ok (.ifCond .le o, 3)) (ho : 0 ≤ (pc : Int) + o) (hp : ((pc : Int) + o).toNat = pc') (hq : pc + 3 = pf) (kt : ¬ 0 < u → own_W l Z y bytes ml ret R n0 Q h cells slots pc' Ls st) (kf : 0 < u → own_W l Z y bytes ml ret R n0 Q h cells slots pf Ls st) : own_W l Z y bytes ml ret R n0 Q h cells slots pc Ls (.int u :: st) := by
  by_cases hc : ¬ 0 < u
  · exact own_if_le_t hd hc ho hp (kt hc)
  · exact own_if_le_f hd (by first | exact hc | exact Decidable.not_not.mp hc) hq (kf (by first | exact hc | exact Decidable.not_not.mp hc))
theorem own_ic_le_t {u w : Int32} {o : Int} (hd : decode bytes pc = .ok (.if_icmp .le o, 3)) (hc : ¬ w < u) (ho : 0 ≤ (pc : Int) + o) (hp : ((pc : Int) + o).toNat = pc') (k : own_W l Z y bytes ml ret R n0 Q h cells slots pc' Ls st) : own_W l Z y bytes ml ret R n0 Q h cells slots pc Ls (.int w :: .int u :: st) :=
  own_pure (fun p e below T t m c hA hx hb hr => XS.icmpYes hA hx rfl rfl (hb ▸ hd) rfl (XT.ii_le_t hc) ho hp hr) k
theorem own_ic_le_f {u w : Int32} {o : Int} (hd : decode bytes pc = .ok (.if_icmp .le o, 3)) (hc : w < u) (hp : pc + 3 = pc') (k : own_W l Z y bytes ml ret R n0 Q h cells slots pc' Ls st) : own_W l Z y bytes ml ret R n0 Q h cells slots pc Ls (.int w :: .int u :: st) :=
  own_pure (fun p e below T t m c hA hx hb hr => by subst hp; exact XS.icmpNo hA hx rfl (hb ▸ hd) rfl (XT.ii_le_f hc) hr) k
theorem own_ic_le {u w : Int32} {o : Int} {pf : Nat} (hd : decode bytes pc = .ok (.if_icmp .le o, 3)) (ho : 0 ≤ (pc : Int) + o) (hp : ((pc : Int) + o).toNat = pc') (hq : pc + 3 = pf) (kt : ¬ w < u → own_W l Z y bytes ml ret R n0 Q h cells slots pc' Ls st) (kf : w < u → own_W l Z y bytes ml ret R n0 Q h cells slots pf Ls st) : own_W l Z y bytes ml ret R n0 Q h cells slots pc Ls (.int w :: .int u :: st) := by
  by_cases hc : ¬ w < u
  · exact own_ic_le_t hd hc ho hp (kt hc)
  · exact own_ic_le_f hd (by first | exact hc | exact Decidable.not_not.mp hc) hq (kf (by first | exact hc | exact Decidable.not_not.mp hc))
theorem own_il_le_t {u w : Int64} {o : Int} (hd : decode bytes pc = .ok (.ifCond .le o, 3)) (hc : ¬ w < u) (ho : 0 ≤ (pc : Int) + o) (hp : ((pc : Int) + o).toNat = pc') (k : own_W l Z y bytes ml ret R n0 Q h cells slots pc' Ls st) : own_W l Z y bytes ml ret R n0 Q h cells slots pc Ls (.int (XT.cmpL u w) :: st) :=
  own_pure (fun p e below T t m c hA hx hb hr => XS.ifYes hA hx rfl rfl (hb ▸ hd) rfl (XT.ll_le_t hc) ho hp hr) k
theorem own_il_le_f {u w : Int64} {o : Int} (hd : decode bytes pc = .ok (.ifCond .le o, 3)) (hc : w < u) (hp : pc + 3 = pc') (k : own_W l Z y bytes ml ret R n0 Q h cells slots pc' Ls st) : own_W l Z y bytes ml ret R n0 Q h cells slots pc Ls (.int (XT.cmpL u w) :: st) :=
  own_pure (fun p e below T t m c hA hx hb hr => by subst hp; exact XS.ifNo hA hx rfl (hb ▸ hd) rfl (XT.ll_le_f hc) hr) k
theorem own_il_le {u w : Int64} {o : Int} {pf : Nat} (hd : decode bytes pc = .ok (.ifCond .le o, 3)) (ho : 0 ≤ (pc : Int) + o) (hp : ((pc : Int) + o).toNat = pc') (hq : pc + 3 = pf) (kt : ¬ w < u → own_W l Z y bytes ml ret R n0 Q h cells slots pc' Ls st) (kf : w < u → own_W l Z y bytes ml ret R n0 Q h cells slots pf Ls st) : own_W l Z y bytes ml ret R n0 Q h cells slots pc Ls (.int (XT.cmpL u w) :: st) := by
  by_cases hc : ¬ w < u
  · exact own_il_le_t hd hc ho hp (kt hc)
  · exact own_il_le_f hd (by first | exact hc | exact Decidable.not_not.mp hc) hq (kf (by first | exact hc | exact Decidable.not_not.mp hc))
theorem own_ifnull_f {u : Addr} {o : Int} (hd : decode bytes pc = .ok (.ifnull o, 3)) (hp : pc + 3 = pc') (k : own_W l Z y bytes ml ret R n0 Q h cells slots pc' Ls st) : own_W l Z y bytes ml ret R n0 Q h cells slots pc Ls (.ref u :: st) :=
  own_pure (fun p e below T t m c hA hx hb hr => by subst hp; exact XS.ifnullNo hA hx rfl (hb ▸ hd) rfl hr) k
theorem own_ifnonnull_t {u : Addr} {o : Int} (hd : decode bytes pc = .ok (.ifnonnull o, 3)) (ho : 0 ≤ (pc : Int) + o) (hp : ((pc : Int) + o).toNat = pc') (k : own_W l Z y bytes ml ret R n0 Q h cells slots pc' Ls st) : own_W l Z y bytes ml ret R n0 Q h cells slots pc Ls (.ref u :: st) :=
  own_pure (fun p e below T t m c hA hx hb hr => XT.ifnonnullYes hA hx rfl rfl (hb ▸ hd) rfl ho hp hr) k
theorem own_ldcI {idx : Nat} {u : Int32} (w : (Jvm.Cond.constant y.cls idx u).before a0 Z = true) (hd : decode bytes pc = .ok (.ldc idx, 2)) (hp : pc + 2 = pc') (k : own_W l Z y bytes ml ret R n0 Q h cells slots pc' Ls (.int u :: st)) : own_W l Z y bytes ml ret R n0 Q h cells slots pc Ls st := by
  intro p e s m args below meth c T locs hx hZ hown hby hml hret hlk hnm hce hsl X eT N
  subst hp
  obtain ⟨s₂, o, h1, h2⟩ := k p e s m args below meth c T locs hx hZ hown hby hml hret hlk hnm hce hsl X eT N
  exact ⟨s₂, o, X.ldcInt hx hown (mvT hZ w) (g := mkF m pc Ls st) rfl (hb hby hd) _ h1, h2⟩
theorem own_ldcWI {idx : Nat} {u : Int32} (w : (Jvm.Cond.constant y.cls idx u).before a0 Z = true) (hd : decode bytes pc = .ok (.ldc_w idx, 3)) (hp : pc + 3 = pc') (k : own_W l Z y bytes ml ret R n0 Q h cells slots pc' Ls (.int u :: st)) : own_W l Z y bytes ml ret R n0 Q h cells slots pc Ls st := by
  intro p e s m args below meth c T locs hx hZ hown hby hml hret hlk hnm hce hsl X eT N
  subst hp
  obtain ⟨s₂, o, h1, h2⟩ := k p e s m args below meth c T locs hx hZ hown hby hml hret hlk hnm hce hsl X eT N
  exact ⟨s₂, o, X.ldcWInt hx hown (mvT hZ w) (g := mkF m pc Ls st) rfl (hb hby hd) _ h1, h2⟩
theorem own_ldc2 {idx : Nat} {u : Int64} (w : (Jvm.Cond.constantLong y.cls idx u).before a0 Z = true) (hd : decode bytes pc = .ok (.ldc2_w idx, 3)) (hp : pc + 3 = pc') (k : own_W l Z y bytes ml ret R n0 Q h cells slots pc' Ls (.long u :: st)) : own_W l Z y bytes ml ret R n0 Q h cells slots pc Ls st := by
  intro p e s m args below meth c T locs hx hZ hown hby hml hret hlk hnm hce hsl X eT N
  subst hp
  obtain ⟨s₂, o, h1, h2⟩ := k p e s m args below meth c T locs hx hZ hown hby hml hret hlk hnm hce hsl X eT N
  exact ⟨s₂, o, X.ldc2Long hx hown (mvT hZ w) (g := mkF m pc Ls st) rfl (hb hby hd) _ h1, h2⟩
theorem own_iret {u : Int32} (hr0 : ret = some .int) (hd : decode bytes pc = .ok (.ireturn, 1)) (hq : Q (some (.int u)) h) : own_W l Z y bytes ml ret R n0 Q h cells slots pc Ls (.int u :: st) := by
  intro p e s m args below meth c T locs hx hZ hown hby hml hret hlk hnm hce hsl X eT N
  subst hr0
  obtain ⟨fs, hr, hrun, hended, hW, hsame⟩ := X.leave (v := some (.int u)) (fun h => by rw [hret] at h; cases h) hlk
  refine ⟨_, _, ?_, hrun, hended, _, _, rfl, ⟨?_, N⟩, ⟨_, rfl⟩, hW, hsame.mono hce hsl⟩
  · exact retOut X hx hret rfl (Or.inl ⟨rfl, Or.inl rfl, _, rfl⟩) (hb hby hd) hr
  · rw [show (T.setFrames fs).heap = h from eT]; exact hq
theorem own_zret {u : Int32} {t : FieldType} (hr0 : ret = some t) (ht : t = .boolean ∨ t = .byte ∨ t = .char ∨ t = .short) (hd : decode bytes pc = .ok (.ireturn, 1)) (hq : Q (some (.int (nar t u))) h) : own_W l Z y bytes ml ret R n0 Q h cells slots pc Ls (.int u :: st) := by
  intro p e s m args below meth c T locs hx hZ hown hby hml hret hlk hnm hce hsl X eT N
  subst hr0
  obtain ⟨fs, hr, hrun, hended, hW, hsame⟩ := X.leave (v := some (.int (nar t u))) (fun h => by rw [hret] at h; cases h) hlk
  refine ⟨_, _, ?_, hrun, hended, _, _, rfl, ⟨?_, N⟩, ⟨_, rfl⟩, hW, hsame.mono hce hsl⟩
  · exact retN X hx hret ht (hb hby hd) hr
  · rw [show (T.setFrames fs).heap = h from eT]; exact hq
theorem own_bret {u v : Int32} (hr0 : ret = some .boolean) (hv : u &&& 1 = v) (hd : decode bytes pc = .ok (.ireturn, 1)) (hq : Q (some (.int v)) h) : own_W l Z y bytes ml ret R n0 Q h cells slots pc Ls (.int u :: st) :=
  own_zret hr0 (Or.inl rfl) hd (by subst hv; exact hq)
theorem own_lret {u : Int64} (hr0 : ret = some .long) (hd : decode bytes pc = .ok (.lreturn, 1)) (hq : Q (some (.long u)) h) : own_W l Z y bytes ml ret R n0 Q h cells slots pc Ls (.long u :: st) := by
  intro p e s m args below meth c T locs hx hZ hown hby hml hret hlk hnm hce hsl X eT N
  subst hr0
  obtain ⟨fs, hr, hrun, hended, hW, hsame⟩ := X.leave (v := some (.long u)) (fun h => by rw [hret] at h; cases h) hlk
  refine ⟨_, _, ?_, hrun, hended, _, _, rfl, ⟨?_, N⟩, ⟨_, rfl⟩, hW, hsame.mono hce hsl⟩
  · exact retOut X hx hret rfl (Or.inr (Or.inl ⟨rfl, rfl, _, rfl⟩)) (hb hby hd) hr
  · rw [show (T.setFrames fs).heap = h from eT]; exact hq
theorem own_aret {u : Addr} {t : FieldType} (hr0 : ret = some t) (ht : t.isReference = true) (hn : narrow t (.ref u) = .ref u) (hd : decode bytes pc = .ok (.areturn, 1)) (hq : Q (some (.ref u)) h) : own_W l Z y bytes ml ret R n0 Q h cells slots pc Ls (.ref u :: st) := by
  intro p e s m args below meth c T locs hx hZ hown hby hml hret hlk hnm hce hsl X eT N
  subst hr0
  obtain ⟨fs, hr, hrun, hended, hW, hsame⟩ := X.leave (v := some (.ref u)) (fun h => by rw [hret] at h; cases h) hlk
  refine ⟨_, _, ?_, hrun, hended, _, _, rfl, ⟨?_, N⟩, ⟨_, rfl⟩, hW, hsame.mono hce hsl⟩
  · exact retOut X hx hret hn (Or.inr (Or.inr (Or.inr (Or.inr ⟨rfl, ht, rfl⟩)))) (hb hby hd) hr
  · rw [show (T.setFrames fs).heap = h from eT]; exact hq
theorem own_ret (hr0 : ret = none) (hd : decode bytes pc = .ok (.return_, 1)) (hq : Q none h) : own_W l Z y bytes ml ret R n0 Q h cells slots pc Ls [] := by
  intro p e s m args below meth c T locs hx hZ hown hby hml hret hlk hnm hce hsl X eT N
  subst hr0
  obtain ⟨fs, hr, hrun, hended, hW, hsame⟩ := X.leave (v := none) (fun _ => rfl) hlk
  refine ⟨_, _, ?_, hrun, hended, _, _, rfl, ⟨?_, N⟩, ⟨_, rfl⟩, hW, hsame.mono hce hsl⟩
  · exact X.returnOut hx hret (hb hby hd) hr
  · rw [show (T.setFrames fs).heap = h from eT]; exact hq
theorem own_getF {O n d : String} {idx : Nat} {a : Addr} {v : Value} (w : (Jvm.Cond.fieldLink y.cls idx O n d).before a0 Z = true) (F : Fld Z h a O n d v) (hd : decode bytes pc = .ok (.getfield idx, 3)) (hp : pc + 3 = pc') (k : own_W l Z y bytes ml ret R n0 Q h cells slots pc' Ls (v :: st)) : own_W l Z y bytes ml ret R n0 Q h cells slots pc Ls (.ref a :: st) := by
  intro p e s m args below meth c T locs hx hZ hown hby hml hret hlk hnm hce hsl X eT N
  subst hp
  obtain ⟨T', X', e', st'⟩ := getF X hx hZ hown (host := "") (Or.inl w) Via.refl eT F (g := mkF m pc Ls (.ref a :: st)) rfl rfl (hb hby hd)
  obtain ⟨s₂, o, h1, h2⟩ := k p e s m args below meth c T' locs hx hZ hown hby hml hret hlk hnm hce hsl X' e' N
  exact ⟨s₂, o, st' _ h1, h2⟩
theorem own_putF {O n d C : String} {idx kk : Nat} {a : Addr} {v old : Value} {ty : FieldType} (w : (Jvm.Cond.fieldLink y.cls idx O n d).before a0 Z = true) (F : Fld Z h a O n d old) (E : Exa Z h a C) (L : (Jvm.Cond.lays C O n d).before a0 Z = true ∨ ((Jvm.Cond.laysFinal C O n d).before a0 Z = true ∧ y.cls = O ∧ y.name = "<init>")) (wi : (Jvm.Cond.instantiable C kk).before a0 Z = true)
    (ge : n0 ≤ a) (hty : parseFieldDescriptor d = some ty) (hn : narrow ty v = v) (hf : fits ty v = true) (hd : decode bytes pc = .ok (.putfield idx, 3)) (hp : pc + 3 = pc')
    (k : ∀ h', Wr h h' a (Jvm.RoadKit.slotOf Z O n d) v → Keep h h' [a] → own_W l Z y bytes ml ret R n0 Q h' cells slots pc' Ls st) : own_W l Z y bytes ml ret R n0 Q h cells slots pc Ls (v :: .ref a :: st) := by
  intro p e s m args below meth c T locs hx hZ hown hby hml hret hlk hnm hce hsl X eT N
  subst hp
  obtain ⟨T', h', X', e', W', st'⟩ := putF X hx hZ hown (host := "") (Or.inl w) Via.refl eT F E (L.imp id fun q => ⟨q.1, q.2.1, hnm.trans q.2.2⟩) wi hty hn hf (g := mkF m pc Ls (v :: .ref a :: st)) rfl rfl (hb hby hd)
  obtain ⟨s₂, o, h1, h2⟩ := k h' W' (Keep.of_wr W') p e s m args below meth c T' _ hx hZ hown hby hml hret hlk hnm hce hsl X' e' (Fr.snoc X' N ge)
  exact ⟨s₂, o, st' _ h1, h2⟩
theorem own_new {C : String} {idx n : Nat} (w : (Jvm.Cond.classLink y.cls idx C).before a0 Z = true) (wi : (Jvm.Cond.instantiable C n).before a0 Z = true) (wz : (Jvm.Cond.initialized C).before a0 Z = true) (hd : decode bytes pc = .ok (.new idx, 3)) (hp : pc + 3 = pc') (hc : cells + 1 ≤ R.cells) (hl : slots + n ≤ R.slots)
    (k : ∀ (h' : Heap) (a : Addr), h.size ≤ a → a < h'.size → Ext h h' → Exa Z h' a C → (∀ {O nm d : String} {ty : FieldType}, Laid Z a0 C O nm d → parseFieldDescriptor d = some ty → Fld Z h' a O nm d (defaultValue ty)) → own_W l Z y bytes ml ret R n0 Q h' (cells + 1) (slots + n) pc' Ls (.ref a :: st)) : own_W l Z y bytes ml ret R n0 Q h cells slots pc Ls st := by
  intro p e s m args below meth c T locs hx hZ hown hby hml hret hlk hnm hce hsl X eT N
  subst hp
  obtain ⟨T', h', X', e', E', A', D', -, st'⟩ := newO X hx hZ hown w wi wz eT (g := mkF m pc Ls st) rfl (hb hby hd) hc hl
  obtain ⟨s₂, o, h1, h2⟩ := k h' h.size (Nat.le_refl _) A'.lt E' A' D' p e s m args below meth c T' _ hx hZ hown hby hml hret hlk hnm hc hl X' e' N
  exact ⟨s₂, o, st' _ h1, h2⟩
theorem own_initO {idx W : Nat} {a : Addr} (w1 : (Jvm.Cond.methodLink y.cls idx Lib.objectInit).before a0 Z = true) (w2 : (Jvm.Cond.instanceMethod Lib.objectInit).before a0 Z = true) (w3 : (Jvm.Cond.code Lib.objectInit ⟨#[0xb1]⟩ 1 none).before a0 Z = true) (hd : decode bytes pc = .ok (.invokespecial idx, 3)) (hp : pc + 3 = pc')
    (hsz : Ls.size = ml) (hf : 1 ≤ R.frames) (hW : (st.map fun v => v.category).sum ≤ W) (hl : W + 12 ≤ R.locals) (k : own_W l Z y bytes ml ret R n0 Q h cells slots pc' Ls st) : own_W l Z y bytes ml ret R n0 Q h cells slots pc Ls (.ref a :: st) := by
  intro p e s m args below meth c T locs hx hZ hown hby hml hret hlk hnm hce hsl X eT N
  subst hp
  obtain ⟨T', X', e', st'⟩ := initO X hx hZ hown w1 w2 w3 eT (g := mkF m pc Ls (.ref a :: st)) rfl (by rw [hml]; exact hsz) rfl (hb hby hd) hf (W := W) (by show 2 * 0 + _ ≤ _; omega) hl
  obtain ⟨s₂, o, h1, h2⟩ := k p e s m args below meth c T' locs hx hZ hown hby hml hret hlk hnm hce hsl X' e' N
  exact ⟨s₂, o, st' _ h1, h2⟩
/-- an array of this component type with just these components -/
def own_A (Z : State) (h : Heap) (a : Addr) (ty : FieldType) (vs : List Value) : Prop := ∃ c : Cell, Arr Z h a c ty ∧ c.slots.toList = vs ∧ vs.length < 2 ^ 31 ∧ ∀ v ∈ vs, fits ty v = true
theorem own_A.lt {a : Addr} {ty : FieldType} {vs : List Value} (A : own_A Z h a ty vs) : a < h.size := by obtain ⟨c, A, -⟩ := A; exact A.lt
theorem own_A.ext {h' : Heap} {a : Addr} {ty : FieldType} {vs : List Value} (A : own_A Z h a ty vs) (E : Ext h h') : own_A Z h' a ty vs := by obtain ⟨c, A, r⟩ := A; exact ⟨c, A.ext E, r⟩
theorem own_A.keep {h' : Heap} {a : Addr} {ty : FieldType} {vs : List Value} {ws : List Addr} (A : own_A Z h a ty vs) (K : Keep h h' ws) (q : a ∉ ws) : own_A Z h' a ty vs := by obtain ⟨c, A, r⟩ := A; exact ⟨c, ⟨K.2.1 a c A.1 q, A.2⟩, r⟩
theorem own_A.cast {a : Addr} {ty : FieldType} {vs vs' : List Value} (A : own_A Z h a ty vs) (q : vs = vs') : own_A Z h a ty vs' := q ▸ A
theorem own_size {c : Cell} {vs : List Value} (q : c.slots.toList = vs) : c.slots.size = vs.length := by rw [← q]; simp
theorem own_in {c : Cell} {vs : List Value} {j : Int32} (q : c.slots.toList = vs) (h0 : ¬ j < 0) (h1 : j.toNatClampNeg < vs.length) : ¬ (j < 0 ∨ c.slots.size ≤ j.toNatClampNeg) := by rw [own_size q]; rintro (u | u); exact h0 u; omega
theorem own_get {c : Cell} {vs : List Value} {j : Nat} {v : Value} (q : c.slots.toList = vs) (h1 : vs[j]? = some v) : c.slots[j]? = some v := by rw [← Array.getElem?_toList, q]; exact h1
theorem own_A.set {h' : Heap} {a : Addr} {ty : FieldType} {vs : List Value} {j : Nat} {v : Value} {c : Cell} (A : Arr Z h a c ty) (q : c.slots.toList = vs) (hl : vs.length < 2 ^ 31) (hft : ∀ v ∈ vs, fits ty v = true) (hv : fits ty v = true) (W : Wr h h' a j v) : own_A Z h' a ty (vs.set j v) := by
  refine ⟨_, A.same W, ?_, by simpa using hl, fun w hw => (List.mem_or_eq_of_mem_set hw).elim (hft w) fun e => e ▸ hv⟩
  rw [← q]; simp [Cell.setSlot]
theorem own_fitd (ty : FieldType) : fits ty (defaultValue ty) = true := by cases ty <;> rfl
theorem own_len {a : Addr} {ty : FieldType} {vs : List Value} {n : Int32} (A : own_A Z h a ty vs) (hn : vs.length.toInt32 = n) (hd : decode bytes pc = .ok (.arraylength, 1)) (hp : pc + 1 = pc') (k : own_W l Z y bytes ml ret R n0 Q h cells slots pc' Ls (.int n :: st)) : own_W l Z y bytes ml ret R n0 Q h cells slots pc Ls (.ref a :: st) := by
  intro p e s m args below meth c T locs hx hZ hown hby hml hret hlk hnm hce hsl X eT N
  subst hp hn
  obtain ⟨cl, A, q, hl, hft⟩ := A
  obtain ⟨s₂, o, h1, h2⟩ := k p e s m args below meth c T locs hx hZ hown hby hml hret hlk hnm hce hsl X eT N
  refine ⟨s₂, o, X.arraylength hx (by rw [eT]; exact A.1) (State.isArrayOf_alike hZ.alike A.2.1) (g := mkF m pc Ls (.ref a :: st)) rfl rfl (hb hby hd) _ ?_, h2⟩
  rw [own_size q]; exact h1
theorem own_iaload {a : Addr} {vs : List Value} {j : Int32} {v : Value} (A : own_A Z h a .int vs) (h0 : ¬ j < 0) (hv : vs[j.toNatClampNeg]? = some v) (hd : decode bytes pc = .ok (.iaload, 1)) (hp : pc + 1 = pc') (k : own_W l Z y bytes ml ret R n0 Q h cells slots pc' Ls (v :: st)) : own_W l Z y bytes ml ret R n0 Q h cells slots pc Ls (.int j :: .ref a :: st) := by
  intro p e s m args below meth c T locs hx hZ hown hby hml hret hlk hnm hce hsl X eT N
  subst hp
  obtain ⟨cl, A, q, hl, hft⟩ := A
  obtain ⟨s₂, o, h1, h2⟩ := k p e s m args below meth c T locs hx hZ hown hby hml hret hlk hnm hce hsl X eT N
  exact ⟨s₂, o, X.iaload hx (by rw [eT]; exact A.1) (State.isArrayOf_alike hZ.alike A.2.1) A.2.2 (own_in q h0 (List.getElem?_eq_some_iff.mp hv).1) (own_get q hv) (g := mkF m pc Ls (.int j :: .ref a :: st)) rfl rfl (hb hby hd) _ h1, h2⟩
theorem own_laload {a : Addr} {vs : List Value} {j : Int32} {v : Value} (A : own_A Z h a .long vs) (h0 : ¬ j < 0) (hv : vs[j.toNatClampNeg]? = some v) (hd : decode bytes pc = .ok (.laload, 1)) (hp : pc + 1 = pc') (k : own_W l Z y bytes ml ret R n0 Q h cells slots pc' Ls (v :: st)) : own_W l Z y bytes ml ret R n0 Q h cells slots pc Ls (.int j :: .ref a :: st) := by
  intro p e s m args below meth c T locs hx hZ hown hby hml hret hlk hnm hce hsl X eT N
  subst hp
  obtain ⟨cl, A, q, hl, hft⟩ := A
  obtain ⟨s₂, o, h1, h2⟩ := k p e s m args below meth c T locs hx hZ hown hby hml hret hlk hnm hce hsl X eT N
  exact ⟨s₂, o, X.laload hx (by rw [eT]; exact A.1) (State.isArrayOf_alike hZ.alike A.2.1) A.2.2 (own_in q h0 (List.getElem?_eq_some_iff.mp hv).1) (own_get q hv) (g := mkF m pc Ls (.int j :: .ref a :: st)) rfl rfl (hb hby hd) _ h1, h2⟩
theorem own_caload {a : Addr} {vs : List Value} {j : Int32} {v : Value} (A : own_A Z h a .char vs) (h0 : ¬ j < 0) (hv : vs[j.toNatClampNeg]? = some v) (hd : decode bytes pc = .ok (.caload, 1)) (hp : pc + 1 = pc') (k : own_W l Z y bytes ml ret R n0 Q h cells slots pc' Ls (v :: st)) : own_W l Z y bytes ml ret R n0 Q h cells slots pc Ls (.int j :: .ref a :: st) := by
  intro p e s m args below meth c T locs hx hZ hown hby hml hret hlk hnm hce hsl X eT N
  subst hp
  obtain ⟨cl, A, q, hl, hft⟩ := A
  obtain ⟨s₂, o, h1, h2⟩ := k p e s m args below meth c T locs hx hZ hown hby hml hret hlk hnm hce hsl X eT N
  exact ⟨s₂, o, X.caload hx (by rw [eT]; exact A.1) (State.isArrayOf_alike hZ.alike A.2.1) A.2.2 (own_in q h0 (List.getElem?_eq_some_iff.mp hv).1) (own_get q hv) (g := mkF m pc Ls (.int j :: .ref a :: st)) rfl rfl (hb hby hd) _ h1, h2⟩
theorem own_baload {a : Addr} {vs : List Value} {j : Int32} {v : Value} (A : own_A Z h a .byte vs) (h0 : ¬ j < 0) (hv : vs[j.toNatClampNeg]? = some v) (hd : decode bytes pc = .ok (.baload, 1)) (hp : pc + 1 = pc') (k : own_W l Z y bytes ml ret R n0 Q h cells slots pc' Ls (v :: st)) : own_W l Z y bytes ml ret R n0 Q h cells slots pc Ls (.int j :: .ref a :: st) := by
  intro p e s m args below meth c T locs hx hZ hown hby hml hret hlk hnm hce hsl X eT N
  subst hp
  obtain ⟨cl, A, q, hl, hft⟩ := A
  obtain ⟨s₂, o, h1, h2⟩ := k p e s m args below meth c T locs hx hZ hown hby hml hret hlk hnm hce hsl X eT N
  exact ⟨s₂, o, X.baloadBytes hx (by rw [eT]; exact A.1) (State.isArrayOf_alike hZ.alike A.2.1) A.2.2 (own_in q h0 (List.getElem?_eq_some_iff.mp hv).1) (own_get q hv) (g := mkF m pc Ls (.int j :: .ref a :: st)) rfl rfl (hb hby hd) _ h1, h2⟩
theorem own_zaload {a : Addr} {vs : List Value} {j : Int32} {v : Value} (A : own_A Z h a .boolean vs) (h0 : ¬ j < 0) (hv : vs[j.toNatClampNeg]? = some v) (hd : decode bytes pc = .ok (.baload, 1)) (hp : pc + 1 = pc') (k : own_W l Z y bytes ml ret R n0 Q h cells slots pc' Ls (v :: st)) : own_W l Z y bytes ml ret R n0 Q h cells slots pc Ls (.int j :: .ref a :: st) := by
  intro p e s m args below meth c T locs hx hZ hown hby hml hret hlk hnm hce hsl X eT N
  subst hp
  obtain ⟨cl, A, q, hl, hft⟩ := A
  obtain ⟨s₂, o, h1, h2⟩ := k p e s m args below meth c T locs hx hZ hown hby hml hret hlk hnm hce hsl X eT N
  exact ⟨s₂, o, X.baloadBooleans hx (by rw [eT]; exact A.1) (State.isArrayOf_alike hZ.alike A.2.1) A.2.2 (own_in q h0 (List.getElem?_eq_some_iff.mp hv).1) (own_get q hv) (g := mkF m pc Ls (.int j :: .ref a :: st)) rfl rfl (hb hby hd) _ h1, h2⟩
theorem own_iastore {a : Addr} {vs : List Value} {j : Int32} {u : Int32} (A : own_A Z h a .int vs) (h0 : ¬ j < 0) (h1 : j.toNatClampNeg < vs.length) (ge : n0 ≤ a) (hd : decode bytes pc = .ok (.iastore, 1)) (hp : pc + 1 = pc') (k : ∀ h', Keep h h' [a] → own_A Z h' a .int (vs.set j.toNatClampNeg (.int u)) → own_W l Z y bytes ml ret R n0 Q h' cells slots pc' Ls st) : own_W l Z y bytes ml ret R n0 Q h cells slots pc Ls (.int u :: .int j :: .ref a :: st) := by
  intro p e s m args below meth c T locs hx hZ hown hby hml hret hlk hnm hce hsl X eT N
  subst hp
  obtain ⟨cl, A, q, hl, hft⟩ := A
  obtain ⟨T', h', X', e', W', st'⟩ := stI X hx hZ eT A (own_in q h0 h1) (g := mkF m pc Ls (.int u :: .int j :: .ref a :: st)) rfl rfl (hb hby hd)
  obtain ⟨s₂, o, h1, h2⟩ := k h' (Keep.of_wr W') (own_A.set A q hl hft rfl W') p e s m args below meth c T' _ hx hZ hown hby hml hret hlk hnm hce hsl X' e' (Fr.snoc X' N ge)
  exact ⟨s₂, o, st' _ h1, h2⟩
theorem own_lastore {a : Addr} {vs : List Value} {j : Int32} {u : Int64} (A : own_A Z h a .long vs) (h0 : ¬ j < 0) (h1 : j.toNatClampNeg < vs.length) (ge : n0 ≤ a) (hd : decode bytes pc = .ok (.lastore, 1)) (hp : pc + 1 = pc') (k : ∀ h', Keep h h' [a] → own_A Z h' a .long (vs.set j.toNatClampNeg (.long u)) → own_W l Z y bytes ml ret R n0 Q h' cells slots pc' Ls st) : own_W l Z y bytes ml ret R n0 Q h cells slots pc Ls (.long u :: .int j :: .ref a :: st) := by
  intro p e s m args below meth c T locs hx hZ hown hby hml hret hlk hnm hce hsl X eT N
  subst hp
  obtain ⟨cl, A, q, hl, hft⟩ := A
  obtain ⟨T', h', X', e', W', st'⟩ := stJ X hx hZ eT A (own_in q h0 h1) (g := mkF m pc Ls (.long u :: .int j :: .ref a :: st)) rfl rfl (hb hby hd)
  obtain ⟨s₂, o, h1, h2⟩ := k h' (Keep.of_wr W') (own_A.set A q hl hft rfl W') p e s m args below meth c T' _ hx hZ hown hby hml hret hlk hnm hce hsl X' e' (Fr.snoc X' N ge)
  exact ⟨s₂, o, st' _ h1, h2⟩
theorem own_castore {a : Addr} {vs : List Value} {j : Int32} {u : Int32} (A : own_A Z h a .char vs) (h0 : ¬ j < 0) (h1 : j.toNatClampNeg < vs.length) (ge : n0 ≤ a) (hd : decode bytes pc = .ok (.castore, 1)) (hp : pc + 1 = pc') (k : ∀ h', Keep h h' [a] → own_A Z h' a .char (vs.set j.toNatClampNeg (.int (nar .char u))) → own_W l Z y bytes ml ret R n0 Q h' cells slots pc' Ls st) : own_W l Z y bytes ml ret R n0 Q h cells slots pc Ls (.int u :: .int j :: .ref a :: st) := by
  intro p e s m args below meth c T locs hx hZ hown hby hml hret hlk hnm hce hsl X eT N
  subst hp
  obtain ⟨cl, A, q, hl, hft⟩ := A
  obtain ⟨T', h', X', e', W', st'⟩ := stC X hx hZ eT A (own_in q h0 h1) (g := mkF m pc Ls (.int u :: .int j :: .ref a :: st)) rfl rfl (hb hby hd)
  obtain ⟨s₂, o, h1, h2⟩ := k h' (Keep.of_wr W') (own_A.set A q hl hft (fits_nar_char u) W') p e s m args below meth c T' _ hx hZ hown hby hml hret hlk hnm hce hsl X' e' (Fr.snoc X' N ge)
  exact ⟨s₂, o, st' _ h1, h2⟩
theorem own_bastore {a : Addr} {vs : List Value} {j : Int32} {u : Int32} (A : own_A Z h a .byte vs) (h0 : ¬ j < 0) (h1 : j.toNatClampNeg < vs.length) (ge : n0 ≤ a) (hd : decode bytes pc = .ok (.bastore, 1)) (hp : pc + 1 = pc') (k : ∀ h', Keep h h' [a] → own_A Z h' a .byte (vs.set j.toNatClampNeg (.int (nar .byte u))) → own_W l Z y bytes ml ret R n0 Q h' cells slots pc' Ls st) : own_W l Z y bytes ml ret R n0 Q h cells slots pc Ls (.int u :: .int j :: .ref a :: st) := by
  intro p e s m args below meth c T locs hx hZ hown hby hml hret hlk hnm hce hsl X eT N
  subst hp
  obtain ⟨cl, A, q, hl, hft⟩ := A
  obtain ⟨T', h', X', e', W', st'⟩ := stB X hx hZ eT A (own_in q h0 h1) (g := mkF m pc Ls (.int u :: .int j :: .ref a :: st)) rfl rfl (hb hby hd)
  obtain ⟨s₂, o, h1, h2⟩ := k h' (Keep.of_wr W') (own_A.set A q hl hft (fits_nar_byte u) W') p e s m args below meth c T' _ hx hZ hown hby hml hret hlk hnm hce hsl X' e' (Fr.snoc X' N ge)
  exact ⟨s₂, o, st' _ h1, h2⟩
theorem own_zastore {a : Addr} {vs : List Value} {j : Int32} {u : Int32} (A : own_A Z h a .boolean vs) (h0 : ¬ j < 0) (h1 : j.toNatClampNeg < vs.length) (ge : n0 ≤ a) (hd : decode bytes pc = .ok (.bastore, 1)) (hp : pc + 1 = pc') (k : ∀ h', Keep h h' [a] → own_A Z h' a .boolean (vs.set j.toNatClampNeg (.int (nar .boolean u))) → own_W l Z y bytes ml ret R n0 Q h' cells slots pc' Ls st) : own_W l Z y bytes ml ret R n0 Q h cells slots pc Ls (.int u :: .int j :: .ref a :: st) := by
  intro p e s m args below meth c T locs hx hZ hown hby hml hret hlk hnm hce hsl X eT N
  subst hp
  obtain ⟨cl, A, q, hl, hft⟩ := A
  obtain ⟨T', h', X', e', W', st'⟩ := stZ X hx hZ eT A (own_in q h0 h1) (g := mkF m pc Ls (.int u :: .int j :: .ref a :: st)) rfl rfl (hb hby hd)
  obtain ⟨s₂, o, h1, h2⟩ := k h' (Keep.of_wr W') (own_A.set A q hl hft (fits_nar_bool u) W') p e s m args below meth c T' _ hx hZ hown hby hml hret hlk hnm hce hsl X' e' (Fr.snoc X' N ge)
  exact ⟨s₂, o, st' _ h1, h2⟩
theorem own_newarrE {aty : ArrayType} {ty : FieldType} {n : Int32} {cap : Nat} (w : (Jvm.Cond.arrayClass ty).before a0 Z = true) (ht : newarray.typeOf aty = ty) (hd : decode bytes pc = .ok (.newarray aty, 2)) (hp : pc + 2 = pc') (hn : ¬ n < 0) (hcap : n.toNatClampNeg ≤ cap) (hb8 : cap * 8 ≤ 536870912) (hc : cells + 1 ≤ R.cells) (hl : slots + cap ≤ R.slots)
    (k : ∀ (h' : Heap) (a : Addr), h.size ≤ a → a < h'.size → Ext h h' → own_A Z h' a ty (List.replicate n.toNatClampNeg (defaultValue ty)) → Exa Z h' a ("[" ++ ty.toString) → own_W l Z y bytes ml ret R n0 Q h' (cells + 1) (slots + cap) pc' Ls (.ref a :: st)) : own_W l Z y bytes ml ret R n0 Q h cells slots pc Ls (.int n :: st) := by
  intro p e s m args below meth c T locs hx hZ hown hby hml hret hlk hnm hce hsl X eT N
  subst hp ht
  have hcb : componentBytes (newarray.typeOf aty) ≤ 8 := by cases aty <;> decide
  obtain ⟨cA, kA, comp, g1, g2, g3, X', st'⟩ := X.newarrayPrim hx (mvA hZ w) (g := mkF m pc Ls (.int n :: st)) rfl (hb hby hd) rfl hn (Nat.le_trans (Nat.mul_le_mul hcap hcb) hb8) hc (by omega)
  rw [hZ.alike.findClass] at g1
  obtain ⟨kZ, z1, -⟩ := Vm.findClass_spec g1
  obtain ⟨k', z2, z3⟩ := hZ.alike.2.2 _ _ z1
  cases g2.symm.trans z2
  have kk : kZ.kind = .array comp (newarray.typeOf aty) := by rw [← g3, z3]
  have hN : (T.heap.push ({ cls := cA, slots := Array.replicate n.toNatClampNeg (defaultValue (newarray.typeOf aty)), vm := .none } : Cell))[T.heap.size]? = some { cls := cA, slots := Array.replicate n.toNatClampNeg (defaultValue (newarray.typeOf aty)), vm := .none } := by simp
  have E' : Ext h (T.heap.push ({ cls := cA, slots := Array.replicate n.toNatClampNeg (defaultValue (newarray.typeOf aty)), vm := .none } : Cell)) := by
    subst eT
    refine ⟨by simp, fun b cc hb' => ?_⟩
    rw [Array.getElem?_push_lt (Array.getElem?_eq_some_iff.mp hb').1]; exact (Array.getElem?_eq_getElem _).symm.trans hb'
  have A' : own_A Z (T.heap.push ({ cls := cA, slots := Array.replicate n.toNatClampNeg (defaultValue (newarray.typeOf aty)), vm := .none } : Cell)) T.heap.size (newarray.typeOf aty) (List.replicate n.toNatClampNeg (defaultValue (newarray.typeOf aty))) :=
    ⟨_, ⟨hN, ⟨by simp, kZ, z1, comp, kk⟩, by simp⟩, by simp, by simp only [List.length_replicate]; exact (back32 hn).2, fun v hv => by rw [(List.mem_replicate.mp hv).2]; exact own_fitd _⟩
  have X2 := X'.more (Nat.le_refl _) (Nat.add_le_add_left hcap slots)
  obtain ⟨s₂, o, h1, h2⟩ := k _ T.heap.size (by rw [eT]; exact Nat.le_refl _) A'.lt E' A' ⟨_, kZ, hN, g1, z1, rfl, fun q => by rw [kk] at q; cases q⟩ p e s m args below meth c _ _ hx hZ hown hby hml hret hlk hnm hc hl X2 rfl N
  exact ⟨s₂, o, st' _ h1, h2⟩
theorem own_newarr {aty : ArrayType} {ty : FieldType} {n : Int32} {cap : Nat} (w : (Jvm.Cond.arrayClass ty).before a0 Z = true) (ht : newarray.typeOf aty = ty) (hd : decode bytes pc = .ok (.newarray aty, 2)) (hp : pc + 2 = pc') (hn : ¬ n < 0) (hcap : n.toNatClampNeg ≤ cap) (hb8 : cap * 8 ≤ 536870912) (hc : cells + 1 ≤ R.cells) (hl : slots + cap ≤ R.slots)
    (k : ∀ (h' : Heap) (a : Addr), h.size ≤ a → a < h'.size → Ext h h' → own_A Z h' a ty (List.replicate n.toNatClampNeg (defaultValue ty)) → own_W l Z y bytes ml ret R n0 Q h' (cells + 1) (slots + cap) pc' Ls (.ref a :: st)) : own_W l Z y bytes ml ret R n0 Q h cells slots pc Ls (.int n :: st) :=
  own_newarrE w ht hd hp hn hcap hb8 hc hl fun h' a q1 q2 q3 q4 _ => k h' a q1 q2 q3 q4
theorem own_cast {idx : Nat} {K : String} {a : Addr} (w : (Jvm.Cond.classLink y.cls idx K).before a0 Z = true) (F : Ins Z h a K true) (hd : decode bytes pc = .ok (.checkcast idx, 3)) (hp : pc + 3 = pc') (k : own_W l Z y bytes ml ret R n0 Q h cells slots pc' Ls (.ref a :: st)) : own_W l Z y bytes ml ret R n0 Q h cells slots pc Ls (.ref a :: st) := by
  intro p e s m args below meth c T locs hx hZ hown hby hml hret hlk hnm hce hsl X eT N
  subst hp
  obtain ⟨T', X', e', st'⟩ := castY X hx hZ hown w eT F (g := mkF m pc Ls (.ref a :: st)) rfl rfl (hb hby hd)
  obtain ⟨s₂, o, h1, h2⟩ := k p e s m args below meth c T' locs hx hZ hown hby hml hret hlk hnm hce hsl X' e' N
  exact ⟨s₂, o, st' _ h1, h2⟩
theorem own_clone {ad : String} {idx W cap : Nat} {a : Addr} {ty : FieldType} {vs : List Value} (w1 : (Jvm.Cond.methodLink y.cls idx ⟨ad, "clone", "()Ljava/lang/Object;"⟩).before a0 Z = true) (w2 : (Jvm.Cond.sameMethod ad "java/lang/Object" "clone" "()Ljava/lang/Object;").before a0 Z = true) (w3 : (Jvm.Cond.native ⟨"java/lang/Object", "clone", "()Ljava/lang/Object;"⟩).before a0 Z = true)
    (w4 : (Jvm.Cond.instanceMethod ⟨"java/lang/Object", "clone", "()Ljava/lang/Object;"⟩).before a0 Z = true) (w5 : (Jvm.Cond.selects ad ⟨ad, "clone", "()Ljava/lang/Object;"⟩ ⟨"java/lang/Object", "clone", "()Ljava/lang/Object;"⟩).before a0 Z = true) (w6 : (Jvm.Cond.castable ad "java/lang/Cloneable").before a0 Z = true)
    (A : own_A Z h a ty vs) (E : Exa Z h a ad) (hd : decode bytes pc = .ok (.invokevirtual idx, 3)) (hp : pc + 3 = pc') (hsz : Ls.size = ml) (hf : 1 ≤ R.frames) (hW : (st.map fun v => v.category).sum ≤ W) (hl : W + 14 ≤ R.locals) (hcap : vs.length ≤ cap) (hc : cells + 1 ≤ R.cells) (hsl' : slots + cap ≤ R.slots)
    (k : ∀ (h' : Heap) (b : Addr), h.size ≤ b → b < h'.size → Ext h h' → own_A Z h' b ty vs → Exa Z h' b ad → own_W l Z y bytes ml ret R n0 Q h' (cells + 1) (slots + cap) pc' Ls (.ref b :: st)) : own_W l Z y bytes ml ret R n0 Q h cells slots pc Ls (.ref a :: st) := by
  intro p e s m args below meth c T locs hx hZ hown hby hml hret hlk hnm hce hsl X eT N
  subst hp
  obtain ⟨cl, A, q, hlen, hft⟩ := A
  have F : FitC Z cl := fun i v hv => by
    obtain ⟨-, k, hk, comp, hkind⟩ := A.2.1
    have e1 : Z.slotType? cl.cls .none i = some ty := by simp [State.slotType?, hk, hkind]
    have mem : v ∈ vs := by rw [← q]; rw [← Array.getElem?_toList] at hv; exact List.mem_of_getElem? hv
    simpa [State.fitsSlot, e1] using hft v mem
  obtain ⟨T', h', X', e', E', A', E2, st'⟩ := cloneA X hx hZ hown w1 w2 w3 w4 w5 w6 eT A E F (g := mkF m pc Ls (.ref a :: st)) rfl (by rw [hml]; exact hsz) rfl (hb hby hd) hf (W := W) (by show 2 * 0 + _ ≤ _; omega) hl (cap := cap) (by rw [own_size q]; exact hcap) hc hsl'
  obtain ⟨s₂, o, h1, h2⟩ := k h' h.size (Nat.le_refl _) A'.lt E' ⟨_, A', q, hlen, hft⟩ E2 p e s m args below meth c T' locs hx hZ hown hby hml hret hlk hnm hc hsl' X' e' N
  exact ⟨s₂, o, st' _ h1, h2⟩
theorem own_getD {α : Type} (l : List α) (d : α) {i : Nat} (h : i < l.length) : l.getD i d = l[i] := by
  rw [List.getD_eq_getElem?_getD, List.getElem?_eq_getElem h]; rfl
theorem own_len32 {n : Nat} (h : n < 2 ^ 31) : n.toInt32.toNatClampNeg = n ∧ ¬ n.toInt32 < 0 := by
  have e := len_toInt h
  have z : (0 : Int32).toInt = 0 := rfl
  exact ⟨by rw [Int32.toNatClampNeg, e]; rfl, by rw [Int32.lt_iff_toInt_lt, e, z]; omega⟩
theorem own_A.arv {a : Addr} {ty : FieldType} {vs : List Value} (A : own_A Z h a ty vs) (d : Value) : ∃ k, Arv Z h a k ty vs.length.toInt32 vs d := by
  obtain ⟨c, A, q, hl, hft⟩ := A
  have e := own_len32 hl
  refine ⟨c.cls, c, A, rfl, by rw [e.1]; exact own_size q, e.2, fun k hk => ?_, fun k hk => ?_⟩
  · rw [own_size q] at hk
    refine own_get q ?_
    rw [own_getD _ _ hk]; exact List.getElem?_eq_getElem hk
  · rw [own_size q] at hk
    rw [own_getD _ _ hk]; exact hft _ (List.getElem_mem hk)
theorem own_A.ofArv {a : Addr} {ty : FieldType} {vs : List Value} {k : ClassId} {z : Int32} {d : Value} (A : Arv Z h a k ty z vs d) (hz : z.toNatClampNeg = vs.length) (hl : vs.length < 2 ^ 31) : own_A Z h a ty vs := by
  obtain ⟨c, A, -, hs, -, H, G⟩ := A
  have e : c.slots.toList = vs := by
    apply List.ext_getElem?
    intro i
    by_cases hi : i < vs.length
    · rw [Array.getElem?_toList, H i (by omega), own_getD _ _ hi, List.getElem?_eq_getElem hi]
    · rw [List.getElem?_eq_none (by rw [Array.length_toList]; omega), List.getElem?_eq_none (by omega)]
  refine ⟨c, A, e, hl, fun v hv => ?_⟩
  obtain ⟨i, hi, rfl⟩ := List.mem_iff_getElem.mp hv
  have := G i (by omega)
  rwa [own_getD _ _ hi] at this
theorem own_slice (vs : List Value) (d : Value) (p n : Nat) (h : p + n ≤ vs.length) : (vs.drop p).take n = (List.range n).map fun i => vs.getD (p + i) d := by
  apply List.ext_getElem
  · simp; omega
  · intro i h1 h2
    simp only [List.length_map, List.length_range] at h2
    simp [List.getD_eq_getElem?_getD, show p + i < vs.length by omega]
theorem own_acopy {idx W : Nat} {a b : Addr} {ty : FieldType} {vs vd : List Value} {sp dp nn : Int32} (w1 : (Jvm.Cond.methodLink y.cls idx Jvm.Stand.acN).before a0 Z = true) (w2 : (Jvm.Cond.native Jvm.Stand.acN).before a0 Z = true) (w3 : (Jvm.Cond.static Jvm.Stand.acN).before a0 Z = true) (w4 : (Jvm.Cond.initialized "java/lang/System").before a0 Z = true)
    (A : own_A Z h a ty vs) (B : own_A Z h b ty vd) (hty : refKind ty = false) (h1 : ¬ sp < 0) (h2 : ¬ dp < 0) (h3 : ¬ nn < 0) (h4 : sp.toNatClampNeg + nn.toNatClampNeg ≤ vs.length) (h5 : dp.toNatClampNeg + nn.toNatClampNeg ≤ vd.length) (ge : n0 ≤ b)
    (hd : decode bytes pc = .ok (.invokestatic idx, 3)) (hp : pc + 3 = pc') (hsz : Ls.size = ml) (hf : 1 ≤ R.frames) (hW : (st.map fun v => v.category).sum ≤ W) (hlo : W + (nativeFrameWords "java/lang/System" "arraycopy" 5 + 11) ≤ R.locals)
    (k : ∀ h', Keep h h' [b] → own_A Z h' b ty (vd.take dp.toNatClampNeg ++ (vs.drop sp.toNatClampNeg).take nn.toNatClampNeg ++ vd.drop (dp.toNatClampNeg + nn.toNatClampNeg)) → own_W l Z y bytes ml ret R n0 Q h' cells slots pc' Ls st) : own_W l Z y bytes ml ret R n0 Q h cells slots pc Ls (.int nn :: .int dp :: .ref b :: .int sp :: .ref a :: st) := by
  intro p e s m args below meth c T locs hx hZ hown hby hml hret hlk hnm hce hsl X eT N
  subst hp
  have hlv : vs.length < 2 ^ 31 := by obtain ⟨_, _, _, q, _⟩ := A; exact q
  have hld : vd.length < 2 ^ 31 := by obtain ⟨_, _, _, q, _⟩ := B; exact q
  obtain ⟨k1, A1⟩ := A.arv .null
  obtain ⟨k2, B1⟩ := B.arv .null
  have e1 := own_len32 hlv
  have e2 := own_len32 hld
  obtain ⟨T', h', L, X', e', N', K', B', st'⟩ := cpA X hx hZ hown w1 w2 w3 w4 eT A1 B1 (Or.inl ⟨rfl, hty⟩) h1 h2 h3 (by rw [e1.1]; exact h4) (by rw [e2.1]; exact h5) (own_slice vs .null _ _ h4) h5 N ge (g := mkF m pc Ls (.int nn :: .int dp :: .ref b :: .int sp :: .ref a :: st)) rfl (by rw [hml]; exact hsz) rfl (hb hby hd) hf (W := W) (by show 2 * 0 + _ ≤ _; omega) hlo
  have hlen : (vd.take dp.toNatClampNeg ++ (vs.drop sp.toNatClampNeg).take nn.toNatClampNeg ++ vd.drop (dp.toNatClampNeg + nn.toNatClampNeg)).length = vd.length := by
    simp only [List.length_append, List.length_take, List.length_drop]; omega
  obtain ⟨s₂, o, q1, q2⟩ := k h' K' (own_A.ofArv B' (by rw [e2.1, hlen]) (by rw [hlen]; exact hld)) p e s m args below meth c T' L hx hZ hown hby hml hret hlk hnm hce hsl X' e' N'
  exact ⟨s₂, o, st' _ q1, q2⟩
theorem own_met {z : MethodName} {rm : Room} {argsL : List Value} {Lc : Array Slot} (hC : own_W l Z z bytes ml ret rm n0 Q h 0 0 0 Lc []) (pn : plainFor z = true) (hent : Jvm.Sym.laidSlots argsL ++ List.replicate (ml - (Jvm.Sym.laidSlots argsL).length) .unset = Lc.toList) (ws : List Jvm.Cond) :
    MetFree l z (head1 (Jvm.Cond.code z bytes ml ret :: ws) rm) (fun a U => a = argsL.toArray ∧ Z.Warmed39 U.vm ∧ U.heap = h) (fun _ _ _ _ _ => True) (fun _ U o U' => ∃ v L, o = .returned v ∧ (Q v U'.heap ∧ Fr n0 L) ∧ FrameEnd U o U' L rm.cells rm.slots) := by
  refine MetFree.of_bodySF pn hisR ?_
  intro p e s m args below meth c s₁ Bd hml0 hP hK
  obtain ⟨rfl, hZ, hh⟩ := hP
  obtain ⟨s₂, o, h1, h2, h3, h4⟩ := hC p e s m _ below meth c s₁ [] Bd.exec hZ (findClass_of_methodNamed Bd.named) Bd.bytes hml0 Bd.returns Bd.notSynchronized (name_of_methodNamed Bd.named Bd.method).1 (Nat.zero_le _) (Nat.zero_le _) (Stand.of_body Bd) (by rw [← hh, Bd.state]; rfl) (Fr.nil n0)
  exact ⟨s₂, o, (XT.entry (by simpa using hent)).trans h1, h2, h3, h4⟩
theorem own_static {z : MethodName} {bytes' : ByteArray} {ml' : Nat} {ret' : Option FieldType} {rm : Room} {Qc : Option Value → Heap → Prop} {Lc : Array Slot} {argsL rest : List Value} {ps : List FieldType} {rt : Option FieldType} {idx W : Nat} (hC : own_W l Z z bytes' ml' ret' rm n0 Qc h 0 0 0 Lc []) (w1 : (Jvm.Cond.methodLink y.cls idx z).before a0 Z = true) (w2 : (Jvm.Cond.static z).before a0 Z = true) (w3 : (Jvm.Cond.initialized z.cls).before a0 Z = true) (w4 : (Jvm.Cond.code z bytes' ml' ret').before a0 Z = true) (pn : plainFor z = true) (hy : z.cls ≠ "java/lang/invoke/MethodHandle" ∧ z.cls ≠ "java/lang/invoke/VarHandle") (pd : parseMethodDescriptor z.desc = some ⟨ps, rt⟩) (hlen : argsL.length = ps.length)
    (hst : st = argsL.reverse ++ rest) (hent : Jvm.Sym.laidSlots argsL ++ List.replicate (ml' - (Jvm.Sym.laidSlots argsL).length) .unset = Lc.toList) (hW : (rest.map fun v => v.category).sum ≤ W) (hfr : rm.frames + 1 ≤ R.frames) (hlo : W + (ml' + 11) + rm.locals ≤ R.locals) (hce' : cells + rm.cells ≤ R.cells) (hsl' : slots + rm.slots ≤ R.slots) (hsz : Ls.size = ml) (hd : decode bytes pc = .ok (.invokestatic idx, 3)) (hp : pc + 3 = pc') (k : ∀ v h', Qc v h' → own_W l Z y bytes ml ret R n0 Q h' (cells + rm.cells) (slots + rm.slots) pc' Ls (v.toList ++ rest)) : own_W l Z y bytes ml ret R n0 Q h cells slots pc Ls st := by
  intro p e s m args below meth c T locs hx hZ hown hby hml hret hlk hnm hce hsl X eT N
  subst hp
  obtain ⟨v, vm₁, ⟨T1, L1, k1, n1⟩, -, X1, ⟨Lc1, hQ1, l1, y1, z1⟩, st1⟩ := Jvm.LawKit.callS X hx (y := z) hown (mvT hZ w1) (mvT hZ w2) (mvT hZ w3) (mvT hZ w4) hy (backOf (W := W) (Q := fun v h L => Qc v h ∧ Fr n0 L) (own_met hC pn hent []) hZ w4 w3 hfr hlo) (g := mkF m pc Ls st) rfl (by rw [hml]; exact hsz) (argsL := argsL) (rest := rest) (lenOf pd hlen) hst (by show 2 * 0 + _ ≤ _; omega) (hb hby hd) (fun _ _ => ⟨rfl, eT, hce', hsl'⟩)
  dsimp only [Pt.U, Pt.locs, Pt.cells, Pt.slots] at X1 l1 y1 z1 st1 hQ1
  subst l1 y1 z1
  obtain ⟨s₂, o, h1, h2⟩ := k v T1.heap hQ1.1 p e s m args below meth c T1 _ hx hZ hown hby hml hret hlk hnm hce' hsl' X1 rfl (Fr.app N hQ1.2)
  exact ⟨s₂, o, st1 _ h1, h2⟩
theorem own_special {z : MethodName} {bytes' : ByteArray} {ml' : Nat} {ret' : Option FieldType} {rm : Room} {Qc : Option Value → Heap → Prop} {Lc : Array Slot} {argsL rest : List Value} {ps : List FieldType} {rt : Option FieldType} {idx W : Nat} {a : Addr} (hC : own_W l Z z bytes' ml' none rm n0 Qc h 0 0 0 Lc []) (w1 : (Jvm.Cond.methodLink y.cls idx z).before a0 Z = true) (w2 : (Jvm.Cond.instanceMethod z).before a0 Z = true) (w3 : (Jvm.Cond.initialized z.cls).before a0 Z = true) (w4 : (Jvm.Cond.code z bytes' ml' none).before a0 Z = true) (hzn : z.name = "<init>") (pn : plainFor z = true) (hy : z.cls ≠ "java/lang/invoke/MethodHandle" ∧ z.cls ≠ "java/lang/invoke/VarHandle") (pd : parseMethodDescriptor z.desc = some ⟨ps, rt⟩) (hlen : argsL.length = ps.length)
    (hst : st = argsL.reverse ++ .ref a :: rest) (hent : Jvm.Sym.laidSlots (.ref a :: argsL) ++ List.replicate (ml' - (Jvm.Sym.laidSlots (.ref a :: argsL)).length) .unset = Lc.toList) (hW : (rest.map fun v => v.category).sum ≤ W) (hfr : rm.frames + 1 ≤ R.frames) (hlo : W + (ml' + 11) + rm.locals ≤ R.locals) (hce' : cells + rm.cells ≤ R.cells) (hsl' : slots + rm.slots ≤ R.slots) (hsz : Ls.size = ml) (hd : decode bytes pc = .ok (.invokespecial idx, 3)) (hp : pc + 3 = pc') (k : ∀ v h', Qc v h' → own_W l Z y bytes ml ret R n0 Q h' (cells + rm.cells) (slots + rm.slots) pc' Ls (v.toList ++ rest)) : own_W l Z y bytes ml ret R n0 Q h cells slots pc Ls st := by
  intro p e s m args below meth c T locs hx hZ hown hby hml hret hlk hnm hce hsl X eT N
  subst hp
  obtain ⟨v, vm₁, ⟨T1, L1, k1, n1⟩, -, X1, ⟨Lc1, hQ1, l1, y1, z1⟩, st1⟩ := X.specialBack hx (y := z) hzn hown (mvT hZ w1) (mvT hZ w2) (mvT hZ w4) hy (backOf (W := W) (Q := fun v h L => Qc v h ∧ Fr n0 L) (own_met hC pn hent []) hZ w4 w3 hfr hlo) (g := mkF m pc Ls st) rfl (by rw [hml]; exact hsz) (Steps.refl _) (a := a) (argsL := argsL) (rest := rest) (lenOf pd hlen) hst (by show 2 * 0 + _ ≤ _; omega) (hb hby hd) (fun _ _ => ⟨rfl, eT, hce', hsl'⟩)
  dsimp only [Pt.U, Pt.locs, Pt.cells, Pt.slots] at X1 l1 y1 z1 st1 hQ1
  subst l1 y1 z1
  obtain ⟨s₂, o, h1, h2⟩ := k v T1.heap hQ1.1 p e s m args below meth c T1 _ hx hZ hown hby hml hret hlk hnm hce' hsl' X1 rfl (Fr.app N hQ1.2)
  exact ⟨s₂, o, st1.trans h1, h2⟩
theorem own_virtual {z : MethodName} {bytes' : ByteArray} {ml' : Nat} {ret' : Option FieldType} {rm : Room} {Qc : Option Value → Heap → Prop} {Lc : Array Slot} {argsL rest : List Value} {ps : List FieldType} {rt : Option FieldType} {idx W : Nat} {a : Addr} {C : String} (hC : own_W l Z z bytes' ml' ret' rm n0 Qc h 0 0 0 Lc []) (E : Exa Z h a C) (w1 : (Jvm.Cond.methodLink y.cls idx z).before a0 Z = true) (w2 : (Jvm.Cond.declares z).before a0 Z = true) (w5 : (Jvm.Cond.selects C z z).before a0 Z = true) (w6 : (Jvm.Cond.instanceMethod z).before a0 Z = true) (w3 : (Jvm.Cond.initialized z.cls).before a0 Z = true) (w4 : (Jvm.Cond.code z bytes' ml' ret').before a0 Z = true) (pn : plainFor z = true) (hy : z.cls ≠ "java/lang/invoke/MethodHandle" ∧ z.cls ≠ "java/lang/invoke/VarHandle") (pd : parseMethodDescriptor z.desc = some ⟨ps, rt⟩) (hlen : argsL.length = ps.length)
    (hst : st = argsL.reverse ++ .ref a :: rest) (hent : Jvm.Sym.laidSlots (.ref a :: argsL) ++ List.replicate (ml' - (Jvm.Sym.laidSlots (.ref a :: argsL)).length) .unset = Lc.toList) (hW : (rest.map fun v => v.category).sum ≤ W) (hfr : rm.frames + 1 ≤ R.frames) (hlo : W + (ml' + 11) + rm.locals ≤ R.locals) (hce' : cells + rm.cells ≤ R.cells) (hsl' : slots + rm.slots ≤ R.slots) (hsz : Ls.size = ml) (hd : decode bytes pc = .ok (.invokevirtual idx, 3)) (hp : pc + 3 = pc') (k : ∀ v h', Qc v h' → own_W l Z y bytes ml ret R n0 Q h' (cells + rm.cells) (slots + rm.slots) pc' Ls (v.toList ++ rest)) : own_W l Z y bytes ml ret R n0 Q h cells slots pc Ls st := by
  intro p e s m args below meth c T locs hx hZ hown hby hml hret hlk hnm hce hsl X eT N
  subst hp
  obtain ⟨cq, kq, qa, qb, qc⟩ := isOf hZ eT E
  obtain ⟨v, vm₁, ⟨T1, L1, k1, n1⟩, -, X1, ⟨Lc1, hQ1, l1, y1, z1⟩, st1⟩ := X.virtualBack hx (y := z) (z := z) hown (mvT hZ w1) (mvT hZ w2) (notFace_of_selects (args := #[]) (mvT hZ w5)) (mvT hZ w5) (mvT hZ w6) hy (backOf (W := W) (Q := fun v h L => Qc v h ∧ Fr n0 L) (own_met hC pn hent []) hZ w4 w3 hfr hlo) qa qc (g := mkF m pc Ls st) rfl (by rw [hml]; exact hsz) (Steps.refl _) (argsL := argsL) (rest := rest) (lenOf pd hlen) hst (by show 2 * 0 + _ ≤ _; omega) (hb hby hd) (fun _ _ => ⟨rfl, eT, hce', hsl'⟩)
  dsimp only [Pt.U, Pt.locs, Pt.cells, Pt.slots] at X1 l1 y1 z1 st1 hQ1
  subst l1 y1 z1
  obtain ⟨s₂, o, h1, h2⟩ := k v T1.heap hQ1.1 p e s m args below meth c T1 _ hx hZ hown hby hml hret hlk hnm hce' hsl' X1 rfl (Fr.app N hQ1.2)
  exact ⟨s₂, o, st1.trans h1, h2⟩
theorem own_private {z : MethodName} {bytes' : ByteArray} {ml' : Nat} {ret' : Option FieldType} {rm : Room} {Qc : Option Value → Heap → Prop} {Lc : Array Slot} {argsL rest : List Value} {ps : List FieldType} {rt : Option FieldType} {idx W : Nat} {a : Addr} {C : String} {kk : Nat} (hC : own_W l Z z bytes' ml' ret' rm n0 Qc h 0 0 0 Lc []) (E : Exa Z h a C) (w1 : (Jvm.Cond.methodLink y.cls idx z).before a0 Z = true) (w6 : (Jvm.Cond.instanceMethod z).before a0 Z = true) (wp : (Jvm.Cond.privateMethod z).before a0 Z = true) (wi : (Jvm.Cond.instantiable z.cls kk).before a0 Z = true) (w3 : (Jvm.Cond.initialized z.cls).before a0 Z = true) (w4 : (Jvm.Cond.code z bytes' ml' ret').before a0 Z = true) (pn : plainFor z = true) (hy : z.cls ≠ "java/lang/invoke/MethodHandle" ∧ z.cls ≠ "java/lang/invoke/VarHandle") (pd : parseMethodDescriptor z.desc = some ⟨ps, rt⟩) (hlen : argsL.length = ps.length)
    (hst : st = argsL.reverse ++ .ref a :: rest) (hent : Jvm.Sym.laidSlots (.ref a :: argsL) ++ List.replicate (ml' - (Jvm.Sym.laidSlots (.ref a :: argsL)).length) .unset = Lc.toList) (hW : (rest.map fun v => v.category).sum ≤ W) (hfr : rm.frames + 1 ≤ R.frames) (hlo : W + (ml' + 11) + rm.locals ≤ R.locals) (hce' : cells + rm.cells ≤ R.cells) (hsl' : slots + rm.slots ≤ R.slots) (hsz : Ls.size = ml) (hd : decode bytes pc = .ok (.invokevirtual idx, 3)) (hp : pc + 3 = pc') (k : ∀ v h', Qc v h' → own_W l Z y bytes ml ret R n0 Q h' (cells + rm.cells) (slots + rm.slots) pc' Ls (v.toList ++ rest)) : own_W l Z y bytes ml ret R n0 Q h cells slots pc Ls st := by
  intro p e s m args below meth c T locs hx hZ hown hby hml hret hlk hnm hce hsl X eT N
  subst hp
  obtain ⟨c2, k2, i1, i2, i3, i4, -⟩ := Cond.instantiable_spec (mvT (args := args) hZ wi)
  have hpr := Cond.privateMethod_at (mvP (args := #[]) hZ wp)
  have hsel := Jvm.Stand.selects_self_of_private (args := args) i1 i2 (Bool.or_eq_false_iff.mp i4).1 hpr (mvT hZ w6) hy
  obtain ⟨cell, qc, qo⟩ := E.cell
  obtain ⟨v, vm₁, ⟨T1, L1, k1, n1⟩, -, X1, ⟨Lc1, hQ1, l1, y1, z1⟩, st1⟩ := X.privateBack hx (y := z) hown (mvT hZ w1) (mvT hZ w6) hsel hpr (mvT hZ w4) hy (backOf (W := W) (Q := fun v h L => Qc v h ∧ Fr n0 L) (own_met hC pn hent []) hZ w4 w3 hfr hlo) (g := mkF m pc Ls st) rfl (by rw [hml]; exact hsz) (Steps.refl _) (a := a) (by rw [eT]; exact qc) qo (argsL := argsL) (rest := rest) (lenOf pd hlen) hst (by show 2 * 0 + _ ≤ _; omega) (hb hby hd) (fun _ _ => ⟨rfl, eT, hce', hsl'⟩)
  dsimp only [Pt.U, Pt.locs, Pt.cells, Pt.slots] at X1 l1 y1 z1 st1 hQ1
  subst l1 y1 z1
  obtain ⟨s₂, o, h1, h2⟩ := k v T1.heap hQ1.1 p e s m args below meth c T1 _ hx hZ hown hby hml hret hlk hnm hce' hsl' X1 rfl (Fr.app N hQ1.2)
  exact ⟨s₂, o, st1.trans h1, h2⟩
theorem own_refBack {p : Program} {e : Env} {s : State} {m : MethodId} {args : Array Value} {below : List Frame} {meth : Method} {c : Code} {T : State} {locs : List Loc} (X : Stand p l e R s m args below meth c T locs cells slots) (hexec : p.tables.exec = Jvm.exec) (hZ : Z.Warmed39 s.vm) {own : String} {index : Nat} {z : MethodName} (hzn : z.name = "<init>")
    (hown : s.vm.findClass own = some m.cls) (w1 : (Jvm.Cond.methodRef own index z).before a0 Z = true) (w2 : (Jvm.Cond.instanceMethod z).before a0 Z = true) {bytes' : ByteArray} {maxL : Nat} (w4 : (Jvm.Cond.code z bytes' maxL none).before a0 Z = true)
    (hy : z.cls ≠ "java/lang/invoke/MethodHandle" ∧ z.cls ≠ "java/lang/invoke/VarHandle") {W : Nat} {Pre : Pt → Array Value → Prop} {Post : Pt → Array Value → Option Value → Pt → Prop} (hK : Back l R p e below s args z 3 W Pre Post)
    {g : JFrame} (hg : g.method = m) (hsize : g.locals.size = c.maxLocals) {a : Addr} {argsL rest : List Value} (hlen : ∀ sig, parseMethodDescriptor z.desc = some sig → argsL.length = sig.parameters.length) (hstack : g.stack = argsL.reverse ++ .ref a :: rest) (hW : 2 * g.monitorRoom + (rest.map fun v => v.category).sum ≤ W)
    (hdg : decode c.code g.pc = .ok (.invokespecial index, 3)) (hpre : Pre ⟨T, locs, cells, slots⟩ (.ref a :: argsL).toArray) :
    ∃ (v : Option Value) (B : Pt), Stand p l e R s m args below meth c B.U B.locs B.cells B.slots ∧ Post ⟨T, locs, cells, slots⟩ (.ref a :: argsL).toArray v B ∧ Steps p.tables e below (T.setTop g) (B.U.setTop { g with pc := g.pc + 3, stack := v.toList ++ rest }) := by
  obtain ⟨obj, methO, hnO, hmO, hstO, habO⟩ := Cond.instanceMethod_spec (mvT (args := args) hZ w2)
  obtain ⟨methO', cO, hmO', hcO, -, -, -, -, -, hsigO⟩ := Cond.code_spec hnO (mvT (args := args) hZ w4)
  cases hmO.symm.trans hmO'
  obtain ⟨kO, hkO, hnameO⟩ := className_of_methodNamed hnO
  obtain ⟨hnameMO, hdescO⟩ := name_of_methodNamed hnO hmO
  have hU : Z.Warmed39 T.vm := wtrans hZ X.warmed
  obtain ⟨objZ, methZ, hnZ, -⟩ := Cond.instanceMethod_spec w2
  have hT := Cond.methodRef_warmed39 hU hnZ hy w1
  have hownT : (Z.setVm T.vm).vm.findClass own = some m.cls := by show T.vm.findClass own = _; rw [X.warmed.alike.findClass]; exact hown
  obtain ⟨m', c', f1, f2, f3, f4⟩ := Cond.methodRef_named (s := Z.setVm T.vm) e hownT hT
  have hnT : T.methodNamed? z = some obj := X.named hnO
  have hn' : (Z.setVm T.vm).methodNamed? z = some obj := hnT
  cases (State.methodFound?_of_named hn' hy).symm.trans f1
  cases (findClass_of_methodNamed hn').symm.trans f3
  obtain ⟨kO', hkT, -⟩ := X.warmed.alike.2.2 _ _ hkO
  have hmT : T.vm.method? obj = some methO := by rw [X.warmed.alike.method?]; exact hmO
  have hfound : lookupSpecial T.vm obj.cls "<init>" methO.desc = .method obj := by rw [hdescO, ← hzn]; exact lookupSpecial_of_named hnT hmT hstO
  have hstep : ∀ target, (∀ acts, Steps p.tables e below (doInvoke e (T.setTop { g with stack := rest }) acts obj (.ref a :: argsL).toArray).1 target) → Steps p.tables e below (T.setTop g) target := by
    intro target hrest
    subst hg
    jvm_step X.here [hexec, hdg, invokespecial.wp_init (e := e) (s := T) (k := kO') (meth := methO) (m := obj) (a := a) (args := argsL) (rest := rest) (f := g) X.here.top f4 f2 hkT hmT (by rw [hnameMO]; exact hzn) hstO habO hfound (hlen _ hsigO) hstack]
    exact hrest
  obtain ⟨v, B, X', hpost, hsteps⟩ := hK m meth c ⟨T, locs, cells, slots⟩ { g with stack := rest } (.invokespecial index) obj (.ref a :: argsL).toArray X hg hsize hdg hW hnT hpre
  exact ⟨v, B, X', hpost, hstep _ fun acts => by rw [doInvoke_state]; exact hsteps⟩
theorem own_specialRef {z : MethodName} {bytes' : ByteArray} {ml' : Nat} {ret' : Option FieldType} {rm : Room} {Qc : Option Value → Heap → Prop} {Lc : Array Slot} {argsL rest : List Value} {ps : List FieldType} {rt : Option FieldType} {idx W : Nat} {a : Addr} (hC : own_W l Z z bytes' ml' none rm n0 Qc h 0 0 0 Lc []) (w1 : (Jvm.Cond.methodRef y.cls idx z).before a0 Z = true) (w2 : (Jvm.Cond.instanceMethod z).before a0 Z = true) (w3 : (Jvm.Cond.initialized z.cls).before a0 Z = true) (w4 : (Jvm.Cond.code z bytes' ml' none).before a0 Z = true) (hzn : z.name = "<init>") (pn : plainFor z = true) (hy : z.cls ≠ "java/lang/invoke/MethodHandle" ∧ z.cls ≠ "java/lang/invoke/VarHandle") (pd : parseMethodDescriptor z.desc = some ⟨ps, rt⟩) (hlen : argsL.length = ps.length)
    (hst : st = argsL.reverse ++ .ref a :: rest) (hent : Jvm.Sym.laidSlots (.ref a :: argsL) ++ List.replicate (ml' - (Jvm.Sym.laidSlots (.ref a :: argsL)).length) .unset = Lc.toList) (hW : (rest.map fun v => v.category).sum ≤ W) (hfr : rm.frames + 1 ≤ R.frames) (hlo : W + (ml' + 11) + rm.locals ≤ R.locals) (hce' : cells + rm.cells ≤ R.cells) (hsl' : slots + rm.slots ≤ R.slots) (hsz : Ls.size = ml) (hd : decode bytes pc = .ok (.invokespecial idx, 3)) (hp : pc + 3 = pc') (k : ∀ v h', Qc v h' → own_W l Z y bytes ml ret R n0 Q h' (cells + rm.cells) (slots + rm.slots) pc' Ls (v.toList ++ rest)) : own_W l Z y bytes ml ret R n0 Q h cells slots pc Ls st := by
  intro p e s m args below meth c T locs hx hZ hown hby hml hret hlk hnm hce hsl X eT N
  subst hp
  obtain ⟨v, ⟨T1, L1, k1, n1⟩, X1, ⟨Lc1, hQ1, l1, y1, z1⟩, st1⟩ := own_refBack X hx hZ hzn hown w1 w2 w4 hy (backOf (W := W) (Q := fun v h L => Qc v h ∧ Fr n0 L) (own_met hC pn hent []) hZ w4 w3 hfr hlo) (g := mkF m pc Ls st) rfl (by rw [hml]; exact hsz) (a := a) (argsL := argsL) (rest := rest) (lenOf pd hlen) hst (by show 2 * 0 + _ ≤ _; omega) (hb hby hd) ⟨rfl, eT, hce', hsl'⟩
  dsimp only [Pt.U, Pt.locs, Pt.cells, Pt.slots] at X1 l1 y1 z1 st1 hQ1
  subst l1 y1 z1
  obtain ⟨s₂, o, h1, h2⟩ := k v T1.heap hQ1.1 p e s m args below meth c T1 _ hx hZ hown hby hml hret hlk hnm hce' hsl' X1 rfl (Fr.app N hQ1.2)
  exact ⟨s₂, o, st1.trans h1, h2⟩
end OwnW
-- LAYER END
theorem d1_0 : decode method_2_code 0 = .ok (.iload_n 0, 1) := by decide +kernel
theorem d1_1 : decode method_2_code 1 = .ok (.newarray .byte, 2) := by decide +kernel
theorem d1_3 : decode method_2_code 3 = .ok (.astore_n 3, 1) := by decide +kernel
theorem d1_4 : decode method_2_code 4 = .ok (.iload_n 0, 1) := by decide +kernel
theorem d1_5 : decode method_2_code 5 = .ok (.ifCond .le 9, 3) := by decide +kernel
theorem d1_8 : decode method_2_code 8 = .ok (.aload_n 3, 1) := by decide +kernel
theorem d1_9 : decode method_2_code 9 = .ok (.iconst 0, 1) := by decide +kernel
theorem d1_10 : decode method_2_code 10 = .ok (.lload_n 1, 1) := by decide +kernel
theorem d1_11 : decode method_2_code 11 = .ok (.l2i, 1) := by decide +kernel
theorem d1_12 : decode method_2_code 12 = .ok (.i2b, 1) := by decide +kernel
theorem d1_13 : decode method_2_code 13 = .ok (.bastore, 1) := by decide +kernel
theorem d1_14 : decode method_2_code 14 = .ok (.iload_n 0, 1) := by decide +kernel
theorem d1_15 : decode method_2_code 15 = .ok (.iconst 1, 1) := by decide +kernel
theorem d1_16 : decode method_2_code 16 = .ok (.if_icmp .le 12, 3) := by decide +kernel
theorem d1_19 : decode method_2_code 19 = .ok (.aload_n 3, 1) := by decide +kernel
theorem d1_20 : decode method_2_code 20 = .ok (.iconst 1, 1) := by decide +kernel
theorem d1_21 : decode method_2_code 21 = .ok (.lload_n 1, 1) := by decide +kernel
theorem d1_22 : decode method_2_code 22 = .ok (.bipush 8, 2) := by decide +kernel
theorem d1_24 : decode method_2_code 24 = .ok (.lushr, 1) := by decide +kernel
theorem d1_25 : decode method_2_code 25 = .ok (.l2i, 1) := by decide +kernel
theorem d1_26 : decode method_2_code 26 = .ok (.i2b, 1) := by decide +kernel
theorem d1_27 : decode method_2_code 27 = .ok (.bastore, 1) := by decide +kernel
theorem d1_28 : decode method_2_code 28 = .ok (.iload_n 0, 1) := by decide +kernel
theorem d1_29 : decode method_2_code 29 = .ok (.iconst 2, 1) := by decide +kernel
theorem d1_30 : decode method_2_code 30 = .ok (.if_icmp .le 12, 3) := by decide +kernel
theorem d1_33 : decode method_2_code 33 = .ok (.aload_n 3, 1) := by decide +kernel
theorem d1_34 : decode method_2_code 34 = .ok (.iconst 2, 1) := by decide +kernel
theorem d1_35 : decode method_2_code 35 = .ok (.lload_n 1, 1) := by decide +kernel
theorem d1_36 : decode method_2_code 36 = .ok (.bipush 16, 2) := by decide +kernel
theorem d1_38 : decode method_2_code 38 = .ok (.lushr, 1) := by decide +kernel
theorem d1_39 : decode method_2_code 39 = .ok (.l2i, 1) := by decide +kernel
theorem d1_40 : decode method_2_code 40 = .ok (.i2b, 1) := by decide +kernel
theorem d1_41 : decode method_2_code 41 = .ok (.bastore, 1) := by decide +kernel
theorem d1_42 : decode method_2_code 42 = .ok (.iload_n 0, 1) := by decide +kernel
theorem d1_43 : decode method_2_code 43 = .ok (.iconst 3, 1) := by decide +kernel
theorem d1_44 : decode method_2_code 44 = .ok (.if_icmp .le 12, 3) := by decide +kernel
theorem d1_47 : decode method_2_code 47 = .ok (.aload_n 3, 1) := by decide +kernel
theorem d1_48 : decode method_2_code 48 = .ok (.iconst 3, 1) := by decide +kernel
theorem d1_49 : decode method_2_code 49 = .ok (.lload_n 1, 1) := by decide +kernel
theorem d1_50 : decode method_2_code 50 = .ok (.bipush 24, 2) := by decide +kernel
theorem d1_52 : decode method_2_code 52 = .ok (.lushr, 1) := by decide +kernel
theorem d1_53 : decode method_2_code 53 = .ok (.l2i, 1) := by decide +kernel
theorem d1_54 : decode method_2_code 54 = .ok (.i2b, 1) := by decide +kernel
theorem d1_55 : decode method_2_code 55 = .ok (.bastore, 1) := by decide +kernel
theorem d1_56 : decode method_2_code 56 = .ok (.iload_n 0, 1) := by decide +kernel
theorem d1_57 : decode method_2_code 57 = .ok (.iconst 4, 1) := by decide +kernel
theorem d1_58 : decode method_2_code 58 = .ok (.if_icmp .le 12, 3) := by decide +kernel
theorem d1_61 : decode method_2_code 61 = .ok (.aload_n 3, 1) := by decide +kernel
theorem d1_62 : decode method_2_code 62 = .ok (.iconst 4, 1) := by decide +kernel
theorem d1_63 : decode method_2_code 63 = .ok (.lload_n 1, 1) := by decide +kernel
theorem d1_64 : decode method_2_code 64 = .ok (.bipush 32, 2) := by decide +kernel
theorem d1_66 : decode method_2_code 66 = .ok (.lushr, 1) := by decide +kernel
theorem d1_67 : decode method_2_code 67 = .ok (.l2i, 1) := by decide +kernel
theorem d1_68 : decode method_2_code 68 = .ok (.i2b, 1) := by decide +kernel
theorem d1_69 : decode method_2_code 69 = .ok (.bastore, 1) := by decide +kernel
theorem d1_70 : decode method_2_code 70 = .ok (.iload_n 0, 1) := by decide +kernel
theorem d1_71 : decode method_2_code 71 = .ok (.iconst 5, 1) := by decide +kernel
theorem d1_72 : decode method_2_code 72 = .ok (.if_icmp .le 12, 3) := by decide +kernel
theorem d1_75 : decode method_2_code 75 = .ok (.aload_n 3, 1) := by decide +kernel
theorem d1_76 : decode method_2_code 76 = .ok (.iconst 5, 1) := by decide +kernel
theorem d1_77 : decode method_2_code 77 = .ok (.lload_n 1, 1) := by decide +kernel
theorem d1_78 : decode method_2_code 78 = .ok (.bipush 40, 2) := by decide +kernel
theorem d1_80 : decode method_2_code 80 = .ok (.lushr, 1) := by decide +kernel
theorem d1_81 : decode method_2_code 81 = .ok (.l2i, 1) := by decide +kernel
theorem d1_82 : decode method_2_code 82 = .ok (.i2b, 1) := by decide +kernel
theorem d1_83 : decode method_2_code 83 = .ok (.bastore, 1) := by decide +kernel
theorem d1_84 : decode method_2_code 84 = .ok (.iload_n 0, 1) := by decide +kernel
theorem d1_85 : decode method_2_code 85 = .ok (.bipush 6, 2) := by decide +kernel
theorem d1_87 : decode method_2_code 87 = .ok (.if_icmp .le 13, 3) := by decide +kernel
theorem d1_90 : decode method_2_code 90 = .ok (.aload_n 3, 1) := by decide +kernel
theorem d1_91 : decode method_2_code 91 = .ok (.bipush 6, 2) := by decide +kernel
theorem d1_93 : decode method_2_code 93 = .ok (.lload_n 1, 1) := by decide +kernel
theorem d1_94 : decode method_2_code 94 = .ok (.bipush 48, 2) := by decide +kernel
theorem d1_96 : decode method_2_code 96 = .ok (.lushr, 1) := by decide +kernel
theorem d1_97 : decode method_2_code 97 = .ok (.l2i, 1) := by decide +kernel
theorem d1_98 : decode method_2_code 98 = .ok (.i2b, 1) := by decide +kernel
theorem d1_99 : decode method_2_code 99 = .ok (.bastore, 1) := by decide +kernel
theorem d1_100 : decode method_2_code 100 = .ok (.aload_n 3, 1) := by decide +kernel
theorem d1_101 : decode method_2_code 101 = .ok (.areturn, 1) := by decide +kernel
theorem d2_0 : decode prog_9_method_2_code 0 = .ok (.new 8, 3) := by decide +kernel
theorem d2_3 : decode prog_9_method_2_code 3 = .ok (.dup, 1) := by decide +kernel
theorem d2_4 : decode prog_9_method_2_code 4 = .ok (.aload_n 0, 1) := by decide +kernel
theorem d2_5 : decode prog_9_method_2_code 5 = .ok (.iconst 0, 1) := by decide +kernel
theorem d2_6 : decode prog_9_method_2_code 6 = .ok (.aload_n 0, 1) := by decide +kernel
theorem d2_7 : decode prog_9_method_2_code 7 = .ok (.arraylength, 1) := by decide +kernel
theorem d2_8 : decode prog_9_method_2_code 8 = .ok (.invokespecial 20, 3) := by decide +kernel
theorem d2_11 : decode prog_9_method_2_code 11 = .ok (.areturn, 1) := by decide +kernel
theorem d3_0 : decode prog_9_method_1_code 0 = .ok (.aload_n 0, 1) := by decide +kernel
theorem d3_1 : decode prog_9_method_1_code 1 = .ok (.invokespecial 1, 3) := by decide +kernel
theorem d3_4 : decode prog_9_method_1_code 4 = .ok (.aload_n 0, 1) := by decide +kernel
theorem d3_5 : decode prog_9_method_1_code 5 = .ok (.aload_n 1, 1) := by decide +kernel
theorem d3_6 : decode prog_9_method_1_code 6 = .ok (.putfield 7, 3) := by decide +kernel
theorem d3_9 : decode prog_9_method_1_code 9 = .ok (.aload_n 0, 1) := by decide +kernel
theorem d3_10 : decode prog_9_method_1_code 10 = .ok (.iload_n 2, 1) := by decide +kernel
theorem d3_11 : decode prog_9_method_1_code 11 = .ok (.putfield 13, 3) := by decide +kernel
theorem d3_14 : decode prog_9_method_1_code 14 = .ok (.aload_n 0, 1) := by decide +kernel
theorem d3_15 : decode prog_9_method_1_code 15 = .ok (.iload_n 3, 1) := by decide +kernel
theorem d3_16 : decode prog_9_method_1_code 16 = .ok (.putfield 17, 3) := by decide +kernel
theorem d3_19 : decode prog_9_method_1_code 19 = .ok (.return_, 1) := by decide +kernel
theorem d4_0 : decode object_method_1_code 0 = .ok (.return_, 1) := by decide +kernel
theorem d5_0 : decode prog_9_method_5_code 0 = .ok (.aload_n 0, 1) := by decide +kernel
theorem d5_1 : decode prog_9_method_5_code 1 = .ok (.getfield 17, 3) := by decide +kernel
theorem d5_4 : decode prog_9_method_5_code 4 = .ok (.aload_n 0, 1) := by decide +kernel
theorem d5_5 : decode prog_9_method_5_code 5 = .ok (.getfield 13, 3) := by decide +kernel
theorem d5_8 : decode prog_9_method_5_code 8 = .ok (.isub, 1) := by decide +kernel
theorem d5_9 : decode prog_9_method_5_code 9 = .ok (.ireturn, 1) := by decide +kernel
theorem d6_0 : decode prog_9_method_4_code 0 = .ok (.aload_n 0, 1) := by decide +kernel
theorem d6_1 : decode prog_9_method_4_code 1 = .ok (.getfield 13, 3) := by decide +kernel
theorem d6_4 : decode prog_9_method_4_code 4 = .ok (.aload_n 0, 1) := by decide +kernel
theorem d6_5 : decode prog_9_method_4_code 5 = .ok (.getfield 17, 3) := by decide +kernel
theorem d6_8 : decode prog_9_method_4_code 8 = .ok (.if_icmp .ne 7, 3) := by decide +kernel
theorem d6_11 : decode prog_9_method_4_code 11 = .ok (.iconst 1, 1) := by decide +kernel
theorem d6_12 : decode prog_9_method_4_code 12 = .ok (.goto 4, 3) := by decide +kernel
theorem d6_15 : decode prog_9_method_4_code 15 = .ok (.iconst 0, 1) := by decide +kernel
theorem d6_16 : decode prog_9_method_4_code 16 = .ok (.ireturn, 1) := by decide +kernel
theorem d7_0 : decode prog_9_method_6_code 0 = .ok (.aload_n 0, 1) := by decide +kernel
theorem d7_1 : decode prog_9_method_6_code 1 = .ok (.invokevirtual 31, 3) := by decide +kernel
theorem d7_4 : decode prog_9_method_6_code 4 = .ok (.ifCond .eq 13, 3) := by decide +kernel
theorem d7_7 : decode prog_9_method_6_code 7 = .ok (.new 35, 3) := by decide +kernel
theorem d7_10 : decode prog_9_method_6_code 10 = .ok (.dup, 1) := by decide +kernel
theorem d7_11 : decode prog_9_method_6_code 11 = .ok (.ldc 42, 2) := by decide +kernel
theorem d7_13 : decode prog_9_method_6_code 13 = .ok (.invokespecial 39, 3) := by decide +kernel
theorem d7_16 : decode prog_9_method_6_code 16 = .ok (.athrow, 1) := by decide +kernel
theorem d7_17 : decode prog_9_method_6_code 17 = .ok (.aload_n 0, 1) := by decide +kernel
theorem d7_18 : decode prog_9_method_6_code 18 = .ok (.getfield 13, 3) := by decide +kernel
theorem d7_21 : decode prog_9_method_6_code 21 = .ok (.istore_n 1, 1) := by decide +kernel
theorem d7_22 : decode prog_9_method_6_code 22 = .ok (.aload_n 0, 1) := by decide +kernel
theorem d7_23 : decode prog_9_method_6_code 23 = .ok (.getfield 7, 3) := by decide +kernel
theorem d7_26 : decode prog_9_method_6_code 26 = .ok (.aload_n 0, 1) := by decide +kernel
theorem d7_27 : decode prog_9_method_6_code 27 = .ok (.dup, 1) := by decide +kernel
theorem d7_28 : decode prog_9_method_6_code 28 = .ok (.getfield 13, 3) := by decide +kernel
theorem d7_31 : decode prog_9_method_6_code 31 = .ok (.dup_x1, 1) := by decide +kernel
theorem d7_32 : decode prog_9_method_6_code 32 = .ok (.iconst 1, 1) := by decide +kernel
theorem d7_33 : decode prog_9_method_6_code 33 = .ok (.iadd, 1) := by decide +kernel
theorem d7_34 : decode prog_9_method_6_code 34 = .ok (.putfield 13, 3) := by decide +kernel
theorem d7_37 : decode prog_9_method_6_code 37 = .ok (.baload, 1) := by decide +kernel
theorem d7_38 : decode prog_9_method_6_code 38 = .ok (.sipush 255, 3) := by decide +kernel
theorem d7_41 : decode prog_9_method_6_code 41 = .ok (.iand, 1) := by decide +kernel
theorem d7_42 : decode prog_9_method_6_code 42 = .ok (.istore_n 2, 1) := by decide +kernel
theorem d7_43 : decode prog_9_method_6_code 43 = .ok (.iload_n 2, 1) := by decide +kernel
theorem d7_44 : decode prog_9_method_6_code 44 = .ok (.bipush 31, 2) := by decide +kernel
theorem d7_46 : decode prog_9_method_6_code 46 = .ok (.iand, 1) := by decide +kernel
theorem d7_47 : decode prog_9_method_6_code 47 = .ok (.bipush 31, 2) := by decide +kernel
theorem d7_49 : decode prog_9_method_6_code 49 = .ok (.if_icmp .ne 13, 3) := by decide +kernel
theorem d7_52 : decode prog_9_method_6_code 52 = .ok (.new 35, 3) := by decide +kernel
theorem d7_55 : decode prog_9_method_6_code 55 = .ok (.dup, 1) := by decide +kernel
theorem d7_56 : decode prog_9_method_6_code 56 = .ok (.ldc 44, 2) := by decide +kernel
theorem d7_58 : decode prog_9_method_6_code 58 = .ok (.invokespecial 39, 3) := by decide +kernel
theorem d7_61 : decode prog_9_method_6_code 61 = .ok (.athrow, 1) := by decide +kernel
theorem d7_62 : decode prog_9_method_6_code 62 = .ok (.aload_n 0, 1) := by decide +kernel
theorem d7_63 : decode prog_9_method_6_code 63 = .ok (.invokevirtual 46, 3) := by decide +kernel
theorem d7_66 : decode prog_9_method_6_code 66 = .ok (.istore_n 3, 1) := by decide +kernel
theorem d7_67 : decode prog_9_method_6_code 67 = .ok (.iload_n 3, 1) := by decide +kernel
theorem d7_68 : decode prog_9_method_6_code 68 = .ok (.aload_n 0, 1) := by decide +kernel
theorem d7_69 : decode prog_9_method_6_code 69 = .ok (.getfield 17, 3) := by decide +kernel
theorem d7_72 : decode prog_9_method_6_code 72 = .ok (.aload_n 0, 1) := by decide +kernel
theorem d7_73 : decode prog_9_method_6_code 73 = .ok (.getfield 13, 3) := by decide +kernel
theorem d7_76 : decode prog_9_method_6_code 76 = .ok (.isub, 1) := by decide +kernel
theorem d7_77 : decode prog_9_method_6_code 77 = .ok (.if_icmp .le 7, 3) := by decide +kernel
theorem d7_80 : decode prog_9_method_6_code 80 = .ok (.invokestatic 50, 3) := by decide +kernel
theorem d7_83 : decode prog_9_method_6_code 83 = .ok (.athrow, 1) := by decide +kernel
theorem d7_84 : decode prog_9_method_6_code 84 = .ok (.aload_n 0, 1) := by decide +kernel
theorem d7_85 : decode prog_9_method_6_code 85 = .ok (.dup, 1) := by decide +kernel
theorem d7_86 : decode prog_9_method_6_code 86 = .ok (.getfield 13, 3) := by decide +kernel
theorem d7_89 : decode prog_9_method_6_code 89 = .ok (.iload_n 3, 1) := by decide +kernel
theorem d7_90 : decode prog_9_method_6_code 90 = .ok (.iadd, 1) := by decide +kernel
theorem d7_91 : decode prog_9_method_6_code 91 = .ok (.putfield 13, 3) := by decide +kernel
theorem d7_94 : decode prog_9_method_6_code 94 = .ok (.new 54, 3) := by decide +kernel
theorem d7_97 : decode prog_9_method_6_code 97 = .ok (.dup, 1) := by decide +kernel
theorem d7_98 : decode prog_9_method_6_code 98 = .ok (.aload_n 0, 1) := by decide +kernel
theorem d7_99 : decode prog_9_method_6_code 99 = .ok (.getfield 7, 3) := by decide +kernel
theorem d7_102 : decode prog_9_method_6_code 102 = .ok (.iload_n 2, 1) := by decide +kernel
theorem d7_103 : decode prog_9_method_6_code 103 = .ok (.iload_n 1, 1) := by decide +kernel
theorem d7_104 : decode prog_9_method_6_code 104 = .ok (.aload_n 0, 1) := by decide +kernel
theorem d7_105 : decode prog_9_method_6_code 105 = .ok (.getfield 13, 3) := by decide +kernel
theorem d7_108 : decode prog_9_method_6_code 108 = .ok (.iload_n 3, 1) := by decide +kernel
theorem d7_109 : decode prog_9_method_6_code 109 = .ok (.isub, 1) := by decide +kernel
theorem d7_110 : decode prog_9_method_6_code 110 = .ok (.aload_n 0, 1) := by decide +kernel
theorem d7_111 : decode prog_9_method_6_code 111 = .ok (.getfield 13, 3) := by decide +kernel
theorem d7_114 : decode prog_9_method_6_code 114 = .ok (.invokespecial 56, 3) := by decide +kernel
theorem d7_117 : decode prog_9_method_6_code 117 = .ok (.areturn, 1) := by decide +kernel
theorem d8_0 : decode prog_9_method_8_code 0 = .ok (.aload_n 0, 1) := by decide +kernel
theorem d8_1 : decode prog_9_method_8_code 1 = .ok (.invokevirtual 31, 3) := by decide +kernel
theorem d8_4 : decode prog_9_method_8_code 4 = .ok (.ifCond .eq 7, 3) := by decide +kernel
theorem d8_7 : decode prog_9_method_8_code 7 = .ok (.invokestatic 50, 3) := by decide +kernel
theorem d8_10 : decode prog_9_method_8_code 10 = .ok (.athrow, 1) := by decide +kernel
theorem d8_11 : decode prog_9_method_8_code 11 = .ok (.aload_n 0, 1) := by decide +kernel
theorem d8_12 : decode prog_9_method_8_code 12 = .ok (.getfield 7, 3) := by decide +kernel
theorem d8_15 : decode prog_9_method_8_code 15 = .ok (.aload_n 0, 1) := by decide +kernel
theorem d8_16 : decode prog_9_method_8_code 16 = .ok (.dup, 1) := by decide +kernel
theorem d8_17 : decode prog_9_method_8_code 17 = .ok (.getfield 13, 3) := by decide +kernel
theorem d8_20 : decode prog_9_method_8_code 20 = .ok (.dup_x1, 1) := by decide +kernel
theorem d8_21 : decode prog_9_method_8_code 21 = .ok (.iconst 1, 1) := by decide +kernel
theorem d8_22 : decode prog_9_method_8_code 22 = .ok (.iadd, 1) := by decide +kernel
theorem d8_23 : decode prog_9_method_8_code 23 = .ok (.putfield 13, 3) := by decide +kernel
theorem d8_26 : decode prog_9_method_8_code 26 = .ok (.baload, 1) := by decide +kernel
theorem d8_27 : decode prog_9_method_8_code 27 = .ok (.sipush 255, 3) := by decide +kernel
theorem d8_30 : decode prog_9_method_8_code 30 = .ok (.iand, 1) := by decide +kernel
theorem d8_31 : decode prog_9_method_8_code 31 = .ok (.istore_n 1, 1) := by decide +kernel
theorem d8_32 : decode prog_9_method_8_code 32 = .ok (.iload_n 1, 1) := by decide +kernel
theorem d8_33 : decode prog_9_method_8_code 33 = .ok (.sipush 128, 3) := by decide +kernel
theorem d8_36 : decode prog_9_method_8_code 36 = .ok (.if_icmp .ge 5, 3) := by decide +kernel
theorem d8_39 : decode prog_9_method_8_code 39 = .ok (.iload_n 1, 1) := by decide +kernel
theorem d8_40 : decode prog_9_method_8_code 40 = .ok (.ireturn, 1) := by decide +kernel
theorem d8_41 : decode prog_9_method_8_code 41 = .ok (.iload_n 1, 1) := by decide +kernel
theorem d8_42 : decode prog_9_method_8_code 42 = .ok (.bipush 127, 2) := by decide +kernel
theorem d8_44 : decode prog_9_method_8_code 44 = .ok (.iand, 1) := by decide +kernel
theorem d8_45 : decode prog_9_method_8_code 45 = .ok (.istore_n 2, 1) := by decide +kernel
theorem d8_46 : decode prog_9_method_8_code 46 = .ok (.iload_n 2, 1) := by decide +kernel
theorem d8_47 : decode prog_9_method_8_code 47 = .ok (.ifCond .ne 13, 3) := by decide +kernel
theorem d8_50 : decode prog_9_method_8_code 50 = .ok (.new 35, 3) := by decide +kernel
theorem d8_53 : decode prog_9_method_8_code 53 = .ok (.dup, 1) := by decide +kernel
theorem d8_54 : decode prog_9_method_8_code 54 = .ok (.ldc 63, 2) := by decide +kernel
theorem d8_56 : decode prog_9_method_8_code 56 = .ok (.invokespecial 39, 3) := by decide +kernel
theorem d8_59 : decode prog_9_method_8_code 59 = .ok (.athrow, 1) := by decide +kernel
theorem d8_60 : decode prog_9_method_8_code 60 = .ok (.iload_n 2, 1) := by decide +kernel
theorem d8_61 : decode prog_9_method_8_code 61 = .ok (.iconst 4, 1) := by decide +kernel
theorem d8_62 : decode prog_9_method_8_code 62 = .ok (.if_icmp .gt 16, 3) := by decide +kernel
theorem d8_65 : decode prog_9_method_8_code 65 = .ok (.iload_n 2, 1) := by decide +kernel
theorem d8_66 : decode prog_9_method_8_code 66 = .ok (.aload_n 0, 1) := by decide +kernel
theorem d8_67 : decode prog_9_method_8_code 67 = .ok (.getfield 17, 3) := by decide +kernel
theorem d8_70 : decode prog_9_method_8_code 70 = .ok (.aload_n 0, 1) := by decide +kernel
theorem d8_71 : decode prog_9_method_8_code 71 = .ok (.getfield 13, 3) := by decide +kernel
theorem d8_74 : decode prog_9_method_8_code 74 = .ok (.isub, 1) := by decide +kernel
theorem d8_75 : decode prog_9_method_8_code 75 = .ok (.if_icmp .le 7, 3) := by decide +kernel
theorem d8_78 : decode prog_9_method_8_code 78 = .ok (.invokestatic 50, 3) := by decide +kernel
theorem d8_81 : decode prog_9_method_8_code 81 = .ok (.athrow, 1) := by decide +kernel
theorem d8_82 : decode prog_9_method_8_code 82 = .ok (.lconst 0, 1) := by decide +kernel
theorem d8_83 : decode prog_9_method_8_code 83 = .ok (.lstore_n 3, 1) := by decide +kernel
theorem d8_84 : decode prog_9_method_8_code 84 = .ok (.iconst 0, 1) := by decide +kernel
theorem d8_85 : decode prog_9_method_8_code 85 = .ok (.istore 5, 2) := by decide +kernel
theorem d8_87 : decode prog_9_method_8_code 87 = .ok (.iload 5, 2) := by decide +kernel
theorem d8_89 : decode prog_9_method_8_code 89 = .ok (.iload_n 2, 1) := by decide +kernel
theorem d8_90 : decode prog_9_method_8_code 90 = .ok (.if_icmp .ge 36, 3) := by decide +kernel
theorem d8_93 : decode prog_9_method_8_code 93 = .ok (.lload_n 3, 1) := by decide +kernel
theorem d8_94 : decode prog_9_method_8_code 94 = .ok (.bipush 8, 2) := by decide +kernel
theorem d8_96 : decode prog_9_method_8_code 96 = .ok (.lshl, 1) := by decide +kernel
theorem d8_97 : decode prog_9_method_8_code 97 = .ok (.aload_n 0, 1) := by decide +kernel
theorem d8_98 : decode prog_9_method_8_code 98 = .ok (.getfield 7, 3) := by decide +kernel
theorem d8_101 : decode prog_9_method_8_code 101 = .ok (.aload_n 0, 1) := by decide +kernel
theorem d8_102 : decode prog_9_method_8_code 102 = .ok (.dup, 1) := by decide +kernel
theorem d8_103 : decode prog_9_method_8_code 103 = .ok (.getfield 13, 3) := by decide +kernel
theorem d8_106 : decode prog_9_method_8_code 106 = .ok (.dup_x1, 1) := by decide +kernel
theorem d8_107 : decode prog_9_method_8_code 107 = .ok (.iconst 1, 1) := by decide +kernel
theorem d8_108 : decode prog_9_method_8_code 108 = .ok (.iadd, 1) := by decide +kernel
theorem d8_109 : decode prog_9_method_8_code 109 = .ok (.putfield 13, 3) := by decide +kernel
theorem d8_112 : decode prog_9_method_8_code 112 = .ok (.baload, 1) := by decide +kernel
theorem d8_113 : decode prog_9_method_8_code 113 = .ok (.sipush 255, 3) := by decide +kernel
theorem d8_116 : decode prog_9_method_8_code 116 = .ok (.iand, 1) := by decide +kernel
theorem d8_117 : decode prog_9_method_8_code 117 = .ok (.i2l, 1) := by decide +kernel
theorem d8_118 : decode prog_9_method_8_code 118 = .ok (.lor, 1) := by decide +kernel
theorem d8_119 : decode prog_9_method_8_code 119 = .ok (.lstore_n 3, 1) := by decide +kernel
theorem d8_120 : decode prog_9_method_8_code 120 = .ok (.iinc 5 1, 3) := by decide +kernel
theorem d8_123 : decode prog_9_method_8_code 123 = .ok (.goto (-36), 3) := by decide +kernel
theorem d8_126 : decode prog_9_method_8_code 126 = .ok (.lload_n 3, 1) := by decide +kernel
theorem d8_127 : decode prog_9_method_8_code 127 = .ok (.ldc2_w 65, 3) := by decide +kernel
theorem d8_130 : decode prog_9_method_8_code 130 = .ok (.lcmp, 1) := by decide +kernel
theorem d8_131 : decode prog_9_method_8_code 131 = .ok (.ifCond .lt 20, 3) := by decide +kernel
theorem d8_134 : decode prog_9_method_8_code 134 = .ok (.lload_n 3, 1) := by decide +kernel
theorem d8_135 : decode prog_9_method_8_code 135 = .ok (.bipush 8, 2) := by decide +kernel
theorem d8_137 : decode prog_9_method_8_code 137 = .ok (.iload_n 2, 1) := by decide +kernel
theorem d8_138 : decode prog_9_method_8_code 138 = .ok (.iconst 1, 1) := by decide +kernel
theorem d8_139 : decode prog_9_method_8_code 139 = .ok (.isub, 1) := by decide +kernel
theorem d8_140 : decode prog_9_method_8_code 140 = .ok (.imul, 1) := by decide +kernel
theorem d8_141 : decode prog_9_method_8_code 141 = .ok (.lshr, 1) := by decide +kernel
theorem d8_142 : decode prog_9_method_8_code 142 = .ok (.lconst 0, 1) := by decide +kernel
theorem d8_143 : decode prog_9_method_8_code 143 = .ok (.lcmp, 1) := by decide +kernel
theorem d8_144 : decode prog_9_method_8_code 144 = .ok (.ifCond .eq 7, 3) := by decide +kernel
theorem d8_147 : decode prog_9_method_8_code 147 = .ok (.iconst 1, 1) := by decide +kernel
theorem d8_148 : decode prog_9_method_8_code 148 = .ok (.goto 4, 3) := by decide +kernel
theorem d8_151 : decode prog_9_method_8_code 151 = .ok (.iconst 0, 1) := by decide +kernel
theorem d8_152 : decode prog_9_method_8_code 152 = .ok (.istore 5, 2) := by decide +kernel
theorem d8_154 : decode prog_9_method_8_code 154 = .ok (.iload 5, 2) := by decide +kernel
theorem d8_156 : decode prog_9_method_8_code 156 = .ok (.ifCond .ne 13, 3) := by decide +kernel
theorem d8_159 : decode prog_9_method_8_code 159 = .ok (.new 35, 3) := by decide +kernel
theorem d8_162 : decode prog_9_method_8_code 162 = .ok (.dup, 1) := by decide +kernel
theorem d8_163 : decode prog_9_method_8_code 163 = .ok (.ldc 67, 2) := by decide +kernel
theorem d8_165 : decode prog_9_method_8_code 165 = .ok (.invokespecial 39, 3) := by decide +kernel
theorem d8_168 : decode prog_9_method_8_code 168 = .ok (.athrow, 1) := by decide +kernel
theorem d8_169 : decode prog_9_method_8_code 169 = .ok (.lload_n 3, 1) := by decide +kernel
theorem d8_170 : decode prog_9_method_8_code 170 = .ok (.ldc2_w 71, 3) := by decide +kernel
theorem d8_173 : decode prog_9_method_8_code 173 = .ok (.lcmp, 1) := by decide +kernel
theorem d8_174 : decode prog_9_method_8_code 174 = .ok (.ifCond .le 7, 3) := by decide +kernel
theorem d8_177 : decode prog_9_method_8_code 177 = .ok (.invokestatic 50, 3) := by decide +kernel
theorem d8_180 : decode prog_9_method_8_code 180 = .ok (.athrow, 1) := by decide +kernel
theorem d8_181 : decode prog_9_method_8_code 181 = .ok (.lload_n 3, 1) := by decide +kernel
theorem d8_182 : decode prog_9_method_8_code 182 = .ok (.l2i, 1) := by decide +kernel
theorem d8_183 : decode prog_9_method_8_code 183 = .ok (.ireturn, 1) := by decide +kernel
theorem d9_0 : decode prog_10_method_1_code 0 = .ok (.aload_n 0, 1) := by decide +kernel
theorem d9_1 : decode prog_10_method_1_code 1 = .ok (.invokespecial 1, 3) := by decide +kernel
theorem d9_4 : decode prog_10_method_1_code 4 = .ok (.aload_n 0, 1) := by decide +kernel
theorem d9_5 : decode prog_10_method_1_code 5 = .ok (.aload_n 1, 1) := by decide +kernel
theorem d9_6 : decode prog_10_method_1_code 6 = .ok (.putfield 7, 3) := by decide +kernel
theorem d9_9 : decode prog_10_method_1_code 9 = .ok (.aload_n 0, 1) := by decide +kernel
theorem d9_10 : decode prog_10_method_1_code 10 = .ok (.iload_n 2, 1) := by decide +kernel
theorem d9_11 : decode prog_10_method_1_code 11 = .ok (.putfield 13, 3) := by decide +kernel
theorem d9_14 : decode prog_10_method_1_code 14 = .ok (.aload_n 0, 1) := by decide +kernel
theorem d9_15 : decode prog_10_method_1_code 15 = .ok (.iload_n 3, 1) := by decide +kernel
theorem d9_16 : decode prog_10_method_1_code 16 = .ok (.putfield 17, 3) := by decide +kernel
theorem d9_19 : decode prog_10_method_1_code 19 = .ok (.aload_n 0, 1) := by decide +kernel
theorem d9_20 : decode prog_10_method_1_code 20 = .ok (.iload 4, 2) := by decide +kernel
theorem d9_22 : decode prog_10_method_1_code 22 = .ok (.putfield 20, 3) := by decide +kernel
theorem d9_25 : decode prog_10_method_1_code 25 = .ok (.aload_n 0, 1) := by decide +kernel
theorem d9_26 : decode prog_10_method_1_code 26 = .ok (.iload 5, 2) := by decide +kernel
theorem d9_28 : decode prog_10_method_1_code 28 = .ok (.putfield 23, 3) := by decide +kernel
theorem d9_31 : decode prog_10_method_1_code 31 = .ok (.return_, 1) := by decide +kernel
theorem d10_0 : decode prog_10_method_2_code 0 = .ok (.aload_n 0, 1) := by decide +kernel
theorem d10_1 : decode prog_10_method_2_code 1 = .ok (.getfield 13, 3) := by decide +kernel
theorem d10_4 : decode prog_10_method_2_code 4 = .ok (.ireturn, 1) := by decide +kernel
theorem own_pn0 : plainName "com/example/befugnis/befugnis/DerOfPinLaw" = true := by decide +kernel
theorem own_pn1 : plainName "com/example/befugnis/befugnis/Der" = true := by decide +kernel
theorem own_pn3 : plainName "com/example/befugnis/befugnis/Der$Value" = true := by decide +kernel
theorem own_pd0 : parseMethodDescriptor "(IJI)Z" = some ⟨[.int, .long, .int], (some .boolean)⟩ := by decide +kernel
theorem own_pd1 : parseMethodDescriptor "(IJ)[B" = some ⟨[.int, .long], (some (.array .byte))⟩ := by decide +kernel
theorem own_pd2 : parseMethodDescriptor "([B)Lcom/example/befugnis/befugnis/Der;" = some ⟨[(.array .byte)], (some (.object "com/example/befugnis/befugnis/Der"))⟩ := by decide +kernel
theorem own_pd3 : parseMethodDescriptor "([BII)V" = some ⟨[(.array .byte), .int, .int], none⟩ := by decide +kernel
theorem own_pd4 : parseMethodDescriptor "()V" = some ⟨[], none⟩ := by decide +kernel
theorem own_pd5 : parseMethodDescriptor "()I" = some ⟨[], (some .int)⟩ := by decide +kernel
theorem own_pd6 : parseMethodDescriptor "()Z" = some ⟨[], (some .boolean)⟩ := by decide +kernel
theorem own_pd7 : parseMethodDescriptor "()Lcom/example/befugnis/befugnis/Der$Value;" = some ⟨[], (some (.object "com/example/befugnis/befugnis/Der$Value"))⟩ := by decide +kernel
theorem own_pd8 : parseMethodDescriptor "([BIIII)V" = some ⟨[(.array .byte), .int, .int, .int, .int], none⟩ := by decide +kernel
theorem own_set (xs : List Int32) (k : Nat) (y : Int32) : (xs.map Value.int).set k (.int y) = (xs.set k y).map Value.int := by rw [List.map_set]
theorem own_smallb (u : Int32) (h0 : 0 ≤ u.toInt) (h1 : u.toInt < 128) : nar .byte u.toInt8.toInt32 = u := by
  show u.toInt8.toInt32.toInt8.toInt32 = u
  have a := c_i2b u; have b := c_i2b u.toInt8.toInt32
  rw [← Int32.toInt_inj]; omega
theorem own_small255 (u : Int32) (h0 : 0 ≤ u.toInt) (h1 : u.toInt < 128) : u &&& 255 = u := by
  rw [← Int32.toInt_inj, c_mask u 255 8 (by decide) (by decide)]; omega
def own_ae (p q : Int32) : Int32 := if ¬ p = q then 0 else 1
theorem own_ae0 {p q : Int32} (h : ¬ p = q) : own_ae p q = 0 := if_pos h
set_option maxRecDepth 65536 in
set_option maxHeartbeats 40000000 in
theorem own_ds7 (l : Launch) (Z : State) (a0 : Array Value) (hw : ∀ d ∈ tables_1, d.before a0 Z = true) (n : Int32) (w : Int64) (r : Addr) (xs : List Int32) (h0 : Heap) (n0 : Nat) (hn0 : n0 ≤ h0.size) (ge_r : n0 ≤ r) (A_r : own_A Z h0 r .byte (xs.map Value.int)) (hl : xs.length = n.toNatClampNeg) :
    own_W l Z (⟨"com/example/befugnis/befugnis/DerOfPinLaw", "draw", "(IJ)[B"⟩ : MethodName) method_2_code 4 (some (.array .byte)) ({ frames := 0, cells := 1, slots := 7, locals := 0 } : Room) n0 (fun v h => v = some (.ref r) ∧ Keep h0 h [r] ∧ ∃ ys : List Int32, ys.length = xs.length ∧ own_A Z h r .byte (ys.map Value.int)) h0 1 7 100 #[.val (.int n), .val (.long w), .second, .val (.ref r)] [] := by
  refine own_aloadN (pc' := 101) d1_100 rfl rfl ?_
  exact own_aret rfl rfl rfl d1_101 ⟨rfl, Keep.refl h0 [r], xs, rfl, A_r⟩
set_option maxRecDepth 65536 in
set_option maxHeartbeats 40000000 in
theorem own_ds6 (l : Launch) (Z : State) (a0 : Array Value) (hw : ∀ d ∈ tables_1, d.before a0 Z = true) (n : Int32) (w : Int64) (r : Addr) (xs : List Int32) (h0 : Heap) (n0 : Nat) (hn0 : n0 ≤ h0.size) (ge_r : n0 ≤ r) (A_r : own_A Z h0 r .byte (xs.map Value.int)) (hl : xs.length = n.toNatClampNeg) :
    own_W l Z (⟨"com/example/befugnis/befugnis/DerOfPinLaw", "draw", "(IJ)[B"⟩ : MethodName) method_2_code 4 (some (.array .byte)) ({ frames := 0, cells := 1, slots := 7, locals := 0 } : Room) n0 (fun v h => v = some (.ref r) ∧ Keep h0 h [r] ∧ ∃ ys : List Int32, ys.length = xs.length ∧ own_A Z h r .byte (ys.map Value.int)) h0 1 7 84 #[.val (.int n), .val (.long w), .second, .val (.ref r)] [] := by
  refine own_iloadN (pc' := 85) d1_84 rfl rfl ?_
  refine own_bipush (6 : Int32) (pc' := 87) d1_85 rfl rfl ?_
  refine own_ic_le (pc' := 100) (pf := 90) d1_87 (by decide) (by decide) rfl (fun hz => ?_) (fun hz => ?_)
  · exact own_ds7 l Z a0 hw n w r xs h0 n0 hn0 ge_r A_r hl
  · refine own_aloadN (pc' := 91) d1_90 rfl rfl ?_
    refine own_bipush (6 : Int32) (pc' := 93) d1_91 rfl rfl ?_
    refine own_lloadN (pc' := 94) d1_93 rfl rfl ?_
    refine own_bipush (48 : Int32) (pc' := 96) d1_94 rfl rfl ?_
    refine own_lushr (pc' := 97) d1_96 rfl ?_
    refine own_l2i (pc' := 98) d1_97 rfl ?_
    refine own_i2b (pc' := 99) d1_98 rfl ?_
    have hlt : 6 < xs.length := by rw [hl, Int32.toNatClampNeg]; rw [Int32.lt_iff_toInt_lt] at hz; have z : (6 : Int32).toInt = 6 := rfl; omega
    refine own_bastore (pc' := 100) A_r (by decide) (by rw [List.length_map]; exact hlt) ge_r d1_99 rfl (fun h1 K2 A_new => ?_)
    replace hn0 : n0 ≤ h1.size := Nat.le_trans hn0 K2.1
    replace A_r := A_new
    replace A_r : own_A Z h1 r .byte ((xs.set 6 (nar .byte (((XT.ushrL w (48 : Int32)).toInt32).toInt8.toInt32))).map Value.int) := A_r.cast (own_set xs 6 _)
    refine own_weak ?_ (own_ds7 l Z a0 hw n w r _ h1 n0 hn0 ge_r A_r (by rw [List.length_set]; exact hl))
    rintro v h ⟨q1, q2, ys, q3, q4⟩
    exact ⟨q1, Keep.trans K2 q2 (fun x hx => Or.inl hx), ys, by rw [q3, List.length_set], q4⟩
set_option maxRecDepth 65536 in
set_option maxHeartbeats 40000000 in
theorem own_ds5 (l : Launch) (Z : State) (a0 : Array Value) (hw : ∀ d ∈ tables_1, d.before a0 Z = true) (n : Int32) (w : Int64) (r : Addr) (xs : List Int32) (h0 : Heap) (n0 : Nat) (hn0 : n0 ≤ h0.size) (ge_r : n0 ≤ r) (A_r : own_A Z h0 r .byte (xs.map Value.int)) (hl : xs.length = n.toNatClampNeg) :
    own_W l Z (⟨"com/example/befugnis/befugnis/DerOfPinLaw", "draw", "(IJ)[B"⟩ : MethodName) method_2_code 4 (some (.array .byte)) ({ frames := 0, cells := 1, slots := 7, locals := 0 } : Room) n0 (fun v h => v = some (.ref r) ∧ Keep h0 h [r] ∧ ∃ ys : List Int32, ys.length = xs.length ∧ own_A Z h r .byte (ys.map Value.int)) h0 1 7 70 #[.val (.int n), .val (.long w), .second, .val (.ref r)] [] := by
  refine own_iloadN (pc' := 71) d1_70 rfl rfl ?_
  refine own_iconst (5 : Int32) (pc' := 72) d1_71 rfl rfl ?_
  refine own_ic_le (pc' := 84) (pf := 75) d1_72 (by decide) (by decide) rfl (fun hz => ?_) (fun hz => ?_)
  · exact own_ds6 l Z a0 hw n w r xs h0 n0 hn0 ge_r A_r hl
  · refine own_aloadN (pc' := 76) d1_75 rfl rfl ?_
    refine own_iconst (5 : Int32) (pc' := 77) d1_76 rfl rfl ?_
    refine own_lloadN (pc' := 78) d1_77 rfl rfl ?_
    refine own_bipush (40 : Int32) (pc' := 80) d1_78 rfl rfl ?_
    refine own_lushr (pc' := 81) d1_80 rfl ?_
    refine own_l2i (pc' := 82) d1_81 rfl ?_
    refine own_i2b (pc' := 83) d1_82 rfl ?_
    have hlt : 5 < xs.length := by rw [hl, Int32.toNatClampNeg]; rw [Int32.lt_iff_toInt_lt] at hz; have z : (5 : Int32).toInt = 5 := rfl; omega
    refine own_bastore (pc' := 84) A_r (by decide) (by rw [List.length_map]; exact hlt) ge_r d1_83 rfl (fun h3 K4 A_new => ?_)
    replace hn0 : n0 ≤ h3.size := Nat.le_trans hn0 K4.1
    replace A_r := A_new
    replace A_r : own_A Z h3 r .byte ((xs.set 5 (nar .byte (((XT.ushrL w (40 : Int32)).toInt32).toInt8.toInt32))).map Value.int) := A_r.cast (own_set xs 5 _)
    refine own_weak ?_ (own_ds6 l Z a0 hw n w r _ h3 n0 hn0 ge_r A_r (by rw [List.length_set]; exact hl))
    rintro v h ⟨q1, q2, ys, q3, q4⟩
    exact ⟨q1, Keep.trans K4 q2 (fun x hx => Or.inl hx), ys, by rw [q3, List.length_set], q4⟩
set_option maxRecDepth 65536 in
set_option maxHeartbeats 40000000 in
theorem own_ds4 (l : Launch) (Z : State) (a0 : Array Value) (hw : ∀ d ∈ tables_1, d.before a0 Z = true) (n : Int32) (w : Int64) (r : Addr) (xs : List Int32) (h0 : Heap) (n0 : Nat) (hn0 : n0 ≤ h0.size) (ge_r : n0 ≤ r) (A_r : own_A Z h0 r .byte (xs.map Value.int)) (hl : xs.length = n.toNatClampNeg) :
    own_W l Z (⟨"com/example/befugnis/befugnis/DerOfPinLaw", "draw", "(IJ)[B"⟩ : MethodName) method_2_code 4 (some (.array .byte)) ({ frames := 0, cells := 1, slots := 7, locals := 0 } : Room) n0 (fun v h => v = some (.ref r) ∧ Keep h0 h [r] ∧ ∃ ys : List Int32, ys.length = xs.length ∧ own_A Z h r .byte (ys.map Value.int)) h0 1 7 56 #[.val (.int n), .val (.long w), .second, .val (.ref r)] [] := by
  refine own_iloadN (pc' := 57) d1_56 rfl rfl ?_
  refine own_iconst (4 : Int32) (pc' := 58) d1_57 rfl rfl ?_
  refine own_ic_le (pc' := 70) (pf := 61) d1_58 (by decide) (by decide) rfl (fun hz => ?_) (fun hz => ?_)
  · exact own_ds5 l Z a0 hw n w r xs h0 n0 hn0 ge_r A_r hl
  · refine own_aloadN (pc' := 62) d1_61 rfl rfl ?_
    refine own_iconst (4 : Int32) (pc' := 63) d1_62 rfl rfl ?_
    refine own_lloadN (pc' := 64) d1_63 rfl rfl ?_
    refine own_bipush (32 : Int32) (pc' := 66) d1_64 rfl rfl ?_
    refine own_lushr (pc' := 67) d1_66 rfl ?_
    refine own_l2i (pc' := 68) d1_67 rfl ?_
    refine own_i2b (pc' := 69) d1_68 rfl ?_
    have hlt : 4 < xs.length := by rw [hl, Int32.toNatClampNeg]; rw [Int32.lt_iff_toInt_lt] at hz; have z : (4 : Int32).toInt = 4 := rfl; omega
    refine own_bastore (pc' := 70) A_r (by decide) (by rw [List.length_map]; exact hlt) ge_r d1_69 rfl (fun h5 K6 A_new => ?_)
    replace hn0 : n0 ≤ h5.size := Nat.le_trans hn0 K6.1
    replace A_r := A_new
    replace A_r : own_A Z h5 r .byte ((xs.set 4 (nar .byte (((XT.ushrL w (32 : Int32)).toInt32).toInt8.toInt32))).map Value.int) := A_r.cast (own_set xs 4 _)
    refine own_weak ?_ (own_ds5 l Z a0 hw n w r _ h5 n0 hn0 ge_r A_r (by rw [List.length_set]; exact hl))
    rintro v h ⟨q1, q2, ys, q3, q4⟩
    exact ⟨q1, Keep.trans K6 q2 (fun x hx => Or.inl hx), ys, by rw [q3, List.length_set], q4⟩
set_option maxRecDepth 65536 in
set_option maxHeartbeats 40000000 in
theorem own_ds3 (l : Launch) (Z : State) (a0 : Array Value) (hw : ∀ d ∈ tables_1, d.before a0 Z = true) (n : Int32) (w : Int64) (r : Addr) (xs : List Int32) (h0 : Heap) (n0 : Nat) (hn0 : n0 ≤ h0.size) (ge_r : n0 ≤ r) (A_r : own_A Z h0 r .byte (xs.map Value.int)) (hl : xs.length = n.toNatClampNeg) :
    own_W l Z (⟨"com/example/befugnis/befugnis/DerOfPinLaw", "draw", "(IJ)[B"⟩ : MethodName) method_2_code 4 (some (.array .byte)) ({ frames := 0, cells := 1, slots := 7, locals := 0 } : Room) n0 (fun v h => v = some (.ref r) ∧ Keep h0 h [r] ∧ ∃ ys : List Int32, ys.length = xs.length ∧ own_A Z h r .byte (ys.map Value.int)) h0 1 7 42 #[.val (.int n), .val (.long w), .second, .val (.ref r)] [] := by
  refine own_iloadN (pc' := 43) d1_42 rfl rfl ?_
  refine own_iconst (3 : Int32) (pc' := 44) d1_43 rfl rfl ?_
  refine own_ic_le (pc' := 56) (pf := 47) d1_44 (by decide) (by decide) rfl (fun hz => ?_) (fun hz => ?_)
  · exact own_ds4 l Z a0 hw n w r xs h0 n0 hn0 ge_r A_r hl
  · refine own_aloadN (pc' := 48) d1_47 rfl rfl ?_
    refine own_iconst (3 : Int32) (pc' := 49) d1_48 rfl rfl ?_
    refine own_lloadN (pc' := 50) d1_49 rfl rfl ?_
    refine own_bipush (24 : Int32) (pc' := 52) d1_50 rfl rfl ?_
    refine own_lushr (pc' := 53) d1_52 rfl ?_
    refine own_l2i (pc' := 54) d1_53 rfl ?_
    refine own_i2b (pc' := 55) d1_54 rfl ?_
    have hlt : 3 < xs.length := by rw [hl, Int32.toNatClampNeg]; rw [Int32.lt_iff_toInt_lt] at hz; have z : (3 : Int32).toInt = 3 := rfl; omega
    refine own_bastore (pc' := 56) A_r (by decide) (by rw [List.length_map]; exact hlt) ge_r d1_55 rfl (fun h7 K8 A_new => ?_)
    replace hn0 : n0 ≤ h7.size := Nat.le_trans hn0 K8.1
    replace A_r := A_new
    replace A_r : own_A Z h7 r .byte ((xs.set 3 (nar .byte (((XT.ushrL w (24 : Int32)).toInt32).toInt8.toInt32))).map Value.int) := A_r.cast (own_set xs 3 _)
    refine own_weak ?_ (own_ds4 l Z a0 hw n w r _ h7 n0 hn0 ge_r A_r (by rw [List.length_set]; exact hl))
    rintro v h ⟨q1, q2, ys, q3, q4⟩
    exact ⟨q1, Keep.trans K8 q2 (fun x hx => Or.inl hx), ys, by rw [q3, List.length_set], q4⟩
set_option maxRecDepth 65536 in
set_option maxHeartbeats 40000000 in
theorem own_ds2 (l : Launch) (Z : State) (a0 : Array Value) (hw : ∀ d ∈ tables_1, d.before a0 Z = true) (n : Int32) (w : Int64) (r : Addr) (xs : List Int32) (h0 : Heap) (n0 : Nat) (hn0 : n0 ≤ h0.size) (ge_r : n0 ≤ r) (A_r : own_A Z h0 r .byte (xs.map Value.int)) (hl : xs.length = n.toNatClampNeg) :
    own_W l Z (⟨"com/example/befugnis/befugnis/DerOfPinLaw", "draw", "(IJ)[B"⟩ : MethodName) method_2_code 4 (some (.array .byte)) ({ frames := 0, cells := 1, slots := 7, locals := 0 } : Room) n0 (fun v h => v = some (.ref r) ∧ Keep h0 h [r] ∧ ∃ ys : List Int32, ys.length = xs.length ∧ own_A Z h r .byte (ys.map Value.int)) h0 1 7 28 #[.val (.int n), .val (.long w), .second, .val (.ref r)] [] := by
  refine own_iloadN (pc' := 29) d1_28 rfl rfl ?_
  refine own_iconst (2 : Int32) (pc' := 30) d1_29 rfl rfl ?_
  refine own_ic_le (pc' := 42) (pf := 33) d1_30 (by decide) (by decide) rfl (fun hz => ?_) (fun hz => ?_)
  · exact own_ds3 l Z a0 hw n w r xs h0 n0 hn0 ge_r A_r hl
  · refine own_aloadN (pc' := 34) d1_33 rfl rfl ?_
    refine own_iconst (2 : Int32) (pc' := 35) d1_34 rfl rfl ?_
    refine own_lloadN (pc' := 36) d1_35 rfl rfl ?_
    refine own_bipush (16 : Int32) (pc' := 38) d1_36 rfl rfl ?_
    refine own_lushr (pc' := 39) d1_38 rfl ?_
    refine own_l2i (pc' := 40) d1_39 rfl ?_
    refine own_i2b (pc' := 41) d1_40 rfl ?_
    have hlt : 2 < xs.length := by rw [hl, Int32.toNatClampNeg]; rw [Int32.lt_iff_toInt_lt] at hz; have z : (2 : Int32).toInt = 2 := rfl; omega
    refine own_bastore (pc' := 42) A_r (by decide) (by rw [List.length_map]; exact hlt) ge_r d1_41 rfl (fun h9 K10 A_new => ?_)
    replace hn0 : n0 ≤ h9.size := Nat.le_trans hn0 K10.1
    replace A_r := A_new
    replace A_r : own_A Z h9 r .byte ((xs.set 2 (nar .byte (((XT.ushrL w (16 : Int32)).toInt32).toInt8.toInt32))).map Value.int) := A_r.cast (own_set xs 2 _)
    refine own_weak ?_ (own_ds3 l Z a0 hw n w r _ h9 n0 hn0 ge_r A_r (by rw [List.length_set]; exact hl))
    rintro v h ⟨q1, q2, ys, q3, q4⟩
    exact ⟨q1, Keep.trans K10 q2 (fun x hx => Or.inl hx), ys, by rw [q3, List.length_set], q4⟩
set_option maxRecDepth 65536 in
set_option maxHeartbeats 40000000 in
theorem own_ds1 (l : Launch) (Z : State) (a0 : Array Value) (hw : ∀ d ∈ tables_1, d.before a0 Z = true) (n : Int32) (w : Int64) (r : Addr) (xs : List Int32) (h0 : Heap) (n0 : Nat) (hn0 : n0 ≤ h0.size) (ge_r : n0 ≤ r) (A_r : own_A Z h0 r .byte (xs.map Value.int)) (hl : xs.length = n.toNatClampNeg) :
    own_W l Z (⟨"com/example/befugnis/befugnis/DerOfPinLaw", "draw", "(IJ)[B"⟩ : MethodName) method_2_code 4 (some (.array .byte)) ({ frames := 0, cells := 1, slots := 7, locals := 0 } : Room) n0 (fun v h => v = some (.ref r) ∧ Keep h0 h [r] ∧ ∃ ys : List Int32, ys.length = xs.length ∧ own_A Z h r .byte (ys.map Value.int)) h0 1 7 14 #[.val (.int n), .val (.long w), .second, .val (.ref r)] [] := by
  refine own_iloadN (pc' := 15) d1_14 rfl rfl ?_
  refine own_iconst (1 : Int32) (pc' := 16) d1_15 rfl rfl ?_
  refine own_ic_le (pc' := 28) (pf := 19) d1_16 (by decide) (by decide) rfl (fun hz => ?_) (fun hz => ?_)
  · exact own_ds2 l Z a0 hw n w r xs h0 n0 hn0 ge_r A_r hl
  · refine own_aloadN (pc' := 20) d1_19 rfl rfl ?_
    refine own_iconst (1 : Int32) (pc' := 21) d1_20 rfl rfl ?_
    refine own_lloadN (pc' := 22) d1_21 rfl rfl ?_
    refine own_bipush (8 : Int32) (pc' := 24) d1_22 rfl rfl ?_
    refine own_lushr (pc' := 25) d1_24 rfl ?_
    refine own_l2i (pc' := 26) d1_25 rfl ?_
    refine own_i2b (pc' := 27) d1_26 rfl ?_
    have hlt : 1 < xs.length := by rw [hl, Int32.toNatClampNeg]; rw [Int32.lt_iff_toInt_lt] at hz; have z : (1 : Int32).toInt = 1 := rfl; omega
    refine own_bastore (pc' := 28) A_r (by decide) (by rw [List.length_map]; exact hlt) ge_r d1_27 rfl (fun h11 K12 A_new => ?_)
    replace hn0 : n0 ≤ h11.size := Nat.le_trans hn0 K12.1
    replace A_r := A_new
    replace A_r : own_A Z h11 r .byte ((xs.set 1 (nar .byte (((XT.ushrL w (8 : Int32)).toInt32).toInt8.toInt32))).map Value.int) := A_r.cast (own_set xs 1 _)
    refine own_weak ?_ (own_ds2 l Z a0 hw n w r _ h11 n0 hn0 ge_r A_r (by rw [List.length_set]; exact hl))
    rintro v h ⟨q1, q2, ys, q3, q4⟩
    exact ⟨q1, Keep.trans K12 q2 (fun x hx => Or.inl hx), ys, by rw [q3, List.length_set], q4⟩
set_option maxRecDepth 65536 in
set_option maxHeartbeats 40000000 in
theorem own_ds0 (l : Launch) (Z : State) (a0 : Array Value) (hw : ∀ d ∈ tables_1, d.before a0 Z = true) (n : Int32) (w : Int64) (r : Addr) (xs : List Int32) (h0 : Heap) (n0 : Nat) (hn0 : n0 ≤ h0.size) (ge_r : n0 ≤ r) (A_r : own_A Z h0 r .byte (xs.map Value.int)) (hl : xs.length = n.toNatClampNeg) :
    own_W l Z (⟨"com/example/befugnis/befugnis/DerOfPinLaw", "draw", "(IJ)[B"⟩ : MethodName) method_2_code 4 (some (.array .byte)) ({ frames := 0, cells := 1, slots := 7, locals := 0 } : Room) n0 (fun v h => v = some (.ref r) ∧ Keep h0 h [r] ∧ ∃ ys : List Int32, ys.length = xs.length ∧ own_A Z h r .byte (ys.map Value.int)) h0 1 7 4 #[.val (.int n), .val (.long w), .second, .val (.ref r)] [] := by
  refine own_iloadN (pc' := 5) d1_4 rfl rfl ?_
  refine own_if_le (pc' := 14) (pf := 8) d1_5 (by decide) (by decide) rfl (fun hz => ?_) (fun hz => ?_)
  · exact own_ds1 l Z a0 hw n w r xs h0 n0 hn0 ge_r A_r hl
  · refine own_aloadN (pc' := 9) d1_8 rfl rfl ?_
    refine own_iconst (0 : Int32) (pc' := 10) d1_9 rfl rfl ?_
    refine own_lloadN (pc' := 11) d1_10 rfl rfl ?_
    refine own_l2i (pc' := 12) d1_11 rfl ?_
    refine own_i2b (pc' := 13) d1_12 rfl ?_
    have hlt : 0 < xs.length := by rw [hl, Int32.toNatClampNeg]; rw [Int32.lt_iff_toInt_lt] at hz; have z : (0 : Int32).toInt = 0 := rfl; omega
    refine own_bastore (pc' := 14) A_r (by decide) (by rw [List.length_map]; exact hlt) ge_r d1_13 rfl (fun h13 K14 A_new => ?_)
    replace hn0 : n0 ≤ h13.size := Nat.le_trans hn0 K14.1
    replace A_r := A_new
    replace A_r : own_A Z h13 r .byte ((xs.set 0 (nar .byte ((w.toInt32).toInt8.toInt32))).map Value.int) := A_r.cast (own_set xs 0 _)
    refine own_weak ?_ (own_ds1 l Z a0 hw n w r _ h13 n0 hn0 ge_r A_r (by rw [List.length_set]; exact hl))
    rintro v h ⟨q1, q2, ys, q3, q4⟩
    exact ⟨q1, Keep.trans K14 q2 (fun x hx => Or.inl hx), ys, by rw [q3, List.length_set], q4⟩
set_option maxRecDepth 65536 in
set_option maxHeartbeats 40000000 in
theorem own_drawW (l : Launch) (Z : State) (a0 : Array Value) (hw : ∀ d ∈ tables_1, d.before a0 Z = true) (n : Int32) (w : Int64) (h0 : Heap) (n0 : Nat) (hn0 : n0 ≤ h0.size) (hn : ¬ n < 0) (hn7 : n.toNatClampNeg ≤ 7) :
    own_W l Z (⟨"com/example/befugnis/befugnis/DerOfPinLaw", "draw", "(IJ)[B"⟩ : MethodName) method_2_code 4 (some (.array .byte)) ({ frames := 0, cells := 1, slots := 7, locals := 0 } : Room) n0 (fun v h => ∃ (r : Addr) (ys : List Int32), v = some (.ref r) ∧ h0.size ≤ r ∧ Keep h0 h [] ∧ ys.length = n.toNatClampNeg ∧ own_A Z h r .byte (ys.map Value.int)) h0 0 0 0 #[.val (.int n), .val (.long w), .second, .unset] [] := by
  refine own_iloadN (pc' := 1) d1_0 rfl rfl ?_
  refine own_newarr (pc' := 3) (ty := .byte) (cap := 7) (hw _ (List.mem_of_getElem? (i := 4) rfl)) rfl d1_1 rfl hn hn7 (by decide) (by decide) (by decide) (fun h15 r gt_r lt_r E16 A_r => ?_)
  have ge_r : n0 ≤ r := Nat.le_trans hn0 gt_r
  replace hn0 : n0 ≤ h15.size := Nat.le_trans hn0 E16.1
  replace A_r : own_A Z h15 r .byte ((List.replicate n.toNatClampNeg (0 : Int32)).map Value.int) := A_r.cast (by rw [List.map_replicate]; rfl)
  refine own_astoreN (pc' := 4) (Ls' := #[.val (.int n), .val (.long w), .second, .val (.ref r)]) d1_3 rfl rfl ?_
  refine own_weak ?_ (own_ds0 l Z a0 hw n w r _ h15 n0 hn0 ge_r A_r (by rw [List.length_replicate]))
  rintro v h ⟨q1, q2, ys, q3, q4⟩
  exact ⟨r, ys, q1, gt_r, ((Keep.refl h0 []).ext E16).trans q2 (allS (Or.inr gt_r) all0), by rw [q3, List.length_replicate], q4⟩
set_option maxRecDepth 65536 in
set_option maxHeartbeats 40000000 in
theorem own_mkDer (l : Launch) (Z : State) (a0 : Array Value) (hw : ∀ d ∈ tables_1, d.before a0 Z = true) (d r : Addr) (p e : Int32) (h0 : Heap) (n0 : Nat) (hn0 : n0 ≤ h0.size) (ge_d : n0 ≤ d) (E_d : Exa Z h0 d "com/example/befugnis/befugnis/Der") (F_d_bytes : Fld Z h0 d "com/example/befugnis/befugnis/Der" "bytes" "[B" (.null)) (F_d_at : Fld Z h0 d "com/example/befugnis/befugnis/Der" "at" "I" (.int 0)) (F_d_end : Fld Z h0 d "com/example/befugnis/befugnis/Der" "end" "I" (.int 0)) :
    own_W l Z (⟨"com/example/befugnis/befugnis/Der", "<init>", "([BII)V"⟩ : MethodName) prog_9_method_1_code 4 none ({ frames := 1, cells := 0, slots := 0, locals := 12 } : Room) n0 (fun v h => v = none ∧ Keep h0 h [d] ∧ Exa Z h d "com/example/befugnis/befugnis/Der" ∧ Fld Z h d "com/example/befugnis/befugnis/Der" "bytes" "[B" (.ref r) ∧ Fld Z h d "com/example/befugnis/befugnis/Der" "at" "I" (.int p) ∧ Fld Z h d "com/example/befugnis/befugnis/Der" "end" "I" (.int e)) h0 0 0 0 #[.val (.ref d), .val (.ref r), .val (.int p), .val (.int e)] [] := by
  refine own_aloadN (pc' := 1) d3_0 rfl rfl ?_
  refine own_initO (pc' := 4) (W := 0) (hw _ (List.mem_of_getElem? (i := 14) rfl)) (hw _ (List.mem_of_getElem? (i := 15) rfl)) (hw _ (List.mem_of_getElem? (i := 16) rfl)) d3_1 rfl rfl (by decide) (Nat.le_refl _) (by decide) ?_
  refine own_aloadN (pc' := 5) d3_4 rfl rfl ?_
  refine own_aloadN (pc' := 6) d3_5 rfl rfl ?_
  refine own_putF (pc' := 9) (hw _ (List.mem_of_getElem? (i := 17) rfl)) F_d_bytes E_d (Or.inr ⟨(hw _ (List.mem_of_getElem? (i := 18) rfl)), rfl, rfl⟩) (hw _ (List.mem_of_getElem? (i := 10) rfl)) ge_d (ty := (.array .byte)) (by decide) rfl rfl d3_6 rfl (fun h17 Wr18 K19 => ?_)
  replace E_d := E_d.wr Wr18
  replace F_d_bytes := F_d_bytes.same Wr18
  replace F_d_at := F_d_at.other Wr18 (Or.inr (slot_ne (a0 := a0) (Or.inl (hw _ (List.mem_of_getElem? (i := 20) rfl))) (Or.inr (hw _ (List.mem_of_getElem? (i := 18) rfl))) (by decide) (t := .int) (by decide) (t' := (.array .byte)) (by decide)))
  replace F_d_end := F_d_end.other Wr18 (Or.inr (slot_ne (a0 := a0) (Or.inr (hw _ (List.mem_of_getElem? (i := 22) rfl))) (Or.inr (hw _ (List.mem_of_getElem? (i := 18) rfl))) (by decide) (t := .int) (by decide) (t' := (.array .byte)) (by decide)))
  replace hn0 : n0 ≤ h17.size := Nat.le_trans hn0 K19.1
  refine own_aloadN (pc' := 10) d3_9 rfl rfl ?_
  refine own_iloadN (pc' := 11) d3_10 rfl rfl ?_
  refine own_putF (pc' := 14) (hw _ (List.mem_of_getElem? (i := 19) rfl)) F_d_at E_d (Or.inl (hw _ (List.mem_of_getElem? (i := 20) rfl))) (hw _ (List.mem_of_getElem? (i := 10) rfl)) ge_d (ty := .int) (by decide) rfl rfl d3_11 rfl (fun h20 Wr21 K22 => ?_)
  replace E_d := E_d.wr Wr21
  replace F_d_bytes := F_d_bytes.other Wr21 (Or.inr (slot_ne (a0 := a0) (Or.inr (hw _ (List.mem_of_getElem? (i := 18) rfl))) (Or.inl (hw _ (List.mem_of_getElem? (i := 20) rfl))) (by decide) (t := (.array .byte)) (by decide) (t' := .int) (by decide)))
  replace F_d_at := F_d_at.same Wr21
  replace F_d_end := F_d_end.other Wr21 (Or.inr (slot_ne (a0 := a0) (Or.inr (hw _ (List.mem_of_getElem? (i := 22) rfl))) (Or.inl (hw _ (List.mem_of_getElem? (i := 20) rfl))) (by decide) (t := .int) (by decide) (t' := .int) (by decide)))
  replace hn0 : n0 ≤ h20.size := Nat.le_trans hn0 K22.1
  refine own_aloadN (pc' := 15) d3_14 rfl rfl ?_
  refine own_iloadN (pc' := 16) d3_15 rfl rfl ?_
  refine own_putF (pc' := 19) (hw _ (List.mem_of_getElem? (i := 21) rfl)) F_d_end E_d (Or.inr ⟨(hw _ (List.mem_of_getElem? (i := 22) rfl)), rfl, rfl⟩) (hw _ (List.mem_of_getElem? (i := 10) rfl)) ge_d (ty := .int) (by decide) rfl rfl d3_16 rfl (fun h23 Wr24 K25 => ?_)
  replace E_d := E_d.wr Wr24
  replace F_d_bytes := F_d_bytes.other Wr24 (Or.inr (slot_ne (a0 := a0) (Or.inr (hw _ (List.mem_of_getElem? (i := 18) rfl))) (Or.inr (hw _ (List.mem_of_getElem? (i := 22) rfl))) (by decide) (t := (.array .byte)) (by decide) (t' := .int) (by decide)))
  replace F_d_at := F_d_at.other Wr24 (Or.inr (slot_ne (a0 := a0) (Or.inl (hw _ (List.mem_of_getElem? (i := 20) rfl))) (Or.inr (hw _ (List.mem_of_getElem? (i := 22) rfl))) (by decide) (t := .int) (by decide) (t' := .int) (by decide)))
  replace F_d_end := F_d_end.same Wr24
  replace hn0 : n0 ≤ h23.size := Nat.le_trans hn0 K25.1
  exact own_ret rfl d3_19 ⟨rfl, ((((Keep.refl h0 [d]).trans K19 (fun x hx => Or.inl hx)).trans K22 (fun x hx => Or.inl hx)).trans K25 (fun x hx => Or.inl hx)), E_d, F_d_bytes, F_d_at, F_d_end⟩
set_option maxRecDepth 65536 in
set_option maxHeartbeats 40000000 in
theorem own_of (l : Launch) (Z : State) (a0 : Array Value) (hw : ∀ d ∈ tables_1, d.before a0 Z = true) (r : Addr) (vs : List Value) (n : Int32) (h0 : Heap) (n0 : Nat) (hn0 : n0 ≤ h0.size) (A_r : own_A Z h0 r .byte vs) (hlen : vs.length.toInt32 = n) :
    own_W l Z (⟨"com/example/befugnis/befugnis/Der", "of", "([B)Lcom/example/befugnis/befugnis/Der;"⟩ : MethodName) prog_9_method_2_code 1 (some (.object "com/example/befugnis/befugnis/Der")) ({ frames := 2, cells := 1, slots := 3, locals := 28 } : Room) n0 (fun v h => ∃ d : Addr, v = some (.ref d) ∧ h0.size ≤ d ∧ Keep h0 h [] ∧ Exa Z h d "com/example/befugnis/befugnis/Der" ∧ Fld Z h d "com/example/befugnis/befugnis/Der" "bytes" "[B" (.ref r) ∧ Fld Z h d "com/example/befugnis/befugnis/Der" "at" "I" (.int 0) ∧ Fld Z h d "com/example/befugnis/befugnis/Der" "end" "I" (.int n)) h0 0 0 0 #[.val (.ref r)] [] := by
  refine own_new (pc' := 3) (hw _ (List.mem_of_getElem? (i := 9) rfl)) (hw _ (List.mem_of_getElem? (i := 10) rfl)) (hw _ (List.mem_of_getElem? (i := 7) rfl)) d2_0 rfl (by decide) (by decide) (fun h26 d gt_d lt_d E27 E_d D_d => ?_)
  have ge_d : n0 ≤ d := Nat.le_trans hn0 gt_d
  have ne_r_d : r ≠ d := Nat.ne_of_lt (by have q := Nat.lt_of_lt_of_le A_r.lt (Nat.le_refl _); omega)
  replace A_r := A_r.ext E27
  replace hn0 : n0 ≤ h26.size := Nat.le_trans hn0 E27.1
  have F_d_bytes : Fld Z h26 d "com/example/befugnis/befugnis/Der" "bytes" "[B" (.null) := D_d (Or.inr (hw _ (List.mem_of_getElem? (i := 18) rfl))) (ty := (.array .byte)) (by decide)
  have F_d_at : Fld Z h26 d "com/example/befugnis/befugnis/Der" "at" "I" (.int (0 : Int32)) := D_d (Or.inl (hw _ (List.mem_of_getElem? (i := 20) rfl))) (ty := .int) (by decide)
  have F_d_end : Fld Z h26 d "com/example/befugnis/befugnis/Der" "end" "I" (.int (0 : Int32)) := D_d (Or.inr (hw _ (List.mem_of_getElem? (i := 22) rfl))) (ty := .int) (by decide)
  refine own_dup (pc' := 4) d2_3 rfl rfl ?_
  refine own_aloadN (pc' := 5) d2_4 rfl rfl ?_
  refine own_iconst (0 : Int32) (pc' := 6) d2_5 rfl rfl ?_
  refine own_aloadN (pc' := 7) d2_6 rfl rfl ?_
  refine own_len (pc' := 8) (n := n) A_r hlen d2_7 rfl ?_
  refine own_special (ret' := none) (own_mkDer l Z a0 hw d r 0 n h26 n0 hn0 ge_d E_d F_d_bytes F_d_at F_d_end) (hw _ (List.mem_of_getElem? (i := 11) rfl)) (hw _ (List.mem_of_getElem? (i := 12) rfl)) (hw _ (List.mem_of_getElem? (i := 7) rfl)) (hw _ (List.mem_of_getElem? (i := 13) rfl)) rfl (plainFor_of_name own_pn1) (by decide) own_pd3 rfl (argsL := [.ref r, .int (0 : Int32), .int n]) (rest := [.ref d]) rfl rfl (W := 1) (Nat.le_refl _) (by decide) (by decide) (by decide) (by decide) rfl d2_8 (pc' := 11) rfl (fun v_ h28 hq => ?_)
  obtain ⟨rfl, K_1, E_1, F_1, F_2, F_3⟩ := hq
  show own_W l Z (⟨"com/example/befugnis/befugnis/Der", "of", "([B)Lcom/example/befugnis/befugnis/Der;"⟩ : MethodName) prog_9_method_2_code 1 (some (.object "com/example/befugnis/befugnis/Der")) ({ frames := 2, cells := 1, slots := 3, locals := 28 } : Room) n0 (fun v h => ∃ d : Addr, v = some (.ref d) ∧ h0.size ≤ d ∧ Keep h0 h [] ∧ Exa Z h d "com/example/befugnis/befugnis/Der" ∧ Fld Z h d "com/example/befugnis/befugnis/Der" "bytes" "[B" (.ref r) ∧ Fld Z h d "com/example/befugnis/befugnis/Der" "at" "I" (.int 0) ∧ Fld Z h d "com/example/befugnis/befugnis/Der" "end" "I" (.int n)) h28 1 3 11 #[.val (.ref r)] [.ref d]
  exact own_aret rfl rfl rfl d2_11 ⟨d, rfl, gt_d, ((Keep.refl h0 []).ext E27).trans K_1 (allS (Or.inr gt_d) all0), E_1, F_1, F_2, F_3⟩
set_option maxRecDepth 65536 in
set_option maxHeartbeats 40000000 in
theorem own_aeW (l : Launch) (Z : State) (a0 : Array Value) (hw : ∀ d ∈ tables_1, d.before a0 Z = true) (d r : Addr) (p e : Int32) (h0 : Heap) (n0 : Nat) (hn0 : n0 ≤ h0.size) (E_d : Exa Z h0 d "com/example/befugnis/befugnis/Der") (F_d_bytes : Fld Z h0 d "com/example/befugnis/befugnis/Der" "bytes" "[B" (.ref r)) (F_d_at : Fld Z h0 d "com/example/befugnis/befugnis/Der" "at" "I" (.int p)) (F_d_end : Fld Z h0 d "com/example/befugnis/befugnis/Der" "end" "I" (.int e)) :
    own_W l Z (⟨"com/example/befugnis/befugnis/Der", "atEnd", "()Z"⟩ : MethodName) prog_9_method_4_code 1 (some .boolean) ({ frames := 0, cells := 0, slots := 0, locals := 0 } : Room) n0 (fun v h => v = some (.int (own_ae p e)) ∧ h0 = h) h0 0 0 0 #[.val (.ref d)] [] := by
  refine own_aloadN (pc' := 1) d6_0 rfl rfl ?_
  refine own_getF (pc' := 4) (hw _ (List.mem_of_getElem? (i := 19) rfl)) F_d_at d6_1 rfl ?_
  refine own_aloadN (pc' := 5) d6_4 rfl rfl ?_
  refine own_getF (pc' := 8) (hw _ (List.mem_of_getElem? (i := 21) rfl)) F_d_end d6_5 rfl ?_
  refine own_ic_ne (pc' := 15) (pf := 11) d6_8 (by decide) (by decide) rfl (fun h_8 => ?_) (fun h_8 => ?_)
  · refine own_iconst (0 : Int32) (pc' := 16) d6_15 rfl rfl ?_
    exact own_bret (v := (0 : Int32)) rfl (by first | rfl | decide | assumption) d6_16 ⟨by first | contradiction | (simp only [own_ae, *, ↓reduceIte]; done) | (simp [own_ae, *]; done) | (simp_all [own_ae]; done), rfl⟩
  · refine own_iconst (1 : Int32) (pc' := 12) d6_11 rfl rfl ?_
    refine own_goto (pc' := 16) d6_12 (by decide) (by decide) ?_
    exact own_bret (v := (1 : Int32)) rfl (by first | rfl | decide | assumption) d6_16 ⟨by first | contradiction | (simp only [own_ae, *, ↓reduceIte]; done) | (simp [own_ae, *]; done) | (simp_all [own_ae]; done), rfl⟩
set_option maxRecDepth 65536 in
set_option maxHeartbeats 40000000 in
theorem own_mkVal (l : Launch) (Z : State) (a0 : Array Value) (hw : ∀ d ∈ tables_1, d.before a0 Z = true) (o r : Addr) (y1 y2 y3 y4 : Int32) (h0 : Heap) (n0 : Nat) (hn0 : n0 ≤ h0.size) (ge_o : n0 ≤ o) (E_o : Exa Z h0 o "com/example/befugnis/befugnis/Der$Value") (F_o_bytes : Fld Z h0 o "com/example/befugnis/befugnis/Der$Value" "bytes" "[B" (.null)) (F_o_tag : Fld Z h0 o "com/example/befugnis/befugnis/Der$Value" "tag" "I" (.int 0)) (F_o_start : Fld Z h0 o "com/example/befugnis/befugnis/Der$Value" "start" "I" (.int 0)) (F_o_contentStart : Fld Z h0 o "com/example/befugnis/befugnis/Der$Value" "contentStart" "I" (.int 0)) (F_o_end : Fld Z h0 o "com/example/befugnis/befugnis/Der$Value" "end" "I" (.int 0)) :
    own_W l Z (⟨"com/example/befugnis/befugnis/Der$Value", "<init>", "([BIIII)V"⟩ : MethodName) prog_10_method_1_code 6 none ({ frames := 1, cells := 0, slots := 0, locals := 12 } : Room) n0 (fun v h => v = none ∧ Keep h0 h [o] ∧ Exa Z h o "com/example/befugnis/befugnis/Der$Value" ∧ Fld Z h o "com/example/befugnis/befugnis/Der$Value" "bytes" "[B" (.ref r) ∧ Fld Z h o "com/example/befugnis/befugnis/Der$Value" "tag" "I" (.int y1) ∧ Fld Z h o "com/example/befugnis/befugnis/Der$Value" "start" "I" (.int y2) ∧ Fld Z h o "com/example/befugnis/befugnis/Der$Value" "contentStart" "I" (.int y3) ∧ Fld Z h o "com/example/befugnis/befugnis/Der$Value" "end" "I" (.int y4)) h0 0 0 0 #[.val (.ref o), .val (.ref r), .val (.int y1), .val (.int y2), .val (.int y3), .val (.int y4)] [] := by
  refine own_aloadN (pc' := 1) d9_0 rfl rfl ?_
  refine own_initO (pc' := 4) (W := 0) (hw _ (List.mem_of_getElem? (i := 50) rfl)) (hw _ (List.mem_of_getElem? (i := 15) rfl)) (hw _ (List.mem_of_getElem? (i := 16) rfl)) d9_1 rfl rfl (by decide) (Nat.le_refl _) (by decide) ?_
  refine own_aloadN (pc' := 5) d9_4 rfl rfl ?_
  refine own_aloadN (pc' := 6) d9_5 rfl rfl ?_
  refine own_putF (pc' := 9) (hw _ (List.mem_of_getElem? (i := 51) rfl)) F_o_bytes E_o (Or.inr ⟨(hw _ (List.mem_of_getElem? (i := 52) rfl)), rfl, rfl⟩) (hw _ (List.mem_of_getElem? (i := 45) rfl)) ge_o (ty := (.array .byte)) (by decide) rfl rfl d9_6 rfl (fun h29 Wr30 K31 => ?_)
  replace E_o := E_o.wr Wr30
  replace F_o_bytes := F_o_bytes.same Wr30
  replace F_o_tag := F_o_tag.other Wr30 (Or.inr (slot_ne (a0 := a0) (Or.inr (hw _ (List.mem_of_getElem? (i := 54) rfl))) (Or.inr (hw _ (List.mem_of_getElem? (i := 52) rfl))) (by decide) (t := .int) (by decide) (t' := (.array .byte)) (by decide)))
  replace F_o_start := F_o_start.other Wr30 (Or.inr (slot_ne (a0 := a0) (Or.inr (hw _ (List.mem_of_getElem? (i := 56) rfl))) (Or.inr (hw _ (List.mem_of_getElem? (i := 52) rfl))) (by decide) (t := .int) (by decide) (t' := (.array .byte)) (by decide)))
  replace F_o_contentStart := F_o_contentStart.other Wr30 (Or.inr (slot_ne (a0 := a0) (Or.inr (hw _ (List.mem_of_getElem? (i := 58) rfl))) (Or.inr (hw _ (List.mem_of_getElem? (i := 52) rfl))) (by decide) (t := .int) (by decide) (t' := (.array .byte)) (by decide)))
  replace F_o_end := F_o_end.other Wr30 (Or.inr (slot_ne (a0 := a0) (Or.inr (hw _ (List.mem_of_getElem? (i := 60) rfl))) (Or.inr (hw _ (List.mem_of_getElem? (i := 52) rfl))) (by decide) (t := .int) (by decide) (t' := (.array .byte)) (by decide)))
  replace hn0 : n0 ≤ h29.size := Nat.le_trans hn0 K31.1
  refine own_aloadN (pc' := 10) d9_9 rfl rfl ?_
  refine own_iloadN (pc' := 11) d9_10 rfl rfl ?_
  refine own_putF (pc' := 14) (hw _ (List.mem_of_getElem? (i := 53) rfl)) F_o_tag E_o (Or.inr ⟨(hw _ (List.mem_of_getElem? (i := 54) rfl)), rfl, rfl⟩) (hw _ (List.mem_of_getElem? (i := 45) rfl)) ge_o (ty := .int) (by decide) rfl rfl d9_11 rfl (fun h32 Wr33 K34 => ?_)
  replace E_o := E_o.wr Wr33
  replace F_o_bytes := F_o_bytes.other Wr33 (Or.inr (slot_ne (a0 := a0) (Or.inr (hw _ (List.mem_of_getElem? (i := 52) rfl))) (Or.inr (hw _ (List.mem_of_getElem? (i := 54) rfl))) (by decide) (t := (.array .byte)) (by decide) (t' := .int) (by decide)))
  replace F_o_tag := F_o_tag.same Wr33
  replace F_o_start := F_o_start.other Wr33 (Or.inr (slot_ne (a0 := a0) (Or.inr (hw _ (List.mem_of_getElem? (i := 56) rfl))) (Or.inr (hw _ (List.mem_of_getElem? (i := 54) rfl))) (by decide) (t := .int) (by decide) (t' := .int) (by decide)))
  replace F_o_contentStart := F_o_contentStart.other Wr33 (Or.inr (slot_ne (a0 := a0) (Or.inr (hw _ (List.mem_of_getElem? (i := 58) rfl))) (Or.inr (hw _ (List.mem_of_getElem? (i := 54) rfl))) (by decide) (t := .int) (by decide) (t' := .int) (by decide)))
  replace F_o_end := F_o_end.other Wr33 (Or.inr (slot_ne (a0 := a0) (Or.inr (hw _ (List.mem_of_getElem? (i := 60) rfl))) (Or.inr (hw _ (List.mem_of_getElem? (i := 54) rfl))) (by decide) (t := .int) (by decide) (t' := .int) (by decide)))
  replace hn0 : n0 ≤ h32.size := Nat.le_trans hn0 K34.1
  refine own_aloadN (pc' := 15) d9_14 rfl rfl ?_
  refine own_iloadN (pc' := 16) d9_15 rfl rfl ?_
  refine own_putF (pc' := 19) (hw _ (List.mem_of_getElem? (i := 55) rfl)) F_o_start E_o (Or.inr ⟨(hw _ (List.mem_of_getElem? (i := 56) rfl)), rfl, rfl⟩) (hw _ (List.mem_of_getElem? (i := 45) rfl)) ge_o (ty := .int) (by decide) rfl rfl d9_16 rfl (fun h35 Wr36 K37 => ?_)
  replace E_o := E_o.wr Wr36
  replace F_o_bytes := F_o_bytes.other Wr36 (Or.inr (slot_ne (a0 := a0) (Or.inr (hw _ (List.mem_of_getElem? (i := 52) rfl))) (Or.inr (hw _ (List.mem_of_getElem? (i := 56) rfl))) (by decide) (t := (.array .byte)) (by decide) (t' := .int) (by decide)))
  replace F_o_tag := F_o_tag.other Wr36 (Or.inr (slot_ne (a0 := a0) (Or.inr (hw _ (List.mem_of_getElem? (i := 54) rfl))) (Or.inr (hw _ (List.mem_of_getElem? (i := 56) rfl))) (by decide) (t := .int) (by decide) (t' := .int) (by decide)))
  replace F_o_start := F_o_start.same Wr36
  replace F_o_contentStart := F_o_contentStart.other Wr36 (Or.inr (slot_ne (a0 := a0) (Or.inr (hw _ (List.mem_of_getElem? (i := 58) rfl))) (Or.inr (hw _ (List.mem_of_getElem? (i := 56) rfl))) (by decide) (t := .int) (by decide) (t' := .int) (by decide)))
  replace F_o_end := F_o_end.other Wr36 (Or.inr (slot_ne (a0 := a0) (Or.inr (hw _ (List.mem_of_getElem? (i := 60) rfl))) (Or.inr (hw _ (List.mem_of_getElem? (i := 56) rfl))) (by decide) (t := .int) (by decide) (t' := .int) (by decide)))
  replace hn0 : n0 ≤ h35.size := Nat.le_trans hn0 K37.1
  refine own_aloadN (pc' := 20) d9_19 rfl rfl ?_
  refine own_iload (pc' := 22) d9_20 rfl rfl ?_
  refine own_putF (pc' := 25) (hw _ (List.mem_of_getElem? (i := 57) rfl)) F_o_contentStart E_o (Or.inr ⟨(hw _ (List.mem_of_getElem? (i := 58) rfl)), rfl, rfl⟩) (hw _ (List.mem_of_getElem? (i := 45) rfl)) ge_o (ty := .int) (by decide) rfl rfl d9_22 rfl (fun h38 Wr39 K40 => ?_)
  replace E_o := E_o.wr Wr39
  replace F_o_bytes := F_o_bytes.other Wr39 (Or.inr (slot_ne (a0 := a0) (Or.inr (hw _ (List.mem_of_getElem? (i := 52) rfl))) (Or.inr (hw _ (List.mem_of_getElem? (i := 58) rfl))) (by decide) (t := (.array .byte)) (by decide) (t' := .int) (by decide)))
  replace F_o_tag := F_o_tag.other Wr39 (Or.inr (slot_ne (a0 := a0) (Or.inr (hw _ (List.mem_of_getElem? (i := 54) rfl))) (Or.inr (hw _ (List.mem_of_getElem? (i := 58) rfl))) (by decide) (t := .int) (by decide) (t' := .int) (by decide)))
  replace F_o_start := F_o_start.other Wr39 (Or.inr (slot_ne (a0 := a0) (Or.inr (hw _ (List.mem_of_getElem? (i := 56) rfl))) (Or.inr (hw _ (List.mem_of_getElem? (i := 58) rfl))) (by decide) (t := .int) (by decide) (t' := .int) (by decide)))
  replace F_o_contentStart := F_o_contentStart.same Wr39
  replace F_o_end := F_o_end.other Wr39 (Or.inr (slot_ne (a0 := a0) (Or.inr (hw _ (List.mem_of_getElem? (i := 60) rfl))) (Or.inr (hw _ (List.mem_of_getElem? (i := 58) rfl))) (by decide) (t := .int) (by decide) (t' := .int) (by decide)))
  replace hn0 : n0 ≤ h38.size := Nat.le_trans hn0 K40.1
  refine own_aloadN (pc' := 26) d9_25 rfl rfl ?_
  refine own_iload (pc' := 28) d9_26 rfl rfl ?_
  refine own_putF (pc' := 31) (hw _ (List.mem_of_getElem? (i := 59) rfl)) F_o_end E_o (Or.inr ⟨(hw _ (List.mem_of_getElem? (i := 60) rfl)), rfl, rfl⟩) (hw _ (List.mem_of_getElem? (i := 45) rfl)) ge_o (ty := .int) (by decide) rfl rfl d9_28 rfl (fun h41 Wr42 K43 => ?_)
  replace E_o := E_o.wr Wr42
  replace F_o_bytes := F_o_bytes.other Wr42 (Or.inr (slot_ne (a0 := a0) (Or.inr (hw _ (List.mem_of_getElem? (i := 52) rfl))) (Or.inr (hw _ (List.mem_of_getElem? (i := 60) rfl))) (by decide) (t := (.array .byte)) (by decide) (t' := .int) (by decide)))
  replace F_o_tag := F_o_tag.other Wr42 (Or.inr (slot_ne (a0 := a0) (Or.inr (hw _ (List.mem_of_getElem? (i := 54) rfl))) (Or.inr (hw _ (List.mem_of_getElem? (i := 60) rfl))) (by decide) (t := .int) (by decide) (t' := .int) (by decide)))
  replace F_o_start := F_o_start.other Wr42 (Or.inr (slot_ne (a0 := a0) (Or.inr (hw _ (List.mem_of_getElem? (i := 56) rfl))) (Or.inr (hw _ (List.mem_of_getElem? (i := 60) rfl))) (by decide) (t := .int) (by decide) (t' := .int) (by decide)))
  replace F_o_contentStart := F_o_contentStart.other Wr42 (Or.inr (slot_ne (a0 := a0) (Or.inr (hw _ (List.mem_of_getElem? (i := 58) rfl))) (Or.inr (hw _ (List.mem_of_getElem? (i := 60) rfl))) (by decide) (t := .int) (by decide) (t' := .int) (by decide)))
  replace F_o_end := F_o_end.same Wr42
  replace hn0 : n0 ≤ h41.size := Nat.le_trans hn0 K43.1
  exact own_ret rfl d9_31 ⟨rfl, ((((((Keep.refl h0 [o]).trans K31 (fun x hx => Or.inl hx)).trans K34 (fun x hx => Or.inl hx)).trans K37 (fun x hx => Or.inl hx)).trans K40 (fun x hx => Or.inl hx)).trans K43 (fun x hx => Or.inl hx)), E_o, F_o_bytes, F_o_tag, F_o_start, F_o_contentStart, F_o_end⟩
set_option maxRecDepth 65536 in
set_option maxHeartbeats 40000000 in
theorem own_tagW (l : Launch) (Z : State) (a0 : Array Value) (hw : ∀ d ∈ tables_1, d.before a0 Z = true) (o : Addr) (y : Int32) (h0 : Heap) (n0 : Nat) (hn0 : n0 ≤ h0.size) (F_t : Fld Z h0 o "com/example/befugnis/befugnis/Der$Value" "tag" "I" (.int y)) :
    own_W l Z (⟨"com/example/befugnis/befugnis/Der$Value", "tag", "()I"⟩ : MethodName) prog_10_method_2_code 1 (some .int) ({ frames := 0, cells := 0, slots := 0, locals := 0 } : Room) n0 (fun v h => v = some (.int y) ∧ h0 = h) h0 0 0 0 #[.val (.ref o)] [] := by
  refine own_aloadN (pc' := 1) d10_0 rfl rfl ?_
  refine own_getF (pc' := 4) (hw _ (List.mem_of_getElem? (i := 53) rfl)) F_t d10_1 rfl ?_
  exact own_iret rfl d10_4 ⟨rfl, rfl⟩
set_option maxRecDepth 65536 in
set_option maxHeartbeats 40000000 in
theorem own_rl0 (l : Launch) (Z : State) (a0 : Array Value) (hw : ∀ d ∈ tables_1, d.before a0 Z = true) (d r : Addr) (vs : List Value) (e L w : Int32) (h0 : Heap) (n0 : Nat) (hn0 : n0 ≤ h0.size) (hw1 : vs[(1 : Int32).toNatClampNeg]? = some (.int w)) (hs : (w &&& 255) < 128) (hL : (w &&& 255) = L) (hne : ¬ (1 : Int32) = e) (ne_d_r : d ≠ r) (ge_d : n0 ≤ d) (A_r : own_A Z h0 r .byte vs) (E_d : Exa Z h0 d "com/example/befugnis/befugnis/Der") (F_d_bytes : Fld Z h0 d "com/example/befugnis/befugnis/Der" "bytes" "[B" (.ref r)) (F_d_at : Fld Z h0 d "com/example/befugnis/befugnis/Der" "at" "I" (.int (1 : Int32))) (F_d_end : Fld Z h0 d "com/example/befugnis/befugnis/Der" "end" "I" (.int e)) :
    own_W l Z (⟨"com/example/befugnis/befugnis/Der", "readLength", "()I"⟩ : MethodName) prog_9_method_8_code 6 (some .int) ({ frames := 1, cells := 0, slots := 0, locals := 12 } : Room) n0 (fun v h => v = some (.int L) ∧ Keep h0 h [d] ∧ Exa Z h d "com/example/befugnis/befugnis/Der" ∧ Fld Z h d "com/example/befugnis/befugnis/Der" "bytes" "[B" (.ref r) ∧ Fld Z h d "com/example/befugnis/befugnis/Der" "at" "I" (.int (2 : Int32)) ∧ Fld Z h d "com/example/befugnis/befugnis/Der" "end" "I" (.int e)) h0 0 0 0 #[.val (.ref d), .unset, .unset, .unset, .unset, .unset] [] := by
  refine own_aloadN (pc' := 1) d8_0 rfl rfl ?_
  refine own_virtual (own_aeW l Z a0 hw d r 1 e h0 n0 hn0 E_d F_d_bytes F_d_at F_d_end) E_d (hw _ (List.mem_of_getElem? (i := 39) rfl)) (hw _ (List.mem_of_getElem? (i := 29) rfl)) (hw _ (List.mem_of_getElem? (i := 31) rfl)) (hw _ (List.mem_of_getElem? (i := 30) rfl)) (hw _ (List.mem_of_getElem? (i := 7) rfl)) (hw _ (List.mem_of_getElem? (i := 32) rfl)) (plainFor_of_name own_pn1) (by decide) own_pd6 rfl (argsL := []) (rest := []) rfl rfl (W := 0) (Nat.le_refl _) (by decide) (by decide) (by decide) (by decide) rfl d8_1 (pc' := 4) rfl (fun v_ h44 hq => ?_)
  obtain ⟨rfl, rfl⟩ := hq
  show own_W l Z (⟨"com/example/befugnis/befugnis/Der", "readLength", "()I"⟩ : MethodName) prog_9_method_8_code 6 (some .int) ({ frames := 1, cells := 0, slots := 0, locals := 12 } : Room) n0 (fun v h => v = some (.int L) ∧ Keep h0 h [d] ∧ Exa Z h d "com/example/befugnis/befugnis/Der" ∧ Fld Z h d "com/example/befugnis/befugnis/Der" "bytes" "[B" (.ref r) ∧ Fld Z h d "com/example/befugnis/befugnis/Der" "at" "I" (.int (2 : Int32)) ∧ Fld Z h d "com/example/befugnis/befugnis/Der" "end" "I" (.int e)) h0 0 0 4 #[.val (.ref d), .unset, .unset, .unset, .unset, .unset] [.int (own_ae (1 : Int32) e)]
  refine own_if_eq_t (pc' := 11) d8_4 (own_ae0 hne) (by decide) (by decide) ?_
  refine own_aloadN (pc' := 12) d8_11 rfl rfl ?_
  refine own_getF (pc' := 15) (hw _ (List.mem_of_getElem? (i := 17) rfl)) F_d_bytes d8_12 rfl ?_
  refine own_aloadN (pc' := 16) d8_15 rfl rfl ?_
  refine own_dup (pc' := 17) d8_16 rfl rfl ?_
  refine own_getF (pc' := 20) (hw _ (List.mem_of_getElem? (i := 19) rfl)) F_d_at d8_17 rfl ?_
  refine own_dupX1 (pc' := 21) d8_20 rfl rfl rfl ?_
  refine own_iconst (1 : Int32) (pc' := 22) d8_21 rfl rfl ?_
  refine own_iadd (pc' := 23) d8_22 rfl ?_
  refine own_putF (pc' := 26) (hw _ (List.mem_of_getElem? (i := 19) rfl)) F_d_at E_d (Or.inl (hw _ (List.mem_of_getElem? (i := 20) rfl))) (hw _ (List.mem_of_getElem? (i := 10) rfl)) ge_d (ty := .int) (by decide) rfl rfl d8_23 rfl (fun h45 Wr46 K47 => ?_)
  replace A_r := A_r.keep K47 (ninS (Ne.symm ne_d_r) nin0)
  replace E_d := E_d.wr Wr46
  replace F_d_bytes := F_d_bytes.other Wr46 (Or.inr (slot_ne (a0 := a0) (Or.inr (hw _ (List.mem_of_getElem? (i := 18) rfl))) (Or.inl (hw _ (List.mem_of_getElem? (i := 20) rfl))) (by decide) (t := (.array .byte)) (by decide) (t' := .int) (by decide)))
  replace F_d_at := F_d_at.same Wr46
  replace F_d_end := F_d_end.other Wr46 (Or.inr (slot_ne (a0 := a0) (Or.inr (hw _ (List.mem_of_getElem? (i := 22) rfl))) (Or.inl (hw _ (List.mem_of_getElem? (i := 20) rfl))) (by decide) (t := .int) (by decide) (t' := .int) (by decide)))
  replace hn0 : n0 ≤ h45.size := Nat.le_trans hn0 K47.1
  refine own_baload (pc' := 27) (v := .int w) A_r (by decide) hw1 d8_26 rfl ?_
  refine own_sipush (255 : Int32) (pc' := 30) d8_27 rfl rfl ?_
  refine own_iand (pc' := 31) d8_30 rfl ?_
  refine own_istoreN (pc' := 32) (Ls' := #[.val (.ref d), .val (.int (w &&& (255 : Int32))), .unset, .unset, .unset, .unset]) d8_31 rfl rfl ?_
  refine own_iloadN (pc' := 33) d8_32 rfl rfl ?_
  refine own_sipush (128 : Int32) (pc' := 36) d8_33 rfl rfl ?_
  refine own_ic_ge_f (pc' := 39) d8_36 hs rfl ?_
  refine own_iloadN (pc' := 40) d8_39 rfl rfl ?_
  exact own_iret rfl d8_40 ⟨by rw [hL], K47, E_d, F_d_bytes, F_d_at, F_d_end⟩
set_option maxRecDepth 65536 in
set_option maxHeartbeats 40000000 in
theorem own_next0 (l : Launch) (Z : State) (a0 : Array Value) (hw : ∀ d ∈ tables_1, d.before a0 Z = true) (d r : Addr) (vs : List Value) (e L t0 : Int32) (w : Int32) (h0 : Heap) (n0 : Nat) (hn0 : n0 ≤ h0.size) (hw1 : vs[(1 : Int32).toNatClampNeg]? = some (.int w)) (hs : (w &&& 255) < 128) (hL : (w &&& 255) = L) (hne0 : ¬ (0 : Int32) = e) (hne : ¬ (1 : Int32) = e) (ht0 : vs[(0 : Int32).toNatClampNeg]? = some (.int t0)) (htag : ¬ ((t0 &&& 255) &&& 31) = 31) (hfit : ¬ e - (2 : Int32) < L) (ne_d_r : d ≠ r) (ge_d : n0 ≤ d) (A_r : own_A Z h0 r .byte vs) (E_d : Exa Z h0 d "com/example/befugnis/befugnis/Der") (F_d_bytes : Fld Z h0 d "com/example/befugnis/befugnis/Der" "bytes" "[B" (.ref r)) (F_d_at : Fld Z h0 d "com/example/befugnis/befugnis/Der" "at" "I" (.int 0)) (F_d_end : Fld Z h0 d "com/example/befugnis/befugnis/Der" "end" "I" (.int e)) :
    own_W l Z (⟨"com/example/befugnis/befugnis/Der", "next", "()Lcom/example/befugnis/befugnis/Der$Value;"⟩ : MethodName) prog_9_method_6_code 4 (some (.object "com/example/befugnis/befugnis/Der$Value")) ({ frames := 2, cells := 1, slots := 5, locals := 30 } : Room) n0 (fun v h => ∃ o : Addr, v = some (.ref o) ∧ h0.size ≤ o ∧ Keep h0 h [d] ∧ Exa Z h d "com/example/befugnis/befugnis/Der" ∧ Fld Z h d "com/example/befugnis/befugnis/Der" "bytes" "[B" (.ref r) ∧ Fld Z h d "com/example/befugnis/befugnis/Der" "at" "I" (.int ((2 : Int32) + L)) ∧ Fld Z h d "com/example/befugnis/befugnis/Der" "end" "I" (.int e) ∧ Exa Z h o "com/example/befugnis/befugnis/Der$Value" ∧ Fld Z h o "com/example/befugnis/befugnis/Der$Value" "bytes" "[B" (.ref r) ∧ Fld Z h o "com/example/befugnis/befugnis/Der$Value" "tag" "I" (.int (t0 &&& 255)) ∧ Fld Z h o "com/example/befugnis/befugnis/Der$Value" "start" "I" (.int 0) ∧ Fld Z h o "com/example/befugnis/befugnis/Der$Value" "contentStart" "I" (.int (((2 : Int32) + L) - L)) ∧ Fld Z h o "com/example/befugnis/befugnis/Der$Value" "end" "I" (.int ((2 : Int32) + L))) h0 0 0 0 #[.val (.ref d), .unset, .unset, .unset] [] := by
  refine own_aloadN (pc' := 1) d7_0 rfl rfl ?_
  refine own_virtual (own_aeW l Z a0 hw d r 0 e h0 n0 hn0 E_d F_d_bytes F_d_at F_d_end) E_d (hw _ (List.mem_of_getElem? (i := 39) rfl)) (hw _ (List.mem_of_getElem? (i := 29) rfl)) (hw _ (List.mem_of_getElem? (i := 31) rfl)) (hw _ (List.mem_of_getElem? (i := 30) rfl)) (hw _ (List.mem_of_getElem? (i := 7) rfl)) (hw _ (List.mem_of_getElem? (i := 32) rfl)) (plainFor_of_name own_pn1) (by decide) own_pd6 rfl (argsL := []) (rest := []) rfl rfl (W := 0) (Nat.le_refl _) (by decide) (by decide) (by decide) (by decide) rfl d7_1 (pc' := 4) rfl (fun v_ h48 hq => ?_)
  obtain ⟨rfl, rfl⟩ := hq
  show own_W l Z (⟨"com/example/befugnis/befugnis/Der", "next", "()Lcom/example/befugnis/befugnis/Der$Value;"⟩ : MethodName) prog_9_method_6_code 4 (some (.object "com/example/befugnis/befugnis/Der$Value")) ({ frames := 2, cells := 1, slots := 5, locals := 30 } : Room) n0 (fun v h => ∃ o : Addr, v = some (.ref o) ∧ h0.size ≤ o ∧ Keep h0 h [d] ∧ Exa Z h d "com/example/befugnis/befugnis/Der" ∧ Fld Z h d "com/example/befugnis/befugnis/Der" "bytes" "[B" (.ref r) ∧ Fld Z h d "com/example/befugnis/befugnis/Der" "at" "I" (.int ((2 : Int32) + L)) ∧ Fld Z h d "com/example/befugnis/befugnis/Der" "end" "I" (.int e) ∧ Exa Z h o "com/example/befugnis/befugnis/Der$Value" ∧ Fld Z h o "com/example/befugnis/befugnis/Der$Value" "bytes" "[B" (.ref r) ∧ Fld Z h o "com/example/befugnis/befugnis/Der$Value" "tag" "I" (.int (t0 &&& 255)) ∧ Fld Z h o "com/example/befugnis/befugnis/Der$Value" "start" "I" (.int 0) ∧ Fld Z h o "com/example/befugnis/befugnis/Der$Value" "contentStart" "I" (.int (((2 : Int32) + L) - L)) ∧ Fld Z h o "com/example/befugnis/befugnis/Der$Value" "end" "I" (.int ((2 : Int32) + L))) h0 0 0 4 #[.val (.ref d), .unset, .unset, .unset] [.int (own_ae (0 : Int32) e)]
  refine own_if_eq_t (pc' := 17) d7_4 (own_ae0 hne0) (by decide) (by decide) ?_
  refine own_aloadN (pc' := 18) d7_17 rfl rfl ?_
  refine own_getF (pc' := 21) (hw _ (List.mem_of_getElem? (i := 19) rfl)) F_d_at d7_18 rfl ?_
  refine own_istoreN (pc' := 22) (Ls' := #[.val (.ref d), .val (.int (0 : Int32)), .unset, .unset]) d7_21 rfl rfl ?_
  refine own_aloadN (pc' := 23) d7_22 rfl rfl ?_
  refine own_getF (pc' := 26) (hw _ (List.mem_of_getElem? (i := 17) rfl)) F_d_bytes d7_23 rfl ?_
  refine own_aloadN (pc' := 27) d7_26 rfl rfl ?_
  refine own_dup (pc' := 28) d7_27 rfl rfl ?_
  refine own_getF (pc' := 31) (hw _ (List.mem_of_getElem? (i := 19) rfl)) F_d_at d7_28 rfl ?_
  refine own_dupX1 (pc' := 32) d7_31 rfl rfl rfl ?_
  refine own_iconst (1 : Int32) (pc' := 33) d7_32 rfl rfl ?_
  refine own_iadd (pc' := 34) d7_33 rfl ?_
  refine own_putF (pc' := 37) (hw _ (List.mem_of_getElem? (i := 19) rfl)) F_d_at E_d (Or.inl (hw _ (List.mem_of_getElem? (i := 20) rfl))) (hw _ (List.mem_of_getElem? (i := 10) rfl)) ge_d (ty := .int) (by decide) rfl rfl d7_34 rfl (fun h49 Wr50 K51 => ?_)
  replace A_r := A_r.keep K51 (ninS (Ne.symm ne_d_r) nin0)
  replace E_d := E_d.wr Wr50
  replace F_d_bytes := F_d_bytes.other Wr50 (Or.inr (slot_ne (a0 := a0) (Or.inr (hw _ (List.mem_of_getElem? (i := 18) rfl))) (Or.inl (hw _ (List.mem_of_getElem? (i := 20) rfl))) (by decide) (t := (.array .byte)) (by decide) (t' := .int) (by decide)))
  replace F_d_at := F_d_at.same Wr50
  replace F_d_end := F_d_end.other Wr50 (Or.inr (slot_ne (a0 := a0) (Or.inr (hw _ (List.mem_of_getElem? (i := 22) rfl))) (Or.inl (hw _ (List.mem_of_getElem? (i := 20) rfl))) (by decide) (t := .int) (by decide) (t' := .int) (by decide)))
  replace hn0 : n0 ≤ h49.size := Nat.le_trans hn0 K51.1
  replace F_d_at : Fld Z h49 d "com/example/befugnis/befugnis/Der" "at" "I" (.int (1 : Int32)) := F_d_at
  refine own_baload (pc' := 38) (v := .int t0) A_r (by decide) ht0 d7_37 rfl ?_
  refine own_sipush (255 : Int32) (pc' := 41) d7_38 rfl rfl ?_
  refine own_iand (pc' := 42) d7_41 rfl ?_
  refine own_istoreN (pc' := 43) (Ls' := #[.val (.ref d), .val (.int (0 : Int32)), .val (.int (t0 &&& (255 : Int32))), .unset]) d7_42 rfl rfl ?_
  refine own_iloadN (pc' := 44) d7_43 rfl rfl ?_
  refine own_bipush (31 : Int32) (pc' := 46) d7_44 rfl rfl ?_
  refine own_iand (pc' := 47) d7_46 rfl ?_
  refine own_bipush (31 : Int32) (pc' := 49) d7_47 rfl rfl ?_
  refine own_ic_ne_t (pc' := 62) d7_49 htag (by decide) (by decide) ?_
  refine own_aloadN (pc' := 63) d7_62 rfl rfl ?_
  refine own_private (own_rl0 l Z a0 hw d r vs e L w h49 n0 hn0 hw1 hs hL hne ne_d_r ge_d A_r E_d F_d_bytes F_d_at F_d_end) E_d (hw _ (List.mem_of_getElem? (i := 40) rfl)) (hw _ (List.mem_of_getElem? (i := 41) rfl)) (hw _ (List.mem_of_getElem? (i := 42) rfl)) (hw _ (List.mem_of_getElem? (i := 10) rfl)) (hw _ (List.mem_of_getElem? (i := 7) rfl)) (hw _ (List.mem_of_getElem? (i := 43) rfl)) (plainFor_of_name own_pn1) (by decide) own_pd5 rfl (argsL := []) (rest := []) rfl rfl (W := 0) (Nat.le_refl _) (by decide) (by decide) (by decide) (by decide) rfl d7_63 (pc' := 66) rfl (fun v_ h52 hq => ?_)
  obtain ⟨rfl, K_1, E_1, F_1, F_2, F_3⟩ := hq
  show own_W l Z (⟨"com/example/befugnis/befugnis/Der", "next", "()Lcom/example/befugnis/befugnis/Der$Value;"⟩ : MethodName) prog_9_method_6_code 4 (some (.object "com/example/befugnis/befugnis/Der$Value")) ({ frames := 2, cells := 1, slots := 5, locals := 30 } : Room) n0 (fun v h => ∃ o : Addr, v = some (.ref o) ∧ h0.size ≤ o ∧ Keep h0 h [d] ∧ Exa Z h d "com/example/befugnis/befugnis/Der" ∧ Fld Z h d "com/example/befugnis/befugnis/Der" "bytes" "[B" (.ref r) ∧ Fld Z h d "com/example/befugnis/befugnis/Der" "at" "I" (.int ((2 : Int32) + L)) ∧ Fld Z h d "com/example/befugnis/befugnis/Der" "end" "I" (.int e) ∧ Exa Z h o "com/example/befugnis/befugnis/Der$Value" ∧ Fld Z h o "com/example/befugnis/befugnis/Der$Value" "bytes" "[B" (.ref r) ∧ Fld Z h o "com/example/befugnis/befugnis/Der$Value" "tag" "I" (.int (t0 &&& 255)) ∧ Fld Z h o "com/example/befugnis/befugnis/Der$Value" "start" "I" (.int 0) ∧ Fld Z h o "com/example/befugnis/befugnis/Der$Value" "contentStart" "I" (.int (((2 : Int32) + L) - L)) ∧ Fld Z h o "com/example/befugnis/befugnis/Der$Value" "end" "I" (.int ((2 : Int32) + L))) h52 0 0 66 #[.val (.ref d), .val (.int (0 : Int32)), .val (.int (t0 &&& (255 : Int32))), .unset] [.int L]
  replace A_r := A_r.keep K_1 (ninS (Ne.symm ne_d_r) nin0)
  replace E_d := E_1
  replace F_d_bytes := F_1
  replace F_d_at := F_2
  replace F_d_end := F_3
  replace hn0 : n0 ≤ h52.size := Nat.le_trans hn0 K_1.1
  refine own_istoreN (pc' := 67) (Ls' := #[.val (.ref d), .val (.int (0 : Int32)), .val (.int (t0 &&& (255 : Int32))), .val (.int L)]) d7_66 rfl rfl ?_
  refine own_iloadN (pc' := 68) d7_67 rfl rfl ?_
  refine own_aloadN (pc' := 69) d7_68 rfl rfl ?_
  refine own_getF (pc' := 72) (hw _ (List.mem_of_getElem? (i := 21) rfl)) F_d_end d7_69 rfl ?_
  refine own_aloadN (pc' := 73) d7_72 rfl rfl ?_
  refine own_getF (pc' := 76) (hw _ (List.mem_of_getElem? (i := 19) rfl)) F_d_at d7_73 rfl ?_
  refine own_isub (pc' := 77) d7_76 rfl ?_
  refine own_ic_le_t (pc' := 84) d7_77 hfit (by decide) (by decide) ?_
  refine own_aloadN (pc' := 85) d7_84 rfl rfl ?_
  refine own_dup (pc' := 86) d7_85 rfl rfl ?_
  refine own_getF (pc' := 89) (hw _ (List.mem_of_getElem? (i := 19) rfl)) F_d_at d7_86 rfl ?_
  refine own_iloadN (pc' := 90) d7_89 rfl rfl ?_
  refine own_iadd (pc' := 91) d7_90 rfl ?_
  refine own_putF (pc' := 94) (hw _ (List.mem_of_getElem? (i := 19) rfl)) F_d_at E_d (Or.inl (hw _ (List.mem_of_getElem? (i := 20) rfl))) (hw _ (List.mem_of_getElem? (i := 10) rfl)) ge_d (ty := .int) (by decide) rfl rfl d7_91 rfl (fun h53 Wr54 K55 => ?_)
  replace A_r := A_r.keep K55 (ninS (Ne.symm ne_d_r) nin0)
  replace E_d := E_d.wr Wr54
  replace F_d_bytes := F_d_bytes.other Wr54 (Or.inr (slot_ne (a0 := a0) (Or.inr (hw _ (List.mem_of_getElem? (i := 18) rfl))) (Or.inl (hw _ (List.mem_of_getElem? (i := 20) rfl))) (by decide) (t := (.array .byte)) (by decide) (t' := .int) (by decide)))
  replace F_d_at := F_d_at.same Wr54
  replace F_d_end := F_d_end.other Wr54 (Or.inr (slot_ne (a0 := a0) (Or.inr (hw _ (List.mem_of_getElem? (i := 22) rfl))) (Or.inl (hw _ (List.mem_of_getElem? (i := 20) rfl))) (by decide) (t := .int) (by decide) (t' := .int) (by decide)))
  replace hn0 : n0 ≤ h53.size := Nat.le_trans hn0 K55.1
  refine own_new (pc' := 97) (hw _ (List.mem_of_getElem? (i := 44) rfl)) (hw _ (List.mem_of_getElem? (i := 45) rfl)) (hw _ (List.mem_of_getElem? (i := 46) rfl)) d7_94 rfl (by decide) (by decide) (fun h56 o gt_o lt_o E57 E_o D_o => ?_)
  have ge_o : n0 ≤ o := Nat.le_trans hn0 gt_o
  have ne_d_o : d ≠ o := Nat.ne_of_lt (by have q := Nat.lt_of_lt_of_le E_d.lt (Nat.le_refl _); omega)
  have ne_r_o : r ≠ o := Nat.ne_of_lt (by have q := Nat.lt_of_lt_of_le A_r.lt (Nat.le_refl _); omega)
  replace A_r := A_r.ext E57
  replace E_d := E_d.ext E57
  replace F_d_bytes := F_d_bytes.ext E57
  replace F_d_at := F_d_at.ext E57
  replace F_d_end := F_d_end.ext E57
  replace hn0 : n0 ≤ h56.size := Nat.le_trans hn0 E57.1
  have F_o_bytes : Fld Z h56 o "com/example/befugnis/befugnis/Der$Value" "bytes" "[B" (.null) := D_o (Or.inr (hw _ (List.mem_of_getElem? (i := 52) rfl))) (ty := (.array .byte)) (by decide)
  have F_o_tag : Fld Z h56 o "com/example/befugnis/befugnis/Der$Value" "tag" "I" (.int (0 : Int32)) := D_o (Or.inr (hw _ (List.mem_of_getElem? (i := 54) rfl))) (ty := .int) (by decide)
  have F_o_start : Fld Z h56 o "com/example/befugnis/befugnis/Der$Value" "start" "I" (.int (0 : Int32)) := D_o (Or.inr (hw _ (List.mem_of_getElem? (i := 56) rfl))) (ty := .int) (by decide)
  have F_o_contentStart : Fld Z h56 o "com/example/befugnis/befugnis/Der$Value" "contentStart" "I" (.int (0 : Int32)) := D_o (Or.inr (hw _ (List.mem_of_getElem? (i := 58) rfl))) (ty := .int) (by decide)
  have F_o_end : Fld Z h56 o "com/example/befugnis/befugnis/Der$Value" "end" "I" (.int (0 : Int32)) := D_o (Or.inr (hw _ (List.mem_of_getElem? (i := 60) rfl))) (ty := .int) (by decide)
  have gt0_o : h0.size ≤ o := Nat.le_trans ((((Keep.refl h0 [d]).trans K51 (fun x hx => Or.inl hx)).trans K_1 (fun x hx => Or.inl hx)).trans K55 (fun x hx => Or.inl hx)).1 gt_o
  refine own_dup (pc' := 98) d7_97 rfl rfl ?_
  refine own_aloadN (pc' := 99) d7_98 rfl rfl ?_
  refine own_getF (pc' := 102) (hw _ (List.mem_of_getElem? (i := 17) rfl)) F_d_bytes d7_99 rfl ?_
  refine own_iloadN (pc' := 103) d7_102 rfl rfl ?_
  refine own_iloadN (pc' := 104) d7_103 rfl rfl ?_
  refine own_aloadN (pc' := 105) d7_104 rfl rfl ?_
  refine own_getF (pc' := 108) (hw _ (List.mem_of_getElem? (i := 19) rfl)) F_d_at d7_105 rfl ?_
  refine own_iloadN (pc' := 109) d7_108 rfl rfl ?_
  refine own_isub (pc' := 110) d7_109 rfl ?_
  refine own_aloadN (pc' := 111) d7_110 rfl rfl ?_
  refine own_getF (pc' := 114) (hw _ (List.mem_of_getElem? (i := 19) rfl)) F_d_at d7_111 rfl ?_
  refine own_specialRef (ret' := none) (own_mkVal l Z a0 hw o r (t0 &&& 255) 0 (((2 : Int32) + L) - L) ((2 : Int32) + L) h56 n0 hn0 ge_o E_o F_o_bytes F_o_tag F_o_start F_o_contentStart F_o_end) (hw _ (List.mem_of_getElem? (i := 47) rfl)) (hw _ (List.mem_of_getElem? (i := 48) rfl)) (hw _ (List.mem_of_getElem? (i := 46) rfl)) (hw _ (List.mem_of_getElem? (i := 49) rfl)) rfl (plainFor_of_name own_pn3) (by decide) own_pd8 rfl (argsL := [.ref r, .int (t0 &&& (255 : Int32)), .int (0 : Int32), .int (((2 : Int32) + L) - L), .int ((2 : Int32) + L)]) (rest := [.ref o]) rfl rfl (W := 1) (Nat.le_refl _) (by decide) (by decide) (by decide) (by decide) rfl d7_114 (pc' := 117) rfl (fun v_ h58 hq => ?_)
  obtain ⟨rfl, K_2, E_2, G_1, G_2, G_3, G_4, G_5⟩ := hq
  show own_W l Z (⟨"com/example/befugnis/befugnis/Der", "next", "()Lcom/example/befugnis/befugnis/Der$Value;"⟩ : MethodName) prog_9_method_6_code 4 (some (.object "com/example/befugnis/befugnis/Der$Value")) ({ frames := 2, cells := 1, slots := 5, locals := 30 } : Room) n0 (fun v h => ∃ o : Addr, v = some (.ref o) ∧ h0.size ≤ o ∧ Keep h0 h [d] ∧ Exa Z h d "com/example/befugnis/befugnis/Der" ∧ Fld Z h d "com/example/befugnis/befugnis/Der" "bytes" "[B" (.ref r) ∧ Fld Z h d "com/example/befugnis/befugnis/Der" "at" "I" (.int ((2 : Int32) + L)) ∧ Fld Z h d "com/example/befugnis/befugnis/Der" "end" "I" (.int e) ∧ Exa Z h o "com/example/befugnis/befugnis/Der$Value" ∧ Fld Z h o "com/example/befugnis/befugnis/Der$Value" "bytes" "[B" (.ref r) ∧ Fld Z h o "com/example/befugnis/befugnis/Der$Value" "tag" "I" (.int (t0 &&& 255)) ∧ Fld Z h o "com/example/befugnis/befugnis/Der$Value" "start" "I" (.int 0) ∧ Fld Z h o "com/example/befugnis/befugnis/Der$Value" "contentStart" "I" (.int (((2 : Int32) + L) - L)) ∧ Fld Z h o "com/example/befugnis/befugnis/Der$Value" "end" "I" (.int ((2 : Int32) + L))) h58 1 5 117 #[.val (.ref d), .val (.int (0 : Int32)), .val (.int (t0 &&& (255 : Int32))), .val (.int L)] [.ref o]
  replace A_r := A_r.keep K_2 (ninS ne_r_o nin0)
  replace E_d := E_d.keep K_2
  replace F_d_bytes := F_d_bytes.keep K_2 (ninS ne_d_o nin0)
  replace F_d_at := F_d_at.keep K_2 (ninS ne_d_o nin0)
  replace F_d_end := F_d_end.keep K_2 (ninS ne_d_o nin0)
  replace E_o := E_2
  replace F_o_bytes := G_1
  replace F_o_tag := G_2
  replace F_o_start := G_3
  replace F_o_contentStart := G_4
  replace F_o_end := G_5
  replace hn0 : n0 ≤ h58.size := Nat.le_trans hn0 K_2.1
  exact own_aret rfl rfl rfl d7_117 ⟨o, rfl, gt0_o, ((((((Keep.refl h0 [d]).trans K51 (fun x hx => Or.inl hx)).trans K_1 (fun x hx => Or.inl hx)).trans K55 (fun x hx => Or.inl hx)).ext E57).trans K_2 (allS (Or.inr gt0_o) all0)), E_d, F_d_bytes, F_d_at, F_d_end, E_o, F_o_bytes, F_o_tag, F_o_start, F_o_contentStart, F_o_end⟩
set_option maxRecDepth 65536 in
set_option maxHeartbeats 40000000 in
theorem own_remW (l : Launch) (Z : State) (a0 : Array Value) (hw : ∀ d ∈ tables_1, d.before a0 Z = true) (d r : Addr) (p e : Int32) (h0 : Heap) (n0 : Nat) (hn0 : n0 ≤ h0.size) (E_d : Exa Z h0 d "com/example/befugnis/befugnis/Der") (F_d_bytes : Fld Z h0 d "com/example/befugnis/befugnis/Der" "bytes" "[B" (.ref r)) (F_d_at : Fld Z h0 d "com/example/befugnis/befugnis/Der" "at" "I" (.int p)) (F_d_end : Fld Z h0 d "com/example/befugnis/befugnis/Der" "end" "I" (.int e)) :
    own_W l Z (⟨"com/example/befugnis/befugnis/Der", "remaining", "()I"⟩ : MethodName) prog_9_method_5_code 1 (some .int) ({ frames := 0, cells := 0, slots := 0, locals := 0 } : Room) n0 (fun v h => v = some (.int (e - p)) ∧ h0 = h) h0 0 0 0 #[.val (.ref d)] [] := by
  refine own_aloadN (pc' := 1) d5_0 rfl rfl ?_
  refine own_getF (pc' := 4) (hw _ (List.mem_of_getElem? (i := 21) rfl)) F_d_end d5_1 rfl ?_
  refine own_aloadN (pc' := 5) d5_4 rfl rfl ?_
  refine own_getF (pc' := 8) (hw _ (List.mem_of_getElem? (i := 19) rfl)) F_d_at d5_5 rfl ?_
  refine own_isub (pc' := 9) d5_8 rfl ?_
  exact own_iret rfl d5_9 ⟨rfl, rfl⟩
theorem own_sub0 (n : Int32) : n - 0 = n := by simp
set_option maxRecDepth 65536 in
set_option maxHeartbeats 40000000 in
theorem own_lawS (l : Launch) (Z : State) (a0 : Array Value) (hw : ∀ d ∈ tables_1, d.before a0 Z = true) (x0 : Int32) (x1 : Int64) (x2 n : Int32) (r : Addr) (vs : List Value) (h0 : Heap) (n0 : Nat) (hn0 : n0 ≤ h0.size) (A_r : own_A Z h0 r .byte vs) (hlen : vs.length.toInt32 = n) (hn2 : n < 2) :
    own_W l Z x code maxLocals ret room_1 n0 (fun v h => v = some (.int 1)) h0 1 7 41 #[.val (.int x0), .val (.long x1), .second, .val (.int x2), .val (.int n), .val (.ref r), .val (.int (0 : Int32)), .unset, .unset, .unset] [] := by
  refine own_aload (pc' := 43) at_41 rfl rfl ?_
  refine own_static (own_of l Z a0 hw r _ n h0 n0 hn0 A_r hlen) (hw _ (List.mem_of_getElem? (i := 5) rfl)) (hw _ (List.mem_of_getElem? (i := 6) rfl)) (hw _ (List.mem_of_getElem? (i := 7) rfl)) (hw _ (List.mem_of_getElem? (i := 8) rfl)) (plainFor_of_name own_pn1) (by decide) own_pd2 rfl (argsL := [.ref r]) (rest := []) rfl rfl (W := 0) (Nat.le_refl _) (by decide) (by decide) (by decide) (by decide) rfl at_43 (pc' := 46) rfl (fun v_ h59 hq => ?_)
  obtain ⟨d, rfl, gt_d, K_1, E_d, F_d_bytes, F_d_at, F_d_end⟩ := hq
  show own_W l Z x code maxLocals ret room_1 n0 (fun v h => v = some (.int 1)) h59 2 10 46 #[.val (.int x0), .val (.long x1), .second, .val (.int x2), .val (.int n), .val (.ref r), .val (.int (0 : Int32)), .unset, .unset, .unset] [.ref d]
  have ge_d : n0 ≤ d := Nat.le_trans hn0 gt_d
  have ne_d_r : d ≠ r := Ne.symm (Nat.ne_of_lt (by have q := Nat.lt_of_lt_of_le A_r.lt (Nat.le_refl _); omega))
  replace A_r := A_r.keep K_1 nin0
  replace hn0 : n0 ≤ h59.size := Nat.le_trans hn0 K_1.1
  refine own_astore (pc' := 48) (Ls' := #[.val (.int x0), .val (.long x1), .second, .val (.int x2), .val (.int n), .val (.ref r), .val (.int (0 : Int32)), .val (.ref d), .unset, .unset]) at_46 rfl rfl ?_
  refine own_aload (pc' := 50) at_48 rfl rfl ?_
  refine own_virtual (own_remW l Z a0 hw d r (0 : Int32) n h59 n0 hn0 E_d F_d_bytes F_d_at F_d_end) E_d (hw _ (List.mem_of_getElem? (i := 23) rfl)) (hw _ (List.mem_of_getElem? (i := 24) rfl)) (hw _ (List.mem_of_getElem? (i := 26) rfl)) (hw _ (List.mem_of_getElem? (i := 25) rfl)) (hw _ (List.mem_of_getElem? (i := 7) rfl)) (hw _ (List.mem_of_getElem? (i := 27) rfl)) (plainFor_of_name own_pn1) (by decide) own_pd5 rfl (argsL := []) (rest := []) rfl rfl (W := 0) (Nat.le_refl _) (by decide) (by decide) (by decide) (by decide) rfl at_50 (pc' := 53) rfl (fun v_ h60 hq => ?_)
  obtain ⟨rfl, rfl⟩ := hq
  show own_W l Z x code maxLocals ret room_1 n0 (fun v h => v = some (.int 1)) h59 2 10 53 #[.val (.int x0), .val (.long x1), .second, .val (.int x2), .val (.int n), .val (.ref r), .val (.int (0 : Int32)), .val (.ref d), .unset, .unset] [.int (n - (0 : Int32))]
  refine own_iload (pc' := 55) at_53 rfl rfl ?_
  refine own_ic_eq_t (pc' := 60) at_55 (own_sub0 n) (by decide) (by decide) ?_
  refine own_aload (pc' := 62) at_60 rfl rfl ?_
  refine own_virtual (own_aeW l Z a0 hw d r (0 : Int32) n h59 n0 hn0 E_d F_d_bytes F_d_at F_d_end) E_d (hw _ (List.mem_of_getElem? (i := 28) rfl)) (hw _ (List.mem_of_getElem? (i := 29) rfl)) (hw _ (List.mem_of_getElem? (i := 31) rfl)) (hw _ (List.mem_of_getElem? (i := 30) rfl)) (hw _ (List.mem_of_getElem? (i := 7) rfl)) (hw _ (List.mem_of_getElem? (i := 32) rfl)) (plainFor_of_name own_pn1) (by decide) own_pd6 rfl (argsL := []) (rest := []) rfl rfl (W := 0) (Nat.le_refl _) (by decide) (by decide) (by decide) (by decide) rfl at_62 (pc' := 65) rfl (fun v_ h61 hq => ?_)
  obtain ⟨rfl, rfl⟩ := hq
  show own_W l Z x code maxLocals ret room_1 n0 (fun v h => v = some (.int 1)) h59 2 10 65 #[.val (.int x0), .val (.long x1), .second, .val (.int x2), .val (.int n), .val (.ref r), .val (.int (0 : Int32)), .val (.ref d), .unset, .unset] [.int (own_ae (0 : Int32) n)]
  refine own_iload (pc' := 67) at_65 rfl rfl ?_
  refine own_if_ne (pc' := 74) (pf := 70) at_67 (by decide) (by decide) rfl (fun h_67 => ?_) (fun h_67 => ?_)
  · refine own_iconst (0 : Int32) (pc' := 75) at_74 rfl rfl ?_
    refine own_ic_eq_t (pc' := 80) at_75 (if_pos (fun q => h_67 q.symm)) (by decide) (by decide) ?_
    refine own_iload (pc' := 82) at_80 rfl rfl ?_
    refine own_iconst (2 : Int32) (pc' := 83) at_82 rfl rfl ?_
    refine own_ic_ge_f (pc' := 86) at_83 hn2 rfl ?_
    refine own_iconst (1 : Int32) (pc' := 87) at_86 rfl rfl ?_
    exact own_bret (v := (1 : Int32)) rfl (by first | rfl | decide | assumption) at_87 rfl
  · refine own_iconst (1 : Int32) (pc' := 71) at_70 rfl rfl ?_
    refine own_goto (pc' := 75) at_71 (by decide) (by decide) ?_
    refine own_ic_eq_t (pc' := 80) at_75 (if_neg (fun q => q h_67.symm)) (by decide) (by decide) ?_
    refine own_iload (pc' := 82) at_80 rfl rfl ?_
    refine own_iconst (2 : Int32) (pc' := 83) at_82 rfl rfl ?_
    refine own_ic_ge_f (pc' := 86) at_83 hn2 rfl ?_
    refine own_iconst (1 : Int32) (pc' := 87) at_86 rfl rfl ?_
    exact own_bret (v := (1 : Int32)) rfl (by first | rfl | decide | assumption) at_87 rfl
set_option maxRecDepth 65536 in
set_option maxHeartbeats 40000000 in
theorem own_lawL (l : Launch) (Z : State) (a0 : Array Value) (hw : ∀ d ∈ tables_1, d.before a0 Z = true) (x0 : Int32) (x1 : Int64) (x2 n L t0 w : Int32) (r : Addr) (vs : List Value) (h0 : Heap) (n0 : Nat) (hn0 : n0 ≤ h0.size) (A_r : own_A Z h0 r .byte vs) (hlen : vs.length.toInt32 = n) (hn2 : ¬ n < 2) (hn7 : n.toInt ≤ 7) (ht0 : vs[(0 : Int32).toNatClampNeg]? = some (.int t0)) (hw1 : vs[(1 : Int32).toNatClampNeg]? = some (.int w)) (hs : (w &&& 255) < 128) (hL : (w &&& 255) = L) (hL0 : 0 ≤ L.toInt) (hLn : L.toInt ≤ n.toInt - 2) :
    own_W l Z x code maxLocals ret room_1 n0 (fun v h => v = some (.int 1)) h0 1 7 41 #[.val (.int x0), .val (.long x1), .second, .val (.int x2), .val (.int n), .val (.ref r), .val (.int L), .unset, .unset, .unset] [] := by
  have c2 : (2 : Int32).toInt = 2 := rfl
  have c0 : (0 : Int32).toInt = 0 := rfl
  have c1 : (1 : Int32).toInt = 1 := rfl
  rw [Int32.lt_iff_toInt_lt, c2] at hn2
  have a1 := c_isub n 2
  have a2 := rng32 (n - 2)
  have a3 := c_iadd 2 L
  have a4 := rng32 (2 + L)
  have a5 := c_isub n (2 + L)
  have a6 := rng32 (n - (2 + L))
  have a7 := c_isub (n - 2) L
  have a8 := rng32 (n - 2 - L)
  have hne0 : ¬ (0 : Int32) = n := by rw [← Int32.toInt_inj]; omega
  have hne1 : ¬ (1 : Int32) = n := by rw [← Int32.toInt_inj]; omega
  have hfit : ¬ n - 2 < L := by rw [Int32.lt_iff_toInt_lt]; omega
  have hr : n - (2 + L) = n - 2 - L := by rw [← Int32.toInt_inj]; omega
  refine own_aload (pc' := 43) at_41 rfl rfl ?_
  refine own_static (own_of l Z a0 hw r _ n h0 n0 hn0 A_r hlen) (hw _ (List.mem_of_getElem? (i := 5) rfl)) (hw _ (List.mem_of_getElem? (i := 6) rfl)) (hw _ (List.mem_of_getElem? (i := 7) rfl)) (hw _ (List.mem_of_getElem? (i := 8) rfl)) (plainFor_of_name own_pn1) (by decide) own_pd2 rfl (argsL := [.ref r]) (rest := []) rfl rfl (W := 0) (Nat.le_refl _) (by decide) (by decide) (by decide) (by decide) rfl at_43 (pc' := 46) rfl (fun v_ h62 hq => ?_)
  obtain ⟨d, rfl, gt_d, K_1, E_d, F_d_bytes, F_d_at, F_d_end⟩ := hq
  show own_W l Z x code maxLocals ret room_1 n0 (fun v h => v = some (.int 1)) h62 2 10 46 #[.val (.int x0), .val (.long x1), .second, .val (.int x2), .val (.int n), .val (.ref r), .val (.int L), .unset, .unset, .unset] [.ref d]
  have ge_d : n0 ≤ d := Nat.le_trans hn0 gt_d
  have ne_d_r : d ≠ r := Ne.symm (Nat.ne_of_lt (by have q := Nat.lt_of_lt_of_le A_r.lt (Nat.le_refl _); omega))
  replace A_r := A_r.keep K_1 nin0
  replace hn0 : n0 ≤ h62.size := Nat.le_trans hn0 K_1.1
  refine own_astore (pc' := 48) (Ls' := #[.val (.int x0), .val (.long x1), .second, .val (.int x2), .val (.int n), .val (.ref r), .val (.int L), .val (.ref d), .unset, .unset]) at_46 rfl rfl ?_
  refine own_aload (pc' := 50) at_48 rfl rfl ?_
  refine own_virtual (own_remW l Z a0 hw d r (0 : Int32) n h62 n0 hn0 E_d F_d_bytes F_d_at F_d_end) E_d (hw _ (List.mem_of_getElem? (i := 23) rfl)) (hw _ (List.mem_of_getElem? (i := 24) rfl)) (hw _ (List.mem_of_getElem? (i := 26) rfl)) (hw _ (List.mem_of_getElem? (i := 25) rfl)) (hw _ (List.mem_of_getElem? (i := 7) rfl)) (hw _ (List.mem_of_getElem? (i := 27) rfl)) (plainFor_of_name own_pn1) (by decide) own_pd5 rfl (argsL := []) (rest := []) rfl rfl (W := 0) (Nat.le_refl _) (by decide) (by decide) (by decide) (by decide) rfl at_50 (pc' := 53) rfl (fun v_ h63 hq => ?_)
  obtain ⟨rfl, rfl⟩ := hq
  show own_W l Z x code maxLocals ret room_1 n0 (fun v h => v = some (.int 1)) h62 2 10 53 #[.val (.int x0), .val (.long x1), .second, .val (.int x2), .val (.int n), .val (.ref r), .val (.int L), .val (.ref d), .unset, .unset] [.int (n - (0 : Int32))]
  refine own_iload (pc' := 55) at_53 rfl rfl ?_
  refine own_ic_eq_t (pc' := 60) at_55 (own_sub0 n) (by decide) (by decide) ?_
  refine own_aload (pc' := 62) at_60 rfl rfl ?_
  refine own_virtual (own_aeW l Z a0 hw d r (0 : Int32) n h62 n0 hn0 E_d F_d_bytes F_d_at F_d_end) E_d (hw _ (List.mem_of_getElem? (i := 28) rfl)) (hw _ (List.mem_of_getElem? (i := 29) rfl)) (hw _ (List.mem_of_getElem? (i := 31) rfl)) (hw _ (List.mem_of_getElem? (i := 30) rfl)) (hw _ (List.mem_of_getElem? (i := 7) rfl)) (hw _ (List.mem_of_getElem? (i := 32) rfl)) (plainFor_of_name own_pn1) (by decide) own_pd6 rfl (argsL := []) (rest := []) rfl rfl (W := 0) (Nat.le_refl _) (by decide) (by decide) (by decide) (by decide) rfl at_62 (pc' := 65) rfl (fun v_ h64 hq => ?_)
  obtain ⟨rfl, rfl⟩ := hq
  show own_W l Z x code maxLocals ret room_1 n0 (fun v h => v = some (.int 1)) h62 2 10 65 #[.val (.int x0), .val (.long x1), .second, .val (.int x2), .val (.int n), .val (.ref r), .val (.int L), .val (.ref d), .unset, .unset] [.int (own_ae (0 : Int32) n)]
  refine own_iload (pc' := 67) at_65 rfl rfl ?_
  refine own_if_ne_t (pc' := 74) at_67 (fun q => hne0 q.symm) (by decide) (by decide) ?_
  refine own_iconst (0 : Int32) (pc' := 75) at_74 rfl rfl ?_
  refine own_ic_eq_t (pc' := 80) at_75 (own_ae0 hne0) (by decide) (by decide) ?_
  refine own_iload (pc' := 82) at_80 rfl rfl ?_
  refine own_iconst (2 : Int32) (pc' := 83) at_82 rfl rfl ?_
  refine own_ic_ge_t (pc' := 88) at_83 (by rw [Int32.lt_iff_toInt_lt, c2]; exact hn2) (by decide) (by decide) ?_
  refine own_aload (pc' := 90) at_88 rfl rfl ?_
  refine own_iconst (0 : Int32) (pc' := 91) at_90 rfl rfl ?_
  refine own_baload (pc' := 92) (v := .int t0) A_r (by decide) ht0 at_91 rfl ?_
  refine own_sipush (255 : Int32) (pc' := 95) at_92 rfl rfl ?_
  refine own_iand (pc' := 96) at_95 rfl ?_
  refine own_istore (pc' := 98) (Ls' := #[.val (.int x0), .val (.long x1), .second, .val (.int x2), .val (.int n), .val (.ref r), .val (.int L), .val (.ref d), .val (.int (t0 &&& (255 : Int32))), .unset]) at_96 rfl rfl ?_
  refine own_iload (pc' := 100) at_98 rfl rfl ?_
  refine own_bipush (31 : Int32) (pc' := 102) at_100 rfl rfl ?_
  refine own_iand (pc' := 103) at_102 rfl ?_
  refine own_bipush (31 : Int32) (pc' := 105) at_103 rfl rfl ?_
  refine own_ic_ne (pc' := 110) (pf := 108) at_105 (by decide) (by decide) rfl (fun h_105 => ?_) (fun h_105 => ?_)
  · refine own_aload (pc' := 112) at_110 rfl rfl ?_
    refine own_virtual (own_next0 l Z a0 hw d r vs n L t0 w h62 n0 hn0 hw1 hs hL hne0 hne1 ht0 h_105 hfit ne_d_r ge_d A_r E_d F_d_bytes F_d_at F_d_end) E_d (hw _ (List.mem_of_getElem? (i := 34) rfl)) (hw _ (List.mem_of_getElem? (i := 35) rfl)) (hw _ (List.mem_of_getElem? (i := 37) rfl)) (hw _ (List.mem_of_getElem? (i := 36) rfl)) (hw _ (List.mem_of_getElem? (i := 7) rfl)) (hw _ (List.mem_of_getElem? (i := 38) rfl)) (plainFor_of_name own_pn1) (by decide) own_pd7 rfl (argsL := []) (rest := []) rfl rfl (W := 0) (Nat.le_refl _) (by decide) (by decide) (by decide) (by decide) rfl at_112 (pc' := 115) rfl (fun v_ h65 hq => ?_)
    obtain ⟨o, rfl, gt_o, K_2, E_2, G_1, G_2, G_3, E_o, H_1, H_2, H_3, H_4, H_5⟩ := hq
    show own_W l Z x code maxLocals ret room_1 n0 (fun v h => v = some (.int 1)) h65 3 15 115 #[.val (.int x0), .val (.long x1), .second, .val (.int x2), .val (.int n), .val (.ref r), .val (.int L), .val (.ref d), .val (.int (t0 &&& (255 : Int32))), .unset] [.ref o]
    replace A_r := A_r.keep K_2 (ninS (Ne.symm ne_d_r) nin0)
    replace E_d := E_2
    replace F_d_bytes := G_1
    replace F_d_at := G_2
    replace F_d_end := G_3
    replace hn0 : n0 ≤ h65.size := Nat.le_trans hn0 K_2.1
    refine own_astore (pc' := 117) (Ls' := #[.val (.int x0), .val (.long x1), .second, .val (.int x2), .val (.int n), .val (.ref r), .val (.int L), .val (.ref d), .val (.int (t0 &&& (255 : Int32))), .val (.ref o)]) at_115 rfl rfl ?_
    refine own_aload (pc' := 119) at_117 rfl rfl ?_
    refine own_virtual (own_tagW l Z a0 hw o (t0 &&& 255) h65 n0 hn0 H_2) E_o (hw _ (List.mem_of_getElem? (i := 61) rfl)) (hw _ (List.mem_of_getElem? (i := 62) rfl)) (hw _ (List.mem_of_getElem? (i := 64) rfl)) (hw _ (List.mem_of_getElem? (i := 63) rfl)) (hw _ (List.mem_of_getElem? (i := 46) rfl)) (hw _ (List.mem_of_getElem? (i := 65) rfl)) (plainFor_of_name own_pn3) (by decide) own_pd5 rfl (argsL := []) (rest := []) rfl rfl (W := 0) (Nat.le_refl _) (by decide) (by decide) (by decide) (by decide) rfl at_119 (pc' := 122) rfl (fun v_ h66 hq => ?_)
    obtain ⟨rfl, rfl⟩ := hq
    show own_W l Z x code maxLocals ret room_1 n0 (fun v h => v = some (.int 1)) h65 3 15 122 #[.val (.int x0), .val (.long x1), .second, .val (.int x2), .val (.int n), .val (.ref r), .val (.int L), .val (.ref d), .val (.int (t0 &&& (255 : Int32))), .val (.ref o)] [.int (t0 &&& 255)]
    refine own_iload (pc' := 124) at_122 rfl rfl ?_
    refine own_ic_eq_t (pc' := 129) at_124 rfl (by decide) (by decide) ?_
    refine own_aload (pc' := 131) at_129 rfl rfl ?_
    refine own_virtual (own_remW l Z a0 hw d r ((2 : Int32) + L) n h65 n0 hn0 E_d F_d_bytes F_d_at F_d_end) E_d (hw _ (List.mem_of_getElem? (i := 23) rfl)) (hw _ (List.mem_of_getElem? (i := 24) rfl)) (hw _ (List.mem_of_getElem? (i := 26) rfl)) (hw _ (List.mem_of_getElem? (i := 25) rfl)) (hw _ (List.mem_of_getElem? (i := 7) rfl)) (hw _ (List.mem_of_getElem? (i := 27) rfl)) (plainFor_of_name own_pn1) (by decide) own_pd5 rfl (argsL := []) (rest := []) rfl rfl (W := 0) (Nat.le_refl _) (by decide) (by decide) (by decide) (by decide) rfl at_131 (pc' := 134) rfl (fun v_ h67 hq => ?_)
    obtain ⟨rfl, rfl⟩ := hq
    show own_W l Z x code maxLocals ret room_1 n0 (fun v h => v = some (.int 1)) h65 3 15 134 #[.val (.int x0), .val (.long x1), .second, .val (.int x2), .val (.int n), .val (.ref r), .val (.int L), .val (.ref d), .val (.int (t0 &&& (255 : Int32))), .val (.ref o)] [.int (n - ((2 : Int32) + L))]
    refine own_iload (pc' := 136) at_134 rfl rfl ?_
    refine own_iconst (2 : Int32) (pc' := 137) at_136 rfl rfl ?_
    refine own_isub (pc' := 138) at_137 rfl ?_
    refine own_iload (pc' := 140) at_138 rfl rfl ?_
    refine own_isub (pc' := 141) at_140 rfl ?_
    refine own_ic_eq_t (pc' := 146) at_141 hr (by decide) (by decide) ?_
    refine own_aload (pc' := 148) at_146 rfl rfl ?_
    refine own_virtual (own_aeW l Z a0 hw d r ((2 : Int32) + L) n h65 n0 hn0 E_d F_d_bytes F_d_at F_d_end) E_d (hw _ (List.mem_of_getElem? (i := 28) rfl)) (hw _ (List.mem_of_getElem? (i := 29) rfl)) (hw _ (List.mem_of_getElem? (i := 31) rfl)) (hw _ (List.mem_of_getElem? (i := 30) rfl)) (hw _ (List.mem_of_getElem? (i := 7) rfl)) (hw _ (List.mem_of_getElem? (i := 32) rfl)) (plainFor_of_name own_pn1) (by decide) own_pd6 rfl (argsL := []) (rest := []) rfl rfl (W := 0) (Nat.le_refl _) (by decide) (by decide) (by decide) (by decide) rfl at_148 (pc' := 151) rfl (fun v_ h68 hq => ?_)
    obtain ⟨rfl, rfl⟩ := hq
    show own_W l Z x code maxLocals ret room_1 n0 (fun v h => v = some (.int 1)) h65 3 15 151 #[.val (.int x0), .val (.long x1), .second, .val (.int x2), .val (.int n), .val (.ref r), .val (.int L), .val (.ref d), .val (.int (t0 &&& (255 : Int32))), .val (.ref o)] [.int (own_ae ((2 : Int32) + L) n)]
    refine own_iload (pc' := 153) at_151 rfl rfl ?_
    refine own_iload (pc' := 155) at_153 rfl rfl ?_
    refine own_iconst (2 : Int32) (pc' := 156) at_155 rfl rfl ?_
    refine own_isub (pc' := 157) at_156 rfl ?_
    refine own_ic_ne (pc' := 164) (pf := 160) at_157 (by decide) (by decide) rfl (fun h_157 => ?_) (fun h_157 => ?_)
    · refine own_iconst (0 : Int32) (pc' := 165) at_164 rfl rfl ?_
      refine own_ic_ne_f (pc' := 168) at_165 (if_pos (fun q => h_157 (by rw [← Int32.toInt_inj] at q ⊢; omega))) rfl ?_
      refine own_iconst (1 : Int32) (pc' := 169) at_168 rfl rfl ?_
      refine own_goto (pc' := 173) at_169 (by decide) (by decide) ?_
      exact own_bret (v := (1 : Int32)) rfl (by first | rfl | decide | assumption) at_173 rfl
    · refine own_iconst (1 : Int32) (pc' := 161) at_160 rfl rfl ?_
      refine own_goto (pc' := 165) at_161 (by decide) (by decide) ?_
      refine own_ic_ne_f (pc' := 168) at_165 (if_neg (fun q => q (by rw [← Int32.toInt_inj] at h_157 ⊢; omega))) rfl ?_
      refine own_iconst (1 : Int32) (pc' := 169) at_168 rfl rfl ?_
      refine own_goto (pc' := 173) at_169 (by decide) (by decide) ?_
      exact own_bret (v := (1 : Int32)) rfl (by first | rfl | decide | assumption) at_173 rfl
  · refine own_iconst (1 : Int32) (pc' := 109) at_108 rfl rfl ?_
    exact own_bret (v := (1 : Int32)) rfl (by first | rfl | decide | assumption) at_109 rfl
set_option maxRecDepth 65536 in
set_option maxHeartbeats 40000000 in
theorem own_law (l : Launch) (Z : State) (a0 : Array Value) (hw : ∀ d ∈ tables_1, d.before a0 Z = true) (x0 : Int32) (x1 : Int64) (x2 : Int32) (h0 : Heap) (n0 : Nat) (hn0 : n0 ≤ h0.size) :
    own_W l Z x code maxLocals ret room_1 n0 (fun v h => v = some (.int 1)) h0 0 0 0 #[.val (.int x0), .val (.long x1), .second, .val (.int x2), .unset, .unset, .unset, .unset, .unset, .unset] [] := by
  refine own_iloadN (pc' := 1) at_0 rfl rfl ?_
  refine own_bipush (7 : Int32) (pc' := 3) at_1 rfl rfl ?_
  refine own_iand (pc' := 4) at_3 rfl ?_
  have hm := c_and x0 7 (by decide)
  have e7 : (7 : Int32).toInt = 7 := rfl
  generalize hn_ : (x0 &&& (7 : Int32)) = n
  rw [hn_, e7] at hm
  have z0 : (0 : Int32).toInt = 0 := rfl
  have c2 : (2 : Int32).toInt = 2 := rfl
  have c1 : (1 : Int32).toInt = 1 := rfl
  have hn : ¬ n < 0 := by rw [Int32.lt_iff_toInt_lt]; omega
  have hn7 : n.toNatClampNeg ≤ 7 := by rw [Int32.toNatClampNeg]; omega
  refine own_istore (pc' := 6) (Ls' := #[.val (.int x0), .val (.long x1), .second, .val (.int x2), .val (.int n), .unset, .unset, .unset, .unset, .unset]) at_4 rfl rfl ?_
  refine own_iload (pc' := 8) at_6 rfl rfl ?_
  refine own_lloadN (pc' := 9) at_8 rfl rfl ?_
  refine own_static (own_drawW l Z a0 hw n x1 h0 n0 hn0 hn hn7) (hw _ (List.mem_of_getElem? (i := 0) rfl)) (hw _ (List.mem_of_getElem? (i := 1) rfl)) (hw _ (List.mem_of_getElem? (i := 2) rfl)) (hw _ (List.mem_of_getElem? (i := 3) rfl)) (plainFor_of_name own_pn0) (by decide) own_pd1 rfl (argsL := [.int n, .long x1]) (rest := []) rfl rfl (W := 0) (Nat.le_refl _) (by decide) (by decide) (by decide) (by decide) rfl at_9 (pc' := 12) rfl (fun v_ h69 hq => ?_)
  obtain ⟨r, ys, rfl, gt_r, K_0, hyl, A_r⟩ := hq
  show own_W l Z x code maxLocals ret room_1 n0 (fun v h => v = some (.int 1)) h69 1 7 12 #[.val (.int x0), .val (.long x1), .second, .val (.int x2), .val (.int n), .unset, .unset, .unset, .unset, .unset] [.ref r]
  have ge_r : n0 ≤ r := Nat.le_trans hn0 gt_r
  replace hn0 : n0 ≤ h69.size := Nat.le_trans hn0 K_0.1
  have hlen : (ys.map Value.int).length.toInt32 = n := by rw [List.length_map, hyl]; exact (back32 hn).1
  refine own_astore (pc' := 14) (Ls' := #[.val (.int x0), .val (.long x1), .second, .val (.int x2), .val (.int n), .val (.ref r), .unset, .unset, .unset, .unset]) at_12 rfl rfl ?_
  refine own_iconst (0 : Int32) (pc' := 15) at_14 rfl rfl ?_
  refine own_istore (pc' := 17) (Ls' := #[.val (.int x0), .val (.long x1), .second, .val (.int x2), .val (.int n), .val (.ref r), .val (.int (0 : Int32)), .unset, .unset, .unset]) at_15 rfl rfl ?_
  refine own_iload (pc' := 19) at_17 rfl rfl ?_
  refine own_iconst (2 : Int32) (pc' := 20) at_19 rfl rfl ?_
  refine own_ic_lt (pc' := 41) (pf := 23) at_20 (by decide) (by decide) rfl (fun h_20 => ?_) (fun h_20 => ?_)
  · exact own_lawS l Z a0 hw x0 x1 x2 n r _ h69 n0 hn0 A_r hlen h_20
  · have h2 := h_20
    rw [Int32.lt_iff_toInt_lt, c2] at h2
    have b1 := c_isub n 1
    have b2 := rng32 (n - 1)
    have hp : 0 < (n - 1).toInt := by omega
    refine own_iloadN (pc' := 24) at_23 rfl rfl ?_
    refine own_ldcI (pc' := 26) (u := (2147483647 : Int32)) (hw _ (List.mem_of_getElem? (i := 33) rfl)) at_24 rfl ?_
    refine own_iand (pc' := 27) at_26 rfl ?_
    refine own_iload (pc' := 29) at_27 rfl rfl ?_
    refine own_iconst (1 : Int32) (pc' := 30) at_29 rfl rfl ?_
    refine own_isub (pc' := 31) at_30 rfl ?_
    refine own_irem (pc' := 32) at_31 rfl (by intro q; rw [q] at hp; exact absurd hp (by decide)) ?_
    have i1 := (c_and x2 2147483647 (by decide)).1
    have i2 := (c_iremV (x2 &&& 2147483647) (n - 1)).1 i1 hp
    generalize hL_ : ((x2 &&& (2147483647 : Int32)) % (n - (1 : Int32))) = L
    rw [hL_] at i2
    refine own_istore (pc' := 34) (Ls' := #[.val (.int x0), .val (.long x1), .second, .val (.int x2), .val (.int n), .val (.ref r), .val (.int L), .unset, .unset, .unset]) at_32 rfl rfl ?_
    refine own_aload (pc' := 36) at_34 rfl rfl ?_
    refine own_iconst (1 : Int32) (pc' := 37) at_36 rfl rfl ?_
    refine own_iload (pc' := 39) at_37 rfl rfl ?_
    refine own_i2b (pc' := 40) at_39 rfl ?_
    obtain ⟨b0, b1_, ys2, rfl⟩ : ∃ b0 b1_ ys2, ys = b0 :: b1_ :: ys2 := by
      match ys, hyl with
      | b0 :: b1_ :: ys2, _ => exact ⟨b0, b1_, ys2, rfl⟩
      | [_], q => rw [Int32.toNatClampNeg] at q; simp only [List.length_cons, List.length_nil] at q; omega
      | [], q => rw [Int32.toNatClampNeg] at q; simp only [List.length_cons, List.length_nil] at q; omega
    refine own_bastore (pc' := 41) A_r (by decide) (by show 1 < _; simp) ge_r at_40 rfl (fun h70 K71 A_new => ?_)
    replace hn0 : n0 ≤ h70.size := Nat.le_trans hn0 K71.1
    replace A_r := A_new
    replace A_r : own_A Z h70 r .byte (.int b0 :: .int (nar .byte L.toInt8.toInt32) :: ys2.map Value.int) := A_r.cast rfl
    rw [own_smallb L (by omega) (by omega)] at A_r
    have s255 := own_small255 L (by omega) (by omega)
    have c128 : (128 : Int32).toInt = 128 := rfl
    exact own_lawL l Z a0 hw x0 x1 x2 n L b0 L r _ h70 n0 hn0 A_r (by simpa using hlen) h_20 (by omega) rfl rfl (by rw [s255, Int32.lt_iff_toInt_lt, c128]; omega) s255 (by omega) (by omega)
set_option maxRecDepth 65536 in
set_option maxHeartbeats 40000000 in
theorem comes_1 {Post : Tables → Env → Array Value → State → Outcome → State → Prop} (hpost : ∀ tb e args s v u, (limb_1_1.after args s (.returned v) u = true ∧ limb_1_2.after args s (.returned v) u = true ∧ True) → FrameEnd s (.returned v) u (Jvm.fieldLocs frame_1_writes args s ++ Jvm.arrayLocs frame_1_arrays args s ++ Jvm.staticLocs frame_1_statics s) 16 128 → Post tb e args s (.returned v) u) :
    ArmFor flags0 classFile x code maxLocals ret World_1 tables_1 room_1 Calls_1 rest_1 Pre_1 Post := by
  intro l hfl _ _ p e ha hc hk s m args below hf hA hF happ hP
  obtain ⟨hcalls, hrest, hpre⟩ := hP
  obtain ⟨-, -, -, hnamed, -, -, -, hat⟩ := (Spec.applies_iff hf).mp happ
  obtain ⟨hg, hn⟩ := and_e (Cond.before_iff.mp (show (Jvm.Cond.and given_1 narrow_1).before args s = true from hpre))
  obtain ⟨hcount, hg0⟩ := and_e hg
  obtain ⟨w0, w1, w2, rfl⟩ : ∃ w0 w1 w2 : Value, args = #[w0, w1, w2] := by
    have hs : args.size = 3 := by simpa [Cond.value, given_1] using hcount
    obtain ⟨L⟩ := args
    match L, hs with
    | [w0, w1, w2], _ => exact ⟨w0, w1, w2, rfl⟩
  have hw := fun d (hd : d ∈ tables_1) => atoms_spec (ws := Jvm.Cond.code x code maxLocals ret :: tables_1) hat d (List.mem_cons_of_mem _ hd)
  obtain ⟨hg0v, hg1⟩ := and_e hg0
  obtain ⟨x0, e0⟩ := is_v hg0v
  obtain rfl : w0 = (.int x0) := Option.some.inj e0
  obtain ⟨hg1v, hg2⟩ := and_e hg1
  obtain ⟨x1, e1⟩ := isL_v hg1v
  obtain rfl : w1 = (.long x1) := Option.some.inj e1
  obtain ⟨x2, e2⟩ := is_v hg2
  obtain rfl : w2 = (.int x2) := Option.some.inj e2
  obtain ⟨n, o, h1, h2, h3, _, L, rfl, ⟨hq1, N⟩, hq⟩ := own_met (argsL := [.int x0, .long x1, .int x2]) (own_law l s _ hw x0 x1 x2 s.heap s.heap.size (Nat.le_refl _)) (plainFor_of_name own_pn0) rfl tables_1 p e ha hc hk s m _ below hf ((Spec.applies_iff_loose hf).mp happ).1 ⟨rfl, State.Warmed39.refl s, rfl⟩ trivial
  subst hq1
  refine ⟨n, _, h1, h2, h3, hpost _ _ _ _ _ _ ⟨Cond.after_iff.mpr rfl, Cond.after_iff.mpr (eq_i res_at (Term.int_eval (1)) rfl), trivial⟩ ⟨hq.1, hq.2.1, (hq.2.2.sift fun y hy => Or.inr (N y hy)).mono (by decide) (by decide)⟩⟩
theorem main_1_1 : Claimed_1_1 := comes_1 fun _ _ _ _ _ _ h hF => ⟨h.1, hF⟩
theorem main_1_2 : Claimed_1_2 := comes_1 fun _ _ _ _ _ _ h hF => ⟨h.2.1, hF⟩
end Jvm.Pilot.@@N@@
namespace Jvm.Pilot.@@N@@
open Jvm Jvm.ClassFile Sem Op Lib Jvm.Free Jvm.Stand Jvm.Pilot.@@N@@.Jvm.D
/-! MADE BY PROGRAM (witnessworld.py) out of the Statement's table words and the real class files: 10 classes; the members and pool entries that the words name. The judged class is class 1, her method 2. -/
namespace start1
open Jvm.ClassFile
def u (s : String) : CpInfo := .utf8 (stringToUtf16 s)
/-- a pool by its gaps: so many unusable entries, then the entry; so many at the end -/
def gap : Nat → List CpInfo → List CpInfo
  | 0, r => r
  | n + 1, r => .unusable :: gap n r
def poolList (es : List (Nat × CpInfo)) (last : Nat) : List CpInfo := es.foldr (fun e r => gap e.1 (e.2 :: r)) (gap last [])
def pool (es : List (Nat × CpInfo)) (last : Nat) : Array CpInfo := ⟨poolList es last⟩
def fileOf (pool : Array CpInfo) (this : Nat) (attrs : Array Attribute := #[]) (ms : Array MethodInfo := #[]) (fl : Nat := 33) (sup : Nat := 0) (ifs : Array Nat := #[]) (fds : Array FieldInfo := #[]) : ClassFile where
  minorVersion := 0
  majorVersion := 65
  constantPool := pool
  accessFlags := fl
  thisClass := this
  superClass := sup
  interfaces := ifs
  fields := fds
  methods := ms
  attributes := attrs
def plain (name : String) (sup : Option ClassId) : Class where
  name := name
  kind := .ordinary
  loader := none
  accessFlags := 33
  super := sup
  interfaces := #[]
  cf := none
  fields := #[]
  methods := #[]
  instanceTypes := #[]
  staticTypes := #[]
  resolved := #[]
  callSites := []
  init := .initialized
  statics := none
  mirror := none

def pool0 : Array CpInfo := pool [(5, u "<init>"), (0, u "()V"), (1, .class_ 10), (1, u "java/lang/Object")] 113

def k0c0 : Code := { maxStack := 0, maxLocals := 1, code := object_method_1_code, exceptionTable := #[], attributes := #[] }
def k0m0 : Method := { name := "<init>", desc := "()V", sig := { parameters := [], returnType := none }, accessFlags := 1, code := some k0c0 }
/-- java/lang/Object -/
def k0 : Class := { plain "java/lang/Object" none with
  accessFlags := 33
  interfaces := #[]
  cf := some (fileOf pool0 8 #[] #[{ accessFlags := 1, nameIndex := 5, descriptorIndex := 6, attributes := #[] }] 33 0 #[] #[])
  fields := #[]
  methods := #[k0m0]
  instanceTypes := #[]
  staticTypes := #[]
  resolved := Array.replicate 124 none
  statics := none }

def pool1 : Array CpInfo := pool [(2, .class_ 4), (1, u "java/lang/Object"), (0, u "<init>"), (0, u "()V"), (0, .methodref 8 9), (0, .class_ 10), (0, .nameAndType 11 12), (0, u "com/example/befugnis/befugnis/DerOfPinLaw"), (0, u "draw"), (0, u "(IJ)[B"), (0, .integer 2147483647), (0, .methodref 15 16), (0, .class_ 17), (0, .nameAndType 18 19), (0, u "com/example/befugnis/befugnis/Der"), (0, u "of"), (0, u "([B)Lcom/example/befugnis/befugnis/Der;"), (0, .methodref 15 21), (0, .nameAndType 22 23), (0, u "remaining"), (0, u "()I"), (0, .methodref 15 25), (0, .nameAndType 26 27), (0, u "atEnd"), (0, u "()Z"), (0, .methodref 15 29), (0, .nameAndType 30 31), (0, u "next"), (0, u "()Lcom/example/befugnis/befugnis/Der$Value;"), (0, .methodref 33 34), (0, .class_ 35), (0, .nameAndType 36 23), (0, u "com/example/befugnis/befugnis/Der$Value"), (0, u "tag"), (5, u "law"), (0, u "(IJI)Z")] 4

def k1m0 : Method := { name := "<init>", desc := "()V", sig := { parameters := [], returnType := none }, accessFlags := 1, code := none }
def k1c1 : Code := { maxStack := 5, maxLocals := 4, code := method_2_code, exceptionTable := #[], attributes := #[] }
def k1m1 : Method := { name := "draw", desc := "(IJ)[B", sig := { parameters := [.int, .long], returnType := some (.array .byte) }, accessFlags := 10, code := some k1c1 }
def k1c2 : Code := { maxStack := 4, maxLocals := 10, code := code, exceptionTable := #[], attributes := #[] }
def k1m2 : Method := { name := "law", desc := "(IJI)Z", sig := { parameters := [.int, .long, .int], returnType := some .boolean }, accessFlags := 9, code := some k1c2 }
/-- com/example/befugnis/befugnis/DerOfPinLaw -/
def k1 : Class := { plain "com/example/befugnis/befugnis/DerOfPinLaw" (some 0) with
  accessFlags := 49
  interfaces := #[]
  cf := some (fileOf pool1 8 #[] #[{ accessFlags := 1, nameIndex := 5, descriptorIndex := 6, attributes := #[] }, { accessFlags := 10, nameIndex := 11, descriptorIndex := 12, attributes := #[] }, { accessFlags := 9, nameIndex := 42, descriptorIndex := 43, attributes := #[] }] 49 2 #[] #[])
  fields := #[]
  methods := #[k1m0, k1m1, k1m2]
  instanceTypes := #[]
  staticTypes := #[]
  resolved := Array.replicate 48 none
  statics := none }

def pool2 : Array CpInfo := pool [(1, .methodref 2 3), (0, .class_ 4), (0, .nameAndType 5 6), (0, u "java/lang/Object"), (0, u "<init>"), (0, u "()V"), (0, .fieldref 8 9), (0, .class_ 10), (0, .nameAndType 11 12), (0, u "com/example/befugnis/befugnis/Der"), (0, u "bytes"), (0, u "[B"), (0, .fieldref 8 14), (0, .nameAndType 15 16), (0, u "at"), (0, u "I"), (0, .fieldref 8 18), (0, .nameAndType 19 16), (0, u "end"), (0, .methodref 8 21), (0, .nameAndType 5 22), (0, u "([BII)V"), (2, u "of"), (0, u "([B)Lcom/example/befugnis/befugnis/Der;"), (2, u "next"), (0, u "()Lcom/example/befugnis/befugnis/Der$Value;"), (0, .methodref 8 32), (0, .nameAndType 33 34), (0, u "atEnd"), (0, u "()Z"), (11, .methodref 8 47), (0, .nameAndType 48 49), (0, u "readLength"), (0, u "()I"), (4, .class_ 55), (0, u "com/example/befugnis/befugnis/Der$Value"), (0, .methodref 54 57), (0, .nameAndType 5 58), (0, u "([BIIII)V"), (6, .long 128), (5, .long 2147483647), (3, u "OBJECT_IDENTIFIER"), (2, u "SEQUENCE"), (1, u "SET"), (1, u "MAX_LENGTH_BYTES"), (6, u "remaining")] 5

def k2c0 : Code := { maxStack := 2, maxLocals := 4, code := prog_9_method_1_code, exceptionTable := #[], attributes := #[] }
def k2m0 : Method := { name := "<init>", desc := "([BII)V", sig := { parameters := [(.array .byte), .int, .int], returnType := none }, accessFlags := 2, code := some k2c0 }
def k2c1 : Code := { maxStack := 5, maxLocals := 1, code := prog_9_method_2_code, exceptionTable := #[], attributes := #[] }
def k2m1 : Method := { name := "of", desc := "([B)Lcom/example/befugnis/befugnis/Der;", sig := { parameters := [(.array .byte)], returnType := some (.object "com/example/befugnis/befugnis/Der") }, accessFlags := 8, code := some k2c1 }
def k2c2 : Code := { maxStack := 2, maxLocals := 1, code := prog_9_method_4_code, exceptionTable := #[], attributes := #[] }
def k2m2 : Method := { name := "atEnd", desc := "()Z", sig := { parameters := [], returnType := some .boolean }, accessFlags := 0, code := some k2c2 }
def k2c3 : Code := { maxStack := 2, maxLocals := 1, code := prog_9_method_5_code, exceptionTable := #[], attributes := #[] }
def k2m3 : Method := { name := "remaining", desc := "()I", sig := { parameters := [], returnType := some .int }, accessFlags := 0, code := some k2c3 }
def k2c4 : Code := { maxStack := 7, maxLocals := 4, code := prog_9_method_6_code, exceptionTable := #[], attributes := #[] }
def k2m4 : Method := { name := "next", desc := "()Lcom/example/befugnis/befugnis/Der$Value;", sig := { parameters := [], returnType := some (.object "com/example/befugnis/befugnis/Der$Value") }, accessFlags := 0, code := some k2c4 }
def k2c5 : Code := { maxStack := 7, maxLocals := 6, code := prog_9_method_8_code, exceptionTable := #[], attributes := #[] }
def k2m5 : Method := { name := "readLength", desc := "()I", sig := { parameters := [], returnType := some .int }, accessFlags := 2, code := some k2c5 }
/-- com/example/befugnis/befugnis/Der -/
def k2 : Class := { plain "com/example/befugnis/befugnis/Der" (some 0) with
  accessFlags := 32
  interfaces := #[]
  cf := some (fileOf pool2 8 #[.nestMembers #[54]] #[{ accessFlags := 2, nameIndex := 5, descriptorIndex := 22, attributes := #[] }, { accessFlags := 8, nameIndex := 25, descriptorIndex := 26, attributes := #[] }, { accessFlags := 0, nameIndex := 33, descriptorIndex := 34, attributes := #[] }, { accessFlags := 0, nameIndex := 89, descriptorIndex := 49, attributes := #[] }, { accessFlags := 0, nameIndex := 29, descriptorIndex := 30, attributes := #[] }, { accessFlags := 2, nameIndex := 48, descriptorIndex := 49, attributes := #[] }] 32 2 #[] #[{ accessFlags := 24, nameIndex := 75, descriptorIndex := 16, attributes := #[] }, { accessFlags := 24, nameIndex := 78, descriptorIndex := 16, attributes := #[] }, { accessFlags := 24, nameIndex := 80, descriptorIndex := 16, attributes := #[] }, { accessFlags := 26, nameIndex := 82, descriptorIndex := 16, attributes := #[] }, { accessFlags := 18, nameIndex := 11, descriptorIndex := 12, attributes := #[] }, { accessFlags := 18, nameIndex := 19, descriptorIndex := 16, attributes := #[] }, { accessFlags := 2, nameIndex := 15, descriptorIndex := 16, attributes := #[] }])
  fields := #[{ name := "OBJECT_IDENTIFIER", type := .int, accessFlags := 24, slot := 0, constantValue := 0 }, { name := "SEQUENCE", type := .int, accessFlags := 24, slot := 1, constantValue := 0 }, { name := "SET", type := .int, accessFlags := 24, slot := 2, constantValue := 0 }, { name := "MAX_LENGTH_BYTES", type := .int, accessFlags := 26, slot := 3, constantValue := 0 }, { name := "bytes", type := (.array .byte), accessFlags := 18, slot := 0, constantValue := 0 }, { name := "end", type := .int, accessFlags := 18, slot := 1, constantValue := 0 }, { name := "at", type := .int, accessFlags := 2, slot := 2, constantValue := 0 }]
  methods := #[k2m0, k2m1, k2m2, k2m3, k2m4, k2m5]
  instanceTypes := #[(.array .byte), .int, .int]
  staticTypes := #[.int, .int, .int, .int]
  resolved := ((Array.replicate 95 none).setIfInBounds 54 (some (.cls 3))).setIfInBounds 56 (some (.method ⟨3, 0⟩))
  statics := none }

def pool3 : Array CpInfo := pool [(1, .methodref 2 3), (0, .class_ 4), (0, .nameAndType 5 6), (0, u "java/lang/Object"), (0, u "<init>"), (0, u "()V"), (0, .fieldref 8 9), (0, .class_ 10), (0, .nameAndType 11 12), (0, u "com/example/befugnis/befugnis/Der$Value"), (0, u "bytes"), (0, u "[B"), (0, .fieldref 8 14), (0, .nameAndType 15 16), (0, u "tag"), (0, u "I"), (0, .fieldref 8 18), (0, .nameAndType 19 16), (0, u "start"), (0, .fieldref 8 21), (0, .nameAndType 22 16), (0, u "contentStart"), (0, .fieldref 8 24), (0, .nameAndType 25 16), (0, u "end"), (15, .class_ 42), (0, u "com/example/befugnis/befugnis/Der"), (31, u "()I"), (28, u "([BIIII)V")] 30

def k3c0 : Code := { maxStack := 2, maxLocals := 6, code := prog_10_method_1_code, exceptionTable := #[], attributes := #[] }
def k3m0 : Method := { name := "<init>", desc := "([BIIII)V", sig := { parameters := [(.array .byte), .int, .int, .int, .int], returnType := none }, accessFlags := 2, code := some k3c0 }
def k3c1 : Code := { maxStack := 1, maxLocals := 1, code := prog_10_method_2_code, exceptionTable := #[], attributes := #[] }
def k3m1 : Method := { name := "tag", desc := "()I", sig := { parameters := [], returnType := some .int }, accessFlags := 0, code := some k3c1 }
/-- com/example/befugnis/befugnis/Der$Value -/
def k3 : Class := { plain "com/example/befugnis/befugnis/Der$Value" (some 0) with
  accessFlags := 32
  interfaces := #[]
  cf := some (fileOf pool3 8 #[.nestHost 41] #[{ accessFlags := 2, nameIndex := 5, descriptorIndex := 103, attributes := #[] }, { accessFlags := 0, nameIndex := 15, descriptorIndex := 74, attributes := #[] }] 32 2 #[] #[{ accessFlags := 18, nameIndex := 11, descriptorIndex := 12, attributes := #[] }, { accessFlags := 18, nameIndex := 15, descriptorIndex := 16, attributes := #[] }, { accessFlags := 18, nameIndex := 19, descriptorIndex := 16, attributes := #[] }, { accessFlags := 18, nameIndex := 22, descriptorIndex := 16, attributes := #[] }, { accessFlags := 18, nameIndex := 25, descriptorIndex := 16, attributes := #[] }])
  fields := #[{ name := "bytes", type := (.array .byte), accessFlags := 18, slot := 0, constantValue := 0 }, { name := "tag", type := .int, accessFlags := 18, slot := 1, constantValue := 0 }, { name := "start", type := .int, accessFlags := 18, slot := 2, constantValue := 0 }, { name := "contentStart", type := .int, accessFlags := 18, slot := 3, constantValue := 0 }, { name := "end", type := .int, accessFlags := 18, slot := 4, constantValue := 0 }]
  methods := #[k3m0, k3m1]
  instanceTypes := #[(.array .byte), .int, .int, .int, .int]
  staticTypes := #[]
  resolved := Array.replicate 134 none
  statics := none }

def pool4 : Array CpInfo := pool [(1, u "java/lang/Cloneable"), (0, .class_ 1), (0, u "java/lang/Object"), (0, .class_ 3)] 3

/-- java/lang/Cloneable -/
def k4 : Class := { plain "java/lang/Cloneable" (some 0) with
  accessFlags := 1537
  interfaces := #[]
  cf := some (fileOf pool4 2 #[] #[] 1537 4 #[] #[])
  fields := #[]
  methods := #[]
  instanceTypes := #[]
  staticTypes := #[]
  resolved := Array.replicate 8 none
  statics := none }

def pool5 : Array CpInfo := pool [(1, u "java/io/Serializable"), (0, .class_ 1), (0, u "java/lang/Object"), (0, .class_ 3)] 3

/-- java/io/Serializable -/
def k5 : Class := { plain "java/io/Serializable" (some 0) with
  accessFlags := 1537
  interfaces := #[]
  cf := some (fileOf pool5 2 #[] #[] 1537 4 #[] #[])
  fields := #[]
  methods := #[]
  instanceTypes := #[]
  staticTypes := #[]
  resolved := Array.replicate 8 none
  statics := none }

/-- the primitive byte -/
def k6 : Class := { plain "byte" none with kind := .primitive 'B', accessFlags := 0x411 }
/-- [B -/
def k7 : Class := { plain "[B" (some 0) with kind := .array 6 .byte, interfaces := #[4, 5], accessFlags := 1041 }

/-- the primitive int -/
def k8 : Class := { plain "int" none with kind := .primitive 'I', accessFlags := 0x411 }
/-- [I -/
def k9 : Class := { plain "[I" (some 0) with kind := .array 8 .int, interfaces := #[4, 5], accessFlags := 1041 }

def heap : Heap := #[]
def classes : Array Class := #[k0, k1, k2, k3, k4, k5, k6, k7, k8, k9]
def interned : List (Array UInt16 × Addr) := []
def slotsUsed : Nat := 0
def theMethod : MethodId := ⟨1, 2⟩
def args0 : Array Value := #[.int 5, .long 7, .int 9]
def aboutOver (below : List Frame) : State where
  vm := { classes := classes, interned := interned.toArray }
  heap := heap
  slotsUsed := slotsUsed
  threads := #[{ frames := .invoking theMethod args0 :: below }]
def below0 : List Frame := [.native { method := ⟨0, 0⟩, args := #[] }]
def about1 : State := aboutOver below0
def p0 : Program := .bare "" "" ""
def e0 : Env := launch0.env 0 0 0
theorem w_frames : about1.frames = Frame.invoking theMethod args0 :: below0 := rfl
set_option maxRecDepth 65536 in
theorem w_args : argsFit about1.vm theMethod args0 = true := by decide +kernel
set_option maxRecDepth 65536 in
theorem w_heap : heapFits about1 = true := by decide +kernel
set_option maxRecDepth 65536 in
theorem w_runnable : about1.curStatus? = some .runnable := by decide +kernel
set_option maxRecDepth 65536 in
theorem w_alone : about1.alone = true := by decide +kernel
set_option maxRecDepth 65536 in
theorem w_named : about1.methodNamed? x = some theMethod := by decide +kernel
set_option maxRecDepth 65536 in
theorem w_hears : about1.hears theMethod below0 = true := by decide +kernel
set_option maxRecDepth 65536 in
theorem w_ripe : about1.ripe theMethod args0 below0 = true := by decide +kernel
theorem w_running : about1.status = .running := rfl
set_option maxRecDepth 65536 in
theorem w_room : about1.hasRoom e0.platform room_1 = true :=
  launch0.hasRoom_least _ room_1 (by decide +kernel) (by decide +kernel) (by decide +kernel) (by decide +kernel) (by decide +kernel) (by decide +kernel)
theorem allAtoms_all (ts : List Jvm.Cond) (a : Array Jvm.Value) (st : Jvm.State) : (allAtoms ts).before a st = ts.all (fun c => c.before a st) := by
  induction ts with
  | nil => rfl
  | cons c t ih =>
    show (Jvm.Cond.and c (allAtoms t)).before a st = _
    rw [Jvm.Cond.before_and, ih, List.all_cons]
def words1 : List Jvm.Cond := Jvm.Cond.code x code maxLocals ret :: tables_1
/-- a 'code' word, met by the world's own term for the bytes: nothing is compared byte by byte -/
theorem code_word {y : MethodName} {bytes : ByteArray} {mx : Nat} {rt : Option FieldType} {a : Array Value} {s : State} {m : MethodId} {meth : Method} {c : Code} (h1 : s.methodNamed? y = some m) (h2 : s.vm.method? m = some meth) (h3 : meth.code = some c) (h4 : c.code = bytes)
    (h5 : (c.maxLocals == mx && c.exceptionTable.isEmpty && decide (c.maxStack ≤ mostOperands) && decide (meth.sig.returnType = rt) && !meth.locks && decide (parseMethodDescriptor y.desc = some meth.sig)) = true) : (Jvm.Cond.code y bytes mx rt).before a s = true := by
  simp only [Bool.and_eq_true, beq_iff_eq, Bool.not_eq_true', decide_eq_true_eq] at h5
  obtain ⟨⟨⟨⟨⟨g1, g2⟩, g3⟩, g4⟩, g5⟩, g6⟩ := h5
  simp [Cond.before, Cond.holds, Cond.value, h1, h2, h3, h4, g1, g2, g3, g4, g5, g6]
def isCode : Jvm.Cond → Bool
  | .code _ _ _ _ => true
  | _ => false
theorem all_split {L : List Jvm.Cond} {P : Jvm.Cond → Bool} (h1 : L.all (fun c => isCode c || P c) = true) (h2 : ∀ c ∈ L.filter isCode, P c = true) : L.all P = true := by
  refine List.all_eq_true.mpr fun c hc => ?_
  have h := List.all_eq_true.mp h1 c hc
  rcases Bool.eq_false_or_eq_true (isCode c) with hi | hi
  · exact h2 c (List.mem_filter.mpr ⟨hc, hi⟩)
  · simpa [hi] using h
set_option maxRecDepth 65536 in
theorem w_c0 : (Jvm.Cond.code x code maxLocals ret).before args0 about1 = true := code_word (m := ⟨1, 2⟩) (meth := k1m2) (c := k1c2) (by decide +kernel) rfl rfl rfl (by decide +kernel)
set_option maxRecDepth 65536 in
theorem w_c1 : (Jvm.Cond.code ({ cls := "com/example/befugnis/befugnis/DerOfPinLaw", name := "draw", desc := "(IJ)[B" } : Jvm.MethodName) method_2_code (4 : Nat) (Option.some (Jvm.ClassFile.FieldType.array Jvm.ClassFile.FieldType.byte))).before args0 about1 = true := code_word (m := ⟨1, 1⟩) (meth := k1m1) (c := k1c1) (by decide +kernel) rfl rfl rfl (by decide +kernel)
set_option maxRecDepth 65536 in
theorem w_c2 : (Jvm.Cond.code ({ cls := "com/example/befugnis/befugnis/Der", name := "of", desc := "([B)Lcom/example/befugnis/befugnis/Der;" } : Jvm.MethodName) prog_9_method_2_code (1 : Nat) (Option.some (Jvm.ClassFile.FieldType.object "com/example/befugnis/befugnis/Der"))).before args0 about1 = true := code_word (m := ⟨2, 1⟩) (meth := k2m1) (c := k2c1) (by decide +kernel) rfl rfl rfl (by decide +kernel)
set_option maxRecDepth 65536 in
theorem w_c3 : (Jvm.Cond.code ({ cls := "com/example/befugnis/befugnis/Der", name := "<init>", desc := "([BII)V" } : Jvm.MethodName) prog_9_method_1_code (4 : Nat) (Option.none : Option Jvm.ClassFile.FieldType)).before args0 about1 = true := code_word (m := ⟨2, 0⟩) (meth := k2m0) (c := k2c0) (by decide +kernel) rfl rfl rfl (by decide +kernel)
set_option maxRecDepth 65536 in
theorem w_c4 : (Jvm.Cond.code ({ cls := "java/lang/Object", name := "<init>", desc := "()V" } : Jvm.MethodName) object_method_1_code (1 : Nat) (Option.none : Option Jvm.ClassFile.FieldType)).before args0 about1 = true := code_word (m := ⟨0, 0⟩) (meth := k0m0) (c := k0c0) (by decide +kernel) rfl rfl rfl (by decide +kernel)
set_option maxRecDepth 65536 in
theorem w_c5 : (Jvm.Cond.code ({ cls := "com/example/befugnis/befugnis/Der", name := "remaining", desc := "()I" } : Jvm.MethodName) prog_9_method_5_code (1 : Nat) (Option.some Jvm.ClassFile.FieldType.int)).before args0 about1 = true := code_word (m := ⟨2, 3⟩) (meth := k2m3) (c := k2c3) (by decide +kernel) rfl rfl rfl (by decide +kernel)
set_option maxRecDepth 65536 in
theorem w_c6 : (Jvm.Cond.code ({ cls := "com/example/befugnis/befugnis/Der", name := "atEnd", desc := "()Z" } : Jvm.MethodName) prog_9_method_4_code (1 : Nat) (Option.some Jvm.ClassFile.FieldType.boolean)).before args0 about1 = true := code_word (m := ⟨2, 2⟩) (meth := k2m2) (c := k2c2) (by decide +kernel) rfl rfl rfl (by decide +kernel)
set_option maxRecDepth 65536 in
theorem w_c7 : (Jvm.Cond.code ({ cls := "com/example/befugnis/befugnis/Der", name := "next", desc := "()Lcom/example/befugnis/befugnis/Der$Value;" } : Jvm.MethodName) prog_9_method_6_code (4 : Nat) (Option.some (Jvm.ClassFile.FieldType.object "com/example/befugnis/befugnis/Der$Value"))).before args0 about1 = true := code_word (m := ⟨2, 4⟩) (meth := k2m4) (c := k2c4) (by decide +kernel) rfl rfl rfl (by decide +kernel)
set_option maxRecDepth 65536 in
theorem w_c8 : (Jvm.Cond.code ({ cls := "com/example/befugnis/befugnis/Der", name := "readLength", desc := "()I" } : Jvm.MethodName) prog_9_method_8_code (6 : Nat) (Option.some Jvm.ClassFile.FieldType.int)).before args0 about1 = true := code_word (m := ⟨2, 5⟩) (meth := k2m5) (c := k2c5) (by decide +kernel) rfl rfl rfl (by decide +kernel)
set_option maxRecDepth 65536 in
theorem w_c9 : (Jvm.Cond.code ({ cls := "com/example/befugnis/befugnis/Der$Value", name := "<init>", desc := "([BIIII)V" } : Jvm.MethodName) prog_10_method_1_code (6 : Nat) (Option.none : Option Jvm.ClassFile.FieldType)).before args0 about1 = true := code_word (m := ⟨3, 0⟩) (meth := k3m0) (c := k3c0) (by decide +kernel) rfl rfl rfl (by decide +kernel)
set_option maxRecDepth 65536 in
theorem w_c10 : (Jvm.Cond.code ({ cls := "com/example/befugnis/befugnis/Der$Value", name := "tag", desc := "()I" } : Jvm.MethodName) prog_10_method_2_code (1 : Nat) (Option.some Jvm.ClassFile.FieldType.int)).before args0 about1 = true := code_word (m := ⟨3, 1⟩) (meth := k3m1) (c := k3c1) (by decide +kernel) rfl rfl rfl (by decide +kernel)
def codes1 : List Jvm.Cond := [Jvm.Cond.code x code maxLocals ret, Jvm.Cond.code ({ cls := "com/example/befugnis/befugnis/DerOfPinLaw", name := "draw", desc := "(IJ)[B" } : Jvm.MethodName) method_2_code (4 : Nat) (Option.some (Jvm.ClassFile.FieldType.array Jvm.ClassFile.FieldType.byte)), Jvm.Cond.code ({ cls := "com/example/befugnis/befugnis/Der", name := "of", desc := "([B)Lcom/example/befugnis/befugnis/Der;" } : Jvm.MethodName) prog_9_method_2_code (1 : Nat) (Option.some (Jvm.ClassFile.FieldType.object "com/example/befugnis/befugnis/Der")), Jvm.Cond.code ({ cls := "com/example/befugnis/befugnis/Der", name := "<init>", desc := "([BII)V" } : Jvm.MethodName) prog_9_method_1_code (4 : Nat) (Option.none : Option Jvm.ClassFile.FieldType), Jvm.Cond.code ({ cls := "java/lang/Object", name := "<init>", desc := "()V" } : Jvm.MethodName) object_method_1_code (1 : Nat) (Option.none : Option Jvm.ClassFile.FieldType), Jvm.Cond.code ({ cls := "com/example/befugnis/befugnis/Der", name := "remaining", desc := "()I" } : Jvm.MethodName) prog_9_method_5_code (1 : Nat) (Option.some Jvm.ClassFile.FieldType.int), Jvm.Cond.code ({ cls := "com/example/befugnis/befugnis/Der", name := "atEnd", desc := "()Z" } : Jvm.MethodName) prog_9_method_4_code (1 : Nat) (Option.some Jvm.ClassFile.FieldType.boolean), Jvm.Cond.code ({ cls := "com/example/befugnis/befugnis/Der", name := "next", desc := "()Lcom/example/befugnis/befugnis/Der$Value;" } : Jvm.MethodName) prog_9_method_6_code (4 : Nat) (Option.some (Jvm.ClassFile.FieldType.object "com/example/befugnis/befugnis/Der$Value")), Jvm.Cond.code ({ cls := "com/example/befugnis/befugnis/Der", name := "readLength", desc := "()I" } : Jvm.MethodName) prog_9_method_8_code (6 : Nat) (Option.some Jvm.ClassFile.FieldType.int), Jvm.Cond.code ({ cls := "com/example/befugnis/befugnis/Der$Value", name := "<init>", desc := "([BIIII)V" } : Jvm.MethodName) prog_10_method_1_code (6 : Nat) (Option.none : Option Jvm.ClassFile.FieldType), Jvm.Cond.code ({ cls := "com/example/befugnis/befugnis/Der$Value", name := "tag", desc := "()I" } : Jvm.MethodName) prog_10_method_2_code (1 : Nat) (Option.some Jvm.ClassFile.FieldType.int)]
set_option maxRecDepth 65536 in
theorem codes_eq : words1.filter isCode = codes1 := rfl
theorem w_codes : ∀ c ∈ words1.filter isCode, c.before args0 about1 = true := by
  rw [codes_eq]
  intro c hc
  simp only [codes1, List.mem_cons, List.not_mem_nil, or_false] at hc
  rcases hc with rfl | rfl | rfl | rfl | rfl | rfl | rfl | rfl | rfl | rfl | rfl
  · exact w_c0
  · exact w_c1
  · exact w_c2
  · exact w_c3
  · exact w_c4
  · exact w_c5
  · exact w_c6
  · exact w_c7
  · exact w_c8
  · exact w_c9
  · exact w_c10
set_option maxRecDepth 65536 in
theorem w_t1 : (words1.take 24).all (fun c => isCode c || c.before args0 about1) = true := by decide +kernel
set_option maxRecDepth 65536 in
theorem w_t2 : ((words1.drop 24).take 24).all (fun c => isCode c || c.before args0 about1) = true := by decide +kernel
set_option maxRecDepth 65536 in
theorem w_t3 : ((words1.drop 24).drop 24).all (fun c => isCode c || c.before args0 about1) = true := by decide +kernel
theorem w_tables : (allAtoms (Jvm.Cond.code x code maxLocals ret :: tables_1)).before args0 about1 = true := by
  rw [allAtoms_all]
  show words1.all (fun c => c.before args0 about1) = true
  refine all_split ?_ w_codes
  rw [← List.take_append_drop 24 words1, List.all_append, w_t1, ← List.take_append_drop 24 (words1.drop 24), List.all_append, w_t2, w_t3]
  rfl
set_option maxRecDepth 65536 in
theorem w_case : (Jvm.Cond.and given_1 narrow_1).before args0 about1 = true := by decide +kernel
theorem w_applies : (headSpec (Jvm.Cond.code x code maxLocals ret :: tables_1) room_1).applies x e0.platform about1 = true :=
  (Spec.applies_iff w_frames).mpr ⟨w_running, w_runnable, w_alone, w_named, w_hears, w_ripe, w_room, w_tables⟩
theorem atStart : AtStart classFile x code maxLocals ret World_1 tables_1 room_1 Calls_1 rest_1 Pre_1 launch0 p0 e0 about1 theMethod args0 below0 :=
  ⟨lists_1, trivial, launch0.admits_env _ _ _, launch0.least_env, fairChoices_fair.cas, fairChoices_fair.clock, w_frames, w_args, w_heap, w_applies, trivial, trivial, w_case⟩
end start1
theorem witness_1 : WitnessClaimed_1 := ⟨start1.p0, start1.e0, start1.about1, start1.theMethod, start1.args0, start1.below0, start1.atStart⟩
end Jvm.Pilot.@@N@@

import JvmDerived
import JvmDerived.Pilot.@@N@@Statement
import JvmDerived.Pilot.@@N@@Code
set_option linter.unusedVariables false
set_option linter.unusedSimpArgs false
namespace Jvm.Pilot.@@N@@
open Jvm Jvm.ClassFile Sem Op Lib Jvm.Free Jvm.Stand Jvm.LawKit Jvm.RoadKit Bundle Jvm.Pilot.@@N@@.Jvm.D
-- LAYER BEGIN
section OwnW
variable {l : Launch} {Z : State} {y : MethodName} {bytes : ByteArray} {ml : Nat} {ret : Option FieldType} {R : Room} {n0 : Nat} {Q : Option Value → Heap → Prop} {h : Heap} {cells slots pc pc' : Nat} {Ls Ls' : Array Slot} {st st' : List Value} {a0 : Array Value}
/-- from this point of the body (heap h, so many cells and slots made, at pc with these locals and this stack) every run returns; Q holds of the value and the heap; all that was written lies at or above n0 -/
def own_W (l : Launch) (Z : State) (y : MethodName) (bytes : ByteArray) (ml : Nat) (ret : Option FieldType) (R : Room) (n0 : Nat) (Q : Option Value → Heap → Prop) (h : Heap) (cells slots pc : Nat) (Ls : Array Slot) (st : List Value) : Prop :=
  ∀ (p : Program) (e : Env) (s : State) (m : MethodId) (args : Array Value) (below : List Frame) (meth : Method) (c : Code) (T : State) (locs : List Loc),
    p.tables.exec = Jvm.exec → Z.Warmed39 s.vm → s.vm.findClass y.cls = some m.cls → c.code = bytes → c.maxLocals = ml → meth.sig.returnType = ret → meth.locks = false → meth.name = y.name → cells ≤ R.cells → slots ≤ R.slots →
    Stand p l e R s m args below meth c T locs cells slots → T.heap = h → Fr n0 locs →
    ∃ s₂ o, Steps p.tables e below (T.setTop (mkF m pc Ls st)) s₂ ∧ s₂.status = .running ∧ Ended s₂ below o ∧ ∃ v L, o = .returned v ∧ (Q v s₂.heap ∧ Fr n0 L) ∧ FrameEnd s o s₂ L R.cells R.slots
theorem own_pure (hs : ∀ (p : Program) (e : Env) (below : List Frame) (T target : State) (m : MethodId) (c : Code), At T m c below → p.tables.exec = Jvm.exec → c.code = bytes → Steps p.tables e below (T.setTop (mkF m pc' Ls' st')) target → Steps p.tables e below (T.setTop (mkF m pc Ls st)) target)
    (k : own_W l Z y bytes ml ret R n0 Q h cells slots pc' Ls' st') : own_W l Z y bytes ml ret R n0 Q h cells slots pc Ls st := by
  intro p e s m args below meth c T locs hx hZ hown hby hml hret hlk hnm hce hsl X eT N
  obtain ⟨s₂, o, h1, h2⟩ := k p e s m args below meth c T locs hx hZ hown hby hml hret hlk hnm hce hsl X eT N
  exact ⟨s₂, o, hs p e below T s₂ m c X.here hx hby h1, h2⟩
theorem own_more {cells' slots' : Nat} (hc : cells ≤ cells') (hs : slots ≤ slots') (hc' : cells' ≤ R.cells) (hs' : slots' ≤ R.slots) (k : own_W l Z y bytes ml ret R n0 Q h cells' slots' pc Ls st) : own_W l Z y bytes ml ret R n0 Q h cells slots pc Ls st := by
  intro p e s m args below meth c T locs hx hZ hown hby hml hret hlk hnm hce hsl X eT N
  exact k p e s m args below meth c T locs hx hZ hown hby hml hret hlk hnm hc' hs' (X.more hc hs) eT N
theorem own_weak {Q' : Option Value → Heap → Prop} (hq : ∀ v h, Q' v h → Q v h) (k : own_W l Z y bytes ml ret R n0 Q' h cells slots pc Ls st) : own_W l Z y bytes ml ret R n0 Q h cells slots pc Ls st := by
  intro p e s m args below meth c T locs hx hZ hown hby hml hret hlk hnm hce hsl X eT N
  obtain ⟨s₂, o, h1, h2, h3, v, L, h4, ⟨h5, h6⟩, h7⟩ := k p e s m args below meth c T locs hx hZ hown hby hml hret hlk hnm hce hsl X eT N
  exact ⟨s₂, o, h1, h2, h3, v, L, h4, ⟨hq _ _ h5, h6⟩, h7⟩
theorem own_iloadN {i : Fin 4} {u : Int32} (hd : decode bytes pc = .ok (.iload_n i, 1)) (hp : pc + 1 = pc') (hl : Ls[i.val]? = some (.val (.int u))) (k : own_W l Z y bytes ml ret R n0 Q h cells slots pc' Ls (.int u :: st)) : own_W l Z y bytes ml ret R n0 Q h cells slots pc Ls (st) :=
  own_pure (fun p e below T t m c hA hx hb hr => by subst hp; exact XS.iloadN hA hx rfl (hb ▸ hd) hl hr) k
theorem own_iload {i : Nat} {u : Int32} (hd : decode bytes pc = .ok (.iload i, 2)) (hp : pc + 2 = pc') (hl : Ls[i]? = some (.val (.int u))) (k : own_W l Z y bytes ml ret R n0 Q h cells slots pc' Ls (.int u :: st)) : own_W l Z y bytes ml ret R n0 Q h cells slots pc Ls (st) :=
  own_pure (fun p e below T t m c hA hx hb hr => by subst hp; exact XS.iload hA hx rfl (hb ▸ hd) hl hr) k
theorem own_lloadN {i : Fin 4} {u : Int64} (hd : decode bytes pc = .ok (.lload_n i, 1)) (hp : pc + 1 = pc') (hl : Ls[i.val]? = some (.val (.long u))) (k : own_W l Z y bytes ml ret R n0 Q h cells slots pc' Ls (.long u :: st)) : own_W l Z y bytes ml ret R n0 Q h cells slots pc Ls (st) :=
  own_pure (fun p e below T t m c hA hx hb hr => by subst hp; exact XT.lloadN hA hx rfl (hb ▸ hd) hl hr) k
theorem own_lload {i : Nat} {u : Int64} (hd : decode bytes pc = .ok (.lload i, 2)) (hp : pc + 2 = pc') (hl : Ls[i]? = some (.val (.long u))) (k : own_W l Z y bytes ml ret R n0 Q h cells slots pc' Ls (.long u :: st)) : own_W l Z y bytes ml ret R n0 Q h cells slots pc Ls (st) :=
  own_pure (fun p e below T t m c hA hx hb hr => by subst hp; exact XT.lload hA hx rfl (hb ▸ hd) hl hr) k
theorem own_aloadN {i : Fin 4} {u : Addr} (hd : decode bytes pc = .ok (.aload_n i, 1)) (hp : pc + 1 = pc') (hl : Ls[i.val]? = some (.val (.ref u))) (k : own_W l Z y bytes ml ret R n0 Q h cells slots pc' Ls (.ref u :: st)) : own_W l Z y bytes ml ret R n0 Q h cells slots pc Ls (st) :=
  own_pure (fun p e below T t m c hA hx hb hr => by subst hp; exact XS.aloadN hA hx rfl (hb ▸ hd) hl rfl hr) k
theorem own_aload {i : Nat} {u : Addr} (hd : decode bytes pc = .ok (.aload i, 2)) (hp : pc + 2 = pc') (hl : Ls[i]? = some (.val (.ref u))) (k : own_W l Z y bytes ml ret R n0 Q h cells slots pc' Ls (.ref u :: st)) : own_W l Z y bytes ml ret R n0 Q h cells slots pc Ls (st) :=
  own_pure (fun p e below T t m c hA hx hb hr => by subst hp; exact XS.aload hA hx rfl (hb ▸ hd) hl rfl hr) k
theorem own_istoreN {i : Fin 4} {u : Int32} (hd : decode bytes pc = .ok (.istore_n i, 1)) (hp : pc + 1 = pc') (hl : storeLocals Ls i.val (.int u) = some Ls') (k : own_W l Z y bytes ml ret R n0 Q h cells slots pc' Ls' (st)) : own_W l Z y bytes ml ret R n0 Q h cells slots pc Ls (.int u :: st) :=
  own_pure (fun p e below T t m c hA hx hb hr => by subst hp; exact XS.istoreN hA hx rfl (hb ▸ hd) rfl hl hr) k
theorem own_istore {i : Nat} {u : Int32} (hd : decode bytes pc = .ok (.istore i, 2)) (hp : pc + 2 = pc') (hl : storeLocals Ls i (.int u) = some Ls') (k : own_W l Z y bytes ml ret R n0 Q h cells slots pc' Ls' (st)) : own_W l Z y bytes ml ret R n0 Q h cells slots pc Ls (.int u :: st) :=
  own_pure (fun p e below T t m c hA hx hb hr => by subst hp; exact XS.istore hA hx rfl (hb ▸ hd) rfl hl hr) k
theorem own_lstoreN {i : Fin 4} {u : Int64} (hd : decode bytes pc = .ok (.lstore_n i, 1)) (hp : pc + 1 = pc') (hl : storeLocals Ls i.val (.long u) = some Ls') (k : own_W l Z y bytes ml ret R n0 Q h cells slots pc' Ls' (st)) : own_W l Z y bytes ml ret R n0 Q h cells slots pc Ls (.long u :: st) :=
  own_pure (fun p e below T t m c hA hx hb hr => by subst hp; exact XT.lstoreN hA hx rfl (hb ▸ hd) rfl hl hr) k
theorem own_lstore {i : Nat} {u : Int64} (hd : decode bytes pc = .ok (.lstore i, 2)) (hp : pc + 2 = pc') (hl : storeLocals Ls i (.long u) = some Ls') (k : own_W l Z y bytes ml ret R n0 Q h cells slots pc' Ls' (st)) : own_W l Z y bytes ml ret R n0 Q h cells slots pc Ls (.long u :: st) :=
  own_pure (fun p e below T t m c hA hx hb hr => by subst hp; exact XT.lstore hA hx rfl (hb ▸ hd) rfl hl hr) k
theorem own_astoreN {i : Fin 4} {u : Addr} (hd : decode bytes pc = .ok (.astore_n i, 1)) (hp : pc + 1 = pc') (hl : storeLocals Ls i.val (.ref u) = some Ls') (k : own_W l Z y bytes ml ret R n0 Q h cells slots pc' Ls' (st)) : own_W l Z y bytes ml ret R n0 Q h cells slots pc Ls (.ref u :: st) :=
  own_pure (fun p e below T t m c hA hx hb hr => by subst hp; exact XS.astoreN hA hx rfl (hb ▸ hd) rfl rfl hl hr) k
theorem own_astore {i : Nat} {u : Addr} (hd : decode bytes pc = .ok (.astore i, 2)) (hp : pc + 2 = pc') (hl : storeLocals Ls i (.ref u) = some Ls') (k : own_W l Z y bytes ml ret R n0 Q h cells slots pc' Ls' (st)) : own_W l Z y bytes ml ret R n0 Q h cells slots pc Ls (.ref u :: st) :=
  own_pure (fun p e below T t m c hA hx hb hr => by subst hp; exact XS.astore hA hx rfl (hb ▸ hd) rfl rfl hl hr) k
theorem own_iinc {i : Nat} {cst : Int} {u w : Int32} (hd : decode bytes pc = .ok (.iinc i cst, 3)) (hp : pc + 3 = pc') (hv : Int32.ofInt cst = w) (hl : Ls[i]? = some (.val (.int u))) (hl' : storeLocals Ls i (.int (u + w)) = some Ls') (k : own_W l Z y bytes ml ret R n0 Q h cells slots pc' Ls' st) : own_W l Z y bytes ml ret R n0 Q h cells slots pc Ls st :=
  own_pure (fun p e below T t m c hA hx hb hr => by subst hp; exact XT.iincV hA hx rfl w (hb ▸ hd) hv hl hl' hr) k
theorem own_iconst {i : Int} (u : Int32) (hd : decode bytes pc = .ok (.iconst i, 1)) (hp : pc + 1 = pc') (hv : Int32.ofInt i = u) (k : own_W l Z y bytes ml ret R n0 Q h cells slots pc' Ls (.int u :: st)) : own_W l Z y bytes ml ret R n0 Q h cells slots pc Ls st :=
  own_pure (fun p e below T t m c hA hx hb hr => by subst hp; exact XT.iconstV hA hx rfl u (hb ▸ hd) hv hr) k
theorem own_bipush {i : Int} (u : Int32) (hd : decode bytes pc = .ok (.bipush i, 2)) (hp : pc + 2 = pc') (hv : (Int8.ofInt i).toInt32 = u) (k : own_W l Z y bytes ml ret R n0 Q h cells slots pc' Ls (.int u :: st)) : own_W l Z y bytes ml ret R n0 Q h cells slots pc Ls st :=
  own_pure (fun p e below T t m c hA hx hb hr => by subst hp; exact XT.bipushV hA hx rfl u (hb ▸ hd) hv hr) k
theorem own_sipush {i : Int} (u : Int32) (hd : decode bytes pc = .ok (.sipush i, 3)) (hp : pc + 3 = pc') (hv : (Int16.ofInt i).toInt32 = u) (k : own_W l Z y bytes ml ret R n0 Q h cells slots pc' Ls (.int u :: st)) : own_W l Z y bytes ml ret R n0 Q h cells slots pc Ls st :=
  own_pure (fun p e below T t m c hA hx hb hr => by subst hp; exact XT.sipushV hA hx rfl u (hb ▸ hd) hv hr) k
theorem own_lconst {i : Fin 2} (u : Int64) (hd : decode bytes pc = .ok (.lconst i, 1)) (hp : pc + 1 = pc') (hv : Int64.ofNat i = u) (k : own_W l Z y bytes ml ret R n0 Q h cells slots pc' Ls (.long u :: st)) : own_W l Z y bytes ml ret R n0 Q h cells slots pc Ls st :=
  own_pure (fun p e below T t m c hA hx hb hr => by subst hp; exact XT.lconstV hA hx rfl u (hb ▸ hd) hv hr) k
theorem own_aconstNull (hd : decode bytes pc = .ok (.aconst_null, 1)) (hp : pc + 1 = pc') (k : own_W l Z y bytes ml ret R n0 Q h cells slots pc' Ls (.null :: st)) : own_W l Z y bytes ml ret R n0 Q h cells slots pc Ls (st) :=
  own_pure (fun p e below T t m c hA hx hb hr => by subst hp; exact XS.aconstNull hA hx rfl (hb ▸ hd)  hr) k
theorem own_iadd {u w : Int32} (hd : decode bytes pc = .ok (.iadd, 1)) (hp : pc + 1 = pc') (k : own_W l Z y bytes ml ret R n0 Q h cells slots pc' Ls (.int (u + w) :: st)) : own_W l Z y bytes ml ret R n0 Q h cells slots pc Ls (.int w :: .int u :: st) :=
  own_pure (fun p e below T t m c hA hx hb hr => by subst hp; exact XS.iadd hA hx rfl (hb ▸ hd) rfl hr) k
theorem own_isub {u w : Int32} (hd : decode bytes pc = .ok (.isub, 1)) (hp : pc + 1 = pc') (k : own_W l Z y bytes ml ret R n0 Q h cells slots pc' Ls (.int (u - w) :: st)) : own_W l Z y bytes ml ret R n0 Q h cells slots pc Ls (.int w :: .int u :: st) :=
  own_pure (fun p e below T t m c hA hx hb hr => by subst hp; exact XS.isub hA hx rfl (hb ▸ hd) rfl hr) k
theorem own_imul {u w : Int32} (hd : decode bytes pc = .ok (.imul, 1)) (hp : pc + 1 = pc') (k : own_W l Z y bytes ml ret R n0 Q h cells slots pc' Ls (.int (u * w) :: st)) : own_W l Z y bytes ml ret R n0 Q h cells slots pc Ls (.int w :: .int u :: st) :=
  own_pure (fun p e below T t m c hA hx hb hr => by subst hp; exact XS.imul hA hx rfl (hb ▸ hd) rfl hr) k
theorem own_iand {u w : Int32} (hd : decode bytes pc = .ok (.iand, 1)) (hp : pc + 1 = pc') (k : own_W l Z y bytes ml ret R n0 Q h cells slots pc' Ls (.int (u &&& w) :: st)) : own_W l Z y bytes ml ret R n0 Q h cells slots pc Ls (.int w :: .int u :: st) :=
  own_pure (fun p e below T t m c hA hx hb hr => by subst hp; exact XS.iand hA hx rfl (hb ▸ hd) rfl hr) k
theorem own_ior {u w : Int32} (hd : decode bytes pc = .ok (.ior, 1)) (hp : pc + 1 = pc') (k : own_W l Z y bytes ml ret R n0 Q h cells slots pc' Ls (.int (u ||| w) :: st)) : own_W l Z y bytes ml ret R n0 Q h cells slots pc Ls (.int w :: .int u :: st) :=
  own_pure (fun p e below T t m c hA hx hb hr => by subst hp; exact XT.ior hA hx rfl (hb ▸ hd) rfl hr) k
theorem own_ixor {u w : Int32} (hd : decode bytes pc = .ok (.ixor, 1)) (hp : pc + 1 = pc') (k : own_W l Z y bytes ml ret R n0 Q h cells slots pc' Ls (.int (u ^^^ w) :: st)) : own_W l Z y bytes ml ret R n0 Q h cells slots pc Ls (.int w :: .int u :: st) :=
  own_pure (fun p e below T t m c hA hx hb hr => by subst hp; exact XT.ixor hA hx rfl (hb ▸ hd) rfl hr) k
theorem own_ishl {u w : Int32} (hd : decode bytes pc = .ok (.ishl, 1)) (hp : pc + 1 = pc') (k : own_W l Z y bytes ml ret R n0 Q h cells slots pc' Ls (.int (u <<< (w &&& 31)) :: st)) : own_W l Z y bytes ml ret R n0 Q h cells slots pc Ls (.int w :: .int u :: st) :=
  own_pure (fun p e below T t m c hA hx hb hr => by subst hp; exact XT.ishl hA hx rfl (hb ▸ hd) rfl hr) k
theorem own_ishr {u w : Int32} (hd : decode bytes pc = .ok (.ishr, 1)) (hp : pc + 1 = pc') (k : own_W l Z y bytes ml ret R n0 Q h cells slots pc' Ls (.int (u >>> (w &&& 31)) :: st)) : own_W l Z y bytes ml ret R n0 Q h cells slots pc Ls (.int w :: .int u :: st) :=
  own_pure (fun p e below T t m c hA hx hb hr => by subst hp; exact XT.ishr hA hx rfl (hb ▸ hd) rfl hr) k
theorem own_iushr {u w : Int32} (hd : decode bytes pc = .ok (.iushr, 1)) (hp : pc + 1 = pc') (k : own_W l Z y bytes ml ret R n0 Q h cells slots pc' Ls (.int (XT.ushr u w) :: st)) : own_W l Z y bytes ml ret R n0 Q h cells slots pc Ls (.int w :: .int u :: st) :=
  own_pure (fun p e below T t m c hA hx hb hr => by subst hp; exact XT.iushr hA hx rfl (hb ▸ hd) rfl hr) k
theorem own_idiv {u w : Int32} (hd : decode bytes pc = .ok (.idiv, 1)) (hp : pc + 1 = pc') (hw : w ≠ 0) (k : own_W l Z y bytes ml ret R n0 Q h cells slots pc' Ls (.int (u / w) :: st)) : own_W l Z y bytes ml ret R n0 Q h cells slots pc Ls (.int w :: .int u :: st) :=
  own_pure (fun p e below T t m c hA hx hb hr => by subst hp; exact XS.idiv hA hx rfl (hb ▸ hd) rfl hw hr) k
theorem own_irem {u w : Int32} (hd : decode bytes pc = .ok (.irem, 1)) (hp : pc + 1 = pc') (hw : w ≠ 0) (k : own_W l Z y bytes ml ret R n0 Q h cells slots pc' Ls (.int (u % w) :: st)) : own_W l Z y bytes ml ret R n0 Q h cells slots pc Ls (.int w :: .int u :: st) :=
  own_pure (fun p e below T t m c hA hx hb hr => by subst hp; exact XS.irem hA hx rfl (hb ▸ hd) rfl hw (by rw [irem_eq_mod u w]; exact hr)) k
theorem own_ineg {u : Int32} (hd : decode bytes pc = .ok (.ineg, 1)) (hp : pc + 1 = pc') (k : own_W l Z y bytes ml ret R n0 Q h cells slots pc' Ls (.int (-u) :: st)) : own_W l Z y bytes ml ret R n0 Q h cells slots pc Ls (.int u :: st) :=
  own_pure (fun p e below T t m c hA hx hb hr => by subst hp; exact XS.ineg hA hx rfl (hb ▸ hd) rfl hr) k
theorem own_ladd {u w : Int64} (hd : decode bytes pc = .ok (.ladd, 1)) (hp : pc + 1 = pc') (k : own_W l Z y bytes ml ret R n0 Q h cells slots pc' Ls (.long (u + w) :: st)) : own_W l Z y bytes ml ret R n0 Q h cells slots pc Ls (.long w :: .long u :: st) :=
  own_pure (fun p e below T t m c hA hx hb hr => by subst hp; exact XT.ladd hA hx rfl (hb ▸ hd) rfl hr) k
theorem own_lsub {u w : Int64} (hd : decode bytes pc = .ok (.lsub, 1)) (hp : pc + 1 = pc') (k : own_W l Z y bytes ml ret R n0 Q h cells slots pc' Ls (.long (u - w) :: st)) : own_W l Z y bytes ml ret R n0 Q h cells slots pc Ls (.long w :: .long u :: st) :=
  own_pure (fun p e below T t m c hA hx hb hr => by subst hp; exact XT.lsub hA hx rfl (hb ▸ hd) rfl hr) k
theorem own_lmul {u w : Int64} (hd : decode bytes pc = .ok (.lmul, 1)) (hp : pc + 1 = pc') (k : own_W l Z y bytes ml ret R n0 Q h cells slots pc' Ls (.long (u * w) :: st)) : own_W l Z y bytes ml ret R n0 Q h cells slots pc Ls (.long w :: .long u :: st) :=
  own_pure (fun p e below T t m c hA hx hb hr => by subst hp; exact XT.lmul hA hx rfl (hb ▸ hd) rfl hr) k
theorem own_land {u w : Int64} (hd : decode bytes pc = .ok (.land, 1)) (hp : pc + 1 = pc') (k : own_W l Z y bytes ml ret R n0 Q h cells slots pc' Ls (.long (u &&& w) :: st)) : own_W l Z y bytes ml ret R n0 Q h cells slots pc Ls (.long w :: .long u :: st) :=
  own_pure (fun p e below T t m c hA hx hb hr => by subst hp; exact XT.land hA hx rfl (hb ▸ hd) rfl hr) k
theorem own_lor {u w : Int64} (hd : decode bytes pc = .ok (.lor, 1)) (hp : pc + 1 = pc') (k : own_W l Z y bytes ml ret R n0 Q h cells slots pc' Ls (.long (u ||| w) :: st)) : own_W l Z y bytes ml ret R n0 Q h cells slots pc Ls (.long w :: .long u :: st) :=
  own_pure (fun p e below T t m c hA hx hb hr => by subst hp; exact XT.lor hA hx rfl (hb ▸ hd) rfl hr) k
theorem own_lxor {u w : Int64} (hd : decode bytes pc = .ok (.lxor, 1)) (hp : pc + 1 = pc') (k : own_W l Z y bytes ml ret R n0 Q h cells slots pc' Ls (.long (u ^^^ w) :: st)) : own_W l Z y bytes ml ret R n0 Q h cells slots pc Ls (.long w :: .long u :: st) :=
  own_pure (fun p e below T t m c hA hx hb hr => by subst hp; exact XT.lxor hA hx rfl (hb ▸ hd) rfl hr) k
theorem own_lrem {u w : Int64} (hd : decode bytes pc = .ok (.lrem, 1)) (hp : pc + 1 = pc') (hw : w ≠ 0) (k : own_W l Z y bytes ml ret R n0 Q h cells slots pc' Ls (.long (u % w) :: st)) : own_W l Z y bytes ml ret R n0 Q h cells slots pc Ls (.long w :: .long u :: st) :=
  own_pure (fun p e below T t m c hA hx hb hr => by subst hp; exact XT.lrem hA hx rfl (hb ▸ hd) rfl hw (by rw [lrem_mod u w]; exact hr)) k
theorem own_lshl {u : Int64} {w : Int32} (hd : decode bytes pc = .ok (.lshl, 1)) (hp : pc + 1 = pc') (k : own_W l Z y bytes ml ret R n0 Q h cells slots pc' Ls (.long (u <<< (w.toInt64 &&& 63)) :: st)) : own_W l Z y bytes ml ret R n0 Q h cells slots pc Ls (.int w :: .long u :: st) :=
  own_pure (fun p e below T t m c hA hx hb hr => by subst hp; exact XT.lshl hA hx rfl (hb ▸ hd) rfl hr) k
theorem own_lshr {u : Int64} {w : Int32} (hd : decode bytes pc = .ok (.lshr, 1)) (hp : pc + 1 = pc') (k : own_W l Z y bytes ml ret R n0 Q h cells slots pc' Ls (.long (u >>> (w.toInt64 &&& 63)) :: st)) : own_W l Z y bytes ml ret R n0 Q h cells slots pc Ls (.int w :: .long u :: st) :=
  own_pure (fun p e below T t m c hA hx hb hr => by subst hp; exact XT.lshr hA hx rfl (hb ▸ hd) rfl hr) k
theorem own_lushr {u : Int64} {w : Int32} (hd : decode bytes pc = .ok (.lushr, 1)) (hp : pc + 1 = pc') (k : own_W l Z y bytes ml ret R n0 Q h cells slots pc' Ls (.long (XT.ushrL u w) :: st)) : own_W l Z y bytes ml ret R n0 Q h cells slots pc Ls (.int w :: .long u :: st) :=
  own_pure (fun p e below T t m c hA hx hb hr => by subst hp; exact XT.lushr hA hx rfl (hb ▸ hd) rfl hr) k
theorem own_i2l {u : Int32} (hd : decode bytes pc = .ok (.i2l, 1)) (hp : pc + 1 = pc') (k : own_W l Z y bytes ml ret R n0 Q h cells slots pc' Ls (.long u.toInt64 :: st)) : own_W l Z y bytes ml ret R n0 Q h cells slots pc Ls (.int u :: st) :=
  own_pure (fun p e below T t m c hA hx hb hr => by subst hp; exact XT.i2l hA hx rfl (hb ▸ hd) rfl hr) k
theorem own_l2i {u : Int64} (hd : decode bytes pc = .ok (.l2i, 1)) (hp : pc + 1 = pc') (k : own_W l Z y bytes ml ret R n0 Q h cells slots pc' Ls (.int u.toInt32 :: st)) : own_W l Z y bytes ml ret R n0 Q h cells slots pc Ls (.long u :: st) :=
  own_pure (fun p e below T t m c hA hx hb hr => by subst hp; exact XT.l2i hA hx rfl (hb ▸ hd) rfl hr) k
theorem own_i2b {u : Int32} (hd : decode bytes pc = .ok (.i2b, 1)) (hp : pc + 1 = pc') (k : own_W l Z y bytes ml ret R n0 Q h cells slots pc' Ls (.int u.toInt8.toInt32 :: st)) : own_W l Z y bytes ml ret R n0 Q h cells slots pc Ls (.int u :: st) :=
  own_pure (fun p e below T t m c hA hx hb hr => by subst hp; exact XT.i2b hA hx rfl (hb ▸ hd) rfl hr) k
theorem own_i2c {u : Int32} (hd : decode bytes pc = .ok (.i2c, 1)) (hp : pc + 1 = pc') (k : own_W l Z y bytes ml ret R n0 Q h cells slots pc' Ls (.int u.toUInt32.toUInt16.toUInt32.toInt32 :: st)) : own_W l Z y bytes ml ret R n0 Q h cells slots pc Ls (.int u :: st) :=
  own_pure (fun p e below T t m c hA hx hb hr => by subst hp; exact XT.i2c hA hx rfl (hb ▸ hd) rfl hr) k
theorem own_lcmp {u w : Int64} (hd : decode bytes pc = .ok (.lcmp, 1)) (hp : pc + 1 = pc') (k : own_W l Z y bytes ml ret R n0 Q h cells slots pc' Ls (.int (XT.cmpL u w) :: st)) : own_W l Z y bytes ml ret R n0 Q h cells slots pc Ls (.long w :: .long u :: st) :=
  own_pure (fun p e below T t m c hA hx hb hr => by subst hp; exact XT.lcmp hA hx rfl (hb ▸ hd) rfl hr) k
theorem own_dup {u : Value} (hd : decode bytes pc = .ok (.dup, 1)) (hp : pc + 1 = pc') (hc : u.category = 1) (k : own_W l Z y bytes ml ret R n0 Q h cells slots pc' Ls (u :: u :: st)) : own_W l Z y bytes ml ret R n0 Q h cells slots pc Ls (u :: st) :=
  own_pure (fun p e below T t m c hA hx hb hr => by subst hp; exact XS.dup hA hx rfl (hb ▸ hd) rfl hc hr) k
theorem own_pop {u : Value} (hd : decode bytes pc = .ok (.pop, 1)) (hp : pc + 1 = pc') (hc : u.category = 1) (k : own_W l Z y bytes ml ret R n0 Q h cells slots pc' Ls (st)) : own_W l Z y bytes ml ret R n0 Q h cells slots pc Ls (u :: st) :=
  own_pure (fun p e below T t m c hA hx hb hr => by subst hp; exact XT.pop hA hx rfl (hb ▸ hd) rfl hc hr) k
theorem own_dupX1 {u w : Value} (hd : decode bytes pc = .ok (.dup_x1, 1)) (hp : pc + 1 = pc') (hc : u.category = 1) (hc' : w.category = 1) (k : own_W l Z y bytes ml ret R n0 Q h cells slots pc' Ls (u :: w :: u :: st)) : own_W l Z y bytes ml ret R n0 Q h cells slots pc Ls (u :: w :: st) :=
  own_pure (fun p e below T t m c hA hx hb hr => by subst hp; exact XT.dupX1 hA hx rfl (hb ▸ hd) rfl hc hc' hr) k
theorem own_dup2 {u w : Value} (hd : decode bytes pc = .ok (.dup2, 1)) (hp : pc + 1 = pc') (hc : u.category = 1) (hc' : w.category = 1) (k : own_W l Z y bytes ml ret R n0 Q h cells slots pc' Ls (u :: w :: u :: w :: st)) : own_W l Z y bytes ml ret R n0 Q h cells slots pc Ls (u :: w :: st) :=
  own_pure (fun p e below T t m c hA hx hb hr => by subst hp; exact XT.dup2 hA hx rfl (hb ▸ hd) rfl hc hc' hr) k
theorem own_dup2L {u : Int64} (hd : decode bytes pc = .ok (.dup2, 1)) (hp : pc + 1 = pc') (k : own_W l Z y bytes ml ret R n0 Q h cells slots pc' Ls (.long u :: .long u :: st)) : own_W l Z y bytes ml ret R n0 Q h cells slots pc Ls (.long u :: st) :=
  own_pure (fun p e below T t m c hA hx hb hr => by subst hp; exact XT.dup2L hA hx rfl (hb ▸ hd) rfl hr) k
theorem own_pop2step {tb : Tables} [Ours tb] {e : Env} {below : List Frame} {T target : State} {m : MethodId} {c : Code} {g : JFrame} (h : At T m c below) (hx : tb.exec = Jvm.exec) (hg : g.method = m) {u : Int64} {rest : List Value} (hd : decode c.code g.pc = .ok (.pop2, 1)) (hs : g.stack = .long u :: rest)
    (hr : Steps tb e below (T.setTop { g with pc := g.pc + 1, stack := rest }) target) : Steps tb e below (T.setTop g) target := by
  subst hg
  jvm_step h [h.top, hx, hd, hs, pop2.wp_sem, Value.category]
  exact hr
theorem own_pop2L {u : Int64} (hd : decode bytes pc = .ok (.pop2, 1)) (hp : pc + 1 = pc') (k : own_W l Z y bytes ml ret R n0 Q h cells slots pc' Ls (st)) : own_W l Z y bytes ml ret R n0 Q h cells slots pc Ls (.long u :: st) :=
  own_pure (fun p e below T t m c hA hx hb hr => by subst hp; exact own_pop2step hA hx rfl (hb ▸ hd) rfl hr) k
theorem own_dupX2step {tb : Tables} [Ours tb] {e : Env} {below : List Frame} {T target : State} {m : MethodId} {c : Code} {g : JFrame} (h : At T m c below) (hx : tb.exec = Jvm.exec) (hg : g.method = m) {x y z : Value} {rest : List Value} (hd : decode c.code g.pc = .ok (.dup_x2, 1)) (hs : g.stack = x :: y :: z :: rest) (hc : x.category = 1) (hc' : y.category = 1) (hc'' : z.category = 1)
    (hr : Steps tb e below (T.setTop { g with pc := g.pc + 1, stack := x :: y :: z :: x :: rest }) target) : Steps tb e below (T.setTop g) target := by
  subst hg
  jvm_step h [h.top, hx, hd, hs, dup_x2.wp_sem, hc, hc', hc'']
  exact hr
theorem own_dupX2 {u w x : Value} (hd : decode bytes pc = .ok (.dup_x2, 1)) (hp : pc + 1 = pc') (hc : u.category = 1) (hc' : w.category = 1) (hc'' : x.category = 1) (k : own_W l Z y bytes ml ret R n0 Q h cells slots pc' Ls (u :: w :: x :: u :: st)) : own_W l Z y bytes ml ret R n0 Q h cells slots pc Ls (u :: w :: x :: st) :=
  own_pure (fun p e below T t m c hA hx hb hr => by subst hp; exact own_dupX2step hA hx rfl (hb ▸ hd) rfl hc hc' hc'' hr) k
theorem own_goto {o : Int} (hd : decode bytes pc = .ok (.goto o, 3)) (ho : 0 ≤ (pc : Int) + o) (hp : ((pc : Int) + o).toNat = pc') (k : own_W l Z y bytes ml ret R n0 Q h cells slots pc' Ls st) : own_W l Z y bytes ml ret R n0 Q h cells slots pc Ls st :=
  own_pure (fun p e below T t m c hA hx hb hr => XS.goto hA hx rfl rfl (hb ▸ hd) ho hp hr) k
theorem own_if_eq_t {u : Int32} {o : Int} (hd : decode bytes pc = .ok (.ifCond .eq o, 3)) (hc : u = 0) (ho : 0 ≤ (pc : Int) + o) (hp : ((pc : Int) + o).toNat = pc') (k : own_W l Z y bytes ml ret R n0 Q h cells slots pc' Ls st) : own_W l Z y bytes ml ret R n0 Q h cells slots pc Ls (.int u :: st) :=
  own_pure (fun p e below T t m c hA hx hb hr => XS.ifYes hA hx rfl rfl (hb ▸ hd) rfl (XT.i0_eq_t hc) ho hp hr) k
theorem own_if_eq_f {u : Int32} {o : Int} (hd : decode bytes pc = .ok (.ifCond .eq o, 3)) (hc : ¬ u = 0) (hp : pc + 3 = pc') (k : own_W l Z y bytes ml ret R n0 Q h cells slots pc' Ls st) : own_W l Z y bytes ml ret R n0 Q h cells slots pc Ls (.int u :: st) :=
  own_pure (fun p e below T t m c hA hx hb hr => by subst hp; exact XS.ifNo hA hx rfl (hb ▸ hd) rfl (XT.i0_eq_f hc) hr) k
theorem own_if_eq {u : Int32} {o : Int} {pf : Nat} (hd : decode bytes pc = .ok (.ifCond .eq o, 3)) (ho : 0 ≤ (pc : Int) + o) (hp : ((pc : Int) + o).toNat = pc') (hq : pc + 3 = pf) (kt : u = 0 → own_W l Z y bytes ml ret R n0 Q h cells slots pc' Ls st) (kf : ¬ u = 0 → own_W l Z y bytes ml ret R n0 Q h cells slots pf Ls st) : own_W l Z y bytes ml ret R n0 Q h cells slots pc Ls (.int u :: st) := by
  by_cases hc : u = 0
  · exact own_if_eq_t hd hc ho hp (kt hc)
  · exact own_if_eq_f hd (by first | exact hc | exact Decidable.not_not.mp hc) hq (kf (by first | exact hc | exact Decidable.not_not.mp hc))
theorem own_ic_eq_t {u w : Int32} {o : Int} (hd : decode bytes pc = .ok (.if_icmp .eq o, 3)) (hc : u = w) (ho : 0 ≤ (pc : Int) + o) (hp : ((pc : Int) + o).toNat = pc') (k : own_W l Z y bytes ml ret R n0 Q h cells slots pc' Ls st) : own_W l Z y bytes ml ret R n0 Q h cells slots pc Ls (.int w :: .int u :: st) :=
  own_pure (fun p e below T t m c hA hx hb hr => XS.icmpYes hA hx rfl rfl (hb ▸ hd) rfl (XT.ii_eq_t hc) ho hp hr) k
theorem own_ic_eq_f {u w : Int32} {o : Int} (hd : decode bytes pc = .ok (.if_icmp .eq o, 3)) (hc : ¬ u = w) (hp : pc + 3 = pc') (k : own_W l Z y bytes ml ret R n0 Q h cells slots pc' Ls st) : own_W l Z y bytes ml ret R n0 Q h cells slots pc Ls (.int w :: .int u :: st) :=
  own_pure (fun p e below T t m c hA hx hb hr => by subst hp; exact XS.icmpNo hA hx rfl (hb ▸ hd) rfl (XT.ii_eq_f hc) hr) k
theorem own_ic_eq {u w : Int32} {o : Int} {pf : Nat} (hd : decode bytes pc = .ok (.if_icmp .eq o, 3)) (ho : 0 ≤ (pc : Int) + o) (hp : ((pc : Int) + o).toNat = pc') (hq : pc + 3 = pf) (kt : u = w → own_W l Z y bytes ml ret R n0 Q h cells slots pc' Ls st) (kf : ¬ u = w → own_W l Z y bytes ml ret R n0 Q h cells slots pf Ls st) : own_W l Z y bytes ml ret R n0 Q h cells slots pc Ls (.int w :: .int u :: st) := by
  by_cases hc : u = w
  · exact own_ic_eq_t hd hc ho hp (kt hc)
  · exact own_ic_eq_f hd (by first | exact hc | exact Decidable.not_not.mp hc) hq (kf (by first | exact hc | exact Decidable.not_not.mp hc))
theorem own_il_eq_t {u w : Int64} {o : Int} (hd : decode bytes pc = .ok (.ifCond .eq o, 3)) (hc : u = w) (ho : 0 ≤ (pc : Int) + o) (hp : ((pc : Int) + o).toNat = pc') (k : own_W l Z y bytes ml ret R n0 Q h cells slots pc' Ls st) : own_W l Z y bytes ml ret R n0 Q h cells slots pc Ls (.int (XT.cmpL u w) :: st) :=
  own_pure (fun p e below T t m c hA hx hb hr => XS.ifYes hA hx rfl rfl (hb ▸ hd) rfl (XT.ll_eq_t hc) ho hp hr) k
theorem own_il_eq_f {u w : Int64} {o : Int} (hd : decode bytes pc = .ok (.ifCond .eq o, 3)) (hc : ¬ u = w) (hp : pc + 3 = pc') (k : own_W l Z y bytes ml ret R n0 Q h cells slots pc' Ls st) : own_W l Z y bytes ml ret R n0 Q h cells slots pc Ls (.int (XT.cmpL u w) :: st) :=
  own_pure (fun p e below T t m c hA hx hb hr => by subst hp; exact XS.ifNo hA hx rfl (hb ▸ hd) rfl (XT.ll_eq_f hc) hr) k
theorem own_il_eq {u w : Int64} {o : Int} {pf : Nat} (hd : decode bytes pc = .ok (.ifCond .eq o, 3)) (ho : 0 ≤ (pc : Int) + o) (hp : ((pc : Int) + o).toNat = pc') (hq : pc + 3 = pf) (kt : u = w → own_W l Z y bytes ml ret R n0 Q h cells slots pc' Ls st) (kf : ¬ u = w → own_W l Z y bytes ml ret R n0 Q h cells slots pf Ls st) : own_W l Z y bytes ml ret R n0 Q h cells slots pc Ls (.int (XT.cmpL u w) :: st) := by
  by_cases hc : u = w
  · exact own_il_eq_t hd hc ho hp (kt hc)
  · exact own_il_eq_f hd (by first | exact hc | exact Decidable.not_not.mp hc) hq (kf (by first | exact hc | exact Decidable.not_not.mp hc))
theorem own_if_ne_t {u : Int32} {o : Int} (hd : decode bytes pc = .ok (.ifCond .ne o, 3)) (hc : ¬ u = 0) (ho : 0 ≤ (pc : Int) + o) (hp : ((pc : Int) + o).toNat = pc') (k : own_W l Z y bytes ml ret R n0 Q h cells slots pc' Ls st) : own_W l Z y bytes ml ret R n0 Q h cells slots pc Ls (.int u :: st) :=
  own_pure (fun p e below T t m c hA hx hb hr => XS.ifYes hA hx rfl rfl (hb ▸ hd) rfl (XT.i0_ne_t hc) ho hp hr) k
theorem own_if_ne_f {u : Int32} {o : Int} (hd : decode bytes pc = .ok (.ifCond .ne o, 3)) (hc : u = 0) (hp : pc + 3 = pc') (k : own_W l Z y bytes ml ret R n0 Q h cells slots pc' Ls st) : own_W l Z y bytes ml ret R n0 Q h cells slots pc Ls (.int u :: st) :=
  own_pure (fun p e below T t m c hA hx hb hr => by subst hp; exact XS.ifNo hA hx rfl (hb ▸ hd) rfl (XT.i0_ne_f hc) hr) k
theorem own_if_ne {u : Int32} {o : Int} {pf : Nat} (hd : decode bytes pc = .ok (.ifCond .ne o, 3)) (ho : 0 ≤ (pc : Int) + o) (hp : ((pc : Int) + o).toNat = pc') (hq : pc + 3 = pf) (kt : ¬ u = 0 → own_W l Z y bytes ml ret R n0 Q h cells slots pc' Ls st) (kf : u = 0 → own_W l Z y bytes ml ret R n0 Q h cells slots pf Ls st) : own_W l Z y bytes ml ret R n0 Q h cells slots pc Ls (.int u :: st) := by
  by_cases hc : ¬ u = 0
  · exact own_if_ne_t hd hc ho hp (kt hc)
  · exact own_if_ne_f hd (by first | exact hc | exact Decidable.not_not.mp hc) hq (kf (by first | exact hc | exact Decidable.not_not.mp hc))
theorem own_ic_ne_t {u w : Int32} {o : Int} (hd : decode bytes pc = .ok (.if_icmp .ne o, 3)) (hc : ¬ u = w) (ho : 0 ≤ (pc : Int) + o) (hp : ((pc : Int) + o).toNat = pc') (k : own_W l Z y bytes ml ret R n0 Q h cells slots pc' Ls st) : own_W l Z y bytes ml ret R n0 Q h cells slots pc Ls (.int w :: .int u :: st) :=
  own_pure (fun p e below T t m c hA hx hb hr => XS.icmpYes hA hx rfl rfl (hb ▸ hd) rfl (XT.ii_ne_t hc) ho hp hr) k
theorem own_ic_ne_f {u w : Int32} {o : Int} (hd : decode bytes pc = .ok (.if_icmp .ne o, 3)) (hc : u = w) (hp : pc + 3 = pc') (k : own_W l Z y bytes ml ret R n0 Q h cells slots pc' Ls st) : own_W l Z y bytes ml ret R n0 Q h cells slots pc Ls (.int w :: .int u :: st) :=
  own_pure (fun p e below T t m c hA hx hb hr => by subst hp; exact XS.icmpNo hA hx rfl (hb ▸ hd) rfl (XT.ii_ne_f hc) hr) k
theorem own_ic_ne {u w : Int32} {o : Int} {pf : Nat} (hd : decode bytes pc = .ok (.if_icmp .ne o, 3)) (ho : 0 ≤ (pc : Int) + o) (hp : ((pc : Int) + o).toNat = pc') (hq : pc + 3 = pf) (kt : ¬ u = w → own_W l Z y bytes ml ret R n0 Q h cells slots pc' Ls st) (kf : u = w → own_W l Z y bytes ml ret R n0 Q h cells slots pf Ls st) : own_W l Z y bytes ml ret R n0 Q h cells slots pc Ls (.int w :: .int u :: st) := by
  by_cases hc : ¬ u = w
  · exact own_ic_ne_t hd hc ho hp (kt hc)
  · exact own_ic_ne_f hd (by first | exact hc | exact Decidable.not_not.mp hc) hq (kf (by first | exact hc | exact Decidable.not_not.mp hc))
theorem own_il_ne_t {u w : Int64} {o : Int} (hd : decode bytes pc = .ok (.ifCond .ne o, 3)) (hc : ¬ u = w) (ho : 0 ≤ (pc : Int) + o) (hp : ((pc : Int) + o).toNat = pc') (k : own_W l Z y bytes ml ret R n0 Q h cells slots pc' Ls st) : own_W l Z y bytes ml ret R n0 Q h cells slots pc Ls (.int (XT.cmpL u w) :: st) :=
  own_pure (fun p e below T t m c hA hx hb hr => XS.ifYes hA hx rfl rfl (hb ▸ hd) rfl (XT.ll_ne_t hc) ho hp hr) k
theorem own_il_ne_f {u w : Int64} {o : Int} (hd : decode bytes pc = .ok (.ifCond .ne o, 3)) (hc : u = w) (hp : pc + 3 = pc') (k : own_W l Z y bytes ml ret R n0 Q h cells slots pc' Ls st) : own_W l Z y bytes ml ret R n0 Q h cells slots pc Ls (.int (XT.cmpL u w) :: st) :=
  own_pure (fun p e below T t m c hA hx hb hr => by subst hp; exact XS.ifNo hA hx rfl (hb ▸ hd) rfl (XT.ll_ne_f hc) hr) k
theorem own_il_ne {u w : Int64} {o : Int} {pf : Nat} (hd : decode bytes pc = .ok (.ifCond .ne o, 3)) (ho : 0 ≤ (pc : Int) + o) (hp : ((pc : Int) + o).toNat = pc') (hq : pc + 3 = pf) (kt : ¬ u = w → own_W l Z y bytes ml ret R n0 Q h cells slots pc' Ls st) (kf : u = w → own_W l Z y bytes ml ret R n0 Q h cells slots pf Ls st) : own_W l Z y bytes ml ret R n0 Q h cells slots pc Ls (.int (XT.cmpL u w) :: st) := by
  by_cases hc : ¬ u = w
  · exact own_il_ne_t hd hc ho hp (kt hc)
  · exact own_il_ne_f hd (by first | exact hc | exact Decidable.not_not.mp hc) hq (kf (by first | exact hc | exact Decidable.not_not.mp hc))
theorem own_if_lt_t {u : Int32} {o : Int} (hd : decode bytes pc = .ok (.ifCond .lt o, 3)) (hc : u < 0) (ho : 0 ≤ (pc : Int) + o) (hp : ((pc : Int) + o).toNat = pc') (k : own_W l Z y bytes ml ret R n0 Q h cells slots pc' Ls st) : own_W l Z y bytes ml ret R n0 Q h cells slots pc Ls (.int u :: st) :=
  own_pure (fun p e below T t m c hA hx hb hr => XS.ifYes hA hx rfl rfl (hb ▸ hd) rfl (XT.i0_lt_t hc) ho hp hr) k
theorem own_if_lt_f {u : Int32} {o : Int} (hd : decode bytes pc = .ok (.ifCond .lt o, 3)) (hc : ¬ u < 0) (hp : pc + 3 = pc') (k : own_W l Z y bytes ml ret R n0 Q h cells slots pc' Ls st) : own_W l Z y bytes ml ret R n0 Q h cells slots pc Ls (.int u :: st) :=
  own_pure (fun p e below T t m c hA hx hb hr => by subst hp; exact XS.ifNo hA hx rfl (hb ▸ hd) rfl (XT.i0_lt_f hc) hr) k
theorem own_if_lt {u : Int32} {o : Int} {pf : Nat} (hd : decode bytes pc = .ok (.ifCond .lt o, 3)) (ho : 0 ≤ (pc : Int) + o) (hp : ((pc : Int) + o).toNat = pc') (hq : pc + 3 = pf) (kt : u < 0 → own_W l Z y bytes ml ret R n0 Q h cells slots pc' Ls st) (kf : ¬ u < 0 → own_W l Z y bytes ml ret R n0 Q h cells slots pf Ls st) : own_W l Z y bytes ml ret R n0 Q h cells slots pc Ls (.int u :: st) := by
  by_cases hc : u < 0
  · exact own_if_lt_t hd hc ho hp (kt hc)
  · exact own_if_lt_f hd (by first | exact hc | exact Decidable.not_not.mp hc) hq (kf (by first | exact hc | exact Decidable.not_not.mp hc))
theorem own_ic_lt_t {u w : Int32} {o : Int} (hd : decode bytes pc = .ok (.if_icmp .lt o, 3)) (hc : u < w) (ho : 0 ≤ (pc : Int) + o) (hp : ((pc : Int) + o).toNat = pc') (k : own_W l Z y bytes ml ret R n0 Q h cells slots pc' Ls st) : own_W l Z y bytes ml ret R n0 Q h cells slots pc Ls (.int w :: .int u :: st) :=
  own_pure (fun p e below T t m c hA hx hb hr => XS.icmpYes hA hx rfl rfl (hb ▸ hd) rfl (XT.ii_lt_t hc) ho hp hr) k
theorem own_ic_lt_f {u w : Int32} {o : Int} (hd : decode bytes pc = .ok (.if_icmp .lt o, 3)) (hc : ¬ u < w) (hp : pc + 3 = pc') (k : own_W l Z y bytes ml ret R n0 Q h cells slots pc' Ls st) : own_W l Z y bytes ml ret R n0 Q h cells slots pc Ls (.int w :: .int u :: st) :=
  own_pure (fun p e below T t m c hA hx hb hr => by subst hp; exact XS.icmpNo hA hx rfl (hb ▸ hd) rfl (XT.ii_lt_f hc) hr) k
theorem own_ic_lt {u w : Int32} {o : Int} {pf : Nat} (hd : decode bytes pc = .ok (.if_icmp .lt o, 3)) (ho : 0 ≤ (pc : Int) + o) (hp : ((pc : Int) + o).toNat = pc') (hq : pc + 3 = pf) (kt : u < w → own_W l Z y bytes ml ret R n0 Q h cells slots pc' Ls st) (kf : ¬ u < w → own_W l Z y bytes ml ret R n0 Q h cells slots pf Ls st) : own_W l Z y bytes ml ret R n0 Q h cells slots pc Ls (.int w :: .int u :: st) := by
  by_cases hc : u < w
  · exact own_ic_lt_t hd hc ho hp (kt hc)
  · exact own_ic_lt_f hd (by first | exact hc | exact Decidable.not_not.mp hc) hq (kf (by first | exact hc | exact Decidable.not_not.mp hc))
theorem own_il_lt_t {u w : Int64} {o : Int} (hd : decode bytes pc = .ok (.ifCond .lt o, 3)) (hc : u < w) (ho : 0 ≤ (pc : Int) + o) (hp : ((pc : Int) + o).toNat = pc') (k : own_W l Z y bytes ml ret R n0 Q h cells slots pc' Ls st) : own_W l Z y bytes ml ret R n0 Q h cells slots pc Ls (.int (XT.cmpL u w) :: st) :=
  own_pure (fun p e below T t m c hA hx hb hr => XS.ifYes hA hx rfl rfl (hb ▸ hd) rfl (XT.ll_lt_t hc) ho hp hr) k
theorem own_il_lt_f {u w : Int64} {o : Int} (hd : decode bytes pc = .ok (.ifCond .lt o, 3)) (hc : ¬ u < w) (hp : pc + 3 = pc') (k : own_W l Z y bytes ml ret R n0 Q h cells slots pc' Ls st) : own_W l Z y bytes ml ret R n0 Q h cells slots pc Ls (.int (XT.cmpL u w) :: st) :=
  own_pure (fun p e below T t m c hA hx hb hr => by subst hp; exact XS.ifNo hA hx rfl (hb ▸ hd) rfl (XT.ll_lt_f hc) hr) k
theorem own_il_lt {u w : Int64} {o : Int} {pf : Nat} (hd : decode bytes pc = .ok (.ifCond .lt o, 3)) (ho : 0 ≤ (pc : Int) + o) (hp : ((pc : Int) + o).toNat = pc') (hq : pc + 3 = pf) (kt : u < w → own_W l Z y bytes ml ret R n0 Q h cells slots pc' Ls st) (kf : ¬ u < w → own_W l Z y bytes ml ret R n0 Q h cells slots pf Ls st) : own_W l Z y bytes ml ret R n0 Q h cells slots pc Ls (.int (XT.cmpL u w) :: st) := by
  by_cases hc : u < w
  · exact own_il_lt_t hd hc ho hp (kt hc)
  · exact own_il_lt_f hd (by first | exact hc | exact Decidable.not_not.mp hc) hq (kf (by first | exact hc | exact Decidable.not_not.mp hc))
theorem own_if_ge_t {u : Int32} {o : Int} (hd : decode bytes pc = .ok (.ifCond .ge o, 3)) (hc : ¬ u < 0) (ho : 0 ≤ (pc : Int) + o) (hp : ((pc : Int) + o).toNat = pc') (k : own_W l Z y bytes ml ret R n0 Q h cells slots pc' Ls st) : own_W l Z y bytes ml ret R n0 Q h cells slots pc Ls (.int u :: st) :=
  own_pure (fun p e below T t m c hA hx hb hr => XS.ifYes hA hx rfl rfl (hb ▸ hd) rfl (XT.i0_ge_t hc) ho hp hr) k
theorem own_if_ge_f {u : Int32} {o : Int} (hd : decode bytes pc = .ok (.ifCond .ge o, 3)) (hc : u < 0) (hp : pc + 3 = pc') (k : own_W l Z y bytes ml ret R n0 Q h cells slots pc' Ls st) : own_W l Z y bytes ml ret R n0 Q h cells slots pc Ls (.int u :: st) :=
  own_pure (fun p e below T t m c hA hx hb hr => by subst hp; exact XS.ifNo hA hx rfl (hb ▸ hd) rfl (XT.i0_ge_f hc) hr) k
theorem own_if_ge {u : Int32} {o : Int} {pf : Nat} (hd : decode bytes pc = .ok (.ifCond .ge o, 3)) (ho : 0 ≤ (pc : Int) + o) (hp : ((pc : Int) + o).toNat = pc') (hq : pc + 3 = pf) (kt : ¬ u < 0 → own_W l Z y bytes ml ret R n0 Q h cells slots pc' Ls st) (kf : u < 0 → own_W l Z y bytes ml ret R n0 Q h cells slots pf Ls st) : own_W l Z y bytes ml ret R n0 Q h cells slots pc Ls (.int u :: st) := by
  by_cases hc : ¬ u < 0
  · exact own_if_ge_t hd hc ho hp (kt hc)
  · exact own_if_ge_f hd (by first | exact hc | exact Decidable.not_not.mp hc) hq (kf (by first | exact hc | exact Decidable.not_not.mp hc))
theorem own_ic_ge_t {u w : Int32} {o : Int} (hd : decode bytes pc = .ok (.if_icmp .ge o, 3)) (hc : ¬ u < w) (ho : 0 ≤ (pc : Int) + o) (hp : ((pc : Int) + o).toNat = pc') (k : own_W l Z y bytes ml ret R n0 Q h cells slots pc' Ls st) : own_W l Z y bytes ml ret R n0 Q h cells slots pc Ls (.int w :: .int u :: st) :=
  own_pure (fun p e below T t m c hA hx hb hr => XS.icmpYes hA hx rfl rfl (hb ▸ hd) rfl (XT.ii_ge_t hc) ho hp hr) k
theorem own_ic_ge_f {u w : Int32} {o : Int} (hd : decode bytes pc = .ok (.if_icmp .ge o, 3)) (hc : u < w) (hp : pc + 3 = pc') (k : own_W l Z y bytes ml ret R n0 Q h cells slots pc' Ls st) : own_W l Z y bytes ml ret R n0 Q h cells slots pc Ls (.int w :: .int u :: st) :=
  own_pure (fun p e below T t m c hA hx hb hr => by subst hp; exact XS.icmpNo hA hx rfl (hb ▸ hd) rfl (XT.ii_ge_f hc) hr) k
theorem own_ic_ge {u w : Int32} {o : Int} {pf : Nat} (hd : decode bytes pc = .ok (.if_icmp .ge o, 3)) (ho : 0 ≤ (pc : Int) + o) (hp : ((pc : Int) + o).toNat = pc') (hq : pc + 3 = pf) (kt : ¬ u < w → own_W l Z y bytes ml ret R n0 Q h cells slots pc' Ls st) (kf : u < w → own_W l Z y bytes ml ret R n0 Q h cells slots pf Ls st) : own_W l Z y bytes ml ret R n0 Q h cells slots pc Ls (.int w :: .int u :: st) := by
  by_cases hc : ¬ u < w
  · exact own_ic_ge_t hd hc ho hp (kt hc)
  · exact own_ic_ge_f hd (by first | exact hc | exact Decidable.not_not.mp hc) hq (kf (by first | exact hc | exact Decidable.not_not.mp hc))
theorem own_il_ge_t {u w : Int64} {o : Int} (hd : decode bytes pc = .ok (.ifCond .ge o, 3)) (hc : ¬ u < w) (ho : 0 ≤ (pc : Int) + o) (hp : ((pc : Int) + o).toNat = pc') (k : own_W l Z y bytes ml ret R n0 Q h cells slots pc' Ls st) : own_W l Z y bytes ml ret R n0 Q h cells slots pc Ls (.int (XT.cmpL u w) :: st) :=
  own_pure (fun p e below T t m c hA hx hb hr => XS.ifYes hA hx rfl rfl (hb ▸ hd) rfl (XT.ll_ge_t hc) ho hp hr) k
theorem own_il_ge_f {u w : Int64} {o : Int} (hd : decode bytes pc = .ok (.ifCond .ge o, 3)) (hc : u < w) (hp : pc + 3 = pc') (k : own_W l Z y bytes ml ret R n0 Q h cells slots pc' Ls st) : own_W l Z y bytes ml ret R n0 Q h cells slots pc Ls (.int (XT.cmpL u w) :: st) :=
  own_pure (fun p e below T t m c hA hx hb hr => by subst hp; exact XS.ifNo hA hx rfl (hb ▸ hd) rfl (XT.ll_ge_f hc) hr) k
theorem own_il_ge {u w : Int64} {o : Int} {pf : Nat} (hd : decode bytes pc = .ok (.ifCond .ge o, 3)) (ho : 0 ≤ (pc : Int) + o) (hp : ((pc : Int) + o).toNat = pc') (hq : pc + 3 = pf) (kt : ¬ u < w → own_W l Z y bytes ml ret R n0 Q h cells slots pc' Ls st) (kf : u < w → own_W l Z y bytes ml ret R n0 Q h cells slots pf Ls st) : own_W l Z y bytes ml ret R n0 Q h cells slots pc Ls (.int (XT.cmpL u w) :: st) := by
  by_cases hc : ¬ u < w
  · exact own_il_ge_t hd hc ho hp (kt hc)
  · exact own_il_ge_f hd (by first | exact hc | exact Decidable.not_not.mp hc) hq (kf (by first | exact hc | exact Decidable.not_not.mp hc))
theorem own_if_gt_t {u : Int32} {o : Int} (hd : decode bytes pc = .ok (.ifCond .gt o, 3)) (hc : 0 < u) (ho : 0 ≤ (pc : Int) + o) (hp : ((pc : Int) + o).toNat = pc') (k : own_W l Z y bytes ml ret R n0 Q h cells slots pc' Ls st) : own_W l Z y bytes ml ret R n0 Q h cells slots pc Ls (.int u :: st) :=
  own_pure (fun p e below T t m c hA hx hb hr => XS.ifYes hA hx rfl rfl (hb ▸ hd) rfl (XT.i0_gt_t hc) ho hp hr) k
theorem own_if_gt_f {u : Int32} {o : Int} (hd : decode bytes pc = .ok (.ifCond .gt o, 3)) (hc : ¬ 0 < u) (hp : pc + 3 = pc') (k : own_W l Z y bytes ml ret R n0 Q h cells slots pc' Ls st) : own_W l Z y bytes ml ret R n0 Q h cells slots pc Ls (.int u :: st) :=
  own_pure (fun p e below T t m c hA hx hb hr => by subst hp; exact XS.ifNo hA hx rfl (hb ▸ hd) rfl (XT.i0_gt_f hc) hr) k
theorem own_if_gt {u : Int32} {o : Int} {pf : Nat} (hd : decode bytes pc = .ok (.ifCond .gt o, 3)) (ho : 0 ≤ (pc : Int) + o) (hp : ((pc : Int) + o).toNat = pc') (hq : pc + 3 = pf) (kt : 0 < u → own_W l Z y bytes ml ret R n0 Q h cells slots pc' Ls st) (kf : ¬ 0 < u → own_W l Z y bytes ml ret R n0 Q h cells slots pf Ls st) : own_W l Z y bytes ml ret R n0 Q h cells slots pc Ls (.int u :: st) := by
  by_cases hc : 0 < u
  · exact own_if_gt_t hd hc ho hp (kt hc)
  · exact own_if_gt_f hd (by first | exact hc | exact Decidable.not_not.mp hc) hq (kf (by first | exact hc | exact Decidable.not_not.mp hc))
theorem own_ic_gt_t {u w : Int32} {o : Int} (hd : decode bytes pc = .ok (.if_icmp .gt o, 3)) (hc : w < u) (ho : 0 ≤ (pc : Int) + o) (hp : ((pc : Int) + o).toNat = pc') (k : own_W l Z y bytes ml ret R n0 Q h cells slots pc' Ls st) : own_W l Z y bytes ml ret R n0 Q h cells slots pc Ls (.int w :: .int u :: st) :=
  own_pure (fun p e below T t m c hA hx hb hr => XS.icmpYes hA hx rfl rfl (hb ▸ hd) rfl (XT.ii_gt_t hc) ho hp hr) k
theorem own_ic_gt_f {u w : Int32} {o : Int} (hd : decode bytes pc = .ok (.if_icmp .gt o, 3)) (hc : ¬ w < u) (hp : pc + 3 = pc') (k : own_W l Z y bytes ml ret R n0 Q h cells slots pc' Ls st) : own_W l Z y bytes ml ret R n0 Q h cells slots pc Ls (.int w :: .int u :: st) :=
  own_pure (fun p e below T t m c hA hx hb hr => by subst hp; exact XS.icmpNo hA hx rfl (hb ▸ hd) rfl (XT.ii_gt_f hc) hr) k
theorem own_ic_gt {u w : Int32} {o : Int} {pf : Nat} (hd : decode bytes pc = .ok (.if_icmp .gt o, 3)) (ho : 0 ≤ (pc : Int) + o) (hp : ((pc : Int) + o).toNat = pc') (hq : pc + 3 = pf) (kt : w < u → own_W l Z y bytes ml ret R n0 Q h cells slots pc' Ls st) (kf : ¬ w < u → own_W l Z y bytes ml ret R n0 Q h cells slots pf Ls st) : own_W l Z y bytes ml ret R n0 Q h cells slots pc Ls (.int w :: .int u :: st) := by
  by_cases hc : w < u
  · exact own_ic_gt_t hd hc ho hp (kt hc)
  · exact own_ic_gt_f hd (by first | exact hc | exact Decidable.not_not.mp hc) hq (kf (by first | exact hc | exact Decidable.not_not.mp hc))
theorem own_il_gt_t {u w : Int64} {o : Int} (hd : decode bytes pc = .ok (.ifCond .gt o, 3)) (hc : w < u) (ho : 0 ≤ (pc : Int) + o) (hp : ((pc : Int) + o).toNat = pc') (k : own_W l Z y bytes ml ret R n0 Q h cells slots pc' Ls st) : own_W l Z y bytes ml ret R n0 Q h cells slots pc Ls (.int (XT.cmpL u w) :: st) :=
  own_pure (fun p e below T t m c hA hx hb hr => XS.ifYes hA hx rfl rfl (hb ▸ hd) rfl (XT.ll_gt_t hc) ho hp hr) k
theorem own_il_gt_f {u w : Int64} {o : Int} (hd : decode bytes pc = .ok (.ifCond .gt o, 3)) (hc : ¬ w < u) (hp : pc + 3 = pc') (k : own_W l Z y bytes ml ret R n0 Q h cells slots pc' Ls st) : own_W l Z y bytes ml ret R n0 Q h cells slots pc Ls (.int (XT.cmpL u w) :: st) :=
  own_pure (fun p e below T t m c hA hx hb hr => by subst hp; exact XS.ifNo hA hx rfl (hb ▸ hd) rfl (XT.ll_gt_f hc) hr) k
theorem own_il_gt {u w : Int64} {o : Int} {pf : Nat} (hd : decode bytes pc = .ok (.ifCond .gt o, 3)) (ho : 0 ≤ (pc : Int) + o) (hp : ((pc : Int) + o).toNat = pc') (hq : pc + 3 = pf) (kt : w < u → own_W l Z y bytes ml ret R n0 Q h cells slots pc' Ls st) (kf : ¬ w < u → own_W l Z y bytes ml ret R n0 Q h cells slots pf Ls st) : own_W l Z y bytes ml ret R n0 Q h cells slots pc Ls (.int (XT.cmpL u w) :: st) := by
  by_cases hc : w < u
  · exact own_il_gt_t hd hc ho hp (kt hc)
  · exact own_il_gt_f hd (by first | exact hc | exact Decidable.not_not.mp hc) hq (kf (by first | exact hc | exact Decidable.not_not.mp hc))
theorem own_if_le_t {u : Int32} {o : Int} (hd : decode bytes pc = .ok (.ifCond .le o, 3)) (hc : ¬ 0 < u) (ho : 0 ≤ (pc : Int) + o) (hp : ((pc : Int) + o).toNat = pc') (k : own_W l Z y bytes ml ret R n0 Q h cells slots pc' Ls st) : own_W l Z y bytes ml ret R n0 Q h cells slots pc Ls (.int u :: st) :=
  own_pure (fun p e below T t m c hA hx hb hr => XS.ifYes hA hx rfl rfl (hb ▸ hd) rfl (XT.i0_le_t hc) ho hp hr) k
theorem own_if_le_f {u : Int32} {o : Int} (hd : decode bytes pc = .ok (.ifCond .le o, 3)) (hc : 0 < u) (hp : pc + 3 = pc') (k : own_W l Z y bytes ml ret R n0 Q h cells slots pc' Ls st) : own_W l Z y bytes ml ret R n0 Q h cells slots pc Ls (.int u :: st) :=
  own_pure (fun p e below T t m c hA hx hb hr => by subst hp; exact XS.ifNo hA hx rfl (hb ▸ hd) rfl (XT.i0_le_f hc) hr) k
theorem own_if_le {u : Int32} {o : Int} {pf : Nat} (hd : decode bytes pc = .ok (.ifCond .le o, 3)) (ho : 0 ≤ (pc : Int) + o) (hp : ((pc : Int) + o).toNat = pc') (hq : pc + 3 = pf) (kt : ¬ 0 < u → own_W l Z y bytes ml ret R n0 Q h cells slots pc' Ls st) (kf : 0 < u → own_W l Z y bytes ml ret R n0 Q h cells slots pf Ls st) : own_W l Z y bytes ml ret R n0 Q h cells slots pc Ls (.int u :: st) := by
  by_cases hc : ¬ 0 < u
  · exact own_if_le_t hd hc ho hp (kt hc)
  · exact own_if_le_f hd (by first | exact hc | exact Decidable.not_not.mp hc) hq (kf (by first | exact hc | exact Decidable.not_not.mp hc))
theorem own_ic_le_t {u w : Int32} {o : Int} (hd : decode bytes pc = .ok (.if_icmp .le o, 3)) (hc : ¬ w < u) (ho : 0 ≤ (pc : Int) + o) (hp : ((pc : Int) + o).toNat = pc') (k : own_W l Z y bytes ml ret R n0 Q h cells slots pc' Ls st) : own_W l Z y bytes ml ret R n0 Q h cells slots pc Ls (.int w :: .int u :: st) :=
  own_pure (fun p e below T t m c hA hx hb hr => XS.icmpYes hA hx rfl rfl (hb ▸ hd) rfl (XT.ii_le_t hc) ho hp hr) k
theorem own_ic_le_f {u w : Int32} {o : Int} (hd : decode bytes pc = .ok (.if_icmp .le o, 3)) (hc : w < u) (hp : pc + 3 = pc') (k : own_W l Z y bytes ml ret R n0 Q h cells slots pc' Ls st) : own_W l Z y bytes ml ret R n0 Q h cells slots pc Ls (.int w :: .int u :: st) :=
  own_pure (fun p e below T t m c hA hx hb hr => by subst hp; exact XS.icmpNo hA hx rfl (hb ▸ hd) rfl (XT.ii_le_f hc) hr) k
theorem own_ic_le {u w : Int32} {o : Int} {pf : Nat} (hd : decode bytes pc = .ok (.if_icmp .le o, 3)) (ho : 0 ≤ (pc : Int) + o) (hp : ((pc : Int) + o).toNat = pc') (hq : pc + 3 = pf) (kt : ¬ w < u → own_W l Z y bytes ml ret R n0 Q h cells slots pc' Ls st) (kf : w < u → own_W l Z y bytes ml ret R n0 Q h cells slots pf Ls st) : own_W l Z y bytes ml ret R n0 Q h cells slots pc Ls (.int w :: .int u :: st) := by
  by_cases hc : ¬ w < u
  · exact own_ic_le_t hd hc ho hp (kt hc)
  · exact own_ic_le_f hd (by first | exact hc | exact Decidable.not_not.mp hc) hq (kf (by first | exact hc | exact Decidable.not_not.mp hc))
theorem own_il_le_t {u w : Int64} {o : Int} (hd : decode bytes pc = .ok (.ifCond .le o, 3)) (hc : ¬ w < u) (ho : 0 ≤ (pc : Int) + o) (hp : ((pc : Int) + o).toNat = pc') (k : own_W l Z y bytes ml ret R n0 Q h cells slots pc' Ls st) : own_W l Z y bytes ml ret R n0 Q h cells slots pc Ls (.int (XT.cmpL u w) :: st) :=
  own_pure (fun p e below T t m c hA hx hb hr => XS.ifYes hA hx rfl rfl (hb ▸ hd) rfl (XT.ll_le_t hc) ho hp hr) k
theorem own_il_le_f {u w : Int64} {o : Int} (hd : decode bytes pc = .ok (.ifCond .le o, 3)) (hc : w < u) (hp : pc + 3 = pc') (k : own_W l Z y bytes ml ret R n0 Q h cells slots pc' Ls st) : own_W l Z y bytes ml ret R n0 Q h cells slots pc Ls (.int (XT.cmpL u w) :: st) :=
  own_pure (fun p e below T t m c hA hx hb hr => by subst hp; exact XS.ifNo hA hx rfl (hb ▸ hd) rfl (XT.ll_le_f hc) hr) k
theorem own_il_le {u w : Int64} {o : Int} {pf : Nat} (hd : decode bytes pc = .ok (.ifCond .le o, 3)) (ho : 0 ≤ (pc : Int) + o) (hp : ((pc : Int) + o).toNat = pc') (hq : pc + 3 = pf) (kt : ¬ w < u → own_W l Z y bytes ml ret R n0 Q h cells slots pc' Ls st) (kf : w < u → own_W l Z y bytes ml ret R n0 Q h cells slots pf Ls st) : own_W l Z y bytes ml ret R n0 Q h cells slots pc Ls (.int (XT.cmpL u w) :: st) := by
  by_cases hc : ¬ w < u
  · exact own_il_le_t hd hc ho hp (kt hc)
  · exact own_il_le_f hd (by first | exact hc | exact Decidable.not_not.mp hc) hq (kf (by first | exact hc | exact Decidable.not_not.mp hc))
theorem own_ifnull_f {u : Addr} {o : Int} (hd : decode bytes pc = .ok (.ifnull o, 3)) (hp : pc + 3 = pc') (k : own_W l Z y bytes ml ret R n0 Q h cells slots pc' Ls st) : own_W l Z y bytes ml ret R n0 Q h cells slots pc Ls (.ref u :: st) :=
  own_pure (fun p e below T t m c hA hx hb hr => by subst hp; exact XS.ifnullNo hA hx rfl (hb ▸ hd) rfl hr) k
theorem own_ifnonnull_t {u : Addr} {o : Int} (hd : decode bytes pc = .ok (.ifnonnull o, 3)) (ho : 0 ≤ (pc : Int) + o) (hp : ((pc : Int) + o).toNat = pc') (k : own_W l Z y bytes ml ret R n0 Q h cells slots pc' Ls st) : own_W l Z y bytes ml ret R n0 Q h cells slots pc Ls (.ref u :: st) :=
  own_pure (fun p e below T t m c hA hx hb hr => XT.ifnonnullYes hA hx rfl rfl (hb ▸ hd) rfl ho hp hr) k
theorem own_ldcI {idx : Nat} {u : Int32} (w : (Jvm.Cond.constant y.cls idx u).before a0 Z = true) (hd : decode bytes pc = .ok (.ldc idx, 2)) (hp : pc + 2 = pc') (k : own_W l Z y bytes ml ret R n0 Q h cells slots pc' Ls (.int u :: st)) : own_W l Z y bytes ml ret R n0 Q h cells slots pc Ls st := by
  intro p e s m args below meth c T locs hx hZ hown hby hml hret hlk hnm hce hsl X eT N
  subst hp
  obtain ⟨s₂, o, h1, h2⟩ := k p e s m args below meth c T locs hx hZ hown hby hml hret hlk hnm hce hsl X eT N
  exact ⟨s₂, o, X.ldcInt hx hown (mvT hZ w) (g := mkF m pc Ls st) rfl (hb hby hd) _ h1, h2⟩
theorem own_ldcWI {idx : Nat} {u : Int32} (w : (Jvm.Cond.constant y.cls idx u).before a0 Z = true) (hd : decode bytes pc = .ok (.ldc_w idx, 3)) (hp : pc + 3 = pc') (k : own_W l Z y bytes ml ret R n0 Q h cells slots pc' Ls (.int u :: st)) : own_W l Z y bytes ml ret R n0 Q h cells slots pc Ls st := by
  intro p e s m args below meth c T locs hx hZ hown hby hml hret hlk hnm hce hsl X eT N
  subst hp
  obtain ⟨s₂, o, h1, h2⟩ := k p e s m args below meth c T locs hx hZ hown hby hml hret hlk hnm hce hsl X eT N
  exact ⟨s₂, o, X.ldcWInt hx hown (mvT hZ w) (g := mkF m pc Ls st) rfl (hb hby hd) _ h1, h2⟩
theorem own_ldc2 {idx : Nat} {u : Int64} (w : (Jvm.Cond.constantLong y.cls idx u).before a0 Z = true) (hd : decode bytes pc = .ok (.ldc2_w idx, 3)) (hp : pc + 3 = pc') (k : own_W l Z y bytes ml ret R n0 Q h cells slots pc' Ls (.long u :: st)) : own_W l Z y bytes ml ret R n0 Q h cells slots pc Ls st := by
  intro p e s m args below meth c T locs hx hZ hown hby hml hret hlk hnm hce hsl X eT N
  subst hp
  obtain ⟨s₂, o, h1, h2⟩ := k p e s m args below meth c T locs hx hZ hown hby hml hret hlk hnm hce hsl X eT N
  exact ⟨s₂, o, X.ldc2Long hx hown (mvT hZ w) (g := mkF m pc Ls st) rfl (hb hby hd) _ h1, h2⟩
theorem own_iret {u : Int32} (hr0 : ret = some .int) (hd : decode bytes pc = .ok (.ireturn, 1)) (hq : Q (some (.int u)) h) : own_W l Z y bytes ml ret R n0 Q h cells slots pc Ls (.int u :: st) := by
  intro p e s m args below meth c T locs hx hZ hown hby hml hret hlk hnm hce hsl X eT N
  subst hr0
  obtain ⟨fs, hr, hrun, hended, hW, hsame⟩ := X.leave (v := some (.int u)) (fun h => by rw [hret] at h; cases h) hlk
  refine ⟨_, _, ?_, hrun, hended, _, _, rfl, ⟨?_, N⟩, ⟨_, rfl⟩, hW, hsame.mono hce hsl⟩
  · exact retOut X hx hret rfl (Or.inl ⟨rfl, Or.inl rfl, _, rfl⟩) (hb hby hd) hr
  · rw [show (T.setFrames fs).heap = h from eT]; exact hq
theorem own_zret {u : Int32} {t : FieldType} (hr0 : ret = some t) (ht : t = .boolean ∨ t = .byte ∨ t = .char ∨ t = .short) (hd : decode bytes pc = .ok (.ireturn, 1)) (hq : Q (some (.int (nar t u))) h) : own_W l Z y bytes ml ret R n0 Q h cells slots pc Ls (.int u :: st) := by
  intro p e s m args below meth c T locs hx hZ hown hby hml hret hlk hnm hce hsl X eT N
  subst hr0
  obtain ⟨fs, hr, hrun, hended, hW, hsame⟩ := X.leave (v := some (.int (nar t u))) (fun h => by rw [hret] at h; cases h) hlk
  refine ⟨_, _, ?_, hrun, hended, _, _, rfl, ⟨?_, N⟩, ⟨_, rfl⟩, hW, hsame.mono hce hsl⟩
  · exact retN X hx hret ht (hb hby hd) hr
  · rw [show (T.setFrames fs).heap = h from eT]; exact hq
theorem own_bret {u v : Int32} (hr0 : ret = some .boolean) (hv : u &&& 1 = v) (hd : decode bytes pc = .ok (.ireturn, 1)) (hq : Q (some (.int v)) h) : own_W l Z y bytes ml ret R n0 Q h cells slots pc Ls (.int u :: st) :=
  own_zret hr0 (Or.inl rfl) hd (by subst hv; exact hq)
theorem own_lret {u : Int64} (hr0 : ret = some .long) (hd : decode bytes pc = .ok (.lreturn, 1)) (hq : Q (some (.long u)) h) : own_W l Z y bytes ml ret R n0 Q h cells slots pc Ls (.long u :: st) := by
  intro p e s m args below meth c T locs hx hZ hown hby hml hret hlk hnm hce hsl X eT N
  subst hr0
  obtain ⟨fs, hr, hrun, hended, hW, hsame⟩ := X.leave (v := some (.long u)) (fun h => by rw [hret] at h; cases h) hlk
  refine ⟨_, _, ?_, hrun, hended, _, _, rfl, ⟨?_, N⟩, ⟨_, rfl⟩, hW, hsame.mono hce hsl⟩
  · exact retOut X hx hret rfl (Or.inr (Or.inl ⟨rfl, rfl, _, rfl⟩)) (hb hby hd) hr
  · rw [show (T.setFrames fs).heap = h from eT]; exact hq
theorem own_aret {u : Addr} {t : FieldType} (hr0 : ret = some t) (ht : t.isReference = true) (hn : narrow t (.ref u) = .ref u) (hd : decode bytes pc = .ok (.areturn, 1)) (hq : Q (some (.ref u)) h) : own_W l Z y bytes ml ret R n0 Q h cells slots pc Ls (.ref u :: st) := by
  intro p e s m args below meth c T locs hx hZ hown hby hml hret hlk hnm hce hsl X eT N
  subst hr0
  obtain ⟨fs, hr, hrun, hended, hW, hsame⟩ := X.leave (v := some (.ref u)) (fun h => by rw [hret] at h; cases h) hlk
  refine ⟨_, _, ?_, hrun, hended, _, _, rfl, ⟨?_, N⟩, ⟨_, rfl⟩, hW, hsame.mono hce hsl⟩
  · exact retOut X hx hret hn (Or.inr (Or.inr (Or.inr (Or.inr ⟨rfl, ht, rfl⟩)))) (hb hby hd) hr
  · rw [show (T.setFrames fs).heap = h from eT]; exact hq
theorem own_ret (hr0 : ret = none) (hd : decode bytes pc = .ok (.return_, 1)) (hq : Q none h) : own_W l Z y bytes ml ret R n0 Q h cells slots pc Ls [] := by
  intro p e s m args below meth c T locs hx hZ hown hby hml hret hlk hnm hce hsl X eT N
  subst hr0
  obtain ⟨fs, hr, hrun, hended, hW, hsame⟩ := X.leave (v := none) (fun _ => rfl) hlk
  refine ⟨_, _, ?_, hrun, hended, _, _, rfl, ⟨?_, N⟩, ⟨_, rfl⟩, hW, hsame.mono hce hsl⟩
  · exact X.returnOut hx hret (hb hby hd) hr
  · rw [show (T.setFrames fs).heap = h from eT]; exact hq
theorem own_getF {O n d : String} {idx : Nat} {a : Addr} {v : Value} (w : (Jvm.Cond.fieldLink y.cls idx O n d).before a0 Z = true) (F : Fld Z h a O n d v) (hd : decode bytes pc = .ok (.getfield idx, 3)) (hp : pc + 3 = pc') (k : own_W l Z y bytes ml ret R n0 Q h cells slots pc' Ls (v :: st)) : own_W l Z y bytes ml ret R n0 Q h cells slots pc Ls (.ref a :: st) := by
  intro p e s m args below meth c T locs hx hZ hown hby hml hret hlk hnm hce hsl X eT N
  subst hp
  obtain ⟨T', X', e', st'⟩ := getF X hx hZ hown (host := "") (Or.inl w) Via.refl eT F (g := mkF m pc Ls (.ref a :: st)) rfl rfl (hb hby hd)
  obtain ⟨s₂, o, h1, h2⟩ := k p e s m args below meth c T' locs hx hZ hown hby hml hret hlk hnm hce hsl X' e' N
  exact ⟨s₂, o, st' _ h1, h2⟩
theorem own_putF {O n d C : String} {idx kk : Nat} {a : Addr} {v old : Value} {ty : FieldType} (w : (Jvm.Cond.fieldLink y.cls idx O n d).before a0 Z = true) (F : Fld Z h a O n d old) (E : Exa Z h a C) (L : (Jvm.Cond.lays C O n d).before a0 Z = true ∨ ((Jvm.Cond.laysFinal C O n d).before a0 Z = true ∧ y.cls = O ∧ y.name = "<init>")) (wi : (Jvm.Cond.instantiable C kk).before a0 Z = true)
    (ge : n0 ≤ a) (hty : parseFieldDescriptor d = some ty) (hn : narrow ty v = v) (hf : fits ty v = true) (hd : decode bytes pc = .ok (.putfield idx, 3)) (hp : pc + 3 = pc')
    (k : ∀ h', Wr h h' a (Jvm.RoadKit.slotOf Z O n d) v → Keep h h' [a] → own_W l Z y bytes ml ret R n0 Q h' cells slots pc' Ls st) : own_W l Z y bytes ml ret R n0 Q h cells slots pc Ls (v :: .ref a :: st) := by
  intro p e s m args below meth c T locs hx hZ hown hby hml hret hlk hnm hce hsl X eT N
  subst hp
  obtain ⟨T', h', X', e', W', st'⟩ := putF X hx hZ hown (host := "") (Or.inl w) Via.refl eT F E (L.imp id fun q => ⟨q.1, q.2.1, hnm.trans q.2.2⟩) wi hty hn hf (g := mkF m pc Ls (v :: .ref a :: st)) rfl rfl (hb hby hd)
  obtain ⟨s₂, o, h1, h2⟩ := k h' W' (Keep.of_wr W') p e s m args below meth c T' _ hx hZ hown hby hml hret hlk hnm hce hsl X' e' (Fr.snoc X' N ge)
  exact ⟨s₂, o, st' _ h1, h2⟩
theorem own_new {C : String} {idx n : Nat} (w : (Jvm.Cond.classLink y.cls idx C).before a0 Z = true) (wi : (Jvm.Cond.instantiable C n).before a0 Z = true) (wz : (Jvm.Cond.initialized C).before a0 Z = true) (hd : decode bytes pc = .ok (.new idx, 3)) (hp : pc + 3 = pc') (hc : cells + 1 ≤ R.cells) (hl : slots + n ≤ R.slots)
    (k : ∀ (h' : Heap) (a : Addr), h.size ≤ a → a < h'.size → Ext h h' → Exa Z h' a C → (∀ {O nm d : String} {ty : FieldType}, Laid Z a0 C O nm d → parseFieldDescriptor d = some ty → Fld Z h' a O nm d (defaultValue ty)) → own_W l Z y bytes ml ret R n0 Q h' (cells + 1) (slots + n) pc' Ls (.ref a :: st)) : own_W l Z y bytes ml ret R n0 Q h cells slots pc Ls st := by
  intro p e s m args below meth c T locs hx hZ hown hby hml hret hlk hnm hce hsl X eT N
  subst hp
  obtain ⟨T', h', X', e', E', A', D', -, st'⟩ := newO X hx hZ hown w wi wz eT (g := mkF m pc Ls st) rfl (hb hby hd) hc hl
  obtain ⟨s₂, o, h1, h2⟩ := k h' h.size (Nat.le_refl _) A'.lt E' A' D' p e s m args below meth c T' _ hx hZ hown hby hml hret hlk hnm hc hl X' e' N
  exact ⟨s₂, o, st' _ h1, h2⟩
theorem own_initO {idx W : Nat} {a : Addr} (w1 : (Jvm.Cond.methodLink y.cls idx Lib.objectInit).before a0 Z = true) (w2 : (Jvm.Cond.instanceMethod Lib.objectInit).before a0 Z = true) (w3 : (Jvm.Cond.code Lib.objectInit ⟨#[0xb1]⟩ 1 none).before a0 Z = true) (hd : decode bytes pc = .ok (.invokespecial idx, 3)) (hp : pc + 3 = pc')
    (hsz : Ls.size = ml) (hf : 1 ≤ R.frames) (hW : (st.map fun v => v.category).sum ≤ W) (hl : W + 12 ≤ R.locals) (k : own_W l Z y bytes ml ret R n0 Q h cells slots pc' Ls st) : own_W l Z y bytes ml ret R n0 Q h cells slots pc Ls (.ref a :: st) := by
  intro p e s m args below meth c T locs hx hZ hown hby hml hret hlk hnm hce hsl X eT N
  subst hp
  obtain ⟨T', X', e', st'⟩ := initO X hx hZ hown w1 w2 w3 eT (g := mkF m pc Ls (.ref a :: st)) rfl (by rw [hml]; exact hsz) rfl (hb hby hd) hf (W := W) (by show 2 * 0 + _ ≤ _; omega) hl
  obtain ⟨s₂, o, h1, h2⟩ := k p e s m args below meth c T' locs hx hZ hown hby hml hret hlk hnm hce hsl X' e' N
  exact ⟨s₂, o, st' _ h1, h2⟩
/-- an array of this component type with just these components -/
def own_A (Z : State) (h : Heap) (a : Addr) (ty : FieldType) (vs : List Value) : Prop := ∃ c : Cell, Arr Z h a c ty ∧ c.slots.toList = vs ∧ vs.length < 2 ^ 31 ∧ ∀ v ∈ vs, fits ty v = true
theorem own_A.lt {a : Addr} {ty : FieldType} {vs : List Value} (A : own_A Z h a ty vs) : a < h.size := by obtain ⟨c, A, -⟩ := A; exact A.lt
theorem own_A.ext {h' : Heap} {a : Addr} {ty : FieldType} {vs : List Value} (A : own_A Z h a ty vs) (E : Ext h h') : own_A Z h' a ty vs := by obtain ⟨c, A, r⟩ := A; exact ⟨c, A.ext E, r⟩
theorem own_A.keep {h' : Heap} {a : Addr} {ty : FieldType} {vs : List Value} {ws : List Addr} (A : own_A Z h a ty vs) (K : Keep h h' ws) (q : a ∉ ws) : own_A Z h' a ty vs := by obtain ⟨c, A, r⟩ := A; exact ⟨c, ⟨K.2.1 a c A.1 q, A.2⟩, r⟩
theorem own_A.cast {a : Addr} {ty : FieldType} {vs vs' : List Value} (A : own_A Z h a ty vs) (q : vs = vs') : own_A Z h a ty vs' := q ▸ A
theorem own_size {c : Cell} {vs : List Value} (q : c.slots.toList = vs) : c.slots.size = vs.length := by rw [← q]; simp
theorem own_in {c : Cell} {vs : List Value} {j : Int32} (q : c.slots.toList = vs) (h0 : ¬ j < 0) (h1 : j.toNatClampNeg < vs.length) : ¬ (j < 0 ∨ c.slots.size ≤ j.toNatClampNeg) := by rw [own_size q]; rintro (u | u); exact h0 u; omega
theorem own_get {c : Cell} {vs : List Value} {j : Nat} {v : Value} (q : c.slots.toList = vs) (h1 : vs[j]? = some v) : c.slots[j]? = some v := by rw [← Array.getElem?_toList, q]; exact h1
theorem own_A.set {h' : Heap} {a : Addr} {ty : FieldType} {vs : List Value} {j : Nat} {v : Value} {c : Cell} (A : Arr Z h a c ty) (q : c.slots.toList = vs) (hl : vs.length < 2 ^ 31) (hft : ∀ v ∈ vs, fits ty v = true) (hv : fits ty v = true) (W : Wr h h' a j v) : own_A Z h' a ty (vs.set j v) := by
  refine ⟨_, A.same W, ?_, by simpa using hl, fun w hw => (List.mem_or_eq_of_mem_set hw).elim (hft w) fun e => e ▸ hv⟩
  rw [← q]; simp [Cell.setSlot]
theorem own_fitd (ty : FieldType) : fits ty (defaultValue ty) = true := by cases ty <;> rfl
theorem own_len {a : Addr} {ty : FieldType} {vs : List Value} {n : Int32} (A : own_A Z h a ty vs) (hn : vs.length.toInt32 = n) (hd : decode bytes pc = .ok (.arraylength, 1)) (hp : pc + 1 = pc') (k : own_W l Z y bytes ml ret R n0 Q h cells slots pc' Ls (.int n :: st)) : own_W l Z y bytes ml ret R n0 Q h cells slots pc Ls (.ref a :: st) := by
  intro p e s m args below meth c T locs hx hZ hown hby hml hret hlk hnm hce hsl X eT N
  subst hp hn
  obtain ⟨cl, A, q, hl, hft⟩ := A
  obtain ⟨s₂, o, h1, h2⟩ := k p e s m args below meth c T locs hx hZ hown hby hml hret hlk hnm hce hsl X eT N
  refine ⟨s₂, o, X.arraylength hx (by rw [eT]; exact A.1) (State.isArrayOf_alike hZ.alike A.2.1) (g := mkF m pc Ls (.ref a :: st)) rfl rfl (hb hby hd) _ ?_, h2⟩
  rw [own_size q]; exact h1
theorem own_iaload {a : Addr} {vs : List Value} {j : Int32} {v : Value} (A : own_A Z h a .int vs) (h0 : ¬ j < 0) (hv : vs[j.toNatClampNeg]? = some v) (hd : decode bytes pc = .ok (.iaload, 1)) (hp : pc + 1 = pc') (k : own_W l Z y bytes ml ret R n0 Q h cells slots pc' Ls (v :: st)) : own_W l Z y bytes ml ret R n0 Q h cells slots pc Ls (.int j :: .ref a :: st) := by
  intro p e s m args below meth c T locs hx hZ hown hby hml hret hlk hnm hce hsl X eT N
  subst hp
  obtain ⟨cl, A, q, hl, hft⟩ := A
  obtain ⟨s₂, o, h1, h2⟩ := k p e s m args below meth c T locs hx hZ hown hby hml hret hlk hnm hce hsl X eT N
  exact ⟨s₂, o, X.iaload hx (by rw [eT]; exact A.1) (State.isArrayOf_alike hZ.alike A.2.1) A.2.2 (own_in q h0 (List.getElem?_eq_some_iff.mp hv).1) (own_get q hv) (g := mkF m pc Ls (.int j :: .ref a :: st)) rfl rfl (hb hby hd) _ h1, h2⟩
theorem own_laload {a : Addr} {vs : List Value} {j : Int32} {v : Value} (A : own_A Z h a .long vs) (h0 : ¬ j < 0) (hv : vs[j.toNatClampNeg]? = some v) (hd : decode bytes pc = .ok (.laload, 1)) (hp : pc + 1 = pc') (k : own_W l Z y bytes ml ret R n0 Q h cells slots pc' Ls (v :: st)) : own_W l Z y bytes ml ret R n0 Q h cells slots pc Ls (.int j :: .ref a :: st) := by
  intro p e s m args below meth c T locs hx hZ hown hby hml hret hlk hnm hce hsl X eT N
  subst hp
  obtain ⟨cl, A, q, hl, hft⟩ := A
  obtain ⟨s₂, o, h1, h2⟩ := k p e s m args below meth c T locs hx hZ hown hby hml hret hlk hnm hce hsl X eT N
  exact ⟨s₂, o, X.laload hx (by rw [eT]; exact A.1) (State.isArrayOf_alike hZ.alike A.2.1) A.2.2 (own_in q h0 (List.getElem?_eq_some_iff.mp hv).1) (own_get q hv) (g := mkF m pc Ls (.int j :: .ref a :: st)) rfl rfl (hb hby hd) _ h1, h2⟩
theorem own_caload {a : Addr} {vs : List Value} {j : Int32} {v : Value} (A : own_A Z h a .char vs) (h0 : ¬ j < 0) (hv : vs[j.toNatClampNeg]? = some v) (hd : decode bytes pc = .ok (.caload, 1)) (hp : pc + 1 = pc') (k : own_W l Z y bytes ml ret R n0 Q h cells slots pc' Ls (v :: st)) : own_W l Z y bytes ml ret R n0 Q h cells slots pc Ls (.int j :: .ref a :: st) := by
  intro p e s m args below meth c T locs hx hZ hown hby hml hret hlk hnm hce hsl X eT N
  subst hp
  obtain ⟨cl, A, q, hl, hft⟩ := A
  obtain ⟨s₂, o, h1, h2⟩ := k p e s m args below meth c T locs hx hZ hown hby hml hret hlk hnm hce hsl X eT N
  exact ⟨s₂, o, X.caload hx (by rw [eT]; exact A.1) (State.isArrayOf_alike hZ.alike A.2.1) A.2.2 (own_in q h0 (List.getElem?_eq_some_iff.mp hv).1) (own_get q hv) (g := mkF m pc Ls (.int j :: .ref a :: st)) rfl rfl (hb hby hd) _ h1, h2⟩
theorem own_baload {a : Addr} {vs : List Value} {j : Int32} {v : Value} (A : own_A Z h a .byte vs) (h0 : ¬ j < 0) (hv : vs[j.toNatClampNeg]? = some v) (hd : decode bytes pc = .ok (.baload, 1)) (hp : pc + 1 = pc') (k : own_W l Z y bytes ml ret R n0 Q h cells slots pc' Ls (v :: st)) : own_W l Z y bytes ml ret R n0 Q h cells slots pc Ls (.int j :: .ref a :: st) := by
  intro p e s m args below meth c T locs hx hZ hown hby hml hret hlk hnm hce hsl X eT N
  subst hp
  obtain ⟨cl, A, q, hl, hft⟩ := A
  obtain ⟨s₂, o, h1, h2⟩ := k p e s m args below meth c T locs hx hZ hown hby hml hret hlk hnm hce hsl X eT N
  exact ⟨s₂, o, X.baloadBytes hx (by rw [eT]; exact A.1) (State.isArrayOf_alike hZ.alike A.2.1) A.2.2 (own_in q h0 (List.getElem?_eq_some_iff.mp hv).1) (own_get q hv) (g := mkF m pc Ls (.int j :: .ref a :: st)) rfl rfl (hb hby hd) _ h1, h2⟩
theorem own_zaload {a : Addr} {vs : List Value} {j : Int32} {v : Value} (A : own_A Z h a .boolean vs) (h0 : ¬ j < 0) (hv : vs[j.toNatClampNeg]? = some v) (hd : decode bytes pc = .ok (.baload, 1)) (hp : pc + 1 = pc') (k : own_W l Z y bytes ml ret R n0 Q h cells slots pc' Ls (v :: st)) : own_W l Z y bytes ml ret R n0 Q h cells slots pc Ls (.int j :: .ref a :: st) := by
  intro p e s m args below meth c T locs hx hZ hown hby hml hret hlk hnm hce hsl X eT N
  subst hp
  obtain ⟨cl, A, q, hl, hft⟩ := A
  obtain ⟨s₂, o, h1, h2⟩ := k p e s m args below meth c T locs hx hZ hown hby hml hret hlk hnm hce hsl X eT N
  exact ⟨s₂, o, X.baloadBooleans hx (by rw [eT]; exact A.1) (State.isArrayOf_alike hZ.alike A.2.1) A.2.2 (own_in q h0 (List.getElem?_eq_some_iff.mp hv).1) (own_get q hv) (g := mkF m pc Ls (.int j :: .ref a :: st)) rfl rfl (hb hby hd) _ h1, h2⟩
theorem own_iastore {a : Addr} {vs : List Value} {j : Int32} {u : Int32} (A : own_A Z h a .int vs) (h0 : ¬ j < 0) (h1 : j.toNatClampNeg < vs.length) (ge : n0 ≤ a) (hd : decode bytes pc = .ok (.iastore, 1)) (hp : pc + 1 = pc') (k : ∀ h', Keep h h' [a] → own_A Z h' a .int (vs.set j.toNatClampNeg (.int u)) → own_W l Z y bytes ml ret R n0 Q h' cells slots pc' Ls st) : own_W l Z y bytes ml ret R n0 Q h cells slots pc Ls (.int u :: .int j :: .ref a :: st) := by
  intro p e s m args below meth c T locs hx hZ hown hby hml hret hlk hnm hce hsl X eT N
  subst hp
  obtain ⟨cl, A, q, hl, hft⟩ := A
  obtain ⟨T', h', X', e', W', st'⟩ := stI X hx hZ eT A (own_in q h0 h1) (g := mkF m pc Ls (.int u :: .int j :: .ref a :: st)) rfl rfl (hb hby hd)
  obtain ⟨s₂, o, h1, h2⟩ := k h' (Keep.of_wr W') (own_A.set A q hl hft rfl W') p e s m args below meth c T' _ hx hZ hown hby hml hret hlk hnm hce hsl X' e' (Fr.snoc X' N ge)
  exact ⟨s₂, o, st' _ h1, h2⟩
theorem own_lastore {a : Addr} {vs : List Value} {j : Int32} {u : Int64} (A : own_A Z h a .long vs) (h0 : ¬ j < 0) (h1 : j.toNatClampNeg < vs.length) (ge : n0 ≤ a) (hd : decode bytes pc = .ok (.lastore, 1)) (hp : pc + 1 = pc') (k : ∀ h', Keep h h' [a] → own_A Z h' a .long (vs.set j.toNatClampNeg (.long u)) → own_W l Z y bytes ml ret R n0 Q h' cells slots pc' Ls st) : own_W l Z y bytes ml ret R n0 Q h cells slots pc Ls (.long u :: .int j :: .ref a :: st) := by
  intro p e s m args below meth c T locs hx hZ hown hby hml hret hlk hnm hce hsl X eT N
  subst hp
  obtain ⟨cl, A, q, hl, hft⟩ := A
  obtain ⟨T', h', X', e', W', st'⟩ := stJ X hx hZ eT A (own_in q h0 h1) (g := mkF m pc Ls (.long u :: .int j :: .ref a :: st)) rfl rfl (hb hby hd)
  obtain ⟨s₂, o, h1, h2⟩ := k h' (Keep.of_wr W') (own_A.set A q hl hft rfl W') p e s m args below meth c T' _ hx hZ hown hby hml hret hlk hnm hce hsl X' e' (Fr.snoc X' N ge)
  exact ⟨s₂, o, st' _ h1, h2⟩
theorem own_castore {a : Addr} {vs : List Value} {j : Int32} {u : Int32} (A : own_A Z h a .char vs) (h0 : ¬ j < 0) (h1 : j.toNatClampNeg < vs.length) (ge : n0 ≤ a) (hd : decode bytes pc = .ok (.castore, 1)) (hp : pc + 1 = pc') (k : ∀ h', Keep h h' [a] → own_A Z h' a .char (vs.set j.toNatClampNeg (.int (nar .char u))) → own_W l Z y bytes ml ret R n0 Q h' cells slots pc' Ls st) : own_W l Z y bytes ml ret R n0 Q h cells slots pc Ls (.int u :: .int j :: .ref a :: st) := by
  intro p e s m args below meth c T locs hx hZ hown hby hml hret hlk hnm hce hsl X eT N
  subst hp
  obtain ⟨cl, A, q, hl, hft⟩ := A
  obtain ⟨T', h', X', e', W', st'⟩ := stC X hx hZ eT A (own_in q h0 h1) (g := mkF m pc Ls (.int u :: .int j :: .ref a :: st)) rfl rfl (hb hby hd)
  obtain ⟨s₂, o, h1, h2⟩ := k h' (Keep.of_wr W') (own_A.set A q hl hft (fits_nar_char u) W') p e s m args below meth c T' _ hx hZ hown hby hml hret hlk hnm hce hsl X' e' (Fr.snoc X' N ge)
  exact ⟨s₂, o, st' _ h1, h2⟩
theorem own_bastore {a : Addr} {vs : List Value} {j : Int32} {u : Int32} (A : own_A Z h a .byte vs) (h0 : ¬ j < 0) (h1 : j.toNatClampNeg < vs.length) (ge : n0 ≤ a) (hd : decode bytes pc = .ok (.bastore, 1)) (hp : pc + 1 = pc') (k : ∀ h', Keep h h' [a] → own_A Z h' a .byte (vs.set j.toNatClampNeg (.int (nar .byte u))) → own_W l Z y bytes ml ret R n0 Q h' cells slots pc' Ls st) : own_W l Z y bytes ml ret R n0 Q h cells slots pc Ls (.int u :: .int j :: .ref a :: st) := by
  intro p e s m args below meth c T locs hx hZ hown hby hml hret hlk hnm hce hsl X eT N
  subst hp
  obtain ⟨cl, A, q, hl, hft⟩ := A
  obtain ⟨T', h', X', e', W', st'⟩ := stB X hx hZ eT A (own_in q h0 h1) (g := mkF m pc Ls (.int u :: .int j :: .ref a :: st)) rfl rfl (hb hby hd)
  obtain ⟨s₂, o, h1, h2⟩ := k h' (Keep.of_wr W') (own_A.set A q hl hft (fits_nar_byte u) W') p e s m args below meth c T' _ hx hZ hown hby hml hret hlk hnm hce hsl X' e' (Fr.snoc X' N ge)
  exact ⟨s₂, o, st' _ h1, h2⟩
theorem own_zastore {a : Addr} {vs : List Value} {j : Int32} {u : Int32} (A : own_A Z h a .boolean vs) (h0 : ¬ j < 0) (h1 : j.toNatClampNeg < vs.length) (ge : n0 ≤ a) (hd : decode bytes pc = .ok (.bastore, 1)) (hp : pc + 1 = pc') (k : ∀ h', Keep h h' [a] → own_A Z h' a .boolean (vs.set j.toNatClampNeg (.int (nar .boolean u))) → own_W l Z y bytes ml ret R n0 Q h' cells slots pc' Ls st) : own_W l Z y bytes ml ret R n0 Q h cells slots pc Ls (.int u :: .int j :: .ref a :: st) := by
  intro p e s m args below meth c T locs hx hZ hown hby hml hret hlk hnm hce hsl X eT N
  subst hp
  obtain ⟨cl, A, q, hl, hft⟩ := A
  obtain ⟨T', h', X', e', W', st'⟩ := stZ X hx hZ eT A (own_in q h0 h1) (g := mkF m pc Ls (.int u :: .int j :: .ref a :: st)) rfl rfl (hb hby hd)
  obtain ⟨s₂, o, h1, h2⟩ := k h' (Keep.of_wr W') (own_A.set A q hl hft (fits_nar_bool u) W') p e s m args below meth c T' _ hx hZ hown hby hml hret hlk hnm hce hsl X' e' (Fr.snoc X' N ge)
  exact ⟨s₂, o, st' _ h1, h2⟩
theorem own_newarrE {aty : ArrayType} {ty : FieldType} {n : Int32} {cap : Nat} (w : (Jvm.Cond.arrayClass ty).before a0 Z = true) (ht : newarray.typeOf aty = ty) (hd : decode bytes pc = .ok (.newarray aty, 2)) (hp : pc + 2 = pc') (hn : ¬ n < 0) (hcap : n.toNatClampNeg ≤ cap) (hb8 : cap * 8 ≤ 536870912) (hc : cells + 1 ≤ R.cells) (hl : slots + cap ≤ R.slots)
    (k : ∀ (h' : Heap) (a : Addr), h.size ≤ a → a < h'.size → Ext h h' → own_A Z h' a ty (List.replicate n.toNatClampNeg (defaultValue ty)) → Exa Z h' a ("[" ++ ty.toString) → own_W l Z y bytes ml ret R n0 Q h' (cells + 1) (slots + cap) pc' Ls (.ref a :: st)) : own_W l Z y bytes ml ret R n0 Q h cells slots pc Ls (.int n :: st) := by
  intro p e s m args below meth c T locs hx hZ hown hby hml hret hlk hnm hce hsl X eT N
  subst hp ht
  have hcb : componentBytes (newarray.typeOf aty) ≤ 8 := by cases aty <;> decide
  obtain ⟨cA, kA, comp, g1, g2, g3, X', st'⟩ := X.newarrayPrim hx (mvA hZ w) (g := mkF m pc Ls (.int n :: st)) rfl (hb hby hd) rfl hn (Nat.le_trans (Nat.mul_le_mul hcap hcb) hb8) hc (by omega)
  rw [hZ.alike.findClass] at g1
  obtain ⟨kZ, z1, -⟩ := Vm.findClass_spec g1
  obtain ⟨k', z2, z3⟩ := hZ.alike.2.2 _ _ z1
  cases g2.symm.trans z2
  have kk : kZ.kind = .array comp (newarray.typeOf aty) := by rw [← g3, z3]
  have hN : (T.heap.push ({ cls := cA, slots := Array.replicate n.toNatClampNeg (defaultValue (newarray.typeOf aty)), vm := .none } : Cell))[T.heap.size]? = some { cls := cA, slots := Array.replicate n.toNatClampNeg (defaultValue (newarray.typeOf aty)), vm := .none } := by simp
  have E' : Ext h (T.heap.push ({ cls := cA, slots := Array.replicate n.toNatClampNeg (defaultValue (newarray.typeOf aty)), vm := .none } : Cell)) := by
    subst eT
    refine ⟨by simp, fun b cc hb' => ?_⟩
    rw [Array.getElem?_push_lt (Array.getElem?_eq_some_iff.mp hb').1]; exact (Array.getElem?_eq_getElem _).symm.trans hb'
  have A' : own_A Z (T.heap.push ({ cls := cA, slots := Array.replicate n.toNatClampNeg (defaultValue (newarray.typeOf aty)), vm := .none } : Cell)) T.heap.size (newarray.typeOf aty) (List.replicate n.toNatClampNeg (defaultValue (newarray.typeOf aty))) :=
    ⟨_, ⟨hN, ⟨by simp, kZ, z1, comp, kk⟩, by simp⟩, by simp, by simp only [List.length_replicate]; exact (back32 hn).2, fun v hv => by rw [(List.mem_replicate.mp hv).2]; exact own_fitd _⟩
  have X2 := X'.more (Nat.le_refl _) (Nat.add_le_add_left hcap slots)
  obtain ⟨s₂, o, h1, h2⟩ := k _ T.heap.size (by rw [eT]; exact Nat.le_refl _) A'.lt E' A' ⟨_, kZ, hN, g1, z1, rfl, fun q => by rw [kk] at q; cases q⟩ p e s m args below meth c _ _ hx hZ hown hby hml hret hlk hnm hc hl X2 rfl N
  exact ⟨s₂, o, st' _ h1, h2⟩
theorem own_newarr {aty : ArrayType} {ty : FieldType} {n : Int32} {cap : Nat} (w : (Jvm.Cond.arrayClass ty).before a0 Z = true) (ht : newarray.typeOf aty = ty) (hd : decode bytes pc = .ok (.newarray aty, 2)) (hp : pc + 2 = pc') (hn : ¬ n < 0) (hcap : n.toNatClampNeg ≤ cap) (hb8 : cap * 8 ≤ 536870912) (hc : cells + 1 ≤ R.cells) (hl : slots + cap ≤ R.slots)
    (k : ∀ (h' : Heap) (a : Addr), h.size ≤ a → a < h'.size → Ext h h' → own_A Z h' a ty (List.replicate n.toNatClampNeg (defaultValue ty)) → own_W l Z y bytes ml ret R n0 Q h' (cells + 1) (slots + cap) pc' Ls (.ref a :: st)) : own_W l Z y bytes ml ret R n0 Q h cells slots pc Ls (.int n :: st) :=
  own_newarrE w ht hd hp hn hcap hb8 hc hl fun h' a q1 q2 q3 q4 _ => k h' a q1 q2 q3 q4
theorem own_cast {idx : Nat} {K : String} {a : Addr} (w : (Jvm.Cond.classLink y.cls idx K).before a0 Z = true) (F : Ins Z h a K true) (hd : decode bytes pc = .ok (.checkcast idx, 3)) (hp : pc + 3 = pc') (k : own_W l Z y bytes ml ret R n0 Q h cells slots pc' Ls (.ref a :: st)) : own_W l Z y bytes ml ret R n0 Q h cells slots pc Ls (.ref a :: st) := by
  intro p e s m args below meth c T locs hx hZ hown hby hml hret hlk hnm hce hsl X eT N
  subst hp
  obtain ⟨T', X', e', st'⟩ := castY X hx hZ hown w eT F (g := mkF m pc Ls (.ref a :: st)) rfl rfl (hb hby hd)
  obtain ⟨s₂, o, h1, h2⟩ := k p e s m args below meth c T' locs hx hZ hown hby hml hret hlk hnm hce hsl X' e' N
  exact ⟨s₂, o, st' _ h1, h2⟩
theorem own_clone {ad : String} {idx W cap : Nat} {a : Addr} {ty : FieldType} {vs : List Value} (w1 : (Jvm.Cond.methodLink y.cls idx ⟨ad, "clone", "()Ljava/lang/Object;"⟩).before a0 Z = true) (w2 : (Jvm.Cond.sameMethod ad "java/lang/Object" "clone" "()Ljava/lang/Object;").before a0 Z = true) (w3 : (Jvm.Cond.native ⟨"java/lang/Object", "clone", "()Ljava/lang/Object;"⟩).before a0 Z = true)
    (w4 : (Jvm.Cond.instanceMethod ⟨"java/lang/Object", "clone", "()Ljava/lang/Object;"⟩).before a0 Z = true) (w5 : (Jvm.Cond.selects ad ⟨ad, "clone", "()Ljava/lang/Object;"⟩ ⟨"java/lang/Object", "clone", "()Ljava/lang/Object;"⟩).before a0 Z = true) (w6 : (Jvm.Cond.castable ad "java/lang/Cloneable").before a0 Z = true)
    (A : own_A Z h a ty vs) (E : Exa Z h a ad) (hd : decode bytes pc = .ok (.invokevirtual idx, 3)) (hp : pc + 3 = pc') (hsz : Ls.size = ml) (hf : 1 ≤ R.frames) (hW : (st.map fun v => v.category).sum ≤ W) (hl : W + 14 ≤ R.locals) (hcap : vs.length ≤ cap) (hc : cells + 1 ≤ R.cells) (hsl' : slots + cap ≤ R.slots)
    (k : ∀ (h' : Heap) (b : Addr), h.size ≤ b → b < h'.size → Ext h h' → own_A Z h' b ty vs → Exa Z h' b ad → own_W l Z y bytes ml ret R n0 Q h' (cells + 1) (slots + cap) pc' Ls (.ref b :: st)) : own_W l Z y bytes ml ret R n0 Q h cells slots pc Ls (.ref a :: st) := by
  intro p e s m args below meth c T locs hx hZ hown hby hml hret hlk hnm hce hsl X eT N
  subst hp
  obtain ⟨cl, A, q, hlen, hft⟩ := A
  have F : FitC Z cl := fun i v hv => by
    obtain ⟨-, k, hk, comp, hkind⟩ := A.2.1
    have e1 : Z.slotType? cl.cls .none i = some ty := by simp [State.slotType?, hk, hkind]
    have mem : v ∈ vs := by rw [← q]; rw [← Array.getElem?_toList] at hv; exact List.mem_of_getElem? hv
    simpa [State.fitsSlot, e1] using hft v mem
  obtain ⟨T', h', X', e', E', A', E2, st'⟩ := cloneA X hx hZ hown w1 w2 w3 w4 w5 w6 eT A E F (g := mkF m pc Ls (.ref a :: st)) rfl (by rw [hml]; exact hsz) rfl (hb hby hd) hf (W := W) (by show 2 * 0 + _ ≤ _; omega) hl (cap := cap) (by rw [own_size q]; exact hcap) hc hsl'
  obtain ⟨s₂, o, h1, h2⟩ := k h' h.size (Nat.le_refl _) A'.lt E' ⟨_, A', q, hlen, hft⟩ E2 p e s m args below meth c T' locs hx hZ hown hby hml hret hlk hnm hc hsl' X' e' N
  exact ⟨s₂, o, st' _ h1, h2⟩
theorem own_getD {α : Type} (l : List α) (d : α) {i : Nat} (h : i < l.length) : l.getD i d = l[i] := by
  rw [List.getD_eq_getElem?_getD, List.getElem?_eq_getElem h]; rfl
theorem own_len32 {n : Nat} (h : n < 2 ^ 31) : n.toInt32.toNatClampNeg = n ∧ ¬ n.toInt32 < 0 := by
  have e := len_toInt h
  have z : (0 : Int32).toInt = 0 := rfl
  exact ⟨by rw [Int32.toNatClampNeg, e]; rfl, by rw [Int32.lt_iff_toInt_lt, e, z]; omega⟩
theorem own_A.arv {a : Addr} {ty : FieldType} {vs : List Value} (A : own_A Z h a ty vs) (d : Value) : ∃ k, Arv Z h a k ty vs.length.toInt32 vs d := by
  obtain ⟨c, A, q, hl, hft⟩ := A
  have e := own_len32 hl
  refine ⟨c.cls, c, A, rfl, by rw [e.1]; exact own_size q, e.2, fun k hk => ?_, fun k hk => ?_⟩
  · rw [own_size q] at hk
    refine own_get q ?_
    rw [own_getD _ _ hk]; exact List.getElem?_eq_getElem hk
  · rw [own_size q] at hk
    rw [own_getD _ _ hk]; exact hft _ (List.getElem_mem hk)
theorem own_A.ofArv {a : Addr} {ty : FieldType} {vs : List Value} {k : ClassId} {z : Int32} {d : Value} (A : Arv Z h a k ty z vs d) (hz : z.toNatClampNeg = vs.length) (hl : vs.length < 2 ^ 31) : own_A Z h a ty vs := by
  obtain ⟨c, A, -, hs, -, H, G⟩ := A
  have e : c.slots.toList = vs := by
    apply List.ext_getElem?
    intro i
    by_cases hi : i < vs.length
    · rw [Array.getElem?_toList, H i (by omega), own_getD _ _ hi, List.getElem?_eq_getElem hi]
    · rw [List.getElem?_eq_none (by rw [Array.length_toList]; omega), List.getElem?_eq_none (by omega)]
  refine ⟨c, A, e, hl, fun v hv => ?_⟩
  obtain ⟨i, hi, rfl⟩ := List.mem_iff_getElem.mp hv
  have := G i (by omega)
  rwa [own_getD _ _ hi] at this
theorem own_slice (vs : List Value) (d : Value) (p n : Nat) (h : p + n ≤ vs.length) : (vs.drop p).take n = (List.range n).map fun i => vs.getD (p + i) d := by
  apply List.ext_getElem
  · simp; omega
  · intro i h1 h2
    simp only [List.length_map, List.length_range] at h2
    simp [List.getD_eq_getElem?_getD, show p + i < vs.length by omega]
theorem own_acopy {idx W : Nat} {a b : Addr} {ty : FieldType} {vs vd : List Value} {sp dp nn : Int32} (w1 : (Jvm.Cond.methodLink y.cls idx Jvm.Stand.acN).before a0 Z = true) (w2 : (Jvm.Cond.native Jvm.Stand.acN).before a0 Z = true) (w3 : (Jvm.Cond.static Jvm.Stand.acN).before a0 Z = true) (w4 : (Jvm.Cond.initialized "java/lang/System").before a0 Z = true)
    (A : own_A Z h a ty vs) (B : own_A Z h b ty vd) (hty : refKind ty = false) (h1 : ¬ sp < 0) (h2 : ¬ dp < 0) (h3 : ¬ nn < 0) (h4 : sp.toNatClampNeg + nn.toNatClampNeg ≤ vs.length) (h5 : dp.toNatClampNeg + nn.toNatClampNeg ≤ vd.length) (ge : n0 ≤ b)
    (hd : decode bytes pc = .ok (.invokestatic idx, 3)) (hp : pc + 3 = pc') (hsz : Ls.size = ml) (hf : 1 ≤ R.frames) (hW : (st.map fun v => v.category).sum ≤ W) (hlo : W + (nativeFrameWords "java/lang/System" "arraycopy" 5 + 11) ≤ R.locals)
    (k : ∀ h', Keep h h' [b] → own_A Z h' b ty (vd.take dp.toNatClampNeg ++ (vs.drop sp.toNatClampNeg).take nn.toNatClampNeg ++ vd.drop (dp.toNatClampNeg + nn.toNatClampNeg)) → own_W l Z y bytes ml ret R n0 Q h' cells slots pc' Ls st) : own_W l Z y bytes ml ret R n0 Q h cells slots pc Ls (.int nn :: .int dp :: .ref b :: .int sp :: .ref a :: st) := by
  intro p e s m args below meth c T locs hx hZ hown hby hml hret hlk hnm hce hsl X eT N
  subst hp
  have hlv : vs.length < 2 ^ 31 := by obtain ⟨_, _, _, q, _⟩ := A; exact q
  have hld : vd.length < 2 ^ 31 := by obtain ⟨_, _, _, q, _⟩ := B; exact q
  obtain ⟨k1, A1⟩ := A.arv .null
  obtain ⟨k2, B1⟩ := B.arv .null
  have e1 := own_len32 hlv
  have e2 := own_len32 hld
  obtain ⟨T', h', L, X', e', N', K', B', st'⟩ := cpA X hx hZ hown w1 w2 w3 w4 eT A1 B1 (Or.inl ⟨rfl, hty⟩) h1 h2 h3 (by rw [e1.1]; exact h4) (by rw [e2.1]; exact h5) (own_slice vs .null _ _ h4) h5 N ge (g := mkF m pc Ls (.int nn :: .int dp :: .ref b :: .int sp :: .ref a :: st)) rfl (by rw [hml]; exact hsz) rfl (hb hby hd) hf (W := W) (by show 2 * 0 + _ ≤ _; omega) hlo
  have hlen : (vd.take dp.toNatClampNeg ++ (vs.drop sp.toNatClampNeg).take nn.toNatClampNeg ++ vd.drop (dp.toNatClampNeg + nn.toNatClampNeg)).length = vd.length := by
    simp only [List.length_append, List.length_take, List.length_drop]; omega
  obtain ⟨s₂, o, q1, q2⟩ := k h' K' (own_A.ofArv B' (by rw [e2.1, hlen]) (by rw [hlen]; exact hld)) p e s m args below meth c T' L hx hZ hown hby hml hret hlk hnm hce hsl X' e' N'
  exact ⟨s₂, o, st' _ q1, q2⟩
theorem own_met {z : MethodName} {rm : Room} {argsL : List Value} {Lc : Array Slot} (hC : own_W l Z z bytes ml ret rm n0 Q h 0 0 0 Lc []) (pn : plainFor z = true) (hent : Jvm.Sym.laidSlots argsL ++ List.replicate (ml - (Jvm.Sym.laidSlots argsL).length) .unset = Lc.toList) (ws : List Jvm.Cond) :
    MetFree l z (head1 (Jvm.Cond.code z bytes ml ret :: ws) rm) (fun a U => a = argsL.toArray ∧ Z.Warmed39 U.vm ∧ U.heap = h) (fun _ _ _ _ _ => True) (fun _ U o U' => ∃ v L, o = .returned v ∧ (Q v U'.heap ∧ Fr n0 L) ∧ FrameEnd U o U' L rm.cells rm.slots) := by
  refine MetFree.of_bodySF pn hisR ?_
  intro p e s m args below meth c s₁ Bd hml0 hP hK
  obtain ⟨rfl, hZ, hh⟩ := hP
  obtain ⟨s₂, o, h1, h2, h3, h4⟩ := hC p e s m _ below meth c s₁ [] Bd.exec hZ (findClass_of_methodNamed Bd.named) Bd.bytes hml0 Bd.returns Bd.notSynchronized (name_of_methodNamed Bd.named Bd.method).1 (Nat.zero_le _) (Nat.zero_le _) (Stand.of_body Bd) (by rw [← hh, Bd.state]; rfl) (Fr.nil n0)
  exact ⟨s₂, o, (XT.entry (by simpa using hent)).trans h1, h2, h3, h4⟩
theorem own_static {z : MethodName} {bytes' : ByteArray} {ml' : Nat} {ret' : Option FieldType} {rm : Room} {Qc : Option Value → Heap → Prop} {Lc : Array Slot} {argsL rest : List Value} {ps : List FieldType} {rt : Option FieldType} {idx W : Nat} (hC : own_W l Z z bytes' ml' ret' rm n0 Qc h 0 0 0 Lc []) (w1 : (Jvm.Cond.methodLink y.cls idx z).before a0 Z = true) (w2 : (Jvm.Cond.static z).before a0 Z = true) (w3 : (Jvm.Cond.initialized z.cls).before a0 Z = true) (w4 : (Jvm.Cond.code z bytes' ml' ret').before a0 Z = true) (pn : plainFor z = true) (hy : z.cls ≠ "java/lang/invoke/MethodHandle" ∧ z.cls ≠ "java/lang/invoke/VarHandle") (pd : parseMethodDescriptor z.desc = some ⟨ps, rt⟩) (hlen : argsL.length = ps.length)
    (hst : st = argsL.reverse ++ rest) (hent : Jvm.Sym.laidSlots argsL ++ List.replicate (ml' - (Jvm.Sym.laidSlots argsL).length) .unset = Lc.toList) (hW : (rest.map fun v => v.category).sum ≤ W) (hfr : rm.frames + 1 ≤ R.frames) (hlo : W + (ml' + 11) + rm.locals ≤ R.locals) (hce' : cells + rm.cells ≤ R.cells) (hsl' : slots + rm.slots ≤ R.slots) (hsz : Ls.size = ml) (hd : decode bytes pc = .ok (.invokestatic idx, 3)) (hp : pc + 3 = pc') (k : ∀ v h', Qc v h' → own_W l Z y bytes ml ret R n0 Q h' (cells + rm.cells) (slots + rm.slots) pc' Ls (v.toList ++ rest)) : own_W l Z y bytes ml ret R n0 Q h cells slots pc Ls st := by
  intro p e s m args below meth c T locs hx hZ hown hby hml hret hlk hnm hce hsl X eT N
  subst hp
  obtain ⟨v, vm₁, ⟨T1, L1, k1, n1⟩, -, X1, ⟨Lc1, hQ1, l1, y1, z1⟩, st1⟩ := Jvm.LawKit.callS X hx (y := z) hown (mvT hZ w1) (mvT hZ w2) (mvT hZ w3) (mvT hZ w4) hy (backOf (W := W) (Q := fun v h L => Qc v h ∧ Fr n0 L) (own_met hC pn hent []) hZ w4 w3 hfr hlo) (g := mkF m pc Ls st) rfl (by rw [hml]; exact hsz) (argsL := argsL) (rest := rest) (lenOf pd hlen) hst (by show 2 * 0 + _ ≤ _; omega) (hb hby hd) (fun _ _ => ⟨rfl, eT, hce', hsl'⟩)
  dsimp only [Pt.U, Pt.locs, Pt.cells, Pt.slots] at X1 l1 y1 z1 st1 hQ1
  subst l1 y1 z1
  obtain ⟨s₂, o, h1, h2⟩ := k v T1.heap hQ1.1 p e s m args below meth c T1 _ hx hZ hown hby hml hret hlk hnm hce' hsl' X1 rfl (Fr.app N hQ1.2)
  exact ⟨s₂, o, st1 _ h1, h2⟩
theorem own_special {z : MethodName} {bytes' : ByteArray} {ml' : Nat} {ret' : Option FieldType} {rm : Room} {Qc : Option Value → Heap → Prop} {Lc : Array Slot} {argsL rest : List Value} {ps : List FieldType} {rt : Option FieldType} {idx W : Nat} {a : Addr} (hC : own_W l Z z bytes' ml' none rm n0 Qc h 0 0 0 Lc []) (w1 : (Jvm.Cond.methodLink y.cls idx z).before a0 Z = true) (w2 : (Jvm.Cond.instanceMethod z).before a0 Z = true) (w3 : (Jvm.Cond.initialized z.cls).before a0 Z = true) (w4 : (Jvm.Cond.code z bytes' ml' none).before a0 Z = true) (hzn : z.name = "<init>") (pn : plainFor z = true) (hy : z.cls ≠ "java/lang/invoke/MethodHandle" ∧ z.cls ≠ "java/lang/invoke/VarHandle") (pd : parseMethodDescriptor z.desc = some ⟨ps, rt⟩) (hlen : argsL.length = ps.length)
    (hst : st = argsL.reverse ++ .ref a :: rest) (hent : Jvm.Sym.laidSlots (.ref a :: argsL) ++ List.replicate (ml' - (Jvm.Sym.laidSlots (.ref a :: argsL)).length) .unset = Lc.toList) (hW : (rest.map fun v => v.category).sum ≤ W) (hfr : rm.frames + 1 ≤ R.frames) (hlo : W + (ml' + 11) + rm.locals ≤ R.locals) (hce' : cells + rm.cells ≤ R.cells) (hsl' : slots + rm.slots ≤ R.slots) (hsz : Ls.size = ml) (hd : decode bytes pc = .ok (.invokespecial idx, 3)) (hp : pc + 3 = pc') (k : ∀ v h', Qc v h' → own_W l Z y bytes ml ret R n0 Q h' (cells + rm.cells) (slots + rm.slots) pc' Ls (v.toList ++ rest)) : own_W l Z y bytes ml ret R n0 Q h cells slots pc Ls st := by
  intro p e s m args below meth c T locs hx hZ hown hby hml hret hlk hnm hce hsl X eT N
  subst hp
  obtain ⟨v, vm₁, ⟨T1, L1, k1, n1⟩, -, X1, ⟨Lc1, hQ1, l1, y1, z1⟩, st1⟩ := X.specialBack hx (y := z) hzn hown (mvT hZ w1) (mvT hZ w2) (mvT hZ w4) hy (backOf (W := W) (Q := fun v h L => Qc v h ∧ Fr n0 L) (own_met hC pn hent []) hZ w4 w3 hfr hlo) (g := mkF m pc Ls st) rfl (by rw [hml]; exact hsz) (Steps.refl _) (a := a) (argsL := argsL) (rest := rest) (lenOf pd hlen) hst (by show 2 * 0 + _ ≤ _; omega) (hb hby hd) (fun _ _ => ⟨rfl, eT, hce', hsl'⟩)
  dsimp only [Pt.U, Pt.locs, Pt.cells, Pt.slots] at X1 l1 y1 z1 st1 hQ1
  subst l1 y1 z1
  obtain ⟨s₂, o, h1, h2⟩ := k v T1.heap hQ1.1 p e s m args below meth c T1 _ hx hZ hown hby hml hret hlk hnm hce' hsl' X1 rfl (Fr.app N hQ1.2)
  exact ⟨s₂, o, st1.trans h1, h2⟩
theorem own_virtual {z : MethodName} {bytes' : ByteArray} {ml' : Nat} {ret' : Option FieldType} {rm : Room} {Qc : Option Value → Heap → Prop} {Lc : Array Slot} {argsL rest : List Value} {ps : List FieldType} {rt : Option FieldType} {idx W : Nat} {a : Addr} {C : String} (hC : own_W l Z z bytes' ml' ret' rm n0 Qc h 0 0 0 Lc []) (E : Exa Z h a C) (w1 : (Jvm.Cond.methodLink y.cls idx z).before a0 Z = true) (w2 : (Jvm.Cond.declares z).before a0 Z = true) (w5 : (Jvm.Cond.selects C z z).before a0 Z = true) (w6 : (Jvm.Cond.instanceMethod z).before a0 Z = true) (w3 : (Jvm.Cond.initialized z.cls).before a0 Z = true) (w4 : (Jvm.Cond.code z bytes' ml' ret').before a0 Z = true) (pn : plainFor z = true) (hy : z.cls ≠ "java/lang/invoke/MethodHandle" ∧ z.cls ≠ "java/lang/invoke/VarHandle") (pd : parseMethodDescriptor z.desc = some ⟨ps, rt⟩) (hlen : argsL.length = ps.length)
    (hst : st = argsL.reverse ++ .ref a :: rest) (hent : Jvm.Sym.laidSlots (.ref a :: argsL) ++ List.replicate (ml' - (Jvm.Sym.laidSlots (.ref a :: argsL)).length) .unset = Lc.toList) (hW : (rest.map fun v => v.category).sum ≤ W) (hfr : rm.frames + 1 ≤ R.frames) (hlo : W + (ml' + 11) + rm.locals ≤ R.locals) (hce' : cells + rm.cells ≤ R.cells) (hsl' : slots + rm.slots ≤ R.slots) (hsz : Ls.size = ml) (hd : decode bytes pc = .ok (.invokevirtual idx, 3)) (hp : pc + 3 = pc') (k : ∀ v h', Qc v h' → own_W l Z y bytes ml ret R n0 Q h' (cells + rm.cells) (slots + rm.slots) pc' Ls (v.toList ++ rest)) : own_W l Z y bytes ml ret R n0 Q h cells slots pc Ls st := by
  intro p e s m args below meth c T locs hx hZ hown hby hml hret hlk hnm hce hsl X eT N
  subst hp
  obtain ⟨cq, kq, qa, qb, qc⟩ := isOf hZ eT E
  obtain ⟨v, vm₁, ⟨T1, L1, k1, n1⟩, -, X1, ⟨Lc1, hQ1, l1, y1, z1⟩, st1⟩ := X.virtualBack hx (y := z) (z := z) hown (mvT hZ w1) (mvT hZ w2) (notFace_of_selects (args := #[]) (mvT hZ w5)) (mvT hZ w5) (mvT hZ w6) hy (backOf (W := W) (Q := fun v h L => Qc v h ∧ Fr n0 L) (own_met hC pn hent []) hZ w4 w3 hfr hlo) qa qc (g := mkF m pc Ls st) rfl (by rw [hml]; exact hsz) (Steps.refl _) (argsL := argsL) (rest := rest) (lenOf pd hlen) hst (by show 2 * 0 + _ ≤ _; omega) (hb hby hd) (fun _ _ => ⟨rfl, eT, hce', hsl'⟩)
  dsimp only [Pt.U, Pt.locs, Pt.cells, Pt.slots] at X1 l1 y1 z1 st1 hQ1
  subst l1 y1 z1
  obtain ⟨s₂, o, h1, h2⟩ := k v T1.heap hQ1.1 p e s m args below meth c T1 _ hx hZ hown hby hml hret hlk hnm hce' hsl' X1 rfl (Fr.app N hQ1.2)
  exact ⟨s₂, o, st1.trans h1, h2⟩
theorem own_private {z : MethodName} {bytes' : ByteArray} {ml' : Nat} {ret' : Option FieldType} {rm : Room} {Qc : Option Value → Heap → Prop} {Lc : Array Slot} {argsL rest : List Value} {ps : List FieldType} {rt : Option FieldType} {idx W : Nat} {a : Addr} {C : String} {kk : Nat} (hC : own_W l Z z bytes' ml' ret' rm n0 Qc h 0 0 0 Lc []) (E : Exa Z h a C) (w1 : (Jvm.Cond.methodLink y.cls idx z).before a0 Z = true) (w6 : (Jvm.Cond.instanceMethod z).before a0 Z = true) (wp : (Jvm.Cond.privateMethod z).before a0 Z = true) (wi : (Jvm.Cond.instantiable z.cls kk).before a0 Z = true) (w3 : (Jvm.Cond.initialized z.cls).before a0 Z = true) (w4 : (Jvm.Cond.code z bytes' ml' ret').before a0 Z = true) (pn : plainFor z = true) (hy : z.cls ≠ "java/lang/invoke/MethodHandle" ∧ z.cls ≠ "java/lang/invoke/VarHandle") (pd : parseMethodDescriptor z.desc = some ⟨ps, rt⟩) (hlen : argsL.length = ps.length)
    (hst : st = argsL.reverse ++ .ref a :: rest) (hent : Jvm.Sym.laidSlots (.ref a :: argsL) ++ List.replicate (ml' - (Jvm.Sym.laidSlots (.ref a :: argsL)).length) .unset = Lc.toList) (hW : (rest.map fun v => v.category).sum ≤ W) (hfr : rm.frames + 1 ≤ R.frames) (hlo : W + (ml' + 11) + rm.locals ≤ R.locals) (hce' : cells + rm.cells ≤ R.cells) (hsl' : slots + rm.slots ≤ R.slots) (hsz : Ls.size = ml) (hd : decode bytes pc = .ok (.invokevirtual idx, 3)) (hp : pc + 3 = pc') (k : ∀ v h', Qc v h' → own_W l Z y bytes ml ret R n0 Q h' (cells + rm.cells) (slots + rm.slots) pc' Ls (v.toList ++ rest)) : own_W l Z y bytes ml ret R n0 Q h cells slots pc Ls st := by
  intro p e s m args below meth c T locs hx hZ hown hby hml hret hlk hnm hce hsl X eT N
  subst hp
  obtain ⟨c2, k2, i1, i2, i3, i4, -⟩ := Cond.instantiable_spec (mvT (args := args) hZ wi)
  have hpr := Cond.privateMethod_at (mvP (args := #[]) hZ wp)
  have hsel := Jvm.Stand.selects_self_of_private (args := args) i1 i2 (Bool.or_eq_false_iff.mp i4).1 hpr (mvT hZ w6) hy
  obtain ⟨cell, qc, qo⟩ := E.cell
  obtain ⟨v, vm₁, ⟨T1, L1, k1, n1⟩, -, X1, ⟨Lc1, hQ1, l1, y1, z1⟩, st1⟩ := X.privateBack hx (y := z) hown (mvT hZ w1) (mvT hZ w6) hsel hpr (mvT hZ w4) hy (backOf (W := W) (Q := fun v h L => Qc v h ∧ Fr n0 L) (own_met hC pn hent []) hZ w4 w3 hfr hlo) (g := mkF m pc Ls st) rfl (by rw [hml]; exact hsz) (Steps.refl _) (a := a) (by rw [eT]; exact qc) qo (argsL := argsL) (rest := rest) (lenOf pd hlen) hst (by show 2 * 0 + _ ≤ _; omega) (hb hby hd) (fun _ _ => ⟨rfl, eT, hce', hsl'⟩)
  dsimp only [Pt.U, Pt.locs, Pt.cells, Pt.slots] at X1 l1 y1 z1 st1 hQ1
  subst l1 y1 z1
  obtain ⟨s₂, o, h1, h2⟩ := k v T1.heap hQ1.1 p e s m args below meth c T1 _ hx hZ hown hby hml hret hlk hnm hce' hsl' X1 rfl (Fr.app N hQ1.2)
  exact ⟨s₂, o, st1.trans h1, h2⟩
theorem own_refBack {p : Program} {e : Env} {s : State} {m : MethodId} {args : Array Value} {below : List Frame} {meth : Method} {c : Code} {T : State} {locs : List Loc} (X : Stand p l e R s m args below meth c T locs cells slots) (hexec : p.tables.exec = Jvm.exec) (hZ : Z.Warmed39 s.vm) {own : String} {index : Nat} {z : MethodName} (hzn : z.name = "<init>")
    (hown : s.vm.findClass own = some m.cls) (w1 : (Jvm.Cond.methodRef own index z).before a0 Z = true) (w2 : (Jvm.Cond.instanceMethod z).before a0 Z = true) {bytes' : ByteArray} {maxL : Nat} (w4 : (Jvm.Cond.code z bytes' maxL none).before a0 Z = true)
    (hy : z.cls ≠ "java/lang/invoke/MethodHandle" ∧ z.cls ≠ "java/lang/invoke/VarHandle") {W : Nat} {Pre : Pt → Array Value → Prop} {Post : Pt → Array Value → Option Value → Pt → Prop} (hK : Back l R p e below s args z 3 W Pre Post)
    {g : JFrame} (hg : g.method = m) (hsize : g.locals.size = c.maxLocals) {a : Addr} {argsL rest : List Value} (hlen : ∀ sig, parseMethodDescriptor z.desc = some sig → argsL.length = sig.parameters.length) (hstack : g.stack = argsL.reverse ++ .ref a :: rest) (hW : 2 * g.monitorRoom + (rest.map fun v => v.category).sum ≤ W)
    (hdg : decode c.code g.pc = .ok (.invokespecial index, 3)) (hpre : Pre ⟨T, locs, cells, slots⟩ (.ref a :: argsL).toArray) :
    ∃ (v : Option Value) (B : Pt), Stand p l e R s m args below meth c B.U B.locs B.cells B.slots ∧ Post ⟨T, locs, cells, slots⟩ (.ref a :: argsL).toArray v B ∧ Steps p.tables e below (T.setTop g) (B.U.setTop { g with pc := g.pc + 3, stack := v.toList ++ rest }) := by
  obtain ⟨obj, methO, hnO, hmO, hstO, habO⟩ := Cond.instanceMethod_spec (mvT (args := args) hZ w2)
  obtain ⟨methO', cO, hmO', hcO, -, -, -, -, -, hsigO⟩ := Cond.code_spec hnO (mvT (args := args) hZ w4)
  cases hmO.symm.trans hmO'
  obtain ⟨kO, hkO, hnameO⟩ := className_of_methodNamed hnO
  obtain ⟨hnameMO, hdescO⟩ := name_of_methodNamed hnO hmO
  have hU : Z.Warmed39 T.vm := wtrans hZ X.warmed
  obtain ⟨objZ, methZ, hnZ, -⟩ := Cond.instanceMethod_spec w2
  have hT := Cond.methodRef_warmed39 hU hnZ hy w1
  have hownT : (Z.setVm T.vm).vm.findClass own = some m.cls := by show T.vm.findClass own = _; rw [X.warmed.alike.findClass]; exact hown
  obtain ⟨m', c', f1, f2, f3, f4⟩ := Cond.methodRef_named (s := Z.setVm T.vm) e hownT hT
  have hnT : T.methodNamed? z = some obj := X.named hnO
  have hn' : (Z.setVm T.vm).methodNamed? z = some obj := hnT
  cases (State.methodFound?_of_named hn' hy).symm.trans f1
  cases (findClass_of_methodNamed hn').symm.trans f3
  obtain ⟨kO', hkT, -⟩ := X.warmed.alike.2.2 _ _ hkO
  have hmT : T.vm.method? obj = some methO := by rw [X.warmed.alike.method?]; exact hmO
  have hfound : lookupSpecial T.vm obj.cls "<init>" methO.desc = .method obj := by rw [hdescO, ← hzn]; exact lookupSpecial_of_named hnT hmT hstO
  have hstep : ∀ target, (∀ acts, Steps p.tables e below (doInvoke e (T.setTop { g with stack := rest }) acts obj (.ref a :: argsL).toArray).1 target) → Steps p.tables e below (T.setTop g) target := by
    intro target hrest
    subst hg
    jvm_step X.here [hexec, hdg, invokespecial.wp_init (e := e) (s := T) (k := kO') (meth := methO) (m := obj) (a := a) (args := argsL) (rest := rest) (f := g) X.here.top f4 f2 hkT hmT (by rw [hnameMO]; exact hzn) hstO habO hfound (hlen _ hsigO) hstack]
    exact hrest
  obtain ⟨v, B, X', hpost, hsteps⟩ := hK m meth c ⟨T, locs, cells, slots⟩ { g with stack := rest } (.invokespecial index) obj (.ref a :: argsL).toArray X hg hsize hdg hW hnT hpre
  exact ⟨v, B, X', hpost, hstep _ fun acts => by rw [doInvoke_state]; exact hsteps⟩
theorem own_specialRef {z : MethodName} {bytes' : ByteArray} {ml' : Nat} {ret' : Option FieldType} {rm : Room} {Qc : Option Value → Heap → Prop} {Lc : Array Slot} {argsL rest : List Value} {ps : List FieldType} {rt : Option FieldType} {idx W : Nat} {a : Addr} (hC : own_W l Z z bytes' ml' none rm n0 Qc h 0 0 0 Lc []) (w1 : (Jvm.Cond.methodRef y.cls idx z).before a0 Z = true) (w2 : (Jvm.Cond.instanceMethod z).before a0 Z = true) (w3 : (Jvm.Cond.initialized z.cls).before a0 Z = true) (w4 : (Jvm.Cond.code z bytes' ml' none).before a0 Z = true) (hzn : z.name = "<init>") (pn : plainFor z = true) (hy : z.cls ≠ "java/lang/invoke/MethodHandle" ∧ z.cls ≠ "java/lang/invoke/VarHandle") (pd : parseMethodDescriptor z.desc = some ⟨ps, rt⟩) (hlen : argsL.length = ps.length)
    (hst : st = argsL.reverse ++ .ref a :: rest) (hent : Jvm.Sym.laidSlots (.ref a :: argsL) ++ List.replicate (ml' - (Jvm.Sym.laidSlots (.ref a :: argsL)).length) .unset = Lc.toList) (hW : (rest.map fun v => v.category).sum ≤ W) (hfr : rm.frames + 1 ≤ R.frames) (hlo : W + (ml' + 11) + rm.locals ≤ R.locals) (hce' : cells + rm.cells ≤ R.cells) (hsl' : slots + rm.slots ≤ R.slots) (hsz : Ls.size = ml) (hd : decode bytes pc = .ok (.invokespecial idx, 3)) (hp : pc + 3 = pc') (k : ∀ v h', Qc v h' → own_W l Z y bytes ml ret R n0 Q h' (cells + rm.cells) (slots + rm.slots) pc' Ls (v.toList ++ rest)) : own_W l Z y bytes ml ret R n0 Q h cells slots pc Ls st := by
  intro p e s m args below meth c T locs hx hZ hown hby hml hret hlk hnm hce hsl X eT N
  subst hp
  obtain ⟨v, ⟨T1, L1, k1, n1⟩, X1, ⟨Lc1, hQ1, l1, y1, z1⟩, st1⟩ := own_refBack X hx hZ hzn hown w1 w2 w4 hy (backOf (W := W) (Q := fun v h L => Qc v h ∧ Fr n0 L) (own_met hC pn hent []) hZ w4 w3 hfr hlo) (g := mkF m pc Ls st) rfl (by rw [hml]; exact hsz) (a := a) (argsL := argsL) (rest := rest) (lenOf pd hlen) hst (by show 2 * 0 + _ ≤ _; omega) (hb hby hd) ⟨rfl, eT, hce', hsl'⟩
  dsimp only [Pt.U, Pt.locs, Pt.cells, Pt.slots] at X1 l1 y1 z1 st1 hQ1
  subst l1 y1 z1
  obtain ⟨s₂, o, h1, h2⟩ := k v T1.heap hQ1.1 p e s m args below meth c T1 _ hx hZ hown hby hml hret hlk hnm hce' hsl' X1 rfl (Fr.app N hQ1.2)
  exact ⟨s₂, o, st1.trans h1, h2⟩
end OwnW
-- LAYER END
theorem d1_0 : decode prog_9_method_3_code 0 = .ok (.aload_n 0, 1) := by decide +kernel
theorem d1_1 : decode prog_9_method_3_code 1 = .ok (.invokestatic 23, 3) := by decide +kernel
theorem d1_4 : decode prog_9_method_3_code 4 = .ok (.astore_n 1, 1) := by decide +kernel
theorem d1_5 : decode prog_9_method_3_code 5 = .ok (.aload_n 1, 1) := by decide +kernel
theorem d1_6 : decode prog_9_method_3_code 6 = .ok (.invokevirtual 27, 3) := by decide +kernel
theorem d1_9 : decode prog_9_method_3_code 9 = .ok (.astore_n 2, 1) := by decide +kernel
theorem d1_10 : decode prog_9_method_3_code 10 = .ok (.aload_n 1, 1) := by decide +kernel
theorem d1_11 : decode prog_9_method_3_code 11 = .ok (.invokevirtual 31, 3) := by decide +kernel
theorem d1_14 : decode prog_9_method_3_code 14 = .ok (.ifCond .ne 13, 3) := by decide +kernel
theorem d1_17 : decode prog_9_method_3_code 17 = .ok (.new 35, 3) := by decide +kernel
theorem d1_20 : decode prog_9_method_3_code 20 = .ok (.dup, 1) := by decide +kernel
theorem d1_21 : decode prog_9_method_3_code 21 = .ok (.ldc 37, 2) := by decide +kernel
theorem d1_23 : decode prog_9_method_3_code 23 = .ok (.invokespecial 39, 3) := by decide +kernel
theorem d1_26 : decode prog_9_method_3_code 26 = .ok (.athrow, 1) := by decide +kernel
theorem d1_27 : decode prog_9_method_3_code 27 = .ok (.aload_n 2, 1) := by decide +kernel
theorem d1_28 : decode prog_9_method_3_code 28 = .ok (.areturn, 1) := by decide +kernel
theorem d2_0 : decode prog_9_method_2_code 0 = .ok (.new 8, 3) := by decide +kernel
theorem d2_3 : decode prog_9_method_2_code 3 = .ok (.dup, 1) := by decide +kernel
theorem d2_4 : decode prog_9_method_2_code 4 = .ok (.aload_n 0, 1) := by decide +kernel
theorem d2_5 : decode prog_9_method_2_code 5 = .ok (.iconst 0, 1) := by decide +kernel
theorem d2_6 : decode prog_9_method_2_code 6 = .ok (.aload_n 0, 1) := by decide +kernel
theorem d2_7 : decode prog_9_method_2_code 7 = .ok (.arraylength, 1) := by decide +kernel
theorem d2_8 : decode prog_9_method_2_code 8 = .ok (.invokespecial 20, 3) := by decide +kernel
theorem d2_11 : decode prog_9_method_2_code 11 = .ok (.areturn, 1) := by decide +kernel
theorem d3_0 : decode prog_9_method_1_code 0 = .ok (.aload_n 0, 1) := by decide +kernel
theorem d3_1 : decode prog_9_method_1_code 1 = .ok (.invokespecial 1, 3) := by decide +kernel
theorem d3_4 : decode prog_9_method_1_code 4 = .ok (.aload_n 0, 1) := by decide +kernel
theorem d3_5 : decode prog_9_method_1_code 5 = .ok (.aload_n 1, 1) := by decide +kernel
theorem d3_6 : decode prog_9_method_1_code 6 = .ok (.putfield 7, 3) := by decide +kernel
theorem d3_9 : decode prog_9_method_1_code 9 = .ok (.aload_n 0, 1) := by decide +kernel
theorem d3_10 : decode prog_9_method_1_code 10 = .ok (.iload_n 2, 1) := by decide +kernel
theorem d3_11 : decode prog_9_method_1_code 11 = .ok (.putfield 13, 3) := by decide +kernel
theorem d3_14 : decode prog_9_method_1_code 14 = .ok (.aload_n 0, 1) := by decide +kernel
theorem d3_15 : decode prog_9_method_1_code 15 = .ok (.iload_n 3, 1) := by decide +kernel
theorem d3_16 : decode prog_9_method_1_code 16 = .ok (.putfield 17, 3) := by decide +kernel
theorem d3_19 : decode prog_9_method_1_code 19 = .ok (.return_, 1) := by decide +kernel
theorem d4_0 : decode object_method_1_code 0 = .ok (.return_, 1) := by decide +kernel
theorem d5_0 : decode prog_9_method_6_code 0 = .ok (.aload_n 0, 1) := by decide +kernel
theorem d5_1 : decode prog_9_method_6_code 1 = .ok (.invokevirtual 31, 3) := by decide +kernel
theorem d5_4 : decode prog_9_method_6_code 4 = .ok (.ifCond .eq 13, 3) := by decide +kernel
theorem d5_7 : decode prog_9_method_6_code 7 = .ok (.new 35, 3) := by decide +kernel
theorem d5_10 : decode prog_9_method_6_code 10 = .ok (.dup, 1) := by decide +kernel
theorem d5_11 : decode prog_9_method_6_code 11 = .ok (.ldc 42, 2) := by decide +kernel
theorem d5_13 : decode prog_9_method_6_code 13 = .ok (.invokespecial 39, 3) := by decide +kernel
theorem d5_16 : decode prog_9_method_6_code 16 = .ok (.athrow, 1) := by decide +kernel
theorem d5_17 : decode prog_9_method_6_code 17 = .ok (.aload_n 0, 1) := by decide +kernel
theorem d5_18 : decode prog_9_method_6_code 18 = .ok (.getfield 13, 3) := by decide +kernel
theorem d5_21 : decode prog_9_method_6_code 21 = .ok (.istore_n 1, 1) := by decide +kernel
theorem d5_22 : decode prog_9_method_6_code 22 = .ok (.aload_n 0, 1) := by decide +kernel
theorem d5_23 : decode prog_9_method_6_code 23 = .ok (.getfield 7, 3) := by decide +kernel
theorem d5_26 : decode prog_9_method_6_code 26 = .ok (.aload_n 0, 1) := by decide +kernel
theorem d5_27 : decode prog_9_method_6_code 27 = .ok (.dup, 1) := by decide +kernel
theorem d5_28 : decode prog_9_method_6_code 28 = .ok (.getfield 13, 3) := by decide +kernel
theorem d5_31 : decode prog_9_method_6_code 31 = .ok (.dup_x1, 1) := by decide +kernel
theorem d5_32 : decode prog_9_method_6_code 32 = .ok (.iconst 1, 1) := by decide +kernel
theorem d5_33 : decode prog_9_method_6_code 33 = .ok (.iadd, 1) := by decide +kernel
theorem d5_34 : decode prog_9_method_6_code 34 = .ok (.putfield 13, 3) := by decide +kernel
theorem d5_37 : decode prog_9_method_6_code 37 = .ok (.baload, 1) := by decide +kernel
theorem d5_38 : decode prog_9_method_6_code 38 = .ok (.sipush 255, 3) := by decide +kernel
theorem d5_41 : decode prog_9_method_6_code 41 = .ok (.iand, 1) := by decide +kernel
theorem d5_42 : decode prog_9_method_6_code 42 = .ok (.istore_n 2, 1) := by decide +kernel
theorem d5_43 : decode prog_9_method_6_code 43 = .ok (.iload_n 2, 1) := by decide +kernel
theorem d5_44 : decode prog_9_method_6_code 44 = .ok (.bipush 31, 2) := by decide +kernel
theorem d5_46 : decode prog_9_method_6_code 46 = .ok (.iand, 1) := by decide +kernel
theorem d5_47 : decode prog_9_method_6_code 47 = .ok (.bipush 31, 2) := by decide +kernel
theorem d5_49 : decode prog_9_method_6_code 49 = .ok (.if_icmp .ne 13, 3) := by decide +kernel
theorem d5_52 : decode prog_9_method_6_code 52 = .ok (.new 35, 3) := by decide +kernel
theorem d5_55 : decode prog_9_method_6_code 55 = .ok (.dup, 1) := by decide +kernel
theorem d5_56 : decode prog_9_method_6_code 56 = .ok (.ldc 44, 2) := by decide +kernel
theorem d5_58 : decode prog_9_method_6_code 58 = .ok (.invokespecial 39, 3) := by decide +kernel
theorem d5_61 : decode prog_9_method_6_code 61 = .ok (.athrow, 1) := by decide +kernel
theorem d5_62 : decode prog_9_method_6_code 62 = .ok (.aload_n 0, 1) := by decide +kernel
theorem d5_63 : decode prog_9_method_6_code 63 = .ok (.invokevirtual 46, 3) := by decide +kernel
theorem d5_66 : decode prog_9_method_6_code 66 = .ok (.istore_n 3, 1) := by decide +kernel
theorem d5_67 : decode prog_9_method_6_code 67 = .ok (.iload_n 3, 1) := by decide +kernel
theorem d5_68 : decode prog_9_method_6_code 68 = .ok (.aload_n 0, 1) := by decide +kernel
theorem d5_69 : decode prog_9_method_6_code 69 = .ok (.getfield 17, 3) := by decide +kernel
theorem d5_72 : decode prog_9_method_6_code 72 = .ok (.aload_n 0, 1) := by decide +kernel
theorem d5_73 : decode prog_9_method_6_code 73 = .ok (.getfield 13, 3) := by decide +kernel
theorem d5_76 : decode prog_9_method_6_code 76 = .ok (.isub, 1) := by decide +kernel
theorem d5_77 : decode prog_9_method_6_code 77 = .ok (.if_icmp .le 7, 3) := by decide +kernel
theorem d5_80 : decode prog_9_method_6_code 80 = .ok (.invokestatic 50, 3) := by decide +kernel
theorem d5_83 : decode prog_9_method_6_code 83 = .ok (.athrow, 1) := by decide +kernel
theorem d5_84 : decode prog_9_method_6_code 84 = .ok (.aload_n 0, 1) := by decide +kernel
theorem d5_85 : decode prog_9_method_6_code 85 = .ok (.dup, 1) := by decide +kernel
theorem d5_86 : decode prog_9_method_6_code 86 = .ok (.getfield 13, 3) := by decide +kernel
theorem d5_89 : decode prog_9_method_6_code 89 = .ok (.iload_n 3, 1) := by decide +kernel
theorem d5_90 : decode prog_9_method_6_code 90 = .ok (.iadd, 1) := by decide +kernel
theorem d5_91 : decode prog_9_method_6_code 91 = .ok (.putfield 13, 3) := by decide +kernel
theorem d5_94 : decode prog_9_method_6_code 94 = .ok (.new 54, 3) := by decide +kernel
theorem d5_97 : decode prog_9_method_6_code 97 = .ok (.dup, 1) := by decide +kernel
theorem d5_98 : decode prog_9_method_6_code 98 = .ok (.aload_n 0, 1) := by decide +kernel
theorem d5_99 : decode prog_9_method_6_code 99 = .ok (.getfield 7, 3) := by decide +kernel
theorem d5_102 : decode prog_9_method_6_code 102 = .ok (.iload_n 2, 1) := by decide +kernel
theorem d5_103 : decode prog_9_method_6_code 103 = .ok (.iload_n 1, 1) := by decide +kernel
theorem d5_104 : decode prog_9_method_6_code 104 = .ok (.aload_n 0, 1) := by decide +kernel
theorem d5_105 : decode prog_9_method_6_code 105 = .ok (.getfield 13, 3) := by decide +kernel
theorem d5_108 : decode prog_9_method_6_code 108 = .ok (.iload_n 3, 1) := by decide +kernel
theorem d5_109 : decode prog_9_method_6_code 109 = .ok (.isub, 1) := by decide +kernel
theorem d5_110 : decode prog_9_method_6_code 110 = .ok (.aload_n 0, 1) := by decide +kernel
theorem d5_111 : decode prog_9_method_6_code 111 = .ok (.getfield 13, 3) := by decide +kernel
theorem d5_114 : decode prog_9_method_6_code 114 = .ok (.invokespecial 56, 3) := by decide +kernel
theorem d5_117 : decode prog_9_method_6_code 117 = .ok (.areturn, 1) := by decide +kernel
theorem d6_0 : decode prog_9_method_4_code 0 = .ok (.aload_n 0, 1) := by decide +kernel
theorem d6_1 : decode prog_9_method_4_code 1 = .ok (.getfield 13, 3) := by decide +kernel
theorem d6_4 : decode prog_9_method_4_code 4 = .ok (.aload_n 0, 1) := by decide +kernel
theorem d6_5 : decode prog_9_method_4_code 5 = .ok (.getfield 17, 3) := by decide +kernel
theorem d6_8 : decode prog_9_method_4_code 8 = .ok (.if_icmp .ne 7, 3) := by decide +kernel
theorem d6_11 : decode prog_9_method_4_code 11 = .ok (.iconst 1, 1) := by decide +kernel
theorem d6_12 : decode prog_9_method_4_code 12 = .ok (.goto 4, 3) := by decide +kernel
theorem d6_15 : decode prog_9_method_4_code 15 = .ok (.iconst 0, 1) := by decide +kernel
theorem d6_16 : decode prog_9_method_4_code 16 = .ok (.ireturn, 1) := by decide +kernel
theorem d7_0 : decode prog_9_method_8_code 0 = .ok (.aload_n 0, 1) := by decide +kernel
theorem d7_1 : decode prog_9_method_8_code 1 = .ok (.invokevirtual 31, 3) := by decide +kernel
theorem d7_4 : decode prog_9_method_8_code 4 = .ok (.ifCond .eq 7, 3) := by decide +kernel
theorem d7_7 : decode prog_9_method_8_code 7 = .ok (.invokestatic 50, 3) := by decide +kernel
theorem d7_10 : decode prog_9_method_8_code 10 = .ok (.athrow, 1) := by decide +kernel
theorem d7_11 : decode prog_9_method_8_code 11 = .ok (.aload_n 0, 1) := by decide +kernel
theorem d7_12 : decode prog_9_method_8_code 12 = .ok (.getfield 7, 3) := by decide +kernel
theorem d7_15 : decode prog_9_method_8_code 15 = .ok (.aload_n 0, 1) := by decide +kernel
theorem d7_16 : decode prog_9_method_8_code 16 = .ok (.dup, 1) := by decide +kernel
theorem d7_17 : decode prog_9_method_8_code 17 = .ok (.getfield 13, 3) := by decide +kernel
theorem d7_20 : decode prog_9_method_8_code 20 = .ok (.dup_x1, 1) := by decide +kernel
theorem d7_21 : decode prog_9_method_8_code 21 = .ok (.iconst 1, 1) := by decide +kernel
theorem d7_22 : decode prog_9_method_8_code 22 = .ok (.iadd, 1) := by decide +kernel
theorem d7_23 : decode prog_9_method_8_code 23 = .ok (.putfield 13, 3) := by decide +kernel
theorem d7_26 : decode prog_9_method_8_code 26 = .ok (.baload, 1) := by decide +kernel
theorem d7_27 : decode prog_9_method_8_code 27 = .ok (.sipush 255, 3) := by decide +kernel
theorem d7_30 : decode prog_9_method_8_code 30 = .ok (.iand, 1) := by decide +kernel
theorem d7_31 : decode prog_9_method_8_code 31 = .ok (.istore_n 1, 1) := by decide +kernel
theorem d7_32 : decode prog_9_method_8_code 32 = .ok (.iload_n 1, 1) := by decide +kernel
theorem d7_33 : decode prog_9_method_8_code 33 = .ok (.sipush 128, 3) := by decide +kernel
theorem d7_36 : decode prog_9_method_8_code 36 = .ok (.if_icmp .ge 5, 3) := by decide +kernel
theorem d7_39 : decode prog_9_method_8_code 39 = .ok (.iload_n 1, 1) := by decide +kernel
theorem d7_40 : decode prog_9_method_8_code 40 = .ok (.ireturn, 1) := by decide +kernel
theorem d7_41 : decode prog_9_method_8_code 41 = .ok (.iload_n 1, 1) := by decide +kernel
theorem d7_42 : decode prog_9_method_8_code 42 = .ok (.bipush 127, 2) := by decide +kernel
theorem d7_44 : decode prog_9_method_8_code 44 = .ok (.iand, 1) := by decide +kernel
theorem d7_45 : decode prog_9_method_8_code 45 = .ok (.istore_n 2, 1) := by decide +kernel
theorem d7_46 : decode prog_9_method_8_code 46 = .ok (.iload_n 2, 1) := by decide +kernel
theorem d7_47 : decode prog_9_method_8_code 47 = .ok (.ifCond .ne 13, 3) := by decide +kernel
theorem d7_50 : decode prog_9_method_8_code 50 = .ok (.new 35, 3) := by decide +kernel
theorem d7_53 : decode prog_9_method_8_code 53 = .ok (.dup, 1) := by decide +kernel
theorem d7_54 : decode prog_9_method_8_code 54 = .ok (.ldc 63, 2) := by decide +kernel
theorem d7_56 : decode prog_9_method_8_code 56 = .ok (.invokespecial 39, 3) := by decide +kernel
theorem d7_59 : decode prog_9_method_8_code 59 = .ok (.athrow, 1) := by decide +kernel
theorem d7_60 : decode prog_9_method_8_code 60 = .ok (.iload_n 2, 1) := by decide +kernel
theorem d7_61 : decode prog_9_method_8_code 61 = .ok (.iconst 4, 1) := by decide +kernel
theorem d7_62 : decode prog_9_method_8_code 62 = .ok (.if_icmp .gt 16, 3) := by decide +kernel
theorem d7_65 : decode prog_9_method_8_code 65 = .ok (.iload_n 2, 1) := by decide +kernel
theorem d7_66 : decode prog_9_method_8_code 66 = .ok (.aload_n 0, 1) := by decide +kernel
theorem d7_67 : decode prog_9_method_8_code 67 = .ok (.getfield 17, 3) := by decide +kernel
theorem d7_70 : decode prog_9_method_8_code 70 = .ok (.aload_n 0, 1) := by decide +kernel
theorem d7_71 : decode prog_9_method_8_code 71 = .ok (.getfield 13, 3) := by decide +kernel
theorem d7_74 : decode prog_9_method_8_code 74 = .ok (.isub, 1) := by decide +kernel
theorem d7_75 : decode prog_9_method_8_code 75 = .ok (.if_icmp .le 7, 3) := by decide +kernel
theorem d7_78 : decode prog_9_method_8_code 78 = .ok (.invokestatic 50, 3) := by decide +kernel
theorem d7_81 : decode prog_9_method_8_code 81 = .ok (.athrow, 1) := by decide +kernel
theorem d7_82 : decode prog_9_method_8_code 82 = .ok (.lconst 0, 1) := by decide +kernel
theorem d7_83 : decode prog_9_method_8_code 83 = .ok (.lstore_n 3, 1) := by decide +kernel
theorem d7_84 : decode prog_9_method_8_code 84 = .ok (.iconst 0, 1) := by decide +kernel
theorem d7_85 : decode prog_9_method_8_code 85 = .ok (.istore 5, 2) := by decide +kernel
theorem d7_87 : decode prog_9_method_8_code 87 = .ok (.iload 5, 2) := by decide +kernel
theorem d7_89 : decode prog_9_method_8_code 89 = .ok (.iload_n 2, 1) := by decide +kernel
theorem d7_90 : decode prog_9_method_8_code 90 = .ok (.if_icmp .ge 36, 3) := by decide +kernel
theorem d7_93 : decode prog_9_method_8_code 93 = .ok (.lload_n 3, 1) := by decide +kernel
theorem d7_94 : decode prog_9_method_8_code 94 = .ok (.bipush 8, 2) := by decide +kernel
theorem d7_96 : decode prog_9_method_8_code 96 = .ok (.lshl, 1) := by decide +kernel
theorem d7_97 : decode prog_9_method_8_code 97 = .ok (.aload_n 0, 1) := by decide +kernel
theorem d7_98 : decode prog_9_method_8_code 98 = .ok (.getfield 7, 3) := by decide +kernel
theorem d7_101 : decode prog_9_method_8_code 101 = .ok (.aload_n 0, 1) := by decide +kernel
theorem d7_102 : decode prog_9_method_8_code 102 = .ok (.dup, 1) := by decide +kernel
theorem d7_103 : decode prog_9_method_8_code 103 = .ok (.getfield 13, 3) := by decide +kernel
theorem d7_106 : decode prog_9_method_8_code 106 = .ok (.dup_x1, 1) := by decide +kernel
theorem d7_107 : decode prog_9_method_8_code 107 = .ok (.iconst 1, 1) := by decide +kernel
theorem d7_108 : decode prog_9_method_8_code 108 = .ok (.iadd, 1) := by decide +kernel
theorem d7_109 : decode prog_9_method_8_code 109 = .ok (.putfield 13, 3) := by decide +kernel
theorem d7_112 : decode prog_9_method_8_code 112 = .ok (.baload, 1) := by decide +kernel
theorem d7_113 : decode prog_9_method_8_code 113 = .ok (.sipush 255, 3) := by decide +kernel
theorem d7_116 : decode prog_9_method_8_code 116 = .ok (.iand, 1) := by decide +kernel
theorem d7_117 : decode prog_9_method_8_code 117 = .ok (.i2l, 1) := by decide +kernel
theorem d7_118 : decode prog_9_method_8_code 118 = .ok (.lor, 1) := by decide +kernel
theorem d7_119 : decode prog_9_method_8_code 119 = .ok (.lstore_n 3, 1) := by decide +kernel
theorem d7_120 : decode prog_9_method_8_code 120 = .ok (.iinc 5 1, 3) := by decide +kernel
theorem d7_123 : decode prog_9_method_8_code 123 = .ok (.goto (-36), 3) := by decide +kernel
theorem d7_126 : decode prog_9_method_8_code 126 = .ok (.lload_n 3, 1) := by decide +kernel
theorem d7_127 : decode prog_9_method_8_code 127 = .ok (.ldc2_w 65, 3) := by decide +kernel
theorem d7_130 : decode prog_9_method_8_code 130 = .ok (.lcmp, 1) := by decide +kernel
theorem d7_131 : decode prog_9_method_8_code 131 = .ok (.ifCond .lt 20, 3) := by decide +kernel
theorem d7_134 : decode prog_9_method_8_code 134 = .ok (.lload_n 3, 1) := by decide +kernel
theorem d7_135 : decode prog_9_method_8_code 135 = .ok (.bipush 8, 2) := by decide +kernel
theorem d7_137 : decode prog_9_method_8_code 137 = .ok (.iload_n 2, 1) := by decide +kernel
theorem d7_138 : decode prog_9_method_8_code 138 = .ok (.iconst 1, 1) := by decide +kernel
theorem d7_139 : decode prog_9_method_8_code 139 = .ok (.isub, 1) := by decide +kernel
theorem d7_140 : decode prog_9_method_8_code 140 = .ok (.imul, 1) := by decide +kernel
theorem d7_141 : decode prog_9_method_8_code 141 = .ok (.lshr, 1) := by decide +kernel
theorem d7_142 : decode prog_9_method_8_code 142 = .ok (.lconst 0, 1) := by decide +kernel
theorem d7_143 : decode prog_9_method_8_code 143 = .ok (.lcmp, 1) := by decide +kernel
theorem d7_144 : decode prog_9_method_8_code 144 = .ok (.ifCond .eq 7, 3) := by decide +kernel
theorem d7_147 : decode prog_9_method_8_code 147 = .ok (.iconst 1, 1) := by decide +kernel
theorem d7_148 : decode prog_9_method_8_code 148 = .ok (.goto 4, 3) := by decide +kernel
theorem d7_151 : decode prog_9_method_8_code 151 = .ok (.iconst 0, 1) := by decide +kernel
theorem d7_152 : decode prog_9_method_8_code 152 = .ok (.istore 5, 2) := by decide +kernel
theorem d7_154 : decode prog_9_method_8_code 154 = .ok (.iload 5, 2) := by decide +kernel
theorem d7_156 : decode prog_9_method_8_code 156 = .ok (.ifCond .ne 13, 3) := by decide +kernel
theorem d7_159 : decode prog_9_method_8_code 159 = .ok (.new 35, 3) := by decide +kernel
theorem d7_162 : decode prog_9_method_8_code 162 = .ok (.dup, 1) := by decide +kernel
theorem d7_163 : decode prog_9_method_8_code 163 = .ok (.ldc 67, 2) := by decide +kernel
theorem d7_165 : decode prog_9_method_8_code 165 = .ok (.invokespecial 39, 3) := by decide +kernel
theorem d7_168 : decode prog_9_method_8_code 168 = .ok (.athrow, 1) := by decide +kernel
theorem d7_169 : decode prog_9_method_8_code 169 = .ok (.lload_n 3, 1) := by decide +kernel
theorem d7_170 : decode prog_9_method_8_code 170 = .ok (.ldc2_w 71, 3) := by decide +kernel
theorem d7_173 : decode prog_9_method_8_code 173 = .ok (.lcmp, 1) := by decide +kernel
theorem d7_174 : decode prog_9_method_8_code 174 = .ok (.ifCond .le 7, 3) := by decide +kernel
theorem d7_177 : decode prog_9_method_8_code 177 = .ok (.invokestatic 50, 3) := by decide +kernel
theorem d7_180 : decode prog_9_method_8_code 180 = .ok (.athrow, 1) := by decide +kernel
theorem d7_181 : decode prog_9_method_8_code 181 = .ok (.lload_n 3, 1) := by decide +kernel
theorem d7_182 : decode prog_9_method_8_code 182 = .ok (.l2i, 1) := by decide +kernel
theorem d7_183 : decode prog_9_method_8_code 183 = .ok (.ireturn, 1) := by decide +kernel
theorem d8_0 : decode prog_10_method_1_code 0 = .ok (.aload_n 0, 1) := by decide +kernel
theorem d8_1 : decode prog_10_method_1_code 1 = .ok (.invokespecial 1, 3) := by decide +kernel
theorem d8_4 : decode prog_10_method_1_code 4 = .ok (.aload_n 0, 1) := by decide +kernel
theorem d8_5 : decode prog_10_method_1_code 5 = .ok (.aload_n 1, 1) := by decide +kernel
theorem d8_6 : decode prog_10_method_1_code 6 = .ok (.putfield 7, 3) := by decide +kernel
theorem d8_9 : decode prog_10_method_1_code 9 = .ok (.aload_n 0, 1) := by decide +kernel
theorem d8_10 : decode prog_10_method_1_code 10 = .ok (.iload_n 2, 1) := by decide +kernel
theorem d8_11 : decode prog_10_method_1_code 11 = .ok (.putfield 13, 3) := by decide +kernel
theorem d8_14 : decode prog_10_method_1_code 14 = .ok (.aload_n 0, 1) := by decide +kernel
theorem d8_15 : decode prog_10_method_1_code 15 = .ok (.iload_n 3, 1) := by decide +kernel
theorem d8_16 : decode prog_10_method_1_code 16 = .ok (.putfield 17, 3) := by decide +kernel
theorem d8_19 : decode prog_10_method_1_code 19 = .ok (.aload_n 0, 1) := by decide +kernel
theorem d8_20 : decode prog_10_method_1_code 20 = .ok (.iload 4, 2) := by decide +kernel
theorem d8_22 : decode prog_10_method_1_code 22 = .ok (.putfield 20, 3) := by decide +kernel
theorem d8_25 : decode prog_10_method_1_code 25 = .ok (.aload_n 0, 1) := by decide +kernel
theorem d8_26 : decode prog_10_method_1_code 26 = .ok (.iload 5, 2) := by decide +kernel
theorem d8_28 : decode prog_10_method_1_code 28 = .ok (.putfield 23, 3) := by decide +kernel
theorem d8_31 : decode prog_10_method_1_code 31 = .ok (.return_, 1) := by decide +kernel
theorem d9_0 : decode prog_10_method_2_code 0 = .ok (.aload_n 0, 1) := by decide +kernel
theorem d9_1 : decode prog_10_method_2_code 1 = .ok (.getfield 13, 3) := by decide +kernel
theorem d9_4 : decode prog_10_method_2_code 4 = .ok (.ireturn, 1) := by decide +kernel
theorem d10_0 : decode prog_10_method_4_code 0 = .ok (.aload_n 0, 1) := by decide +kernel
theorem d10_1 : decode prog_10_method_4_code 1 = .ok (.getfield 7, 3) := by decide +kernel
theorem d10_4 : decode prog_10_method_4_code 4 = .ok (.aload_n 0, 1) := by decide +kernel
theorem d10_5 : decode prog_10_method_4_code 5 = .ok (.getfield 20, 3) := by decide +kernel
theorem d10_8 : decode prog_10_method_4_code 8 = .ok (.aload_n 0, 1) := by decide +kernel
theorem d10_9 : decode prog_10_method_4_code 9 = .ok (.getfield 23, 3) := by decide +kernel
theorem d10_12 : decode prog_10_method_4_code 12 = .ok (.invokestatic 35, 3) := by decide +kernel
theorem d10_15 : decode prog_10_method_4_code 15 = .ok (.areturn, 1) := by decide +kernel
theorem d11_0 : decode jdk_65_method_132_code 0 = .ok (.iload_n 1, 1) := by decide +kernel
theorem d11_1 : decode jdk_65_method_132_code 1 = .ok (.ifCond .ne 9, 3) := by decide +kernel
theorem d11_4 : decode jdk_65_method_132_code 4 = .ok (.iload_n 2, 1) := by decide +kernel
theorem d11_5 : decode jdk_65_method_132_code 5 = .ok (.aload_n 0, 1) := by decide +kernel
theorem d11_6 : decode jdk_65_method_132_code 6 = .ok (.arraylength, 1) := by decide +kernel
theorem d11_7 : decode jdk_65_method_132_code 7 = .ok (.if_icmp .eq 10, 3) := by decide +kernel
theorem d11_10 : decode jdk_65_method_132_code 10 = .ok (.aload_n 0, 1) := by decide +kernel
theorem d11_11 : decode jdk_65_method_132_code 11 = .ok (.iload_n 1, 1) := by decide +kernel
theorem d11_12 : decode jdk_65_method_132_code 12 = .ok (.iload_n 2, 1) := by decide +kernel
theorem d11_13 : decode jdk_65_method_132_code 13 = .ok (.invokestatic 339, 3) := by decide +kernel
theorem d11_16 : decode jdk_65_method_132_code 16 = .ok (.areturn, 1) := by decide +kernel
theorem d11_17 : decode jdk_65_method_132_code 17 = .ok (.aload_n 0, 1) := by decide +kernel
theorem d11_18 : decode jdk_65_method_132_code 18 = .ok (.invokevirtual 310, 3) := by decide +kernel
theorem d11_21 : decode jdk_65_method_132_code 21 = .ok (.checkcast 311, 3) := by decide +kernel
theorem d11_24 : decode jdk_65_method_132_code 24 = .ok (.areturn, 1) := by decide +kernel
theorem d12_0 : decode jdk_65_method_133_code 0 = .ok (.iload_n 1, 1) := by decide +kernel
theorem d12_1 : decode jdk_65_method_133_code 1 = .ok (.iload_n 2, 1) := by decide +kernel
theorem d12_2 : decode jdk_65_method_133_code 2 = .ok (.invokestatic 343, 3) := by decide +kernel
theorem d12_5 : decode jdk_65_method_133_code 5 = .ok (.iload_n 2, 1) := by decide +kernel
theorem d12_6 : decode jdk_65_method_133_code 6 = .ok (.iload_n 1, 1) := by decide +kernel
theorem d12_7 : decode jdk_65_method_133_code 7 = .ok (.isub, 1) := by decide +kernel
theorem d12_8 : decode jdk_65_method_133_code 8 = .ok (.istore_n 3, 1) := by decide +kernel
theorem d12_9 : decode jdk_65_method_133_code 9 = .ok (.iload_n 3, 1) := by decide +kernel
theorem d12_10 : decode jdk_65_method_133_code 10 = .ok (.newarray .byte, 2) := by decide +kernel
theorem d12_12 : decode jdk_65_method_133_code 12 = .ok (.astore 4, 2) := by decide +kernel
theorem d12_14 : decode jdk_65_method_133_code 14 = .ok (.aload_n 0, 1) := by decide +kernel
theorem d12_15 : decode jdk_65_method_133_code 15 = .ok (.iload_n 1, 1) := by decide +kernel
theorem d12_16 : decode jdk_65_method_133_code 16 = .ok (.aload 4, 2) := by decide +kernel
theorem d12_18 : decode jdk_65_method_133_code 18 = .ok (.iconst 0, 1) := by decide +kernel
theorem d12_19 : decode jdk_65_method_133_code 19 = .ok (.aload_n 0, 1) := by decide +kernel
theorem d12_20 : decode jdk_65_method_133_code 20 = .ok (.arraylength, 1) := by decide +kernel
theorem d12_21 : decode jdk_65_method_133_code 21 = .ok (.iload_n 1, 1) := by decide +kernel
theorem d12_22 : decode jdk_65_method_133_code 22 = .ok (.isub, 1) := by decide +kernel
theorem d12_23 : decode jdk_65_method_133_code 23 = .ok (.iload_n 3, 1) := by decide +kernel
theorem d12_24 : decode jdk_65_method_133_code 24 = .ok (.invokestatic 304, 3) := by decide +kernel
theorem d12_27 : decode jdk_65_method_133_code 27 = .ok (.invokestatic 150, 3) := by decide +kernel
theorem d12_30 : decode jdk_65_method_133_code 30 = .ok (.aload 4, 2) := by decide +kernel
theorem d12_32 : decode jdk_65_method_133_code 32 = .ok (.areturn, 1) := by decide +kernel
theorem d13_0 : decode jdk_65_method_131_code 0 = .ok (.iload_n 1, 1) := by decide +kernel
theorem d13_1 : decode jdk_65_method_131_code 1 = .ok (.iload_n 0, 1) := by decide +kernel
theorem d13_2 : decode jdk_65_method_131_code 2 = .ok (.if_icmp .ge 35, 3) := by decide +kernel
theorem d13_5 : decode jdk_65_method_131_code 5 = .ok (.new 43, 3) := by decide +kernel
theorem d13_8 : decode jdk_65_method_131_code 8 = .ok (.dup, 1) := by decide +kernel
theorem d13_9 : decode jdk_65_method_131_code 9 = .ok (.new 45, 3) := by decide +kernel
theorem d13_12 : decode jdk_65_method_131_code 12 = .ok (.dup, 1) := by decide +kernel
theorem d13_13 : decode jdk_65_method_131_code 13 = .ok (.invokespecial 47, 3) := by decide +kernel
theorem d13_16 : decode jdk_65_method_131_code 16 = .ok (.iload_n 0, 1) := by decide +kernel
theorem d13_17 : decode jdk_65_method_131_code 17 = .ok (.invokevirtual 54, 3) := by decide +kernel
theorem d13_20 : decode jdk_65_method_131_code 20 = .ok (.ldc_w 337, 3) := by decide +kernel
theorem d13_23 : decode jdk_65_method_131_code 23 = .ok (.invokevirtual 50, 3) := by decide +kernel
theorem d13_26 : decode jdk_65_method_131_code 26 = .ok (.iload_n 1, 1) := by decide +kernel
theorem d13_27 : decode jdk_65_method_131_code 27 = .ok (.invokevirtual 54, 3) := by decide +kernel
theorem d13_30 : decode jdk_65_method_131_code 30 = .ok (.invokevirtual 61, 3) := by decide +kernel
theorem d13_33 : decode jdk_65_method_131_code 33 = .ok (.invokespecial 65, 3) := by decide +kernel
theorem d13_36 : decode jdk_65_method_131_code 36 = .ok (.athrow, 1) := by decide +kernel
theorem d13_37 : decode jdk_65_method_131_code 37 = .ok (.return_, 1) := by decide +kernel
theorem d14_0 : decode jdk_29_method_69_code 0 = .ok (.iload_n 0, 1) := by decide +kernel
theorem d14_1 : decode jdk_29_method_69_code 1 = .ok (.iload_n 1, 1) := by decide +kernel
theorem d14_2 : decode jdk_29_method_69_code 2 = .ok (.if_icmp .gt 7, 3) := by decide +kernel
theorem d14_5 : decode jdk_29_method_69_code 5 = .ok (.iload_n 0, 1) := by decide +kernel
theorem d14_6 : decode jdk_29_method_69_code 6 = .ok (.goto 4, 3) := by decide +kernel
theorem d14_9 : decode jdk_29_method_69_code 9 = .ok (.iload_n 1, 1) := by decide +kernel
theorem d14_10 : decode jdk_29_method_69_code 10 = .ok (.ireturn, 1) := by decide +kernel
theorem d15_0 : decode prog_10_method_5_code 0 = .ok (.aload_n 0, 1) := by decide +kernel
theorem d15_1 : decode prog_10_method_5_code 1 = .ok (.getfield 7, 3) := by decide +kernel
theorem d15_4 : decode prog_10_method_5_code 4 = .ok (.aload_n 0, 1) := by decide +kernel
theorem d15_5 : decode prog_10_method_5_code 5 = .ok (.getfield 17, 3) := by decide +kernel
theorem d15_8 : decode prog_10_method_5_code 8 = .ok (.aload_n 0, 1) := by decide +kernel
theorem d15_9 : decode prog_10_method_5_code 9 = .ok (.getfield 23, 3) := by decide +kernel
theorem d15_12 : decode prog_10_method_5_code 12 = .ok (.invokestatic 35, 3) := by decide +kernel
theorem d15_15 : decode prog_10_method_5_code 15 = .ok (.areturn, 1) := by decide +kernel
theorem own_pn0 : plainName "com/example/befugnis/befugnis/DerSinglePinLaw" = true := by decide +kernel
theorem own_pn1 : plainName "com/example/befugnis/befugnis/Der" = true := by decide +kernel
theorem own_pn3 : plainName "com/example/befugnis/befugnis/Der$Value" = true := by decide +kernel
theorem own_pn4 : plainName "java/util/Arrays" = true := by decide +kernel
theorem own_pd0 : parseMethodDescriptor "(IIIII)Z" = some ⟨[.int, .int, .int, .int, .int], (some .boolean)⟩ := by decide +kernel
theorem own_pd1 : parseMethodDescriptor "([B)Lcom/example/befugnis/befugnis/Der$Value;" = some ⟨[(.array .byte)], (some (.object "com/example/befugnis/befugnis/Der$Value"))⟩ := by decide +kernel
theorem own_pd2 : parseMethodDescriptor "([B)Lcom/example/befugnis/befugnis/Der;" = some ⟨[(.array .byte)], (some (.object "com/example/befugnis/befugnis/Der"))⟩ := by decide +kernel
theorem own_pd3 : parseMethodDescriptor "([BII)V" = some ⟨[(.array .byte), .int, .int], none⟩ := by decide +kernel
theorem own_pd4 : parseMethodDescriptor "()V" = some ⟨[], none⟩ := by decide +kernel
theorem own_pd5 : parseMethodDescriptor "()Lcom/example/befugnis/befugnis/Der$Value;" = some ⟨[], (some (.object "com/example/befugnis/befugnis/Der$Value"))⟩ := by decide +kernel
theorem own_pd6 : parseMethodDescriptor "()Z" = some ⟨[], (some .boolean)⟩ := by decide +kernel
theorem own_pd7 : parseMethodDescriptor "()I" = some ⟨[], (some .int)⟩ := by decide +kernel
theorem own_pd8 : parseMethodDescriptor "([BIIII)V" = some ⟨[(.array .byte), .int, .int, .int, .int], none⟩ := by decide +kernel
theorem own_pd9 : parseMethodDescriptor "()[B" = some ⟨[], (some (.array .byte))⟩ := by decide +kernel
theorem own_pd10 : parseMethodDescriptor "([BII)[B" = some ⟨[(.array .byte), .int, .int], (some (.array .byte))⟩ := by decide +kernel
theorem own_pd11 : parseMethodDescriptor "(II)V" = some ⟨[.int, .int], none⟩ := by decide +kernel
theorem own_pd12 : parseMethodDescriptor "(II)I" = some ⟨[.int, .int], (some .int)⟩ := by decide +kernel
theorem own_and63 (n : Nat) : n &&& 63 = n % 64 := Nat.and_two_pow_sub_one_eq_mod n 6
theorem own_and31 (n : Nat) : n &&& 31 = n % 32 := Nat.and_two_pow_sub_one_eq_mod n 5
theorem own_smod_small {w : Nat} (a : BitVec w) (m : BitVec w) (ha : a.msb = false) (hm : m.msb = false) : a.smod m = a.umod m := by
  simp [BitVec.smod, ha, hm]
theorem own_q64 (w : Int32) : ((w.toInt64 &&& 63).toBitVec.smod 64).toNat = w.toBitVec.toNat % 64 := by
  have h1 : (w.toInt64 &&& 63).toBitVec = BitVec.ofNat 64 (w.toBitVec.toNat % 64) := by
    apply BitVec.eq_of_toNat_eq
    simp only [Int64.toBitVec_and, Int32.toBitVec_toInt64, BitVec.toNat_and]
    show (w.toBitVec.signExtend 64).toNat &&& 63 = _
    rw [own_and63, BitVec.toNat_signExtend]
    have := w.toBitVec.isLt
    simp
    split <;> omega
  rw [h1, own_smod_small]
  · simp
  · rw [BitVec.msb_eq_false_iff_two_mul_lt]; simp; omega
  · decide
theorem own_lshl_bv (x : Int64) (w : Int32) : (x <<< (w.toInt64 &&& 63)).toBitVec = x.toBitVec <<< (w.toBitVec.toNat % 64) := by
  rw [Int64.toBitVec_shiftLeft]
  show x.toBitVec <<< ((w.toInt64 &&& 63).toBitVec.smod 64).toNat = _
  rw [own_q64]
theorem own_lshr_bv (x : Int64) (w : Int32) : (x >>> (w.toInt64 &&& 63)).toBitVec = x.toBitVec.sshiftRight (w.toBitVec.toNat % 64) := by
  rw [Int64.toBitVec_shiftRight]
  show x.toBitVec.sshiftRight ((w.toInt64 &&& 63).toBitVec.smod 64).toNat = _
  rw [own_q64]
theorem own_lushr_bv (x : Int64) (w : Int32) : (XT.ushrL x w).toBitVec = x.toBitVec >>> (w.toBitVec.toNat % 64) := by
  show (x.toUInt64 >>> (w.toInt64.toUInt64 &&& Int64.toUInt64 63)).toBitVec = _
  rw [UInt64.toBitVec_shiftRight]
  show x.toBitVec >>> ((w.toInt64.toUInt64 &&& Int64.toUInt64 63).toBitVec % 64).toNat = _
  congr 1
  simp only [UInt64.toBitVec_and, BitVec.toNat_umod, BitVec.toNat_and]
  show ((w.toInt64.toBitVec).toNat &&& 63) % 64 = _
  rw [own_and63, Int32.toBitVec_toInt64, BitVec.toNat_signExtend]
  have := w.toBitVec.isLt
  simp
  split <;> omega
theorem own_q32 (w : Int32) : ((w &&& 31).toBitVec.smod 32).toNat = w.toBitVec.toNat % 32 := by
  have h1 : (w &&& 31).toBitVec = BitVec.ofNat 32 (w.toBitVec.toNat % 32) := by
    apply BitVec.eq_of_toNat_eq
    simp only [Int32.toBitVec_and, BitVec.toNat_and]
    show w.toBitVec.toNat &&& 31 = _
    rw [own_and31]; simp; omega
  rw [h1, own_smod_small]
  · simp
  · rw [BitVec.msb_eq_false_iff_two_mul_lt]; simp; omega
  · decide
theorem own_ishl_bv (x : Int32) (w : Int32) : (x <<< (w &&& 31)).toBitVec = x.toBitVec <<< (w.toBitVec.toNat % 32) := by
  rw [Int32.toBitVec_shiftLeft]
  show x.toBitVec <<< ((w &&& 31).toBitVec.smod 32).toNat = _
  rw [own_q32]
theorem own_ishr_bv (x : Int32) (w : Int32) : (x >>> (w &&& 31)).toBitVec = x.toBitVec.sshiftRight (w.toBitVec.toNat % 32) := by
  rw [Int32.toBitVec_shiftRight]
  show x.toBitVec.sshiftRight ((w &&& 31).toBitVec.smod 32).toNat = _
  rw [own_q32]
theorem own_iushr_bv (x : Int32) (w : Int32) : (XT.ushr x w).toBitVec = x.toBitVec >>> (w.toBitVec.toNat % 32) := by
  show (x.toUInt32 >>> (w &&& 31).toUInt32).toBitVec = _
  rw [UInt32.toBitVec_shiftRight]
  show x.toBitVec >>> ((w &&& 31).toBitVec % 32).toNat = _
  congr 1
  simp only [Int32.toBitVec_and, BitVec.toNat_umod, BitVec.toNat_and]
  show (w.toBitVec.toNat &&& 31) % 32 = _
  rw [own_and31]; omega
theorem own_shor (A B : Int64) (hA0 : 0 ≤ A.toInt) (hA : A.toInt < 1099511627776) (hB0 : 0 ≤ B.toInt) (hB : B.toInt < 256) : ((A <<< ((8 : Int32).toInt64 &&& 63)) ||| B).toInt = A.toInt * 256 + B.toInt := by
  have nat : ∀ u : Int64, 0 ≤ u.toInt → u.toInt = (u.toBitVec.toNat : Int) := by
    intro u hu
    have h := u.toBitVec.isLt
    have e : u.toInt = u.toBitVec.toInt := rfl
    rw [e, BitVec.toInt_eq_toNat_cond] at hu ⊢
    split at hu
    · rename_i q; rw [if_pos q]
    · omega
  have eA := nat A hA0
  have eB := nat B hB0
  have hv : ((A <<< ((8 : Int32).toInt64 &&& 63)) ||| B).toBitVec.toNat = A.toBitVec.toNat * 256 + B.toBitVec.toNat := by
    rw [Int64.toBitVec_or, own_lshl_bv, BitVec.toNat_or, BitVec.toNat_shiftLeft]
    show (A.toBitVec.toNat <<< 8) % 2 ^ 64 ||| B.toBitVec.toNat = _
    rw [Nat.mod_eq_of_lt (by rw [Nat.shiftLeft_eq]; omega), ← Nat.shiftLeft_add_eq_or_of_lt (by omega), Nat.shiftLeft_eq]
  have e : ((A <<< ((8 : Int32).toInt64 &&& 63)) ||| B).toInt = ((A <<< ((8 : Int32).toInt64 &&& 63)) ||| B).toBitVec.toInt := rfl
  rw [e, BitVec.toInt_eq_toNat_of_lt (by rw [hv]; omega), hv]
  omega
theorem own_b8 (u : Int32) : (nar .byte u.toInt8.toInt32) &&& 255 = u &&& 255 := by
  show u.toInt8.toInt32.toInt8.toInt32 &&& 255 = u &&& 255
  have e : u.toInt8.toInt32.toInt8 = u.toInt8 := by simp
  rw [e, ← Int32.toBitVec_inj, Int32.toBitVec_and, Int32.toBitVec_and, Int8.toBitVec_toInt32, Int32.toBitVec_toInt8]
  generalize u.toBitVec = v
  show (v.signExtend 8).signExtend 32 &&& 255#32 = v &&& 255#32
  apply BitVec.eq_of_getLsbD_eq
  intro i hi
  have q : ∀ i : Fin 32, 8 ≤ i.val → (255#32).getLsbD i.val = false := by decide
  rw [BitVec.getLsbD_and, BitVec.getLsbD_and]
  by_cases h8 : i < 8
  · rw [BitVec.getLsbD_signExtend, BitVec.getLsbD_signExtend]
    simp [hi, h8]
  · rw [q ⟨i, hi⟩ (by simpa using h8)]; simp
def own_at (xs : List Int32) (p : Int32) : Int32 := xs.getD p.toNatClampNeg 0
def own_min (f g : Int32) : Int32 := if g < f then g else f
theorem own_z0 : (0 : Int32).toInt = 0 := rfl
theorem own_nlt {p : Int32} (h : 0 ≤ p.toInt) : ¬ p < 0 := by rw [Int32.lt_iff_toInt_lt, own_z0]; omega
theorem own_set (xs : List Int32) (k : Nat) (y : Int32) : (xs.map Value.int).set k (.int y) = (xs.set k y).map Value.int := by rw [List.map_set]
theorem own_getN (xs : List Int32) (p : Int32) (h0 : 0 ≤ p.toInt) (h : p.toInt < xs.length) : (xs.map Value.int)[p.toNatClampNeg]? = some (.int (own_at xs p)) := by
  have q : p.toNatClampNeg < xs.length := by rw [Int32.toNatClampNeg]; omega
  unfold own_at
  simp [q]
theorem own_atset (xs : List Int32) (p q y : Int32) (hp : 0 ≤ p.toInt) (hq : 0 ≤ q.toInt) (h : p.toInt ≠ q.toInt) : own_at (xs.set q.toNatClampNeg y) p = own_at xs p := by
  unfold own_at
  rw [List.getD_eq_getElem?_getD, List.getD_eq_getElem?_getD, List.getElem?_set_ne]
  rw [Int32.toNatClampNeg, Int32.toNatClampNeg]; omega
theorem own_atsame (xs : List Int32) (q y : Int32) (hq : 0 ≤ q.toInt) (h : q.toInt < xs.length) : own_at (xs.set q.toNatClampNeg y) q = y := by
  have k : q.toNatClampNeg < xs.length := by rw [Int32.toNatClampNeg]; omega
  unfold own_at
  simp [k]
theorem own_sl (xs : List Int32) (f m j g : Int32) (hf : 0 ≤ f.toInt) (hj : 0 ≤ j.toInt) (hm : j.toInt < m.toInt) (hg : g.toInt = f.toInt + j.toInt) (hl : g.toInt < xs.length) : ((((xs.map Value.int).drop f.toNatClampNeg).take m.toNatClampNeg))[j.toNatClampNeg]? = some (.int (own_at xs g)) := by
  have e := own_getN xs g (by omega) hl
  rw [List.getElem?_take_of_lt (by rw [Int32.toNatClampNeg, Int32.toNatClampNeg]; omega), List.getElem?_drop, ← e]
  congr 1
  rw [Int32.toNatClampNeg, Int32.toNatClampNeg, Int32.toNatClampNeg]; omega
def own_v1 (a : Int32) : Int64 := ((0 : Int64) <<< ((8 : Int32).toInt64 &&& 63)) ||| (a &&& 255).toInt64
def own_v2 (a b : Int32) : Int64 := (own_v1 a <<< ((8 : Int32).toInt64 &&& 63)) ||| (b &&& 255).toInt64
def own_v3 (a b c : Int32) : Int64 := (own_v2 a b <<< ((8 : Int32).toInt64 &&& 63)) ||| (c &&& 255).toInt64
theorem own_b255 (a : Int32) : 0 ≤ (a &&& 255).toInt64.toInt ∧ (a &&& 255).toInt64.toInt < 256 ∧ (a &&& 255).toInt64.toInt = (a &&& 255).toInt := by
  have h := c_and a 255 (by decide)
  have e : (255 : Int32).toInt = 255 := rfl
  rw [c_i2l]; omega
theorem own_v1i (a : Int32) : (own_v1 a).toInt = (a &&& 255).toInt := by
  have h := own_b255 a
  have z : (0 : Int64).toInt = 0 := rfl
  unfold own_v1
  rw [own_shor 0 _ (by rw [z]; omega) (by rw [z]; omega) h.1 h.2.1, z]; omega
theorem own_v2i (a b : Int32) : (own_v2 a b).toInt = (a &&& 255).toInt * 256 + (b &&& 255).toInt := by
  have h := own_b255 b; have k := own_v1i a; have m := own_b255 a
  unfold own_v2
  rw [own_shor _ _ (by omega) (by omega) h.1 h.2.1]; omega
theorem own_v3i (a b c : Int32) : (own_v3 a b c).toInt = ((a &&& 255).toInt * 256 + (b &&& 255).toInt) * 256 + (c &&& 255).toInt := by
  have h := own_b255 c; have k := own_v2i a b; have m := own_b255 a; have n := own_b255 b
  unfold own_v3
  rw [own_shor _ _ (by omega) (by omega) h.1 h.2.1]; omega
def own_ae (p q : Int32) : Int32 := if ¬ p = q then 0 else 1
theorem own_ae0 {p q : Int32} (h : ¬ p = q) : own_ae p q = 0 := if_pos h
set_option maxRecDepth 65536 in
set_option maxHeartbeats 40000000 in
theorem own_mkDer (l : Launch) (Z : State) (a0 : Array Value) (hw : ∀ d ∈ tables_1, d.before a0 Z = true) (d r : Addr) (p e : Int32) (h0 : Heap) (n0 : Nat) (hn0 : n0 ≤ h0.size) (ge_d : n0 ≤ d) (E_d : Exa Z h0 d "com/example/befugnis/befugnis/Der") (F_d_bytes : Fld Z h0 d "com/example/befugnis/befugnis/Der" "bytes" "[B" (.null)) (F_d_at : Fld Z h0 d "com/example/befugnis/befugnis/Der" "at" "I" (.int 0)) (F_d_end : Fld Z h0 d "com/example/befugnis/befugnis/Der" "end" "I" (.int 0)) :
    own_W l Z (⟨"com/example/befugnis/befugnis/Der", "<init>", "([BII)V"⟩ : MethodName) prog_9_method_1_code 4 none ({ frames := 1, cells := 0, slots := 0, locals := 12 } : Room) n0 (fun v h => v = none ∧ Keep h0 h [d] ∧ Exa Z h d "com/example/befugnis/befugnis/Der" ∧ Fld Z h d "com/example/befugnis/befugnis/Der" "bytes" "[B" (.ref r) ∧ Fld Z h d "com/example/befugnis/befugnis/Der" "at" "I" (.int p) ∧ Fld Z h d "com/example/befugnis/befugnis/Der" "end" "I" (.int e)) h0 0 0 0 #[.val (.ref d), .val (.ref r), .val (.int p), .val (.int e)] [] := by
  refine own_aloadN (pc' := 1) d3_0 rfl rfl ?_
  refine own_initO (pc' := 4) (W := 0) (hw _ (List.mem_of_getElem? (i := 13) rfl)) (hw _ (List.mem_of_getElem? (i := 14) rfl)) (hw _ (List.mem_of_getElem? (i := 15) rfl)) d3_1 rfl rfl (by decide) (Nat.le_refl _) (by decide) ?_
  refine own_aloadN (pc' := 5) d3_4 rfl rfl ?_
  refine own_aloadN (pc' := 6) d3_5 rfl rfl ?_
  refine own_putF (pc' := 9) (hw _ (List.mem_of_getElem? (i := 16) rfl)) F_d_bytes E_d (Or.inr ⟨(hw _ (List.mem_of_getElem? (i := 17) rfl)), rfl, rfl⟩) (hw _ (List.mem_of_getElem? (i := 9) rfl)) ge_d (ty := (.array .byte)) (by decide) rfl rfl d3_6 rfl (fun h1 Wr2 K3 => ?_)
  replace E_d := E_d.wr Wr2
  replace F_d_bytes := F_d_bytes.same Wr2
  replace F_d_at := F_d_at.other Wr2 (Or.inr (slot_ne (a0 := a0) (Or.inl (hw _ (List.mem_of_getElem? (i := 19) rfl))) (Or.inr (hw _ (List.mem_of_getElem? (i := 17) rfl))) (by decide) (t := .int) (by decide) (t' := (.array .byte)) (by decide)))
  replace F_d_end := F_d_end.other Wr2 (Or.inr (slot_ne (a0 := a0) (Or.inr (hw _ (List.mem_of_getElem? (i := 21) rfl))) (Or.inr (hw _ (List.mem_of_getElem? (i := 17) rfl))) (by decide) (t := .int) (by decide) (t' := (.array .byte)) (by decide)))
  replace hn0 : n0 ≤ h1.size := Nat.le_trans hn0 K3.1
  refine own_aloadN (pc' := 10) d3_9 rfl rfl ?_
  refine own_iloadN (pc' := 11) d3_10 rfl rfl ?_
  refine own_putF (pc' := 14) (hw _ (List.mem_of_getElem? (i := 18) rfl)) F_d_at E_d (Or.inl (hw _ (List.mem_of_getElem? (i := 19) rfl))) (hw _ (List.mem_of_getElem? (i := 9) rfl)) ge_d (ty := .int) (by decide) rfl rfl d3_11 rfl (fun h4 Wr5 K6 => ?_)
  replace E_d := E_d.wr Wr5
  replace F_d_bytes := F_d_bytes.other Wr5 (Or.inr (slot_ne (a0 := a0) (Or.inr (hw _ (List.mem_of_getElem? (i := 17) rfl))) (Or.inl (hw _ (List.mem_of_getElem? (i := 19) rfl))) (by decide) (t := (.array .byte)) (by decide) (t' := .int) (by decide)))
  replace F_d_at := F_d_at.same Wr5
  replace F_d_end := F_d_end.other Wr5 (Or.inr (slot_ne (a0 := a0) (Or.inr (hw _ (List.mem_of_getElem? (i := 21) rfl))) (Or.inl (hw _ (List.mem_of_getElem? (i := 19) rfl))) (by decide) (t := .int) (by decide) (t' := .int) (by decide)))
  replace hn0 : n0 ≤ h4.size := Nat.le_trans hn0 K6.1
  refine own_aloadN (pc' := 15) d3_14 rfl rfl ?_
  refine own_iloadN (pc' := 16) d3_15 rfl rfl ?_
  refine own_putF (pc' := 19) (hw _ (List.mem_of_getElem? (i := 20) rfl)) F_d_end E_d (Or.inr ⟨(hw _ (List.mem_of_getElem? (i := 21) rfl)), rfl, rfl⟩) (hw _ (List.mem_of_getElem? (i := 9) rfl)) ge_d (ty := .int) (by decide) rfl rfl d3_16 rfl (fun h7 Wr8 K9 => ?_)
  replace E_d := E_d.wr Wr8
  replace F_d_bytes := F_d_bytes.other Wr8 (Or.inr (slot_ne (a0 := a0) (Or.inr (hw _ (List.mem_of_getElem? (i := 17) rfl))) (Or.inr (hw _ (List.mem_of_getElem? (i := 21) rfl))) (by decide) (t := (.array .byte)) (by decide) (t' := .int) (by decide)))
  replace F_d_at := F_d_at.other Wr8 (Or.inr (slot_ne (a0 := a0) (Or.inl (hw _ (List.mem_of_getElem? (i := 19) rfl))) (Or.inr (hw _ (List.mem_of_getElem? (i := 21) rfl))) (by decide) (t := .int) (by decide) (t' := .int) (by decide)))
  replace F_d_end := F_d_end.same Wr8
  replace hn0 : n0 ≤ h7.size := Nat.le_trans hn0 K9.1
  exact own_ret rfl d3_19 ⟨rfl, ((((Keep.refl h0 [d]).trans K3 (fun x hx => Or.inl hx)).trans K6 (fun x hx => Or.inl hx)).trans K9 (fun x hx => Or.inl hx)), E_d, F_d_bytes, F_d_at, F_d_end⟩
set_option maxRecDepth 65536 in
set_option maxHeartbeats 40000000 in
theorem own_of (l : Launch) (Z : State) (a0 : Array Value) (hw : ∀ d ∈ tables_1, d.before a0 Z = true) (r : Addr) (vs : List Value) (n : Int32) (h0 : Heap) (n0 : Nat) (hn0 : n0 ≤ h0.size) (A_r : own_A Z h0 r .byte vs) (hlen : vs.length.toInt32 = n) :
    own_W l Z (⟨"com/example/befugnis/befugnis/Der", "of", "([B)Lcom/example/befugnis/befugnis/Der;"⟩ : MethodName) prog_9_method_2_code 1 (some (.object "com/example/befugnis/befugnis/Der")) ({ frames := 2, cells := 1, slots := 3, locals := 28 } : Room) n0 (fun v h => ∃ d : Addr, v = some (.ref d) ∧ h0.size ≤ d ∧ Keep h0 h [] ∧ Exa Z h d "com/example/befugnis/befugnis/Der" ∧ Fld Z h d "com/example/befugnis/befugnis/Der" "bytes" "[B" (.ref r) ∧ Fld Z h d "com/example/befugnis/befugnis/Der" "at" "I" (.int 0) ∧ Fld Z h d "com/example/befugnis/befugnis/Der" "end" "I" (.int n)) h0 0 0 0 #[.val (.ref r)] [] := by
  refine own_new (pc' := 3) (hw _ (List.mem_of_getElem? (i := 8) rfl)) (hw _ (List.mem_of_getElem? (i := 9) rfl)) (hw _ (List.mem_of_getElem? (i := 3) rfl)) d2_0 rfl (by decide) (by decide) (fun h10 d gt_d lt_d E11 E_d D_d => ?_)
  have ge_d : n0 ≤ d := Nat.le_trans hn0 gt_d
  have ne_r_d : r ≠ d := Nat.ne_of_lt (by have q := Nat.lt_of_lt_of_le A_r.lt (Nat.le_refl _); omega)
  replace A_r := A_r.ext E11
  replace hn0 : n0 ≤ h10.size := Nat.le_trans hn0 E11.1
  have F_d_bytes : Fld Z h10 d "com/example/befugnis/befugnis/Der" "bytes" "[B" (.null) := D_d (Or.inr (hw _ (List.mem_of_getElem? (i := 17) rfl))) (ty := (.array .byte)) (by decide)
  have F_d_at : Fld Z h10 d "com/example/befugnis/befugnis/Der" "at" "I" (.int (0 : Int32)) := D_d (Or.inl (hw _ (List.mem_of_getElem? (i := 19) rfl))) (ty := .int) (by decide)
  have F_d_end : Fld Z h10 d "com/example/befugnis/befugnis/Der" "end" "I" (.int (0 : Int32)) := D_d (Or.inr (hw _ (List.mem_of_getElem? (i := 21) rfl))) (ty := .int) (by decide)
  refine own_dup (pc' := 4) d2_3 rfl rfl ?_
  refine own_aloadN (pc' := 5) d2_4 rfl rfl ?_
  refine own_iconst (0 : Int32) (pc' := 6) d2_5 rfl rfl ?_
  refine own_aloadN (pc' := 7) d2_6 rfl rfl ?_
  refine own_len (pc' := 8) (n := n) A_r hlen d2_7 rfl ?_
  refine own_special (ret' := none) (own_mkDer l Z a0 hw d r 0 n h10 n0 hn0 ge_d E_d F_d_bytes F_d_at F_d_end) (hw _ (List.mem_of_getElem? (i := 10) rfl)) (hw _ (List.mem_of_getElem? (i := 11) rfl)) (hw _ (List.mem_of_getElem? (i := 3) rfl)) (hw _ (List.mem_of_getElem? (i := 12) rfl)) rfl (plainFor_of_name own_pn1) (by decide) own_pd3 rfl (argsL := [.ref r, .int (0 : Int32), .int n]) (rest := [.ref d]) rfl rfl (W := 1) (Nat.le_refl _) (by decide) (by decide) (by decide) (by decide) rfl d2_8 (pc' := 11) rfl (fun v_ h12 hq => ?_)
  obtain ⟨rfl, K_1, E_1, F_1, F_2, F_3⟩ := hq
  show own_W l Z (⟨"com/example/befugnis/befugnis/Der", "of", "([B)Lcom/example/befugnis/befugnis/Der;"⟩ : MethodName) prog_9_method_2_code 1 (some (.object "com/example/befugnis/befugnis/Der")) ({ frames := 2, cells := 1, slots := 3, locals := 28 } : Room) n0 (fun v h => ∃ d : Addr, v = some (.ref d) ∧ h0.size ≤ d ∧ Keep h0 h [] ∧ Exa Z h d "com/example/befugnis/befugnis/Der" ∧ Fld Z h d "com/example/befugnis/befugnis/Der" "bytes" "[B" (.ref r) ∧ Fld Z h d "com/example/befugnis/befugnis/Der" "at" "I" (.int 0) ∧ Fld Z h d "com/example/befugnis/befugnis/Der" "end" "I" (.int n)) h12 1 3 11 #[.val (.ref r)] [.ref d]
  exact own_aret rfl rfl rfl d2_11 ⟨d, rfl, gt_d, ((Keep.refl h0 []).ext E11).trans K_1 (allS (Or.inr gt_d) all0), E_1, F_1, F_2, F_3⟩
set_option maxRecDepth 65536 in
set_option maxHeartbeats 40000000 in
theorem own_aeW (l : Launch) (Z : State) (a0 : Array Value) (hw : ∀ d ∈ tables_1, d.before a0 Z = true) (d r : Addr) (p e : Int32) (h0 : Heap) (n0 : Nat) (hn0 : n0 ≤ h0.size) (E_d : Exa Z h0 d "com/example/befugnis/befugnis/Der") (F_d_bytes : Fld Z h0 d "com/example/befugnis/befugnis/Der" "bytes" "[B" (.ref r)) (F_d_at : Fld Z h0 d "com/example/befugnis/befugnis/Der" "at" "I" (.int p)) (F_d_end : Fld Z h0 d "com/example/befugnis/befugnis/Der" "end" "I" (.int e)) :
    own_W l Z (⟨"com/example/befugnis/befugnis/Der", "atEnd", "()Z"⟩ : MethodName) prog_9_method_4_code 1 (some .boolean) ({ frames := 0, cells := 0, slots := 0, locals := 0 } : Room) n0 (fun v h => v = some (.int (own_ae p e)) ∧ h0 = h) h0 0 0 0 #[.val (.ref d)] [] := by
  refine own_aloadN (pc' := 1) d6_0 rfl rfl ?_
  refine own_getF (pc' := 4) (hw _ (List.mem_of_getElem? (i := 18) rfl)) F_d_at d6_1 rfl ?_
  refine own_aloadN (pc' := 5) d6_4 rfl rfl ?_
  refine own_getF (pc' := 8) (hw _ (List.mem_of_getElem? (i := 20) rfl)) F_d_end d6_5 rfl ?_
  refine own_ic_ne (pc' := 15) (pf := 11) d6_8 (by decide) (by decide) rfl (fun h_8 => ?_) (fun h_8 => ?_)
  · refine own_iconst (0 : Int32) (pc' := 16) d6_15 rfl rfl ?_
    exact own_bret (v := (0 : Int32)) rfl (by first | rfl | decide | assumption) d6_16 ⟨by first | contradiction | (simp only [own_ae, *, ↓reduceIte]; done) | (simp [own_ae, *]; done) | (simp_all [own_ae]; done), rfl⟩
  · refine own_iconst (1 : Int32) (pc' := 12) d6_11 rfl rfl ?_
    refine own_goto (pc' := 16) d6_12 (by decide) (by decide) ?_
    exact own_bret (v := (1 : Int32)) rfl (by first | rfl | decide | assumption) d6_16 ⟨by first | contradiction | (simp only [own_ae, *, ↓reduceIte]; done) | (simp [own_ae, *]; done) | (simp_all [own_ae]; done), rfl⟩
set_option maxRecDepth 65536 in
set_option maxHeartbeats 40000000 in
theorem own_mkVal (l : Launch) (Z : State) (a0 : Array Value) (hw : ∀ d ∈ tables_1, d.before a0 Z = true) (o r : Addr) (y1 y2 y3 y4 : Int32) (h0 : Heap) (n0 : Nat) (hn0 : n0 ≤ h0.size) (ge_o : n0 ≤ o) (E_o : Exa Z h0 o "com/example/befugnis/befugnis/Der$Value") (F_o_bytes : Fld Z h0 o "com/example/befugnis/befugnis/Der$Value" "bytes" "[B" (.null)) (F_o_tag : Fld Z h0 o "com/example/befugnis/befugnis/Der$Value" "tag" "I" (.int 0)) (F_o_start : Fld Z h0 o "com/example/befugnis/befugnis/Der$Value" "start" "I" (.int 0)) (F_o_contentStart : Fld Z h0 o "com/example/befugnis/befugnis/Der$Value" "contentStart" "I" (.int 0)) (F_o_end : Fld Z h0 o "com/example/befugnis/befugnis/Der$Value" "end" "I" (.int 0)) :
    own_W l Z (⟨"com/example/befugnis/befugnis/Der$Value", "<init>", "([BIIII)V"⟩ : MethodName) prog_10_method_1_code 6 none ({ frames := 1, cells := 0, slots := 0, locals := 12 } : Room) n0 (fun v h => v = none ∧ Keep h0 h [o] ∧ Exa Z h o "com/example/befugnis/befugnis/Der$Value" ∧ Fld Z h o "com/example/befugnis/befugnis/Der$Value" "bytes" "[B" (.ref r) ∧ Fld Z h o "com/example/befugnis/befugnis/Der$Value" "tag" "I" (.int y1) ∧ Fld Z h o "com/example/befugnis/befugnis/Der$Value" "start" "I" (.int y2) ∧ Fld Z h o "com/example/befugnis/befugnis/Der$Value" "contentStart" "I" (.int y3) ∧ Fld Z h o "com/example/befugnis/befugnis/Der$Value" "end" "I" (.int y4)) h0 0 0 0 #[.val (.ref o), .val (.ref r), .val (.int y1), .val (.int y2), .val (.int y3), .val (.int y4)] [] := by
  refine own_aloadN (pc' := 1) d8_0 rfl rfl ?_
  refine own_initO (pc' := 4) (W := 0) (hw _ (List.mem_of_getElem? (i := 44) rfl)) (hw _ (List.mem_of_getElem? (i := 14) rfl)) (hw _ (List.mem_of_getElem? (i := 15) rfl)) d8_1 rfl rfl (by decide) (Nat.le_refl _) (by decide) ?_
  refine own_aloadN (pc' := 5) d8_4 rfl rfl ?_
  refine own_aloadN (pc' := 6) d8_5 rfl rfl ?_
  refine own_putF (pc' := 9) (hw _ (List.mem_of_getElem? (i := 45) rfl)) F_o_bytes E_o (Or.inr ⟨(hw _ (List.mem_of_getElem? (i := 46) rfl)), rfl, rfl⟩) (hw _ (List.mem_of_getElem? (i := 39) rfl)) ge_o (ty := (.array .byte)) (by decide) rfl rfl d8_6 rfl (fun h13 Wr14 K15 => ?_)
  replace E_o := E_o.wr Wr14
  replace F_o_bytes := F_o_bytes.same Wr14
  replace F_o_tag := F_o_tag.other Wr14 (Or.inr (slot_ne (a0 := a0) (Or.inr (hw _ (List.mem_of_getElem? (i := 48) rfl))) (Or.inr (hw _ (List.mem_of_getElem? (i := 46) rfl))) (by decide) (t := .int) (by decide) (t' := (.array .byte)) (by decide)))
  replace F_o_start := F_o_start.other Wr14 (Or.inr (slot_ne (a0 := a0) (Or.inr (hw _ (List.mem_of_getElem? (i := 50) rfl))) (Or.inr (hw _ (List.mem_of_getElem? (i := 46) rfl))) (by decide) (t := .int) (by decide) (t' := (.array .byte)) (by decide)))
  replace F_o_contentStart := F_o_contentStart.other Wr14 (Or.inr (slot_ne (a0 := a0) (Or.inr (hw _ (List.mem_of_getElem? (i := 52) rfl))) (Or.inr (hw _ (List.mem_of_getElem? (i := 46) rfl))) (by decide) (t := .int) (by decide) (t' := (.array .byte)) (by decide)))
  replace F_o_end := F_o_end.other Wr14 (Or.inr (slot_ne (a0 := a0) (Or.inr (hw _ (List.mem_of_getElem? (i := 54) rfl))) (Or.inr (hw _ (List.mem_of_getElem? (i := 46) rfl))) (by decide) (t := .int) (by decide) (t' := (.array .byte)) (by decide)))
  replace hn0 : n0 ≤ h13.size := Nat.le_trans hn0 K15.1
  refine own_aloadN (pc' := 10) d8_9 rfl rfl ?_
  refine own_iloadN (pc' := 11) d8_10 rfl rfl ?_
  refine own_putF (pc' := 14) (hw _ (List.mem_of_getElem? (i := 47) rfl)) F_o_tag E_o (Or.inr ⟨(hw _ (List.mem_of_getElem? (i := 48) rfl)), rfl, rfl⟩) (hw _ (List.mem_of_getElem? (i := 39) rfl)) ge_o (ty := .int) (by decide) rfl rfl d8_11 rfl (fun h16 Wr17 K18 => ?_)
  replace E_o := E_o.wr Wr17
  replace F_o_bytes := F_o_bytes.other Wr17 (Or.inr (slot_ne (a0 := a0) (Or.inr (hw _ (List.mem_of_getElem? (i := 46) rfl))) (Or.inr (hw _ (List.mem_of_getElem? (i := 48) rfl))) (by decide) (t := (.array .byte)) (by decide) (t' := .int) (by decide)))
  replace F_o_tag := F_o_tag.same Wr17
  replace F_o_start := F_o_start.other Wr17 (Or.inr (slot_ne (a0 := a0) (Or.inr (hw _ (List.mem_of_getElem? (i := 50) rfl))) (Or.inr (hw _ (List.mem_of_getElem? (i := 48) rfl))) (by decide) (t := .int) (by decide) (t' := .int) (by decide)))
  replace F_o_contentStart := F_o_contentStart.other Wr17 (Or.inr (slot_ne (a0 := a0) (Or.inr (hw _ (List.mem_of_getElem? (i := 52) rfl))) (Or.inr (hw _ (List.mem_of_getElem? (i := 48) rfl))) (by decide) (t := .int) (by decide) (t' := .int) (by decide)))
  replace F_o_end := F_o_end.other Wr17 (Or.inr (slot_ne (a0 := a0) (Or.inr (hw _ (List.mem_of_getElem? (i := 54) rfl))) (Or.inr (hw _ (List.mem_of_getElem? (i := 48) rfl))) (by decide) (t := .int) (by decide) (t' := .int) (by decide)))
  replace hn0 : n0 ≤ h16.size := Nat.le_trans hn0 K18.1
  refine own_aloadN (pc' := 15) d8_14 rfl rfl ?_
  refine own_iloadN (pc' := 16) d8_15 rfl rfl ?_
  refine own_putF (pc' := 19) (hw _ (List.mem_of_getElem? (i := 49) rfl)) F_o_start E_o (Or.inr ⟨(hw _ (List.mem_of_getElem? (i := 50) rfl)), rfl, rfl⟩) (hw _ (List.mem_of_getElem? (i := 39) rfl)) ge_o (ty := .int) (by decide) rfl rfl d8_16 rfl (fun h19 Wr20 K21 => ?_)
  replace E_o := E_o.wr Wr20
  replace F_o_bytes := F_o_bytes.other Wr20 (Or.inr (slot_ne (a0 := a0) (Or.inr (hw _ (List.mem_of_getElem? (i := 46) rfl))) (Or.inr (hw _ (List.mem_of_getElem? (i := 50) rfl))) (by decide) (t := (.array .byte)) (by decide) (t' := .int) (by decide)))
  replace F_o_tag := F_o_tag.other Wr20 (Or.inr (slot_ne (a0 := a0) (Or.inr (hw _ (List.mem_of_getElem? (i := 48) rfl))) (Or.inr (hw _ (List.mem_of_getElem? (i := 50) rfl))) (by decide) (t := .int) (by decide) (t' := .int) (by decide)))
  replace F_o_start := F_o_start.same Wr20
  replace F_o_contentStart := F_o_contentStart.other Wr20 (Or.inr (slot_ne (a0 := a0) (Or.inr (hw _ (List.mem_of_getElem? (i := 52) rfl))) (Or.inr (hw _ (List.mem_of_getElem? (i := 50) rfl))) (by decide) (t := .int) (by decide) (t' := .int) (by decide)))
  replace F_o_end := F_o_end.other Wr20 (Or.inr (slot_ne (a0 := a0) (Or.inr (hw _ (List.mem_of_getElem? (i := 54) rfl))) (Or.inr (hw _ (List.mem_of_getElem? (i := 50) rfl))) (by decide) (t := .int) (by decide) (t' := .int) (by decide)))
  replace hn0 : n0 ≤ h19.size := Nat.le_trans hn0 K21.1
  refine own_aloadN (pc' := 20) d8_19 rfl rfl ?_
  refine own_iload (pc' := 22) d8_20 rfl rfl ?_
  refine own_putF (pc' := 25) (hw _ (List.mem_of_getElem? (i := 51) rfl)) F_o_contentStart E_o (Or.inr ⟨(hw _ (List.mem_of_getElem? (i := 52) rfl)), rfl, rfl⟩) (hw _ (List.mem_of_getElem? (i := 39) rfl)) ge_o (ty := .int) (by decide) rfl rfl d8_22 rfl (fun h22 Wr23 K24 => ?_)
  replace E_o := E_o.wr Wr23
  replace F_o_bytes := F_o_bytes.other Wr23 (Or.inr (slot_ne (a0 := a0) (Or.inr (hw _ (List.mem_of_getElem? (i := 46) rfl))) (Or.inr (hw _ (List.mem_of_getElem? (i := 52) rfl))) (by decide) (t := (.array .byte)) (by decide) (t' := .int) (by decide)))
  replace F_o_tag := F_o_tag.other Wr23 (Or.inr (slot_ne (a0 := a0) (Or.inr (hw _ (List.mem_of_getElem? (i := 48) rfl))) (Or.inr (hw _ (List.mem_of_getElem? (i := 52) rfl))) (by decide) (t := .int) (by decide) (t' := .int) (by decide)))
  replace F_o_start := F_o_start.other Wr23 (Or.inr (slot_ne (a0 := a0) (Or.inr (hw _ (List.mem_of_getElem? (i := 50) rfl))) (Or.inr (hw _ (List.mem_of_getElem? (i := 52) rfl))) (by decide) (t := .int) (by decide) (t' := .int) (by decide)))
  replace F_o_contentStart := F_o_contentStart.same Wr23
  replace F_o_end := F_o_end.other Wr23 (Or.inr (slot_ne (a0 := a0) (Or.inr (hw _ (List.mem_of_getElem? (i := 54) rfl))) (Or.inr (hw _ (List.mem_of_getElem? (i := 52) rfl))) (by decide) (t := .int) (by decide) (t' := .int) (by decide)))
  replace hn0 : n0 ≤ h22.size := Nat.le_trans hn0 K24.1
  refine own_aloadN (pc' := 26) d8_25 rfl rfl ?_
  refine own_iload (pc' := 28) d8_26 rfl rfl ?_
  refine own_putF (pc' := 31) (hw _ (List.mem_of_getElem? (i := 53) rfl)) F_o_end E_o (Or.inr ⟨(hw _ (List.mem_of_getElem? (i := 54) rfl)), rfl, rfl⟩) (hw _ (List.mem_of_getElem? (i := 39) rfl)) ge_o (ty := .int) (by decide) rfl rfl d8_28 rfl (fun h25 Wr26 K27 => ?_)
  replace E_o := E_o.wr Wr26
  replace F_o_bytes := F_o_bytes.other Wr26 (Or.inr (slot_ne (a0 := a0) (Or.inr (hw _ (List.mem_of_getElem? (i := 46) rfl))) (Or.inr (hw _ (List.mem_of_getElem? (i := 54) rfl))) (by decide) (t := (.array .byte)) (by decide) (t' := .int) (by decide)))
  replace F_o_tag := F_o_tag.other Wr26 (Or.inr (slot_ne (a0 := a0) (Or.inr (hw _ (List.mem_of_getElem? (i := 48) rfl))) (Or.inr (hw _ (List.mem_of_getElem? (i := 54) rfl))) (by decide) (t := .int) (by decide) (t' := .int) (by decide)))
  replace F_o_start := F_o_start.other Wr26 (Or.inr (slot_ne (a0 := a0) (Or.inr (hw _ (List.mem_of_getElem? (i := 50) rfl))) (Or.inr (hw _ (List.mem_of_getElem? (i := 54) rfl))) (by decide) (t := .int) (by decide) (t' := .int) (by decide)))
  replace F_o_contentStart := F_o_contentStart.other Wr26 (Or.inr (slot_ne (a0 := a0) (Or.inr (hw _ (List.mem_of_getElem? (i := 52) rfl))) (Or.inr (hw _ (List.mem_of_getElem? (i := 54) rfl))) (by decide) (t := .int) (by decide) (t' := .int) (by decide)))
  replace F_o_end := F_o_end.same Wr26
  replace hn0 : n0 ≤ h25.size := Nat.le_trans hn0 K27.1
  exact own_ret rfl d8_31 ⟨rfl, ((((((Keep.refl h0 [o]).trans K15 (fun x hx => Or.inl hx)).trans K18 (fun x hx => Or.inl hx)).trans K21 (fun x hx => Or.inl hx)).trans K24 (fun x hx => Or.inl hx)).trans K27 (fun x hx => Or.inl hx)), E_o, F_o_bytes, F_o_tag, F_o_start, F_o_contentStart, F_o_end⟩
set_option maxRecDepth 65536 in
set_option maxHeartbeats 40000000 in
theorem own_tagW (l : Launch) (Z : State) (a0 : Array Value) (hw : ∀ d ∈ tables_1, d.before a0 Z = true) (o : Addr) (y : Int32) (h0 : Heap) (n0 : Nat) (hn0 : n0 ≤ h0.size) (F_t : Fld Z h0 o "com/example/befugnis/befugnis/Der$Value" "tag" "I" (.int y)) :
    own_W l Z (⟨"com/example/befugnis/befugnis/Der$Value", "tag", "()I"⟩ : MethodName) prog_10_method_2_code 1 (some .int) ({ frames := 0, cells := 0, slots := 0, locals := 0 } : Room) n0 (fun v h => v = some (.int y) ∧ h0 = h) h0 0 0 0 #[.val (.ref o)] [] := by
  refine own_aloadN (pc' := 1) d9_0 rfl rfl ?_
  refine own_getF (pc' := 4) (hw _ (List.mem_of_getElem? (i := 47) rfl)) F_t d9_1 rfl ?_
  exact own_iret rfl d9_4 ⟨rfl, rfl⟩
set_option maxRecDepth 65536 in
set_option maxHeartbeats 40000000 in
theorem own_rl0 (l : Launch) (Z : State) (a0 : Array Value) (hw : ∀ d ∈ tables_1, d.before a0 Z = true) (d r : Addr) (vs : List Value) (e L w : Int32) (h0 : Heap) (n0 : Nat) (hn0 : n0 ≤ h0.size) (hw1 : vs[(1 : Int32).toNatClampNeg]? = some (.int w)) (hs : (w &&& 255) < 128) (hL : (w &&& 255) = L) (hne : ¬ (1 : Int32) = e) (ne_d_r : d ≠ r) (ge_d : n0 ≤ d) (A_r : own_A Z h0 r .byte vs) (E_d : Exa Z h0 d "com/example/befugnis/befugnis/Der") (F_d_bytes : Fld Z h0 d "com/example/befugnis/befugnis/Der" "bytes" "[B" (.ref r)) (F_d_at : Fld Z h0 d "com/example/befugnis/befugnis/Der" "at" "I" (.int (1 : Int32))) (F_d_end : Fld Z h0 d "com/example/befugnis/befugnis/Der" "end" "I" (.int e)) :
    own_W l Z (⟨"com/example/befugnis/befugnis/Der", "readLength", "()I"⟩ : MethodName) prog_9_method_8_code 6 (some .int) ({ frames := 1, cells := 0, slots := 0, locals := 12 } : Room) n0 (fun v h => v = some (.int L) ∧ Keep h0 h [d] ∧ Exa Z h d "com/example/befugnis/befugnis/Der" ∧ Fld Z h d "com/example/befugnis/befugnis/Der" "bytes" "[B" (.ref r) ∧ Fld Z h d "com/example/befugnis/befugnis/Der" "at" "I" (.int (2 : Int32)) ∧ Fld Z h d "com/example/befugnis/befugnis/Der" "end" "I" (.int e)) h0 0 0 0 #[.val (.ref d), .unset, .unset, .unset, .unset, .unset] [] := by
  refine own_aloadN (pc' := 1) d7_0 rfl rfl ?_
  refine own_virtual (own_aeW l Z a0 hw d r 1 e h0 n0 hn0 E_d F_d_bytes F_d_at F_d_end) E_d (hw _ (List.mem_of_getElem? (i := 27) rfl)) (hw _ (List.mem_of_getElem? (i := 28) rfl)) (hw _ (List.mem_of_getElem? (i := 30) rfl)) (hw _ (List.mem_of_getElem? (i := 29) rfl)) (hw _ (List.mem_of_getElem? (i := 3) rfl)) (hw _ (List.mem_of_getElem? (i := 31) rfl)) (plainFor_of_name own_pn1) (by decide) own_pd6 rfl (argsL := []) (rest := []) rfl rfl (W := 0) (Nat.le_refl _) (by decide) (by decide) (by decide) (by decide) rfl d7_1 (pc' := 4) rfl (fun v_ h28 hq => ?_)
  obtain ⟨rfl, rfl⟩ := hq
  show own_W l Z (⟨"com/example/befugnis/befugnis/Der", "readLength", "()I"⟩ : MethodName) prog_9_method_8_code 6 (some .int) ({ frames := 1, cells := 0, slots := 0, locals := 12 } : Room) n0 (fun v h => v = some (.int L) ∧ Keep h0 h [d] ∧ Exa Z h d "com/example/befugnis/befugnis/Der" ∧ Fld Z h d "com/example/befugnis/befugnis/Der" "bytes" "[B" (.ref r) ∧ Fld Z h d "com/example/befugnis/befugnis/Der" "at" "I" (.int (2 : Int32)) ∧ Fld Z h d "com/example/befugnis/befugnis/Der" "end" "I" (.int e)) h0 0 0 4 #[.val (.ref d), .unset, .unset, .unset, .unset, .unset] [.int (own_ae (1 : Int32) e)]
  refine own_if_eq_t (pc' := 11) d7_4 (own_ae0 hne) (by decide) (by decide) ?_
  refine own_aloadN (pc' := 12) d7_11 rfl rfl ?_
  refine own_getF (pc' := 15) (hw _ (List.mem_of_getElem? (i := 16) rfl)) F_d_bytes d7_12 rfl ?_
  refine own_aloadN (pc' := 16) d7_15 rfl rfl ?_
  refine own_dup (pc' := 17) d7_16 rfl rfl ?_
  refine own_getF (pc' := 20) (hw _ (List.mem_of_getElem? (i := 18) rfl)) F_d_at d7_17 rfl ?_
  refine own_dupX1 (pc' := 21) d7_20 rfl rfl rfl ?_
  refine own_iconst (1 : Int32) (pc' := 22) d7_21 rfl rfl ?_
  refine own_iadd (pc' := 23) d7_22 rfl ?_
  refine own_putF (pc' := 26) (hw _ (List.mem_of_getElem? (i := 18) rfl)) F_d_at E_d (Or.inl (hw _ (List.mem_of_getElem? (i := 19) rfl))) (hw _ (List.mem_of_getElem? (i := 9) rfl)) ge_d (ty := .int) (by decide) rfl rfl d7_23 rfl (fun h29 Wr30 K31 => ?_)
  replace A_r := A_r.keep K31 (ninS (Ne.symm ne_d_r) nin0)
  replace E_d := E_d.wr Wr30
  replace F_d_bytes := F_d_bytes.other Wr30 (Or.inr (slot_ne (a0 := a0) (Or.inr (hw _ (List.mem_of_getElem? (i := 17) rfl))) (Or.inl (hw _ (List.mem_of_getElem? (i := 19) rfl))) (by decide) (t := (.array .byte)) (by decide) (t' := .int) (by decide)))
  replace F_d_at := F_d_at.same Wr30
  replace F_d_end := F_d_end.other Wr30 (Or.inr (slot_ne (a0 := a0) (Or.inr (hw _ (List.mem_of_getElem? (i := 21) rfl))) (Or.inl (hw _ (List.mem_of_getElem? (i := 19) rfl))) (by decide) (t := .int) (by decide) (t' := .int) (by decide)))
  replace hn0 : n0 ≤ h29.size := Nat.le_trans hn0 K31.1
  refine own_baload (pc' := 27) (v := .int w) A_r (by decide) hw1 d7_26 rfl ?_
  refine own_sipush (255 : Int32) (pc' := 30) d7_27 rfl rfl ?_
  refine own_iand (pc' := 31) d7_30 rfl ?_
  refine own_istoreN (pc' := 32) (Ls' := #[.val (.ref d), .val (.int (w &&& (255 : Int32))), .unset, .unset, .unset, .unset]) d7_31 rfl rfl ?_
  refine own_iloadN (pc' := 33) d7_32 rfl rfl ?_
  refine own_sipush (128 : Int32) (pc' := 36) d7_33 rfl rfl ?_
  refine own_ic_ge_f (pc' := 39) d7_36 hs rfl ?_
  refine own_iloadN (pc' := 40) d7_39 rfl rfl ?_
  exact own_iret rfl d7_40 ⟨by rw [hL], K31, E_d, F_d_bytes, F_d_at, F_d_end⟩
set_option maxRecDepth 65536 in
set_option maxHeartbeats 40000000 in
theorem own_rl1 (l : Launch) (Z : State) (a0 : Array Value) (hw : ∀ d ∈ tables_1, d.before a0 Z = true) (d r : Addr) (vs : List Value) (e L y0 : Int32) (h0 : Heap) (n0 : Nat) (hn0 : n0 ≤ h0.size) (hw1 : vs[(1 : Int32).toNatClampNeg]? = some (.int (-127 : Int32))) (hy0 : vs[(2 : Int32).toNatClampNeg]? = some (.int y0)) (hfits : ¬ e - 2 < (1 : Int32)) (h128 : ¬ (own_v1 y0) < 128) (hmin : ¬ ((own_v1 y0) >>> (((8 : Int32) * ((1 : Int32) - (1 : Int32))).toInt64 &&& 63)) = 0) (hmax : ¬ 2147483647 < (own_v1 y0)) (hL : (own_v1 y0).toInt32 = L) (hne : ¬ (1 : Int32) = e) (ne_d_r : d ≠ r) (ge_d : n0 ≤ d) (A_r : own_A Z h0 r .byte vs) (E_d : Exa Z h0 d "com/example/befugnis/befugnis/Der") (F_d_bytes : Fld Z h0 d "com/example/befugnis/befugnis/Der" "bytes" "[B" (.ref r)) (F_d_at : Fld Z h0 d "com/example/befugnis/befugnis/Der" "at" "I" (.int (1 : Int32))) (F_d_end : Fld Z h0 d "com/example/befugnis/befugnis/Der" "end" "I" (.int e)) :
    own_W l Z (⟨"com/example/befugnis/befugnis/Der", "readLength", "()I"⟩ : MethodName) prog_9_method_8_code 6 (some .int) ({ frames := 1, cells := 0, slots := 0, locals := 12 } : Room) n0 (fun v h => v = some (.int L) ∧ Keep h0 h [d] ∧ Exa Z h d "com/example/befugnis/befugnis/Der" ∧ Fld Z h d "com/example/befugnis/befugnis/Der" "bytes" "[B" (.ref r) ∧ Fld Z h d "com/example/befugnis/befugnis/Der" "at" "I" (.int (3 : Int32)) ∧ Fld Z h d "com/example/befugnis/befugnis/Der" "end" "I" (.int e)) h0 0 0 0 #[.val (.ref d), .unset, .unset, .unset, .unset, .unset] [] := by
  refine own_aloadN (pc' := 1) d7_0 rfl rfl ?_
  refine own_virtual (own_aeW l Z a0 hw d r 1 e h0 n0 hn0 E_d F_d_bytes F_d_at F_d_end) E_d (hw _ (List.mem_of_getElem? (i := 27) rfl)) (hw _ (List.mem_of_getElem? (i := 28) rfl)) (hw _ (List.mem_of_getElem? (i := 30) rfl)) (hw _ (List.mem_of_getElem? (i := 29) rfl)) (hw _ (List.mem_of_getElem? (i := 3) rfl)) (hw _ (List.mem_of_getElem? (i := 31) rfl)) (plainFor_of_name own_pn1) (by decide) own_pd6 rfl (argsL := []) (rest := []) rfl rfl (W := 0) (Nat.le_refl _) (by decide) (by decide) (by decide) (by decide) rfl d7_1 (pc' := 4) rfl (fun v_ h32 hq => ?_)
  obtain ⟨rfl, rfl⟩ := hq
  show own_W l Z (⟨"com/example/befugnis/befugnis/Der", "readLength", "()I"⟩ : MethodName) prog_9_method_8_code 6 (some .int) ({ frames := 1, cells := 0, slots := 0, locals := 12 } : Room) n0 (fun v h => v = some (.int L) ∧ Keep h0 h [d] ∧ Exa Z h d "com/example/befugnis/befugnis/Der" ∧ Fld Z h d "com/example/befugnis/befugnis/Der" "bytes" "[B" (.ref r) ∧ Fld Z h d "com/example/befugnis/befugnis/Der" "at" "I" (.int (3 : Int32)) ∧ Fld Z h d "com/example/befugnis/befugnis/Der" "end" "I" (.int e)) h0 0 0 4 #[.val (.ref d), .unset, .unset, .unset, .unset, .unset] [.int (own_ae (1 : Int32) e)]
  refine own_if_eq_t (pc' := 11) d7_4 (own_ae0 hne) (by decide) (by decide) ?_
  refine own_aloadN (pc' := 12) d7_11 rfl rfl ?_
  refine own_getF (pc' := 15) (hw _ (List.mem_of_getElem? (i := 16) rfl)) F_d_bytes d7_12 rfl ?_
  refine own_aloadN (pc' := 16) d7_15 rfl rfl ?_
  refine own_dup (pc' := 17) d7_16 rfl rfl ?_
  refine own_getF (pc' := 20) (hw _ (List.mem_of_getElem? (i := 18) rfl)) F_d_at d7_17 rfl ?_
  refine own_dupX1 (pc' := 21) d7_20 rfl rfl rfl ?_
  refine own_iconst (1 : Int32) (pc' := 22) d7_21 rfl rfl ?_
  refine own_iadd (pc' := 23) d7_22 rfl ?_
  refine own_putF (pc' := 26) (hw _ (List.mem_of_getElem? (i := 18) rfl)) F_d_at E_d (Or.inl (hw _ (List.mem_of_getElem? (i := 19) rfl))) (hw _ (List.mem_of_getElem? (i := 9) rfl)) ge_d (ty := .int) (by decide) rfl rfl d7_23 rfl (fun h33 Wr34 K35 => ?_)
  replace A_r := A_r.keep K35 (ninS (Ne.symm ne_d_r) nin0)
  replace E_d := E_d.wr Wr34
  replace F_d_bytes := F_d_bytes.other Wr34 (Or.inr (slot_ne (a0 := a0) (Or.inr (hw _ (List.mem_of_getElem? (i := 17) rfl))) (Or.inl (hw _ (List.mem_of_getElem? (i := 19) rfl))) (by decide) (t := (.array .byte)) (by decide) (t' := .int) (by decide)))
  replace F_d_at := F_d_at.same Wr34
  replace F_d_end := F_d_end.other Wr34 (Or.inr (slot_ne (a0 := a0) (Or.inr (hw _ (List.mem_of_getElem? (i := 21) rfl))) (Or.inl (hw _ (List.mem_of_getElem? (i := 19) rfl))) (by decide) (t := .int) (by decide) (t' := .int) (by decide)))
  replace hn0 : n0 ≤ h33.size := Nat.le_trans hn0 K35.1
  rw [show ((1 : Int32) + (1 : Int32)) = (2 : Int32) from by decide] at F_d_at
  refine own_baload (pc' := 27) (v := .int (-127 : Int32)) A_r (by decide) hw1 d7_26 rfl ?_
  refine own_sipush (255 : Int32) (pc' := 30) d7_27 rfl rfl ?_
  refine own_iand (pc' := 31) d7_30 rfl ?_
  refine own_istoreN (pc' := 32) (Ls' := #[.val (.ref d), .val (.int ((-127 : Int32) &&& (255 : Int32))), .unset, .unset, .unset, .unset]) d7_31 rfl rfl ?_
  refine own_iloadN (pc' := 33) d7_32 rfl rfl ?_
  refine own_sipush (128 : Int32) (pc' := 36) d7_33 rfl rfl ?_
  refine own_ic_ge_t (pc' := 41) d7_36 (by decide) (by decide) (by decide) ?_
  refine own_iloadN (pc' := 42) d7_41 rfl rfl ?_
  refine own_bipush (127 : Int32) (pc' := 44) d7_42 rfl rfl ?_
  refine own_iand (pc' := 45) d7_44 rfl ?_
  rw [show (((-127 : Int32) &&& (255 : Int32)) &&& (127 : Int32)) = (1 : Int32) from (by decide)]
  refine own_istoreN (pc' := 46) (Ls' := #[.val (.ref d), .val (.int ((-127 : Int32) &&& (255 : Int32))), .val (.int (1 : Int32)), .unset, .unset, .unset]) d7_45 rfl rfl ?_
  refine own_iloadN (pc' := 47) d7_46 rfl rfl ?_
  refine own_if_ne_t (pc' := 60) d7_47 (by decide) (by decide) (by decide) ?_
  refine own_iloadN (pc' := 61) d7_60 rfl rfl ?_
  refine own_iconst (4 : Int32) (pc' := 62) d7_61 rfl rfl ?_
  refine own_ic_gt_f (pc' := 65) d7_62 (by decide) rfl ?_
  refine own_iloadN (pc' := 66) d7_65 rfl rfl ?_
  refine own_aloadN (pc' := 67) d7_66 rfl rfl ?_
  refine own_getF (pc' := 70) (hw _ (List.mem_of_getElem? (i := 20) rfl)) F_d_end d7_67 rfl ?_
  refine own_aloadN (pc' := 71) d7_70 rfl rfl ?_
  refine own_getF (pc' := 74) (hw _ (List.mem_of_getElem? (i := 18) rfl)) F_d_at d7_71 rfl ?_
  refine own_isub (pc' := 75) d7_74 rfl ?_
  refine own_ic_le_t (pc' := 82) d7_75 hfits (by decide) (by decide) ?_
  refine own_lconst (0 : Int64) (pc' := 83) d7_82 rfl rfl ?_
  refine own_lstoreN (pc' := 84) (Ls' := #[.val (.ref d), .val (.int ((-127 : Int32) &&& (255 : Int32))), .val (.int (1 : Int32)), .val (.long (0 : Int64)), .second, .unset]) d7_83 rfl rfl ?_
  refine own_iconst (0 : Int32) (pc' := 85) d7_84 rfl rfl ?_
  refine own_istore (pc' := 87) (Ls' := #[.val (.ref d), .val (.int ((-127 : Int32) &&& (255 : Int32))), .val (.int (1 : Int32)), .val (.long (0 : Int64)), .second, .val (.int (0 : Int32))]) d7_85 rfl rfl ?_
  refine own_iload (pc' := 89) d7_87 rfl rfl ?_
  refine own_iloadN (pc' := 90) d7_89 rfl rfl ?_
  refine own_ic_ge_f (pc' := 93) d7_90 (by decide) rfl ?_
  refine own_lloadN (pc' := 94) d7_93 rfl rfl ?_
  refine own_bipush (8 : Int32) (pc' := 96) d7_94 rfl rfl ?_
  refine own_lshl (pc' := 97) d7_96 rfl ?_
  refine own_aloadN (pc' := 98) d7_97 rfl rfl ?_
  refine own_getF (pc' := 101) (hw _ (List.mem_of_getElem? (i := 16) rfl)) F_d_bytes d7_98 rfl ?_
  refine own_aloadN (pc' := 102) d7_101 rfl rfl ?_
  refine own_dup (pc' := 103) d7_102 rfl rfl ?_
  refine own_getF (pc' := 106) (hw _ (List.mem_of_getElem? (i := 18) rfl)) F_d_at d7_103 rfl ?_
  refine own_dupX1 (pc' := 107) d7_106 rfl rfl rfl ?_
  refine own_iconst (1 : Int32) (pc' := 108) d7_107 rfl rfl ?_
  refine own_iadd (pc' := 109) d7_108 rfl ?_
  refine own_putF (pc' := 112) (hw _ (List.mem_of_getElem? (i := 18) rfl)) F_d_at E_d (Or.inl (hw _ (List.mem_of_getElem? (i := 19) rfl))) (hw _ (List.mem_of_getElem? (i := 9) rfl)) ge_d (ty := .int) (by decide) rfl rfl d7_109 rfl (fun h36 Wr37 K38 => ?_)
  replace A_r := A_r.keep K38 (ninS (Ne.symm ne_d_r) nin0)
  replace E_d := E_d.wr Wr37
  replace F_d_bytes := F_d_bytes.other Wr37 (Or.inr (slot_ne (a0 := a0) (Or.inr (hw _ (List.mem_of_getElem? (i := 17) rfl))) (Or.inl (hw _ (List.mem_of_getElem? (i := 19) rfl))) (by decide) (t := (.array .byte)) (by decide) (t' := .int) (by decide)))
  replace F_d_at := F_d_at.same Wr37
  replace F_d_end := F_d_end.other Wr37 (Or.inr (slot_ne (a0 := a0) (Or.inr (hw _ (List.mem_of_getElem? (i := 21) rfl))) (Or.inl (hw _ (List.mem_of_getElem? (i := 19) rfl))) (by decide) (t := .int) (by decide) (t' := .int) (by decide)))
  replace hn0 : n0 ≤ h36.size := Nat.le_trans hn0 K38.1
  rw [show ((2 : Int32) + (1 : Int32)) = (3 : Int32) from by decide] at F_d_at
  refine own_baload (pc' := 113) (v := .int y0) A_r (by decide) hy0 d7_112 rfl ?_
  refine own_sipush (255 : Int32) (pc' := 116) d7_113 rfl rfl ?_
  refine own_iand (pc' := 117) d7_116 rfl ?_
  refine own_i2l (pc' := 118) d7_117 rfl ?_
  refine own_lor (pc' := 119) d7_118 rfl ?_
  rw [show (((0 : Int64) <<< ((8 : Int32).toInt64 &&& 63)) ||| ((y0 &&& (255 : Int32)).toInt64)) = (own_v1 y0) from rfl]
  refine own_lstoreN (pc' := 120) (Ls' := #[.val (.ref d), .val (.int ((-127 : Int32) &&& (255 : Int32))), .val (.int (1 : Int32)), .val (.long (own_v1 y0)), .second, .val (.int (0 : Int32))]) d7_119 rfl rfl ?_
  refine own_iinc (pc' := 123) (w := (1 : Int32)) (Ls' := #[.val (.ref d), .val (.int ((-127 : Int32) &&& (255 : Int32))), .val (.int (1 : Int32)), .val (.long (own_v1 y0)), .second, .val (.int ((0 : Int32) + (1 : Int32)))]) d7_120 rfl rfl rfl rfl ?_
  rw [show ((0 : Int32) + (1 : Int32)) = (1 : Int32) from (by decide)]
  refine own_goto (pc' := 87) d7_123 (by decide) (by decide) ?_
  refine own_iload (pc' := 89) d7_87 rfl rfl ?_
  refine own_iloadN (pc' := 90) d7_89 rfl rfl ?_
  refine own_ic_ge_t (pc' := 126) d7_90 (by decide) (by decide) (by decide) ?_
  refine own_lloadN (pc' := 127) d7_126 rfl rfl ?_
  refine own_ldc2 (pc' := 130) (u := (128 : Int64)) (hw _ (List.mem_of_getElem? (i := 36) rfl)) d7_127 rfl ?_
  refine own_lcmp (pc' := 131) d7_130 rfl ?_
  refine own_il_lt_f (pc' := 134) d7_131 h128 rfl ?_
  refine own_lloadN (pc' := 135) d7_134 rfl rfl ?_
  refine own_bipush (8 : Int32) (pc' := 137) d7_135 rfl rfl ?_
  refine own_iloadN (pc' := 138) d7_137 rfl rfl ?_
  refine own_iconst (1 : Int32) (pc' := 139) d7_138 rfl rfl ?_
  refine own_isub (pc' := 140) d7_139 rfl ?_
  refine own_imul (pc' := 141) d7_140 rfl ?_
  refine own_lshr (pc' := 142) d7_141 rfl ?_
  refine own_lconst (0 : Int64) (pc' := 143) d7_142 rfl rfl ?_
  refine own_lcmp (pc' := 144) d7_143 rfl ?_
  refine own_il_eq_f (pc' := 147) d7_144 hmin rfl ?_
  refine own_iconst (1 : Int32) (pc' := 148) d7_147 rfl rfl ?_
  refine own_goto (pc' := 152) d7_148 (by decide) (by decide) ?_
  refine own_istore (pc' := 154) (Ls' := #[.val (.ref d), .val (.int ((-127 : Int32) &&& (255 : Int32))), .val (.int (1 : Int32)), .val (.long (own_v1 y0)), .second, .val (.int (1 : Int32))]) d7_152 rfl rfl ?_
  refine own_iload (pc' := 156) d7_154 rfl rfl ?_
  refine own_if_ne_t (pc' := 169) d7_156 (by decide) (by decide) (by decide) ?_
  refine own_lloadN (pc' := 170) d7_169 rfl rfl ?_
  refine own_ldc2 (pc' := 173) (u := (2147483647 : Int64)) (hw _ (List.mem_of_getElem? (i := 37) rfl)) d7_170 rfl ?_
  refine own_lcmp (pc' := 174) d7_173 rfl ?_
  refine own_il_le_t (pc' := 181) d7_174 hmax (by decide) (by decide) ?_
  refine own_lloadN (pc' := 182) d7_181 rfl rfl ?_
  refine own_l2i (pc' := 183) d7_182 rfl ?_
  exact own_iret rfl d7_183 ⟨by rw [hL], (((Keep.refl h0 [d]).trans K35 (fun x hx => Or.inl hx)).trans K38 (fun x hx => Or.inl hx)), E_d, F_d_bytes, F_d_at, F_d_end⟩
set_option maxRecDepth 65536 in
set_option maxHeartbeats 40000000 in
theorem own_rl2 (l : Launch) (Z : State) (a0 : Array Value) (hw : ∀ d ∈ tables_1, d.before a0 Z = true) (d r : Addr) (vs : List Value) (e L y0 y1 : Int32) (h0 : Heap) (n0 : Nat) (hn0 : n0 ≤ h0.size) (hw1 : vs[(1 : Int32).toNatClampNeg]? = some (.int (-126 : Int32))) (hy0 : vs[(2 : Int32).toNatClampNeg]? = some (.int y0)) (hy1 : vs[(3 : Int32).toNatClampNeg]? = some (.int y1)) (hfits : ¬ e - 2 < (2 : Int32)) (h128 : ¬ (own_v2 y0 y1) < 128) (hmin : ¬ ((own_v2 y0 y1) >>> (((8 : Int32) * ((2 : Int32) - (1 : Int32))).toInt64 &&& 63)) = 0) (hmax : ¬ 2147483647 < (own_v2 y0 y1)) (hL : (own_v2 y0 y1).toInt32 = L) (hne : ¬ (1 : Int32) = e) (ne_d_r : d ≠ r) (ge_d : n0 ≤ d) (A_r : own_A Z h0 r .byte vs) (E_d : Exa Z h0 d "com/example/befugnis/befugnis/Der") (F_d_bytes : Fld Z h0 d "com/example/befugnis/befugnis/Der" "bytes" "[B" (.ref r)) (F_d_at : Fld Z h0 d "com/example/befugnis/befugnis/Der" "at" "I" (.int (1 : Int32))) (F_d_end : Fld Z h0 d "com/example/befugnis/befugnis/Der" "end" "I" (.int e)) :
    own_W l Z (⟨"com/example/befugnis/befugnis/Der", "readLength", "()I"⟩ : MethodName) prog_9_method_8_code 6 (some .int) ({ frames := 1, cells := 0, slots := 0, locals := 12 } : Room) n0 (fun v h => v = some (.int L) ∧ Keep h0 h [d] ∧ Exa Z h d "com/example/befugnis/befugnis/Der" ∧ Fld Z h d "com/example/befugnis/befugnis/Der" "bytes" "[B" (.ref r) ∧ Fld Z h d "com/example/befugnis/befugnis/Der" "at" "I" (.int (4 : Int32)) ∧ Fld Z h d "com/example/befugnis/befugnis/Der" "end" "I" (.int e)) h0 0 0 0 #[.val (.ref d), .unset, .unset, .unset, .unset, .unset] [] := by
  refine own_aloadN (pc' := 1) d7_0 rfl rfl ?_
  refine own_virtual (own_aeW l Z a0 hw d r 1 e h0 n0 hn0 E_d F_d_bytes F_d_at F_d_end) E_d (hw _ (List.mem_of_getElem? (i := 27) rfl)) (hw _ (List.mem_of_getElem? (i := 28) rfl)) (hw _ (List.mem_of_getElem? (i := 30) rfl)) (hw _ (List.mem_of_getElem? (i := 29) rfl)) (hw _ (List.mem_of_getElem? (i := 3) rfl)) (hw _ (List.mem_of_getElem? (i := 31) rfl)) (plainFor_of_name own_pn1) (by decide) own_pd6 rfl (argsL := []) (rest := []) rfl rfl (W := 0) (Nat.le_refl _) (by decide) (by decide) (by decide) (by decide) rfl d7_1 (pc' := 4) rfl (fun v_ h39 hq => ?_)
  obtain ⟨rfl, rfl⟩ := hq
  show own_W l Z (⟨"com/example/befugnis/befugnis/Der", "readLength", "()I"⟩ : MethodName) prog_9_method_8_code 6 (some .int) ({ frames := 1, cells := 0, slots := 0, locals := 12 } : Room) n0 (fun v h => v = some (.int L) ∧ Keep h0 h [d] ∧ Exa Z h d "com/example/befugnis/befugnis/Der" ∧ Fld Z h d "com/example/befugnis/befugnis/Der" "bytes" "[B" (.ref r) ∧ Fld Z h d "com/example/befugnis/befugnis/Der" "at" "I" (.int (4 : Int32)) ∧ Fld Z h d "com/example/befugnis/befugnis/Der" "end" "I" (.int e)) h0 0 0 4 #[.val (.ref d), .unset, .unset, .unset, .unset, .unset] [.int (own_ae (1 : Int32) e)]
  refine own_if_eq_t (pc' := 11) d7_4 (own_ae0 hne) (by decide) (by decide) ?_
  refine own_aloadN (pc' := 12) d7_11 rfl rfl ?_
  refine own_getF (pc' := 15) (hw _ (List.mem_of_getElem? (i := 16) rfl)) F_d_bytes d7_12 rfl ?_
  refine own_aloadN (pc' := 16) d7_15 rfl rfl ?_
  refine own_dup (pc' := 17) d7_16 rfl rfl ?_
  refine own_getF (pc' := 20) (hw _ (List.mem_of_getElem? (i := 18) rfl)) F_d_at d7_17 rfl ?_
  refine own_dupX1 (pc' := 21) d7_20 rfl rfl rfl ?_
  refine own_iconst (1 : Int32) (pc' := 22) d7_21 rfl rfl ?_
  refine own_iadd (pc' := 23) d7_22 rfl ?_
  refine own_putF (pc' := 26) (hw _ (List.mem_of_getElem? (i := 18) rfl)) F_d_at E_d (Or.inl (hw _ (List.mem_of_getElem? (i := 19) rfl))) (hw _ (List.mem_of_getElem? (i := 9) rfl)) ge_d (ty := .int) (by decide) rfl rfl d7_23 rfl (fun h40 Wr41 K42 => ?_)
  replace A_r := A_r.keep K42 (ninS (Ne.symm ne_d_r) nin0)
  replace E_d := E_d.wr Wr41
  replace F_d_bytes := F_d_bytes.other Wr41 (Or.inr (slot_ne (a0 := a0) (Or.inr (hw _ (List.mem_of_getElem? (i := 17) rfl))) (Or.inl (hw _ (List.mem_of_getElem? (i := 19) rfl))) (by decide) (t := (.array .byte)) (by decide) (t' := .int) (by decide)))
  replace F_d_at := F_d_at.same Wr41
  replace F_d_end := F_d_end.other Wr41 (Or.inr (slot_ne (a0 := a0) (Or.inr (hw _ (List.mem_of_getElem? (i := 21) rfl))) (Or.inl (hw _ (List.mem_of_getElem? (i := 19) rfl))) (by decide) (t := .int) (by decide) (t' := .int) (by decide)))
  replace hn0 : n0 ≤ h40.size := Nat.le_trans hn0 K42.1
  rw [show ((1 : Int32) + (1 : Int32)) = (2 : Int32) from by decide] at F_d_at
  refine own_baload (pc' := 27) (v := .int (-126 : Int32)) A_r (by decide) hw1 d7_26 rfl ?_
  refine own_sipush (255 : Int32) (pc' := 30) d7_27 rfl rfl ?_
  refine own_iand (pc' := 31) d7_30 rfl ?_
  refine own_istoreN (pc' := 32) (Ls' := #[.val (.ref d), .val (.int ((-126 : Int32) &&& (255 : Int32))), .unset, .unset, .unset, .unset]) d7_31 rfl rfl ?_
  refine own_iloadN (pc' := 33) d7_32 rfl rfl ?_
  refine own_sipush (128 : Int32) (pc' := 36) d7_33 rfl rfl ?_
  refine own_ic_ge_t (pc' := 41) d7_36 (by decide) (by decide) (by decide) ?_
  refine own_iloadN (pc' := 42) d7_41 rfl rfl ?_
  refine own_bipush (127 : Int32) (pc' := 44) d7_42 rfl rfl ?_
  refine own_iand (pc' := 45) d7_44 rfl ?_
  rw [show (((-126 : Int32) &&& (255 : Int32)) &&& (127 : Int32)) = (2 : Int32) from (by decide)]
  refine own_istoreN (pc' := 46) (Ls' := #[.val (.ref d), .val (.int ((-126 : Int32) &&& (255 : Int32))), .val (.int (2 : Int32)), .unset, .unset, .unset]) d7_45 rfl rfl ?_
  refine own_iloadN (pc' := 47) d7_46 rfl rfl ?_
  refine own_if_ne_t (pc' := 60) d7_47 (by decide) (by decide) (by decide) ?_
  refine own_iloadN (pc' := 61) d7_60 rfl rfl ?_
  refine own_iconst (4 : Int32) (pc' := 62) d7_61 rfl rfl ?_
  refine own_ic_gt_f (pc' := 65) d7_62 (by decide) rfl ?_
  refine own_iloadN (pc' := 66) d7_65 rfl rfl ?_
  refine own_aloadN (pc' := 67) d7_66 rfl rfl ?_
  refine own_getF (pc' := 70) (hw _ (List.mem_of_getElem? (i := 20) rfl)) F_d_end d7_67 rfl ?_
  refine own_aloadN (pc' := 71) d7_70 rfl rfl ?_
  refine own_getF (pc' := 74) (hw _ (List.mem_of_getElem? (i := 18) rfl)) F_d_at d7_71 rfl ?_
  refine own_isub (pc' := 75) d7_74 rfl ?_
  refine own_ic_le_t (pc' := 82) d7_75 hfits (by decide) (by decide) ?_
  refine own_lconst (0 : Int64) (pc' := 83) d7_82 rfl rfl ?_
  refine own_lstoreN (pc' := 84) (Ls' := #[.val (.ref d), .val (.int ((-126 : Int32) &&& (255 : Int32))), .val (.int (2 : Int32)), .val (.long (0 : Int64)), .second, .unset]) d7_83 rfl rfl ?_
  refine own_iconst (0 : Int32) (pc' := 85) d7_84 rfl rfl ?_
  refine own_istore (pc' := 87) (Ls' := #[.val (.ref d), .val (.int ((-126 : Int32) &&& (255 : Int32))), .val (.int (2 : Int32)), .val (.long (0 : Int64)), .second, .val (.int (0 : Int32))]) d7_85 rfl rfl ?_
  refine own_iload (pc' := 89) d7_87 rfl rfl ?_
  refine own_iloadN (pc' := 90) d7_89 rfl rfl ?_
  refine own_ic_ge_f (pc' := 93) d7_90 (by decide) rfl ?_
  refine own_lloadN (pc' := 94) d7_93 rfl rfl ?_
  refine own_bipush (8 : Int32) (pc' := 96) d7_94 rfl rfl ?_
  refine own_lshl (pc' := 97) d7_96 rfl ?_
  refine own_aloadN (pc' := 98) d7_97 rfl rfl ?_
  refine own_getF (pc' := 101) (hw _ (List.mem_of_getElem? (i := 16) rfl)) F_d_bytes d7_98 rfl ?_
  refine own_aloadN (pc' := 102) d7_101 rfl rfl ?_
  refine own_dup (pc' := 103) d7_102 rfl rfl ?_
  refine own_getF (pc' := 106) (hw _ (List.mem_of_getElem? (i := 18) rfl)) F_d_at d7_103 rfl ?_
  refine own_dupX1 (pc' := 107) d7_106 rfl rfl rfl ?_
  refine own_iconst (1 : Int32) (pc' := 108) d7_107 rfl rfl ?_
  refine own_iadd (pc' := 109) d7_108 rfl ?_
  refine own_putF (pc' := 112) (hw _ (List.mem_of_getElem? (i := 18) rfl)) F_d_at E_d (Or.inl (hw _ (List.mem_of_getElem? (i := 19) rfl))) (hw _ (List.mem_of_getElem? (i := 9) rfl)) ge_d (ty := .int) (by decide) rfl rfl d7_109 rfl (fun h43 Wr44 K45 => ?_)
  replace A_r := A_r.keep K45 (ninS (Ne.symm ne_d_r) nin0)
  replace E_d := E_d.wr Wr44
  replace F_d_bytes := F_d_bytes.other Wr44 (Or.inr (slot_ne (a0 := a0) (Or.inr (hw _ (List.mem_of_getElem? (i := 17) rfl))) (Or.inl (hw _ (List.mem_of_getElem? (i := 19) rfl))) (by decide) (t := (.array .byte)) (by decide) (t' := .int) (by decide)))
  replace F_d_at := F_d_at.same Wr44
  replace F_d_end := F_d_end.other Wr44 (Or.inr (slot_ne (a0 := a0) (Or.inr (hw _ (List.mem_of_getElem? (i := 21) rfl))) (Or.inl (hw _ (List.mem_of_getElem? (i := 19) rfl))) (by decide) (t := .int) (by decide) (t' := .int) (by decide)))
  replace hn0 : n0 ≤ h43.size := Nat.le_trans hn0 K45.1
  rw [show ((2 : Int32) + (1 : Int32)) = (3 : Int32) from by decide] at F_d_at
  refine own_baload (pc' := 113) (v := .int y0) A_r (by decide) hy0 d7_112 rfl ?_
  refine own_sipush (255 : Int32) (pc' := 116) d7_113 rfl rfl ?_
  refine own_iand (pc' := 117) d7_116 rfl ?_
  refine own_i2l (pc' := 118) d7_117 rfl ?_
  refine own_lor (pc' := 119) d7_118 rfl ?_
  rw [show (((0 : Int64) <<< ((8 : Int32).toInt64 &&& 63)) ||| ((y0 &&& (255 : Int32)).toInt64)) = (own_v1 y0) from rfl]
  refine own_lstoreN (pc' := 120) (Ls' := #[.val (.ref d), .val (.int ((-126 : Int32) &&& (255 : Int32))), .val (.int (2 : Int32)), .val (.long (own_v1 y0)), .second, .val (.int (0 : Int32))]) d7_119 rfl rfl ?_
  refine own_iinc (pc' := 123) (w := (1 : Int32)) (Ls' := #[.val (.ref d), .val (.int ((-126 : Int32) &&& (255 : Int32))), .val (.int (2 : Int32)), .val (.long (own_v1 y0)), .second, .val (.int ((0 : Int32) + (1 : Int32)))]) d7_120 rfl rfl rfl rfl ?_
  rw [show ((0 : Int32) + (1 : Int32)) = (1 : Int32) from (by decide)]
  refine own_goto (pc' := 87) d7_123 (by decide) (by decide) ?_
  refine own_iload (pc' := 89) d7_87 rfl rfl ?_
  refine own_iloadN (pc' := 90) d7_89 rfl rfl ?_
  refine own_ic_ge_f (pc' := 93) d7_90 (by decide) rfl ?_
  refine own_lloadN (pc' := 94) d7_93 rfl rfl ?_
  refine own_bipush (8 : Int32) (pc' := 96) d7_94 rfl rfl ?_
  refine own_lshl (pc' := 97) d7_96 rfl ?_
  refine own_aloadN (pc' := 98) d7_97 rfl rfl ?_
  refine own_getF (pc' := 101) (hw _ (List.mem_of_getElem? (i := 16) rfl)) F_d_bytes d7_98 rfl ?_
  refine own_aloadN (pc' := 102) d7_101 rfl rfl ?_
  refine own_dup (pc' := 103) d7_102 rfl rfl ?_
  refine own_getF (pc' := 106) (hw _ (List.mem_of_getElem? (i := 18) rfl)) F_d_at d7_103 rfl ?_
  refine own_dupX1 (pc' := 107) d7_106 rfl rfl rfl ?_
  refine own_iconst (1 : Int32) (pc' := 108) d7_107 rfl rfl ?_
  refine own_iadd (pc' := 109) d7_108 rfl ?_
  refine own_putF (pc' := 112) (hw _ (List.mem_of_getElem? (i := 18) rfl)) F_d_at E_d (Or.inl (hw _ (List.mem_of_getElem? (i := 19) rfl))) (hw _ (List.mem_of_getElem? (i := 9) rfl)) ge_d (ty := .int) (by decide) rfl rfl d7_109 rfl (fun h46 Wr47 K48 => ?_)
  replace A_r := A_r.keep K48 (ninS (Ne.symm ne_d_r) nin0)
  replace E_d := E_d.wr Wr47
  replace F_d_bytes := F_d_bytes.other Wr47 (Or.inr (slot_ne (a0 := a0) (Or.inr (hw _ (List.mem_of_getElem? (i := 17) rfl))) (Or.inl (hw _ (List.mem_of_getElem? (i := 19) rfl))) (by decide) (t := (.array .byte)) (by decide) (t' := .int) (by decide)))
  replace F_d_at := F_d_at.same Wr47
  replace F_d_end := F_d_end.other Wr47 (Or.inr (slot_ne (a0 := a0) (Or.inr (hw _ (List.mem_of_getElem? (i := 21) rfl))) (Or.inl (hw _ (List.mem_of_getElem? (i := 19) rfl))) (by decide) (t := .int) (by decide) (t' := .int) (by decide)))
  replace hn0 : n0 ≤ h46.size := Nat.le_trans hn0 K48.1
  rw [show ((3 : Int32) + (1 : Int32)) = (4 : Int32) from by decide] at F_d_at
  refine own_baload (pc' := 113) (v := .int y1) A_r (by decide) hy1 d7_112 rfl ?_
  refine own_sipush (255 : Int32) (pc' := 116) d7_113 rfl rfl ?_
  refine own_iand (pc' := 117) d7_116 rfl ?_
  refine own_i2l (pc' := 118) d7_117 rfl ?_
  refine own_lor (pc' := 119) d7_118 rfl ?_
  rw [show (((own_v1 y0) <<< ((8 : Int32).toInt64 &&& 63)) ||| ((y1 &&& (255 : Int32)).toInt64)) = (own_v2 y0 y1) from rfl]
  refine own_lstoreN (pc' := 120) (Ls' := #[.val (.ref d), .val (.int ((-126 : Int32) &&& (255 : Int32))), .val (.int (2 : Int32)), .val (.long (own_v2 y0 y1)), .second, .val (.int (1 : Int32))]) d7_119 rfl rfl ?_
  refine own_iinc (pc' := 123) (w := (1 : Int32)) (Ls' := #[.val (.ref d), .val (.int ((-126 : Int32) &&& (255 : Int32))), .val (.int (2 : Int32)), .val (.long (own_v2 y0 y1)), .second, .val (.int ((1 : Int32) + (1 : Int32)))]) d7_120 rfl rfl rfl rfl ?_
  rw [show ((1 : Int32) + (1 : Int32)) = (2 : Int32) from (by decide)]
  refine own_goto (pc' := 87) d7_123 (by decide) (by decide) ?_
  refine own_iload (pc' := 89) d7_87 rfl rfl ?_
  refine own_iloadN (pc' := 90) d7_89 rfl rfl ?_
  refine own_ic_ge_t (pc' := 126) d7_90 (by decide) (by decide) (by decide) ?_
  refine own_lloadN (pc' := 127) d7_126 rfl rfl ?_
  refine own_ldc2 (pc' := 130) (u := (128 : Int64)) (hw _ (List.mem_of_getElem? (i := 36) rfl)) d7_127 rfl ?_
  refine own_lcmp (pc' := 131) d7_130 rfl ?_
  refine own_il_lt_f (pc' := 134) d7_131 h128 rfl ?_
  refine own_lloadN (pc' := 135) d7_134 rfl rfl ?_
  refine own_bipush (8 : Int32) (pc' := 137) d7_135 rfl rfl ?_
  refine own_iloadN (pc' := 138) d7_137 rfl rfl ?_
  refine own_iconst (1 : Int32) (pc' := 139) d7_138 rfl rfl ?_
  refine own_isub (pc' := 140) d7_139 rfl ?_
  refine own_imul (pc' := 141) d7_140 rfl ?_
  refine own_lshr (pc' := 142) d7_141 rfl ?_
  refine own_lconst (0 : Int64) (pc' := 143) d7_142 rfl rfl ?_
  refine own_lcmp (pc' := 144) d7_143 rfl ?_
  refine own_il_eq_f (pc' := 147) d7_144 hmin rfl ?_
  refine own_iconst (1 : Int32) (pc' := 148) d7_147 rfl rfl ?_
  refine own_goto (pc' := 152) d7_148 (by decide) (by decide) ?_
  refine own_istore (pc' := 154) (Ls' := #[.val (.ref d), .val (.int ((-126 : Int32) &&& (255 : Int32))), .val (.int (2 : Int32)), .val (.long (own_v2 y0 y1)), .second, .val (.int (1 : Int32))]) d7_152 rfl rfl ?_
  refine own_iload (pc' := 156) d7_154 rfl rfl ?_
  refine own_if_ne_t (pc' := 169) d7_156 (by decide) (by decide) (by decide) ?_
  refine own_lloadN (pc' := 170) d7_169 rfl rfl ?_
  refine own_ldc2 (pc' := 173) (u := (2147483647 : Int64)) (hw _ (List.mem_of_getElem? (i := 37) rfl)) d7_170 rfl ?_
  refine own_lcmp (pc' := 174) d7_173 rfl ?_
  refine own_il_le_t (pc' := 181) d7_174 hmax (by decide) (by decide) ?_
  refine own_lloadN (pc' := 182) d7_181 rfl rfl ?_
  refine own_l2i (pc' := 183) d7_182 rfl ?_
  exact own_iret rfl d7_183 ⟨by rw [hL], ((((Keep.refl h0 [d]).trans K42 (fun x hx => Or.inl hx)).trans K45 (fun x hx => Or.inl hx)).trans K48 (fun x hx => Or.inl hx)), E_d, F_d_bytes, F_d_at, F_d_end⟩
set_option maxRecDepth 65536 in
set_option maxHeartbeats 40000000 in
theorem own_rl3 (l : Launch) (Z : State) (a0 : Array Value) (hw : ∀ d ∈ tables_1, d.before a0 Z = true) (d r : Addr) (vs : List Value) (e L y0 y1 y2 : Int32) (h0 : Heap) (n0 : Nat) (hn0 : n0 ≤ h0.size) (hw1 : vs[(1 : Int32).toNatClampNeg]? = some (.int (-125 : Int32))) (hy0 : vs[(2 : Int32).toNatClampNeg]? = some (.int y0)) (hy1 : vs[(3 : Int32).toNatClampNeg]? = some (.int y1)) (hy2 : vs[(4 : Int32).toNatClampNeg]? = some (.int y2)) (hfits : ¬ e - 2 < (3 : Int32)) (h128 : ¬ (own_v3 y0 y1 y2) < 128) (hmin : ¬ ((own_v3 y0 y1 y2) >>> (((8 : Int32) * ((3 : Int32) - (1 : Int32))).toInt64 &&& 63)) = 0) (hmax : ¬ 2147483647 < (own_v3 y0 y1 y2)) (hL : (own_v3 y0 y1 y2).toInt32 = L) (hne : ¬ (1 : Int32) = e) (ne_d_r : d ≠ r) (ge_d : n0 ≤ d) (A_r : own_A Z h0 r .byte vs) (E_d : Exa Z h0 d "com/example/befugnis/befugnis/Der") (F_d_bytes : Fld Z h0 d "com/example/befugnis/befugnis/Der" "bytes" "[B" (.ref r)) (F_d_at : Fld Z h0 d "com/example/befugnis/befugnis/Der" "at" "I" (.int (1 : Int32))) (F_d_end : Fld Z h0 d "com/example/befugnis/befugnis/Der" "end" "I" (.int e)) :
    own_W l Z (⟨"com/example/befugnis/befugnis/Der", "readLength", "()I"⟩ : MethodName) prog_9_method_8_code 6 (some .int) ({ frames := 1, cells := 0, slots := 0, locals := 12 } : Room) n0 (fun v h => v = some (.int L) ∧ Keep h0 h [d] ∧ Exa Z h d "com/example/befugnis/befugnis/Der" ∧ Fld Z h d "com/example/befugnis/befugnis/Der" "bytes" "[B" (.ref r) ∧ Fld Z h d "com/example/befugnis/befugnis/Der" "at" "I" (.int (5 : Int32)) ∧ Fld Z h d "com/example/befugnis/befugnis/Der" "end" "I" (.int e)) h0 0 0 0 #[.val (.ref d), .unset, .unset, .unset, .unset, .unset] [] := by
  refine own_aloadN (pc' := 1) d7_0 rfl rfl ?_
  refine own_virtual (own_aeW l Z a0 hw d r 1 e h0 n0 hn0 E_d F_d_bytes F_d_at F_d_end) E_d (hw _ (List.mem_of_getElem? (i := 27) rfl)) (hw _ (List.mem_of_getElem? (i := 28) rfl)) (hw _ (List.mem_of_getElem? (i := 30) rfl)) (hw _ (List.mem_of_getElem? (i := 29) rfl)) (hw _ (List.mem_of_getElem? (i := 3) rfl)) (hw _ (List.mem_of_getElem? (i := 31) rfl)) (plainFor_of_name own_pn1) (by decide) own_pd6 rfl (argsL := []) (rest := []) rfl rfl (W := 0) (Nat.le_refl _) (by decide) (by decide) (by decide) (by decide) rfl d7_1 (pc' := 4) rfl (fun v_ h49 hq => ?_)
  obtain ⟨rfl, rfl⟩ := hq
  show own_W l Z (⟨"com/example/befugnis/befugnis/Der", "readLength", "()I"⟩ : MethodName) prog_9_method_8_code 6 (some .int) ({ frames := 1, cells := 0, slots := 0, locals := 12 } : Room) n0 (fun v h => v = some (.int L) ∧ Keep h0 h [d] ∧ Exa Z h d "com/example/befugnis/befugnis/Der" ∧ Fld Z h d "com/example/befugnis/befugnis/Der" "bytes" "[B" (.ref r) ∧ Fld Z h d "com/example/befugnis/befugnis/Der" "at" "I" (.int (5 : Int32)) ∧ Fld Z h d "com/example/befugnis/befugnis/Der" "end" "I" (.int e)) h0 0 0 4 #[.val (.ref d), .unset, .unset, .unset, .unset, .unset] [.int (own_ae (1 : Int32) e)]
  refine own_if_eq_t (pc' := 11) d7_4 (own_ae0 hne) (by decide) (by decide) ?_
  refine own_aloadN (pc' := 12) d7_11 rfl rfl ?_
  refine own_getF (pc' := 15) (hw _ (List.mem_of_getElem? (i := 16) rfl)) F_d_bytes d7_12 rfl ?_
  refine own_aloadN (pc' := 16) d7_15 rfl rfl ?_
  refine own_dup (pc' := 17) d7_16 rfl rfl ?_
  refine own_getF (pc' := 20) (hw _ (List.mem_of_getElem? (i := 18) rfl)) F_d_at d7_17 rfl ?_
  refine own_dupX1 (pc' := 21) d7_20 rfl rfl rfl ?_
  refine own_iconst (1 : Int32) (pc' := 22) d7_21 rfl rfl ?_
  refine own_iadd (pc' := 23) d7_22 rfl ?_
  refine own_putF (pc' := 26) (hw _ (List.mem_of_getElem? (i := 18) rfl)) F_d_at E_d (Or.inl (hw _ (List.mem_of_getElem? (i := 19) rfl))) (hw _ (List.mem_of_getElem? (i := 9) rfl)) ge_d (ty := .int) (by decide) rfl rfl d7_23 rfl (fun h50 Wr51 K52 => ?_)
  replace A_r := A_r.keep K52 (ninS (Ne.symm ne_d_r) nin0)
  replace E_d := E_d.wr Wr51
  replace F_d_bytes := F_d_bytes.other Wr51 (Or.inr (slot_ne (a0 := a0) (Or.inr (hw _ (List.mem_of_getElem? (i := 17) rfl))) (Or.inl (hw _ (List.mem_of_getElem? (i := 19) rfl))) (by decide) (t := (.array .byte)) (by decide) (t' := .int) (by decide)))
  replace F_d_at := F_d_at.same Wr51
  replace F_d_end := F_d_end.other Wr51 (Or.inr (slot_ne (a0 := a0) (Or.inr (hw _ (List.mem_of_getElem? (i := 21) rfl))) (Or.inl (hw _ (List.mem_of_getElem? (i := 19) rfl))) (by decide) (t := .int) (by decide) (t' := .int) (by decide)))
  replace hn0 : n0 ≤ h50.size := Nat.le_trans hn0 K52.1
  rw [show ((1 : Int32) + (1 : Int32)) = (2 : Int32) from by decide] at F_d_at
  refine own_baload (pc' := 27) (v := .int (-125 : Int32)) A_r (by decide) hw1 d7_26 rfl ?_
  refine own_sipush (255 : Int32) (pc' := 30) d7_27 rfl rfl ?_
  refine own_iand (pc' := 31) d7_30 rfl ?_
  refine own_istoreN (pc' := 32) (Ls' := #[.val (.ref d), .val (.int ((-125 : Int32) &&& (255 : Int32))), .unset, .unset, .unset, .unset]) d7_31 rfl rfl ?_
  refine own_iloadN (pc' := 33) d7_32 rfl rfl ?_
  refine own_sipush (128 : Int32) (pc' := 36) d7_33 rfl rfl ?_
  refine own_ic_ge_t (pc' := 41) d7_36 (by decide) (by decide) (by decide) ?_
  refine own_iloadN (pc' := 42) d7_41 rfl rfl ?_
  refine own_bipush (127 : Int32) (pc' := 44) d7_42 rfl rfl ?_
  refine own_iand (pc' := 45) d7_44 rfl ?_
  rw [show (((-125 : Int32) &&& (255 : Int32)) &&& (127 : Int32)) = (3 : Int32) from (by decide)]
  refine own_istoreN (pc' := 46) (Ls' := #[.val (.ref d), .val (.int ((-125 : Int32) &&& (255 : Int32))), .val (.int (3 : Int32)), .unset, .unset, .unset]) d7_45 rfl rfl ?_
  refine own_iloadN (pc' := 47) d7_46 rfl rfl ?_
  refine own_if_ne_t (pc' := 60) d7_47 (by decide) (by decide) (by decide) ?_
  refine own_iloadN (pc' := 61) d7_60 rfl rfl ?_
  refine own_iconst (4 : Int32) (pc' := 62) d7_61 rfl rfl ?_
  refine own_ic_gt_f (pc' := 65) d7_62 (by decide) rfl ?_
  refine own_iloadN (pc' := 66) d7_65 rfl rfl ?_
  refine own_aloadN (pc' := 67) d7_66 rfl rfl ?_
  refine own_getF (pc' := 70) (hw _ (List.mem_of_getElem? (i := 20) rfl)) F_d_end d7_67 rfl ?_
  refine own_aloadN (pc' := 71) d7_70 rfl rfl ?_
  refine own_getF (pc' := 74) (hw _ (List.mem_of_getElem? (i := 18) rfl)) F_d_at d7_71 rfl ?_
  refine own_isub (pc' := 75) d7_74 rfl ?_
  refine own_ic_le_t (pc' := 82) d7_75 hfits (by decide) (by decide) ?_
  refine own_lconst (0 : Int64) (pc' := 83) d7_82 rfl rfl ?_
  refine own_lstoreN (pc' := 84) (Ls' := #[.val (.ref d), .val (.int ((-125 : Int32) &&& (255 : Int32))), .val (.int (3 : Int32)), .val (.long (0 : Int64)), .second, .unset]) d7_83 rfl rfl ?_
  refine own_iconst (0 : Int32) (pc' := 85) d7_84 rfl rfl ?_
  refine own_istore (pc' := 87) (Ls' := #[.val (.ref d), .val (.int ((-125 : Int32) &&& (255 : Int32))), .val (.int (3 : Int32)), .val (.long (0 : Int64)), .second, .val (.int (0 : Int32))]) d7_85 rfl rfl ?_
  refine own_iload (pc' := 89) d7_87 rfl rfl ?_
  refine own_iloadN (pc' := 90) d7_89 rfl rfl ?_
  refine own_ic_ge_f (pc' := 93) d7_90 (by decide) rfl ?_
  refine own_lloadN (pc' := 94) d7_93 rfl rfl ?_
  refine own_bipush (8 : Int32) (pc' := 96) d7_94 rfl rfl ?_
  refine own_lshl (pc' := 97) d7_96 rfl ?_
  refine own_aloadN (pc' := 98) d7_97 rfl rfl ?_
  refine own_getF (pc' := 101) (hw _ (List.mem_of_getElem? (i := 16) rfl)) F_d_bytes d7_98 rfl ?_
  refine own_aloadN (pc' := 102) d7_101 rfl rfl ?_
  refine own_dup (pc' := 103) d7_102 rfl rfl ?_
  refine own_getF (pc' := 106) (hw _ (List.mem_of_getElem? (i := 18) rfl)) F_d_at d7_103 rfl ?_
  refine own_dupX1 (pc' := 107) d7_106 rfl rfl rfl ?_
  refine own_iconst (1 : Int32) (pc' := 108) d7_107 rfl rfl ?_
  refine own_iadd (pc' := 109) d7_108 rfl ?_
  refine own_putF (pc' := 112) (hw _ (List.mem_of_getElem? (i := 18) rfl)) F_d_at E_d (Or.inl (hw _ (List.mem_of_getElem? (i := 19) rfl))) (hw _ (List.mem_of_getElem? (i := 9) rfl)) ge_d (ty := .int) (by decide) rfl rfl d7_109 rfl (fun h53 Wr54 K55 => ?_)
  replace A_r := A_r.keep K55 (ninS (Ne.symm ne_d_r) nin0)
  replace E_d := E_d.wr Wr54
  replace F_d_bytes := F_d_bytes.other Wr54 (Or.inr (slot_ne (a0 := a0) (Or.inr (hw _ (List.mem_of_getElem? (i := 17) rfl))) (Or.inl (hw _ (List.mem_of_getElem? (i := 19) rfl))) (by decide) (t := (.array .byte)) (by decide) (t' := .int) (by decide)))
  replace F_d_at := F_d_at.same Wr54
  replace F_d_end := F_d_end.other Wr54 (Or.inr (slot_ne (a0 := a0) (Or.inr (hw _ (List.mem_of_getElem? (i := 21) rfl))) (Or.inl (hw _ (List.mem_of_getElem? (i := 19) rfl))) (by decide) (t := .int) (by decide) (t' := .int) (by decide)))
  replace hn0 : n0 ≤ h53.size := Nat.le_trans hn0 K55.1
  rw [show ((2 : Int32) + (1 : Int32)) = (3 : Int32) from by decide] at F_d_at
  refine own_baload (pc' := 113) (v := .int y0) A_r (by decide) hy0 d7_112 rfl ?_
  refine own_sipush (255 : Int32) (pc' := 116) d7_113 rfl rfl ?_
  refine own_iand (pc' := 117) d7_116 rfl ?_
  refine own_i2l (pc' := 118) d7_117 rfl ?_
  refine own_lor (pc' := 119) d7_118 rfl ?_
  rw [show (((0 : Int64) <<< ((8 : Int32).toInt64 &&& 63)) ||| ((y0 &&& (255 : Int32)).toInt64)) = (own_v1 y0) from rfl]
  refine own_lstoreN (pc' := 120) (Ls' := #[.val (.ref d), .val (.int ((-125 : Int32) &&& (255 : Int32))), .val (.int (3 : Int32)), .val (.long (own_v1 y0)), .second, .val (.int (0 : Int32))]) d7_119 rfl rfl ?_
  refine own_iinc (pc' := 123) (w := (1 : Int32)) (Ls' := #[.val (.ref d), .val (.int ((-125 : Int32) &&& (255 : Int32))), .val (.int (3 : Int32)), .val (.long (own_v1 y0)), .second, .val (.int ((0 : Int32) + (1 : Int32)))]) d7_120 rfl rfl rfl rfl ?_
  rw [show ((0 : Int32) + (1 : Int32)) = (1 : Int32) from (by decide)]
  refine own_goto (pc' := 87) d7_123 (by decide) (by decide) ?_
  refine own_iload (pc' := 89) d7_87 rfl rfl ?_
  refine own_iloadN (pc' := 90) d7_89 rfl rfl ?_
  refine own_ic_ge_f (pc' := 93) d7_90 (by decide) rfl ?_
  refine own_lloadN (pc' := 94) d7_93 rfl rfl ?_
  refine own_bipush (8 : Int32) (pc' := 96) d7_94 rfl rfl ?_
  refine own_lshl (pc' := 97) d7_96 rfl ?_
  refine own_aloadN (pc' := 98) d7_97 rfl rfl ?_
  refine own_getF (pc' := 101) (hw _ (List.mem_of_getElem? (i := 16) rfl)) F_d_bytes d7_98 rfl ?_
  refine own_aloadN (pc' := 102) d7_101 rfl rfl ?_
  refine own_dup (pc' := 103) d7_102 rfl rfl ?_
  refine own_getF (pc' := 106) (hw _ (List.mem_of_getElem? (i := 18) rfl)) F_d_at d7_103 rfl ?_
  refine own_dupX1 (pc' := 107) d7_106 rfl rfl rfl ?_
  refine own_iconst (1 : Int32) (pc' := 108) d7_107 rfl rfl ?_
  refine own_iadd (pc' := 109) d7_108 rfl ?_
  refine own_putF (pc' := 112) (hw _ (List.mem_of_getElem? (i := 18) rfl)) F_d_at E_d (Or.inl (hw _ (List.mem_of_getElem? (i := 19) rfl))) (hw _ (List.mem_of_getElem? (i := 9) rfl)) ge_d (ty := .int) (by decide) rfl rfl d7_109 rfl (fun h56 Wr57 K58 => ?_)
  replace A_r := A_r.keep K58 (ninS (Ne.symm ne_d_r) nin0)
  replace E_d := E_d.wr Wr57
  replace F_d_bytes := F_d_bytes.other Wr57 (Or.inr (slot_ne (a0 := a0) (Or.inr (hw _ (List.mem_of_getElem? (i := 17) rfl))) (Or.inl (hw _ (List.mem_of_getElem? (i := 19) rfl))) (by decide) (t := (.array .byte)) (by decide) (t' := .int) (by decide)))
  replace F_d_at := F_d_at.same Wr57
  replace F_d_end := F_d_end.other Wr57 (Or.inr (slot_ne (a0 := a0) (Or.inr (hw _ (List.mem_of_getElem? (i := 21) rfl))) (Or.inl (hw _ (List.mem_of_getElem? (i := 19) rfl))) (by decide) (t := .int) (by decide) (t' := .int) (by decide)))
  replace hn0 : n0 ≤ h56.size := Nat.le_trans hn0 K58.1
  rw [show ((3 : Int32) + (1 : Int32)) = (4 : Int32) from by decide] at F_d_at
  refine own_baload (pc' := 113) (v := .int y1) A_r (by decide) hy1 d7_112 rfl ?_
  refine own_sipush (255 : Int32) (pc' := 116) d7_113 rfl rfl ?_
  refine own_iand (pc' := 117) d7_116 rfl ?_
  refine own_i2l (pc' := 118) d7_117 rfl ?_
  refine own_lor (pc' := 119) d7_118 rfl ?_
  rw [show (((own_v1 y0) <<< ((8 : Int32).toInt64 &&& 63)) ||| ((y1 &&& (255 : Int32)).toInt64)) = (own_v2 y0 y1) from rfl]
  refine own_lstoreN (pc' := 120) (Ls' := #[.val (.ref d), .val (.int ((-125 : Int32) &&& (255 : Int32))), .val (.int (3 : Int32)), .val (.long (own_v2 y0 y1)), .second, .val (.int (1 : Int32))]) d7_119 rfl rfl ?_
  refine own_iinc (pc' := 123) (w := (1 : Int32)) (Ls' := #[.val (.ref d), .val (.int ((-125 : Int32) &&& (255 : Int32))), .val (.int (3 : Int32)), .val (.long (own_v2 y0 y1)), .second, .val (.int ((1 : Int32) + (1 : Int32)))]) d7_120 rfl rfl rfl rfl ?_
  rw [show ((1 : Int32) + (1 : Int32)) = (2 : Int32) from (by decide)]
  refine own_goto (pc' := 87) d7_123 (by decide) (by decide) ?_
  refine own_iload (pc' := 89) d7_87 rfl rfl ?_
  refine own_iloadN (pc' := 90) d7_89 rfl rfl ?_
  refine own_ic_ge_f (pc' := 93) d7_90 (by decide) rfl ?_
  refine own_lloadN (pc' := 94) d7_93 rfl rfl ?_
  refine own_bipush (8 : Int32) (pc' := 96) d7_94 rfl rfl ?_
  refine own_lshl (pc' := 97) d7_96 rfl ?_
  refine own_aloadN (pc' := 98) d7_97 rfl rfl ?_
  refine own_getF (pc' := 101) (hw _ (List.mem_of_getElem? (i := 16) rfl)) F_d_bytes d7_98 rfl ?_
  refine own_aloadN (pc' := 102) d7_101 rfl rfl ?_
  refine own_dup (pc' := 103) d7_102 rfl rfl ?_
  refine own_getF (pc' := 106) (hw _ (List.mem_of_getElem? (i := 18) rfl)) F_d_at d7_103 rfl ?_
  refine own_dupX1 (pc' := 107) d7_106 rfl rfl rfl ?_
  refine own_iconst (1 : Int32) (pc' := 108) d7_107 rfl rfl ?_
  refine own_iadd (pc' := 109) d7_108 rfl ?_
  refine own_putF (pc' := 112) (hw _ (List.mem_of_getElem? (i := 18) rfl)) F_d_at E_d (Or.inl (hw _ (List.mem_of_getElem? (i := 19) rfl))) (hw _ (List.mem_of_getElem? (i := 9) rfl)) ge_d (ty := .int) (by decide) rfl rfl d7_109 rfl (fun h59 Wr60 K61 => ?_)
  replace A_r := A_r.keep K61 (ninS (Ne.symm ne_d_r) nin0)
  replace E_d := E_d.wr Wr60
  replace F_d_bytes := F_d_bytes.other Wr60 (Or.inr (slot_ne (a0 := a0) (Or.inr (hw _ (List.mem_of_getElem? (i := 17) rfl))) (Or.inl (hw _ (List.mem_of_getElem? (i := 19) rfl))) (by decide) (t := (.array .byte)) (by decide) (t' := .int) (by decide)))
  replace F_d_at := F_d_at.same Wr60
  replace F_d_end := F_d_end.other Wr60 (Or.inr (slot_ne (a0 := a0) (Or.inr (hw _ (List.mem_of_getElem? (i := 21) rfl))) (Or.inl (hw _ (List.mem_of_getElem? (i := 19) rfl))) (by decide) (t := .int) (by decide) (t' := .int) (by decide)))
  replace hn0 : n0 ≤ h59.size := Nat.le_trans hn0 K61.1
  rw [show ((4 : Int32) + (1 : Int32)) = (5 : Int32) from by decide] at F_d_at
  refine own_baload (pc' := 113) (v := .int y2) A_r (by decide) hy2 d7_112 rfl ?_
  refine own_sipush (255 : Int32) (pc' := 116) d7_113 rfl rfl ?_
  refine own_iand (pc' := 117) d7_116 rfl ?_
  refine own_i2l (pc' := 118) d7_117 rfl ?_
  refine own_lor (pc' := 119) d7_118 rfl ?_
  rw [show (((own_v2 y0 y1) <<< ((8 : Int32).toInt64 &&& 63)) ||| ((y2 &&& (255 : Int32)).toInt64)) = (own_v3 y0 y1 y2) from rfl]
  refine own_lstoreN (pc' := 120) (Ls' := #[.val (.ref d), .val (.int ((-125 : Int32) &&& (255 : Int32))), .val (.int (3 : Int32)), .val (.long (own_v3 y0 y1 y2)), .second, .val (.int (2 : Int32))]) d7_119 rfl rfl ?_
  refine own_iinc (pc' := 123) (w := (1 : Int32)) (Ls' := #[.val (.ref d), .val (.int ((-125 : Int32) &&& (255 : Int32))), .val (.int (3 : Int32)), .val (.long (own_v3 y0 y1 y2)), .second, .val (.int ((2 : Int32) + (1 : Int32)))]) d7_120 rfl rfl rfl rfl ?_
  rw [show ((2 : Int32) + (1 : Int32)) = (3 : Int32) from (by decide)]
  refine own_goto (pc' := 87) d7_123 (by decide) (by decide) ?_
  refine own_iload (pc' := 89) d7_87 rfl rfl ?_
  refine own_iloadN (pc' := 90) d7_89 rfl rfl ?_
  refine own_ic_ge_t (pc' := 126) d7_90 (by decide) (by decide) (by decide) ?_
  refine own_lloadN (pc' := 127) d7_126 rfl rfl ?_
  refine own_ldc2 (pc' := 130) (u := (128 : Int64)) (hw _ (List.mem_of_getElem? (i := 36) rfl)) d7_127 rfl ?_
  refine own_lcmp (pc' := 131) d7_130 rfl ?_
  refine own_il_lt_f (pc' := 134) d7_131 h128 rfl ?_
  refine own_lloadN (pc' := 135) d7_134 rfl rfl ?_
  refine own_bipush (8 : Int32) (pc' := 137) d7_135 rfl rfl ?_
  refine own_iloadN (pc' := 138) d7_137 rfl rfl ?_
  refine own_iconst (1 : Int32) (pc' := 139) d7_138 rfl rfl ?_
  refine own_isub (pc' := 140) d7_139 rfl ?_
  refine own_imul (pc' := 141) d7_140 rfl ?_
  refine own_lshr (pc' := 142) d7_141 rfl ?_
  refine own_lconst (0 : Int64) (pc' := 143) d7_142 rfl rfl ?_
  refine own_lcmp (pc' := 144) d7_143 rfl ?_
  refine own_il_eq_f (pc' := 147) d7_144 hmin rfl ?_
  refine own_iconst (1 : Int32) (pc' := 148) d7_147 rfl rfl ?_
  refine own_goto (pc' := 152) d7_148 (by decide) (by decide) ?_
  refine own_istore (pc' := 154) (Ls' := #[.val (.ref d), .val (.int ((-125 : Int32) &&& (255 : Int32))), .val (.int (3 : Int32)), .val (.long (own_v3 y0 y1 y2)), .second, .val (.int (1 : Int32))]) d7_152 rfl rfl ?_
  refine own_iload (pc' := 156) d7_154 rfl rfl ?_
  refine own_if_ne_t (pc' := 169) d7_156 (by decide) (by decide) (by decide) ?_
  refine own_lloadN (pc' := 170) d7_169 rfl rfl ?_
  refine own_ldc2 (pc' := 173) (u := (2147483647 : Int64)) (hw _ (List.mem_of_getElem? (i := 37) rfl)) d7_170 rfl ?_
  refine own_lcmp (pc' := 174) d7_173 rfl ?_
  refine own_il_le_t (pc' := 181) d7_174 hmax (by decide) (by decide) ?_
  refine own_lloadN (pc' := 182) d7_181 rfl rfl ?_
  refine own_l2i (pc' := 183) d7_182 rfl ?_
  exact own_iret rfl d7_183 ⟨by rw [hL], (((((Keep.refl h0 [d]).trans K52 (fun x hx => Or.inl hx)).trans K55 (fun x hx => Or.inl hx)).trans K58 (fun x hx => Or.inl hx)).trans K61 (fun x hx => Or.inl hx)), E_d, F_d_bytes, F_d_at, F_d_end⟩
set_option maxRecDepth 65536 in
set_option maxHeartbeats 40000000 in
theorem own_next0 (l : Launch) (Z : State) (a0 : Array Value) (hw : ∀ d ∈ tables_1, d.before a0 Z = true) (d r : Addr) (vs : List Value) (e L t0 : Int32) (w : Int32) (h0 : Heap) (n0 : Nat) (hn0 : n0 ≤ h0.size) (hw1 : vs[(1 : Int32).toNatClampNeg]? = some (.int w)) (hs : (w &&& 255) < 128) (hL : (w &&& 255) = L) (hne0 : ¬ (0 : Int32) = e) (hne : ¬ (1 : Int32) = e) (ht0 : vs[(0 : Int32).toNatClampNeg]? = some (.int t0)) (htag : ¬ ((t0 &&& 255) &&& 31) = 31) (hfit : ¬ e - (2 : Int32) < L) (ne_d_r : d ≠ r) (ge_d : n0 ≤ d) (A_r : own_A Z h0 r .byte vs) (E_d : Exa Z h0 d "com/example/befugnis/befugnis/Der") (F_d_bytes : Fld Z h0 d "com/example/befugnis/befugnis/Der" "bytes" "[B" (.ref r)) (F_d_at : Fld Z h0 d "com/example/befugnis/befugnis/Der" "at" "I" (.int 0)) (F_d_end : Fld Z h0 d "com/example/befugnis/befugnis/Der" "end" "I" (.int e)) :
    own_W l Z (⟨"com/example/befugnis/befugnis/Der", "next", "()Lcom/example/befugnis/befugnis/Der$Value;"⟩ : MethodName) prog_9_method_6_code 4 (some (.object "com/example/befugnis/befugnis/Der$Value")) ({ frames := 2, cells := 1, slots := 5, locals := 30 } : Room) n0 (fun v h => ∃ o : Addr, v = some (.ref o) ∧ h0.size ≤ o ∧ Keep h0 h [d] ∧ Exa Z h d "com/example/befugnis/befugnis/Der" ∧ Fld Z h d "com/example/befugnis/befugnis/Der" "bytes" "[B" (.ref r) ∧ Fld Z h d "com/example/befugnis/befugnis/Der" "at" "I" (.int ((2 : Int32) + L)) ∧ Fld Z h d "com/example/befugnis/befugnis/Der" "end" "I" (.int e) ∧ Exa Z h o "com/example/befugnis/befugnis/Der$Value" ∧ Fld Z h o "com/example/befugnis/befugnis/Der$Value" "bytes" "[B" (.ref r) ∧ Fld Z h o "com/example/befugnis/befugnis/Der$Value" "tag" "I" (.int (t0 &&& 255)) ∧ Fld Z h o "com/example/befugnis/befugnis/Der$Value" "start" "I" (.int 0) ∧ Fld Z h o "com/example/befugnis/befugnis/Der$Value" "contentStart" "I" (.int (((2 : Int32) + L) - L)) ∧ Fld Z h o "com/example/befugnis/befugnis/Der$Value" "end" "I" (.int ((2 : Int32) + L))) h0 0 0 0 #[.val (.ref d), .unset, .unset, .unset] [] := by
  refine own_aloadN (pc' := 1) d5_0 rfl rfl ?_
  refine own_virtual (own_aeW l Z a0 hw d r 0 e h0 n0 hn0 E_d F_d_bytes F_d_at F_d_end) E_d (hw _ (List.mem_of_getElem? (i := 27) rfl)) (hw _ (List.mem_of_getElem? (i := 28) rfl)) (hw _ (List.mem_of_getElem? (i := 30) rfl)) (hw _ (List.mem_of_getElem? (i := 29) rfl)) (hw _ (List.mem_of_getElem? (i := 3) rfl)) (hw _ (List.mem_of_getElem? (i := 31) rfl)) (plainFor_of_name own_pn1) (by decide) own_pd6 rfl (argsL := []) (rest := []) rfl rfl (W := 0) (Nat.le_refl _) (by decide) (by decide) (by decide) (by decide) rfl d5_1 (pc' := 4) rfl (fun v_ h62 hq => ?_)
  obtain ⟨rfl, rfl⟩ := hq
  show own_W l Z (⟨"com/example/befugnis/befugnis/Der", "next", "()Lcom/example/befugnis/befugnis/Der$Value;"⟩ : MethodName) prog_9_method_6_code 4 (some (.object "com/example/befugnis/befugnis/Der$Value")) ({ frames := 2, cells := 1, slots := 5, locals := 30 } : Room) n0 (fun v h => ∃ o : Addr, v = some (.ref o) ∧ h0.size ≤ o ∧ Keep h0 h [d] ∧ Exa Z h d "com/example/befugnis/befugnis/Der" ∧ Fld Z h d "com/example/befugnis/befugnis/Der" "bytes" "[B" (.ref r) ∧ Fld Z h d "com/example/befugnis/befugnis/Der" "at" "I" (.int ((2 : Int32) + L)) ∧ Fld Z h d "com/example/befugnis/befugnis/Der" "end" "I" (.int e) ∧ Exa Z h o "com/example/befugnis/befugnis/Der$Value" ∧ Fld Z h o "com/example/befugnis/befugnis/Der$Value" "bytes" "[B" (.ref r) ∧ Fld Z h o "com/example/befugnis/befugnis/Der$Value" "tag" "I" (.int (t0 &&& 255)) ∧ Fld Z h o "com/example/befugnis/befugnis/Der$Value" "start" "I" (.int 0) ∧ Fld Z h o "com/example/befugnis/befugnis/Der$Value" "contentStart" "I" (.int (((2 : Int32) + L) - L)) ∧ Fld Z h o "com/example/befugnis/befugnis/Der$Value" "end" "I" (.int ((2 : Int32) + L))) h0 0 0 4 #[.val (.ref d), .unset, .unset, .unset] [.int (own_ae (0 : Int32) e)]
  refine own_if_eq_t (pc' := 17) d5_4 (own_ae0 hne0) (by decide) (by decide) ?_
  refine own_aloadN (pc' := 18) d5_17 rfl rfl ?_
  refine own_getF (pc' := 21) (hw _ (List.mem_of_getElem? (i := 18) rfl)) F_d_at d5_18 rfl ?_
  refine own_istoreN (pc' := 22) (Ls' := #[.val (.ref d), .val (.int (0 : Int32)), .unset, .unset]) d5_21 rfl rfl ?_
  refine own_aloadN (pc' := 23) d5_22 rfl rfl ?_
  refine own_getF (pc' := 26) (hw _ (List.mem_of_getElem? (i := 16) rfl)) F_d_bytes d5_23 rfl ?_
  refine own_aloadN (pc' := 27) d5_26 rfl rfl ?_
  refine own_dup (pc' := 28) d5_27 rfl rfl ?_
  refine own_getF (pc' := 31) (hw _ (List.mem_of_getElem? (i := 18) rfl)) F_d_at d5_28 rfl ?_
  refine own_dupX1 (pc' := 32) d5_31 rfl rfl rfl ?_
  refine own_iconst (1 : Int32) (pc' := 33) d5_32 rfl rfl ?_
  refine own_iadd (pc' := 34) d5_33 rfl ?_
  refine own_putF (pc' := 37) (hw _ (List.mem_of_getElem? (i := 18) rfl)) F_d_at E_d (Or.inl (hw _ (List.mem_of_getElem? (i := 19) rfl))) (hw _ (List.mem_of_getElem? (i := 9) rfl)) ge_d (ty := .int) (by decide) rfl rfl d5_34 rfl (fun h63 Wr64 K65 => ?_)
  replace A_r := A_r.keep K65 (ninS (Ne.symm ne_d_r) nin0)
  replace E_d := E_d.wr Wr64
  replace F_d_bytes := F_d_bytes.other Wr64 (Or.inr (slot_ne (a0 := a0) (Or.inr (hw _ (List.mem_of_getElem? (i := 17) rfl))) (Or.inl (hw _ (List.mem_of_getElem? (i := 19) rfl))) (by decide) (t := (.array .byte)) (by decide) (t' := .int) (by decide)))
  replace F_d_at := F_d_at.same Wr64
  replace F_d_end := F_d_end.other Wr64 (Or.inr (slot_ne (a0 := a0) (Or.inr (hw _ (List.mem_of_getElem? (i := 21) rfl))) (Or.inl (hw _ (List.mem_of_getElem? (i := 19) rfl))) (by decide) (t := .int) (by decide) (t' := .int) (by decide)))
  replace hn0 : n0 ≤ h63.size := Nat.le_trans hn0 K65.1
  replace F_d_at : Fld Z h63 d "com/example/befugnis/befugnis/Der" "at" "I" (.int (1 : Int32)) := F_d_at
  refine own_baload (pc' := 38) (v := .int t0) A_r (by decide) ht0 d5_37 rfl ?_
  refine own_sipush (255 : Int32) (pc' := 41) d5_38 rfl rfl ?_
  refine own_iand (pc' := 42) d5_41 rfl ?_
  refine own_istoreN (pc' := 43) (Ls' := #[.val (.ref d), .val (.int (0 : Int32)), .val (.int (t0 &&& (255 : Int32))), .unset]) d5_42 rfl rfl ?_
  refine own_iloadN (pc' := 44) d5_43 rfl rfl ?_
  refine own_bipush (31 : Int32) (pc' := 46) d5_44 rfl rfl ?_
  refine own_iand (pc' := 47) d5_46 rfl ?_
  refine own_bipush (31 : Int32) (pc' := 49) d5_47 rfl rfl ?_
  refine own_ic_ne_t (pc' := 62) d5_49 htag (by decide) (by decide) ?_
  refine own_aloadN (pc' := 63) d5_62 rfl rfl ?_
  refine own_private (own_rl0 l Z a0 hw d r vs e L w h63 n0 hn0 hw1 hs hL hne ne_d_r ge_d A_r E_d F_d_bytes F_d_at F_d_end) E_d (hw _ (List.mem_of_getElem? (i := 32) rfl)) (hw _ (List.mem_of_getElem? (i := 33) rfl)) (hw _ (List.mem_of_getElem? (i := 34) rfl)) (hw _ (List.mem_of_getElem? (i := 9) rfl)) (hw _ (List.mem_of_getElem? (i := 3) rfl)) (hw _ (List.mem_of_getElem? (i := 35) rfl)) (plainFor_of_name own_pn1) (by decide) own_pd7 rfl (argsL := []) (rest := []) rfl rfl (W := 0) (Nat.le_refl _) (by decide) (by decide) (by decide) (by decide) rfl d5_63 (pc' := 66) rfl (fun v_ h66 hq => ?_)
  obtain ⟨rfl, K_1, E_1, F_1, F_2, F_3⟩ := hq
  show own_W l Z (⟨"com/example/befugnis/befugnis/Der", "next", "()Lcom/example/befugnis/befugnis/Der$Value;"⟩ : MethodName) prog_9_method_6_code 4 (some (.object "com/example/befugnis/befugnis/Der$Value")) ({ frames := 2, cells := 1, slots := 5, locals := 30 } : Room) n0 (fun v h => ∃ o : Addr, v = some (.ref o) ∧ h0.size ≤ o ∧ Keep h0 h [d] ∧ Exa Z h d "com/example/befugnis/befugnis/Der" ∧ Fld Z h d "com/example/befugnis/befugnis/Der" "bytes" "[B" (.ref r) ∧ Fld Z h d "com/example/befugnis/befugnis/Der" "at" "I" (.int ((2 : Int32) + L)) ∧ Fld Z h d "com/example/befugnis/befugnis/Der" "end" "I" (.int e) ∧ Exa Z h o "com/example/befugnis/befugnis/Der$Value" ∧ Fld Z h o "com/example/befugnis/befugnis/Der$Value" "bytes" "[B" (.ref r) ∧ Fld Z h o "com/example/befugnis/befugnis/Der$Value" "tag" "I" (.int (t0 &&& 255)) ∧ Fld Z h o "com/example/befugnis/befugnis/Der$Value" "start" "I" (.int 0) ∧ Fld Z h o "com/example/befugnis/befugnis/Der$Value" "contentStart" "I" (.int (((2 : Int32) + L) - L)) ∧ Fld Z h o "com/example/befugnis/befugnis/Der$Value" "end" "I" (.int ((2 : Int32) + L))) h66 0 0 66 #[.val (.ref d), .val (.int (0 : Int32)), .val (.int (t0 &&& (255 : Int32))), .unset] [.int L]
  replace A_r := A_r.keep K_1 (ninS (Ne.symm ne_d_r) nin0)
  replace E_d := E_1
  replace F_d_bytes := F_1
  replace F_d_at := F_2
  replace F_d_end := F_3
  replace hn0 : n0 ≤ h66.size := Nat.le_trans hn0 K_1.1
  refine own_istoreN (pc' := 67) (Ls' := #[.val (.ref d), .val (.int (0 : Int32)), .val (.int (t0 &&& (255 : Int32))), .val (.int L)]) d5_66 rfl rfl ?_
  refine own_iloadN (pc' := 68) d5_67 rfl rfl ?_
  refine own_aloadN (pc' := 69) d5_68 rfl rfl ?_
  refine own_getF (pc' := 72) (hw _ (List.mem_of_getElem? (i := 20) rfl)) F_d_end d5_69 rfl ?_
  refine own_aloadN (pc' := 73) d5_72 rfl rfl ?_
  refine own_getF (pc' := 76) (hw _ (List.mem_of_getElem? (i := 18) rfl)) F_d_at d5_73 rfl ?_
  refine own_isub (pc' := 77) d5_76 rfl ?_
  refine own_ic_le_t (pc' := 84) d5_77 hfit (by decide) (by decide) ?_
  refine own_aloadN (pc' := 85) d5_84 rfl rfl ?_
  refine own_dup (pc' := 86) d5_85 rfl rfl ?_
  refine own_getF (pc' := 89) (hw _ (List.mem_of_getElem? (i := 18) rfl)) F_d_at d5_86 rfl ?_
  refine own_iloadN (pc' := 90) d5_89 rfl rfl ?_
  refine own_iadd (pc' := 91) d5_90 rfl ?_
  refine own_putF (pc' := 94) (hw _ (List.mem_of_getElem? (i := 18) rfl)) F_d_at E_d (Or.inl (hw _ (List.mem_of_getElem? (i := 19) rfl))) (hw _ (List.mem_of_getElem? (i := 9) rfl)) ge_d (ty := .int) (by decide) rfl rfl d5_91 rfl (fun h67 Wr68 K69 => ?_)
  replace A_r := A_r.keep K69 (ninS (Ne.symm ne_d_r) nin0)
  replace E_d := E_d.wr Wr68
  replace F_d_bytes := F_d_bytes.other Wr68 (Or.inr (slot_ne (a0 := a0) (Or.inr (hw _ (List.mem_of_getElem? (i := 17) rfl))) (Or.inl (hw _ (List.mem_of_getElem? (i := 19) rfl))) (by decide) (t := (.array .byte)) (by decide) (t' := .int) (by decide)))
  replace F_d_at := F_d_at.same Wr68
  replace F_d_end := F_d_end.other Wr68 (Or.inr (slot_ne (a0 := a0) (Or.inr (hw _ (List.mem_of_getElem? (i := 21) rfl))) (Or.inl (hw _ (List.mem_of_getElem? (i := 19) rfl))) (by decide) (t := .int) (by decide) (t' := .int) (by decide)))
  replace hn0 : n0 ≤ h67.size := Nat.le_trans hn0 K69.1
  refine own_new (pc' := 97) (hw _ (List.mem_of_getElem? (i := 38) rfl)) (hw _ (List.mem_of_getElem? (i := 39) rfl)) (hw _ (List.mem_of_getElem? (i := 40) rfl)) d5_94 rfl (by decide) (by decide) (fun h70 o gt_o lt_o E71 E_o D_o => ?_)
  have ge_o : n0 ≤ o := Nat.le_trans hn0 gt_o
  have ne_d_o : d ≠ o := Nat.ne_of_lt (by have q := Nat.lt_of_lt_of_le E_d.lt (Nat.le_refl _); omega)
  have ne_r_o : r ≠ o := Nat.ne_of_lt (by have q := Nat.lt_of_lt_of_le A_r.lt (Nat.le_refl _); omega)
  replace A_r := A_r.ext E71
  replace E_d := E_d.ext E71
  replace F_d_bytes := F_d_bytes.ext E71
  replace F_d_at := F_d_at.ext E71
  replace F_d_end := F_d_end.ext E71
  replace hn0 : n0 ≤ h70.size := Nat.le_trans hn0 E71.1
  have F_o_bytes : Fld Z h70 o "com/example/befugnis/befugnis/Der$Value" "bytes" "[B" (.null) := D_o (Or.inr (hw _ (List.mem_of_getElem? (i := 46) rfl))) (ty := (.array .byte)) (by decide)
  have F_o_tag : Fld Z h70 o "com/example/befugnis/befugnis/Der$Value" "tag" "I" (.int (0 : Int32)) := D_o (Or.inr (hw _ (List.mem_of_getElem? (i := 48) rfl))) (ty := .int) (by decide)
  have F_o_start : Fld Z h70 o "com/example/befugnis/befugnis/Der$Value" "start" "I" (.int (0 : Int32)) := D_o (Or.inr (hw _ (List.mem_of_getElem? (i := 50) rfl))) (ty := .int) (by decide)
  have F_o_contentStart : Fld Z h70 o "com/example/befugnis/befugnis/Der$Value" "contentStart" "I" (.int (0 : Int32)) := D_o (Or.inr (hw _ (List.mem_of_getElem? (i := 52) rfl))) (ty := .int) (by decide)
  have F_o_end : Fld Z h70 o "com/example/befugnis/befugnis/Der$Value" "end" "I" (.int (0 : Int32)) := D_o (Or.inr (hw _ (List.mem_of_getElem? (i := 54) rfl))) (ty := .int) (by decide)
  have gt0_o : h0.size ≤ o := Nat.le_trans ((((Keep.refl h0 [d]).trans K65 (fun x hx => Or.inl hx)).trans K_1 (fun x hx => Or.inl hx)).trans K69 (fun x hx => Or.inl hx)).1 gt_o
  refine own_dup (pc' := 98) d5_97 rfl rfl ?_
  refine own_aloadN (pc' := 99) d5_98 rfl rfl ?_
  refine own_getF (pc' := 102) (hw _ (List.mem_of_getElem? (i := 16) rfl)) F_d_bytes d5_99 rfl ?_
  refine own_iloadN (pc' := 103) d5_102 rfl rfl ?_
  refine own_iloadN (pc' := 104) d5_103 rfl rfl ?_
  refine own_aloadN (pc' := 105) d5_104 rfl rfl ?_
  refine own_getF (pc' := 108) (hw _ (List.mem_of_getElem? (i := 18) rfl)) F_d_at d5_105 rfl ?_
  refine own_iloadN (pc' := 109) d5_108 rfl rfl ?_
  refine own_isub (pc' := 110) d5_109 rfl ?_
  refine own_aloadN (pc' := 111) d5_110 rfl rfl ?_
  refine own_getF (pc' := 114) (hw _ (List.mem_of_getElem? (i := 18) rfl)) F_d_at d5_111 rfl ?_
  refine own_specialRef (ret' := none) (own_mkVal l Z a0 hw o r (t0 &&& 255) 0 (((2 : Int32) + L) - L) ((2 : Int32) + L) h70 n0 hn0 ge_o E_o F_o_bytes F_o_tag F_o_start F_o_contentStart F_o_end) (hw _ (List.mem_of_getElem? (i := 41) rfl)) (hw _ (List.mem_of_getElem? (i := 42) rfl)) (hw _ (List.mem_of_getElem? (i := 40) rfl)) (hw _ (List.mem_of_getElem? (i := 43) rfl)) rfl (plainFor_of_name own_pn3) (by decide) own_pd8 rfl (argsL := [.ref r, .int (t0 &&& (255 : Int32)), .int (0 : Int32), .int (((2 : Int32) + L) - L), .int ((2 : Int32) + L)]) (rest := [.ref o]) rfl rfl (W := 1) (Nat.le_refl _) (by decide) (by decide) (by decide) (by decide) rfl d5_114 (pc' := 117) rfl (fun v_ h72 hq => ?_)
  obtain ⟨rfl, K_2, E_2, G_1, G_2, G_3, G_4, G_5⟩ := hq
  show own_W l Z (⟨"com/example/befugnis/befugnis/Der", "next", "()Lcom/example/befugnis/befugnis/Der$Value;"⟩ : MethodName) prog_9_method_6_code 4 (some (.object "com/example/befugnis/befugnis/Der$Value")) ({ frames := 2, cells := 1, slots := 5, locals := 30 } : Room) n0 (fun v h => ∃ o : Addr, v = some (.ref o) ∧ h0.size ≤ o ∧ Keep h0 h [d] ∧ Exa Z h d "com/example/befugnis/befugnis/Der" ∧ Fld Z h d "com/example/befugnis/befugnis/Der" "bytes" "[B" (.ref r) ∧ Fld Z h d "com/example/befugnis/befugnis/Der" "at" "I" (.int ((2 : Int32) + L)) ∧ Fld Z h d "com/example/befugnis/befugnis/Der" "end" "I" (.int e) ∧ Exa Z h o "com/example/befugnis/befugnis/Der$Value" ∧ Fld Z h o "com/example/befugnis/befugnis/Der$Value" "bytes" "[B" (.ref r) ∧ Fld Z h o "com/example/befugnis/befugnis/Der$Value" "tag" "I" (.int (t0 &&& 255)) ∧ Fld Z h o "com/example/befugnis/befugnis/Der$Value" "start" "I" (.int 0) ∧ Fld Z h o "com/example/befugnis/befugnis/Der$Value" "contentStart" "I" (.int (((2 : Int32) + L) - L)) ∧ Fld Z h o "com/example/befugnis/befugnis/Der$Value" "end" "I" (.int ((2 : Int32) + L))) h72 1 5 117 #[.val (.ref d), .val (.int (0 : Int32)), .val (.int (t0 &&& (255 : Int32))), .val (.int L)] [.ref o]
  replace A_r := A_r.keep K_2 (ninS ne_r_o nin0)
  replace E_d := E_d.keep K_2
  replace F_d_bytes := F_d_bytes.keep K_2 (ninS ne_d_o nin0)
  replace F_d_at := F_d_at.keep K_2 (ninS ne_d_o nin0)
  replace F_d_end := F_d_end.keep K_2 (ninS ne_d_o nin0)
  replace E_o := E_2
  replace F_o_bytes := G_1
  replace F_o_tag := G_2
  replace F_o_start := G_3
  replace F_o_contentStart := G_4
  replace F_o_end := G_5
  replace hn0 : n0 ≤ h72.size := Nat.le_trans hn0 K_2.1
  exact own_aret rfl rfl rfl d5_117 ⟨o, rfl, gt0_o, ((((((Keep.refl h0 [d]).trans K65 (fun x hx => Or.inl hx)).trans K_1 (fun x hx => Or.inl hx)).trans K69 (fun x hx => Or.inl hx)).ext E71).trans K_2 (allS (Or.inr gt0_o) all0)), E_d, F_d_bytes, F_d_at, F_d_end, E_o, F_o_bytes, F_o_tag, F_o_start, F_o_contentStart, F_o_end⟩
set_option maxRecDepth 65536 in
set_option maxHeartbeats 40000000 in
theorem own_next1 (l : Launch) (Z : State) (a0 : Array Value) (hw : ∀ d ∈ tables_1, d.before a0 Z = true) (d r : Addr) (vs : List Value) (e L t0 : Int32) (y0 : Int32) (h0 : Heap) (n0 : Nat) (hn0 : n0 ≤ h0.size) (hw1 : vs[(1 : Int32).toNatClampNeg]? = some (.int (-127 : Int32))) (hy0 : vs[(2 : Int32).toNatClampNeg]? = some (.int y0)) (hfits : ¬ e - 2 < (1 : Int32)) (h128 : ¬ (own_v1 y0) < 128) (hmin : ¬ ((own_v1 y0) >>> (((8 : Int32) * ((1 : Int32) - (1 : Int32))).toInt64 &&& 63)) = 0) (hmax : ¬ 2147483647 < (own_v1 y0)) (hL : (own_v1 y0).toInt32 = L) (hne0 : ¬ (0 : Int32) = e) (hne : ¬ (1 : Int32) = e) (ht0 : vs[(0 : Int32).toNatClampNeg]? = some (.int t0)) (htag : ¬ ((t0 &&& 255) &&& 31) = 31) (hfit : ¬ e - (3 : Int32) < L) (ne_d_r : d ≠ r) (ge_d : n0 ≤ d) (A_r : own_A Z h0 r .byte vs) (E_d : Exa Z h0 d "com/example/befugnis/befugnis/Der") (F_d_bytes : Fld Z h0 d "com/example/befugnis/befugnis/Der" "bytes" "[B" (.ref r)) (F_d_at : Fld Z h0 d "com/example/befugnis/befugnis/Der" "at" "I" (.int 0)) (F_d_end : Fld Z h0 d "com/example/befugnis/befugnis/Der" "end" "I" (.int e)) :
    own_W l Z (⟨"com/example/befugnis/befugnis/Der", "next", "()Lcom/example/befugnis/befugnis/Der$Value;"⟩ : MethodName) prog_9_method_6_code 4 (some (.object "com/example/befugnis/befugnis/Der$Value")) ({ frames := 2, cells := 1, slots := 5, locals := 30 } : Room) n0 (fun v h => ∃ o : Addr, v = some (.ref o) ∧ h0.size ≤ o ∧ Keep h0 h [d] ∧ Exa Z h d "com/example/befugnis/befugnis/Der" ∧ Fld Z h d "com/example/befugnis/befugnis/Der" "bytes" "[B" (.ref r) ∧ Fld Z h d "com/example/befugnis/befugnis/Der" "at" "I" (.int ((3 : Int32) + L)) ∧ Fld Z h d "com/example/befugnis/befugnis/Der" "end" "I" (.int e) ∧ Exa Z h o "com/example/befugnis/befugnis/Der$Value" ∧ Fld Z h o "com/example/befugnis/befugnis/Der$Value" "bytes" "[B" (.ref r) ∧ Fld Z h o "com/example/befugnis/befugnis/Der$Value" "tag" "I" (.int (t0 &&& 255)) ∧ Fld Z h o "com/example/befugnis/befugnis/Der$Value" "start" "I" (.int 0) ∧ Fld Z h o "com/example/befugnis/befugnis/Der$Value" "contentStart" "I" (.int (((3 : Int32) + L) - L)) ∧ Fld Z h o "com/example/befugnis/befugnis/Der$Value" "end" "I" (.int ((3 : Int32) + L))) h0 0 0 0 #[.val (.ref d), .unset, .unset, .unset] [] := by
  refine own_aloadN (pc' := 1) d5_0 rfl rfl ?_
  refine own_virtual (own_aeW l Z a0 hw d r 0 e h0 n0 hn0 E_d F_d_bytes F_d_at F_d_end) E_d (hw _ (List.mem_of_getElem? (i := 27) rfl)) (hw _ (List.mem_of_getElem? (i := 28) rfl)) (hw _ (List.mem_of_getElem? (i := 30) rfl)) (hw _ (List.mem_of_getElem? (i := 29) rfl)) (hw _ (List.mem_of_getElem? (i := 3) rfl)) (hw _ (List.mem_of_getElem? (i := 31) rfl)) (plainFor_of_name own_pn1) (by decide) own_pd6 rfl (argsL := []) (rest := []) rfl rfl (W := 0) (Nat.le_refl _) (by decide) (by decide) (by decide) (by decide) rfl d5_1 (pc' := 4) rfl (fun v_ h73 hq => ?_)
  obtain ⟨rfl, rfl⟩ := hq
  show own_W l Z (⟨"com/example/befugnis/befugnis/Der", "next", "()Lcom/example/befugnis/befugnis/Der$Value;"⟩ : MethodName) prog_9_method_6_code 4 (some (.object "com/example/befugnis/befugnis/Der$Value")) ({ frames := 2, cells := 1, slots := 5, locals := 30 } : Room) n0 (fun v h => ∃ o : Addr, v = some (.ref o) ∧ h0.size ≤ o ∧ Keep h0 h [d] ∧ Exa Z h d "com/example/befugnis/befugnis/Der" ∧ Fld Z h d "com/example/befugnis/befugnis/Der" "bytes" "[B" (.ref r) ∧ Fld Z h d "com/example/befugnis/befugnis/Der" "at" "I" (.int ((3 : Int32) + L)) ∧ Fld Z h d "com/example/befugnis/befugnis/Der" "end" "I" (.int e) ∧ Exa Z h o "com/example/befugnis/befugnis/Der$Value" ∧ Fld Z h o "com/example/befugnis/befugnis/Der$Value" "bytes" "[B" (.ref r) ∧ Fld Z h o "com/example/befugnis/befugnis/Der$Value" "tag" "I" (.int (t0 &&& 255)) ∧ Fld Z h o "com/example/befugnis/befugnis/Der$Value" "start" "I" (.int 0) ∧ Fld Z h o "com/example/befugnis/befugnis/Der$Value" "contentStart" "I" (.int (((3 : Int32) + L) - L)) ∧ Fld Z h o "com/example/befugnis/befugnis/Der$Value" "end" "I" (.int ((3 : Int32) + L))) h0 0 0 4 #[.val (.ref d), .unset, .unset, .unset] [.int (own_ae (0 : Int32) e)]
  refine own_if_eq_t (pc' := 17) d5_4 (own_ae0 hne0) (by decide) (by decide) ?_
  refine own_aloadN (pc' := 18) d5_17 rfl rfl ?_
  refine own_getF (pc' := 21) (hw _ (List.mem_of_getElem? (i := 18) rfl)) F_d_at d5_18 rfl ?_
  refine own_istoreN (pc' := 22) (Ls' := #[.val (.ref d), .val (.int (0 : Int32)), .unset, .unset]) d5_21 rfl rfl ?_
  refine own_aloadN (pc' := 23) d5_22 rfl rfl ?_
  refine own_getF (pc' := 26) (hw _ (List.mem_of_getElem? (i := 16) rfl)) F_d_bytes d5_23 rfl ?_
  refine own_aloadN (pc' := 27) d5_26 rfl rfl ?_
  refine own_dup (pc' := 28) d5_27 rfl rfl ?_
  refine own_getF (pc' := 31) (hw _ (List.mem_of_getElem? (i := 18) rfl)) F_d_at d5_28 rfl ?_
  refine own_dupX1 (pc' := 32) d5_31 rfl rfl rfl ?_
  refine own_iconst (1 : Int32) (pc' := 33) d5_32 rfl rfl ?_
  refine own_iadd (pc' := 34) d5_33 rfl ?_
  refine own_putF (pc' := 37) (hw _ (List.mem_of_getElem? (i := 18) rfl)) F_d_at E_d (Or.inl (hw _ (List.mem_of_getElem? (i := 19) rfl))) (hw _ (List.mem_of_getElem? (i := 9) rfl)) ge_d (ty := .int) (by decide) rfl rfl d5_34 rfl (fun h74 Wr75 K76 => ?_)
  replace A_r := A_r.keep K76 (ninS (Ne.symm ne_d_r) nin0)
  replace E_d := E_d.wr Wr75
  replace F_d_bytes := F_d_bytes.other Wr75 (Or.inr (slot_ne (a0 := a0) (Or.inr (hw _ (List.mem_of_getElem? (i := 17) rfl))) (Or.inl (hw _ (List.mem_of_getElem? (i := 19) rfl))) (by decide) (t := (.array .byte)) (by decide) (t' := .int) (by decide)))
  replace F_d_at := F_d_at.same Wr75
  replace F_d_end := F_d_end.other Wr75 (Or.inr (slot_ne (a0 := a0) (Or.inr (hw _ (List.mem_of_getElem? (i := 21) rfl))) (Or.inl (hw _ (List.mem_of_getElem? (i := 19) rfl))) (by decide) (t := .int) (by decide) (t' := .int) (by decide)))
  replace hn0 : n0 ≤ h74.size := Nat.le_trans hn0 K76.1
  replace F_d_at : Fld Z h74 d "com/example/befugnis/befugnis/Der" "at" "I" (.int (1 : Int32)) := F_d_at
  refine own_baload (pc' := 38) (v := .int t0) A_r (by decide) ht0 d5_37 rfl ?_
  refine own_sipush (255 : Int32) (pc' := 41) d5_38 rfl rfl ?_
  refine own_iand (pc' := 42) d5_41 rfl ?_
  refine own_istoreN (pc' := 43) (Ls' := #[.val (.ref d), .val (.int (0 : Int32)), .val (.int (t0 &&& (255 : Int32))), .unset]) d5_42 rfl rfl ?_
  refine own_iloadN (pc' := 44) d5_43 rfl rfl ?_
  refine own_bipush (31 : Int32) (pc' := 46) d5_44 rfl rfl ?_
  refine own_iand (pc' := 47) d5_46 rfl ?_
  refine own_bipush (31 : Int32) (pc' := 49) d5_47 rfl rfl ?_
  refine own_ic_ne_t (pc' := 62) d5_49 htag (by decide) (by decide) ?_
  refine own_aloadN (pc' := 63) d5_62 rfl rfl ?_
  refine own_private (own_rl1 l Z a0 hw d r vs e L y0 h74 n0 hn0 hw1 hy0 hfits h128 hmin hmax hL hne ne_d_r ge_d A_r E_d F_d_bytes F_d_at F_d_end) E_d (hw _ (List.mem_of_getElem? (i := 32) rfl)) (hw _ (List.mem_of_getElem? (i := 33) rfl)) (hw _ (List.mem_of_getElem? (i := 34) rfl)) (hw _ (List.mem_of_getElem? (i := 9) rfl)) (hw _ (List.mem_of_getElem? (i := 3) rfl)) (hw _ (List.mem_of_getElem? (i := 35) rfl)) (plainFor_of_name own_pn1) (by decide) own_pd7 rfl (argsL := []) (rest := []) rfl rfl (W := 0) (Nat.le_refl _) (by decide) (by decide) (by decide) (by decide) rfl d5_63 (pc' := 66) rfl (fun v_ h77 hq => ?_)
  obtain ⟨rfl, K_1, E_1, F_1, F_2, F_3⟩ := hq
  show own_W l Z (⟨"com/example/befugnis/befugnis/Der", "next", "()Lcom/example/befugnis/befugnis/Der$Value;"⟩ : MethodName) prog_9_method_6_code 4 (some (.object "com/example/befugnis/befugnis/Der$Value")) ({ frames := 2, cells := 1, slots := 5, locals := 30 } : Room) n0 (fun v h => ∃ o : Addr, v = some (.ref o) ∧ h0.size ≤ o ∧ Keep h0 h [d] ∧ Exa Z h d "com/example/befugnis/befugnis/Der" ∧ Fld Z h d "com/example/befugnis/befugnis/Der" "bytes" "[B" (.ref r) ∧ Fld Z h d "com/example/befugnis/befugnis/Der" "at" "I" (.int ((3 : Int32) + L)) ∧ Fld Z h d "com/example/befugnis/befugnis/Der" "end" "I" (.int e) ∧ Exa Z h o "com/example/befugnis/befugnis/Der$Value" ∧ Fld Z h o "com/example/befugnis/befugnis/Der$Value" "bytes" "[B" (.ref r) ∧ Fld Z h o "com/example/befugnis/befugnis/Der$Value" "tag" "I" (.int (t0 &&& 255)) ∧ Fld Z h o "com/example/befugnis/befugnis/Der$Value" "start" "I" (.int 0) ∧ Fld Z h o "com/example/befugnis/befugnis/Der$Value" "contentStart" "I" (.int (((3 : Int32) + L) - L)) ∧ Fld Z h o "com/example/befugnis/befugnis/Der$Value" "end" "I" (.int ((3 : Int32) + L))) h77 0 0 66 #[.val (.ref d), .val (.int (0 : Int32)), .val (.int (t0 &&& (255 : Int32))), .unset] [.int L]
  replace A_r := A_r.keep K_1 (ninS (Ne.symm ne_d_r) nin0)
  replace E_d := E_1
  replace F_d_bytes := F_1
  replace F_d_at := F_2
  replace F_d_end := F_3
  replace hn0 : n0 ≤ h77.size := Nat.le_trans hn0 K_1.1
  refine own_istoreN (pc' := 67) (Ls' := #[.val (.ref d), .val (.int (0 : Int32)), .val (.int (t0 &&& (255 : Int32))), .val (.int L)]) d5_66 rfl rfl ?_
  refine own_iloadN (pc' := 68) d5_67 rfl rfl ?_
  refine own_aloadN (pc' := 69) d5_68 rfl rfl ?_
  refine own_getF (pc' := 72) (hw _ (List.mem_of_getElem? (i := 20) rfl)) F_d_end d5_69 rfl ?_
  refine own_aloadN (pc' := 73) d5_72 rfl rfl ?_
  refine own_getF (pc' := 76) (hw _ (List.mem_of_getElem? (i := 18) rfl)) F_d_at d5_73 rfl ?_
  refine own_isub (pc' := 77) d5_76 rfl ?_
  refine own_ic_le_t (pc' := 84) d5_77 hfit (by decide) (by decide) ?_
  refine own_aloadN (pc' := 85) d5_84 rfl rfl ?_
  refine own_dup (pc' := 86) d5_85 rfl rfl ?_
  refine own_getF (pc' := 89) (hw _ (List.mem_of_getElem? (i := 18) rfl)) F_d_at d5_86 rfl ?_
  refine own_iloadN (pc' := 90) d5_89 rfl rfl ?_
  refine own_iadd (pc' := 91) d5_90 rfl ?_
  refine own_putF (pc' := 94) (hw _ (List.mem_of_getElem? (i := 18) rfl)) F_d_at E_d (Or.inl (hw _ (List.mem_of_getElem? (i := 19) rfl))) (hw _ (List.mem_of_getElem? (i := 9) rfl)) ge_d (ty := .int) (by decide) rfl rfl d5_91 rfl (fun h78 Wr79 K80 => ?_)
  replace A_r := A_r.keep K80 (ninS (Ne.symm ne_d_r) nin0)
  replace E_d := E_d.wr Wr79
  replace F_d_bytes := F_d_bytes.other Wr79 (Or.inr (slot_ne (a0 := a0) (Or.inr (hw _ (List.mem_of_getElem? (i := 17) rfl))) (Or.inl (hw _ (List.mem_of_getElem? (i := 19) rfl))) (by decide) (t := (.array .byte)) (by decide) (t' := .int) (by decide)))
  replace F_d_at := F_d_at.same Wr79
  replace F_d_end := F_d_end.other Wr79 (Or.inr (slot_ne (a0 := a0) (Or.inr (hw _ (List.mem_of_getElem? (i := 21) rfl))) (Or.inl (hw _ (List.mem_of_getElem? (i := 19) rfl))) (by decide) (t := .int) (by decide) (t' := .int) (by decide)))
  replace hn0 : n0 ≤ h78.size := Nat.le_trans hn0 K80.1
  refine own_new (pc' := 97) (hw _ (List.mem_of_getElem? (i := 38) rfl)) (hw _ (List.mem_of_getElem? (i := 39) rfl)) (hw _ (List.mem_of_getElem? (i := 40) rfl)) d5_94 rfl (by decide) (by decide) (fun h81 o gt_o lt_o E82 E_o D_o => ?_)
  have ge_o : n0 ≤ o := Nat.le_trans hn0 gt_o
  have ne_d_o : d ≠ o := Nat.ne_of_lt (by have q := Nat.lt_of_lt_of_le E_d.lt (Nat.le_refl _); omega)
  have ne_r_o : r ≠ o := Nat.ne_of_lt (by have q := Nat.lt_of_lt_of_le A_r.lt (Nat.le_refl _); omega)
  replace A_r := A_r.ext E82
  replace E_d := E_d.ext E82
  replace F_d_bytes := F_d_bytes.ext E82
  replace F_d_at := F_d_at.ext E82
  replace F_d_end := F_d_end.ext E82
  replace hn0 : n0 ≤ h81.size := Nat.le_trans hn0 E82.1
  have F_o_bytes : Fld Z h81 o "com/example/befugnis/befugnis/Der$Value" "bytes" "[B" (.null) := D_o (Or.inr (hw _ (List.mem_of_getElem? (i := 46) rfl))) (ty := (.array .byte)) (by decide)
  have F_o_tag : Fld Z h81 o "com/example/befugnis/befugnis/Der$Value" "tag" "I" (.int (0 : Int32)) := D_o (Or.inr (hw _ (List.mem_of_getElem? (i := 48) rfl))) (ty := .int) (by decide)
  have F_o_start : Fld Z h81 o "com/example/befugnis/befugnis/Der$Value" "start" "I" (.int (0 : Int32)) := D_o (Or.inr (hw _ (List.mem_of_getElem? (i := 50) rfl))) (ty := .int) (by decide)
  have F_o_contentStart : Fld Z h81 o "com/example/befugnis/befugnis/Der$Value" "contentStart" "I" (.int (0 : Int32)) := D_o (Or.inr (hw _ (List.mem_of_getElem? (i := 52) rfl))) (ty := .int) (by decide)
  have F_o_end : Fld Z h81 o "com/example/befugnis/befugnis/Der$Value" "end" "I" (.int (0 : Int32)) := D_o (Or.inr (hw _ (List.mem_of_getElem? (i := 54) rfl))) (ty := .int) (by decide)
  have gt0_o : h0.size ≤ o := Nat.le_trans ((((Keep.refl h0 [d]).trans K76 (fun x hx => Or.inl hx)).trans K_1 (fun x hx => Or.inl hx)).trans K80 (fun x hx => Or.inl hx)).1 gt_o
  refine own_dup (pc' := 98) d5_97 rfl rfl ?_
  refine own_aloadN (pc' := 99) d5_98 rfl rfl ?_
  refine own_getF (pc' := 102) (hw _ (List.mem_of_getElem? (i := 16) rfl)) F_d_bytes d5_99 rfl ?_
  refine own_iloadN (pc' := 103) d5_102 rfl rfl ?_
  refine own_iloadN (pc' := 104) d5_103 rfl rfl ?_
  refine own_aloadN (pc' := 105) d5_104 rfl rfl ?_
  refine own_getF (pc' := 108) (hw _ (List.mem_of_getElem? (i := 18) rfl)) F_d_at d5_105 rfl ?_
  refine own_iloadN (pc' := 109) d5_108 rfl rfl ?_
  refine own_isub (pc' := 110) d5_109 rfl ?_
  refine own_aloadN (pc' := 111) d5_110 rfl rfl ?_
  refine own_getF (pc' := 114) (hw _ (List.mem_of_getElem? (i := 18) rfl)) F_d_at d5_111 rfl ?_
  refine own_specialRef (ret' := none) (own_mkVal l Z a0 hw o r (t0 &&& 255) 0 (((3 : Int32) + L) - L) ((3 : Int32) + L) h81 n0 hn0 ge_o E_o F_o_bytes F_o_tag F_o_start F_o_contentStart F_o_end) (hw _ (List.mem_of_getElem? (i := 41) rfl)) (hw _ (List.mem_of_getElem? (i := 42) rfl)) (hw _ (List.mem_of_getElem? (i := 40) rfl)) (hw _ (List.mem_of_getElem? (i := 43) rfl)) rfl (plainFor_of_name own_pn3) (by decide) own_pd8 rfl (argsL := [.ref r, .int (t0 &&& (255 : Int32)), .int (0 : Int32), .int (((3 : Int32) + L) - L), .int ((3 : Int32) + L)]) (rest := [.ref o]) rfl rfl (W := 1) (Nat.le_refl _) (by decide) (by decide) (by decide) (by decide) rfl d5_114 (pc' := 117) rfl (fun v_ h83 hq => ?_)
  obtain ⟨rfl, K_2, E_2, G_1, G_2, G_3, G_4, G_5⟩ := hq
  show own_W l Z (⟨"com/example/befugnis/befugnis/Der", "next", "()Lcom/example/befugnis/befugnis/Der$Value;"⟩ : MethodName) prog_9_method_6_code 4 (some (.object "com/example/befugnis/befugnis/Der$Value")) ({ frames := 2, cells := 1, slots := 5, locals := 30 } : Room) n0 (fun v h => ∃ o : Addr, v = some (.ref o) ∧ h0.size ≤ o ∧ Keep h0 h [d] ∧ Exa Z h d "com/example/befugnis/befugnis/Der" ∧ Fld Z h d "com/example/befugnis/befugnis/Der" "bytes" "[B" (.ref r) ∧ Fld Z h d "com/example/befugnis/befugnis/Der" "at" "I" (.int ((3 : Int32) + L)) ∧ Fld Z h d "com/example/befugnis/befugnis/Der" "end" "I" (.int e) ∧ Exa Z h o "com/example/befugnis/befugnis/Der$Value" ∧ Fld Z h o "com/example/befugnis/befugnis/Der$Value" "bytes" "[B" (.ref r) ∧ Fld Z h o "com/example/befugnis/befugnis/Der$Value" "tag" "I" (.int (t0 &&& 255)) ∧ Fld Z h o "com/example/befugnis/befugnis/Der$Value" "start" "I" (.int 0) ∧ Fld Z h o "com/example/befugnis/befugnis/Der$Value" "contentStart" "I" (.int (((3 : Int32) + L) - L)) ∧ Fld Z h o "com/example/befugnis/befugnis/Der$Value" "end" "I" (.int ((3 : Int32) + L))) h83 1 5 117 #[.val (.ref d), .val (.int (0 : Int32)), .val (.int (t0 &&& (255 : Int32))), .val (.int L)] [.ref o]
  replace A_r := A_r.keep K_2 (ninS ne_r_o nin0)
  replace E_d := E_d.keep K_2
  replace F_d_bytes := F_d_bytes.keep K_2 (ninS ne_d_o nin0)
  replace F_d_at := F_d_at.keep K_2 (ninS ne_d_o nin0)
  replace F_d_end := F_d_end.keep K_2 (ninS ne_d_o nin0)
  replace E_o := E_2
  replace F_o_bytes := G_1
  replace F_o_tag := G_2
  replace F_o_start := G_3
  replace F_o_contentStart := G_4
  replace F_o_end := G_5
  replace hn0 : n0 ≤ h83.size := Nat.le_trans hn0 K_2.1
  exact own_aret rfl rfl rfl d5_117 ⟨o, rfl, gt0_o, ((((((Keep.refl h0 [d]).trans K76 (fun x hx => Or.inl hx)).trans K_1 (fun x hx => Or.inl hx)).trans K80 (fun x hx => Or.inl hx)).ext E82).trans K_2 (allS (Or.inr gt0_o) all0)), E_d, F_d_bytes, F_d_at, F_d_end, E_o, F_o_bytes, F_o_tag, F_o_start, F_o_contentStart, F_o_end⟩
set_option maxRecDepth 65536 in
set_option maxHeartbeats 40000000 in
theorem own_next2 (l : Launch) (Z : State) (a0 : Array Value) (hw : ∀ d ∈ tables_1, d.before a0 Z = true) (d r : Addr) (vs : List Value) (e L t0 : Int32) (y0 y1 : Int32) (h0 : Heap) (n0 : Nat) (hn0 : n0 ≤ h0.size) (hw1 : vs[(1 : Int32).toNatClampNeg]? = some (.int (-126 : Int32))) (hy0 : vs[(2 : Int32).toNatClampNeg]? = some (.int y0)) (hy1 : vs[(3 : Int32).toNatClampNeg]? = some (.int y1)) (hfits : ¬ e - 2 < (2 : Int32)) (h128 : ¬ (own_v2 y0 y1) < 128) (hmin : ¬ ((own_v2 y0 y1) >>> (((8 : Int32) * ((2 : Int32) - (1 : Int32))).toInt64 &&& 63)) = 0) (hmax : ¬ 2147483647 < (own_v2 y0 y1)) (hL : (own_v2 y0 y1).toInt32 = L) (hne0 : ¬ (0 : Int32) = e) (hne : ¬ (1 : Int32) = e) (ht0 : vs[(0 : Int32).toNatClampNeg]? = some (.int t0)) (htag : ¬ ((t0 &&& 255) &&& 31) = 31) (hfit : ¬ e - (4 : Int32) < L) (ne_d_r : d ≠ r) (ge_d : n0 ≤ d) (A_r : own_A Z h0 r .byte vs) (E_d : Exa Z h0 d "com/example/befugnis/befugnis/Der") (F_d_bytes : Fld Z h0 d "com/example/befugnis/befugnis/Der" "bytes" "[B" (.ref r)) (F_d_at : Fld Z h0 d "com/example/befugnis/befugnis/Der" "at" "I" (.int 0)) (F_d_end : Fld Z h0 d "com/example/befugnis/befugnis/Der" "end" "I" (.int e)) :
    own_W l Z (⟨"com/example/befugnis/befugnis/Der", "next", "()Lcom/example/befugnis/befugnis/Der$Value;"⟩ : MethodName) prog_9_method_6_code 4 (some (.object "com/example/befugnis/befugnis/Der$Value")) ({ frames := 2, cells := 1, slots := 5, locals := 30 } : Room) n0 (fun v h => ∃ o : Addr, v = some (.ref o) ∧ h0.size ≤ o ∧ Keep h0 h [d] ∧ Exa Z h d "com/example/befugnis/befugnis/Der" ∧ Fld Z h d "com/example/befugnis/befugnis/Der" "bytes" "[B" (.ref r) ∧ Fld Z h d "com/example/befugnis/befugnis/Der" "at" "I" (.int ((4 : Int32) + L)) ∧ Fld Z h d "com/example/befugnis/befugnis/Der" "end" "I" (.int e) ∧ Exa Z h o "com/example/befugnis/befugnis/Der$Value" ∧ Fld Z h o "com/example/befugnis/befugnis/Der$Value" "bytes" "[B" (.ref r) ∧ Fld Z h o "com/example/befugnis/befugnis/Der$Value" "tag" "I" (.int (t0 &&& 255)) ∧ Fld Z h o "com/example/befugnis/befugnis/Der$Value" "start" "I" (.int 0) ∧ Fld Z h o "com/example/befugnis/befugnis/Der$Value" "contentStart" "I" (.int (((4 : Int32) + L) - L)) ∧ Fld Z h o "com/example/befugnis/befugnis/Der$Value" "end" "I" (.int ((4 : Int32) + L))) h0 0 0 0 #[.val (.ref d), .unset, .unset, .unset] [] := by
  refine own_aloadN (pc' := 1) d5_0 rfl rfl ?_
  refine own_virtual (own_aeW l Z a0 hw d r 0 e h0 n0 hn0 E_d F_d_bytes F_d_at F_d_end) E_d (hw _ (List.mem_of_getElem? (i := 27) rfl)) (hw _ (List.mem_of_getElem? (i := 28) rfl)) (hw _ (List.mem_of_getElem? (i := 30) rfl)) (hw _ (List.mem_of_getElem? (i := 29) rfl)) (hw _ (List.mem_of_getElem? (i := 3) rfl)) (hw _ (List.mem_of_getElem? (i := 31) rfl)) (plainFor_of_name own_pn1) (by decide) own_pd6 rfl (argsL := []) (rest := []) rfl rfl (W := 0) (Nat.le_refl _) (by decide) (by decide) (by decide) (by decide) rfl d5_1 (pc' := 4) rfl (fun v_ h84 hq => ?_)
  obtain ⟨rfl, rfl⟩ := hq
  show own_W l Z (⟨"com/example/befugnis/befugnis/Der", "next", "()Lcom/example/befugnis/befugnis/Der$Value;"⟩ : MethodName) prog_9_method_6_code 4 (some (.object "com/example/befugnis/befugnis/Der$Value")) ({ frames := 2, cells := 1, slots := 5, locals := 30 } : Room) n0 (fun v h => ∃ o : Addr, v = some (.ref o) ∧ h0.size ≤ o ∧ Keep h0 h [d] ∧ Exa Z h d "com/example/befugnis/befugnis/Der" ∧ Fld Z h d "com/example/befugnis/befugnis/Der" "bytes" "[B" (.ref r) ∧ Fld Z h d "com/example/befugnis/befugnis/Der" "at" "I" (.int ((4 : Int32) + L)) ∧ Fld Z h d "com/example/befugnis/befugnis/Der" "end" "I" (.int e) ∧ Exa Z h o "com/example/befugnis/befugnis/Der$Value" ∧ Fld Z h o "com/example/befugnis/befugnis/Der$Value" "bytes" "[B" (.ref r) ∧ Fld Z h o "com/example/befugnis/befugnis/Der$Value" "tag" "I" (.int (t0 &&& 255)) ∧ Fld Z h o "com/example/befugnis/befugnis/Der$Value" "start" "I" (.int 0) ∧ Fld Z h o "com/example/befugnis/befugnis/Der$Value" "contentStart" "I" (.int (((4 : Int32) + L) - L)) ∧ Fld Z h o "com/example/befugnis/befugnis/Der$Value" "end" "I" (.int ((4 : Int32) + L))) h0 0 0 4 #[.val (.ref d), .unset, .unset, .unset] [.int (own_ae (0 : Int32) e)]
  refine own_if_eq_t (pc' := 17) d5_4 (own_ae0 hne0) (by decide) (by decide) ?_
  refine own_aloadN (pc' := 18) d5_17 rfl rfl ?_
  refine own_getF (pc' := 21) (hw _ (List.mem_of_getElem? (i := 18) rfl)) F_d_at d5_18 rfl ?_
  refine own_istoreN (pc' := 22) (Ls' := #[.val (.ref d), .val (.int (0 : Int32)), .unset, .unset]) d5_21 rfl rfl ?_
  refine own_aloadN (pc' := 23) d5_22 rfl rfl ?_
  refine own_getF (pc' := 26) (hw _ (List.mem_of_getElem? (i := 16) rfl)) F_d_bytes d5_23 rfl ?_
  refine own_aloadN (pc' := 27) d5_26 rfl rfl ?_
  refine own_dup (pc' := 28) d5_27 rfl rfl ?_
  refine own_getF (pc' := 31) (hw _ (List.mem_of_getElem? (i := 18) rfl)) F_d_at d5_28 rfl ?_
  refine own_dupX1 (pc' := 32) d5_31 rfl rfl rfl ?_
  refine own_iconst (1 : Int32) (pc' := 33) d5_32 rfl rfl ?_
  refine own_iadd (pc' := 34) d5_33 rfl ?_
  refine own_putF (pc' := 37) (hw _ (List.mem_of_getElem? (i := 18) rfl)) F_d_at E_d (Or.inl (hw _ (List.mem_of_getElem? (i := 19) rfl))) (hw _ (List.mem_of_getElem? (i := 9) rfl)) ge_d (ty := .int) (by decide) rfl rfl d5_34 rfl (fun h85 Wr86 K87 => ?_)
  replace A_r := A_r.keep K87 (ninS (Ne.symm ne_d_r) nin0)
  replace E_d := E_d.wr Wr86
  replace F_d_bytes := F_d_bytes.other Wr86 (Or.inr (slot_ne (a0 := a0) (Or.inr (hw _ (List.mem_of_getElem? (i := 17) rfl))) (Or.inl (hw _ (List.mem_of_getElem? (i := 19) rfl))) (by decide) (t := (.array .byte)) (by decide) (t' := .int) (by decide)))
  replace F_d_at := F_d_at.same Wr86
  replace F_d_end := F_d_end.other Wr86 (Or.inr (slot_ne (a0 := a0) (Or.inr (hw _ (List.mem_of_getElem? (i := 21) rfl))) (Or.inl (hw _ (List.mem_of_getElem? (i := 19) rfl))) (by decide) (t := .int) (by decide) (t' := .int) (by decide)))
  replace hn0 : n0 ≤ h85.size := Nat.le_trans hn0 K87.1
  replace F_d_at : Fld Z h85 d "com/example/befugnis/befugnis/Der" "at" "I" (.int (1 : Int32)) := F_d_at
  refine own_baload (pc' := 38) (v := .int t0) A_r (by decide) ht0 d5_37 rfl ?_
  refine own_sipush (255 : Int32) (pc' := 41) d5_38 rfl rfl ?_
  refine own_iand (pc' := 42) d5_41 rfl ?_
  refine own_istoreN (pc' := 43) (Ls' := #[.val (.ref d), .val (.int (0 : Int32)), .val (.int (t0 &&& (255 : Int32))), .unset]) d5_42 rfl rfl ?_
  refine own_iloadN (pc' := 44) d5_43 rfl rfl ?_
  refine own_bipush (31 : Int32) (pc' := 46) d5_44 rfl rfl ?_
  refine own_iand (pc' := 47) d5_46 rfl ?_
  refine own_bipush (31 : Int32) (pc' := 49) d5_47 rfl rfl ?_
  refine own_ic_ne_t (pc' := 62) d5_49 htag (by decide) (by decide) ?_
  refine own_aloadN (pc' := 63) d5_62 rfl rfl ?_
  refine own_private (own_rl2 l Z a0 hw d r vs e L y0 y1 h85 n0 hn0 hw1 hy0 hy1 hfits h128 hmin hmax hL hne ne_d_r ge_d A_r E_d F_d_bytes F_d_at F_d_end) E_d (hw _ (List.mem_of_getElem? (i := 32) rfl)) (hw _ (List.mem_of_getElem? (i := 33) rfl)) (hw _ (List.mem_of_getElem? (i := 34) rfl)) (hw _ (List.mem_of_getElem? (i := 9) rfl)) (hw _ (List.mem_of_getElem? (i := 3) rfl)) (hw _ (List.mem_of_getElem? (i := 35) rfl)) (plainFor_of_name own_pn1) (by decide) own_pd7 rfl (argsL := []) (rest := []) rfl rfl (W := 0) (Nat.le_refl _) (by decide) (by decide) (by decide) (by decide) rfl d5_63 (pc' := 66) rfl (fun v_ h88 hq => ?_)
  obtain ⟨rfl, K_1, E_1, F_1, F_2, F_3⟩ := hq
  show own_W l Z (⟨"com/example/befugnis/befugnis/Der", "next", "()Lcom/example/befugnis/befugnis/Der$Value;"⟩ : MethodName) prog_9_method_6_code 4 (some (.object "com/example/befugnis/befugnis/Der$Value")) ({ frames := 2, cells := 1, slots := 5, locals := 30 } : Room) n0 (fun v h => ∃ o : Addr, v = some (.ref o) ∧ h0.size ≤ o ∧ Keep h0 h [d] ∧ Exa Z h d "com/example/befugnis/befugnis/Der" ∧ Fld Z h d "com/example/befugnis/befugnis/Der" "bytes" "[B" (.ref r) ∧ Fld Z h d "com/example/befugnis/befugnis/Der" "at" "I" (.int ((4 : Int32) + L)) ∧ Fld Z h d "com/example/befugnis/befugnis/Der" "end" "I" (.int e) ∧ Exa Z h o "com/example/befugnis/befugnis/Der$Value" ∧ Fld Z h o "com/example/befugnis/befugnis/Der$Value" "bytes" "[B" (.ref r) ∧ Fld Z h o "com/example/befugnis/befugnis/Der$Value" "tag" "I" (.int (t0 &&& 255)) ∧ Fld Z h o "com/example/befugnis/befugnis/Der$Value" "start" "I" (.int 0) ∧ Fld Z h o "com/example/befugnis/befugnis/Der$Value" "contentStart" "I" (.int (((4 : Int32) + L) - L)) ∧ Fld Z h o "com/example/befugnis/befugnis/Der$Value" "end" "I" (.int ((4 : Int32) + L))) h88 0 0 66 #[.val (.ref d), .val (.int (0 : Int32)), .val (.int (t0 &&& (255 : Int32))), .unset] [.int L]
  replace A_r := A_r.keep K_1 (ninS (Ne.symm ne_d_r) nin0)
  replace E_d := E_1
  replace F_d_bytes := F_1
  replace F_d_at := F_2
  replace F_d_end := F_3
  replace hn0 : n0 ≤ h88.size := Nat.le_trans hn0 K_1.1
  refine own_istoreN (pc' := 67) (Ls' := #[.val (.ref d), .val (.int (0 : Int32)), .val (.int (t0 &&& (255 : Int32))), .val (.int L)]) d5_66 rfl rfl ?_
  refine own_iloadN (pc' := 68) d5_67 rfl rfl ?_
  refine own_aloadN (pc' := 69) d5_68 rfl rfl ?_
  refine own_getF (pc' := 72) (hw _ (List.mem_of_getElem? (i := 20) rfl)) F_d_end d5_69 rfl ?_
  refine own_aloadN (pc' := 73) d5_72 rfl rfl ?_
  refine own_getF (pc' := 76) (hw _ (List.mem_of_getElem? (i := 18) rfl)) F_d_at d5_73 rfl ?_
  refine own_isub (pc' := 77) d5_76 rfl ?_
  refine own_ic_le_t (pc' := 84) d5_77 hfit (by decide) (by decide) ?_
  refine own_aloadN (pc' := 85) d5_84 rfl rfl ?_
  refine own_dup (pc' := 86) d5_85 rfl rfl ?_
  refine own_getF (pc' := 89) (hw _ (List.mem_of_getElem? (i := 18) rfl)) F_d_at d5_86 rfl ?_
  refine own_iloadN (pc' := 90) d5_89 rfl rfl ?_
  refine own_iadd (pc' := 91) d5_90 rfl ?_
  refine own_putF (pc' := 94) (hw _ (List.mem_of_getElem? (i := 18) rfl)) F_d_at E_d (Or.inl (hw _ (List.mem_of_getElem? (i := 19) rfl))) (hw _ (List.mem_of_getElem? (i := 9) rfl)) ge_d (ty := .int) (by decide) rfl rfl d5_91 rfl (fun h89 Wr90 K91 => ?_)
  replace A_r := A_r.keep K91 (ninS (Ne.symm ne_d_r) nin0)
  replace E_d := E_d.wr Wr90
  replace F_d_bytes := F_d_bytes.other Wr90 (Or.inr (slot_ne (a0 := a0) (Or.inr (hw _ (List.mem_of_getElem? (i := 17) rfl))) (Or.inl (hw _ (List.mem_of_getElem? (i := 19) rfl))) (by decide) (t := (.array .byte)) (by decide) (t' := .int) (by decide)))
  replace F_d_at := F_d_at.same Wr90
  replace F_d_end := F_d_end.other Wr90 (Or.inr (slot_ne (a0 := a0) (Or.inr (hw _ (List.mem_of_getElem? (i := 21) rfl))) (Or.inl (hw _ (List.mem_of_getElem? (i := 19) rfl))) (by decide) (t := .int) (by decide) (t' := .int) (by decide)))
  replace hn0 : n0 ≤ h89.size := Nat.le_trans hn0 K91.1
  refine own_new (pc' := 97) (hw _ (List.mem_of_getElem? (i := 38) rfl)) (hw _ (List.mem_of_getElem? (i := 39) rfl)) (hw _ (List.mem_of_getElem? (i := 40) rfl)) d5_94 rfl (by decide) (by decide) (fun h92 o gt_o lt_o E93 E_o D_o => ?_)
  have ge_o : n0 ≤ o := Nat.le_trans hn0 gt_o
  have ne_d_o : d ≠ o := Nat.ne_of_lt (by have q := Nat.lt_of_lt_of_le E_d.lt (Nat.le_refl _); omega)
  have ne_r_o : r ≠ o := Nat.ne_of_lt (by have q := Nat.lt_of_lt_of_le A_r.lt (Nat.le_refl _); omega)
  replace A_r := A_r.ext E93
  replace E_d := E_d.ext E93
  replace F_d_bytes := F_d_bytes.ext E93
  replace F_d_at := F_d_at.ext E93
  replace F_d_end := F_d_end.ext E93
  replace hn0 : n0 ≤ h92.size := Nat.le_trans hn0 E93.1
  have F_o_bytes : Fld Z h92 o "com/example/befugnis/befugnis/Der$Value" "bytes" "[B" (.null) := D_o (Or.inr (hw _ (List.mem_of_getElem? (i := 46) rfl))) (ty := (.array .byte)) (by decide)
  have F_o_tag : Fld Z h92 o "com/example/befugnis/befugnis/Der$Value" "tag" "I" (.int (0 : Int32)) := D_o (Or.inr (hw _ (List.mem_of_getElem? (i := 48) rfl))) (ty := .int) (by decide)
  have F_o_start : Fld Z h92 o "com/example/befugnis/befugnis/Der$Value" "start" "I" (.int (0 : Int32)) := D_o (Or.inr (hw _ (List.mem_of_getElem? (i := 50) rfl))) (ty := .int) (by decide)
  have F_o_contentStart : Fld Z h92 o "com/example/befugnis/befugnis/Der$Value" "contentStart" "I" (.int (0 : Int32)) := D_o (Or.inr (hw _ (List.mem_of_getElem? (i := 52) rfl))) (ty := .int) (by decide)
  have F_o_end : Fld Z h92 o "com/example/befugnis/befugnis/Der$Value" "end" "I" (.int (0 : Int32)) := D_o (Or.inr (hw _ (List.mem_of_getElem? (i := 54) rfl))) (ty := .int) (by decide)
  have gt0_o : h0.size ≤ o := Nat.le_trans ((((Keep.refl h0 [d]).trans K87 (fun x hx => Or.inl hx)).trans K_1 (fun x hx => Or.inl hx)).trans K91 (fun x hx => Or.inl hx)).1 gt_o
  refine own_dup (pc' := 98) d5_97 rfl rfl ?_
  refine own_aloadN (pc' := 99) d5_98 rfl rfl ?_
  refine own_getF (pc' := 102) (hw _ (List.mem_of_getElem? (i := 16) rfl)) F_d_bytes d5_99 rfl ?_
  refine own_iloadN (pc' := 103) d5_102 rfl rfl ?_
  refine own_iloadN (pc' := 104) d5_103 rfl rfl ?_
  refine own_aloadN (pc' := 105) d5_104 rfl rfl ?_
  refine own_getF (pc' := 108) (hw _ (List.mem_of_getElem? (i := 18) rfl)) F_d_at d5_105 rfl ?_
  refine own_iloadN (pc' := 109) d5_108 rfl rfl ?_
  refine own_isub (pc' := 110) d5_109 rfl ?_
  refine own_aloadN (pc' := 111) d5_110 rfl rfl ?_
  refine own_getF (pc' := 114) (hw _ (List.mem_of_getElem? (i := 18) rfl)) F_d_at d5_111 rfl ?_
  refine own_specialRef (ret' := none) (own_mkVal l Z a0 hw o r (t0 &&& 255) 0 (((4 : Int32) + L) - L) ((4 : Int32) + L) h92 n0 hn0 ge_o E_o F_o_bytes F_o_tag F_o_start F_o_contentStart F_o_end) (hw _ (List.mem_of_getElem? (i := 41) rfl)) (hw _ (List.mem_of_getElem? (i := 42) rfl)) (hw _ (List.mem_of_getElem? (i := 40) rfl)) (hw _ (List.mem_of_getElem? (i := 43) rfl)) rfl (plainFor_of_name own_pn3) (by decide) own_pd8 rfl (argsL := [.ref r, .int (t0 &&& (255 : Int32)), .int (0 : Int32), .int (((4 : Int32) + L) - L), .int ((4 : Int32) + L)]) (rest := [.ref o]) rfl rfl (W := 1) (Nat.le_refl _) (by decide) (by decide) (by decide) (by decide) rfl d5_114 (pc' := 117) rfl (fun v_ h94 hq => ?_)
  obtain ⟨rfl, K_2, E_2, G_1, G_2, G_3, G_4, G_5⟩ := hq
  show own_W l Z (⟨"com/example/befugnis/befugnis/Der", "next", "()Lcom/example/befugnis/befugnis/Der$Value;"⟩ : MethodName) prog_9_method_6_code 4 (some (.object "com/example/befugnis/befugnis/Der$Value")) ({ frames := 2, cells := 1, slots := 5, locals := 30 } : Room) n0 (fun v h => ∃ o : Addr, v = some (.ref o) ∧ h0.size ≤ o ∧ Keep h0 h [d] ∧ Exa Z h d "com/example/befugnis/befugnis/Der" ∧ Fld Z h d "com/example/befugnis/befugnis/Der" "bytes" "[B" (.ref r) ∧ Fld Z h d "com/example/befugnis/befugnis/Der" "at" "I" (.int ((4 : Int32) + L)) ∧ Fld Z h d "com/example/befugnis/befugnis/Der" "end" "I" (.int e) ∧ Exa Z h o "com/example/befugnis/befugnis/Der$Value" ∧ Fld Z h o "com/example/befugnis/befugnis/Der$Value" "bytes" "[B" (.ref r) ∧ Fld Z h o "com/example/befugnis/befugnis/Der$Value" "tag" "I" (.int (t0 &&& 255)) ∧ Fld Z h o "com/example/befugnis/befugnis/Der$Value" "start" "I" (.int 0) ∧ Fld Z h o "com/example/befugnis/befugnis/Der$Value" "contentStart" "I" (.int (((4 : Int32) + L) - L)) ∧ Fld Z h o "com/example/befugnis/befugnis/Der$Value" "end" "I" (.int ((4 : Int32) + L))) h94 1 5 117 #[.val (.ref d), .val (.int (0 : Int32)), .val (.int (t0 &&& (255 : Int32))), .val (.int L)] [.ref o]
  replace A_r := A_r.keep K_2 (ninS ne_r_o nin0)
  replace E_d := E_d.keep K_2
  replace F_d_bytes := F_d_bytes.keep K_2 (ninS ne_d_o nin0)
  replace F_d_at := F_d_at.keep K_2 (ninS ne_d_o nin0)
  replace F_d_end := F_d_end.keep K_2 (ninS ne_d_o nin0)
  replace E_o := E_2
  replace F_o_bytes := G_1
  replace F_o_tag := G_2
  replace F_o_start := G_3
  replace F_o_contentStart := G_4
  replace F_o_end := G_5
  replace hn0 : n0 ≤ h94.size := Nat.le_trans hn0 K_2.1
  exact own_aret rfl rfl rfl d5_117 ⟨o, rfl, gt0_o, ((((((Keep.refl h0 [d]).trans K87 (fun x hx => Or.inl hx)).trans K_1 (fun x hx => Or.inl hx)).trans K91 (fun x hx => Or.inl hx)).ext E93).trans K_2 (allS (Or.inr gt0_o) all0)), E_d, F_d_bytes, F_d_at, F_d_end, E_o, F_o_bytes, F_o_tag, F_o_start, F_o_contentStart, F_o_end⟩
set_option maxRecDepth 65536 in
set_option maxHeartbeats 40000000 in
theorem own_next3 (l : Launch) (Z : State) (a0 : Array Value) (hw : ∀ d ∈ tables_1, d.before a0 Z = true) (d r : Addr) (vs : List Value) (e L t0 : Int32) (y0 y1 y2 : Int32) (h0 : Heap) (n0 : Nat) (hn0 : n0 ≤ h0.size) (hw1 : vs[(1 : Int32).toNatClampNeg]? = some (.int (-125 : Int32))) (hy0 : vs[(2 : Int32).toNatClampNeg]? = some (.int y0)) (hy1 : vs[(3 : Int32).toNatClampNeg]? = some (.int y1)) (hy2 : vs[(4 : Int32).toNatClampNeg]? = some (.int y2)) (hfits : ¬ e - 2 < (3 : Int32)) (h128 : ¬ (own_v3 y0 y1 y2) < 128) (hmin : ¬ ((own_v3 y0 y1 y2) >>> (((8 : Int32) * ((3 : Int32) - (1 : Int32))).toInt64 &&& 63)) = 0) (hmax : ¬ 2147483647 < (own_v3 y0 y1 y2)) (hL : (own_v3 y0 y1 y2).toInt32 = L) (hne0 : ¬ (0 : Int32) = e) (hne : ¬ (1 : Int32) = e) (ht0 : vs[(0 : Int32).toNatClampNeg]? = some (.int t0)) (htag : ¬ ((t0 &&& 255) &&& 31) = 31) (hfit : ¬ e - (5 : Int32) < L) (ne_d_r : d ≠ r) (ge_d : n0 ≤ d) (A_r : own_A Z h0 r .byte vs) (E_d : Exa Z h0 d "com/example/befugnis/befugnis/Der") (F_d_bytes : Fld Z h0 d "com/example/befugnis/befugnis/Der" "bytes" "[B" (.ref r)) (F_d_at : Fld Z h0 d "com/example/befugnis/befugnis/Der" "at" "I" (.int 0)) (F_d_end : Fld Z h0 d "com/example/befugnis/befugnis/Der" "end" "I" (.int e)) :
    own_W l Z (⟨"com/example/befugnis/befugnis/Der", "next", "()Lcom/example/befugnis/befugnis/Der$Value;"⟩ : MethodName) prog_9_method_6_code 4 (some (.object "com/example/befugnis/befugnis/Der$Value")) ({ frames := 2, cells := 1, slots := 5, locals := 30 } : Room) n0 (fun v h => ∃ o : Addr, v = some (.ref o) ∧ h0.size ≤ o ∧ Keep h0 h [d] ∧ Exa Z h d "com/example/befugnis/befugnis/Der" ∧ Fld Z h d "com/example/befugnis/befugnis/Der" "bytes" "[B" (.ref r) ∧ Fld Z h d "com/example/befugnis/befugnis/Der" "at" "I" (.int ((5 : Int32) + L)) ∧ Fld Z h d "com/example/befugnis/befugnis/Der" "end" "I" (.int e) ∧ Exa Z h o "com/example/befugnis/befugnis/Der$Value" ∧ Fld Z h o "com/example/befugnis/befugnis/Der$Value" "bytes" "[B" (.ref r) ∧ Fld Z h o "com/example/befugnis/befugnis/Der$Value" "tag" "I" (.int (t0 &&& 255)) ∧ Fld Z h o "com/example/befugnis/befugnis/Der$Value" "start" "I" (.int 0) ∧ Fld Z h o "com/example/befugnis/befugnis/Der$Value" "contentStart" "I" (.int (((5 : Int32) + L) - L)) ∧ Fld Z h o "com/example/befugnis/befugnis/Der$Value" "end" "I" (.int ((5 : Int32) + L))) h0 0 0 0 #[.val (.ref d), .unset, .unset, .unset] [] := by
  refine own_aloadN (pc' := 1) d5_0 rfl rfl ?_
  refine own_virtual (own_aeW l Z a0 hw d r 0 e h0 n0 hn0 E_d F_d_bytes F_d_at F_d_end) E_d (hw _ (List.mem_of_getElem? (i := 27) rfl)) (hw _ (List.mem_of_getElem? (i := 28) rfl)) (hw _ (List.mem_of_getElem? (i := 30) rfl)) (hw _ (List.mem_of_getElem? (i := 29) rfl)) (hw _ (List.mem_of_getElem? (i := 3) rfl)) (hw _ (List.mem_of_getElem? (i := 31) rfl)) (plainFor_of_name own_pn1) (by decide) own_pd6 rfl (argsL := []) (rest := []) rfl rfl (W := 0) (Nat.le_refl _) (by decide) (by decide) (by decide) (by decide) rfl d5_1 (pc' := 4) rfl (fun v_ h95 hq => ?_)
  obtain ⟨rfl, rfl⟩ := hq
  show own_W l Z (⟨"com/example/befugnis/befugnis/Der", "next", "()Lcom/example/befugnis/befugnis/Der$Value;"⟩ : MethodName) prog_9_method_6_code 4 (some (.object "com/example/befugnis/befugnis/Der$Value")) ({ frames := 2, cells := 1, slots := 5, locals := 30 } : Room) n0 (fun v h => ∃ o : Addr, v = some (.ref o) ∧ h0.size ≤ o ∧ Keep h0 h [d] ∧ Exa Z h d "com/example/befugnis/befugnis/Der" ∧ Fld Z h d "com/example/befugnis/befugnis/Der" "bytes" "[B" (.ref r) ∧ Fld Z h d "com/example/befugnis/befugnis/Der" "at" "I" (.int ((5 : Int32) + L)) ∧ Fld Z h d "com/example/befugnis/befugnis/Der" "end" "I" (.int e) ∧ Exa Z h o "com/example/befugnis/befugnis/Der$Value" ∧ Fld Z h o "com/example/befugnis/befugnis/Der$Value" "bytes" "[B" (.ref r) ∧ Fld Z h o "com/example/befugnis/befugnis/Der$Value" "tag" "I" (.int (t0 &&& 255)) ∧ Fld Z h o "com/example/befugnis/befugnis/Der$Value" "start" "I" (.int 0) ∧ Fld Z h o "com/example/befugnis/befugnis/Der$Value" "contentStart" "I" (.int (((5 : Int32) + L) - L)) ∧ Fld Z h o "com/example/befugnis/befugnis/Der$Value" "end" "I" (.int ((5 : Int32) + L))) h0 0 0 4 #[.val (.ref d), .unset, .unset, .unset] [.int (own_ae (0 : Int32) e)]
  refine own_if_eq_t (pc' := 17) d5_4 (own_ae0 hne0) (by decide) (by decide) ?_
  refine own_aloadN (pc' := 18) d5_17 rfl rfl ?_
  refine own_getF (pc' := 21) (hw _ (List.mem_of_getElem? (i := 18) rfl)) F_d_at d5_18 rfl ?_
  refine own_istoreN (pc' := 22) (Ls' := #[.val (.ref d), .val (.int (0 : Int32)), .unset, .unset]) d5_21 rfl rfl ?_
  refine own_aloadN (pc' := 23) d5_22 rfl rfl ?_
  refine own_getF (pc' := 26) (hw _ (List.mem_of_getElem? (i := 16) rfl)) F_d_bytes d5_23 rfl ?_
  refine own_aloadN (pc' := 27) d5_26 rfl rfl ?_
  refine own_dup (pc' := 28) d5_27 rfl rfl ?_
  refine own_getF (pc' := 31) (hw _ (List.mem_of_getElem? (i := 18) rfl)) F_d_at d5_28 rfl ?_
  refine own_dupX1 (pc' := 32) d5_31 rfl rfl rfl ?_
  refine own_iconst (1 : Int32) (pc' := 33) d5_32 rfl rfl ?_
  refine own_iadd (pc' := 34) d5_33 rfl ?_
  refine own_putF (pc' := 37) (hw _ (List.mem_of_getElem? (i := 18) rfl)) F_d_at E_d (Or.inl (hw _ (List.mem_of_getElem? (i := 19) rfl))) (hw _ (List.mem_of_getElem? (i := 9) rfl)) ge_d (ty := .int) (by decide) rfl rfl d5_34 rfl (fun h96 Wr97 K98 => ?_)
  replace A_r := A_r.keep K98 (ninS (Ne.symm ne_d_r) nin0)
  replace E_d := E_d.wr Wr97
  replace F_d_bytes := F_d_bytes.other Wr97 (Or.inr (slot_ne (a0 := a0) (Or.inr (hw _ (List.mem_of_getElem? (i := 17) rfl))) (Or.inl (hw _ (List.mem_of_getElem? (i := 19) rfl))) (by decide) (t := (.array .byte)) (by decide) (t' := .int) (by decide)))
  replace F_d_at := F_d_at.same Wr97
  replace F_d_end := F_d_end.other Wr97 (Or.inr (slot_ne (a0 := a0) (Or.inr (hw _ (List.mem_of_getElem? (i := 21) rfl))) (Or.inl (hw _ (List.mem_of_getElem? (i := 19) rfl))) (by decide) (t := .int) (by decide) (t' := .int) (by decide)))
  replace hn0 : n0 ≤ h96.size := Nat.le_trans hn0 K98.1
  replace F_d_at : Fld Z h96 d "com/example/befugnis/befugnis/Der" "at" "I" (.int (1 : Int32)) := F_d_at
  refine own_baload (pc' := 38) (v := .int t0) A_r (by decide) ht0 d5_37 rfl ?_
  refine own_sipush (255 : Int32) (pc' := 41) d5_38 rfl rfl ?_
  refine own_iand (pc' := 42) d5_41 rfl ?_
  refine own_istoreN (pc' := 43) (Ls' := #[.val (.ref d), .val (.int (0 : Int32)), .val (.int (t0 &&& (255 : Int32))), .unset]) d5_42 rfl rfl ?_
  refine own_iloadN (pc' := 44) d5_43 rfl rfl ?_
  refine own_bipush (31 : Int32) (pc' := 46) d5_44 rfl rfl ?_
  refine own_iand (pc' := 47) d5_46 rfl ?_
  refine own_bipush (31 : Int32) (pc' := 49) d5_47 rfl rfl ?_
  refine own_ic_ne_t (pc' := 62) d5_49 htag (by decide) (by decide) ?_
  refine own_aloadN (pc' := 63) d5_62 rfl rfl ?_
  refine own_private (own_rl3 l Z a0 hw d r vs e L y0 y1 y2 h96 n0 hn0 hw1 hy0 hy1 hy2 hfits h128 hmin hmax hL hne ne_d_r ge_d A_r E_d F_d_bytes F_d_at F_d_end) E_d (hw _ (List.mem_of_getElem? (i := 32) rfl)) (hw _ (List.mem_of_getElem? (i := 33) rfl)) (hw _ (List.mem_of_getElem? (i := 34) rfl)) (hw _ (List.mem_of_getElem? (i := 9) rfl)) (hw _ (List.mem_of_getElem? (i := 3) rfl)) (hw _ (List.mem_of_getElem? (i := 35) rfl)) (plainFor_of_name own_pn1) (by decide) own_pd7 rfl (argsL := []) (rest := []) rfl rfl (W := 0) (Nat.le_refl _) (by decide) (by decide) (by decide) (by decide) rfl d5_63 (pc' := 66) rfl (fun v_ h99 hq => ?_)
  obtain ⟨rfl, K_1, E_1, F_1, F_2, F_3⟩ := hq
  show own_W l Z (⟨"com/example/befugnis/befugnis/Der", "next", "()Lcom/example/befugnis/befugnis/Der$Value;"⟩ : MethodName) prog_9_method_6_code 4 (some (.object "com/example/befugnis/befugnis/Der$Value")) ({ frames := 2, cells := 1, slots := 5, locals := 30 } : Room) n0 (fun v h => ∃ o : Addr, v = some (.ref o) ∧ h0.size ≤ o ∧ Keep h0 h [d] ∧ Exa Z h d "com/example/befugnis/befugnis/Der" ∧ Fld Z h d "com/example/befugnis/befugnis/Der" "bytes" "[B" (.ref r) ∧ Fld Z h d "com/example/befugnis/befugnis/Der" "at" "I" (.int ((5 : Int32) + L)) ∧ Fld Z h d "com/example/befugnis/befugnis/Der" "end" "I" (.int e) ∧ Exa Z h o "com/example/befugnis/befugnis/Der$Value" ∧ Fld Z h o "com/example/befugnis/befugnis/Der$Value" "bytes" "[B" (.ref r) ∧ Fld Z h o "com/example/befugnis/befugnis/Der$Value" "tag" "I" (.int (t0 &&& 255)) ∧ Fld Z h o "com/example/befugnis/befugnis/Der$Value" "start" "I" (.int 0) ∧ Fld Z h o "com/example/befugnis/befugnis/Der$Value" "contentStart" "I" (.int (((5 : Int32) + L) - L)) ∧ Fld Z h o "com/example/befugnis/befugnis/Der$Value" "end" "I" (.int ((5 : Int32) + L))) h99 0 0 66 #[.val (.ref d), .val (.int (0 : Int32)), .val (.int (t0 &&& (255 : Int32))), .unset] [.int L]
  replace A_r := A_r.keep K_1 (ninS (Ne.symm ne_d_r) nin0)
  replace E_d := E_1
  replace F_d_bytes := F_1
  replace F_d_at := F_2
  replace F_d_end := F_3
  replace hn0 : n0 ≤ h99.size := Nat.le_trans hn0 K_1.1
  refine own_istoreN (pc' := 67) (Ls' := #[.val (.ref d), .val (.int (0 : Int32)), .val (.int (t0 &&& (255 : Int32))), .val (.int L)]) d5_66 rfl rfl ?_
  refine own_iloadN (pc' := 68) d5_67 rfl rfl ?_
  refine own_aloadN (pc' := 69) d5_68 rfl rfl ?_
  refine own_getF (pc' := 72) (hw _ (List.mem_of_getElem? (i := 20) rfl)) F_d_end d5_69 rfl ?_
  refine own_aloadN (pc' := 73) d5_72 rfl rfl ?_
  refine own_getF (pc' := 76) (hw _ (List.mem_of_getElem? (i := 18) rfl)) F_d_at d5_73 rfl ?_
  refine own_isub (pc' := 77) d5_76 rfl ?_
  refine own_ic_le_t (pc' := 84) d5_77 hfit (by decide) (by decide) ?_
  refine own_aloadN (pc' := 85) d5_84 rfl rfl ?_
  refine own_dup (pc' := 86) d5_85 rfl rfl ?_
  refine own_getF (pc' := 89) (hw _ (List.mem_of_getElem? (i := 18) rfl)) F_d_at d5_86 rfl ?_
  refine own_iloadN (pc' := 90) d5_89 rfl rfl ?_
  refine own_iadd (pc' := 91) d5_90 rfl ?_
  refine own_putF (pc' := 94) (hw _ (List.mem_of_getElem? (i := 18) rfl)) F_d_at E_d (Or.inl (hw _ (List.mem_of_getElem? (i := 19) rfl))) (hw _ (List.mem_of_getElem? (i := 9) rfl)) ge_d (ty := .int) (by decide) rfl rfl d5_91 rfl (fun h100 Wr101 K102 => ?_)
  replace A_r := A_r.keep K102 (ninS (Ne.symm ne_d_r) nin0)
  replace E_d := E_d.wr Wr101
  replace F_d_bytes := F_d_bytes.other Wr101 (Or.inr (slot_ne (a0 := a0) (Or.inr (hw _ (List.mem_of_getElem? (i := 17) rfl))) (Or.inl (hw _ (List.mem_of_getElem? (i := 19) rfl))) (by decide) (t := (.array .byte)) (by decide) (t' := .int) (by decide)))
  replace F_d_at := F_d_at.same Wr101
  replace F_d_end := F_d_end.other Wr101 (Or.inr (slot_ne (a0 := a0) (Or.inr (hw _ (List.mem_of_getElem? (i := 21) rfl))) (Or.inl (hw _ (List.mem_of_getElem? (i := 19) rfl))) (by decide) (t := .int) (by decide) (t' := .int) (by decide)))
  replace hn0 : n0 ≤ h100.size := Nat.le_trans hn0 K102.1
  refine own_new (pc' := 97) (hw _ (List.mem_of_getElem? (i := 38) rfl)) (hw _ (List.mem_of_getElem? (i := 39) rfl)) (hw _ (List.mem_of_getElem? (i := 40) rfl)) d5_94 rfl (by decide) (by decide) (fun h103 o gt_o lt_o E104 E_o D_o => ?_)
  have ge_o : n0 ≤ o := Nat.le_trans hn0 gt_o
  have ne_d_o : d ≠ o := Nat.ne_of_lt (by have q := Nat.lt_of_lt_of_le E_d.lt (Nat.le_refl _); omega)
  have ne_r_o : r ≠ o := Nat.ne_of_lt (by have q := Nat.lt_of_lt_of_le A_r.lt (Nat.le_refl _); omega)
  replace A_r := A_r.ext E104
  replace E_d := E_d.ext E104
  replace F_d_bytes := F_d_bytes.ext E104
  replace F_d_at := F_d_at.ext E104
  replace F_d_end := F_d_end.ext E104
  replace hn0 : n0 ≤ h103.size := Nat.le_trans hn0 E104.1
  have F_o_bytes : Fld Z h103 o "com/example/befugnis/befugnis/Der$Value" "bytes" "[B" (.null) := D_o (Or.inr (hw _ (List.mem_of_getElem? (i := 46) rfl))) (ty := (.array .byte)) (by decide)
  have F_o_tag : Fld Z h103 o "com/example/befugnis/befugnis/Der$Value" "tag" "I" (.int (0 : Int32)) := D_o (Or.inr (hw _ (List.mem_of_getElem? (i := 48) rfl))) (ty := .int) (by decide)
  have F_o_start : Fld Z h103 o "com/example/befugnis/befugnis/Der$Value" "start" "I" (.int (0 : Int32)) := D_o (Or.inr (hw _ (List.mem_of_getElem? (i := 50) rfl))) (ty := .int) (by decide)
  have F_o_contentStart : Fld Z h103 o "com/example/befugnis/befugnis/Der$Value" "contentStart" "I" (.int (0 : Int32)) := D_o (Or.inr (hw _ (List.mem_of_getElem? (i := 52) rfl))) (ty := .int) (by decide)
  have F_o_end : Fld Z h103 o "com/example/befugnis/befugnis/Der$Value" "end" "I" (.int (0 : Int32)) := D_o (Or.inr (hw _ (List.mem_of_getElem? (i := 54) rfl))) (ty := .int) (by decide)
  have gt0_o : h0.size ≤ o := Nat.le_trans ((((Keep.refl h0 [d]).trans K98 (fun x hx => Or.inl hx)).trans K_1 (fun x hx => Or.inl hx)).trans K102 (fun x hx => Or.inl hx)).1 gt_o
  refine own_dup (pc' := 98) d5_97 rfl rfl ?_
  refine own_aloadN (pc' := 99) d5_98 rfl rfl ?_
  refine own_getF (pc' := 102) (hw _ (List.mem_of_getElem? (i := 16) rfl)) F_d_bytes d5_99 rfl ?_
  refine own_iloadN (pc' := 103) d5_102 rfl rfl ?_
  refine own_iloadN (pc' := 104) d5_103 rfl rfl ?_
  refine own_aloadN (pc' := 105) d5_104 rfl rfl ?_
  refine own_getF (pc' := 108) (hw _ (List.mem_of_getElem? (i := 18) rfl)) F_d_at d5_105 rfl ?_
  refine own_iloadN (pc' := 109) d5_108 rfl rfl ?_
  refine own_isub (pc' := 110) d5_109 rfl ?_
  refine own_aloadN (pc' := 111) d5_110 rfl rfl ?_
  refine own_getF (pc' := 114) (hw _ (List.mem_of_getElem? (i := 18) rfl)) F_d_at d5_111 rfl ?_
  refine own_specialRef (ret' := none) (own_mkVal l Z a0 hw o r (t0 &&& 255) 0 (((5 : Int32) + L) - L) ((5 : Int32) + L) h103 n0 hn0 ge_o E_o F_o_bytes F_o_tag F_o_start F_o_contentStart F_o_end) (hw _ (List.mem_of_getElem? (i := 41) rfl)) (hw _ (List.mem_of_getElem? (i := 42) rfl)) (hw _ (List.mem_of_getElem? (i := 40) rfl)) (hw _ (List.mem_of_getElem? (i := 43) rfl)) rfl (plainFor_of_name own_pn3) (by decide) own_pd8 rfl (argsL := [.ref r, .int (t0 &&& (255 : Int32)), .int (0 : Int32), .int (((5 : Int32) + L) - L), .int ((5 : Int32) + L)]) (rest := [.ref o]) rfl rfl (W := 1) (Nat.le_refl _) (by decide) (by decide) (by decide) (by decide) rfl d5_114 (pc' := 117) rfl (fun v_ h105 hq => ?_)
  obtain ⟨rfl, K_2, E_2, G_1, G_2, G_3, G_4, G_5⟩ := hq
  show own_W l Z (⟨"com/example/befugnis/befugnis/Der", "next", "()Lcom/example/befugnis/befugnis/Der$Value;"⟩ : MethodName) prog_9_method_6_code 4 (some (.object "com/example/befugnis/befugnis/Der$Value")) ({ frames := 2, cells := 1, slots := 5, locals := 30 } : Room) n0 (fun v h => ∃ o : Addr, v = some (.ref o) ∧ h0.size ≤ o ∧ Keep h0 h [d] ∧ Exa Z h d "com/example/befugnis/befugnis/Der" ∧ Fld Z h d "com/example/befugnis/befugnis/Der" "bytes" "[B" (.ref r) ∧ Fld Z h d "com/example/befugnis/befugnis/Der" "at" "I" (.int ((5 : Int32) + L)) ∧ Fld Z h d "com/example/befugnis/befugnis/Der" "end" "I" (.int e) ∧ Exa Z h o "com/example/befugnis/befugnis/Der$Value" ∧ Fld Z h o "com/example/befugnis/befugnis/Der$Value" "bytes" "[B" (.ref r) ∧ Fld Z h o "com/example/befugnis/befugnis/Der$Value" "tag" "I" (.int (t0 &&& 255)) ∧ Fld Z h o "com/example/befugnis/befugnis/Der$Value" "start" "I" (.int 0) ∧ Fld Z h o "com/example/befugnis/befugnis/Der$Value" "contentStart" "I" (.int (((5 : Int32) + L) - L)) ∧ Fld Z h o "com/example/befugnis/befugnis/Der$Value" "end" "I" (.int ((5 : Int32) + L))) h105 1 5 117 #[.val (.ref d), .val (.int (0 : Int32)), .val (.int (t0 &&& (255 : Int32))), .val (.int L)] [.ref o]
  replace A_r := A_r.keep K_2 (ninS ne_r_o nin0)
  replace E_d := E_d.keep K_2
  replace F_d_bytes := F_d_bytes.keep K_2 (ninS ne_d_o nin0)
  replace F_d_at := F_d_at.keep K_2 (ninS ne_d_o nin0)
  replace F_d_end := F_d_end.keep K_2 (ninS ne_d_o nin0)
  replace E_o := E_2
  replace F_o_bytes := G_1
  replace F_o_tag := G_2
  replace F_o_start := G_3
  replace F_o_contentStart := G_4
  replace F_o_end := G_5
  replace hn0 : n0 ≤ h105.size := Nat.le_trans hn0 K_2.1
  exact own_aret rfl rfl rfl d5_117 ⟨o, rfl, gt0_o, ((((((Keep.refl h0 [d]).trans K98 (fun x hx => Or.inl hx)).trans K_1 (fun x hx => Or.inl hx)).trans K102 (fun x hx => Or.inl hx)).ext E104).trans K_2 (allS (Or.inr gt0_o) all0)), E_d, F_d_bytes, F_d_at, F_d_end, E_o, F_o_bytes, F_o_tag, F_o_start, F_o_contentStart, F_o_end⟩
set_option maxRecDepth 65536 in
set_option maxHeartbeats 40000000 in
theorem own_single0 (l : Launch) (Z : State) (a0 : Array Value) (hw : ∀ d ∈ tables_1, d.before a0 Z = true) (r : Addr) (vs : List Value) (e L t0 : Int32) (w : Int32) (h0 : Heap) (n0 : Nat) (hn0 : n0 ≤ h0.size) (hw1 : vs[(1 : Int32).toNatClampNeg]? = some (.int w)) (hs : (w &&& 255) < 128) (hL : (w &&& 255) = L) (hne0 : ¬ (0 : Int32) = e) (hne : ¬ (1 : Int32) = e) (ht0 : vs[(0 : Int32).toNatClampNeg]? = some (.int t0)) (htag : ¬ ((t0 &&& 255) &&& 31) = 31) (hfit : ¬ e - (2 : Int32) < L) (hend : ((2 : Int32) + L) = e) (A_r : own_A Z h0 r .byte vs) (hlen : vs.length.toInt32 = e) :
    own_W l Z (⟨"com/example/befugnis/befugnis/Der", "single", "([B)Lcom/example/befugnis/befugnis/Der$Value;"⟩ : MethodName) prog_9_method_3_code 3 (some (.object "com/example/befugnis/befugnis/Der$Value")) ({ frames := 3, cells := 2, slots := 8, locals := 45 } : Room) n0 (fun v h => ∃ o : Addr, v = some (.ref o) ∧ h0.size ≤ o ∧ Keep h0 h [] ∧ Exa Z h o "com/example/befugnis/befugnis/Der$Value" ∧ Fld Z h o "com/example/befugnis/befugnis/Der$Value" "bytes" "[B" (.ref r) ∧ Fld Z h o "com/example/befugnis/befugnis/Der$Value" "tag" "I" (.int (t0 &&& 255)) ∧ Fld Z h o "com/example/befugnis/befugnis/Der$Value" "start" "I" (.int 0) ∧ Fld Z h o "com/example/befugnis/befugnis/Der$Value" "contentStart" "I" (.int (((2 : Int32) + L) - L)) ∧ Fld Z h o "com/example/befugnis/befugnis/Der$Value" "end" "I" (.int ((2 : Int32) + L))) h0 0 0 0 #[.val (.ref r), .unset, .unset] [] := by
  refine own_aloadN (pc' := 1) d1_0 rfl rfl ?_
  refine own_static (own_of l Z a0 hw r _ e h0 n0 hn0 A_r hlen) (hw _ (List.mem_of_getElem? (i := 5) rfl)) (hw _ (List.mem_of_getElem? (i := 6) rfl)) (hw _ (List.mem_of_getElem? (i := 3) rfl)) (hw _ (List.mem_of_getElem? (i := 7) rfl)) (plainFor_of_name own_pn1) (by decide) own_pd2 rfl (argsL := [.ref r]) (rest := []) rfl rfl (W := 0) (Nat.le_refl _) (by decide) (by decide) (by decide) (by decide) rfl d1_1 (pc' := 4) rfl (fun v_ h106 hq => ?_)
  obtain ⟨d, rfl, gt_d, K_1, E_d, F_d_bytes, F_d_at, F_d_end⟩ := hq
  show own_W l Z (⟨"com/example/befugnis/befugnis/Der", "single", "([B)Lcom/example/befugnis/befugnis/Der$Value;"⟩ : MethodName) prog_9_method_3_code 3 (some (.object "com/example/befugnis/befugnis/Der$Value")) ({ frames := 3, cells := 2, slots := 8, locals := 45 } : Room) n0 (fun v h => ∃ o : Addr, v = some (.ref o) ∧ h0.size ≤ o ∧ Keep h0 h [] ∧ Exa Z h o "com/example/befugnis/befugnis/Der$Value" ∧ Fld Z h o "com/example/befugnis/befugnis/Der$Value" "bytes" "[B" (.ref r) ∧ Fld Z h o "com/example/befugnis/befugnis/Der$Value" "tag" "I" (.int (t0 &&& 255)) ∧ Fld Z h o "com/example/befugnis/befugnis/Der$Value" "start" "I" (.int 0) ∧ Fld Z h o "com/example/befugnis/befugnis/Der$Value" "contentStart" "I" (.int (((2 : Int32) + L) - L)) ∧ Fld Z h o "com/example/befugnis/befugnis/Der$Value" "end" "I" (.int ((2 : Int32) + L))) h106 1 3 4 #[.val (.ref r), .unset, .unset] [.ref d]
  have ge_d : n0 ≤ d := Nat.le_trans hn0 gt_d
  have ne_d_r : d ≠ r := Ne.symm (Nat.ne_of_lt (by have q := Nat.lt_of_lt_of_le A_r.lt (Nat.le_refl _); omega))
  replace A_r := A_r.keep K_1 nin0
  replace hn0 : n0 ≤ h106.size := Nat.le_trans hn0 K_1.1
  refine own_astoreN (pc' := 5) (Ls' := #[.val (.ref r), .val (.ref d), .unset]) d1_4 rfl rfl ?_
  refine own_aloadN (pc' := 6) d1_5 rfl rfl ?_
  refine own_virtual (own_next0 l Z a0 hw d r vs e L t0 w h106 n0 hn0 hw1 hs hL hne0 hne ht0 htag hfit ne_d_r ge_d A_r E_d F_d_bytes F_d_at F_d_end) E_d (hw _ (List.mem_of_getElem? (i := 22) rfl)) (hw _ (List.mem_of_getElem? (i := 23) rfl)) (hw _ (List.mem_of_getElem? (i := 25) rfl)) (hw _ (List.mem_of_getElem? (i := 24) rfl)) (hw _ (List.mem_of_getElem? (i := 3) rfl)) (hw _ (List.mem_of_getElem? (i := 26) rfl)) (plainFor_of_name own_pn1) (by decide) own_pd5 rfl (argsL := []) (rest := []) rfl rfl (W := 0) (Nat.le_refl _) (by decide) (by decide) (by decide) (by decide) rfl d1_6 (pc' := 9) rfl (fun v_ h107 hq => ?_)
  obtain ⟨o, rfl, gt_o, K_2, E_2, G_1, G_2, G_3, E_o, H_1, H_2, H_3, H_4, H_5⟩ := hq
  show own_W l Z (⟨"com/example/befugnis/befugnis/Der", "single", "([B)Lcom/example/befugnis/befugnis/Der$Value;"⟩ : MethodName) prog_9_method_3_code 3 (some (.object "com/example/befugnis/befugnis/Der$Value")) ({ frames := 3, cells := 2, slots := 8, locals := 45 } : Room) n0 (fun v h => ∃ o : Addr, v = some (.ref o) ∧ h0.size ≤ o ∧ Keep h0 h [] ∧ Exa Z h o "com/example/befugnis/befugnis/Der$Value" ∧ Fld Z h o "com/example/befugnis/befugnis/Der$Value" "bytes" "[B" (.ref r) ∧ Fld Z h o "com/example/befugnis/befugnis/Der$Value" "tag" "I" (.int (t0 &&& 255)) ∧ Fld Z h o "com/example/befugnis/befugnis/Der$Value" "start" "I" (.int 0) ∧ Fld Z h o "com/example/befugnis/befugnis/Der$Value" "contentStart" "I" (.int (((2 : Int32) + L) - L)) ∧ Fld Z h o "com/example/befugnis/befugnis/Der$Value" "end" "I" (.int ((2 : Int32) + L))) h107 2 8 9 #[.val (.ref r), .val (.ref d), .unset] [.ref o]
  have gt0_o : h0.size ≤ o := Nat.le_trans K_1.1 gt_o
  replace A_r := A_r.keep K_2 (ninS (Ne.symm ne_d_r) nin0)
  replace E_d := E_2
  replace F_d_bytes := G_1
  replace F_d_at := G_2
  replace F_d_end := G_3
  replace hn0 : n0 ≤ h107.size := Nat.le_trans hn0 K_2.1
  refine own_astoreN (pc' := 10) (Ls' := #[.val (.ref r), .val (.ref d), .val (.ref o)]) d1_9 rfl rfl ?_
  refine own_aloadN (pc' := 11) d1_10 rfl rfl ?_
  refine own_virtual (own_aeW l Z a0 hw d r ((2 : Int32) + L) e h107 n0 hn0 E_d F_d_bytes F_d_at F_d_end) E_d (hw _ (List.mem_of_getElem? (i := 27) rfl)) (hw _ (List.mem_of_getElem? (i := 28) rfl)) (hw _ (List.mem_of_getElem? (i := 30) rfl)) (hw _ (List.mem_of_getElem? (i := 29) rfl)) (hw _ (List.mem_of_getElem? (i := 3) rfl)) (hw _ (List.mem_of_getElem? (i := 31) rfl)) (plainFor_of_name own_pn1) (by decide) own_pd6 rfl (argsL := []) (rest := []) rfl rfl (W := 0) (Nat.le_refl _) (by decide) (by decide) (by decide) (by decide) rfl d1_11 (pc' := 14) rfl (fun v_ h108 hq => ?_)
  obtain ⟨rfl, rfl⟩ := hq
  show own_W l Z (⟨"com/example/befugnis/befugnis/Der", "single", "([B)Lcom/example/befugnis/befugnis/Der$Value;"⟩ : MethodName) prog_9_method_3_code 3 (some (.object "com/example/befugnis/befugnis/Der$Value")) ({ frames := 3, cells := 2, slots := 8, locals := 45 } : Room) n0 (fun v h => ∃ o : Addr, v = some (.ref o) ∧ h0.size ≤ o ∧ Keep h0 h [] ∧ Exa Z h o "com/example/befugnis/befugnis/Der$Value" ∧ Fld Z h o "com/example/befugnis/befugnis/Der$Value" "bytes" "[B" (.ref r) ∧ Fld Z h o "com/example/befugnis/befugnis/Der$Value" "tag" "I" (.int (t0 &&& 255)) ∧ Fld Z h o "com/example/befugnis/befugnis/Der$Value" "start" "I" (.int 0) ∧ Fld Z h o "com/example/befugnis/befugnis/Der$Value" "contentStart" "I" (.int (((2 : Int32) + L) - L)) ∧ Fld Z h o "com/example/befugnis/befugnis/Der$Value" "end" "I" (.int ((2 : Int32) + L))) h107 2 8 14 #[.val (.ref r), .val (.ref d), .val (.ref o)] [.int (own_ae ((2 : Int32) + L) e)]
  refine own_if_ne_t (pc' := 27) d1_14 (by unfold own_ae; rw [if_neg (fun q => q hend)]; decide) (by decide) (by decide) ?_
  refine own_aloadN (pc' := 28) d1_27 rfl rfl ?_
  exact own_aret rfl rfl rfl d1_28 ⟨o, rfl, gt0_o, K_1.trans K_2 (allS (Or.inr gt_d) all0), E_o, H_1, H_2, H_3, H_4, H_5⟩
set_option maxRecDepth 65536 in
set_option maxHeartbeats 40000000 in
theorem own_single1 (l : Launch) (Z : State) (a0 : Array Value) (hw : ∀ d ∈ tables_1, d.before a0 Z = true) (r : Addr) (vs : List Value) (e L t0 : Int32) (y0 : Int32) (h0 : Heap) (n0 : Nat) (hn0 : n0 ≤ h0.size) (hw1 : vs[(1 : Int32).toNatClampNeg]? = some (.int (-127 : Int32))) (hy0 : vs[(2 : Int32).toNatClampNeg]? = some (.int y0)) (hfits : ¬ e - 2 < (1 : Int32)) (h128 : ¬ (own_v1 y0) < 128) (hmin : ¬ ((own_v1 y0) >>> (((8 : Int32) * ((1 : Int32) - (1 : Int32))).toInt64 &&& 63)) = 0) (hmax : ¬ 2147483647 < (own_v1 y0)) (hL : (own_v1 y0).toInt32 = L) (hne0 : ¬ (0 : Int32) = e) (hne : ¬ (1 : Int32) = e) (ht0 : vs[(0 : Int32).toNatClampNeg]? = some (.int t0)) (htag : ¬ ((t0 &&& 255) &&& 31) = 31) (hfit : ¬ e - (3 : Int32) < L) (hend : ((3 : Int32) + L) = e) (A_r : own_A Z h0 r .byte vs) (hlen : vs.length.toInt32 = e) :
    own_W l Z (⟨"com/example/befugnis/befugnis/Der", "single", "([B)Lcom/example/befugnis/befugnis/Der$Value;"⟩ : MethodName) prog_9_method_3_code 3 (some (.object "com/example/befugnis/befugnis/Der$Value")) ({ frames := 3, cells := 2, slots := 8, locals := 45 } : Room) n0 (fun v h => ∃ o : Addr, v = some (.ref o) ∧ h0.size ≤ o ∧ Keep h0 h [] ∧ Exa Z h o "com/example/befugnis/befugnis/Der$Value" ∧ Fld Z h o "com/example/befugnis/befugnis/Der$Value" "bytes" "[B" (.ref r) ∧ Fld Z h o "com/example/befugnis/befugnis/Der$Value" "tag" "I" (.int (t0 &&& 255)) ∧ Fld Z h o "com/example/befugnis/befugnis/Der$Value" "start" "I" (.int 0) ∧ Fld Z h o "com/example/befugnis/befugnis/Der$Value" "contentStart" "I" (.int (((3 : Int32) + L) - L)) ∧ Fld Z h o "com/example/befugnis/befugnis/Der$Value" "end" "I" (.int ((3 : Int32) + L))) h0 0 0 0 #[.val (.ref r), .unset, .unset] [] := by
  refine own_aloadN (pc' := 1) d1_0 rfl rfl ?_
  refine own_static (own_of l Z a0 hw r _ e h0 n0 hn0 A_r hlen) (hw _ (List.mem_of_getElem? (i := 5) rfl)) (hw _ (List.mem_of_getElem? (i := 6) rfl)) (hw _ (List.mem_of_getElem? (i := 3) rfl)) (hw _ (List.mem_of_getElem? (i := 7) rfl)) (plainFor_of_name own_pn1) (by decide) own_pd2 rfl (argsL := [.ref r]) (rest := []) rfl rfl (W := 0) (Nat.le_refl _) (by decide) (by decide) (by decide) (by decide) rfl d1_1 (pc' := 4) rfl (fun v_ h109 hq => ?_)
  obtain ⟨d, rfl, gt_d, K_1, E_d, F_d_bytes, F_d_at, F_d_end⟩ := hq
  show own_W l Z (⟨"com/example/befugnis/befugnis/Der", "single", "([B)Lcom/example/befugnis/befugnis/Der$Value;"⟩ : MethodName) prog_9_method_3_code 3 (some (.object "com/example/befugnis/befugnis/Der$Value")) ({ frames := 3, cells := 2, slots := 8, locals := 45 } : Room) n0 (fun v h => ∃ o : Addr, v = some (.ref o) ∧ h0.size ≤ o ∧ Keep h0 h [] ∧ Exa Z h o "com/example/befugnis/befugnis/Der$Value" ∧ Fld Z h o "com/example/befugnis/befugnis/Der$Value" "bytes" "[B" (.ref r) ∧ Fld Z h o "com/example/befugnis/befugnis/Der$Value" "tag" "I" (.int (t0 &&& 255)) ∧ Fld Z h o "com/example/befugnis/befugnis/Der$Value" "start" "I" (.int 0) ∧ Fld Z h o "com/example/befugnis/befugnis/Der$Value" "contentStart" "I" (.int (((3 : Int32) + L) - L)) ∧ Fld Z h o "com/example/befugnis/befugnis/Der$Value" "end" "I" (.int ((3 : Int32) + L))) h109 1 3 4 #[.val (.ref r), .unset, .unset] [.ref d]
  have ge_d : n0 ≤ d := Nat.le_trans hn0 gt_d
  have ne_d_r : d ≠ r := Ne.symm (Nat.ne_of_lt (by have q := Nat.lt_of_lt_of_le A_r.lt (Nat.le_refl _); omega))
  replace A_r := A_r.keep K_1 nin0
  replace hn0 : n0 ≤ h109.size := Nat.le_trans hn0 K_1.1
  refine own_astoreN (pc' := 5) (Ls' := #[.val (.ref r), .val (.ref d), .unset]) d1_4 rfl rfl ?_
  refine own_aloadN (pc' := 6) d1_5 rfl rfl ?_
  refine own_virtual (own_next1 l Z a0 hw d r vs e L t0 y0 h109 n0 hn0 hw1 hy0 hfits h128 hmin hmax hL hne0 hne ht0 htag hfit ne_d_r ge_d A_r E_d F_d_bytes F_d_at F_d_end) E_d (hw _ (List.mem_of_getElem? (i := 22) rfl)) (hw _ (List.mem_of_getElem? (i := 23) rfl)) (hw _ (List.mem_of_getElem? (i := 25) rfl)) (hw _ (List.mem_of_getElem? (i := 24) rfl)) (hw _ (List.mem_of_getElem? (i := 3) rfl)) (hw _ (List.mem_of_getElem? (i := 26) rfl)) (plainFor_of_name own_pn1) (by decide) own_pd5 rfl (argsL := []) (rest := []) rfl rfl (W := 0) (Nat.le_refl _) (by decide) (by decide) (by decide) (by decide) rfl d1_6 (pc' := 9) rfl (fun v_ h110 hq => ?_)
  obtain ⟨o, rfl, gt_o, K_2, E_2, G_1, G_2, G_3, E_o, H_1, H_2, H_3, H_4, H_5⟩ := hq
  show own_W l Z (⟨"com/example/befugnis/befugnis/Der", "single", "([B)Lcom/example/befugnis/befugnis/Der$Value;"⟩ : MethodName) prog_9_method_3_code 3 (some (.object "com/example/befugnis/befugnis/Der$Value")) ({ frames := 3, cells := 2, slots := 8, locals := 45 } : Room) n0 (fun v h => ∃ o : Addr, v = some (.ref o) ∧ h0.size ≤ o ∧ Keep h0 h [] ∧ Exa Z h o "com/example/befugnis/befugnis/Der$Value" ∧ Fld Z h o "com/example/befugnis/befugnis/Der$Value" "bytes" "[B" (.ref r) ∧ Fld Z h o "com/example/befugnis/befugnis/Der$Value" "tag" "I" (.int (t0 &&& 255)) ∧ Fld Z h o "com/example/befugnis/befugnis/Der$Value" "start" "I" (.int 0) ∧ Fld Z h o "com/example/befugnis/befugnis/Der$Value" "contentStart" "I" (.int (((3 : Int32) + L) - L)) ∧ Fld Z h o "com/example/befugnis/befugnis/Der$Value" "end" "I" (.int ((3 : Int32) + L))) h110 2 8 9 #[.val (.ref r), .val (.ref d), .unset] [.ref o]
  have gt0_o : h0.size ≤ o := Nat.le_trans K_1.1 gt_o
  replace A_r := A_r.keep K_2 (ninS (Ne.symm ne_d_r) nin0)
  replace E_d := E_2
  replace F_d_bytes := G_1
  replace F_d_at := G_2
  replace F_d_end := G_3
  replace hn0 : n0 ≤ h110.size := Nat.le_trans hn0 K_2.1
  refine own_astoreN (pc' := 10) (Ls' := #[.val (.ref r), .val (.ref d), .val (.ref o)]) d1_9 rfl rfl ?_
  refine own_aloadN (pc' := 11) d1_10 rfl rfl ?_
  refine own_virtual (own_aeW l Z a0 hw d r ((3 : Int32) + L) e h110 n0 hn0 E_d F_d_bytes F_d_at F_d_end) E_d (hw _ (List.mem_of_getElem? (i := 27) rfl)) (hw _ (List.mem_of_getElem? (i := 28) rfl)) (hw _ (List.mem_of_getElem? (i := 30) rfl)) (hw _ (List.mem_of_getElem? (i := 29) rfl)) (hw _ (List.mem_of_getElem? (i := 3) rfl)) (hw _ (List.mem_of_getElem? (i := 31) rfl)) (plainFor_of_name own_pn1) (by decide) own_pd6 rfl (argsL := []) (rest := []) rfl rfl (W := 0) (Nat.le_refl _) (by decide) (by decide) (by decide) (by decide) rfl d1_11 (pc' := 14) rfl (fun v_ h111 hq => ?_)
  obtain ⟨rfl, rfl⟩ := hq
  show own_W l Z (⟨"com/example/befugnis/befugnis/Der", "single", "([B)Lcom/example/befugnis/befugnis/Der$Value;"⟩ : MethodName) prog_9_method_3_code 3 (some (.object "com/example/befugnis/befugnis/Der$Value")) ({ frames := 3, cells := 2, slots := 8, locals := 45 } : Room) n0 (fun v h => ∃ o : Addr, v = some (.ref o) ∧ h0.size ≤ o ∧ Keep h0 h [] ∧ Exa Z h o "com/example/befugnis/befugnis/Der$Value" ∧ Fld Z h o "com/example/befugnis/befugnis/Der$Value" "bytes" "[B" (.ref r) ∧ Fld Z h o "com/example/befugnis/befugnis/Der$Value" "tag" "I" (.int (t0 &&& 255)) ∧ Fld Z h o "com/example/befugnis/befugnis/Der$Value" "start" "I" (.int 0) ∧ Fld Z h o "com/example/befugnis/befugnis/Der$Value" "contentStart" "I" (.int (((3 : Int32) + L) - L)) ∧ Fld Z h o "com/example/befugnis/befugnis/Der$Value" "end" "I" (.int ((3 : Int32) + L))) h110 2 8 14 #[.val (.ref r), .val (.ref d), .val (.ref o)] [.int (own_ae ((3 : Int32) + L) e)]
  refine own_if_ne_t (pc' := 27) d1_14 (by unfold own_ae; rw [if_neg (fun q => q hend)]; decide) (by decide) (by decide) ?_
  refine own_aloadN (pc' := 28) d1_27 rfl rfl ?_
  exact own_aret rfl rfl rfl d1_28 ⟨o, rfl, gt0_o, K_1.trans K_2 (allS (Or.inr gt_d) all0), E_o, H_1, H_2, H_3, H_4, H_5⟩
set_option maxRecDepth 65536 in
set_option maxHeartbeats 40000000 in
theorem own_single2 (l : Launch) (Z : State) (a0 : Array Value) (hw : ∀ d ∈ tables_1, d.before a0 Z = true) (r : Addr) (vs : List Value) (e L t0 : Int32) (y0 y1 : Int32) (h0 : Heap) (n0 : Nat) (hn0 : n0 ≤ h0.size) (hw1 : vs[(1 : Int32).toNatClampNeg]? = some (.int (-126 : Int32))) (hy0 : vs[(2 : Int32).toNatClampNeg]? = some (.int y0)) (hy1 : vs[(3 : Int32).toNatClampNeg]? = some (.int y1)) (hfits : ¬ e - 2 < (2 : Int32)) (h128 : ¬ (own_v2 y0 y1) < 128) (hmin : ¬ ((own_v2 y0 y1) >>> (((8 : Int32) * ((2 : Int32) - (1 : Int32))).toInt64 &&& 63)) = 0) (hmax : ¬ 2147483647 < (own_v2 y0 y1)) (hL : (own_v2 y0 y1).toInt32 = L) (hne0 : ¬ (0 : Int32) = e) (hne : ¬ (1 : Int32) = e) (ht0 : vs[(0 : Int32).toNatClampNeg]? = some (.int t0)) (htag : ¬ ((t0 &&& 255) &&& 31) = 31) (hfit : ¬ e - (4 : Int32) < L) (hend : ((4 : Int32) + L) = e) (A_r : own_A Z h0 r .byte vs) (hlen : vs.length.toInt32 = e) :
    own_W l Z (⟨"com/example/befugnis/befugnis/Der", "single", "([B)Lcom/example/befugnis/befugnis/Der$Value;"⟩ : MethodName) prog_9_method_3_code 3 (some (.object "com/example/befugnis/befugnis/Der$Value")) ({ frames := 3, cells := 2, slots := 8, locals := 45 } : Room) n0 (fun v h => ∃ o : Addr, v = some (.ref o) ∧ h0.size ≤ o ∧ Keep h0 h [] ∧ Exa Z h o "com/example/befugnis/befugnis/Der$Value" ∧ Fld Z h o "com/example/befugnis/befugnis/Der$Value" "bytes" "[B" (.ref r) ∧ Fld Z h o "com/example/befugnis/befugnis/Der$Value" "tag" "I" (.int (t0 &&& 255)) ∧ Fld Z h o "com/example/befugnis/befugnis/Der$Value" "start" "I" (.int 0) ∧ Fld Z h o "com/example/befugnis/befugnis/Der$Value" "contentStart" "I" (.int (((4 : Int32) + L) - L)) ∧ Fld Z h o "com/example/befugnis/befugnis/Der$Value" "end" "I" (.int ((4 : Int32) + L))) h0 0 0 0 #[.val (.ref r), .unset, .unset] [] := by
  refine own_aloadN (pc' := 1) d1_0 rfl rfl ?_
  refine own_static (own_of l Z a0 hw r _ e h0 n0 hn0 A_r hlen) (hw _ (List.mem_of_getElem? (i := 5) rfl)) (hw _ (List.mem_of_getElem? (i := 6) rfl)) (hw _ (List.mem_of_getElem? (i := 3) rfl)) (hw _ (List.mem_of_getElem? (i := 7) rfl)) (plainFor_of_name own_pn1) (by decide) own_pd2 rfl (argsL := [.ref r]) (rest := []) rfl rfl (W := 0) (Nat.le_refl _) (by decide) (by decide) (by decide) (by decide) rfl d1_1 (pc' := 4) rfl (fun v_ h112 hq => ?_)
  obtain ⟨d, rfl, gt_d, K_1, E_d, F_d_bytes, F_d_at, F_d_end⟩ := hq
  show own_W l Z (⟨"com/example/befugnis/befugnis/Der", "single", "([B)Lcom/example/befugnis/befugnis/Der$Value;"⟩ : MethodName) prog_9_method_3_code 3 (some (.object "com/example/befugnis/befugnis/Der$Value")) ({ frames := 3, cells := 2, slots := 8, locals := 45 } : Room) n0 (fun v h => ∃ o : Addr, v = some (.ref o) ∧ h0.size ≤ o ∧ Keep h0 h [] ∧ Exa Z h o "com/example/befugnis/befugnis/Der$Value" ∧ Fld Z h o "com/example/befugnis/befugnis/Der$Value" "bytes" "[B" (.ref r) ∧ Fld Z h o "com/example/befugnis/befugnis/Der$Value" "tag" "I" (.int (t0 &&& 255)) ∧ Fld Z h o "com/example/befugnis/befugnis/Der$Value" "start" "I" (.int 0) ∧ Fld Z h o "com/example/befugnis/befugnis/Der$Value" "contentStart" "I" (.int (((4 : Int32) + L) - L)) ∧ Fld Z h o "com/example/befugnis/befugnis/Der$Value" "end" "I" (.int ((4 : Int32) + L))) h112 1 3 4 #[.val (.ref r), .unset, .unset] [.ref d]
  have ge_d : n0 ≤ d := Nat.le_trans hn0 gt_d
  have ne_d_r : d ≠ r := Ne.symm (Nat.ne_of_lt (by have q := Nat.lt_of_lt_of_le A_r.lt (Nat.le_refl _); omega))
  replace A_r := A_r.keep K_1 nin0
  replace hn0 : n0 ≤ h112.size := Nat.le_trans hn0 K_1.1
  refine own_astoreN (pc' := 5) (Ls' := #[.val (.ref r), .val (.ref d), .unset]) d1_4 rfl rfl ?_
  refine own_aloadN (pc' := 6) d1_5 rfl rfl ?_
  refine own_virtual (own_next2 l Z a0 hw d r vs e L t0 y0 y1 h112 n0 hn0 hw1 hy0 hy1 hfits h128 hmin hmax hL hne0 hne ht0 htag hfit ne_d_r ge_d A_r E_d F_d_bytes F_d_at F_d_end) E_d (hw _ (List.mem_of_getElem? (i := 22) rfl)) (hw _ (List.mem_of_getElem? (i := 23) rfl)) (hw _ (List.mem_of_getElem? (i := 25) rfl)) (hw _ (List.mem_of_getElem? (i := 24) rfl)) (hw _ (List.mem_of_getElem? (i := 3) rfl)) (hw _ (List.mem_of_getElem? (i := 26) rfl)) (plainFor_of_name own_pn1) (by decide) own_pd5 rfl (argsL := []) (rest := []) rfl rfl (W := 0) (Nat.le_refl _) (by decide) (by decide) (by decide) (by decide) rfl d1_6 (pc' := 9) rfl (fun v_ h113 hq => ?_)
  obtain ⟨o, rfl, gt_o, K_2, E_2, G_1, G_2, G_3, E_o, H_1, H_2, H_3, H_4, H_5⟩ := hq
  show own_W l Z (⟨"com/example/befugnis/befugnis/Der", "single", "([B)Lcom/example/befugnis/befugnis/Der$Value;"⟩ : MethodName) prog_9_method_3_code 3 (some (.object "com/example/befugnis/befugnis/Der$Value")) ({ frames := 3, cells := 2, slots := 8, locals := 45 } : Room) n0 (fun v h => ∃ o : Addr, v = some (.ref o) ∧ h0.size ≤ o ∧ Keep h0 h [] ∧ Exa Z h o "com/example/befugnis/befugnis/Der$Value" ∧ Fld Z h o "com/example/befugnis/befugnis/Der$Value" "bytes" "[B" (.ref r) ∧ Fld Z h o "com/example/befugnis/befugnis/Der$Value" "tag" "I" (.int (t0 &&& 255)) ∧ Fld Z h o "com/example/befugnis/befugnis/Der$Value" "start" "I" (.int 0) ∧ Fld Z h o "com/example/befugnis/befugnis/Der$Value" "contentStart" "I" (.int (((4 : Int32) + L) - L)) ∧ Fld Z h o "com/example/befugnis/befugnis/Der$Value" "end" "I" (.int ((4 : Int32) + L))) h113 2 8 9 #[.val (.ref r), .val (.ref d), .unset] [.ref o]
  have gt0_o : h0.size ≤ o := Nat.le_trans K_1.1 gt_o
  replace A_r := A_r.keep K_2 (ninS (Ne.symm ne_d_r) nin0)
  replace E_d := E_2
  replace F_d_bytes := G_1
  replace F_d_at := G_2
  replace F_d_end := G_3
  replace hn0 : n0 ≤ h113.size := Nat.le_trans hn0 K_2.1
  refine own_astoreN (pc' := 10) (Ls' := #[.val (.ref r), .val (.ref d), .val (.ref o)]) d1_9 rfl rfl ?_
  refine own_aloadN (pc' := 11) d1_10 rfl rfl ?_
  refine own_virtual (own_aeW l Z a0 hw d r ((4 : Int32) + L) e h113 n0 hn0 E_d F_d_bytes F_d_at F_d_end) E_d (hw _ (List.mem_of_getElem? (i := 27) rfl)) (hw _ (List.mem_of_getElem? (i := 28) rfl)) (hw _ (List.mem_of_getElem? (i := 30) rfl)) (hw _ (List.mem_of_getElem? (i := 29) rfl)) (hw _ (List.mem_of_getElem? (i := 3) rfl)) (hw _ (List.mem_of_getElem? (i := 31) rfl)) (plainFor_of_name own_pn1) (by decide) own_pd6 rfl (argsL := []) (rest := []) rfl rfl (W := 0) (Nat.le_refl _) (by decide) (by decide) (by decide) (by decide) rfl d1_11 (pc' := 14) rfl (fun v_ h114 hq => ?_)
  obtain ⟨rfl, rfl⟩ := hq
  show own_W l Z (⟨"com/example/befugnis/befugnis/Der", "single", "([B)Lcom/example/befugnis/befugnis/Der$Value;"⟩ : MethodName) prog_9_method_3_code 3 (some (.object "com/example/befugnis/befugnis/Der$Value")) ({ frames := 3, cells := 2, slots := 8, locals := 45 } : Room) n0 (fun v h => ∃ o : Addr, v = some (.ref o) ∧ h0.size ≤ o ∧ Keep h0 h [] ∧ Exa Z h o "com/example/befugnis/befugnis/Der$Value" ∧ Fld Z h o "com/example/befugnis/befugnis/Der$Value" "bytes" "[B" (.ref r) ∧ Fld Z h o "com/example/befugnis/befugnis/Der$Value" "tag" "I" (.int (t0 &&& 255)) ∧ Fld Z h o "com/example/befugnis/befugnis/Der$Value" "start" "I" (.int 0) ∧ Fld Z h o "com/example/befugnis/befugnis/Der$Value" "contentStart" "I" (.int (((4 : Int32) + L) - L)) ∧ Fld Z h o "com/example/befugnis/befugnis/Der$Value" "end" "I" (.int ((4 : Int32) + L))) h113 2 8 14 #[.val (.ref r), .val (.ref d), .val (.ref o)] [.int (own_ae ((4 : Int32) + L) e)]
  refine own_if_ne_t (pc' := 27) d1_14 (by unfold own_ae; rw [if_neg (fun q => q hend)]; decide) (by decide) (by decide) ?_
  refine own_aloadN (pc' := 28) d1_27 rfl rfl ?_
  exact own_aret rfl rfl rfl d1_28 ⟨o, rfl, gt0_o, K_1.trans K_2 (allS (Or.inr gt_d) all0), E_o, H_1, H_2, H_3, H_4, H_5⟩
set_option maxRecDepth 65536 in
set_option maxHeartbeats 40000000 in
theorem own_single3 (l : Launch) (Z : State) (a0 : Array Value) (hw : ∀ d ∈ tables_1, d.before a0 Z = true) (r : Addr) (vs : List Value) (e L t0 : Int32) (y0 y1 y2 : Int32) (h0 : Heap) (n0 : Nat) (hn0 : n0 ≤ h0.size) (hw1 : vs[(1 : Int32).toNatClampNeg]? = some (.int (-125 : Int32))) (hy0 : vs[(2 : Int32).toNatClampNeg]? = some (.int y0)) (hy1 : vs[(3 : Int32).toNatClampNeg]? = some (.int y1)) (hy2 : vs[(4 : Int32).toNatClampNeg]? = some (.int y2)) (hfits : ¬ e - 2 < (3 : Int32)) (h128 : ¬ (own_v3 y0 y1 y2) < 128) (hmin : ¬ ((own_v3 y0 y1 y2) >>> (((8 : Int32) * ((3 : Int32) - (1 : Int32))).toInt64 &&& 63)) = 0) (hmax : ¬ 2147483647 < (own_v3 y0 y1 y2)) (hL : (own_v3 y0 y1 y2).toInt32 = L) (hne0 : ¬ (0 : Int32) = e) (hne : ¬ (1 : Int32) = e) (ht0 : vs[(0 : Int32).toNatClampNeg]? = some (.int t0)) (htag : ¬ ((t0 &&& 255) &&& 31) = 31) (hfit : ¬ e - (5 : Int32) < L) (hend : ((5 : Int32) + L) = e) (A_r : own_A Z h0 r .byte vs) (hlen : vs.length.toInt32 = e) :
    own_W l Z (⟨"com/example/befugnis/befugnis/Der", "single", "([B)Lcom/example/befugnis/befugnis/Der$Value;"⟩ : MethodName) prog_9_method_3_code 3 (some (.object "com/example/befugnis/befugnis/Der$Value")) ({ frames := 3, cells := 2, slots := 8, locals := 45 } : Room) n0 (fun v h => ∃ o : Addr, v = some (.ref o) ∧ h0.size ≤ o ∧ Keep h0 h [] ∧ Exa Z h o "com/example/befugnis/befugnis/Der$Value" ∧ Fld Z h o "com/example/befugnis/befugnis/Der$Value" "bytes" "[B" (.ref r) ∧ Fld Z h o "com/example/befugnis/befugnis/Der$Value" "tag" "I" (.int (t0 &&& 255)) ∧ Fld Z h o "com/example/befugnis/befugnis/Der$Value" "start" "I" (.int 0) ∧ Fld Z h o "com/example/befugnis/befugnis/Der$Value" "contentStart" "I" (.int (((5 : Int32) + L) - L)) ∧ Fld Z h o "com/example/befugnis/befugnis/Der$Value" "end" "I" (.int ((5 : Int32) + L))) h0 0 0 0 #[.val (.ref r), .unset, .unset] [] := by
  refine own_aloadN (pc' := 1) d1_0 rfl rfl ?_
  refine own_static (own_of l Z a0 hw r _ e h0 n0 hn0 A_r hlen) (hw _ (List.mem_of_getElem? (i := 5) rfl)) (hw _ (List.mem_of_getElem? (i := 6) rfl)) (hw _ (List.mem_of_getElem? (i := 3) rfl)) (hw _ (List.mem_of_getElem? (i := 7) rfl)) (plainFor_of_name own_pn1) (by decide) own_pd2 rfl (argsL := [.ref r]) (rest := []) rfl rfl (W := 0) (Nat.le_refl _) (by decide) (by decide) (by decide) (by decide) rfl d1_1 (pc' := 4) rfl (fun v_ h115 hq => ?_)
  obtain ⟨d, rfl, gt_d, K_1, E_d, F_d_bytes, F_d_at, F_d_end⟩ := hq
  show own_W l Z (⟨"com/example/befugnis/befugnis/Der", "single", "([B)Lcom/example/befugnis/befugnis/Der$Value;"⟩ : MethodName) prog_9_method_3_code 3 (some (.object "com/example/befugnis/befugnis/Der$Value")) ({ frames := 3, cells := 2, slots := 8, locals := 45 } : Room) n0 (fun v h => ∃ o : Addr, v = some (.ref o) ∧ h0.size ≤ o ∧ Keep h0 h [] ∧ Exa Z h o "com/example/befugnis/befugnis/Der$Value" ∧ Fld Z h o "com/example/befugnis/befugnis/Der$Value" "bytes" "[B" (.ref r) ∧ Fld Z h o "com/example/befugnis/befugnis/Der$Value" "tag" "I" (.int (t0 &&& 255)) ∧ Fld Z h o "com/example/befugnis/befugnis/Der$Value" "start" "I" (.int 0) ∧ Fld Z h o "com/example/befugnis/befugnis/Der$Value" "contentStart" "I" (.int (((5 : Int32) + L) - L)) ∧ Fld Z h o "com/example/befugnis/befugnis/Der$Value" "end" "I" (.int ((5 : Int32) + L))) h115 1 3 4 #[.val (.ref r), .unset, .unset] [.ref d]
  have ge_d : n0 ≤ d := Nat.le_trans hn0 gt_d
  have ne_d_r : d ≠ r := Ne.symm (Nat.ne_of_lt (by have q := Nat.lt_of_lt_of_le A_r.lt (Nat.le_refl _); omega))
  replace A_r := A_r.keep K_1 nin0
  replace hn0 : n0 ≤ h115.size := Nat.le_trans hn0 K_1.1
  refine own_astoreN (pc' := 5) (Ls' := #[.val (.ref r), .val (.ref d), .unset]) d1_4 rfl rfl ?_
  refine own_aloadN (pc' := 6) d1_5 rfl rfl ?_
  refine own_virtual (own_next3 l Z a0 hw d r vs e L t0 y0 y1 y2 h115 n0 hn0 hw1 hy0 hy1 hy2 hfits h128 hmin hmax hL hne0 hne ht0 htag hfit ne_d_r ge_d A_r E_d F_d_bytes F_d_at F_d_end) E_d (hw _ (List.mem_of_getElem? (i := 22) rfl)) (hw _ (List.mem_of_getElem? (i := 23) rfl)) (hw _ (List.mem_of_getElem? (i := 25) rfl)) (hw _ (List.mem_of_getElem? (i := 24) rfl)) (hw _ (List.mem_of_getElem? (i := 3) rfl)) (hw _ (List.mem_of_getElem? (i := 26) rfl)) (plainFor_of_name own_pn1) (by decide) own_pd5 rfl (argsL := []) (rest := []) rfl rfl (W := 0) (Nat.le_refl _) (by decide) (by decide) (by decide) (by decide) rfl d1_6 (pc' := 9) rfl (fun v_ h116 hq => ?_)
  obtain ⟨o, rfl, gt_o, K_2, E_2, G_1, G_2, G_3, E_o, H_1, H_2, H_3, H_4, H_5⟩ := hq
  show own_W l Z (⟨"com/example/befugnis/befugnis/Der", "single", "([B)Lcom/example/befugnis/befugnis/Der$Value;"⟩ : MethodName) prog_9_method_3_code 3 (some (.object "com/example/befugnis/befugnis/Der$Value")) ({ frames := 3, cells := 2, slots := 8, locals := 45 } : Room) n0 (fun v h => ∃ o : Addr, v = some (.ref o) ∧ h0.size ≤ o ∧ Keep h0 h [] ∧ Exa Z h o "com/example/befugnis/befugnis/Der$Value" ∧ Fld Z h o "com/example/befugnis/befugnis/Der$Value" "bytes" "[B" (.ref r) ∧ Fld Z h o "com/example/befugnis/befugnis/Der$Value" "tag" "I" (.int (t0 &&& 255)) ∧ Fld Z h o "com/example/befugnis/befugnis/Der$Value" "start" "I" (.int 0) ∧ Fld Z h o "com/example/befugnis/befugnis/Der$Value" "contentStart" "I" (.int (((5 : Int32) + L) - L)) ∧ Fld Z h o "com/example/befugnis/befugnis/Der$Value" "end" "I" (.int ((5 : Int32) + L))) h116 2 8 9 #[.val (.ref r), .val (.ref d), .unset] [.ref o]
  have gt0_o : h0.size ≤ o := Nat.le_trans K_1.1 gt_o
  replace A_r := A_r.keep K_2 (ninS (Ne.symm ne_d_r) nin0)
  replace E_d := E_2
  replace F_d_bytes := G_1
  replace F_d_at := G_2
  replace F_d_end := G_3
  replace hn0 : n0 ≤ h116.size := Nat.le_trans hn0 K_2.1
  refine own_astoreN (pc' := 10) (Ls' := #[.val (.ref r), .val (.ref d), .val (.ref o)]) d1_9 rfl rfl ?_
  refine own_aloadN (pc' := 11) d1_10 rfl rfl ?_
  refine own_virtual (own_aeW l Z a0 hw d r ((5 : Int32) + L) e h116 n0 hn0 E_d F_d_bytes F_d_at F_d_end) E_d (hw _ (List.mem_of_getElem? (i := 27) rfl)) (hw _ (List.mem_of_getElem? (i := 28) rfl)) (hw _ (List.mem_of_getElem? (i := 30) rfl)) (hw _ (List.mem_of_getElem? (i := 29) rfl)) (hw _ (List.mem_of_getElem? (i := 3) rfl)) (hw _ (List.mem_of_getElem? (i := 31) rfl)) (plainFor_of_name own_pn1) (by decide) own_pd6 rfl (argsL := []) (rest := []) rfl rfl (W := 0) (Nat.le_refl _) (by decide) (by decide) (by decide) (by decide) rfl d1_11 (pc' := 14) rfl (fun v_ h117 hq => ?_)
  obtain ⟨rfl, rfl⟩ := hq
  show own_W l Z (⟨"com/example/befugnis/befugnis/Der", "single", "([B)Lcom/example/befugnis/befugnis/Der$Value;"⟩ : MethodName) prog_9_method_3_code 3 (some (.object "com/example/befugnis/befugnis/Der$Value")) ({ frames := 3, cells := 2, slots := 8, locals := 45 } : Room) n0 (fun v h => ∃ o : Addr, v = some (.ref o) ∧ h0.size ≤ o ∧ Keep h0 h [] ∧ Exa Z h o "com/example/befugnis/befugnis/Der$Value" ∧ Fld Z h o "com/example/befugnis/befugnis/Der$Value" "bytes" "[B" (.ref r) ∧ Fld Z h o "com/example/befugnis/befugnis/Der$Value" "tag" "I" (.int (t0 &&& 255)) ∧ Fld Z h o "com/example/befugnis/befugnis/Der$Value" "start" "I" (.int 0) ∧ Fld Z h o "com/example/befugnis/befugnis/Der$Value" "contentStart" "I" (.int (((5 : Int32) + L) - L)) ∧ Fld Z h o "com/example/befugnis/befugnis/Der$Value" "end" "I" (.int ((5 : Int32) + L))) h116 2 8 14 #[.val (.ref r), .val (.ref d), .val (.ref o)] [.int (own_ae ((5 : Int32) + L) e)]
  refine own_if_ne_t (pc' := 27) d1_14 (by unfold own_ae; rw [if_neg (fun q => q hend)]; decide) (by decide) (by decide) ?_
  refine own_aloadN (pc' := 28) d1_27 rfl rfl ?_
  exact own_aret rfl rfl rfl d1_28 ⟨o, rfl, gt0_o, K_1.trans K_2 (allS (Or.inr gt_d) all0), E_o, H_1, H_2, H_3, H_4, H_5⟩
set_option maxRecDepth 65536 in
set_option maxHeartbeats 40000000 in
theorem own_minW (l : Launch) (Z : State) (a0 : Array Value) (hw : ∀ d ∈ tables_1, d.before a0 Z = true) (f g : Int32) (h0 : Heap) (n0 : Nat) (hn0 : n0 ≤ h0.size) :
    own_W l Z (⟨"java/lang/Math", "min", "(II)I"⟩ : MethodName) jdk_29_method_69_code 2 (some .int) ({ frames := 0, cells := 0, slots := 0, locals := 0 } : Room) n0 (fun v h => v = some (.int (own_min f g)) ∧ h0 = h) h0 0 0 0 #[.val (.int f), .val (.int g)] [] := by
  refine own_iloadN (pc' := 1) d14_0 rfl rfl ?_
  refine own_iloadN (pc' := 2) d14_1 rfl rfl ?_
  refine own_ic_gt (pc' := 9) (pf := 5) d14_2 (by decide) (by decide) rfl (fun h_2 => ?_) (fun h_2 => ?_)
  · refine own_iloadN (pc' := 10) d14_9 rfl rfl ?_
    exact own_iret rfl d14_10 ⟨by first | contradiction | (simp only [own_min, *, ↓reduceIte]; done) | (simp [own_min, *]; done) | (simp_all [own_min]; done), rfl⟩
  · refine own_iloadN (pc' := 6) d14_5 rfl rfl ?_
    refine own_goto (pc' := 10) d14_6 (by decide) (by decide) ?_
    exact own_iret rfl d14_10 ⟨by first | contradiction | (simp only [own_min, *, ↓reduceIte]; done) | (simp [own_min, *]; done) | (simp_all [own_min]; done), rfl⟩
set_option maxRecDepth 65536 in
set_option maxHeartbeats 40000000 in
theorem own_clW (l : Launch) (Z : State) (a0 : Array Value) (hw : ∀ d ∈ tables_1, d.before a0 Z = true) (f g : Int32) (h0 : Heap) (n0 : Nat) (hn0 : n0 ≤ h0.size) (hfg : ¬ g < f) :
    own_W l Z (⟨"java/util/Arrays", "checkLength", "(II)V"⟩ : MethodName) jdk_65_method_131_code 2 none ({ frames := 0, cells := 0, slots := 0, locals := 0 } : Room) n0 (fun v h => v = none ∧ h0 = h) h0 0 0 0 #[.val (.int f), .val (.int g)] [] := by
  refine own_iloadN (pc' := 1) d13_0 rfl rfl ?_
  refine own_iloadN (pc' := 2) d13_1 rfl rfl ?_
  refine own_ic_ge_t (pc' := 37) d13_2 hfg (by decide) (by decide) ?_
  exact own_ret rfl d13_37 ⟨rfl, rfl⟩
set_option maxRecDepth 65536 in
set_option maxHeartbeats 40000000 in
theorem own_corb (l : Launch) (Z : State) (a0 : Array Value) (hw : ∀ d ∈ tables_1, d.before a0 Z = true) (r : Addr) (vs : List Value) (f g n m : Int32) (h0 : Heap) (n0 : Nat) (hn0 : n0 ≤ h0.size) (A_r : own_A Z h0 r .byte vs) (hlen : vs.length.toInt32 = n) (hnn : n.toNatClampNeg = vs.length) (hf0 : 0 ≤ f.toInt) (hfg : f.toInt ≤ g.toInt) (hgn : g.toInt ≤ n.toInt) (hm : g - f = m) (hcap : m.toInt ≤ 65800) :
    own_W l Z (⟨"java/util/Arrays", "copyOfRangeByte", "([BII)[B"⟩ : MethodName) jdk_65_method_133_code 5 (some (.array .byte)) ({ frames := 1, cells := 1, slots := 65800, locals := 30 } : Room) n0 (fun v h => ∃ c : Addr, v = some (.ref c) ∧ h0.size ≤ c ∧ Keep h0 h [] ∧ own_A Z h c .byte ((vs.drop f.toNatClampNeg).take m.toNatClampNeg)) h0 0 0 0 #[.val (.ref r), .val (.int f), .val (.int g), .unset, .unset] [] := by
  have a1 := c_isub g f
  have a2 := rng32 (g - f)
  rw [hm] at a1 a2
  have a3 := c_isub n f
  have a4 := rng32 (n - f)
  have a5 := rng32 n
  have a6 := rng32 g
  have a7 := rng32 f
  have hm0 : ¬ m < 0 := own_nlt (by omega)
  refine own_iloadN (pc' := 1) d12_0 rfl rfl ?_
  refine own_iloadN (pc' := 2) d12_1 rfl rfl ?_
  refine own_static (own_clW l Z a0 hw f g h0 n0 hn0 (by rw [Int32.lt_iff_toInt_lt]; omega)) (hw _ (List.mem_of_getElem? (i := 72) rfl)) (hw _ (List.mem_of_getElem? (i := 73) rfl)) (hw _ (List.mem_of_getElem? (i := 67) rfl)) (hw _ (List.mem_of_getElem? (i := 74) rfl)) (plainFor_of_name own_pn4) (by decide) own_pd11 rfl (argsL := [.int f, .int g]) (rest := []) rfl rfl (W := 0) (Nat.le_refl _) (by decide) (by decide) (by decide) (by decide) rfl d12_2 (pc' := 5) rfl (fun v_ h118 hq => ?_)
  obtain ⟨rfl, rfl⟩ := hq
  show own_W l Z (⟨"java/util/Arrays", "copyOfRangeByte", "([BII)[B"⟩ : MethodName) jdk_65_method_133_code 5 (some (.array .byte)) ({ frames := 1, cells := 1, slots := 65800, locals := 30 } : Room) n0 (fun v h => ∃ c : Addr, v = some (.ref c) ∧ h0.size ≤ c ∧ Keep h0 h [] ∧ own_A Z h c .byte ((vs.drop f.toNatClampNeg).take m.toNatClampNeg)) h0 0 0 5 #[.val (.ref r), .val (.int f), .val (.int g), .unset, .unset] []
  refine own_iloadN (pc' := 6) d12_5 rfl rfl ?_
  refine own_iloadN (pc' := 7) d12_6 rfl rfl ?_
  refine own_isub (pc' := 8) d12_7 rfl ?_
  rw [show (g - f) = m from hm]
  refine own_istoreN (pc' := 9) (Ls' := #[.val (.ref r), .val (.int f), .val (.int g), .val (.int m), .unset]) d12_8 rfl rfl ?_
  refine own_iloadN (pc' := 10) d12_9 rfl rfl ?_
  refine own_newarr (pc' := 12) (ty := .byte) (cap := 65800) (hw _ (List.mem_of_getElem? (i := 0) rfl)) rfl d12_10 rfl hm0 (by rw [Int32.toNatClampNeg]; omega) (by decide) (by decide) (by decide) (fun h119 c gt_c lt_c E120 A_c => ?_)
  have ge_c : n0 ≤ c := Nat.le_trans hn0 gt_c
  have ne_r_c : r ≠ c := Nat.ne_of_lt (by have q := Nat.lt_of_lt_of_le A_r.lt (Nat.le_refl _); omega)
  replace A_r := A_r.ext E120
  replace hn0 : n0 ≤ h119.size := Nat.le_trans hn0 E120.1
  refine own_astore (pc' := 14) (Ls' := #[.val (.ref r), .val (.int f), .val (.int g), .val (.int m), .val (.ref c)]) d12_12 rfl rfl ?_
  refine own_aloadN (pc' := 15) d12_14 rfl rfl ?_
  refine own_iloadN (pc' := 16) d12_15 rfl rfl ?_
  refine own_aload (pc' := 18) d12_16 rfl rfl ?_
  refine own_iconst (0 : Int32) (pc' := 19) d12_18 rfl rfl ?_
  refine own_aloadN (pc' := 20) d12_19 rfl rfl ?_
  refine own_len (pc' := 21) (n := n) A_r hlen d12_20 rfl ?_
  refine own_iloadN (pc' := 22) d12_21 rfl rfl ?_
  refine own_isub (pc' := 23) d12_22 rfl ?_
  refine own_iloadN (pc' := 24) d12_23 rfl rfl ?_
  refine own_static (own_minW l Z a0 hw (n - f) m h119 n0 hn0) (hw _ (List.mem_of_getElem? (i := 75) rfl)) (hw _ (List.mem_of_getElem? (i := 76) rfl)) (hw _ (List.mem_of_getElem? (i := 77) rfl)) (hw _ (List.mem_of_getElem? (i := 78) rfl)) (Jvm.Free.JP.mathPlain rfl (by decide)) (by decide) own_pd12 rfl (argsL := [.int (n - f), .int m]) (rest := [.int (0 : Int32), .ref c, .int f, .ref r]) rfl rfl (W := 4) (Nat.le_refl _) (by decide) (by decide) (by decide) (by decide) rfl d12_24 (pc' := 27) rfl (fun v_ h121 hq => ?_)
  obtain ⟨rfl, rfl⟩ := hq
  show own_W l Z (⟨"java/util/Arrays", "copyOfRangeByte", "([BII)[B"⟩ : MethodName) jdk_65_method_133_code 5 (some (.array .byte)) ({ frames := 1, cells := 1, slots := 65800, locals := 30 } : Room) n0 (fun v h => ∃ c : Addr, v = some (.ref c) ∧ h0.size ≤ c ∧ Keep h0 h [] ∧ own_A Z h c .byte ((vs.drop f.toNatClampNeg).take m.toNatClampNeg)) h119 1 65800 27 #[.val (.ref r), .val (.int f), .val (.int g), .val (.int m), .val (.ref c)] [.int (own_min (n - f) m), .int (0 : Int32), .ref c, .int f, .ref r]
  have em : own_min (n - f) m = m := by unfold own_min; split; rfl; rename_i q; rw [Int32.lt_iff_toInt_lt] at q; rw [← Int32.toInt_inj]; omega
  rw [show (own_min (n - f) m) = m from em]
  refine own_acopy (pc' := 30) (W := 0) (hw _ (List.mem_of_getElem? (i := 79) rfl)) (hw _ (List.mem_of_getElem? (i := 82) rfl)) (hw _ (List.mem_of_getElem? (i := 80) rfl)) (hw _ (List.mem_of_getElem? (i := 81) rfl)) A_r A_c rfl (own_nlt hf0) (by decide) hm0 (by rw [Int32.toNatClampNeg] at hnn ⊢; rw [Int32.toNatClampNeg]; omega) (by rw [List.length_replicate]; show 0 + _ ≤ _; omega) ge_c d12_27 rfl rfl (by decide) (by decide) (by decide) (fun h' K_c A_n => ?_)
  replace A_n : own_A Z h' c .byte ((vs.drop f.toNatClampNeg).take m.toNatClampNeg) := A_n.cast (by show [] ++ _ ++ List.drop (0 + m.toNatClampNeg) (List.replicate m.toNatClampNeg _) = _; rw [Nat.zero_add, List.drop_replicate, Nat.sub_self]; simp)
  refine own_aload (pc' := 32) d12_30 rfl rfl ?_
  exact own_aret rfl rfl rfl d12_32 ⟨c, rfl, gt_c, ((Keep.refl h0 []).ext E120).trans K_c (allS (Or.inr gt_c) all0), A_n⟩
set_option maxRecDepth 65536 in
set_option maxHeartbeats 40000000 in
theorem own_cor1 (l : Launch) (Z : State) (a0 : Array Value) (hw : ∀ d ∈ tables_1, d.before a0 Z = true) (r : Addr) (vs : List Value) (f g n m : Int32) (h0 : Heap) (n0 : Nat) (hn0 : n0 ≤ h0.size) (hfz : ¬ f = 0) (A_r : own_A Z h0 r .byte vs) (hlen : vs.length.toInt32 = n) (hnn : n.toNatClampNeg = vs.length) (hf0 : 0 ≤ f.toInt) (hfg : f.toInt ≤ g.toInt) (hgn : g.toInt ≤ n.toInt) (hm : g - f = m) (hcap : m.toInt ≤ 65800) :
    own_W l Z (⟨"java/util/Arrays", "copyOfRange", "([BII)[B"⟩ : MethodName) jdk_65_method_132_code 3 (some (.array .byte)) ({ frames := 2, cells := 1, slots := 65800, locals := 46 } : Room) n0 (fun v h => ∃ c : Addr, v = some (.ref c) ∧ h0.size ≤ c ∧ Keep h0 h [] ∧ own_A Z h c .byte ((vs.drop f.toNatClampNeg).take m.toNatClampNeg)) h0 0 0 0 #[.val (.ref r), .val (.int f), .val (.int g)] [] := by
  refine own_iloadN (pc' := 1) d11_0 rfl rfl ?_
  refine own_if_ne_t (pc' := 10) d11_1 hfz (by decide) (by decide) ?_
  refine own_aloadN (pc' := 11) d11_10 rfl rfl ?_
  refine own_iloadN (pc' := 12) d11_11 rfl rfl ?_
  refine own_iloadN (pc' := 13) d11_12 rfl rfl ?_
  refine own_static (own_corb l Z a0 hw r vs f g n m h0 n0 hn0 A_r hlen hnn hf0 hfg hgn hm hcap) (hw _ (List.mem_of_getElem? (i := 69) rfl)) (hw _ (List.mem_of_getElem? (i := 70) rfl)) (hw _ (List.mem_of_getElem? (i := 67) rfl)) (hw _ (List.mem_of_getElem? (i := 71) rfl)) (plainFor_of_name own_pn4) (by decide) own_pd10 rfl (argsL := [.ref r, .int f, .int g]) (rest := []) rfl rfl (W := 0) (Nat.le_refl _) (by decide) (by decide) (by decide) (by decide) rfl d11_13 (pc' := 16) rfl (fun v_ h122 hq => ?_)
  obtain ⟨c, rfl, q1, q2, q3⟩ := hq
  show own_W l Z (⟨"java/util/Arrays", "copyOfRange", "([BII)[B"⟩ : MethodName) jdk_65_method_132_code 3 (some (.array .byte)) ({ frames := 2, cells := 1, slots := 65800, locals := 46 } : Room) n0 (fun v h => ∃ c : Addr, v = some (.ref c) ∧ h0.size ≤ c ∧ Keep h0 h [] ∧ own_A Z h c .byte ((vs.drop f.toNatClampNeg).take m.toNatClampNeg)) h122 1 65800 16 #[.val (.ref r), .val (.int f), .val (.int g)] [.ref c]
  exact own_aret rfl rfl rfl d11_16 ⟨c, rfl, q1, q2, q3⟩
set_option maxRecDepth 65536 in
set_option maxHeartbeats 40000000 in
theorem own_cor0 (l : Launch) (Z : State) (a0 : Array Value) (hw : ∀ d ∈ tables_1, d.before a0 Z = true) (r : Addr) (vs : List Value) (n : Int32) (h0 : Heap) (n0 : Nat) (hn0 : n0 ≤ h0.size) (A_r : own_A Z h0 r .byte vs) (E_r : Exa Z h0 r "[B") (hlen : vs.length.toInt32 = n) (hcap : vs.length ≤ 65800) :
    own_W l Z (⟨"java/util/Arrays", "copyOfRange", "([BII)[B"⟩ : MethodName) jdk_65_method_132_code 3 (some (.array .byte)) ({ frames := 2, cells := 1, slots := 65800, locals := 46 } : Room) n0 (fun v h => ∃ c : Addr, v = some (.ref c) ∧ h0.size ≤ c ∧ Keep h0 h [] ∧ own_A Z h c .byte vs) h0 0 0 0 #[.val (.ref r), .val (.int (0 : Int32)), .val (.int n)] [] := by
  refine own_iloadN (pc' := 1) d11_0 rfl rfl ?_
  refine own_if_ne_f (pc' := 4) d11_1 rfl rfl ?_
  refine own_iloadN (pc' := 5) d11_4 rfl rfl ?_
  refine own_aloadN (pc' := 6) d11_5 rfl rfl ?_
  refine own_len (pc' := 7) (n := n) A_r hlen d11_6 rfl ?_
  refine own_ic_eq_t (pc' := 17) d11_7 rfl (by decide) (by decide) ?_
  refine own_aloadN (pc' := 18) d11_17 rfl rfl ?_
  refine own_clone (pc' := 21) (W := 0) (cap := 65800) (hw _ (List.mem_of_getElem? (i := 88) rfl)) (hw _ (List.mem_of_getElem? (i := 89) rfl)) (hw _ (List.mem_of_getElem? (i := 93) rfl)) (hw _ (List.mem_of_getElem? (i := 91) rfl)) (hw _ (List.mem_of_getElem? (i := 92) rfl)) (hw _ (List.mem_of_getElem? (i := 94) rfl)) A_r E_r d11_18 rfl rfl (by decide) (Nat.le_refl _) (by decide) hcap (by decide) (by decide) (fun h123 c gt_c lt_c E124 A_c E_c => ?_)
  have ge_c : n0 ≤ c := Nat.le_trans hn0 gt_c
  have ne_r_c : r ≠ c := Nat.ne_of_lt (by have q := Nat.lt_of_lt_of_le A_r.lt (Nat.le_refl _); omega)
  replace A_r := A_r.ext E124
  replace E_r := E_r.ext E124
  replace hn0 : n0 ≤ h123.size := Nat.le_trans hn0 E124.1
  refine own_cast (pc' := 24) (hw _ (List.mem_of_getElem? (i := 95) rfl)) (Ins.self E_c) d11_21 rfl ?_
  exact own_aret rfl rfl rfl d11_24 ⟨c, rfl, gt_c, (Keep.refl h0 []).ext E124, A_c⟩
set_option maxRecDepth 65536 in
set_option maxHeartbeats 40000000 in
theorem own_contW (l : Launch) (Z : State) (a0 : Array Value) (hw : ∀ d ∈ tables_1, d.before a0 Z = true) (o r : Addr) (vs : List Value) (f g n m : Int32) (h0 : Heap) (n0 : Nat) (hn0 : n0 ≤ h0.size) (hfz : ¬ f = 0) (A_r : own_A Z h0 r .byte vs) (hlen : vs.length.toInt32 = n) (hnn : n.toNatClampNeg = vs.length) (hf0 : 0 ≤ f.toInt) (hfg : f.toInt ≤ g.toInt) (hgn : g.toInt ≤ n.toInt) (hm : g - f = m) (hcap : m.toInt ≤ 65800) (F_o_bytes : Fld Z h0 o "com/example/befugnis/befugnis/Der$Value" "bytes" "[B" (.ref r)) (F_o_start : Fld Z h0 o "com/example/befugnis/befugnis/Der$Value" "start" "I" (.int 0)) (F_o_contentStart : Fld Z h0 o "com/example/befugnis/befugnis/Der$Value" "contentStart" "I" (.int f)) (F_o_end : Fld Z h0 o "com/example/befugnis/befugnis/Der$Value" "end" "I" (.int g)) :
    own_W l Z (⟨"com/example/befugnis/befugnis/Der$Value", "contents", "()[B"⟩ : MethodName) prog_10_method_4_code 1 (some (.array .byte)) ({ frames := 3, cells := 1, slots := 65800, locals := 60 } : Room) n0 (fun v h => ∃ c : Addr, v = some (.ref c) ∧ h0.size ≤ c ∧ Keep h0 h [] ∧ own_A Z h c .byte ((vs.drop f.toNatClampNeg).take m.toNatClampNeg)) h0 0 0 0 #[.val (.ref o)] [] := by
  refine own_aloadN (pc' := 1) d10_0 rfl rfl ?_
  refine own_getF (pc' := 4) (hw _ (List.mem_of_getElem? (i := 45) rfl)) F_o_bytes d10_1 rfl ?_
  refine own_aloadN (pc' := 5) d10_4 rfl rfl ?_
  refine own_getF (pc' := 8) (hw _ (List.mem_of_getElem? (i := 51) rfl)) F_o_contentStart d10_5 rfl ?_
  refine own_aloadN (pc' := 9) d10_8 rfl rfl ?_
  refine own_getF (pc' := 12) (hw _ (List.mem_of_getElem? (i := 53) rfl)) F_o_end d10_9 rfl ?_
  refine own_static (own_cor1 l Z a0 hw r vs f g n m h0 n0 hn0 hfz A_r hlen hnn hf0 hfg hgn hm hcap) (hw _ (List.mem_of_getElem? (i := 65) rfl)) (hw _ (List.mem_of_getElem? (i := 66) rfl)) (hw _ (List.mem_of_getElem? (i := 67) rfl)) (hw _ (List.mem_of_getElem? (i := 68) rfl)) (plainFor_of_name own_pn4) (by decide) own_pd10 rfl (argsL := [.ref r, .int f, .int g]) (rest := []) rfl rfl (W := 0) (Nat.le_refl _) (by decide) (by decide) (by decide) (by decide) rfl d10_12 (pc' := 15) rfl (fun v_ h125 hq => ?_)
  obtain ⟨c, rfl, q1, q2, q3⟩ := hq
  show own_W l Z (⟨"com/example/befugnis/befugnis/Der$Value", "contents", "()[B"⟩ : MethodName) prog_10_method_4_code 1 (some (.array .byte)) ({ frames := 3, cells := 1, slots := 65800, locals := 60 } : Room) n0 (fun v h => ∃ c : Addr, v = some (.ref c) ∧ h0.size ≤ c ∧ Keep h0 h [] ∧ own_A Z h c .byte ((vs.drop f.toNatClampNeg).take m.toNatClampNeg)) h125 1 65800 15 #[.val (.ref o)] [.ref c]
  exact own_aret rfl rfl rfl d10_15 ⟨c, rfl, q1, q2, q3⟩
set_option maxRecDepth 65536 in
set_option maxHeartbeats 40000000 in
theorem own_encW (l : Launch) (Z : State) (a0 : Array Value) (hw : ∀ d ∈ tables_1, d.before a0 Z = true) (o r : Addr) (vs : List Value) (f n : Int32) (h0 : Heap) (n0 : Nat) (hn0 : n0 ≤ h0.size) (A_r : own_A Z h0 r .byte vs) (E_r : Exa Z h0 r "[B") (hlen : vs.length.toInt32 = n) (hcap : vs.length ≤ 65800) (F_o_bytes : Fld Z h0 o "com/example/befugnis/befugnis/Der$Value" "bytes" "[B" (.ref r)) (F_o_start : Fld Z h0 o "com/example/befugnis/befugnis/Der$Value" "start" "I" (.int 0)) (F_o_contentStart : Fld Z h0 o "com/example/befugnis/befugnis/Der$Value" "contentStart" "I" (.int f)) (F_o_end : Fld Z h0 o "com/example/befugnis/befugnis/Der$Value" "end" "I" (.int n)) :
    own_W l Z (⟨"com/example/befugnis/befugnis/Der$Value", "encoded", "()[B"⟩ : MethodName) prog_10_method_5_code 1 (some (.array .byte)) ({ frames := 3, cells := 1, slots := 65800, locals := 60 } : Room) n0 (fun v h => ∃ c : Addr, v = some (.ref c) ∧ h0.size ≤ c ∧ Keep h0 h [] ∧ own_A Z h c .byte vs) h0 0 0 0 #[.val (.ref o)] [] := by
  refine own_aloadN (pc' := 1) d15_0 rfl rfl ?_
  refine own_getF (pc' := 4) (hw _ (List.mem_of_getElem? (i := 45) rfl)) F_o_bytes d15_1 rfl ?_
  refine own_aloadN (pc' := 5) d15_4 rfl rfl ?_
  refine own_getF (pc' := 8) (hw _ (List.mem_of_getElem? (i := 49) rfl)) F_o_start d15_5 rfl ?_
  refine own_aloadN (pc' := 9) d15_8 rfl rfl ?_
  refine own_getF (pc' := 12) (hw _ (List.mem_of_getElem? (i := 53) rfl)) F_o_end d15_9 rfl ?_
  refine own_static (own_cor0 l Z a0 hw r vs n h0 n0 hn0 A_r E_r hlen hcap) (hw _ (List.mem_of_getElem? (i := 65) rfl)) (hw _ (List.mem_of_getElem? (i := 66) rfl)) (hw _ (List.mem_of_getElem? (i := 67) rfl)) (hw _ (List.mem_of_getElem? (i := 68) rfl)) (plainFor_of_name own_pn4) (by decide) own_pd10 rfl (argsL := [.ref r, .int (0 : Int32), .int n]) (rest := []) rfl rfl (W := 0) (Nat.le_refl _) (by decide) (by decide) (by decide) (by decide) rfl d15_12 (pc' := 15) rfl (fun v_ h126 hq => ?_)
  obtain ⟨c, rfl, q1, q2, q3⟩ := hq
  show own_W l Z (⟨"com/example/befugnis/befugnis/Der$Value", "encoded", "()[B"⟩ : MethodName) prog_10_method_5_code 1 (some (.array .byte)) ({ frames := 3, cells := 1, slots := 65800, locals := 60 } : Room) n0 (fun v h => ∃ c : Addr, v = some (.ref c) ∧ h0.size ≤ c ∧ Keep h0 h [] ∧ own_A Z h c .byte vs) h126 1 65800 15 #[.val (.ref o)] [.ref c]
  exact own_aret rfl rfl rfl d15_15 ⟨c, rfl, q1, q2, q3⟩
set_option maxRecDepth 65536 in
set_option maxHeartbeats 40000000 in
theorem own_lawC0 (l : Launch) (Z : State) (a0 : Array Value) (hw : ∀ d ∈ tables_1, d.before a0 Z = true) (x0 x1 x2 x3 x4 t n : Int32) (r : Addr) (xs : List Int32) (h0 : Heap) (n0 : Nat) (hn0 : n0 ≤ h0.size) (hl : (xs.length : Int) = 2 + n.toInt) (hn : 0 ≤ n.toInt ∧ n.toInt ≤ 127) (w0 : own_at xs 0 &&& 255 = t) (ht : ¬ (t &&& 31) = 31) (w1 : own_at xs 1 = n) (A_r : own_A Z h0 r .byte (xs.map Value.int)) (E_r : Exa Z h0 r "[B") :
    own_W l Z x code maxLocals ret room_1 n0 (fun v h => v = some (.int 1)) h0 1 65800 246 #[.val (.int x0), .val (.int x1), .val (.int x2), .val (.int x3), .val (.int x4), .val (.int t), .val (.int (0 : Int32)), .val (.int n), .val (.int (2 : Int32)), .val (.ref r), .unset, .unset, .unset] [] := by
  have hh : (2 : Int32).toInt = 2 := rfl
  have z0 : (0 : Int32).toInt = 0 := rfl
  have z1 : (1 : Int32).toInt = 1 := rfl
  have z2 : (2 : Int32).toInt = 2 := rfl
  have ad0 := c_iadd (2 : Int32) n
  have ad1 := c_isub ((2 : Int32) + n) (2 : Int32)
  have ad2 := c_isub ((2 : Int32) + n) n
  have ad3 := c_isub ((2 : Int32) + n) 1
  have ad4 := c_isub n 1
  have ad5 := c_isub (2 : Int32) 1
  have ad6 := c_isub ((2 : Int32) + n) (((2 : Int32) + n) - n)
  have ad7 := c_isub ((2 : Int32) + n) 2
  have r0 := rng32 (((2 : Int32) + n))
  have r1 := rng32 (((2 : Int32) + n) - (2 : Int32))
  have r2 := rng32 (((2 : Int32) + n) - n)
  have r3 := rng32 (((2 : Int32) + n) - 1)
  have r4 := rng32 (n - 1)
  have r5 := rng32 ((2 : Int32) - 1)
  have r6 := rng32 (((2 : Int32) + n) - (((2 : Int32) + n) - n))
  have r7 := rng32 (n)
  have r8 := rng32 (((2 : Int32) + n) - 2)
  have hN : ((2 : Int32) + n).toInt = 2 + n.toInt := by omega
  have hlen : (xs.map Value.int).length.toInt32 = ((2 : Int32) + n) := by rw [← Int32.toInt_inj, List.length_map, len_toInt (by omega)]; omega
  have hnn : ((2 : Int32) + n).toNatClampNeg = (xs.map Value.int).length := by rw [List.length_map, Int32.toNatClampNeg]; omega
  have g0 := own_getN xs 0 (by decide) (by omega)
  have g1 := own_getN xs 1 (by decide) (by omega)
  rw [w1] at g1
  have s1 := c_mask n 255 8 (by decide) (by decide)
  have s2 : n &&& 255 = n := by rw [← Int32.toInt_inj, s1]; omega
  have c128 : (128 : Int32).toInt = 128 := rfl
  refine own_aload (pc' := 248) at_246 rfl rfl ?_
  refine own_static (own_single0 l Z a0 hw r _ ((2 : Int32) + n) n (own_at xs 0) n h0 n0 hn0 g1 (by rw [s2, Int32.lt_iff_toInt_lt, c128]; omega) s2 (by rw [← Int32.toInt_inj]; omega) (by rw [← Int32.toInt_inj]; omega) g0 (by rw [w0]; exact ht) (by rw [Int32.lt_iff_toInt_lt]; omega) rfl A_r hlen) (hw _ (List.mem_of_getElem? (i := 1) rfl)) (hw _ (List.mem_of_getElem? (i := 2) rfl)) (hw _ (List.mem_of_getElem? (i := 3) rfl)) (hw _ (List.mem_of_getElem? (i := 4) rfl)) (plainFor_of_name own_pn1) (by decide) own_pd1 rfl (argsL := [.ref r]) (rest := []) rfl rfl (W := 0) (Nat.le_refl _) (by decide) (by decide) (by decide) (by decide) rfl at_248 (pc' := 251) rfl (fun v_ h127 hq => ?_)
  obtain ⟨o, rfl, gt_o, K_1, E_o, F_o_bytes, F_o_tag, F_o_start, F_o_contentStart, F_o_end⟩ := hq
  show own_W l Z x code maxLocals ret room_1 n0 (fun v h => v = some (.int 1)) h127 3 65808 251 #[.val (.int x0), .val (.int x1), .val (.int x2), .val (.int x3), .val (.int x4), .val (.int t), .val (.int (0 : Int32)), .val (.int n), .val (.int (2 : Int32)), .val (.ref r), .unset, .unset, .unset] [.ref o]
  have ne_r_o : r ≠ o := Nat.ne_of_lt (by have q := Nat.lt_of_lt_of_le A_r.lt (Nat.le_refl _); omega)
  replace A_r := A_r.keep K_1 nin0
  replace E_r := E_r.keep K_1
  replace hn0 : n0 ≤ h127.size := Nat.le_trans hn0 K_1.1
  refine own_astore (pc' := 253) (Ls' := #[.val (.int x0), .val (.int x1), .val (.int x2), .val (.int x3), .val (.int x4), .val (.int t), .val (.int (0 : Int32)), .val (.int n), .val (.int (2 : Int32)), .val (.ref r), .val (.ref o), .unset, .unset]) at_251 rfl rfl ?_
  refine own_aload (pc' := 255) at_253 rfl rfl ?_
  refine own_virtual (own_tagW l Z a0 hw o _ h127 n0 hn0 F_o_tag) E_o (hw _ (List.mem_of_getElem? (i := 55) rfl)) (hw _ (List.mem_of_getElem? (i := 56) rfl)) (hw _ (List.mem_of_getElem? (i := 58) rfl)) (hw _ (List.mem_of_getElem? (i := 57) rfl)) (hw _ (List.mem_of_getElem? (i := 40) rfl)) (hw _ (List.mem_of_getElem? (i := 59) rfl)) (plainFor_of_name own_pn3) (by decide) own_pd7 rfl (argsL := []) (rest := []) rfl rfl (W := 0) (Nat.le_refl _) (by decide) (by decide) (by decide) (by decide) rfl at_255 (pc' := 258) rfl (fun v_ h128 hq => ?_)
  obtain ⟨rfl, rfl⟩ := hq
  show own_W l Z x code maxLocals ret room_1 n0 (fun v h => v = some (.int 1)) h127 3 65808 258 #[.val (.int x0), .val (.int x1), .val (.int x2), .val (.int x3), .val (.int x4), .val (.int t), .val (.int (0 : Int32)), .val (.int n), .val (.int (2 : Int32)), .val (.ref r), .val (.ref o), .unset, .unset] [.int (own_at xs 0 &&& (255 : Int32))]
  refine own_iload (pc' := 260) at_258 rfl rfl ?_
  refine own_ic_eq_t (pc' := 265) at_260 w0 (by decide) (by decide) ?_
  refine own_aload (pc' := 267) at_265 rfl rfl ?_
  refine own_virtual (own_contW l Z a0 hw o r _ (((2 : Int32) + n) - n) ((2 : Int32) + n) ((2 : Int32) + n) n h127 n0 hn0 (by rw [← Int32.toInt_inj]; omega) A_r hlen hnn (by omega) (by omega) (by omega) (by rw [← Int32.toInt_inj]; omega) (by omega) F_o_bytes F_o_start F_o_contentStart F_o_end) E_o (hw _ (List.mem_of_getElem? (i := 60) rfl)) (hw _ (List.mem_of_getElem? (i := 61) rfl)) (hw _ (List.mem_of_getElem? (i := 63) rfl)) (hw _ (List.mem_of_getElem? (i := 62) rfl)) (hw _ (List.mem_of_getElem? (i := 40) rfl)) (hw _ (List.mem_of_getElem? (i := 64) rfl)) (plainFor_of_name own_pn3) (by decide) own_pd9 rfl (argsL := []) (rest := []) rfl rfl (W := 0) (Nat.le_refl _) (by decide) (by decide) (by decide) (by decide) rfl at_267 (pc' := 270) rfl (fun v_ h129 hq => ?_)
  obtain ⟨c, rfl, gt_c, K_2, A_c⟩ := hq
  show own_W l Z x code maxLocals ret room_1 n0 (fun v h => v = some (.int 1)) h129 4 131608 270 #[.val (.int x0), .val (.int x1), .val (.int x2), .val (.int x3), .val (.int x4), .val (.int t), .val (.int (0 : Int32)), .val (.int n), .val (.int (2 : Int32)), .val (.ref r), .val (.ref o), .unset, .unset] [.ref c]
  replace A_r := A_r.keep K_2 nin0
  replace E_r := E_r.keep K_2
  replace E_o := E_o.keep K_2
  replace F_o_bytes := F_o_bytes.keep K_2 nin0
  replace F_o_start := F_o_start.keep K_2 nin0
  replace F_o_contentStart := F_o_contentStart.keep K_2 nin0
  replace F_o_end := F_o_end.keep K_2 nin0
  replace F_o_tag := F_o_tag.keep K_2 nin0
  replace hn0 : n0 ≤ h129.size := Nat.le_trans hn0 K_2.1
  have hcl : (((xs.map Value.int).drop (((2 : Int32) + n) - n).toNatClampNeg).take n.toNatClampNeg).length.toInt32 = n := by rw [List.length_take, List.length_drop, List.length_map, Nat.min_eq_left (by rw [Int32.toNatClampNeg, Int32.toNatClampNeg]; omega)]; exact (back32 (own_nlt (by omega))).1
  refine own_astore (pc' := 272) (Ls' := #[.val (.int x0), .val (.int x1), .val (.int x2), .val (.int x3), .val (.int x4), .val (.int t), .val (.int (0 : Int32)), .val (.int n), .val (.int (2 : Int32)), .val (.ref r), .val (.ref o), .val (.ref c), .unset]) at_270 rfl rfl ?_
  refine own_aload (pc' := 274) at_272 rfl rfl ?_
  refine own_virtual (own_encW l Z a0 hw o r _ _ ((2 : Int32) + n) h129 n0 hn0 A_r E_r hlen (by rw [List.length_map]; omega) F_o_bytes F_o_start F_o_contentStart F_o_end) E_o (hw _ (List.mem_of_getElem? (i := 83) rfl)) (hw _ (List.mem_of_getElem? (i := 84) rfl)) (hw _ (List.mem_of_getElem? (i := 86) rfl)) (hw _ (List.mem_of_getElem? (i := 85) rfl)) (hw _ (List.mem_of_getElem? (i := 40) rfl)) (hw _ (List.mem_of_getElem? (i := 87) rfl)) (plainFor_of_name own_pn3) (by decide) own_pd9 rfl (argsL := []) (rest := []) rfl rfl (W := 0) (Nat.le_refl _) (by decide) (by decide) (by decide) (by decide) rfl at_274 (pc' := 277) rfl (fun v_ h130 hq => ?_)
  obtain ⟨e, rfl, gt_e, K_3, A_e⟩ := hq
  show own_W l Z x code maxLocals ret room_1 n0 (fun v h => v = some (.int 1)) h130 5 197408 277 #[.val (.int x0), .val (.int x1), .val (.int x2), .val (.int x3), .val (.int x4), .val (.int t), .val (.int (0 : Int32)), .val (.int n), .val (.int (2 : Int32)), .val (.ref r), .val (.ref o), .val (.ref c), .unset] [.ref e]
  replace A_r := A_r.keep K_3 nin0
  replace E_r := E_r.keep K_3
  replace E_o := E_o.keep K_3
  replace F_o_bytes := F_o_bytes.keep K_3 nin0
  replace F_o_start := F_o_start.keep K_3 nin0
  replace F_o_contentStart := F_o_contentStart.keep K_3 nin0
  replace F_o_end := F_o_end.keep K_3 nin0
  replace F_o_tag := F_o_tag.keep K_3 nin0
  replace A_c := A_c.keep K_3 nin0
  replace hn0 : n0 ≤ h130.size := Nat.le_trans hn0 K_3.1
  refine own_astore (pc' := 279) (Ls' := #[.val (.int x0), .val (.int x1), .val (.int x2), .val (.int x3), .val (.int x4), .val (.int t), .val (.int (0 : Int32)), .val (.int n), .val (.int (2 : Int32)), .val (.ref r), .val (.ref o), .val (.ref c), .val (.ref e)]) at_277 rfl rfl ?_
  refine own_aload (pc' := 281) at_279 rfl rfl ?_
  refine own_len (pc' := 282) (n := n) A_c hcl at_281 rfl ?_
  refine own_iload (pc' := 284) at_282 rfl rfl ?_
  refine own_ic_ne_f (pc' := 287) at_284 rfl rfl ?_
  refine own_aload (pc' := 289) at_287 rfl rfl ?_
  refine own_len (pc' := 290) (n := ((2 : Int32) + n)) A_e hlen at_289 rfl ?_
  refine own_iload (pc' := 292) at_290 rfl rfl ?_
  refine own_iload (pc' := 294) at_292 rfl rfl ?_
  refine own_iadd (pc' := 295) at_294 rfl ?_
  refine own_ic_eq_t (pc' := 300) at_295 rfl (by decide) (by decide) ?_
  refine own_aload (pc' := 302) at_300 rfl rfl ?_
  refine own_iconst (0 : Int32) (pc' := 303) at_302 rfl rfl ?_
  refine own_baload (pc' := 304) (v := .int (own_at xs (0 : Int32))) A_e (own_nlt (by omega)) (own_getN xs _ (by omega) (by omega)) at_303 rfl ?_
  refine own_aload (pc' := 306) at_304 rfl rfl ?_
  refine own_iconst (0 : Int32) (pc' := 307) at_306 rfl rfl ?_
  refine own_baload (pc' := 308) (v := .int (own_at xs (0 : Int32))) A_r (own_nlt (by omega)) (own_getN xs _ (by omega) (by omega)) at_307 rfl ?_
  refine own_ic_ne_f (pc' := 311) at_308 rfl rfl ?_
  refine own_aload (pc' := 313) at_311 rfl rfl ?_
  refine own_iconst (1 : Int32) (pc' := 314) at_313 rfl rfl ?_
  refine own_baload (pc' := 315) (v := .int (own_at xs (1 : Int32))) A_e (own_nlt (by omega)) (own_getN xs _ (by omega) (by omega)) at_314 rfl ?_
  refine own_aload (pc' := 317) at_315 rfl rfl ?_
  refine own_iconst (1 : Int32) (pc' := 318) at_317 rfl rfl ?_
  refine own_baload (pc' := 319) (v := .int (own_at xs (1 : Int32))) A_r (own_nlt (by omega)) (own_getN xs _ (by omega) (by omega)) at_318 rfl ?_
  refine own_ic_ne_f (pc' := 322) at_319 rfl rfl ?_
  refine own_aload (pc' := 324) at_322 rfl rfl ?_
  refine own_iload (pc' := 326) at_324 rfl rfl ?_
  refine own_iconst (1 : Int32) (pc' := 327) at_326 rfl rfl ?_
  refine own_isub (pc' := 328) at_327 rfl ?_
  refine own_baload (pc' := 329) (v := .int (own_at xs ((2 : Int32) - (1 : Int32)))) A_e (own_nlt (by omega)) (own_getN xs _ (by omega) (by omega)) at_328 rfl ?_
  refine own_aload (pc' := 331) at_329 rfl rfl ?_
  refine own_iload (pc' := 333) at_331 rfl rfl ?_
  refine own_iconst (1 : Int32) (pc' := 334) at_333 rfl rfl ?_
  refine own_isub (pc' := 335) at_334 rfl ?_
  refine own_baload (pc' := 336) (v := .int (own_at xs ((2 : Int32) - (1 : Int32)))) A_r (own_nlt (by omega)) (own_getN xs _ (by omega) (by omega)) at_335 rfl ?_
  refine own_ic_ne_f (pc' := 339) at_336 rfl rfl ?_
  refine own_aload (pc' := 341) at_339 rfl rfl ?_
  refine own_iload (pc' := 343) at_341 rfl rfl ?_
  refine own_iload (pc' := 345) at_343 rfl rfl ?_
  refine own_iadd (pc' := 346) at_345 rfl ?_
  refine own_iconst (1 : Int32) (pc' := 347) at_346 rfl rfl ?_
  refine own_isub (pc' := 348) at_347 rfl ?_
  refine own_baload (pc' := 349) (v := .int (own_at xs (((2 : Int32) + n) - (1 : Int32)))) A_e (own_nlt (by omega)) (own_getN xs _ (by omega) (by omega)) at_348 rfl ?_
  refine own_aload (pc' := 351) at_349 rfl rfl ?_
  refine own_iload (pc' := 353) at_351 rfl rfl ?_
  refine own_iload (pc' := 355) at_353 rfl rfl ?_
  refine own_iadd (pc' := 356) at_355 rfl ?_
  refine own_iconst (1 : Int32) (pc' := 357) at_356 rfl rfl ?_
  refine own_isub (pc' := 358) at_357 rfl ?_
  refine own_baload (pc' := 359) (v := .int (own_at xs (((2 : Int32) + n) - (1 : Int32)))) A_r (own_nlt (by omega)) (own_getN xs _ (by omega) (by omega)) at_358 rfl ?_
  refine own_ic_eq_t (pc' := 364) at_359 rfl (by decide) (by decide) ?_
  refine own_iload (pc' := 366) at_364 rfl rfl ?_
  refine own_if_le (pc' := 403) (pf := 369) at_366 (by decide) (by decide) rfl (fun h_366 => ?_) (fun h_366 => ?_)
  · refine own_iconst (1 : Int32) (pc' := 404) at_403 rfl rfl ?_
    exact own_bret (v := (1 : Int32)) rfl (by first | rfl | decide | assumption) at_404 rfl
  · rw [Int32.lt_iff_toInt_lt, z0] at h_366
    refine own_aload (pc' := 371) at_369 rfl rfl ?_
    refine own_iconst (0 : Int32) (pc' := 372) at_371 rfl rfl ?_
    refine own_baload (pc' := 373) (v := .int (own_at xs (2 : Int32))) A_c (by decide) (own_sl xs _ n 0 (2 : Int32) (by omega) (by decide) (by omega) (by omega) (by omega)) at_372 rfl ?_
    refine own_aload (pc' := 375) at_373 rfl rfl ?_
    refine own_iload (pc' := 377) at_375 rfl rfl ?_
    refine own_baload (pc' := 378) (v := .int (own_at xs (2 : Int32))) A_r (own_nlt (by omega)) (own_getN xs _ (by omega) (by omega)) at_377 rfl ?_
    refine own_ic_ne_f (pc' := 381) at_378 rfl rfl ?_
    refine own_aload (pc' := 383) at_381 rfl rfl ?_
    refine own_iload (pc' := 385) at_383 rfl rfl ?_
    refine own_iconst (1 : Int32) (pc' := 386) at_385 rfl rfl ?_
    refine own_isub (pc' := 387) at_386 rfl ?_
    refine own_baload (pc' := 388) (v := .int (own_at xs (((2 : Int32) + n) - (1 : Int32)))) A_c (own_nlt (by omega)) (own_sl xs _ n (n - 1) (((2 : Int32) + n) - 1) (by omega) (by omega) (by omega) (by omega) (by omega)) at_387 rfl ?_
    refine own_aload (pc' := 390) at_388 rfl rfl ?_
    refine own_iload (pc' := 392) at_390 rfl rfl ?_
    refine own_iload (pc' := 394) at_392 rfl rfl ?_
    refine own_iadd (pc' := 395) at_394 rfl ?_
    refine own_iconst (1 : Int32) (pc' := 396) at_395 rfl rfl ?_
    refine own_isub (pc' := 397) at_396 rfl ?_
    refine own_baload (pc' := 398) (v := .int (own_at xs (((2 : Int32) + n) - (1 : Int32)))) A_r (own_nlt (by omega)) (own_getN xs _ (by omega) (by omega)) at_397 rfl ?_
    refine own_ic_eq_t (pc' := 403) at_398 rfl (by decide) (by decide) ?_
    refine own_iconst (1 : Int32) (pc' := 404) at_403 rfl rfl ?_
    exact own_bret (v := (1 : Int32)) rfl (by first | rfl | decide | assumption) at_404 rfl
set_option maxRecDepth 65536 in
set_option maxHeartbeats 40000000 in
theorem own_lawB0 (l : Launch) (Z : State) (a0 : Array Value) (hw : ∀ d ∈ tables_1, d.before a0 Z = true) (x0 x1 x2 x3 x4 t n : Int32) (r : Addr) (xs : List Int32) (h0 : Heap) (n0 : Nat) (hn0 : n0 ≤ h0.size) (hl : (xs.length : Int) = 2 + n.toInt) (hn : 0 ≤ n.toInt ∧ n.toInt ≤ 127) (w0 : own_at xs 0 &&& 255 = t) (ht : ¬ (t &&& 31) = 31) (w1 : own_at xs 1 = n) (ge_r : n0 ≤ r) (A_r : own_A Z h0 r .byte (xs.map Value.int)) (E_r : Exa Z h0 r "[B") :
    own_W l Z x code maxLocals ret room_1 n0 (fun v h => v = some (.int 1)) h0 1 65800 221 #[.val (.int x0), .val (.int x1), .val (.int x2), .val (.int x3), .val (.int x4), .val (.int t), .val (.int (0 : Int32)), .val (.int n), .val (.int (2 : Int32)), .val (.ref r), .unset, .unset, .unset] [] := by
  have hh : (2 : Int32).toInt = 2 := rfl
  have z0 : (0 : Int32).toInt = 0 := rfl
  have z1 : (1 : Int32).toInt = 1 := rfl
  have a0_ := c_iadd (2 : Int32) n
  have a1_ := rng32 ((2 : Int32) + n)
  have a2_ := c_isub ((2 : Int32) + n) 1
  have a3_ := rng32 (((2 : Int32) + n) - 1)
  refine own_iload (pc' := 223) at_221 rfl rfl ?_
  refine own_if_le (pc' := 246) (pf := 226) at_223 (by decide) (by decide) rfl (fun h_223 => ?_) (fun h_223 => ?_)
  · exact own_lawC0 l Z a0 hw x0 x1 x2 x3 x4 t n r xs h0 n0 hn0 hl hn w0 ht w1 A_r E_r
  · rw [Int32.lt_iff_toInt_lt, z0] at h_223
    refine own_aload (pc' := 228) at_226 rfl rfl ?_
    refine own_iload (pc' := 230) at_228 rfl rfl ?_
    refine own_iloadN (pc' := 231) at_230 rfl rfl ?_
    refine own_i2b (pc' := 232) at_231 rfl ?_
    refine own_bastore (pc' := 233) A_r (by decide) (by rw [List.length_map, Int32.toNatClampNeg]; omega) ge_r at_232 rfl (fun h131 K132 A_new => ?_)
    replace E_r := E_r.keep K132
    replace hn0 : n0 ≤ h131.size := Nat.le_trans hn0 K132.1
    replace A_r := A_new
    replace A_r := A_r.cast (own_set xs _ _)
    refine own_aload (pc' := 235) at_233 rfl rfl ?_
    refine own_iload (pc' := 237) at_235 rfl rfl ?_
    refine own_iload (pc' := 239) at_237 rfl rfl ?_
    refine own_iadd (pc' := 240) at_239 rfl ?_
    refine own_iconst (1 : Int32) (pc' := 241) at_240 rfl rfl ?_
    refine own_isub (pc' := 242) at_241 rfl ?_
    refine own_iload (pc' := 244) at_242 rfl rfl ?_
    refine own_i2b (pc' := 245) at_244 rfl ?_
    refine own_bastore (pc' := 246) A_r (own_nlt (by omega)) (by rw [List.length_map, List.length_set, Int32.toNatClampNeg]; omega) ge_r at_245 rfl (fun h133 K134 A_new => ?_)
    replace E_r := E_r.keep K134
    replace hn0 : n0 ≤ h133.size := Nat.le_trans hn0 K134.1
    replace A_r := A_new
    replace A_r := A_r.cast (own_set _ _ _)
    have key : ∀ i : Int32, 0 ≤ i.toInt → i.toInt < 2 → own_at ((xs.set (2 : Int32).toNatClampNeg (nar .byte (x3.toInt8.toInt32))).set (((2 : Int32) + n) - (1 : Int32)).toNatClampNeg (nar .byte (x4.toInt8.toInt32))) i = own_at xs i := fun i h1 h2 => by rw [own_atset _ _ _ _ h1 (by omega) (by omega), own_atset _ _ _ _ h1 (by omega) (by omega)]
    exact own_lawC0 l Z a0 hw x0 x1 x2 x3 x4 t n r ((xs.set (2 : Int32).toNatClampNeg (nar .byte (x3.toInt8.toInt32))).set (((2 : Int32) + n) - (1 : Int32)).toNatClampNeg (nar .byte (x4.toInt8.toInt32))) h133 n0 hn0 (by rw [List.length_set, List.length_set]; exact hl) hn (by rw [key 0 (by decide) (by decide)]; exact w0) ht (by rw [key 1 (by decide) (by decide)]; exact w1) A_r E_r
set_option maxRecDepth 65536 in
set_option maxHeartbeats 40000000 in
theorem own_lawC1 (l : Launch) (Z : State) (a0 : Array Value) (hw : ∀ d ∈ tables_1, d.before a0 Z = true) (x0 x1 x2 x3 x4 t n : Int32) (r : Addr) (xs : List Int32) (h0 : Heap) (n0 : Nat) (hn0 : n0 ≤ h0.size) (hl : (xs.length : Int) = 3 + n.toInt) (hn : 128 ≤ n.toInt ∧ n.toInt ≤ 255) (w0 : own_at xs 0 &&& 255 = t) (ht : ¬ (t &&& 31) = 31) (w1 : own_at xs 1 = (-127)) (wv : (own_v1 (own_at xs 2)).toInt = n.toInt) (A_r : own_A Z h0 r .byte (xs.map Value.int)) (E_r : Exa Z h0 r "[B") :
    own_W l Z x code maxLocals ret room_1 n0 (fun v h => v = some (.int 1)) h0 1 65800 246 #[.val (.int x0), .val (.int x1), .val (.int x2), .val (.int x3), .val (.int x4), .val (.int t), .val (.int (1 : Int32)), .val (.int n), .val (.int (3 : Int32)), .val (.ref r), .unset, .unset, .unset] [] := by
  have hh : (3 : Int32).toInt = 3 := rfl
  have z0 : (0 : Int32).toInt = 0 := rfl
  have z1 : (1 : Int32).toInt = 1 := rfl
  have z2 : (2 : Int32).toInt = 2 := rfl
  have ad0 := c_iadd (3 : Int32) n
  have ad1 := c_isub ((3 : Int32) + n) (3 : Int32)
  have ad2 := c_isub ((3 : Int32) + n) n
  have ad3 := c_isub ((3 : Int32) + n) 1
  have ad4 := c_isub n 1
  have ad5 := c_isub (3 : Int32) 1
  have ad6 := c_isub ((3 : Int32) + n) (((3 : Int32) + n) - n)
  have ad7 := c_isub ((3 : Int32) + n) 2
  have r0 := rng32 (((3 : Int32) + n))
  have r1 := rng32 (((3 : Int32) + n) - (3 : Int32))
  have r2 := rng32 (((3 : Int32) + n) - n)
  have r3 := rng32 (((3 : Int32) + n) - 1)
  have r4 := rng32 (n - 1)
  have r5 := rng32 ((3 : Int32) - 1)
  have r6 := rng32 (((3 : Int32) + n) - (((3 : Int32) + n) - n))
  have r7 := rng32 (n)
  have r8 := rng32 (((3 : Int32) + n) - 2)
  have hN : ((3 : Int32) + n).toInt = 3 + n.toInt := by omega
  have hlen : (xs.map Value.int).length.toInt32 = ((3 : Int32) + n) := by rw [← Int32.toInt_inj, List.length_map, len_toInt (by omega)]; omega
  have hnn : ((3 : Int32) + n).toNatClampNeg = (xs.map Value.int).length := by rw [List.length_map, Int32.toNatClampNeg]; omega
  have g0 := own_getN xs 0 (by decide) (by omega)
  have g1 := own_getN xs 1 (by decide) (by omega)
  have gy0 := own_getN xs 2 (by decide) (by show (2 : Int) < _; omega)
  rw [w1] at g1
  have c128 : (128 : Int64).toInt = 128 := rfl
  have cmx : (2147483647 : Int64).toInt = 2147483647 := rfl
  have ck : (1 : Int32).toInt = 1 := rfl
  have l2 := c_l2i (own_v1 (own_at xs 2))
  have l3 := rng32 (own_v1 (own_at xs 2)).toInt32
  have hmin : ¬ ((own_v1 (own_at xs 2)) >>> (((8 : Int32) * ((1 : Int32) - (1 : Int32))).toInt64 &&& 63)) = 0 := by
    intro q
    have q2 := congrArg Int64.toBitVec q
    rw [own_lshr_bv] at q2
    have q3 := congrArg BitVec.toInt q2
    rw [BitVec.toInt_sshiftRight, show (((8 : Int32) * ((1 : Int32) - (1 : Int32))).toBitVec.toNat % 64) = 0 from by decide, Int.shiftRight_eq_div_pow] at q3
    have q4 : (own_v1 (own_at xs 2)).toInt / ((2 ^ 0 : Nat) : Int) = 0 := q3
    rw [wv] at q4
    omega
  refine own_aload (pc' := 248) at_246 rfl rfl ?_
  refine own_static (own_single1 l Z a0 hw r _ ((3 : Int32) + n) n (own_at xs 0) (own_at xs 2) h0 n0 hn0 g1 gy0 (by rw [Int32.lt_iff_toInt_lt, ck]; omega) (by rw [Int64.lt_iff_toInt_lt, c128]; omega) hmin (by rw [Int64.lt_iff_toInt_lt, cmx]; omega) (by rw [← Int32.toInt_inj]; omega) (by rw [← Int32.toInt_inj]; omega) (by rw [← Int32.toInt_inj]; omega) g0 (by rw [w0]; exact ht) (by rw [Int32.lt_iff_toInt_lt]; omega) rfl A_r hlen) (hw _ (List.mem_of_getElem? (i := 1) rfl)) (hw _ (List.mem_of_getElem? (i := 2) rfl)) (hw _ (List.mem_of_getElem? (i := 3) rfl)) (hw _ (List.mem_of_getElem? (i := 4) rfl)) (plainFor_of_name own_pn1) (by decide) own_pd1 rfl (argsL := [.ref r]) (rest := []) rfl rfl (W := 0) (Nat.le_refl _) (by decide) (by decide) (by decide) (by decide) rfl at_248 (pc' := 251) rfl (fun v_ h135 hq => ?_)
  obtain ⟨o, rfl, gt_o, K_1, E_o, F_o_bytes, F_o_tag, F_o_start, F_o_contentStart, F_o_end⟩ := hq
  show own_W l Z x code maxLocals ret room_1 n0 (fun v h => v = some (.int 1)) h135 3 65808 251 #[.val (.int x0), .val (.int x1), .val (.int x2), .val (.int x3), .val (.int x4), .val (.int t), .val (.int (1 : Int32)), .val (.int n), .val (.int (3 : Int32)), .val (.ref r), .unset, .unset, .unset] [.ref o]
  have ne_r_o : r ≠ o := Nat.ne_of_lt (by have q := Nat.lt_of_lt_of_le A_r.lt (Nat.le_refl _); omega)
  replace A_r := A_r.keep K_1 nin0
  replace E_r := E_r.keep K_1
  replace hn0 : n0 ≤ h135.size := Nat.le_trans hn0 K_1.1
  refine own_astore (pc' := 253) (Ls' := #[.val (.int x0), .val (.int x1), .val (.int x2), .val (.int x3), .val (.int x4), .val (.int t), .val (.int (1 : Int32)), .val (.int n), .val (.int (3 : Int32)), .val (.ref r), .val (.ref o), .unset, .unset]) at_251 rfl rfl ?_
  refine own_aload (pc' := 255) at_253 rfl rfl ?_
  refine own_virtual (own_tagW l Z a0 hw o _ h135 n0 hn0 F_o_tag) E_o (hw _ (List.mem_of_getElem? (i := 55) rfl)) (hw _ (List.mem_of_getElem? (i := 56) rfl)) (hw _ (List.mem_of_getElem? (i := 58) rfl)) (hw _ (List.mem_of_getElem? (i := 57) rfl)) (hw _ (List.mem_of_getElem? (i := 40) rfl)) (hw _ (List.mem_of_getElem? (i := 59) rfl)) (plainFor_of_name own_pn3) (by decide) own_pd7 rfl (argsL := []) (rest := []) rfl rfl (W := 0) (Nat.le_refl _) (by decide) (by decide) (by decide) (by decide) rfl at_255 (pc' := 258) rfl (fun v_ h136 hq => ?_)
  obtain ⟨rfl, rfl⟩ := hq
  show own_W l Z x code maxLocals ret room_1 n0 (fun v h => v = some (.int 1)) h135 3 65808 258 #[.val (.int x0), .val (.int x1), .val (.int x2), .val (.int x3), .val (.int x4), .val (.int t), .val (.int (1 : Int32)), .val (.int n), .val (.int (3 : Int32)), .val (.ref r), .val (.ref o), .unset, .unset] [.int (own_at xs 0 &&& (255 : Int32))]
  refine own_iload (pc' := 260) at_258 rfl rfl ?_
  refine own_ic_eq_t (pc' := 265) at_260 w0 (by decide) (by decide) ?_
  refine own_aload (pc' := 267) at_265 rfl rfl ?_
  refine own_virtual (own_contW l Z a0 hw o r _ (((3 : Int32) + n) - n) ((3 : Int32) + n) ((3 : Int32) + n) n h135 n0 hn0 (by rw [← Int32.toInt_inj]; omega) A_r hlen hnn (by omega) (by omega) (by omega) (by rw [← Int32.toInt_inj]; omega) (by omega) F_o_bytes F_o_start F_o_contentStart F_o_end) E_o (hw _ (List.mem_of_getElem? (i := 60) rfl)) (hw _ (List.mem_of_getElem? (i := 61) rfl)) (hw _ (List.mem_of_getElem? (i := 63) rfl)) (hw _ (List.mem_of_getElem? (i := 62) rfl)) (hw _ (List.mem_of_getElem? (i := 40) rfl)) (hw _ (List.mem_of_getElem? (i := 64) rfl)) (plainFor_of_name own_pn3) (by decide) own_pd9 rfl (argsL := []) (rest := []) rfl rfl (W := 0) (Nat.le_refl _) (by decide) (by decide) (by decide) (by decide) rfl at_267 (pc' := 270) rfl (fun v_ h137 hq => ?_)
  obtain ⟨c, rfl, gt_c, K_2, A_c⟩ := hq
  show own_W l Z x code maxLocals ret room_1 n0 (fun v h => v = some (.int 1)) h137 4 131608 270 #[.val (.int x0), .val (.int x1), .val (.int x2), .val (.int x3), .val (.int x4), .val (.int t), .val (.int (1 : Int32)), .val (.int n), .val (.int (3 : Int32)), .val (.ref r), .val (.ref o), .unset, .unset] [.ref c]
  replace A_r := A_r.keep K_2 nin0
  replace E_r := E_r.keep K_2
  replace E_o := E_o.keep K_2
  replace F_o_bytes := F_o_bytes.keep K_2 nin0
  replace F_o_start := F_o_start.keep K_2 nin0
  replace F_o_contentStart := F_o_contentStart.keep K_2 nin0
  replace F_o_end := F_o_end.keep K_2 nin0
  replace F_o_tag := F_o_tag.keep K_2 nin0
  replace hn0 : n0 ≤ h137.size := Nat.le_trans hn0 K_2.1
  have hcl : (((xs.map Value.int).drop (((3 : Int32) + n) - n).toNatClampNeg).take n.toNatClampNeg).length.toInt32 = n := by rw [List.length_take, List.length_drop, List.length_map, Nat.min_eq_left (by rw [Int32.toNatClampNeg, Int32.toNatClampNeg]; omega)]; exact (back32 (own_nlt (by omega))).1
  refine own_astore (pc' := 272) (Ls' := #[.val (.int x0), .val (.int x1), .val (.int x2), .val (.int x3), .val (.int x4), .val (.int t), .val (.int (1 : Int32)), .val (.int n), .val (.int (3 : Int32)), .val (.ref r), .val (.ref o), .val (.ref c), .unset]) at_270 rfl rfl ?_
  refine own_aload (pc' := 274) at_272 rfl rfl ?_
  refine own_virtual (own_encW l Z a0 hw o r _ _ ((3 : Int32) + n) h137 n0 hn0 A_r E_r hlen (by rw [List.length_map]; omega) F_o_bytes F_o_start F_o_contentStart F_o_end) E_o (hw _ (List.mem_of_getElem? (i := 83) rfl)) (hw _ (List.mem_of_getElem? (i := 84) rfl)) (hw _ (List.mem_of_getElem? (i := 86) rfl)) (hw _ (List.mem_of_getElem? (i := 85) rfl)) (hw _ (List.mem_of_getElem? (i := 40) rfl)) (hw _ (List.mem_of_getElem? (i := 87) rfl)) (plainFor_of_name own_pn3) (by decide) own_pd9 rfl (argsL := []) (rest := []) rfl rfl (W := 0) (Nat.le_refl _) (by decide) (by decide) (by decide) (by decide) rfl at_274 (pc' := 277) rfl (fun v_ h138 hq => ?_)
  obtain ⟨e, rfl, gt_e, K_3, A_e⟩ := hq
  show own_W l Z x code maxLocals ret room_1 n0 (fun v h => v = some (.int 1)) h138 5 197408 277 #[.val (.int x0), .val (.int x1), .val (.int x2), .val (.int x3), .val (.int x4), .val (.int t), .val (.int (1 : Int32)), .val (.int n), .val (.int (3 : Int32)), .val (.ref r), .val (.ref o), .val (.ref c), .unset] [.ref e]
  replace A_r := A_r.keep K_3 nin0
  replace E_r := E_r.keep K_3
  replace E_o := E_o.keep K_3
  replace F_o_bytes := F_o_bytes.keep K_3 nin0
  replace F_o_start := F_o_start.keep K_3 nin0
  replace F_o_contentStart := F_o_contentStart.keep K_3 nin0
  replace F_o_end := F_o_end.keep K_3 nin0
  replace F_o_tag := F_o_tag.keep K_3 nin0
  replace A_c := A_c.keep K_3 nin0
  replace hn0 : n0 ≤ h138.size := Nat.le_trans hn0 K_3.1
  refine own_astore (pc' := 279) (Ls' := #[.val (.int x0), .val (.int x1), .val (.int x2), .val (.int x3), .val (.int x4), .val (.int t), .val (.int (1 : Int32)), .val (.int n), .val (.int (3 : Int32)), .val (.ref r), .val (.ref o), .val (.ref c), .val (.ref e)]) at_277 rfl rfl ?_
  refine own_aload (pc' := 281) at_279 rfl rfl ?_
  refine own_len (pc' := 282) (n := n) A_c hcl at_281 rfl ?_
  refine own_iload (pc' := 284) at_282 rfl rfl ?_
  refine own_ic_ne_f (pc' := 287) at_284 rfl rfl ?_
  refine own_aload (pc' := 289) at_287 rfl rfl ?_
  refine own_len (pc' := 290) (n := ((3 : Int32) + n)) A_e hlen at_289 rfl ?_
  refine own_iload (pc' := 292) at_290 rfl rfl ?_
  refine own_iload (pc' := 294) at_292 rfl rfl ?_
  refine own_iadd (pc' := 295) at_294 rfl ?_
  refine own_ic_eq_t (pc' := 300) at_295 rfl (by decide) (by decide) ?_
  refine own_aload (pc' := 302) at_300 rfl rfl ?_
  refine own_iconst (0 : Int32) (pc' := 303) at_302 rfl rfl ?_
  refine own_baload (pc' := 304) (v := .int (own_at xs (0 : Int32))) A_e (own_nlt (by omega)) (own_getN xs _ (by omega) (by omega)) at_303 rfl ?_
  refine own_aload (pc' := 306) at_304 rfl rfl ?_
  refine own_iconst (0 : Int32) (pc' := 307) at_306 rfl rfl ?_
  refine own_baload (pc' := 308) (v := .int (own_at xs (0 : Int32))) A_r (own_nlt (by omega)) (own_getN xs _ (by omega) (by omega)) at_307 rfl ?_
  refine own_ic_ne_f (pc' := 311) at_308 rfl rfl ?_
  refine own_aload (pc' := 313) at_311 rfl rfl ?_
  refine own_iconst (1 : Int32) (pc' := 314) at_313 rfl rfl ?_
  refine own_baload (pc' := 315) (v := .int (own_at xs (1 : Int32))) A_e (own_nlt (by omega)) (own_getN xs _ (by omega) (by omega)) at_314 rfl ?_
  refine own_aload (pc' := 317) at_315 rfl rfl ?_
  refine own_iconst (1 : Int32) (pc' := 318) at_317 rfl rfl ?_
  refine own_baload (pc' := 319) (v := .int (own_at xs (1 : Int32))) A_r (own_nlt (by omega)) (own_getN xs _ (by omega) (by omega)) at_318 rfl ?_
  refine own_ic_ne_f (pc' := 322) at_319 rfl rfl ?_
  refine own_aload (pc' := 324) at_322 rfl rfl ?_
  refine own_iload (pc' := 326) at_324 rfl rfl ?_
  refine own_iconst (1 : Int32) (pc' := 327) at_326 rfl rfl ?_
  refine own_isub (pc' := 328) at_327 rfl ?_
  refine own_baload (pc' := 329) (v := .int (own_at xs ((3 : Int32) - (1 : Int32)))) A_e (own_nlt (by omega)) (own_getN xs _ (by omega) (by omega)) at_328 rfl ?_
  refine own_aload (pc' := 331) at_329 rfl rfl ?_
  refine own_iload (pc' := 333) at_331 rfl rfl ?_
  refine own_iconst (1 : Int32) (pc' := 334) at_333 rfl rfl ?_
  refine own_isub (pc' := 335) at_334 rfl ?_
  refine own_baload (pc' := 336) (v := .int (own_at xs ((3 : Int32) - (1 : Int32)))) A_r (own_nlt (by omega)) (own_getN xs _ (by omega) (by omega)) at_335 rfl ?_
  refine own_ic_ne_f (pc' := 339) at_336 rfl rfl ?_
  refine own_aload (pc' := 341) at_339 rfl rfl ?_
  refine own_iload (pc' := 343) at_341 rfl rfl ?_
  refine own_iload (pc' := 345) at_343 rfl rfl ?_
  refine own_iadd (pc' := 346) at_345 rfl ?_
  refine own_iconst (1 : Int32) (pc' := 347) at_346 rfl rfl ?_
  refine own_isub (pc' := 348) at_347 rfl ?_
  refine own_baload (pc' := 349) (v := .int (own_at xs (((3 : Int32) + n) - (1 : Int32)))) A_e (own_nlt (by omega)) (own_getN xs _ (by omega) (by omega)) at_348 rfl ?_
  refine own_aload (pc' := 351) at_349 rfl rfl ?_
  refine own_iload (pc' := 353) at_351 rfl rfl ?_
  refine own_iload (pc' := 355) at_353 rfl rfl ?_
  refine own_iadd (pc' := 356) at_355 rfl ?_
  refine own_iconst (1 : Int32) (pc' := 357) at_356 rfl rfl ?_
  refine own_isub (pc' := 358) at_357 rfl ?_
  refine own_baload (pc' := 359) (v := .int (own_at xs (((3 : Int32) + n) - (1 : Int32)))) A_r (own_nlt (by omega)) (own_getN xs _ (by omega) (by omega)) at_358 rfl ?_
  refine own_ic_eq_t (pc' := 364) at_359 rfl (by decide) (by decide) ?_
  refine own_iload (pc' := 366) at_364 rfl rfl ?_
  refine own_if_le (pc' := 403) (pf := 369) at_366 (by decide) (by decide) rfl (fun h_366 => ?_) (fun h_366 => ?_)
  · refine own_iconst (1 : Int32) (pc' := 404) at_403 rfl rfl ?_
    exact own_bret (v := (1 : Int32)) rfl (by first | rfl | decide | assumption) at_404 rfl
  · rw [Int32.lt_iff_toInt_lt, z0] at h_366
    refine own_aload (pc' := 371) at_369 rfl rfl ?_
    refine own_iconst (0 : Int32) (pc' := 372) at_371 rfl rfl ?_
    refine own_baload (pc' := 373) (v := .int (own_at xs (3 : Int32))) A_c (by decide) (own_sl xs _ n 0 (3 : Int32) (by omega) (by decide) (by omega) (by omega) (by omega)) at_372 rfl ?_
    refine own_aload (pc' := 375) at_373 rfl rfl ?_
    refine own_iload (pc' := 377) at_375 rfl rfl ?_
    refine own_baload (pc' := 378) (v := .int (own_at xs (3 : Int32))) A_r (own_nlt (by omega)) (own_getN xs _ (by omega) (by omega)) at_377 rfl ?_
    refine own_ic_ne_f (pc' := 381) at_378 rfl rfl ?_
    refine own_aload (pc' := 383) at_381 rfl rfl ?_
    refine own_iload (pc' := 385) at_383 rfl rfl ?_
    refine own_iconst (1 : Int32) (pc' := 386) at_385 rfl rfl ?_
    refine own_isub (pc' := 387) at_386 rfl ?_
    refine own_baload (pc' := 388) (v := .int (own_at xs (((3 : Int32) + n) - (1 : Int32)))) A_c (own_nlt (by omega)) (own_sl xs _ n (n - 1) (((3 : Int32) + n) - 1) (by omega) (by omega) (by omega) (by omega) (by omega)) at_387 rfl ?_
    refine own_aload (pc' := 390) at_388 rfl rfl ?_
    refine own_iload (pc' := 392) at_390 rfl rfl ?_
    refine own_iload (pc' := 394) at_392 rfl rfl ?_
    refine own_iadd (pc' := 395) at_394 rfl ?_
    refine own_iconst (1 : Int32) (pc' := 396) at_395 rfl rfl ?_
    refine own_isub (pc' := 397) at_396 rfl ?_
    refine own_baload (pc' := 398) (v := .int (own_at xs (((3 : Int32) + n) - (1 : Int32)))) A_r (own_nlt (by omega)) (own_getN xs _ (by omega) (by omega)) at_397 rfl ?_
    refine own_ic_eq_t (pc' := 403) at_398 rfl (by decide) (by decide) ?_
    refine own_iconst (1 : Int32) (pc' := 404) at_403 rfl rfl ?_
    exact own_bret (v := (1 : Int32)) rfl (by first | rfl | decide | assumption) at_404 rfl
set_option maxRecDepth 65536 in
set_option maxHeartbeats 40000000 in
theorem own_lawB1 (l : Launch) (Z : State) (a0 : Array Value) (hw : ∀ d ∈ tables_1, d.before a0 Z = true) (x0 x1 x2 x3 x4 t n : Int32) (r : Addr) (xs : List Int32) (h0 : Heap) (n0 : Nat) (hn0 : n0 ≤ h0.size) (hl : (xs.length : Int) = 3 + n.toInt) (hn : 128 ≤ n.toInt ∧ n.toInt ≤ 255) (w0 : own_at xs 0 &&& 255 = t) (ht : ¬ (t &&& 31) = 31) (w1 : own_at xs 1 = (-127)) (wv : (own_v1 (own_at xs 2)).toInt = n.toInt) (ge_r : n0 ≤ r) (A_r : own_A Z h0 r .byte (xs.map Value.int)) (E_r : Exa Z h0 r "[B") :
    own_W l Z x code maxLocals ret room_1 n0 (fun v h => v = some (.int 1)) h0 1 65800 221 #[.val (.int x0), .val (.int x1), .val (.int x2), .val (.int x3), .val (.int x4), .val (.int t), .val (.int (1 : Int32)), .val (.int n), .val (.int (3 : Int32)), .val (.ref r), .unset, .unset, .unset] [] := by
  have hh : (3 : Int32).toInt = 3 := rfl
  have z0 : (0 : Int32).toInt = 0 := rfl
  have z1 : (1 : Int32).toInt = 1 := rfl
  have a0_ := c_iadd (3 : Int32) n
  have a1_ := rng32 ((3 : Int32) + n)
  have a2_ := c_isub ((3 : Int32) + n) 1
  have a3_ := rng32 (((3 : Int32) + n) - 1)
  refine own_iload (pc' := 223) at_221 rfl rfl ?_
  refine own_if_le (pc' := 246) (pf := 226) at_223 (by decide) (by decide) rfl (fun h_223 => ?_) (fun h_223 => ?_)
  · exact own_lawC1 l Z a0 hw x0 x1 x2 x3 x4 t n r xs h0 n0 hn0 hl hn w0 ht w1 wv A_r E_r
  · rw [Int32.lt_iff_toInt_lt, z0] at h_223
    refine own_aload (pc' := 228) at_226 rfl rfl ?_
    refine own_iload (pc' := 230) at_228 rfl rfl ?_
    refine own_iloadN (pc' := 231) at_230 rfl rfl ?_
    refine own_i2b (pc' := 232) at_231 rfl ?_
    refine own_bastore (pc' := 233) A_r (by decide) (by rw [List.length_map, Int32.toNatClampNeg]; omega) ge_r at_232 rfl (fun h139 K140 A_new => ?_)
    replace E_r := E_r.keep K140
    replace hn0 : n0 ≤ h139.size := Nat.le_trans hn0 K140.1
    replace A_r := A_new
    replace A_r := A_r.cast (own_set xs _ _)
    refine own_aload (pc' := 235) at_233 rfl rfl ?_
    refine own_iload (pc' := 237) at_235 rfl rfl ?_
    refine own_iload (pc' := 239) at_237 rfl rfl ?_
    refine own_iadd (pc' := 240) at_239 rfl ?_
    refine own_iconst (1 : Int32) (pc' := 241) at_240 rfl rfl ?_
    refine own_isub (pc' := 242) at_241 rfl ?_
    refine own_iload (pc' := 244) at_242 rfl rfl ?_
    refine own_i2b (pc' := 245) at_244 rfl ?_
    refine own_bastore (pc' := 246) A_r (own_nlt (by omega)) (by rw [List.length_map, List.length_set, Int32.toNatClampNeg]; omega) ge_r at_245 rfl (fun h141 K142 A_new => ?_)
    replace E_r := E_r.keep K142
    replace hn0 : n0 ≤ h141.size := Nat.le_trans hn0 K142.1
    replace A_r := A_new
    replace A_r := A_r.cast (own_set _ _ _)
    have key : ∀ i : Int32, 0 ≤ i.toInt → i.toInt < 3 → own_at ((xs.set (3 : Int32).toNatClampNeg (nar .byte (x3.toInt8.toInt32))).set (((3 : Int32) + n) - (1 : Int32)).toNatClampNeg (nar .byte (x4.toInt8.toInt32))) i = own_at xs i := fun i h1 h2 => by rw [own_atset _ _ _ _ h1 (by omega) (by omega), own_atset _ _ _ _ h1 (by omega) (by omega)]
    exact own_lawC1 l Z a0 hw x0 x1 x2 x3 x4 t n r ((xs.set (3 : Int32).toNatClampNeg (nar .byte (x3.toInt8.toInt32))).set (((3 : Int32) + n) - (1 : Int32)).toNatClampNeg (nar .byte (x4.toInt8.toInt32))) h141 n0 hn0 (by rw [List.length_set, List.length_set]; exact hl) hn (by rw [key 0 (by decide) (by decide)]; exact w0) ht (by rw [key 1 (by decide) (by decide)]; exact w1) (by rw [key 2 (by decide) (by decide)]; exact wv) A_r E_r
set_option maxRecDepth 65536 in
set_option maxHeartbeats 40000000 in
theorem own_lawC2 (l : Launch) (Z : State) (a0 : Array Value) (hw : ∀ d ∈ tables_1, d.before a0 Z = true) (x0 x1 x2 x3 x4 t n : Int32) (r : Addr) (xs : List Int32) (h0 : Heap) (n0 : Nat) (hn0 : n0 ≤ h0.size) (hl : (xs.length : Int) = 4 + n.toInt) (hn : 256 ≤ n.toInt ∧ n.toInt ≤ 1279) (w0 : own_at xs 0 &&& 255 = t) (ht : ¬ (t &&& 31) = 31) (w1 : own_at xs 1 = (-126)) (wv : (own_v2 (own_at xs 2) (own_at xs 3)).toInt = n.toInt) (A_r : own_A Z h0 r .byte (xs.map Value.int)) (E_r : Exa Z h0 r "[B") :
    own_W l Z x code maxLocals ret room_1 n0 (fun v h => v = some (.int 1)) h0 1 65800 246 #[.val (.int x0), .val (.int x1), .val (.int x2), .val (.int x3), .val (.int x4), .val (.int t), .val (.int (2 : Int32)), .val (.int n), .val (.int (4 : Int32)), .val (.ref r), .unset, .unset, .unset] [] := by
  have hh : (4 : Int32).toInt = 4 := rfl
  have z0 : (0 : Int32).toInt = 0 := rfl
  have z1 : (1 : Int32).toInt = 1 := rfl
  have z2 : (2 : Int32).toInt = 2 := rfl
  have ad0 := c_iadd (4 : Int32) n
  have ad1 := c_isub ((4 : Int32) + n) (4 : Int32)
  have ad2 := c_isub ((4 : Int32) + n) n
  have ad3 := c_isub ((4 : Int32) + n) 1
  have ad4 := c_isub n 1
  have ad5 := c_isub (4 : Int32) 1
  have ad6 := c_isub ((4 : Int32) + n) (((4 : Int32) + n) - n)
  have ad7 := c_isub ((4 : Int32) + n) 2
  have r0 := rng32 (((4 : Int32) + n))
  have r1 := rng32 (((4 : Int32) + n) - (4 : Int32))
  have r2 := rng32 (((4 : Int32) + n) - n)
  have r3 := rng32 (((4 : Int32) + n) - 1)
  have r4 := rng32 (n - 1)
  have r5 := rng32 ((4 : Int32) - 1)
  have r6 := rng32 (((4 : Int32) + n) - (((4 : Int32) + n) - n))
  have r7 := rng32 (n)
  have r8 := rng32 (((4 : Int32) + n) - 2)
  have hN : ((4 : Int32) + n).toInt = 4 + n.toInt := by omega
  have hlen : (xs.map Value.int).length.toInt32 = ((4 : Int32) + n) := by rw [← Int32.toInt_inj, List.length_map, len_toInt (by omega)]; omega
  have hnn : ((4 : Int32) + n).toNatClampNeg = (xs.map Value.int).length := by rw [List.length_map, Int32.toNatClampNeg]; omega
  have g0 := own_getN xs 0 (by decide) (by omega)
  have g1 := own_getN xs 1 (by decide) (by omega)
  have gy0 := own_getN xs 2 (by decide) (by show (2 : Int) < _; omega)
  have gy1 := own_getN xs 3 (by decide) (by show (3 : Int) < _; omega)
  rw [w1] at g1
  have c128 : (128 : Int64).toInt = 128 := rfl
  have cmx : (2147483647 : Int64).toInt = 2147483647 := rfl
  have ck : (2 : Int32).toInt = 2 := rfl
  have l2 := c_l2i (own_v2 (own_at xs 2) (own_at xs 3))
  have l3 := rng32 (own_v2 (own_at xs 2) (own_at xs 3)).toInt32
  have hmin : ¬ ((own_v2 (own_at xs 2) (own_at xs 3)) >>> (((8 : Int32) * ((2 : Int32) - (1 : Int32))).toInt64 &&& 63)) = 0 := by
    intro q
    have q2 := congrArg Int64.toBitVec q
    rw [own_lshr_bv] at q2
    have q3 := congrArg BitVec.toInt q2
    rw [BitVec.toInt_sshiftRight, show (((8 : Int32) * ((2 : Int32) - (1 : Int32))).toBitVec.toNat % 64) = 8 from by decide, Int.shiftRight_eq_div_pow] at q3
    have q4 : (own_v2 (own_at xs 2) (own_at xs 3)).toInt / ((2 ^ 8 : Nat) : Int) = 0 := q3
    rw [wv] at q4
    omega
  refine own_aload (pc' := 248) at_246 rfl rfl ?_
  refine own_static (own_single2 l Z a0 hw r _ ((4 : Int32) + n) n (own_at xs 0) (own_at xs 2) (own_at xs 3) h0 n0 hn0 g1 gy0 gy1 (by rw [Int32.lt_iff_toInt_lt, ck]; omega) (by rw [Int64.lt_iff_toInt_lt, c128]; omega) hmin (by rw [Int64.lt_iff_toInt_lt, cmx]; omega) (by rw [← Int32.toInt_inj]; omega) (by rw [← Int32.toInt_inj]; omega) (by rw [← Int32.toInt_inj]; omega) g0 (by rw [w0]; exact ht) (by rw [Int32.lt_iff_toInt_lt]; omega) rfl A_r hlen) (hw _ (List.mem_of_getElem? (i := 1) rfl)) (hw _ (List.mem_of_getElem? (i := 2) rfl)) (hw _ (List.mem_of_getElem? (i := 3) rfl)) (hw _ (List.mem_of_getElem? (i := 4) rfl)) (plainFor_of_name own_pn1) (by decide) own_pd1 rfl (argsL := [.ref r]) (rest := []) rfl rfl (W := 0) (Nat.le_refl _) (by decide) (by decide) (by decide) (by decide) rfl at_248 (pc' := 251) rfl (fun v_ h143 hq => ?_)
  obtain ⟨o, rfl, gt_o, K_1, E_o, F_o_bytes, F_o_tag, F_o_start, F_o_contentStart, F_o_end⟩ := hq
  show own_W l Z x code maxLocals ret room_1 n0 (fun v h => v = some (.int 1)) h143 3 65808 251 #[.val (.int x0), .val (.int x1), .val (.int x2), .val (.int x3), .val (.int x4), .val (.int t), .val (.int (2 : Int32)), .val (.int n), .val (.int (4 : Int32)), .val (.ref r), .unset, .unset, .unset] [.ref o]
  have ne_r_o : r ≠ o := Nat.ne_of_lt (by have q := Nat.lt_of_lt_of_le A_r.lt (Nat.le_refl _); omega)
  replace A_r := A_r.keep K_1 nin0
  replace E_r := E_r.keep K_1
  replace hn0 : n0 ≤ h143.size := Nat.le_trans hn0 K_1.1
  refine own_astore (pc' := 253) (Ls' := #[.val (.int x0), .val (.int x1), .val (.int x2), .val (.int x3), .val (.int x4), .val (.int t), .val (.int (2 : Int32)), .val (.int n), .val (.int (4 : Int32)), .val (.ref r), .val (.ref o), .unset, .unset]) at_251 rfl rfl ?_
  refine own_aload (pc' := 255) at_253 rfl rfl ?_
  refine own_virtual (own_tagW l Z a0 hw o _ h143 n0 hn0 F_o_tag) E_o (hw _ (List.mem_of_getElem? (i := 55) rfl)) (hw _ (List.mem_of_getElem? (i := 56) rfl)) (hw _ (List.mem_of_getElem? (i := 58) rfl)) (hw _ (List.mem_of_getElem? (i := 57) rfl)) (hw _ (List.mem_of_getElem? (i := 40) rfl)) (hw _ (List.mem_of_getElem? (i := 59) rfl)) (plainFor_of_name own_pn3) (by decide) own_pd7 rfl (argsL := []) (rest := []) rfl rfl (W := 0) (Nat.le_refl _) (by decide) (by decide) (by decide) (by decide) rfl at_255 (pc' := 258) rfl (fun v_ h144 hq => ?_)
  obtain ⟨rfl, rfl⟩ := hq
  show own_W l Z x code maxLocals ret room_1 n0 (fun v h => v = some (.int 1)) h143 3 65808 258 #[.val (.int x0), .val (.int x1), .val (.int x2), .val (.int x3), .val (.int x4), .val (.int t), .val (.int (2 : Int32)), .val (.int n), .val (.int (4 : Int32)), .val (.ref r), .val (.ref o), .unset, .unset] [.int (own_at xs 0 &&& (255 : Int32))]
  refine own_iload (pc' := 260) at_258 rfl rfl ?_
  refine own_ic_eq_t (pc' := 265) at_260 w0 (by decide) (by decide) ?_
  refine own_aload (pc' := 267) at_265 rfl rfl ?_
  refine own_virtual (own_contW l Z a0 hw o r _ (((4 : Int32) + n) - n) ((4 : Int32) + n) ((4 : Int32) + n) n h143 n0 hn0 (by rw [← Int32.toInt_inj]; omega) A_r hlen hnn (by omega) (by omega) (by omega) (by rw [← Int32.toInt_inj]; omega) (by omega) F_o_bytes F_o_start F_o_contentStart F_o_end) E_o (hw _ (List.mem_of_getElem? (i := 60) rfl)) (hw _ (List.mem_of_getElem? (i := 61) rfl)) (hw _ (List.mem_of_getElem? (i := 63) rfl)) (hw _ (List.mem_of_getElem? (i := 62) rfl)) (hw _ (List.mem_of_getElem? (i := 40) rfl)) (hw _ (List.mem_of_getElem? (i := 64) rfl)) (plainFor_of_name own_pn3) (by decide) own_pd9 rfl (argsL := []) (rest := []) rfl rfl (W := 0) (Nat.le_refl _) (by decide) (by decide) (by decide) (by decide) rfl at_267 (pc' := 270) rfl (fun v_ h145 hq => ?_)
  obtain ⟨c, rfl, gt_c, K_2, A_c⟩ := hq
  show own_W l Z x code maxLocals ret room_1 n0 (fun v h => v = some (.int 1)) h145 4 131608 270 #[.val (.int x0), .val (.int x1), .val (.int x2), .val (.int x3), .val (.int x4), .val (.int t), .val (.int (2 : Int32)), .val (.int n), .val (.int (4 : Int32)), .val (.ref r), .val (.ref o), .unset, .unset] [.ref c]
  replace A_r := A_r.keep K_2 nin0
  replace E_r := E_r.keep K_2
  replace E_o := E_o.keep K_2
  replace F_o_bytes := F_o_bytes.keep K_2 nin0
  replace F_o_start := F_o_start.keep K_2 nin0
  replace F_o_contentStart := F_o_contentStart.keep K_2 nin0
  replace F_o_end := F_o_end.keep K_2 nin0
  replace F_o_tag := F_o_tag.keep K_2 nin0
  replace hn0 : n0 ≤ h145.size := Nat.le_trans hn0 K_2.1
  have hcl : (((xs.map Value.int).drop (((4 : Int32) + n) - n).toNatClampNeg).take n.toNatClampNeg).length.toInt32 = n := by rw [List.length_take, List.length_drop, List.length_map, Nat.min_eq_left (by rw [Int32.toNatClampNeg, Int32.toNatClampNeg]; omega)]; exact (back32 (own_nlt (by omega))).1
  refine own_astore (pc' := 272) (Ls' := #[.val (.int x0), .val (.int x1), .val (.int x2), .val (.int x3), .val (.int x4), .val (.int t), .val (.int (2 : Int32)), .val (.int n), .val (.int (4 : Int32)), .val (.ref r), .val (.ref o), .val (.ref c), .unset]) at_270 rfl rfl ?_
  refine own_aload (pc' := 274) at_272 rfl rfl ?_
  refine own_virtual (own_encW l Z a0 hw o r _ _ ((4 : Int32) + n) h145 n0 hn0 A_r E_r hlen (by rw [List.length_map]; omega) F_o_bytes F_o_start F_o_contentStart F_o_end) E_o (hw _ (List.mem_of_getElem? (i := 83) rfl)) (hw _ (List.mem_of_getElem? (i := 84) rfl)) (hw _ (List.mem_of_getElem? (i := 86) rfl)) (hw _ (List.mem_of_getElem? (i := 85) rfl)) (hw _ (List.mem_of_getElem? (i := 40) rfl)) (hw _ (List.mem_of_getElem? (i := 87) rfl)) (plainFor_of_name own_pn3) (by decide) own_pd9 rfl (argsL := []) (rest := []) rfl rfl (W := 0) (Nat.le_refl _) (by decide) (by decide) (by decide) (by decide) rfl at_274 (pc' := 277) rfl (fun v_ h146 hq => ?_)
  obtain ⟨e, rfl, gt_e, K_3, A_e⟩ := hq
  show own_W l Z x code maxLocals ret room_1 n0 (fun v h => v = some (.int 1)) h146 5 197408 277 #[.val (.int x0), .val (.int x1), .val (.int x2), .val (.int x3), .val (.int x4), .val (.int t), .val (.int (2 : Int32)), .val (.int n), .val (.int (4 : Int32)), .val (.ref r), .val (.ref o), .val (.ref c), .unset] [.ref e]
  replace A_r := A_r.keep K_3 nin0
  replace E_r := E_r.keep K_3
  replace E_o := E_o.keep K_3
  replace F_o_bytes := F_o_bytes.keep K_3 nin0
  replace F_o_start := F_o_start.keep K_3 nin0
  replace F_o_contentStart := F_o_contentStart.keep K_3 nin0
  replace F_o_end := F_o_end.keep K_3 nin0
  replace F_o_tag := F_o_tag.keep K_3 nin0
  replace A_c := A_c.keep K_3 nin0
  replace hn0 : n0 ≤ h146.size := Nat.le_trans hn0 K_3.1
  refine own_astore (pc' := 279) (Ls' := #[.val (.int x0), .val (.int x1), .val (.int x2), .val (.int x3), .val (.int x4), .val (.int t), .val (.int (2 : Int32)), .val (.int n), .val (.int (4 : Int32)), .val (.ref r), .val (.ref o), .val (.ref c), .val (.ref e)]) at_277 rfl rfl ?_
  refine own_aload (pc' := 281) at_279 rfl rfl ?_
  refine own_len (pc' := 282) (n := n) A_c hcl at_281 rfl ?_
  refine own_iload (pc' := 284) at_282 rfl rfl ?_
  refine own_ic_ne_f (pc' := 287) at_284 rfl rfl ?_
  refine own_aload (pc' := 289) at_287 rfl rfl ?_
  refine own_len (pc' := 290) (n := ((4 : Int32) + n)) A_e hlen at_289 rfl ?_
  refine own_iload (pc' := 292) at_290 rfl rfl ?_
  refine own_iload (pc' := 294) at_292 rfl rfl ?_
  refine own_iadd (pc' := 295) at_294 rfl ?_
  refine own_ic_eq_t (pc' := 300) at_295 rfl (by decide) (by decide) ?_
  refine own_aload (pc' := 302) at_300 rfl rfl ?_
  refine own_iconst (0 : Int32) (pc' := 303) at_302 rfl rfl ?_
  refine own_baload (pc' := 304) (v := .int (own_at xs (0 : Int32))) A_e (own_nlt (by omega)) (own_getN xs _ (by omega) (by omega)) at_303 rfl ?_
  refine own_aload (pc' := 306) at_304 rfl rfl ?_
  refine own_iconst (0 : Int32) (pc' := 307) at_306 rfl rfl ?_
  refine own_baload (pc' := 308) (v := .int (own_at xs (0 : Int32))) A_r (own_nlt (by omega)) (own_getN xs _ (by omega) (by omega)) at_307 rfl ?_
  refine own_ic_ne_f (pc' := 311) at_308 rfl rfl ?_
  refine own_aload (pc' := 313) at_311 rfl rfl ?_
  refine own_iconst (1 : Int32) (pc' := 314) at_313 rfl rfl ?_
  refine own_baload (pc' := 315) (v := .int (own_at xs (1 : Int32))) A_e (own_nlt (by omega)) (own_getN xs _ (by omega) (by omega)) at_314 rfl ?_
  refine own_aload (pc' := 317) at_315 rfl rfl ?_
  refine own_iconst (1 : Int32) (pc' := 318) at_317 rfl rfl ?_
  refine own_baload (pc' := 319) (v := .int (own_at xs (1 : Int32))) A_r (own_nlt (by omega)) (own_getN xs _ (by omega) (by omega)) at_318 rfl ?_
  refine own_ic_ne_f (pc' := 322) at_319 rfl rfl ?_
  refine own_aload (pc' := 324) at_322 rfl rfl ?_
  refine own_iload (pc' := 326) at_324 rfl rfl ?_
  refine own_iconst (1 : Int32) (pc' := 327) at_326 rfl rfl ?_
  refine own_isub (pc' := 328) at_327 rfl ?_
  refine own_baload (pc' := 329) (v := .int (own_at xs ((4 : Int32) - (1 : Int32)))) A_e (own_nlt (by omega)) (own_getN xs _ (by omega) (by omega)) at_328 rfl ?_
  refine own_aload (pc' := 331) at_329 rfl rfl ?_
  refine own_iload (pc' := 333) at_331 rfl rfl ?_
  refine own_iconst (1 : Int32) (pc' := 334) at_333 rfl rfl ?_
  refine own_isub (pc' := 335) at_334 rfl ?_
  refine own_baload (pc' := 336) (v := .int (own_at xs ((4 : Int32) - (1 : Int32)))) A_r (own_nlt (by omega)) (own_getN xs _ (by omega) (by omega)) at_335 rfl ?_
  refine own_ic_ne_f (pc' := 339) at_336 rfl rfl ?_
  refine own_aload (pc' := 341) at_339 rfl rfl ?_
  refine own_iload (pc' := 343) at_341 rfl rfl ?_
  refine own_iload (pc' := 345) at_343 rfl rfl ?_
  refine own_iadd (pc' := 346) at_345 rfl ?_
  refine own_iconst (1 : Int32) (pc' := 347) at_346 rfl rfl ?_
  refine own_isub (pc' := 348) at_347 rfl ?_
  refine own_baload (pc' := 349) (v := .int (own_at xs (((4 : Int32) + n) - (1 : Int32)))) A_e (own_nlt (by omega)) (own_getN xs _ (by omega) (by omega)) at_348 rfl ?_
  refine own_aload (pc' := 351) at_349 rfl rfl ?_
  refine own_iload (pc' := 353) at_351 rfl rfl ?_
  refine own_iload (pc' := 355) at_353 rfl rfl ?_
  refine own_iadd (pc' := 356) at_355 rfl ?_
  refine own_iconst (1 : Int32) (pc' := 357) at_356 rfl rfl ?_
  refine own_isub (pc' := 358) at_357 rfl ?_
  refine own_baload (pc' := 359) (v := .int (own_at xs (((4 : Int32) + n) - (1 : Int32)))) A_r (own_nlt (by omega)) (own_getN xs _ (by omega) (by omega)) at_358 rfl ?_
  refine own_ic_eq_t (pc' := 364) at_359 rfl (by decide) (by decide) ?_
  refine own_iload (pc' := 366) at_364 rfl rfl ?_
  refine own_if_le (pc' := 403) (pf := 369) at_366 (by decide) (by decide) rfl (fun h_366 => ?_) (fun h_366 => ?_)
  · refine own_iconst (1 : Int32) (pc' := 404) at_403 rfl rfl ?_
    exact own_bret (v := (1 : Int32)) rfl (by first | rfl | decide | assumption) at_404 rfl
  · rw [Int32.lt_iff_toInt_lt, z0] at h_366
    refine own_aload (pc' := 371) at_369 rfl rfl ?_
    refine own_iconst (0 : Int32) (pc' := 372) at_371 rfl rfl ?_
    refine own_baload (pc' := 373) (v := .int (own_at xs (4 : Int32))) A_c (by decide) (own_sl xs _ n 0 (4 : Int32) (by omega) (by decide) (by omega) (by omega) (by omega)) at_372 rfl ?_
    refine own_aload (pc' := 375) at_373 rfl rfl ?_
    refine own_iload (pc' := 377) at_375 rfl rfl ?_
    refine own_baload (pc' := 378) (v := .int (own_at xs (4 : Int32))) A_r (own_nlt (by omega)) (own_getN xs _ (by omega) (by omega)) at_377 rfl ?_
    refine own_ic_ne_f (pc' := 381) at_378 rfl rfl ?_
    refine own_aload (pc' := 383) at_381 rfl rfl ?_
    refine own_iload (pc' := 385) at_383 rfl rfl ?_
    refine own_iconst (1 : Int32) (pc' := 386) at_385 rfl rfl ?_
    refine own_isub (pc' := 387) at_386 rfl ?_
    refine own_baload (pc' := 388) (v := .int (own_at xs (((4 : Int32) + n) - (1 : Int32)))) A_c (own_nlt (by omega)) (own_sl xs _ n (n - 1) (((4 : Int32) + n) - 1) (by omega) (by omega) (by omega) (by omega) (by omega)) at_387 rfl ?_
    refine own_aload (pc' := 390) at_388 rfl rfl ?_
    refine own_iload (pc' := 392) at_390 rfl rfl ?_
    refine own_iload (pc' := 394) at_392 rfl rfl ?_
    refine own_iadd (pc' := 395) at_394 rfl ?_
    refine own_iconst (1 : Int32) (pc' := 396) at_395 rfl rfl ?_
    refine own_isub (pc' := 397) at_396 rfl ?_
    refine own_baload (pc' := 398) (v := .int (own_at xs (((4 : Int32) + n) - (1 : Int32)))) A_r (own_nlt (by omega)) (own_getN xs _ (by omega) (by omega)) at_397 rfl ?_
    refine own_ic_eq_t (pc' := 403) at_398 rfl (by decide) (by decide) ?_
    refine own_iconst (1 : Int32) (pc' := 404) at_403 rfl rfl ?_
    exact own_bret (v := (1 : Int32)) rfl (by first | rfl | decide | assumption) at_404 rfl
set_option maxRecDepth 65536 in
set_option maxHeartbeats 40000000 in
theorem own_lawB2 (l : Launch) (Z : State) (a0 : Array Value) (hw : ∀ d ∈ tables_1, d.before a0 Z = true) (x0 x1 x2 x3 x4 t n : Int32) (r : Addr) (xs : List Int32) (h0 : Heap) (n0 : Nat) (hn0 : n0 ≤ h0.size) (hl : (xs.length : Int) = 4 + n.toInt) (hn : 256 ≤ n.toInt ∧ n.toInt ≤ 1279) (w0 : own_at xs 0 &&& 255 = t) (ht : ¬ (t &&& 31) = 31) (w1 : own_at xs 1 = (-126)) (wv : (own_v2 (own_at xs 2) (own_at xs 3)).toInt = n.toInt) (ge_r : n0 ≤ r) (A_r : own_A Z h0 r .byte (xs.map Value.int)) (E_r : Exa Z h0 r "[B") :
    own_W l Z x code maxLocals ret room_1 n0 (fun v h => v = some (.int 1)) h0 1 65800 221 #[.val (.int x0), .val (.int x1), .val (.int x2), .val (.int x3), .val (.int x4), .val (.int t), .val (.int (2 : Int32)), .val (.int n), .val (.int (4 : Int32)), .val (.ref r), .unset, .unset, .unset] [] := by
  have hh : (4 : Int32).toInt = 4 := rfl
  have z0 : (0 : Int32).toInt = 0 := rfl
  have z1 : (1 : Int32).toInt = 1 := rfl
  have a0_ := c_iadd (4 : Int32) n
  have a1_ := rng32 ((4 : Int32) + n)
  have a2_ := c_isub ((4 : Int32) + n) 1
  have a3_ := rng32 (((4 : Int32) + n) - 1)
  refine own_iload (pc' := 223) at_221 rfl rfl ?_
  refine own_if_le (pc' := 246) (pf := 226) at_223 (by decide) (by decide) rfl (fun h_223 => ?_) (fun h_223 => ?_)
  · exact own_lawC2 l Z a0 hw x0 x1 x2 x3 x4 t n r xs h0 n0 hn0 hl hn w0 ht w1 wv A_r E_r
  · rw [Int32.lt_iff_toInt_lt, z0] at h_223
    refine own_aload (pc' := 228) at_226 rfl rfl ?_
    refine own_iload (pc' := 230) at_228 rfl rfl ?_
    refine own_iloadN (pc' := 231) at_230 rfl rfl ?_
    refine own_i2b (pc' := 232) at_231 rfl ?_
    refine own_bastore (pc' := 233) A_r (by decide) (by rw [List.length_map, Int32.toNatClampNeg]; omega) ge_r at_232 rfl (fun h147 K148 A_new => ?_)
    replace E_r := E_r.keep K148
    replace hn0 : n0 ≤ h147.size := Nat.le_trans hn0 K148.1
    replace A_r := A_new
    replace A_r := A_r.cast (own_set xs _ _)
    refine own_aload (pc' := 235) at_233 rfl rfl ?_
    refine own_iload (pc' := 237) at_235 rfl rfl ?_
    refine own_iload (pc' := 239) at_237 rfl rfl ?_
    refine own_iadd (pc' := 240) at_239 rfl ?_
    refine own_iconst (1 : Int32) (pc' := 241) at_240 rfl rfl ?_
    refine own_isub (pc' := 242) at_241 rfl ?_
    refine own_iload (pc' := 244) at_242 rfl rfl ?_
    refine own_i2b (pc' := 245) at_244 rfl ?_
    refine own_bastore (pc' := 246) A_r (own_nlt (by omega)) (by rw [List.length_map, List.length_set, Int32.toNatClampNeg]; omega) ge_r at_245 rfl (fun h149 K150 A_new => ?_)
    replace E_r := E_r.keep K150
    replace hn0 : n0 ≤ h149.size := Nat.le_trans hn0 K150.1
    replace A_r := A_new
    replace A_r := A_r.cast (own_set _ _ _)
    have key : ∀ i : Int32, 0 ≤ i.toInt → i.toInt < 4 → own_at ((xs.set (4 : Int32).toNatClampNeg (nar .byte (x3.toInt8.toInt32))).set (((4 : Int32) + n) - (1 : Int32)).toNatClampNeg (nar .byte (x4.toInt8.toInt32))) i = own_at xs i := fun i h1 h2 => by rw [own_atset _ _ _ _ h1 (by omega) (by omega), own_atset _ _ _ _ h1 (by omega) (by omega)]
    exact own_lawC2 l Z a0 hw x0 x1 x2 x3 x4 t n r ((xs.set (4 : Int32).toNatClampNeg (nar .byte (x3.toInt8.toInt32))).set (((4 : Int32) + n) - (1 : Int32)).toNatClampNeg (nar .byte (x4.toInt8.toInt32))) h149 n0 hn0 (by rw [List.length_set, List.length_set]; exact hl) hn (by rw [key 0 (by decide) (by decide)]; exact w0) ht (by rw [key 1 (by decide) (by decide)]; exact w1) (by rw [key 2 (by decide) (by decide), key 3 (by decide) (by decide)]; exact wv) A_r E_r
set_option maxRecDepth 65536 in
set_option maxHeartbeats 40000000 in
theorem own_lawC3 (l : Launch) (Z : State) (a0 : Array Value) (hw : ∀ d ∈ tables_1, d.before a0 Z = true) (x0 x1 x2 x3 x4 t n : Int32) (r : Addr) (xs : List Int32) (h0 : Heap) (n0 : Nat) (hn0 : n0 ≤ h0.size) (hl : (xs.length : Int) = 5 + n.toInt) (hn : 65536 ≤ n.toInt ∧ n.toInt ≤ 65791) (w0 : own_at xs 0 &&& 255 = t) (ht : ¬ (t &&& 31) = 31) (w1 : own_at xs 1 = (-125)) (wv : (own_v3 (own_at xs 2) (own_at xs 3) (own_at xs 4)).toInt = n.toInt) (A_r : own_A Z h0 r .byte (xs.map Value.int)) (E_r : Exa Z h0 r "[B") :
    own_W l Z x code maxLocals ret room_1 n0 (fun v h => v = some (.int 1)) h0 1 65800 246 #[.val (.int x0), .val (.int x1), .val (.int x2), .val (.int x3), .val (.int x4), .val (.int t), .val (.int (3 : Int32)), .val (.int n), .val (.int (5 : Int32)), .val (.ref r), .unset, .unset, .unset] [] := by
  have hh : (5 : Int32).toInt = 5 := rfl
  have z0 : (0 : Int32).toInt = 0 := rfl
  have z1 : (1 : Int32).toInt = 1 := rfl
  have z2 : (2 : Int32).toInt = 2 := rfl
  have ad0 := c_iadd (5 : Int32) n
  have ad1 := c_isub ((5 : Int32) + n) (5 : Int32)
  have ad2 := c_isub ((5 : Int32) + n) n
  have ad3 := c_isub ((5 : Int32) + n) 1
  have ad4 := c_isub n 1
  have ad5 := c_isub (5 : Int32) 1
  have ad6 := c_isub ((5 : Int32) + n) (((5 : Int32) + n) - n)
  have ad7 := c_isub ((5 : Int32) + n) 2
  have r0 := rng32 (((5 : Int32) + n))
  have r1 := rng32 (((5 : Int32) + n) - (5 : Int32))
  have r2 := rng32 (((5 : Int32) + n) - n)
  have r3 := rng32 (((5 : Int32) + n) - 1)
  have r4 := rng32 (n - 1)
  have r5 := rng32 ((5 : Int32) - 1)
  have r6 := rng32 (((5 : Int32) + n) - (((5 : Int32) + n) - n))
  have r7 := rng32 (n)
  have r8 := rng32 (((5 : Int32) + n) - 2)
  have hN : ((5 : Int32) + n).toInt = 5 + n.toInt := by omega
  have hlen : (xs.map Value.int).length.toInt32 = ((5 : Int32) + n) := by rw [← Int32.toInt_inj, List.length_map, len_toInt (by omega)]; omega
  have hnn : ((5 : Int32) + n).toNatClampNeg = (xs.map Value.int).length := by rw [List.length_map, Int32.toNatClampNeg]; omega
  have g0 := own_getN xs 0 (by decide) (by omega)
  have g1 := own_getN xs 1 (by decide) (by omega)
  have gy0 := own_getN xs 2 (by decide) (by show (2 : Int) < _; omega)
  have gy1 := own_getN xs 3 (by decide) (by show (3 : Int) < _; omega)
  have gy2 := own_getN xs 4 (by decide) (by show (4 : Int) < _; omega)
  rw [w1] at g1
  have c128 : (128 : Int64).toInt = 128 := rfl
  have cmx : (2147483647 : Int64).toInt = 2147483647 := rfl
  have ck : (3 : Int32).toInt = 3 := rfl
  have l2 := c_l2i (own_v3 (own_at xs 2) (own_at xs 3) (own_at xs 4))
  have l3 := rng32 (own_v3 (own_at xs 2) (own_at xs 3) (own_at xs 4)).toInt32
  have hmin : ¬ ((own_v3 (own_at xs 2) (own_at xs 3) (own_at xs 4)) >>> (((8 : Int32) * ((3 : Int32) - (1 : Int32))).toInt64 &&& 63)) = 0 := by
    intro q
    have q2 := congrArg Int64.toBitVec q
    rw [own_lshr_bv] at q2
    have q3 := congrArg BitVec.toInt q2
    rw [BitVec.toInt_sshiftRight, show (((8 : Int32) * ((3 : Int32) - (1 : Int32))).toBitVec.toNat % 64) = 16 from by decide, Int.shiftRight_eq_div_pow] at q3
    have q4 : (own_v3 (own_at xs 2) (own_at xs 3) (own_at xs 4)).toInt / ((2 ^ 16 : Nat) : Int) = 0 := q3
    rw [wv] at q4
    omega
  refine own_aload (pc' := 248) at_246 rfl rfl ?_
  refine own_static (own_single3 l Z a0 hw r _ ((5 : Int32) + n) n (own_at xs 0) (own_at xs 2) (own_at xs 3) (own_at xs 4) h0 n0 hn0 g1 gy0 gy1 gy2 (by rw [Int32.lt_iff_toInt_lt, ck]; omega) (by rw [Int64.lt_iff_toInt_lt, c128]; omega) hmin (by rw [Int64.lt_iff_toInt_lt, cmx]; omega) (by rw [← Int32.toInt_inj]; omega) (by rw [← Int32.toInt_inj]; omega) (by rw [← Int32.toInt_inj]; omega) g0 (by rw [w0]; exact ht) (by rw [Int32.lt_iff_toInt_lt]; omega) rfl A_r hlen) (hw _ (List.mem_of_getElem? (i := 1) rfl)) (hw _ (List.mem_of_getElem? (i := 2) rfl)) (hw _ (List.mem_of_getElem? (i := 3) rfl)) (hw _ (List.mem_of_getElem? (i := 4) rfl)) (plainFor_of_name own_pn1) (by decide) own_pd1 rfl (argsL := [.ref r]) (rest := []) rfl rfl (W := 0) (Nat.le_refl _) (by decide) (by decide) (by decide) (by decide) rfl at_248 (pc' := 251) rfl (fun v_ h151 hq => ?_)
  obtain ⟨o, rfl, gt_o, K_1, E_o, F_o_bytes, F_o_tag, F_o_start, F_o_contentStart, F_o_end⟩ := hq
  show own_W l Z x code maxLocals ret room_1 n0 (fun v h => v = some (.int 1)) h151 3 65808 251 #[.val (.int x0), .val (.int x1), .val (.int x2), .val (.int x3), .val (.int x4), .val (.int t), .val (.int (3 : Int32)), .val (.int n), .val (.int (5 : Int32)), .val (.ref r), .unset, .unset, .unset] [.ref o]
  have ne_r_o : r ≠ o := Nat.ne_of_lt (by have q := Nat.lt_of_lt_of_le A_r.lt (Nat.le_refl _); omega)
  replace A_r := A_r.keep K_1 nin0
  replace E_r := E_r.keep K_1
  replace hn0 : n0 ≤ h151.size := Nat.le_trans hn0 K_1.1
  refine own_astore (pc' := 253) (Ls' := #[.val (.int x0), .val (.int x1), .val (.int x2), .val (.int x3), .val (.int x4), .val (.int t), .val (.int (3 : Int32)), .val (.int n), .val (.int (5 : Int32)), .val (.ref r), .val (.ref o), .unset, .unset]) at_251 rfl rfl ?_
  refine own_aload (pc' := 255) at_253 rfl rfl ?_
  refine own_virtual (own_tagW l Z a0 hw o _ h151 n0 hn0 F_o_tag) E_o (hw _ (List.mem_of_getElem? (i := 55) rfl)) (hw _ (List.mem_of_getElem? (i := 56) rfl)) (hw _ (List.mem_of_getElem? (i := 58) rfl)) (hw _ (List.mem_of_getElem? (i := 57) rfl)) (hw _ (List.mem_of_getElem? (i := 40) rfl)) (hw _ (List.mem_of_getElem? (i := 59) rfl)) (plainFor_of_name own_pn3) (by decide) own_pd7 rfl (argsL := []) (rest := []) rfl rfl (W := 0) (Nat.le_refl _) (by decide) (by decide) (by decide) (by decide) rfl at_255 (pc' := 258) rfl (fun v_ h152 hq => ?_)
  obtain ⟨rfl, rfl⟩ := hq
  show own_W l Z x code maxLocals ret room_1 n0 (fun v h => v = some (.int 1)) h151 3 65808 258 #[.val (.int x0), .val (.int x1), .val (.int x2), .val (.int x3), .val (.int x4), .val (.int t), .val (.int (3 : Int32)), .val (.int n), .val (.int (5 : Int32)), .val (.ref r), .val (.ref o), .unset, .unset] [.int (own_at xs 0 &&& (255 : Int32))]
  refine own_iload (pc' := 260) at_258 rfl rfl ?_
  refine own_ic_eq_t (pc' := 265) at_260 w0 (by decide) (by decide) ?_
  refine own_aload (pc' := 267) at_265 rfl rfl ?_
  refine own_virtual (own_contW l Z a0 hw o r _ (((5 : Int32) + n) - n) ((5 : Int32) + n) ((5 : Int32) + n) n h151 n0 hn0 (by rw [← Int32.toInt_inj]; omega) A_r hlen hnn (by omega) (by omega) (by omega) (by rw [← Int32.toInt_inj]; omega) (by omega) F_o_bytes F_o_start F_o_contentStart F_o_end) E_o (hw _ (List.mem_of_getElem? (i := 60) rfl)) (hw _ (List.mem_of_getElem? (i := 61) rfl)) (hw _ (List.mem_of_getElem? (i := 63) rfl)) (hw _ (List.mem_of_getElem? (i := 62) rfl)) (hw _ (List.mem_of_getElem? (i := 40) rfl)) (hw _ (List.mem_of_getElem? (i := 64) rfl)) (plainFor_of_name own_pn3) (by decide) own_pd9 rfl (argsL := []) (rest := []) rfl rfl (W := 0) (Nat.le_refl _) (by decide) (by decide) (by decide) (by decide) rfl at_267 (pc' := 270) rfl (fun v_ h153 hq => ?_)
  obtain ⟨c, rfl, gt_c, K_2, A_c⟩ := hq
  show own_W l Z x code maxLocals ret room_1 n0 (fun v h => v = some (.int 1)) h153 4 131608 270 #[.val (.int x0), .val (.int x1), .val (.int x2), .val (.int x3), .val (.int x4), .val (.int t), .val (.int (3 : Int32)), .val (.int n), .val (.int (5 : Int32)), .val (.ref r), .val (.ref o), .unset, .unset] [.ref c]
  replace A_r := A_r.keep K_2 nin0
  replace E_r := E_r.keep K_2
  replace E_o := E_o.keep K_2
  replace F_o_bytes := F_o_bytes.keep K_2 nin0
  replace F_o_start := F_o_start.keep K_2 nin0
  replace F_o_contentStart := F_o_contentStart.keep K_2 nin0
  replace F_o_end := F_o_end.keep K_2 nin0
  replace F_o_tag := F_o_tag.keep K_2 nin0
  replace hn0 : n0 ≤ h153.size := Nat.le_trans hn0 K_2.1
  have hcl : (((xs.map Value.int).drop (((5 : Int32) + n) - n).toNatClampNeg).take n.toNatClampNeg).length.toInt32 = n := by rw [List.length_take, List.length_drop, List.length_map, Nat.min_eq_left (by rw [Int32.toNatClampNeg, Int32.toNatClampNeg]; omega)]; exact (back32 (own_nlt (by omega))).1
  refine own_astore (pc' := 272) (Ls' := #[.val (.int x0), .val (.int x1), .val (.int x2), .val (.int x3), .val (.int x4), .val (.int t), .val (.int (3 : Int32)), .val (.int n), .val (.int (5 : Int32)), .val (.ref r), .val (.ref o), .val (.ref c), .unset]) at_270 rfl rfl ?_
  refine own_aload (pc' := 274) at_272 rfl rfl ?_
  refine own_virtual (own_encW l Z a0 hw o r _ _ ((5 : Int32) + n) h153 n0 hn0 A_r E_r hlen (by rw [List.length_map]; omega) F_o_bytes F_o_start F_o_contentStart F_o_end) E_o (hw _ (List.mem_of_getElem? (i := 83) rfl)) (hw _ (List.mem_of_getElem? (i := 84) rfl)) (hw _ (List.mem_of_getElem? (i := 86) rfl)) (hw _ (List.mem_of_getElem? (i := 85) rfl)) (hw _ (List.mem_of_getElem? (i := 40) rfl)) (hw _ (List.mem_of_getElem? (i := 87) rfl)) (plainFor_of_name own_pn3) (by decide) own_pd9 rfl (argsL := []) (rest := []) rfl rfl (W := 0) (Nat.le_refl _) (by decide) (by decide) (by decide) (by decide) rfl at_274 (pc' := 277) rfl (fun v_ h154 hq => ?_)
  obtain ⟨e, rfl, gt_e, K_3, A_e⟩ := hq
  show own_W l Z x code maxLocals ret room_1 n0 (fun v h => v = some (.int 1)) h154 5 197408 277 #[.val (.int x0), .val (.int x1), .val (.int x2), .val (.int x3), .val (.int x4), .val (.int t), .val (.int (3 : Int32)), .val (.int n), .val (.int (5 : Int32)), .val (.ref r), .val (.ref o), .val (.ref c), .unset] [.ref e]
  replace A_r := A_r.keep K_3 nin0
  replace E_r := E_r.keep K_3
  replace E_o := E_o.keep K_3
  replace F_o_bytes := F_o_bytes.keep K_3 nin0
  replace F_o_start := F_o_start.keep K_3 nin0
  replace F_o_contentStart := F_o_contentStart.keep K_3 nin0
  replace F_o_end := F_o_end.keep K_3 nin0
  replace F_o_tag := F_o_tag.keep K_3 nin0
  replace A_c := A_c.keep K_3 nin0
  replace hn0 : n0 ≤ h154.size := Nat.le_trans hn0 K_3.1
  refine own_astore (pc' := 279) (Ls' := #[.val (.int x0), .val (.int x1), .val (.int x2), .val (.int x3), .val (.int x4), .val (.int t), .val (.int (3 : Int32)), .val (.int n), .val (.int (5 : Int32)), .val (.ref r), .val (.ref o), .val (.ref c), .val (.ref e)]) at_277 rfl rfl ?_
  refine own_aload (pc' := 281) at_279 rfl rfl ?_
  refine own_len (pc' := 282) (n := n) A_c hcl at_281 rfl ?_
  refine own_iload (pc' := 284) at_282 rfl rfl ?_
  refine own_ic_ne_f (pc' := 287) at_284 rfl rfl ?_
  refine own_aload (pc' := 289) at_287 rfl rfl ?_
  refine own_len (pc' := 290) (n := ((5 : Int32) + n)) A_e hlen at_289 rfl ?_
  refine own_iload (pc' := 292) at_290 rfl rfl ?_
  refine own_iload (pc' := 294) at_292 rfl rfl ?_
  refine own_iadd (pc' := 295) at_294 rfl ?_
  refine own_ic_eq_t (pc' := 300) at_295 rfl (by decide) (by decide) ?_
  refine own_aload (pc' := 302) at_300 rfl rfl ?_
  refine own_iconst (0 : Int32) (pc' := 303) at_302 rfl rfl ?_
  refine own_baload (pc' := 304) (v := .int (own_at xs (0 : Int32))) A_e (own_nlt (by omega)) (own_getN xs _ (by omega) (by omega)) at_303 rfl ?_
  refine own_aload (pc' := 306) at_304 rfl rfl ?_
  refine own_iconst (0 : Int32) (pc' := 307) at_306 rfl rfl ?_
  refine own_baload (pc' := 308) (v := .int (own_at xs (0 : Int32))) A_r (own_nlt (by omega)) (own_getN xs _ (by omega) (by omega)) at_307 rfl ?_
  refine own_ic_ne_f (pc' := 311) at_308 rfl rfl ?_
  refine own_aload (pc' := 313) at_311 rfl rfl ?_
  refine own_iconst (1 : Int32) (pc' := 314) at_313 rfl rfl ?_
  refine own_baload (pc' := 315) (v := .int (own_at xs (1 : Int32))) A_e (own_nlt (by omega)) (own_getN xs _ (by omega) (by omega)) at_314 rfl ?_
  refine own_aload (pc' := 317) at_315 rfl rfl ?_
  refine own_iconst (1 : Int32) (pc' := 318) at_317 rfl rfl ?_
  refine own_baload (pc' := 319) (v := .int (own_at xs (1 : Int32))) A_r (own_nlt (by omega)) (own_getN xs _ (by omega) (by omega)) at_318 rfl ?_
  refine own_ic_ne_f (pc' := 322) at_319 rfl rfl ?_
  refine own_aload (pc' := 324) at_322 rfl rfl ?_
  refine own_iload (pc' := 326) at_324 rfl rfl ?_
  refine own_iconst (1 : Int32) (pc' := 327) at_326 rfl rfl ?_
  refine own_isub (pc' := 328) at_327 rfl ?_
  refine own_baload (pc' := 329) (v := .int (own_at xs ((5 : Int32) - (1 : Int32)))) A_e (own_nlt (by omega)) (own_getN xs _ (by omega) (by omega)) at_328 rfl ?_
  refine own_aload (pc' := 331) at_329 rfl rfl ?_
  refine own_iload (pc' := 333) at_331 rfl rfl ?_
  refine own_iconst (1 : Int32) (pc' := 334) at_333 rfl rfl ?_
  refine own_isub (pc' := 335) at_334 rfl ?_
  refine own_baload (pc' := 336) (v := .int (own_at xs ((5 : Int32) - (1 : Int32)))) A_r (own_nlt (by omega)) (own_getN xs _ (by omega) (by omega)) at_335 rfl ?_
  refine own_ic_ne_f (pc' := 339) at_336 rfl rfl ?_
  refine own_aload (pc' := 341) at_339 rfl rfl ?_
  refine own_iload (pc' := 343) at_341 rfl rfl ?_
  refine own_iload (pc' := 345) at_343 rfl rfl ?_
  refine own_iadd (pc' := 346) at_345 rfl ?_
  refine own_iconst (1 : Int32) (pc' := 347) at_346 rfl rfl ?_
  refine own_isub (pc' := 348) at_347 rfl ?_
  refine own_baload (pc' := 349) (v := .int (own_at xs (((5 : Int32) + n) - (1 : Int32)))) A_e (own_nlt (by omega)) (own_getN xs _ (by omega) (by omega)) at_348 rfl ?_
  refine own_aload (pc' := 351) at_349 rfl rfl ?_
  refine own_iload (pc' := 353) at_351 rfl rfl ?_
  refine own_iload (pc' := 355) at_353 rfl rfl ?_
  refine own_iadd (pc' := 356) at_355 rfl ?_
  refine own_iconst (1 : Int32) (pc' := 357) at_356 rfl rfl ?_
  refine own_isub (pc' := 358) at_357 rfl ?_
  refine own_baload (pc' := 359) (v := .int (own_at xs (((5 : Int32) + n) - (1 : Int32)))) A_r (own_nlt (by omega)) (own_getN xs _ (by omega) (by omega)) at_358 rfl ?_
  refine own_ic_eq_t (pc' := 364) at_359 rfl (by decide) (by decide) ?_
  refine own_iload (pc' := 366) at_364 rfl rfl ?_
  refine own_if_le (pc' := 403) (pf := 369) at_366 (by decide) (by decide) rfl (fun h_366 => ?_) (fun h_366 => ?_)
  · refine own_iconst (1 : Int32) (pc' := 404) at_403 rfl rfl ?_
    exact own_bret (v := (1 : Int32)) rfl (by first | rfl | decide | assumption) at_404 rfl
  · rw [Int32.lt_iff_toInt_lt, z0] at h_366
    refine own_aload (pc' := 371) at_369 rfl rfl ?_
    refine own_iconst (0 : Int32) (pc' := 372) at_371 rfl rfl ?_
    refine own_baload (pc' := 373) (v := .int (own_at xs (5 : Int32))) A_c (by decide) (own_sl xs _ n 0 (5 : Int32) (by omega) (by decide) (by omega) (by omega) (by omega)) at_372 rfl ?_
    refine own_aload (pc' := 375) at_373 rfl rfl ?_
    refine own_iload (pc' := 377) at_375 rfl rfl ?_
    refine own_baload (pc' := 378) (v := .int (own_at xs (5 : Int32))) A_r (own_nlt (by omega)) (own_getN xs _ (by omega) (by omega)) at_377 rfl ?_
    refine own_ic_ne_f (pc' := 381) at_378 rfl rfl ?_
    refine own_aload (pc' := 383) at_381 rfl rfl ?_
    refine own_iload (pc' := 385) at_383 rfl rfl ?_
    refine own_iconst (1 : Int32) (pc' := 386) at_385 rfl rfl ?_
    refine own_isub (pc' := 387) at_386 rfl ?_
    refine own_baload (pc' := 388) (v := .int (own_at xs (((5 : Int32) + n) - (1 : Int32)))) A_c (own_nlt (by omega)) (own_sl xs _ n (n - 1) (((5 : Int32) + n) - 1) (by omega) (by omega) (by omega) (by omega) (by omega)) at_387 rfl ?_
    refine own_aload (pc' := 390) at_388 rfl rfl ?_
    refine own_iload (pc' := 392) at_390 rfl rfl ?_
    refine own_iload (pc' := 394) at_392 rfl rfl ?_
    refine own_iadd (pc' := 395) at_394 rfl ?_
    refine own_iconst (1 : Int32) (pc' := 396) at_395 rfl rfl ?_
    refine own_isub (pc' := 397) at_396 rfl ?_
    refine own_baload (pc' := 398) (v := .int (own_at xs (((5 : Int32) + n) - (1 : Int32)))) A_r (own_nlt (by omega)) (own_getN xs _ (by omega) (by omega)) at_397 rfl ?_
    refine own_ic_eq_t (pc' := 403) at_398 rfl (by decide) (by decide) ?_
    refine own_iconst (1 : Int32) (pc' := 404) at_403 rfl rfl ?_
    exact own_bret (v := (1 : Int32)) rfl (by first | rfl | decide | assumption) at_404 rfl
set_option maxRecDepth 65536 in
set_option maxHeartbeats 40000000 in
theorem own_lawB3 (l : Launch) (Z : State) (a0 : Array Value) (hw : ∀ d ∈ tables_1, d.before a0 Z = true) (x0 x1 x2 x3 x4 t n : Int32) (r : Addr) (xs : List Int32) (h0 : Heap) (n0 : Nat) (hn0 : n0 ≤ h0.size) (hl : (xs.length : Int) = 5 + n.toInt) (hn : 65536 ≤ n.toInt ∧ n.toInt ≤ 65791) (w0 : own_at xs 0 &&& 255 = t) (ht : ¬ (t &&& 31) = 31) (w1 : own_at xs 1 = (-125)) (wv : (own_v3 (own_at xs 2) (own_at xs 3) (own_at xs 4)).toInt = n.toInt) (ge_r : n0 ≤ r) (A_r : own_A Z h0 r .byte (xs.map Value.int)) (E_r : Exa Z h0 r "[B") :
    own_W l Z x code maxLocals ret room_1 n0 (fun v h => v = some (.int 1)) h0 1 65800 221 #[.val (.int x0), .val (.int x1), .val (.int x2), .val (.int x3), .val (.int x4), .val (.int t), .val (.int (3 : Int32)), .val (.int n), .val (.int (5 : Int32)), .val (.ref r), .unset, .unset, .unset] [] := by
  have hh : (5 : Int32).toInt = 5 := rfl
  have z0 : (0 : Int32).toInt = 0 := rfl
  have z1 : (1 : Int32).toInt = 1 := rfl
  have a0_ := c_iadd (5 : Int32) n
  have a1_ := rng32 ((5 : Int32) + n)
  have a2_ := c_isub ((5 : Int32) + n) 1
  have a3_ := rng32 (((5 : Int32) + n) - 1)
  refine own_iload (pc' := 223) at_221 rfl rfl ?_
  refine own_if_le (pc' := 246) (pf := 226) at_223 (by decide) (by decide) rfl (fun h_223 => ?_) (fun h_223 => ?_)
  · exact own_lawC3 l Z a0 hw x0 x1 x2 x3 x4 t n r xs h0 n0 hn0 hl hn w0 ht w1 wv A_r E_r
  · rw [Int32.lt_iff_toInt_lt, z0] at h_223
    refine own_aload (pc' := 228) at_226 rfl rfl ?_
    refine own_iload (pc' := 230) at_228 rfl rfl ?_
    refine own_iloadN (pc' := 231) at_230 rfl rfl ?_
    refine own_i2b (pc' := 232) at_231 rfl ?_
    refine own_bastore (pc' := 233) A_r (by decide) (by rw [List.length_map, Int32.toNatClampNeg]; omega) ge_r at_232 rfl (fun h155 K156 A_new => ?_)
    replace E_r := E_r.keep K156
    replace hn0 : n0 ≤ h155.size := Nat.le_trans hn0 K156.1
    replace A_r := A_new
    replace A_r := A_r.cast (own_set xs _ _)
    refine own_aload (pc' := 235) at_233 rfl rfl ?_
    refine own_iload (pc' := 237) at_235 rfl rfl ?_
    refine own_iload (pc' := 239) at_237 rfl rfl ?_
    refine own_iadd (pc' := 240) at_239 rfl ?_
    refine own_iconst (1 : Int32) (pc' := 241) at_240 rfl rfl ?_
    refine own_isub (pc' := 242) at_241 rfl ?_
    refine own_iload (pc' := 244) at_242 rfl rfl ?_
    refine own_i2b (pc' := 245) at_244 rfl ?_
    refine own_bastore (pc' := 246) A_r (own_nlt (by omega)) (by rw [List.length_map, List.length_set, Int32.toNatClampNeg]; omega) ge_r at_245 rfl (fun h157 K158 A_new => ?_)
    replace E_r := E_r.keep K158
    replace hn0 : n0 ≤ h157.size := Nat.le_trans hn0 K158.1
    replace A_r := A_new
    replace A_r := A_r.cast (own_set _ _ _)
    have key : ∀ i : Int32, 0 ≤ i.toInt → i.toInt < 5 → own_at ((xs.set (5 : Int32).toNatClampNeg (nar .byte (x3.toInt8.toInt32))).set (((5 : Int32) + n) - (1 : Int32)).toNatClampNeg (nar .byte (x4.toInt8.toInt32))) i = own_at xs i := fun i h1 h2 => by rw [own_atset _ _ _ _ h1 (by omega) (by omega), own_atset _ _ _ _ h1 (by omega) (by omega)]
    exact own_lawC3 l Z a0 hw x0 x1 x2 x3 x4 t n r ((xs.set (5 : Int32).toNatClampNeg (nar .byte (x3.toInt8.toInt32))).set (((5 : Int32) + n) - (1 : Int32)).toNatClampNeg (nar .byte (x4.toInt8.toInt32))) h157 n0 hn0 (by rw [List.length_set, List.length_set]; exact hl) hn (by rw [key 0 (by decide) (by decide)]; exact w0) ht (by rw [key 1 (by decide) (by decide)]; exact w1) (by rw [key 2 (by decide) (by decide), key 3 (by decide) (by decide), key 4 (by decide) (by decide)]; exact wv) A_r E_r
set_option maxRecDepth 65536 in
set_option maxHeartbeats 40000000 in
theorem own_lawA0 (l : Launch) (Z : State) (a0 : Array Value) (hw : ∀ d ∈ tables_1, d.before a0 Z = true) (x0 x1 x2 x3 x4 t n : Int32) (h0 : Heap) (n0 : Nat) (hn0 : n0 ≤ h0.size) (hn : 0 ≤ n.toInt ∧ n.toInt ≤ 127) (htr : 0 ≤ t.toInt ∧ t.toInt < 256) (ht : ¬ (t &&& 31) = 31) :
    own_W l Z x code maxLocals ret room_1 n0 (fun v h => v = some (.int 1)) h0 0 0 103 #[.val (.int x0), .val (.int x1), .val (.int x2), .val (.int x3), .val (.int x4), .val (.int t), .val (.int (0 : Int32)), .val (.int n), .val (.int (2 : Int32)), .unset, .unset, .unset, .unset] [] := by
  have hh : (2 : Int32).toInt = 2 := rfl
  have z0 : (0 : Int32).toInt = 0 := rfl
  have a0_ := c_iadd (2 : Int32) n
  have a1_ := rng32 ((2 : Int32) + n)
  have s0 := c_mask t 255 8 (by decide) (by decide)
  have st : t &&& 255 = t := by rw [← Int32.toInt_inj, s0]; omega
  refine own_iload (pc' := 105) at_103 rfl rfl ?_
  refine own_iload (pc' := 107) at_105 rfl rfl ?_
  refine own_iadd (pc' := 108) at_107 rfl ?_
  refine own_newarrE (pc' := 110) (ty := .byte) (cap := 65800) (hw _ (List.mem_of_getElem? (i := 0) rfl)) rfl at_108 rfl (own_nlt (by omega)) (by rw [Int32.toNatClampNeg]; omega) (by decide) (by decide) (by decide) (fun h159 r gt_r lt_r E160 A_r E_r => ?_)
  replace E_r : Exa Z h159 r "[B" := (show ("[" ++ FieldType.toString .byte) = "[B" from by decide) ▸ E_r
  have ge_r : n0 ≤ r := Nat.le_trans hn0 gt_r
  replace hn0 : n0 ≤ h159.size := Nat.le_trans hn0 E160.1
  replace A_r : own_A Z h159 r .byte ((List.replicate ((2 : Int32) + n).toNatClampNeg (0 : Int32)).map Value.int) := A_r.cast (by rw [List.map_replicate]; rfl)
  have hl0 : ((List.replicate ((2 : Int32) + n).toNatClampNeg (0 : Int32)).length : Int) = 2 + n.toInt := by rw [List.length_replicate, Int32.toNatClampNeg]; omega
  generalize hx0 : List.replicate ((2 : Int32) + n).toNatClampNeg (0 : Int32) = xs0 at A_r hl0
  refine own_astore (pc' := 112) (Ls' := #[.val (.int x0), .val (.int x1), .val (.int x2), .val (.int x3), .val (.int x4), .val (.int t), .val (.int (0 : Int32)), .val (.int n), .val (.int (2 : Int32)), .val (.ref r), .unset, .unset, .unset]) at_110 rfl rfl ?_
  refine own_aload (pc' := 114) at_112 rfl rfl ?_
  refine own_iconst (0 : Int32) (pc' := 115) at_114 rfl rfl ?_
  refine own_iload (pc' := 117) at_115 rfl rfl ?_
  refine own_i2b (pc' := 118) at_117 rfl ?_
  refine own_bastore (pc' := 119) A_r (by decide) (by rw [List.length_map, Int32.toNatClampNeg]; have q : (0 : Int32).toInt = 0 := rfl; omega) ge_r at_118 rfl (fun h161 K162 A_new => ?_)
  replace E_r := E_r.keep K162
  replace hn0 : n0 ≤ h161.size := Nat.le_trans hn0 K162.1
  replace A_r := A_new
  replace A_r := A_r.cast (own_set xs0 _ _)
  have hl1 : ((xs0.set (0 : Int32).toNatClampNeg (nar .byte (t.toInt8.toInt32))).length : Int) = 2 + n.toInt := by rw [List.length_set]; exact hl0
  have at1 : own_at (xs0.set (0 : Int32).toNatClampNeg (nar .byte (t.toInt8.toInt32))) (0 : Int32) = (nar .byte (t.toInt8.toInt32)) := own_atsame _ _ _ (by decide) (by have q : (0 : Int32).toInt = 0 := rfl; omega)
  have ke1 : ∀ i : Int32, 0 ≤ i.toInt → i.toInt ≠ 0 → own_at (xs0.set (0 : Int32).toNatClampNeg (nar .byte (t.toInt8.toInt32))) i = own_at xs0 i := fun i h1 h2 => own_atset _ _ _ _ h1 (by decide) h2
  generalize xs0.set (0 : Int32).toNatClampNeg (nar .byte (t.toInt8.toInt32)) = xs1 at A_r hl1 at1 ke1
  refine own_iload (pc' := 121) at_119 rfl rfl ?_
  refine own_if_ne_f (pc' := 124) at_121 (by decide) rfl ?_
  refine own_aload (pc' := 126) at_124 rfl rfl ?_
  refine own_iconst (1 : Int32) (pc' := 127) at_126 rfl rfl ?_
  refine own_iload (pc' := 129) at_127 rfl rfl ?_
  refine own_i2b (pc' := 130) at_129 rfl ?_
  refine own_bastore (pc' := 131) A_r (by decide) (by rw [List.length_map, Int32.toNatClampNeg]; have q : (1 : Int32).toInt = 1 := rfl; omega) ge_r at_130 rfl (fun h163 K164 A_new => ?_)
  replace E_r := E_r.keep K164
  replace hn0 : n0 ≤ h163.size := Nat.le_trans hn0 K164.1
  replace A_r := A_new
  replace A_r := A_r.cast (own_set xs1 _ _)
  have hl2 : ((xs1.set (1 : Int32).toNatClampNeg (nar .byte (n.toInt8.toInt32))).length : Int) = 2 + n.toInt := by rw [List.length_set]; exact hl1
  have at2 : own_at (xs1.set (1 : Int32).toNatClampNeg (nar .byte (n.toInt8.toInt32))) (1 : Int32) = (nar .byte (n.toInt8.toInt32)) := own_atsame _ _ _ (by decide) (by have q : (1 : Int32).toInt = 1 := rfl; omega)
  have ke2 : ∀ i : Int32, 0 ≤ i.toInt → i.toInt ≠ 1 → own_at (xs1.set (1 : Int32).toNatClampNeg (nar .byte (n.toInt8.toInt32))) i = own_at xs1 i := fun i h1 h2 => own_atset _ _ _ _ h1 (by decide) h2
  generalize xs1.set (1 : Int32).toNatClampNeg (nar .byte (n.toInt8.toInt32)) = xs2 at A_r hl2 at2 ke2
  refine own_goto (pc' := 221) at_131 (by decide) (by decide) ?_
  have v0 : own_at xs2 0 &&& 255 = t := by rw [ke2 0 (by decide) (by decide), at1, own_b8]; exact st
  have b1 := c_i2b n
  have b2 := c_i2b n.toInt8.toInt32
  have v1 : own_at xs2 1 = n := by rw [at2]; show n.toInt8.toInt32.toInt8.toInt32 = n; rw [← Int32.toInt_inj]; omega
  exact own_lawB0 l Z a0 hw x0 x1 x2 x3 x4 t n r xs2 h163 n0 (by first | exact hn0 | omega) hl2 hn v0 ht v1 ge_r A_r E_r
set_option maxRecDepth 65536 in
set_option maxHeartbeats 40000000 in
theorem own_lawA1 (l : Launch) (Z : State) (a0 : Array Value) (hw : ∀ d ∈ tables_1, d.before a0 Z = true) (x0 x1 x2 x3 x4 t n : Int32) (h0 : Heap) (n0 : Nat) (hn0 : n0 ≤ h0.size) (hn : 128 ≤ n.toInt ∧ n.toInt ≤ 255) (htr : 0 ≤ t.toInt ∧ t.toInt < 256) (ht : ¬ (t &&& 31) = 31) :
    own_W l Z x code maxLocals ret room_1 n0 (fun v h => v = some (.int 1)) h0 0 0 103 #[.val (.int x0), .val (.int x1), .val (.int x2), .val (.int x3), .val (.int x4), .val (.int t), .val (.int (1 : Int32)), .val (.int n), .val (.int (3 : Int32)), .unset, .unset, .unset, .unset] [] := by
  have hh : (3 : Int32).toInt = 3 := rfl
  have z0 : (0 : Int32).toInt = 0 := rfl
  have a0_ := c_iadd (3 : Int32) n
  have a1_ := rng32 ((3 : Int32) + n)
  have s0 := c_mask t 255 8 (by decide) (by decide)
  have st : t &&& 255 = t := by rw [← Int32.toInt_inj, s0]; omega
  refine own_iload (pc' := 105) at_103 rfl rfl ?_
  refine own_iload (pc' := 107) at_105 rfl rfl ?_
  refine own_iadd (pc' := 108) at_107 rfl ?_
  refine own_newarrE (pc' := 110) (ty := .byte) (cap := 65800) (hw _ (List.mem_of_getElem? (i := 0) rfl)) rfl at_108 rfl (own_nlt (by omega)) (by rw [Int32.toNatClampNeg]; omega) (by decide) (by decide) (by decide) (fun h165 r gt_r lt_r E166 A_r E_r => ?_)
  replace E_r : Exa Z h165 r "[B" := (show ("[" ++ FieldType.toString .byte) = "[B" from by decide) ▸ E_r
  have ge_r : n0 ≤ r := Nat.le_trans hn0 gt_r
  replace hn0 : n0 ≤ h165.size := Nat.le_trans hn0 E166.1
  replace A_r : own_A Z h165 r .byte ((List.replicate ((3 : Int32) + n).toNatClampNeg (0 : Int32)).map Value.int) := A_r.cast (by rw [List.map_replicate]; rfl)
  have hl0 : ((List.replicate ((3 : Int32) + n).toNatClampNeg (0 : Int32)).length : Int) = 3 + n.toInt := by rw [List.length_replicate, Int32.toNatClampNeg]; omega
  generalize hx0 : List.replicate ((3 : Int32) + n).toNatClampNeg (0 : Int32) = xs0 at A_r hl0
  refine own_astore (pc' := 112) (Ls' := #[.val (.int x0), .val (.int x1), .val (.int x2), .val (.int x3), .val (.int x4), .val (.int t), .val (.int (1 : Int32)), .val (.int n), .val (.int (3 : Int32)), .val (.ref r), .unset, .unset, .unset]) at_110 rfl rfl ?_
  refine own_aload (pc' := 114) at_112 rfl rfl ?_
  refine own_iconst (0 : Int32) (pc' := 115) at_114 rfl rfl ?_
  refine own_iload (pc' := 117) at_115 rfl rfl ?_
  refine own_i2b (pc' := 118) at_117 rfl ?_
  refine own_bastore (pc' := 119) A_r (by decide) (by rw [List.length_map, Int32.toNatClampNeg]; have q : (0 : Int32).toInt = 0 := rfl; omega) ge_r at_118 rfl (fun h167 K168 A_new => ?_)
  replace E_r := E_r.keep K168
  replace hn0 : n0 ≤ h167.size := Nat.le_trans hn0 K168.1
  replace A_r := A_new
  replace A_r := A_r.cast (own_set xs0 _ _)
  have hl1 : ((xs0.set (0 : Int32).toNatClampNeg (nar .byte (t.toInt8.toInt32))).length : Int) = 3 + n.toInt := by rw [List.length_set]; exact hl0
  have at1 : own_at (xs0.set (0 : Int32).toNatClampNeg (nar .byte (t.toInt8.toInt32))) (0 : Int32) = (nar .byte (t.toInt8.toInt32)) := own_atsame _ _ _ (by decide) (by have q : (0 : Int32).toInt = 0 := rfl; omega)
  have ke1 : ∀ i : Int32, 0 ≤ i.toInt → i.toInt ≠ 0 → own_at (xs0.set (0 : Int32).toNatClampNeg (nar .byte (t.toInt8.toInt32))) i = own_at xs0 i := fun i h1 h2 => own_atset _ _ _ _ h1 (by decide) h2
  generalize xs0.set (0 : Int32).toNatClampNeg (nar .byte (t.toInt8.toInt32)) = xs1 at A_r hl1 at1 ke1
  refine own_iload (pc' := 121) at_119 rfl rfl ?_
  refine own_if_ne_t (pc' := 134) at_121 (by decide) (by decide) (by decide) ?_
  refine own_iload (pc' := 136) at_134 rfl rfl ?_
  refine own_iconst (1 : Int32) (pc' := 137) at_136 rfl rfl ?_
  refine own_ic_ne_f (pc' := 140) at_137 (by decide) rfl ?_
  refine own_aload (pc' := 142) at_140 rfl rfl ?_
  refine own_iconst (1 : Int32) (pc' := 143) at_142 rfl rfl ?_
  refine own_bipush (-127 : Int32) (pc' := 145) at_143 rfl rfl ?_
  refine own_bastore (pc' := 146) A_r (by decide) (by rw [List.length_map, Int32.toNatClampNeg]; have q : (1 : Int32).toInt = 1 := rfl; omega) ge_r at_145 rfl (fun h169 K170 A_new => ?_)
  replace E_r := E_r.keep K170
  replace hn0 : n0 ≤ h169.size := Nat.le_trans hn0 K170.1
  replace A_r := A_new
  replace A_r := A_r.cast (own_set xs1 _ _)
  have hl2 : ((xs1.set (1 : Int32).toNatClampNeg (nar .byte (-127 : Int32))).length : Int) = 3 + n.toInt := by rw [List.length_set]; exact hl1
  have at2 : own_at (xs1.set (1 : Int32).toNatClampNeg (nar .byte (-127 : Int32))) (1 : Int32) = (nar .byte (-127 : Int32)) := own_atsame _ _ _ (by decide) (by have q : (1 : Int32).toInt = 1 := rfl; omega)
  have ke2 : ∀ i : Int32, 0 ≤ i.toInt → i.toInt ≠ 1 → own_at (xs1.set (1 : Int32).toNatClampNeg (nar .byte (-127 : Int32))) i = own_at xs1 i := fun i h1 h2 => own_atset _ _ _ _ h1 (by decide) h2
  generalize xs1.set (1 : Int32).toNatClampNeg (nar .byte (-127 : Int32)) = xs2 at A_r hl2 at2 ke2
  refine own_aload (pc' := 148) at_146 rfl rfl ?_
  refine own_iconst (2 : Int32) (pc' := 149) at_148 rfl rfl ?_
  refine own_iload (pc' := 151) at_149 rfl rfl ?_
  refine own_i2b (pc' := 152) at_151 rfl ?_
  refine own_bastore (pc' := 153) A_r (by decide) (by rw [List.length_map, Int32.toNatClampNeg]; have q : (2 : Int32).toInt = 2 := rfl; omega) ge_r at_152 rfl (fun h171 K172 A_new => ?_)
  replace E_r := E_r.keep K172
  replace hn0 : n0 ≤ h171.size := Nat.le_trans hn0 K172.1
  replace A_r := A_new
  replace A_r := A_r.cast (own_set xs2 _ _)
  have hl3 : ((xs2.set (2 : Int32).toNatClampNeg (nar .byte (n.toInt8.toInt32))).length : Int) = 3 + n.toInt := by rw [List.length_set]; exact hl2
  have at3 : own_at (xs2.set (2 : Int32).toNatClampNeg (nar .byte (n.toInt8.toInt32))) (2 : Int32) = (nar .byte (n.toInt8.toInt32)) := own_atsame _ _ _ (by decide) (by have q : (2 : Int32).toInt = 2 := rfl; omega)
  have ke3 : ∀ i : Int32, 0 ≤ i.toInt → i.toInt ≠ 2 → own_at (xs2.set (2 : Int32).toNatClampNeg (nar .byte (n.toInt8.toInt32))) i = own_at xs2 i := fun i h1 h2 => own_atset _ _ _ _ h1 (by decide) h2
  generalize xs2.set (2 : Int32).toNatClampNeg (nar .byte (n.toInt8.toInt32)) = xs3 at A_r hl3 at3 ke3
  refine own_goto (pc' := 221) at_153 (by decide) (by decide) ?_
  have v0 : own_at xs3 0 &&& 255 = t := by rw [ke3 0 (by decide) (by decide), ke2 0 (by decide) (by decide), at1, own_b8]; exact st
  have v1 : own_at xs3 1 = (-127) := by rw [ke3 1 (by decide) (by decide), at2]; decide
  have wv : (own_v1 (own_at xs3 2)).toInt = n.toInt := by
    rw [own_v1i, at3, own_b8]
    have m0 := c_mask n 255 8 (by decide) (by decide)
    omega
  exact own_lawB1 l Z a0 hw x0 x1 x2 x3 x4 t n r xs3 h171 n0 (by first | exact hn0 | omega) hl3 hn v0 ht v1 wv ge_r A_r E_r
set_option maxRecDepth 65536 in
set_option maxHeartbeats 40000000 in
theorem own_lawA2 (l : Launch) (Z : State) (a0 : Array Value) (hw : ∀ d ∈ tables_1, d.before a0 Z = true) (x0 x1 x2 x3 x4 t n : Int32) (h0 : Heap) (n0 : Nat) (hn0 : n0 ≤ h0.size) (hn : 256 ≤ n.toInt ∧ n.toInt ≤ 1279) (htr : 0 ≤ t.toInt ∧ t.toInt < 256) (ht : ¬ (t &&& 31) = 31) :
    own_W l Z x code maxLocals ret room_1 n0 (fun v h => v = some (.int 1)) h0 0 0 103 #[.val (.int x0), .val (.int x1), .val (.int x2), .val (.int x3), .val (.int x4), .val (.int t), .val (.int (2 : Int32)), .val (.int n), .val (.int (4 : Int32)), .unset, .unset, .unset, .unset] [] := by
  have hh : (4 : Int32).toInt = 4 := rfl
  have z0 : (0 : Int32).toInt = 0 := rfl
  have a0_ := c_iadd (4 : Int32) n
  have a1_ := rng32 ((4 : Int32) + n)
  have s0 := c_mask t 255 8 (by decide) (by decide)
  have st : t &&& 255 = t := by rw [← Int32.toInt_inj, s0]; omega
  refine own_iload (pc' := 105) at_103 rfl rfl ?_
  refine own_iload (pc' := 107) at_105 rfl rfl ?_
  refine own_iadd (pc' := 108) at_107 rfl ?_
  refine own_newarrE (pc' := 110) (ty := .byte) (cap := 65800) (hw _ (List.mem_of_getElem? (i := 0) rfl)) rfl at_108 rfl (own_nlt (by omega)) (by rw [Int32.toNatClampNeg]; omega) (by decide) (by decide) (by decide) (fun h173 r gt_r lt_r E174 A_r E_r => ?_)
  replace E_r : Exa Z h173 r "[B" := (show ("[" ++ FieldType.toString .byte) = "[B" from by decide) ▸ E_r
  have ge_r : n0 ≤ r := Nat.le_trans hn0 gt_r
  replace hn0 : n0 ≤ h173.size := Nat.le_trans hn0 E174.1
  replace A_r : own_A Z h173 r .byte ((List.replicate ((4 : Int32) + n).toNatClampNeg (0 : Int32)).map Value.int) := A_r.cast (by rw [List.map_replicate]; rfl)
  have hl0 : ((List.replicate ((4 : Int32) + n).toNatClampNeg (0 : Int32)).length : Int) = 4 + n.toInt := by rw [List.length_replicate, Int32.toNatClampNeg]; omega
  generalize hx0 : List.replicate ((4 : Int32) + n).toNatClampNeg (0 : Int32) = xs0 at A_r hl0
  refine own_astore (pc' := 112) (Ls' := #[.val (.int x0), .val (.int x1), .val (.int x2), .val (.int x3), .val (.int x4), .val (.int t), .val (.int (2 : Int32)), .val (.int n), .val (.int (4 : Int32)), .val (.ref r), .unset, .unset, .unset]) at_110 rfl rfl ?_
  refine own_aload (pc' := 114) at_112 rfl rfl ?_
  refine own_iconst (0 : Int32) (pc' := 115) at_114 rfl rfl ?_
  refine own_iload (pc' := 117) at_115 rfl rfl ?_
  refine own_i2b (pc' := 118) at_117 rfl ?_
  refine own_bastore (pc' := 119) A_r (by decide) (by rw [List.length_map, Int32.toNatClampNeg]; have q : (0 : Int32).toInt = 0 := rfl; omega) ge_r at_118 rfl (fun h175 K176 A_new => ?_)
  replace E_r := E_r.keep K176
  replace hn0 : n0 ≤ h175.size := Nat.le_trans hn0 K176.1
  replace A_r := A_new
  replace A_r := A_r.cast (own_set xs0 _ _)
  have hl1 : ((xs0.set (0 : Int32).toNatClampNeg (nar .byte (t.toInt8.toInt32))).length : Int) = 4 + n.toInt := by rw [List.length_set]; exact hl0
  have at1 : own_at (xs0.set (0 : Int32).toNatClampNeg (nar .byte (t.toInt8.toInt32))) (0 : Int32) = (nar .byte (t.toInt8.toInt32)) := own_atsame _ _ _ (by decide) (by have q : (0 : Int32).toInt = 0 := rfl; omega)
  have ke1 : ∀ i : Int32, 0 ≤ i.toInt → i.toInt ≠ 0 → own_at (xs0.set (0 : Int32).toNatClampNeg (nar .byte (t.toInt8.toInt32))) i = own_at xs0 i := fun i h1 h2 => own_atset _ _ _ _ h1 (by decide) h2
  generalize xs0.set (0 : Int32).toNatClampNeg (nar .byte (t.toInt8.toInt32)) = xs1 at A_r hl1 at1 ke1
  refine own_iload (pc' := 121) at_119 rfl rfl ?_
  refine own_if_ne_t (pc' := 134) at_121 (by decide) (by decide) (by decide) ?_
  refine own_iload (pc' := 136) at_134 rfl rfl ?_
  refine own_iconst (1 : Int32) (pc' := 137) at_136 rfl rfl ?_
  refine own_ic_ne_t (pc' := 156) at_137 (by decide) (by decide) (by decide) ?_
  refine own_iload (pc' := 158) at_156 rfl rfl ?_
  refine own_iconst (2 : Int32) (pc' := 159) at_158 rfl rfl ?_
  refine own_ic_ne_f (pc' := 162) at_159 (by decide) rfl ?_
  refine own_aload (pc' := 164) at_162 rfl rfl ?_
  refine own_iconst (1 : Int32) (pc' := 165) at_164 rfl rfl ?_
  refine own_bipush (-126 : Int32) (pc' := 167) at_165 rfl rfl ?_
  refine own_bastore (pc' := 168) A_r (by decide) (by rw [List.length_map, Int32.toNatClampNeg]; have q : (1 : Int32).toInt = 1 := rfl; omega) ge_r at_167 rfl (fun h177 K178 A_new => ?_)
  replace E_r := E_r.keep K178
  replace hn0 : n0 ≤ h177.size := Nat.le_trans hn0 K178.1
  replace A_r := A_new
  replace A_r := A_r.cast (own_set xs1 _ _)
  have hl2 : ((xs1.set (1 : Int32).toNatClampNeg (nar .byte (-126 : Int32))).length : Int) = 4 + n.toInt := by rw [List.length_set]; exact hl1
  have at2 : own_at (xs1.set (1 : Int32).toNatClampNeg (nar .byte (-126 : Int32))) (1 : Int32) = (nar .byte (-126 : Int32)) := own_atsame _ _ _ (by decide) (by have q : (1 : Int32).toInt = 1 := rfl; omega)
  have ke2 : ∀ i : Int32, 0 ≤ i.toInt → i.toInt ≠ 1 → own_at (xs1.set (1 : Int32).toNatClampNeg (nar .byte (-126 : Int32))) i = own_at xs1 i := fun i h1 h2 => own_atset _ _ _ _ h1 (by decide) h2
  generalize xs1.set (1 : Int32).toNatClampNeg (nar .byte (-126 : Int32)) = xs2 at A_r hl2 at2 ke2
  refine own_aload (pc' := 170) at_168 rfl rfl ?_
  refine own_iconst (2 : Int32) (pc' := 171) at_170 rfl rfl ?_
  refine own_iload (pc' := 173) at_171 rfl rfl ?_
  refine own_bipush (8 : Int32) (pc' := 175) at_173 rfl rfl ?_
  refine own_ishr (pc' := 176) at_175 rfl ?_
  refine own_i2b (pc' := 177) at_176 rfl ?_
  refine own_bastore (pc' := 178) A_r (by decide) (by rw [List.length_map, Int32.toNatClampNeg]; have q : (2 : Int32).toInt = 2 := rfl; omega) ge_r at_177 rfl (fun h179 K180 A_new => ?_)
  replace E_r := E_r.keep K180
  replace hn0 : n0 ≤ h179.size := Nat.le_trans hn0 K180.1
  replace A_r := A_new
  replace A_r := A_r.cast (own_set xs2 _ _)
  have hl3 : ((xs2.set (2 : Int32).toNatClampNeg (nar .byte ((n >>> ((8 : Int32) &&& 31)).toInt8.toInt32))).length : Int) = 4 + n.toInt := by rw [List.length_set]; exact hl2
  have at3 : own_at (xs2.set (2 : Int32).toNatClampNeg (nar .byte ((n >>> ((8 : Int32) &&& 31)).toInt8.toInt32))) (2 : Int32) = (nar .byte ((n >>> ((8 : Int32) &&& 31)).toInt8.toInt32)) := own_atsame _ _ _ (by decide) (by have q : (2 : Int32).toInt = 2 := rfl; omega)
  have ke3 : ∀ i : Int32, 0 ≤ i.toInt → i.toInt ≠ 2 → own_at (xs2.set (2 : Int32).toNatClampNeg (nar .byte ((n >>> ((8 : Int32) &&& 31)).toInt8.toInt32))) i = own_at xs2 i := fun i h1 h2 => own_atset _ _ _ _ h1 (by decide) h2
  generalize xs2.set (2 : Int32).toNatClampNeg (nar .byte ((n >>> ((8 : Int32) &&& 31)).toInt8.toInt32)) = xs3 at A_r hl3 at3 ke3
  refine own_aload (pc' := 180) at_178 rfl rfl ?_
  refine own_iconst (3 : Int32) (pc' := 181) at_180 rfl rfl ?_
  refine own_iload (pc' := 183) at_181 rfl rfl ?_
  refine own_i2b (pc' := 184) at_183 rfl ?_
  refine own_bastore (pc' := 185) A_r (by decide) (by rw [List.length_map, Int32.toNatClampNeg]; have q : (3 : Int32).toInt = 3 := rfl; omega) ge_r at_184 rfl (fun h181 K182 A_new => ?_)
  replace E_r := E_r.keep K182
  replace hn0 : n0 ≤ h181.size := Nat.le_trans hn0 K182.1
  replace A_r := A_new
  replace A_r := A_r.cast (own_set xs3 _ _)
  have hl4 : ((xs3.set (3 : Int32).toNatClampNeg (nar .byte (n.toInt8.toInt32))).length : Int) = 4 + n.toInt := by rw [List.length_set]; exact hl3
  have at4 : own_at (xs3.set (3 : Int32).toNatClampNeg (nar .byte (n.toInt8.toInt32))) (3 : Int32) = (nar .byte (n.toInt8.toInt32)) := own_atsame _ _ _ (by decide) (by have q : (3 : Int32).toInt = 3 := rfl; omega)
  have ke4 : ∀ i : Int32, 0 ≤ i.toInt → i.toInt ≠ 3 → own_at (xs3.set (3 : Int32).toNatClampNeg (nar .byte (n.toInt8.toInt32))) i = own_at xs3 i := fun i h1 h2 => own_atset _ _ _ _ h1 (by decide) h2
  generalize xs3.set (3 : Int32).toNatClampNeg (nar .byte (n.toInt8.toInt32)) = xs4 at A_r hl4 at4 ke4
  refine own_goto (pc' := 221) at_185 (by decide) (by decide) ?_
  have v0 : own_at xs4 0 &&& 255 = t := by rw [ke4 0 (by decide) (by decide), ke3 0 (by decide) (by decide), ke2 0 (by decide) (by decide), at1, own_b8]; exact st
  have v1 : own_at xs4 1 = (-126) := by rw [ke4 1 (by decide) (by decide), ke3 1 (by decide) (by decide), at2]; decide
  have wv : (own_v2 (own_at xs4 2) (own_at xs4 3)).toInt = n.toInt := by
    rw [own_v2i, ke4 2 (by decide) (by decide), at3, at4, own_b8, own_b8]
    have m0 := c_mask n 255 8 (by decide) (by decide)
    have m1 := c_mask (n >>> ((8 : Int32) &&& 31)) 255 8 (by decide) (by decide)
    have m2 := c_ishr n 8 8 (by decide)
    omega
  exact own_lawB2 l Z a0 hw x0 x1 x2 x3 x4 t n r xs4 h181 n0 (by first | exact hn0 | omega) hl4 hn v0 ht v1 wv ge_r A_r E_r
set_option maxRecDepth 65536 in
set_option maxHeartbeats 40000000 in
theorem own_lawA3 (l : Launch) (Z : State) (a0 : Array Value) (hw : ∀ d ∈ tables_1, d.before a0 Z = true) (x0 x1 x2 x3 x4 t n : Int32) (h0 : Heap) (n0 : Nat) (hn0 : n0 ≤ h0.size) (hn : 65536 ≤ n.toInt ∧ n.toInt ≤ 65791) (htr : 0 ≤ t.toInt ∧ t.toInt < 256) (ht : ¬ (t &&& 31) = 31) :
    own_W l Z x code maxLocals ret room_1 n0 (fun v h => v = some (.int 1)) h0 0 0 103 #[.val (.int x0), .val (.int x1), .val (.int x2), .val (.int x3), .val (.int x4), .val (.int t), .val (.int (3 : Int32)), .val (.int n), .val (.int (5 : Int32)), .unset, .unset, .unset, .unset] [] := by
  have hh : (5 : Int32).toInt = 5 := rfl
  have z0 : (0 : Int32).toInt = 0 := rfl
  have a0_ := c_iadd (5 : Int32) n
  have a1_ := rng32 ((5 : Int32) + n)
  have s0 := c_mask t 255 8 (by decide) (by decide)
  have st : t &&& 255 = t := by rw [← Int32.toInt_inj, s0]; omega
  refine own_iload (pc' := 105) at_103 rfl rfl ?_
  refine own_iload (pc' := 107) at_105 rfl rfl ?_
  refine own_iadd (pc' := 108) at_107 rfl ?_
  refine own_newarrE (pc' := 110) (ty := .byte) (cap := 65800) (hw _ (List.mem_of_getElem? (i := 0) rfl)) rfl at_108 rfl (own_nlt (by omega)) (by rw [Int32.toNatClampNeg]; omega) (by decide) (by decide) (by decide) (fun h183 r gt_r lt_r E184 A_r E_r => ?_)
  replace E_r : Exa Z h183 r "[B" := (show ("[" ++ FieldType.toString .byte) = "[B" from by decide) ▸ E_r
  have ge_r : n0 ≤ r := Nat.le_trans hn0 gt_r
  replace hn0 : n0 ≤ h183.size := Nat.le_trans hn0 E184.1
  replace A_r : own_A Z h183 r .byte ((List.replicate ((5 : Int32) + n).toNatClampNeg (0 : Int32)).map Value.int) := A_r.cast (by rw [List.map_replicate]; rfl)
  have hl0 : ((List.replicate ((5 : Int32) + n).toNatClampNeg (0 : Int32)).length : Int) = 5 + n.toInt := by rw [List.length_replicate, Int32.toNatClampNeg]; omega
  generalize hx0 : List.replicate ((5 : Int32) + n).toNatClampNeg (0 : Int32) = xs0 at A_r hl0
  refine own_astore (pc' := 112) (Ls' := #[.val (.int x0), .val (.int x1), .val (.int x2), .val (.int x3), .val (.int x4), .val (.int t), .val (.int (3 : Int32)), .val (.int n), .val (.int (5 : Int32)), .val (.ref r), .unset, .unset, .unset]) at_110 rfl rfl ?_
  refine own_aload (pc' := 114) at_112 rfl rfl ?_
  refine own_iconst (0 : Int32) (pc' := 115) at_114 rfl rfl ?_
  refine own_iload (pc' := 117) at_115 rfl rfl ?_
  refine own_i2b (pc' := 118) at_117 rfl ?_
  refine own_bastore (pc' := 119) A_r (by decide) (by rw [List.length_map, Int32.toNatClampNeg]; have q : (0 : Int32).toInt = 0 := rfl; omega) ge_r at_118 rfl (fun h185 K186 A_new => ?_)
  replace E_r := E_r.keep K186
  replace hn0 : n0 ≤ h185.size := Nat.le_trans hn0 K186.1
  replace A_r := A_new
  replace A_r := A_r.cast (own_set xs0 _ _)
  have hl1 : ((xs0.set (0 : Int32).toNatClampNeg (nar .byte (t.toInt8.toInt32))).length : Int) = 5 + n.toInt := by rw [List.length_set]; exact hl0
  have at1 : own_at (xs0.set (0 : Int32).toNatClampNeg (nar .byte (t.toInt8.toInt32))) (0 : Int32) = (nar .byte (t.toInt8.toInt32)) := own_atsame _ _ _ (by decide) (by have q : (0 : Int32).toInt = 0 := rfl; omega)
  have ke1 : ∀ i : Int32, 0 ≤ i.toInt → i.toInt ≠ 0 → own_at (xs0.set (0 : Int32).toNatClampNeg (nar .byte (t.toInt8.toInt32))) i = own_at xs0 i := fun i h1 h2 => own_atset _ _ _ _ h1 (by decide) h2
  generalize xs0.set (0 : Int32).toNatClampNeg (nar .byte (t.toInt8.toInt32)) = xs1 at A_r hl1 at1 ke1
  refine own_iload (pc' := 121) at_119 rfl rfl ?_
  refine own_if_ne_t (pc' := 134) at_121 (by decide) (by decide) (by decide) ?_
  refine own_iload (pc' := 136) at_134 rfl rfl ?_
  refine own_iconst (1 : Int32) (pc' := 137) at_136 rfl rfl ?_
  refine own_ic_ne_t (pc' := 156) at_137 (by decide) (by decide) (by decide) ?_
  refine own_iload (pc' := 158) at_156 rfl rfl ?_
  refine own_iconst (2 : Int32) (pc' := 159) at_158 rfl rfl ?_
  refine own_ic_ne_t (pc' := 188) at_159 (by decide) (by decide) (by decide) ?_
  refine own_aload (pc' := 190) at_188 rfl rfl ?_
  refine own_iconst (1 : Int32) (pc' := 191) at_190 rfl rfl ?_
  refine own_bipush (-125 : Int32) (pc' := 193) at_191 rfl rfl ?_
  refine own_bastore (pc' := 194) A_r (by decide) (by rw [List.length_map, Int32.toNatClampNeg]; have q : (1 : Int32).toInt = 1 := rfl; omega) ge_r at_193 rfl (fun h187 K188 A_new => ?_)
  replace E_r := E_r.keep K188
  replace hn0 : n0 ≤ h187.size := Nat.le_trans hn0 K188.1
  replace A_r := A_new
  replace A_r := A_r.cast (own_set xs1 _ _)
  have hl2 : ((xs1.set (1 : Int32).toNatClampNeg (nar .byte (-125 : Int32))).length : Int) = 5 + n.toInt := by rw [List.length_set]; exact hl1
  have at2 : own_at (xs1.set (1 : Int32).toNatClampNeg (nar .byte (-125 : Int32))) (1 : Int32) = (nar .byte (-125 : Int32)) := own_atsame _ _ _ (by decide) (by have q : (1 : Int32).toInt = 1 := rfl; omega)
  have ke2 : ∀ i : Int32, 0 ≤ i.toInt → i.toInt ≠ 1 → own_at (xs1.set (1 : Int32).toNatClampNeg (nar .byte (-125 : Int32))) i = own_at xs1 i := fun i h1 h2 => own_atset _ _ _ _ h1 (by decide) h2
  generalize xs1.set (1 : Int32).toNatClampNeg (nar .byte (-125 : Int32)) = xs2 at A_r hl2 at2 ke2
  refine own_aload (pc' := 196) at_194 rfl rfl ?_
  refine own_iconst (2 : Int32) (pc' := 197) at_196 rfl rfl ?_
  refine own_iload (pc' := 199) at_197 rfl rfl ?_
  refine own_bipush (16 : Int32) (pc' := 201) at_199 rfl rfl ?_
  refine own_ishr (pc' := 202) at_201 rfl ?_
  refine own_i2b (pc' := 203) at_202 rfl ?_
  refine own_bastore (pc' := 204) A_r (by decide) (by rw [List.length_map, Int32.toNatClampNeg]; have q : (2 : Int32).toInt = 2 := rfl; omega) ge_r at_203 rfl (fun h189 K190 A_new => ?_)
  replace E_r := E_r.keep K190
  replace hn0 : n0 ≤ h189.size := Nat.le_trans hn0 K190.1
  replace A_r := A_new
  replace A_r := A_r.cast (own_set xs2 _ _)
  have hl3 : ((xs2.set (2 : Int32).toNatClampNeg (nar .byte ((n >>> ((16 : Int32) &&& 31)).toInt8.toInt32))).length : Int) = 5 + n.toInt := by rw [List.length_set]; exact hl2
  have at3 : own_at (xs2.set (2 : Int32).toNatClampNeg (nar .byte ((n >>> ((16 : Int32) &&& 31)).toInt8.toInt32))) (2 : Int32) = (nar .byte ((n >>> ((16 : Int32) &&& 31)).toInt8.toInt32)) := own_atsame _ _ _ (by decide) (by have q : (2 : Int32).toInt = 2 := rfl; omega)
  have ke3 : ∀ i : Int32, 0 ≤ i.toInt → i.toInt ≠ 2 → own_at (xs2.set (2 : Int32).toNatClampNeg (nar .byte ((n >>> ((16 : Int32) &&& 31)).toInt8.toInt32))) i = own_at xs2 i := fun i h1 h2 => own_atset _ _ _ _ h1 (by decide) h2
  generalize xs2.set (2 : Int32).toNatClampNeg (nar .byte ((n >>> ((16 : Int32) &&& 31)).toInt8.toInt32)) = xs3 at A_r hl3 at3 ke3
  refine own_aload (pc' := 206) at_204 rfl rfl ?_
  refine own_iconst (3 : Int32) (pc' := 207) at_206 rfl rfl ?_
  refine own_iload (pc' := 209) at_207 rfl rfl ?_
  refine own_bipush (8 : Int32) (pc' := 211) at_209 rfl rfl ?_
  refine own_ishr (pc' := 212) at_211 rfl ?_
  refine own_i2b (pc' := 213) at_212 rfl ?_
  refine own_bastore (pc' := 214) A_r (by decide) (by rw [List.length_map, Int32.toNatClampNeg]; have q : (3 : Int32).toInt = 3 := rfl; omega) ge_r at_213 rfl (fun h191 K192 A_new => ?_)
  replace E_r := E_r.keep K192
  replace hn0 : n0 ≤ h191.size := Nat.le_trans hn0 K192.1
  replace A_r := A_new
  replace A_r := A_r.cast (own_set xs3 _ _)
  have hl4 : ((xs3.set (3 : Int32).toNatClampNeg (nar .byte ((n >>> ((8 : Int32) &&& 31)).toInt8.toInt32))).length : Int) = 5 + n.toInt := by rw [List.length_set]; exact hl3
  have at4 : own_at (xs3.set (3 : Int32).toNatClampNeg (nar .byte ((n >>> ((8 : Int32) &&& 31)).toInt8.toInt32))) (3 : Int32) = (nar .byte ((n >>> ((8 : Int32) &&& 31)).toInt8.toInt32)) := own_atsame _ _ _ (by decide) (by have q : (3 : Int32).toInt = 3 := rfl; omega)
  have ke4 : ∀ i : Int32, 0 ≤ i.toInt → i.toInt ≠ 3 → own_at (xs3.set (3 : Int32).toNatClampNeg (nar .byte ((n >>> ((8 : Int32) &&& 31)).toInt8.toInt32))) i = own_at xs3 i := fun i h1 h2 => own_atset _ _ _ _ h1 (by decide) h2
  generalize xs3.set (3 : Int32).toNatClampNeg (nar .byte ((n >>> ((8 : Int32) &&& 31)).toInt8.toInt32)) = xs4 at A_r hl4 at4 ke4
  refine own_aload (pc' := 216) at_214 rfl rfl ?_
  refine own_iconst (4 : Int32) (pc' := 217) at_216 rfl rfl ?_
  refine own_iload (pc' := 219) at_217 rfl rfl ?_
  refine own_i2b (pc' := 220) at_219 rfl ?_
  refine own_bastore (pc' := 221) A_r (by decide) (by rw [List.length_map, Int32.toNatClampNeg]; have q : (4 : Int32).toInt = 4 := rfl; omega) ge_r at_220 rfl (fun h193 K194 A_new => ?_)
  replace E_r := E_r.keep K194
  replace hn0 : n0 ≤ h193.size := Nat.le_trans hn0 K194.1
  replace A_r := A_new
  replace A_r := A_r.cast (own_set xs4 _ _)
  have hl5 : ((xs4.set (4 : Int32).toNatClampNeg (nar .byte (n.toInt8.toInt32))).length : Int) = 5 + n.toInt := by rw [List.length_set]; exact hl4
  have at5 : own_at (xs4.set (4 : Int32).toNatClampNeg (nar .byte (n.toInt8.toInt32))) (4 : Int32) = (nar .byte (n.toInt8.toInt32)) := own_atsame _ _ _ (by decide) (by have q : (4 : Int32).toInt = 4 := rfl; omega)
  have ke5 : ∀ i : Int32, 0 ≤ i.toInt → i.toInt ≠ 4 → own_at (xs4.set (4 : Int32).toNatClampNeg (nar .byte (n.toInt8.toInt32))) i = own_at xs4 i := fun i h1 h2 => own_atset _ _ _ _ h1 (by decide) h2
  generalize xs4.set (4 : Int32).toNatClampNeg (nar .byte (n.toInt8.toInt32)) = xs5 at A_r hl5 at5 ke5
  have v0 : own_at xs5 0 &&& 255 = t := by rw [ke5 0 (by decide) (by decide), ke4 0 (by decide) (by decide), ke3 0 (by decide) (by decide), ke2 0 (by decide) (by decide), at1, own_b8]; exact st
  have v1 : own_at xs5 1 = (-125) := by rw [ke5 1 (by decide) (by decide), ke4 1 (by decide) (by decide), ke3 1 (by decide) (by decide), at2]; decide
  have wv : (own_v3 (own_at xs5 2) (own_at xs5 3) (own_at xs5 4)).toInt = n.toInt := by
    rw [own_v3i, ke5 2 (by decide) (by decide), ke4 2 (by decide) (by decide), at3, ke5 3 (by decide) (by decide), at4, at5, own_b8, own_b8, own_b8]
    have m0 := c_mask n 255 8 (by decide) (by decide)
    have m1 := c_mask (n >>> ((8 : Int32) &&& 31)) 255 8 (by decide) (by decide)
    have m2 := c_ishr n 8 8 (by decide)
    have m3 := c_mask (n >>> ((16 : Int32) &&& 31)) 255 8 (by decide) (by decide)
    have m4 := c_ishr n 16 16 (by decide)
    omega
  exact own_lawB3 l Z a0 hw x0 x1 x2 x3 x4 t n r xs5 h193 n0 (by first | exact hn0 | omega) hl5 hn v0 ht v1 wv ge_r A_r E_r
set_option maxRecDepth 65536 in
set_option maxHeartbeats 40000000 in
theorem own_lawT (l : Launch) (Z : State) (a0 : Array Value) (hw : ∀ d ∈ tables_1, d.before a0 Z = true) (x0 x1 x2 x3 x4 t : Int32) (h0 : Heap) (n0 : Nat) (hn0 : n0 ≤ h0.size) (htr : 0 ≤ t.toInt ∧ t.toInt < 256) (ht : ¬ (t &&& 31) = 31) :
    own_W l Z x code maxLocals ret room_1 n0 (fun v h => v = some (.int 1)) h0 0 0 23 #[.val (.int x0), .val (.int x1), .val (.int x2), .val (.int x3), .val (.int x4), .val (.int t), .unset, .unset, .unset, .unset, .unset, .unset, .unset] [] := by
  have z3 : (3 : Int32).toInt = 3 := rfl
  have hf := c_and x2 3 (by decide)
  rw [z3] at hf
  refine own_iloadN (pc' := 24) at_23 rfl rfl ?_
  refine own_iconst (3 : Int32) (pc' := 25) at_24 rfl rfl ?_
  refine own_iand (pc' := 26) at_25 rfl ?_
  generalize hf_ : (x2 &&& (3 : Int32)) = f
  rw [hf_] at hf
  refine own_istore (pc' := 28) (Ls' := #[.val (.int x0), .val (.int x1), .val (.int x2), .val (.int x3), .val (.int x4), .val (.int t), .val (.int f), .unset, .unset, .unset, .unset, .unset, .unset]) at_26 rfl rfl ?_
  have hc : f = 0 ∨ f = 1 ∨ f = 2 ∨ f = 3 := by simp only [← Int32.toInt_inj, Int32.reduceToInt]; omega
  rcases hc with rfl | rfl | rfl | rfl
  · refine own_iload (pc' := 30) at_28 rfl rfl ?_
    refine own_if_ne_f (pc' := 33) at_30 (by decide) rfl ?_
    refine own_iloadN (pc' := 34) at_33 rfl rfl ?_
    refine own_bipush (127 : Int32) (pc' := 36) at_34 rfl rfl ?_
    refine own_iand (pc' := 37) at_36 rfl ?_
    refine own_istore (pc' := 39) (Ls' := #[.val (.int x0), .val (.int x1), .val (.int x2), .val (.int x3), .val (.int x4), .val (.int t), .val (.int (0 : Int32)), .val (.int (x1 &&& (127 : Int32))), .unset, .unset, .unset, .unset, .unset]) at_37 rfl rfl ?_
    refine own_iconst (2 : Int32) (pc' := 40) at_39 rfl rfl ?_
    refine own_istore (pc' := 42) (Ls' := #[.val (.int x0), .val (.int x1), .val (.int x2), .val (.int x3), .val (.int x4), .val (.int t), .val (.int (0 : Int32)), .val (.int (x1 &&& (127 : Int32))), .val (.int (2 : Int32)), .unset, .unset, .unset, .unset]) at_40 rfl rfl ?_
    refine own_goto (pc' := 103) at_42 (by decide) (by decide) ?_
    have m := c_and x1 127 (by decide)
    have mc : (127 : Int32).toInt = 127 := rfl
    exact own_lawA0 l Z a0 hw x0 x1 x2 x3 x4 t _ h0 n0 hn0 (by omega) htr ht
  · refine own_iload (pc' := 30) at_28 rfl rfl ?_
    refine own_if_ne_t (pc' := 45) at_30 (by decide) (by decide) (by decide) ?_
    refine own_iload (pc' := 47) at_45 rfl rfl ?_
    refine own_iconst (1 : Int32) (pc' := 48) at_47 rfl rfl ?_
    refine own_ic_ne_f (pc' := 51) at_48 (by decide) rfl ?_
    refine own_sipush (128 : Int32) (pc' := 54) at_51 rfl rfl ?_
    refine own_iloadN (pc' := 55) at_54 rfl rfl ?_
    refine own_bipush (127 : Int32) (pc' := 57) at_55 rfl rfl ?_
    refine own_iand (pc' := 58) at_57 rfl ?_
    refine own_iadd (pc' := 59) at_58 rfl ?_
    refine own_istore (pc' := 61) (Ls' := #[.val (.int x0), .val (.int x1), .val (.int x2), .val (.int x3), .val (.int x4), .val (.int t), .val (.int (1 : Int32)), .val (.int ((128 : Int32) + (x1 &&& (127 : Int32)))), .unset, .unset, .unset, .unset, .unset]) at_59 rfl rfl ?_
    refine own_iconst (3 : Int32) (pc' := 62) at_61 rfl rfl ?_
    refine own_istore (pc' := 64) (Ls' := #[.val (.int x0), .val (.int x1), .val (.int x2), .val (.int x3), .val (.int x4), .val (.int t), .val (.int (1 : Int32)), .val (.int ((128 : Int32) + (x1 &&& (127 : Int32)))), .val (.int (3 : Int32)), .unset, .unset, .unset, .unset]) at_62 rfl rfl ?_
    refine own_goto (pc' := 103) at_64 (by decide) (by decide) ?_
    have m := c_and x1 127 (by decide)
    have mc : (127 : Int32).toInt = 127 := rfl
    have s := c_iadd 128 (x1 &&& 127)
    have s2 := rng32 (128 + (x1 &&& 127))
    have sb : (128 : Int32).toInt = 128 := rfl
    exact own_lawA1 l Z a0 hw x0 x1 x2 x3 x4 t _ h0 n0 hn0 (by omega) htr ht
  · refine own_iload (pc' := 30) at_28 rfl rfl ?_
    refine own_if_ne_t (pc' := 45) at_30 (by decide) (by decide) (by decide) ?_
    refine own_iload (pc' := 47) at_45 rfl rfl ?_
    refine own_iconst (1 : Int32) (pc' := 48) at_47 rfl rfl ?_
    refine own_ic_ne_t (pc' := 67) at_48 (by decide) (by decide) (by decide) ?_
    refine own_iload (pc' := 69) at_67 rfl rfl ?_
    refine own_iconst (2 : Int32) (pc' := 70) at_69 rfl rfl ?_
    refine own_ic_ne_f (pc' := 73) at_70 (by decide) rfl ?_
    refine own_sipush (256 : Int32) (pc' := 76) at_73 rfl rfl ?_
    refine own_iloadN (pc' := 77) at_76 rfl rfl ?_
    refine own_sipush (1023 : Int32) (pc' := 80) at_77 rfl rfl ?_
    refine own_iand (pc' := 81) at_80 rfl ?_
    refine own_iadd (pc' := 82) at_81 rfl ?_
    refine own_istore (pc' := 84) (Ls' := #[.val (.int x0), .val (.int x1), .val (.int x2), .val (.int x3), .val (.int x4), .val (.int t), .val (.int (2 : Int32)), .val (.int ((256 : Int32) + (x1 &&& (1023 : Int32)))), .unset, .unset, .unset, .unset, .unset]) at_82 rfl rfl ?_
    refine own_iconst (4 : Int32) (pc' := 85) at_84 rfl rfl ?_
    refine own_istore (pc' := 87) (Ls' := #[.val (.int x0), .val (.int x1), .val (.int x2), .val (.int x3), .val (.int x4), .val (.int t), .val (.int (2 : Int32)), .val (.int ((256 : Int32) + (x1 &&& (1023 : Int32)))), .val (.int (4 : Int32)), .unset, .unset, .unset, .unset]) at_85 rfl rfl ?_
    refine own_goto (pc' := 103) at_87 (by decide) (by decide) ?_
    have m := c_and x1 1023 (by decide)
    have mc : (1023 : Int32).toInt = 1023 := rfl
    have s := c_iadd 256 (x1 &&& 1023)
    have s2 := rng32 (256 + (x1 &&& 1023))
    have sb : (256 : Int32).toInt = 256 := rfl
    exact own_lawA2 l Z a0 hw x0 x1 x2 x3 x4 t _ h0 n0 hn0 (by omega) htr ht
  · refine own_iload (pc' := 30) at_28 rfl rfl ?_
    refine own_if_ne_t (pc' := 45) at_30 (by decide) (by decide) (by decide) ?_
    refine own_iload (pc' := 47) at_45 rfl rfl ?_
    refine own_iconst (1 : Int32) (pc' := 48) at_47 rfl rfl ?_
    refine own_ic_ne_t (pc' := 67) at_48 (by decide) (by decide) (by decide) ?_
    refine own_iload (pc' := 69) at_67 rfl rfl ?_
    refine own_iconst (2 : Int32) (pc' := 70) at_69 rfl rfl ?_
    refine own_ic_ne_t (pc' := 90) at_70 (by decide) (by decide) (by decide) ?_
    refine own_ldcI (pc' := 92) (u := (65536 : Int32)) (hw _ (List.mem_of_getElem? (i := 97) rfl)) at_90 rfl ?_
    refine own_iloadN (pc' := 93) at_92 rfl rfl ?_
    refine own_sipush (255 : Int32) (pc' := 96) at_93 rfl rfl ?_
    refine own_iand (pc' := 97) at_96 rfl ?_
    refine own_iadd (pc' := 98) at_97 rfl ?_
    refine own_istore (pc' := 100) (Ls' := #[.val (.int x0), .val (.int x1), .val (.int x2), .val (.int x3), .val (.int x4), .val (.int t), .val (.int (3 : Int32)), .val (.int ((65536 : Int32) + (x1 &&& (255 : Int32)))), .unset, .unset, .unset, .unset, .unset]) at_98 rfl rfl ?_
    refine own_iconst (5 : Int32) (pc' := 101) at_100 rfl rfl ?_
    refine own_istore (pc' := 103) (Ls' := #[.val (.int x0), .val (.int x1), .val (.int x2), .val (.int x3), .val (.int x4), .val (.int t), .val (.int (3 : Int32)), .val (.int ((65536 : Int32) + (x1 &&& (255 : Int32)))), .val (.int (5 : Int32)), .unset, .unset, .unset, .unset]) at_101 rfl rfl ?_
    have m := c_and x1 255 (by decide)
    have mc : (255 : Int32).toInt = 255 := rfl
    have s := c_iadd 65536 (x1 &&& 255)
    have s2 := rng32 (65536 + (x1 &&& 255))
    have sb : (65536 : Int32).toInt = 65536 := rfl
    exact own_lawA3 l Z a0 hw x0 x1 x2 x3 x4 t _ h0 n0 hn0 (by omega) htr ht
set_option maxRecDepth 65536 in
set_option maxHeartbeats 40000000 in
theorem own_law (l : Launch) (Z : State) (a0 : Array Value) (hw : ∀ d ∈ tables_1, d.before a0 Z = true) (x0 x1 x2 x3 x4 : Int32) (h0 : Heap) (n0 : Nat) (hn0 : n0 ≤ h0.size) :
    own_W l Z x code maxLocals ret room_1 n0 (fun v h => v = some (.int 1)) h0 0 0 0 #[.val (.int x0), .val (.int x1), .val (.int x2), .val (.int x3), .val (.int x4), .unset, .unset, .unset, .unset, .unset, .unset, .unset, .unset] [] := by
  refine own_iloadN (pc' := 1) at_0 rfl rfl ?_
  refine own_sipush (255 : Int32) (pc' := 4) at_1 rfl rfl ?_
  refine own_iand (pc' := 5) at_4 rfl ?_
  have hm := c_mask x0 255 8 (by decide) (by decide)
  generalize ht_ : (x0 &&& (255 : Int32)) = t
  rw [ht_] at hm
  refine own_istore (pc' := 7) (Ls' := #[.val (.int x0), .val (.int x1), .val (.int x2), .val (.int x3), .val (.int x4), .val (.int t), .unset, .unset, .unset, .unset, .unset, .unset, .unset]) at_5 rfl rfl ?_
  refine own_iload (pc' := 9) at_7 rfl rfl ?_
  refine own_bipush (31 : Int32) (pc' := 11) at_9 rfl rfl ?_
  refine own_iand (pc' := 12) at_11 rfl ?_
  refine own_bipush (31 : Int32) (pc' := 14) at_12 rfl rfl ?_
  refine own_ic_ne (pc' := 23) (pf := 17) at_14 (by decide) (by decide) rfl (fun h_14 => ?_) (fun h_14 => ?_)
  · exact own_lawT l Z a0 hw x0 x1 x2 x3 x4 t h0 n0 hn0 (by omega) h_14
  · refine own_iload (pc' := 19) at_17 rfl rfl ?_
    refine own_iconst (1 : Int32) (pc' := 20) at_19 rfl rfl ?_
    refine own_ixor (pc' := 21) at_20 rfl ?_
    refine own_istore (pc' := 23) (Ls' := #[.val (.int x0), .val (.int x1), .val (.int x2), .val (.int x3), .val (.int x4), .val (.int (t ^^^ (1 : Int32))), .unset, .unset, .unset, .unset, .unset, .unset, .unset]) at_21 rfl rfl ?_
    have key : ∀ k : Fin 256, (Int32.ofNat k.val &&& 31) = 31 → (0 ≤ (Int32.ofNat k.val ^^^ 1).toInt ∧ (Int32.ofNat k.val ^^^ 1).toInt < 256) ∧ ¬ ((Int32.ofNat k.val ^^^ 1) &&& 31) = 31 := by decide +kernel
    have e : t = Int32.ofNat t.toInt.toNat := by rw [← Int32.toInt_inj, Int32.toInt_ofNat_of_lt (by omega)]; omega
    have k2 := key ⟨t.toInt.toNat, by omega⟩
    rw [← e] at k2
    exact own_lawT l Z a0 hw x0 x1 x2 x3 x4 (t ^^^ 1) h0 n0 hn0 (k2 h_14).1 (k2 h_14).2
set_option maxRecDepth 65536 in
set_option maxHeartbeats 40000000 in
theorem comes_1 {Post : Tables → Env → Array Value → State → Outcome → State → Prop} (hpost : ∀ tb e args s v u, (limb_1_1.after args s (.returned v) u = true ∧ limb_1_2.after args s (.returned v) u = true ∧ True) → FrameEnd s (.returned v) u (Jvm.fieldLocs frame_1_writes args s ++ Jvm.arrayLocs frame_1_arrays args s ++ Jvm.staticLocs frame_1_statics s) 24 236928 → Post tb e args s (.returned v) u) :
    ArmFor flags0 classFile x code maxLocals ret World_1 tables_1 room_1 Calls_1 rest_1 Pre_1 Post := by
  intro l hfl _ _ p e ha hc hk s m args below hf hA hF happ hP
  obtain ⟨hcalls, hrest, hpre⟩ := hP
  obtain ⟨-, -, -, hnamed, -, -, -, hat⟩ := (Spec.applies_iff hf).mp happ
  obtain ⟨hg, hn⟩ := and_e (Cond.before_iff.mp (show (Jvm.Cond.and given_1 narrow_1).before args s = true from hpre))
  obtain ⟨hcount, hg0⟩ := and_e hg
  obtain ⟨w0, w1, w2, w3, w4, rfl⟩ : ∃ w0 w1 w2 w3 w4 : Value, args = #[w0, w1, w2, w3, w4] := by
    have hs : args.size = 5 := by simpa [Cond.value, given_1] using hcount
    obtain ⟨L⟩ := args
    match L, hs with
    | [w0, w1, w2, w3, w4], _ => exact ⟨w0, w1, w2, w3, w4, rfl⟩
  have hw := fun d (hd : d ∈ tables_1) => atoms_spec (ws := Jvm.Cond.code x code maxLocals ret :: tables_1) hat d (List.mem_cons_of_mem _ hd)
  obtain ⟨hg0v, hg1⟩ := and_e hg0
  obtain ⟨x0, e0⟩ := is_v hg0v
  obtain rfl : w0 = (.int x0) := Option.some.inj e0
  obtain ⟨hg1v, hg2⟩ := and_e hg1
  obtain ⟨x1, e1⟩ := is_v hg1v
  obtain rfl : w1 = (.int x1) := Option.some.inj e1
  obtain ⟨hg2v, hg3⟩ := and_e hg2
  obtain ⟨x2, e2⟩ := is_v hg2v
  obtain rfl : w2 = (.int x2) := Option.some.inj e2
  obtain ⟨hg3v, hg4⟩ := and_e hg3
  obtain ⟨x3, e3⟩ := is_v hg3v
  obtain rfl : w3 = (.int x3) := Option.some.inj e3
  obtain ⟨x4, e4⟩ := is_v hg4
  obtain rfl : w4 = (.int x4) := Option.some.inj e4
  obtain ⟨n, o, h1, h2, h3, _, L, rfl, ⟨hq1, N⟩, hq⟩ := own_met (argsL := [.int x0, .int x1, .int x2, .int x3, .int x4]) (own_law l s _ hw x0 x1 x2 x3 x4 s.heap s.heap.size (Nat.le_refl _)) (plainFor_of_name own_pn0) rfl tables_1 p e ha hc hk s m _ below hf ((Spec.applies_iff_loose hf).mp happ).1 ⟨rfl, State.Warmed39.refl s, rfl⟩ trivial
  subst hq1
  refine ⟨n, _, h1, h2, h3, hpost _ _ _ _ _ _ ⟨Cond.after_iff.mpr rfl, Cond.after_iff.mpr (eq_i res_at (Term.int_eval (1)) rfl), trivial⟩ ⟨hq.1, hq.2.1, (hq.2.2.sift fun y hy => Or.inr (N y hy)).mono (by decide) (by decide)⟩⟩
theorem main_1_1 : Claimed_1_1 := comes_1 fun _ _ _ _ _ _ h hF => ⟨h.1, hF⟩
theorem main_1_2 : Claimed_1_2 := comes_1 fun _ _ _ _ _ _ h hF => ⟨h.2.1, hF⟩
end Jvm.Pilot.@@N@@
namespace Jvm.Pilot.@@N@@
open Jvm Jvm.ClassFile Sem Op Lib Jvm.Free Jvm.Stand Jvm.Pilot.@@N@@.Jvm.D
/-! MADE BY PROGRAM (witnessworld.py) out of the Statement's table words and the real class files: 13 classes; the members and pool entries that the words name. The judged class is class 1, her method 1. -/
namespace start1
open Jvm.ClassFile
def u (s : String) : CpInfo := .utf8 (stringToUtf16 s)
/-- a pool by its gaps: so many unusable entries, then the entry; so many at the end -/
def gap : Nat → List CpInfo → List CpInfo
  | 0, r => r
  | n + 1, r => .unusable :: gap n r
def poolList (es : List (Nat × CpInfo)) (last : Nat) : List CpInfo := es.foldr (fun e r => gap e.1 (e.2 :: r)) (gap last [])
def pool (es : List (Nat × CpInfo)) (last : Nat) : Array CpInfo := ⟨poolList es last⟩
def fileOf (pool : Array CpInfo) (this : Nat) (attrs : Array Attribute := #[]) (ms : Array MethodInfo := #[]) (fl : Nat := 33) (sup : Nat := 0) (ifs : Array Nat := #[]) (fds : Array FieldInfo := #[]) : ClassFile where
  minorVersion := 0
  majorVersion := 65
  constantPool := pool
  accessFlags := fl
  thisClass := this
  superClass := sup
  interfaces := ifs
  fields := fds
  methods := ms
  attributes := attrs
def plain (name : String) (sup : Option ClassId) : Class where
  name := name
  kind := .ordinary
  loader := none
  accessFlags := 33
  super := sup
  interfaces := #[]
  cf := none
  fields := #[]
  methods := #[]
  instanceTypes := #[]
  staticTypes := #[]
  resolved := #[]
  callSites := []
  init := .initialized
  statics := none
  mirror := none

def pool0 : Array CpInfo := pool [(5, u "<init>"), (0, u "()V"), (1, .class_ 10), (1, u "java/lang/Object"), (85, u "clone"), (0, u "()Ljava/lang/Object;")] 26

def k0c0 : Code := { maxStack := 0, maxLocals := 1, code := object_method_1_code, exceptionTable := #[], attributes := #[] }
def k0m0 : Method := { name := "<init>", desc := "()V", sig := { parameters := [], returnType := none }, accessFlags := 1, code := some k0c0 }
def k0m1 : Method := { name := "clone", desc := "()Ljava/lang/Object;", sig := { parameters := [], returnType := some (.object "java/lang/Object") }, accessFlags := 260, code := none }
/-- java/lang/Object -/
def k0 : Class := { plain "java/lang/Object" none with
  accessFlags := 33
  interfaces := #[]
  cf := some (fileOf pool0 8 #[] #[{ accessFlags := 1, nameIndex := 5, descriptorIndex := 6, attributes := #[] }, { accessFlags := 260, nameIndex := 96, descriptorIndex := 97, attributes := #[] }] 33 0 #[] #[])
  fields := #[]
  methods := #[k0m0, k0m1]
  instanceTypes := #[]
  staticTypes := #[]
  resolved := Array.replicate 124 none
  statics := none }

def pool1 : Array CpInfo := pool [(2, .class_ 4), (1, u "java/lang/Object"), (0, u "<init>"), (0, u "()V"), (0, .integer 65536), (0, .methodref 9 10), (0, .class_ 11), (0, .nameAndType 12 13), (0, u "com/example/befugnis/befugnis/Der"), (0, u "single"), (0, u "([B)Lcom/example/befugnis/befugnis/Der$Value;"), (0, .methodref 15 16), (0, .class_ 17), (0, .nameAndType 18 19), (0, u "com/example/befugnis/befugnis/Der$Value"), (0, u "tag"), (0, u "()I"), (0, .methodref 15 21), (0, .nameAndType 22 23), (0, u "contents"), (0, u "()[B"), (0, .methodref 15 25), (0, .nameAndType 26 23), (0, u "encoded"), (0, .class_ 28), (0, u "com/example/befugnis/befugnis/DerSinglePinLaw"), (2, u "law"), (0, u "(IIIII)Z")] 7

def k1m0 : Method := { name := "<init>", desc := "()V", sig := { parameters := [], returnType := none }, accessFlags := 1, code := none }
def k1c1 : Code := { maxStack := 4, maxLocals := 13, code := code, exceptionTable := #[], attributes := #[] }
def k1m1 : Method := { name := "law", desc := "(IIIII)Z", sig := { parameters := [.int, .int, .int, .int, .int], returnType := some .boolean }, accessFlags := 9, code := some k1c1 }
/-- com/example/befugnis/befugnis/DerSinglePinLaw -/
def k1 : Class := { plain "com/example/befugnis/befugnis/DerSinglePinLaw" (some 0) with
  accessFlags := 49
  interfaces := #[]
  cf := some (fileOf pool1 27 #[] #[{ accessFlags := 1, nameIndex := 5, descriptorIndex := 6, attributes := #[] }, { accessFlags := 9, nameIndex := 31, descriptorIndex := 32, attributes := #[] }] 49 2 #[] #[])
  fields := #[]
  methods := #[k1m0, k1m1]
  instanceTypes := #[]
  staticTypes := #[]
  resolved := Array.replicate 40 none
  statics := none }

def pool2 : Array CpInfo := pool [(1, .methodref 2 3), (0, .class_ 4), (0, .nameAndType 5 6), (0, u "java/lang/Object"), (0, u "<init>"), (0, u "()V"), (0, .fieldref 8 9), (0, .class_ 10), (0, .nameAndType 11 12), (0, u "com/example/befugnis/befugnis/Der"), (0, u "bytes"), (0, u "[B"), (0, .fieldref 8 14), (0, .nameAndType 15 16), (0, u "at"), (0, u "I"), (0, .fieldref 8 18), (0, .nameAndType 19 16), (0, u "end"), (0, .methodref 8 21), (0, .nameAndType 5 22), (0, u "([BII)V"), (0, .methodref 8 24), (0, .nameAndType 25 26), (0, u "of"), (0, u "([B)Lcom/example/befugnis/befugnis/Der;"), (0, .methodref 8 28), (0, .nameAndType 29 30), (0, u "next"), (0, u "()Lcom/example/befugnis/befugnis/Der$Value;"), (0, .methodref 8 32), (0, .nameAndType 33 34), (0, u "atEnd"), (0, u "()Z"), (11, .methodref 8 47), (0, .nameAndType 48 49), (0, u "readLength"), (0, u "()I"), (4, .class_ 55), (0, u "com/example/befugnis/befugnis/Der$Value"), (0, .methodref 54 57), (0, .nameAndType 5 58), (0, u "([BIIII)V"), (6, .long 128), (5, .long 2147483647), (3, u "OBJECT_IDENTIFIER"), (2, u "SEQUENCE"), (1, u "SET"), (1, u "MAX_LENGTH_BYTES"), (3, u "single"), (0, u "([B)Lcom/example/befugnis/befugnis/Der$Value;")] 7

def k2c0 : Code := { maxStack := 2, maxLocals := 4, code := prog_9_method_1_code, exceptionTable := #[], attributes := #[] }
def k2m0 : Method := { name := "<init>", desc := "([BII)V", sig := { parameters := [(.array .byte), .int, .int], returnType := none }, accessFlags := 2, code := some k2c0 }
def k2c1 : Code := { maxStack := 5, maxLocals := 1, code := prog_9_method_2_code, exceptionTable := #[], attributes := #[] }
def k2m1 : Method := { name := "of", desc := "([B)Lcom/example/befugnis/befugnis/Der;", sig := { parameters := [(.array .byte)], returnType := some (.object "com/example/befugnis/befugnis/Der") }, accessFlags := 8, code := some k2c1 }
def k2c2 : Code := { maxStack := 3, maxLocals := 3, code := prog_9_method_3_code, exceptionTable := #[], attributes := #[] }
def k2m2 : Method := { name := "single", desc := "([B)Lcom/example/befugnis/befugnis/Der$Value;", sig := { parameters := [(.array .byte)], returnType := some (.object "com/example/befugnis/befugnis/Der$Value") }, accessFlags := 8, code := some k2c2 }
def k2c3 : Code := { maxStack := 2, maxLocals := 1, code := prog_9_method_4_code, exceptionTable := #[], attributes := #[] }
def k2m3 : Method := { name := "atEnd", desc := "()Z", sig := { parameters := [], returnType := some .boolean }, accessFlags := 0, code := some k2c3 }
def k2c4 : Code := { maxStack := 7, maxLocals := 4, code := prog_9_method_6_code, exceptionTable := #[], attributes := #[] }
def k2m4 : Method := { name := "next", desc := "()Lcom/example/befugnis/befugnis/Der$Value;", sig := { parameters := [], returnType := some (.object "com/example/befugnis/befugnis/Der$Value") }, accessFlags := 0, code := some k2c4 }
def k2c5 : Code := { maxStack := 7, maxLocals := 6, code := prog_9_method_8_code, exceptionTable := #[], attributes := #[] }
def k2m5 : Method := { name := "readLength", desc := "()I", sig := { parameters := [], returnType := some .int }, accessFlags := 2, code := some k2c5 }
/-- com/example/befugnis/befugnis/Der -/
def k2 : Class := { plain "com/example/befugnis/befugnis/Der" (some 0) with
  accessFlags := 32
  interfaces := #[]
  cf := some (fileOf pool2 8 #[.nestMembers #[54]] #[{ accessFlags := 2, nameIndex := 5, descriptorIndex := 22, attributes := #[] }, { accessFlags := 8, nameIndex := 25, descriptorIndex := 26, attributes := #[] }, { accessFlags := 8, nameIndex := 86, descriptorIndex := 87, attributes := #[] }, { accessFlags := 0, nameIndex := 33, descriptorIndex := 34, attributes := #[] }, { accessFlags := 0, nameIndex := 29, descriptorIndex := 30, attributes := #[] }, { accessFlags := 2, nameIndex := 48, descriptorIndex := 49, attributes := #[] }] 32 2 #[] #[{ accessFlags := 24, nameIndex := 75, descriptorIndex := 16, attributes := #[] }, { accessFlags := 24, nameIndex := 78, descriptorIndex := 16, attributes := #[] }, { accessFlags := 24, nameIndex := 80, descriptorIndex := 16, attributes := #[] }, { accessFlags := 26, nameIndex := 82, descriptorIndex := 16, attributes := #[] }, { accessFlags := 18, nameIndex := 11, descriptorIndex := 12, attributes := #[] }, { accessFlags := 18, nameIndex := 19, descriptorIndex := 16, attributes := #[] }, { accessFlags := 2, nameIndex := 15, descriptorIndex := 16, attributes := #[] }])
  fields := #[{ name := "OBJECT_IDENTIFIER", type := .int, accessFlags := 24, slot := 0, constantValue := 0 }, { name := "SEQUENCE", type := .int, accessFlags := 24, slot := 1, constantValue := 0 }, { name := "SET", type := .int, accessFlags := 24, slot := 2, constantValue := 0 }, { name := "MAX_LENGTH_BYTES", type := .int, accessFlags := 26, slot := 3, constantValue := 0 }, { name := "bytes", type := (.array .byte), accessFlags := 18, slot := 0, constantValue := 0 }, { name := "end", type := .int, accessFlags := 18, slot := 1, constantValue := 0 }, { name := "at", type := .int, accessFlags := 2, slot := 2, constantValue := 0 }]
  methods := #[k2m0, k2m1, k2m2, k2m3, k2m4, k2m5]
  instanceTypes := #[(.array .byte), .int, .int]
  staticTypes := #[.int, .int, .int, .int]
  resolved := ((Array.replicate 95 none).setIfInBounds 54 (some (.cls 3))).setIfInBounds 56 (some (.method ⟨3, 0⟩))
  statics := none }

def pool3 : Array CpInfo := pool [(1, .methodref 2 3), (0, .class_ 4), (0, .nameAndType 5 6), (0, u "java/lang/Object"), (0, u "<init>"), (0, u "()V"), (0, .fieldref 8 9), (0, .class_ 10), (0, .nameAndType 11 12), (0, u "com/example/befugnis/befugnis/Der$Value"), (0, u "bytes"), (0, u "[B"), (0, .fieldref 8 14), (0, .nameAndType 15 16), (0, u "tag"), (0, u "I"), (0, .fieldref 8 18), (0, .nameAndType 19 16), (0, u "start"), (0, .fieldref 8 21), (0, .nameAndType 22 16), (0, u "contentStart"), (0, .fieldref 8 24), (0, .nameAndType 25 16), (0, u "end"), (9, .methodref 36 37), (0, .class_ 38), (0, .nameAndType 39 40), (0, u "java/util/Arrays"), (0, u "copyOfRange"), (0, u "([BII)[B"), (0, .class_ 42), (0, u "com/example/befugnis/befugnis/Der"), (31, u "()I"), (28, u "([BIIII)V"), (5, u "contents"), (0, u "()[B"), (0, u "encoded")] 22

def k3c0 : Code := { maxStack := 2, maxLocals := 6, code := prog_10_method_1_code, exceptionTable := #[], attributes := #[] }
def k3m0 : Method := { name := "<init>", desc := "([BIIII)V", sig := { parameters := [(.array .byte), .int, .int, .int, .int], returnType := none }, accessFlags := 2, code := some k3c0 }
def k3c1 : Code := { maxStack := 1, maxLocals := 1, code := prog_10_method_2_code, exceptionTable := #[], attributes := #[] }
def k3m1 : Method := { name := "tag", desc := "()I", sig := { parameters := [], returnType := some .int }, accessFlags := 0, code := some k3c1 }
def k3c2 : Code := { maxStack := 3, maxLocals := 1, code := prog_10_method_4_code, exceptionTable := #[], attributes := #[] }
def k3m2 : Method := { name := "contents", desc := "()[B", sig := { parameters := [], returnType := some (.array .byte) }, accessFlags := 0, code := some k3c2 }
def k3c3 : Code := { maxStack := 3, maxLocals := 1, code := prog_10_method_5_code, exceptionTable := #[], attributes := #[] }
def k3m3 : Method := { name := "encoded", desc := "()[B", sig := { parameters := [], returnType := some (.array .byte) }, accessFlags := 0, code := some k3c3 }
/-- com/example/befugnis/befugnis/Der$Value -/
def k3 : Class := { plain "com/example/befugnis/befugnis/Der$Value" (some 0) with
  accessFlags := 32
  interfaces := #[]
  cf := some (fileOf pool3 8 #[.nestHost 41] #[{ accessFlags := 2, nameIndex := 5, descriptorIndex := 103, attributes := #[] }, { accessFlags := 0, nameIndex := 15, descriptorIndex := 74, attributes := #[] }, { accessFlags := 0, nameIndex := 109, descriptorIndex := 110, attributes := #[] }, { accessFlags := 0, nameIndex := 111, descriptorIndex := 110, attributes := #[] }] 32 2 #[] #[{ accessFlags := 18, nameIndex := 11, descriptorIndex := 12, attributes := #[] }, { accessFlags := 18, nameIndex := 15, descriptorIndex := 16, attributes := #[] }, { accessFlags := 18, nameIndex := 19, descriptorIndex := 16, attributes := #[] }, { accessFlags := 18, nameIndex := 22, descriptorIndex := 16, attributes := #[] }, { accessFlags := 18, nameIndex := 25, descriptorIndex := 16, attributes := #[] }])
  fields := #[{ name := "bytes", type := (.array .byte), accessFlags := 18, slot := 0, constantValue := 0 }, { name := "tag", type := .int, accessFlags := 18, slot := 1, constantValue := 0 }, { name := "start", type := .int, accessFlags := 18, slot := 2, constantValue := 0 }, { name := "contentStart", type := .int, accessFlags := 18, slot := 3, constantValue := 0 }, { name := "end", type := .int, accessFlags := 18, slot := 4, constantValue := 0 }]
  methods := #[k3m0, k3m1, k3m2, k3m3]
  instanceTypes := #[(.array .byte), .int, .int, .int, .int]
  staticTypes := #[]
  resolved := Array.replicate 134 none
  statics := none }

def pool4 : Array CpInfo := pool [(2, .class_ 4), (1, u "java/lang/Object"), (0, u "<init>"), (0, u "()V"), (7, .class_ 16), (1, u "java/util/Arrays"), (57, .class_ 76), (1, u "java/util/Arrays$NaturalOrder"), (32, u "()Ljava/lang/Object;"), (3, .class_ 115), (1, u "java/util/Arrays$LegacyMergeSort"), (1, u "Z"), (10, .nameAndType 129 109), (0, u "clone"), (9, u "copyOfRange"), (10, .methodref 151 152), (0, .class_ 153), (0, .nameAndType 154 155), (0, u "java/lang/System"), (0, u "arraycopy"), (0, u "(Ljava/lang/Object;ILjava/lang/Object;II)V"), (148, .methodref 305 306), (0, .class_ 307), (0, .nameAndType 308 309), (0, u "java/lang/Math"), (0, u "min"), (0, u "(II)I"), (0, .methodref 311 128), (0, .class_ 312), (0, u "[B"), (26, .methodref 14 340), (0, .nameAndType 341 342), (0, u "copyOfRangeByte"), (0, u "([BII)[B"), (0, .methodref 14 344), (0, .nameAndType 345 346), (0, u "checkLength"), (0, u "(II)V"), (28, .class_ 376), (0, u "java/util/Arrays$ArrayList"), (68, u "$assertionsDisabled"), (269, u "MIN_ARRAY_SORT_GRAN"), (0, u "I"), (2, u "INSERTIONSORT_THRESHOLD"), (255, .class_ 976), (0, u "java/util/Arrays$ArrayItr")] 52

def k4m0 : Method := { name := "<init>", desc := "()V", sig := { parameters := [], returnType := none }, accessFlags := 2, code := none }
def k4c1 : Code := { maxStack := 4, maxLocals := 2, code := jdk_65_method_131_code, exceptionTable := #[], attributes := #[] }
def k4m1 : Method := { name := "checkLength", desc := "(II)V", sig := { parameters := [.int, .int], returnType := none }, accessFlags := 10, code := some k4c1 }
def k4c2 : Code := { maxStack := 3, maxLocals := 3, code := jdk_65_method_132_code, exceptionTable := #[], attributes := #[] }
def k4m2 : Method := { name := "copyOfRange", desc := "([BII)[B", sig := { parameters := [(.array .byte), .int, .int], returnType := some (.array .byte) }, accessFlags := 9, code := some k4c2 }
def k4c3 : Code := { maxStack := 6, maxLocals := 5, code := jdk_65_method_133_code, exceptionTable := #[], attributes := #[] }
def k4m3 : Method := { name := "copyOfRangeByte", desc := "([BII)[B", sig := { parameters := [(.array .byte), .int, .int], returnType := some (.array .byte) }, accessFlags := 10, code := some k4c3 }
/-- java/util/Arrays -/
def k4 : Class := { plain "java/util/Arrays" (some 0) with
  accessFlags := 49
  interfaces := #[]
  cf := some (fileOf pool4 14 #[.nestMembers #[975, 375, 113, 74]] #[{ accessFlags := 2, nameIndex := 5, descriptorIndex := 6, attributes := #[] }, { accessFlags := 10, nameIndex := 345, descriptorIndex := 346, attributes := #[] }, { accessFlags := 9, nameIndex := 139, descriptorIndex := 342, attributes := #[] }, { accessFlags := 10, nameIndex := 341, descriptorIndex := 342, attributes := #[] }] 49 2 #[] #[{ accessFlags := 26, nameIndex := 715, descriptorIndex := 716, attributes := #[] }, { accessFlags := 26, nameIndex := 719, descriptorIndex := 716, attributes := #[] }, { accessFlags := 4120, nameIndex := 445, descriptorIndex := 117, attributes := #[] }])
  fields := #[{ name := "MIN_ARRAY_SORT_GRAN", type := .int, accessFlags := 26, slot := 0, constantValue := 0 }, { name := "INSERTIONSORT_THRESHOLD", type := .int, accessFlags := 26, slot := 1, constantValue := 0 }, { name := "$assertionsDisabled", type := .boolean, accessFlags := 4120, slot := 2, constantValue := 0 }]
  methods := #[k4m0, k4m1, k4m2, k4m3]
  instanceTypes := #[]
  staticTypes := #[.int, .int, .boolean]
  resolved := Array.replicate 1029 none
  statics := none }

def pool5 : Array CpInfo := pool [(1, .class_ 2), (0, u "java/lang/Math"), (1, .class_ 6), (1, u "java/lang/Object"), (0, u "<init>"), (0, u "()V"), (89, .class_ 100), (1, u "java/lang/Math$RandomNumberGeneratorHolder"), (71, u "negativeZeroFloatBits"), (0, u "J"), (2, u "negativeZeroDoubleBits"), (24, u "min"), (43, u "$assertionsDisabled"), (0, u "Z"), (88, u "(II)I"), (2, u "twoToTheDoubleScaleDown"), (0, u "D"), (4, u "twoToTheDoubleScaleUp"), (9, u "E"), (3, u "PI"), (2, u "TAU"), (2, u "DEGREES_TO_RADIANS"), (0, u "RADIANS_TO_DEGREES")] 94

def k5m0 : Method := { name := "<init>", desc := "()V", sig := { parameters := [], returnType := none }, accessFlags := 2, code := none }
def k5c1 : Code := { maxStack := 2, maxLocals := 2, code := jdk_29_method_69_code, exceptionTable := #[], attributes := #[] }
def k5m1 : Method := { name := "min", desc := "(II)I", sig := { parameters := [.int, .int], returnType := some .int }, accessFlags := 9, code := some k5c1 }
/-- java/lang/Math -/
def k5 : Class := { plain "java/lang/Math" (some 0) with
  accessFlags := 49
  interfaces := #[]
  cf := some (fileOf pool5 1 #[.nestMembers #[98]] #[{ accessFlags := 2, nameIndex := 7, descriptorIndex := 8, attributes := #[] }, { accessFlags := 9, nameIndex := 201, descriptorIndex := 335, attributes := #[] }] 49 4 #[] #[{ accessFlags := 25, nameIndex := 354, descriptorIndex := 339, attributes := #[] }, { accessFlags := 25, nameIndex := 358, descriptorIndex := 339, attributes := #[] }, { accessFlags := 25, nameIndex := 361, descriptorIndex := 339, attributes := #[] }, { accessFlags := 26, nameIndex := 364, descriptorIndex := 339, attributes := #[] }, { accessFlags := 26, nameIndex := 365, descriptorIndex := 339, attributes := #[] }, { accessFlags := 26, nameIndex := 172, descriptorIndex := 173, attributes := #[] }, { accessFlags := 26, nameIndex := 176, descriptorIndex := 173, attributes := #[] }, { accessFlags := 8, nameIndex := 344, descriptorIndex := 339, attributes := #[] }, { accessFlags := 8, nameIndex := 338, descriptorIndex := 339, attributes := #[] }, { accessFlags := 4120, nameIndex := 245, descriptorIndex := 246, attributes := #[] }])
  fields := #[{ name := "E", type := .double, accessFlags := 25, slot := 0, constantValue := 0 }, { name := "PI", type := .double, accessFlags := 25, slot := 1, constantValue := 0 }, { name := "TAU", type := .double, accessFlags := 25, slot := 2, constantValue := 0 }, { name := "DEGREES_TO_RADIANS", type := .double, accessFlags := 26, slot := 3, constantValue := 0 }, { name := "RADIANS_TO_DEGREES", type := .double, accessFlags := 26, slot := 4, constantValue := 0 }, { name := "negativeZeroFloatBits", type := .long, accessFlags := 26, slot := 5, constantValue := 0 }, { name := "negativeZeroDoubleBits", type := .long, accessFlags := 26, slot := 6, constantValue := 0 }, { name := "twoToTheDoubleScaleUp", type := .double, accessFlags := 8, slot := 7, constantValue := 0 }, { name := "twoToTheDoubleScaleDown", type := .double, accessFlags := 8, slot := 8, constantValue := 0 }, { name := "$assertionsDisabled", type := .boolean, accessFlags := 4120, slot := 9, constantValue := 0 }]
  methods := #[k5m0, k5m1]
  instanceTypes := #[]
  staticTypes := #[.double, .double, .double, .double, .double, .long, .long, .double, .double, .boolean]
  resolved := Array.replicate 460 none
  statics := none }

def pool6 : Array CpInfo := pool [(2, .class_ 4), (1, u "java/lang/Object"), (0, u "<init>"), (0, u "()V"), (1, .class_ 10), (1, u "java/lang/System"), (0, u "allowSecurityManager"), (0, u "I"), (16, u "cons"), (0, u "Ljava/io/Console;"), (77, .class_ 110), (1, u "java/lang/System$CallersHolder"), (43, u "initialErrStream"), (0, u "Ljava/io/PrintStream;"), (19, u "security"), (0, u "Ljava/lang/SecurityManager;"), (31, .class_ 209), (0, u "java/lang/System$1"), (7, u "props"), (0, u "Ljava/util/Properties;"), (2, u "lineSeparator"), (0, u "Ljava/lang/String;"), (96, .class_ 321), (1, u "java/lang/System$LoggerFinder"), (5, .class_ 328), (0, u "java/lang/System$Logger"), (67, u "err"), (2, u "out"), (91, u "notSupportedJnuEncoding"), (15, u "in"), (17, u "initialIn"), (0, u "Ljava/io/InputStream;"), (35, u "bootLayer"), (0, u "Ljava/lang/ModuleLayer;"), (99, .class_ 664), (0, u "java/lang/System$2"), (9, u "NEVER"), (2, u "MAYBE"), (49, u "arraycopy"), (0, u "(Ljava/lang/Object;ILjava/lang/Object;II)V"), (72, .class_ 802), (0, u "java/lang/System$Logger$Level")] 31

def k6m0 : Method := { name := "<init>", desc := "()V", sig := { parameters := [], returnType := none }, accessFlags := 2, code := none }
def k6m1 : Method := { name := "arraycopy", desc := "(Ljava/lang/Object;ILjava/lang/Object;II)V", sig := { parameters := [(.object "java/lang/Object"), .int, (.object "java/lang/Object"), .int, .int], returnType := none }, accessFlags := 265, code := none }
/-- java/lang/System -/
def k6 : Class := { plain "java/lang/System" (some 0) with
  accessFlags := 49
  interfaces := #[]
  cf := some (fileOf pool6 8 #[.nestMembers #[319, 327, 801, 108, 663, 208]] #[{ accessFlags := 2, nameIndex := 5, descriptorIndex := 6, attributes := #[] }, { accessFlags := 265, nameIndex := 727, descriptorIndex := 728, attributes := #[] }] 49 2 #[] #[{ accessFlags := 25, nameIndex := 507, descriptorIndex := 526, attributes := #[] }, { accessFlags := 25, nameIndex := 399, descriptorIndex := 155, attributes := #[] }, { accessFlags := 25, nameIndex := 396, descriptorIndex := 155, attributes := #[] }, { accessFlags := 10, nameIndex := 525, descriptorIndex := 526, attributes := #[] }, { accessFlags := 26, nameIndex := 674, descriptorIndex := 12, attributes := #[] }, { accessFlags := 26, nameIndex := 677, descriptorIndex := 12, attributes := #[] }, { accessFlags := 10, nameIndex := 11, descriptorIndex := 12, attributes := #[] }, { accessFlags := 74, nameIndex := 175, descriptorIndex := 176, attributes := #[] }, { accessFlags := 10, nameIndex := 491, descriptorIndex := 222, attributes := #[] }, { accessFlags := 74, nameIndex := 29, descriptorIndex := 30, attributes := #[] }, { accessFlags := 74, nameIndex := 154, descriptorIndex := 155, attributes := #[] }, { accessFlags := 10, nameIndex := 217, descriptorIndex := 218, attributes := #[] }, { accessFlags := 10, nameIndex := 221, descriptorIndex := 222, attributes := #[] }, { accessFlags := 8, nameIndex := 562, descriptorIndex := 563, attributes := #[] }])
  fields := #[{ name := "in", type := (.object "java/io/InputStream"), accessFlags := 25, slot := 0, constantValue := 0 }, { name := "out", type := (.object "java/io/PrintStream"), accessFlags := 25, slot := 1, constantValue := 0 }, { name := "err", type := (.object "java/io/PrintStream"), accessFlags := 25, slot := 2, constantValue := 0 }, { name := "initialIn", type := (.object "java/io/InputStream"), accessFlags := 10, slot := 3, constantValue := 0 }, { name := "NEVER", type := .int, accessFlags := 26, slot := 4, constantValue := 0 }, { name := "MAYBE", type := .int, accessFlags := 26, slot := 5, constantValue := 0 }, { name := "allowSecurityManager", type := .int, accessFlags := 10, slot := 6, constantValue := 0 }, { name := "security", type := (.object "java/lang/SecurityManager"), accessFlags := 74, slot := 7, constantValue := 0 }, { name := "notSupportedJnuEncoding", type := (.object "java/lang/String"), accessFlags := 10, slot := 8, constantValue := 0 }, { name := "cons", type := (.object "java/io/Console"), accessFlags := 74, slot := 9, constantValue := 0 }, { name := "initialErrStream", type := (.object "java/io/PrintStream"), accessFlags := 74, slot := 10, constantValue := 0 }, { name := "props", type := (.object "java/util/Properties"), accessFlags := 10, slot := 11, constantValue := 0 }, { name := "lineSeparator", type := (.object "java/lang/String"), accessFlags := 10, slot := 12, constantValue := 0 }, { name := "bootLayer", type := (.object "java/lang/ModuleLayer"), accessFlags := 8, slot := 13, constantValue := 0 }]
  methods := #[k6m0, k6m1]
  instanceTypes := #[]
  staticTypes := #[(.object "java/io/InputStream"), (.object "java/io/PrintStream"), (.object "java/io/PrintStream"), (.object "java/io/InputStream"), .int, .int, .int, (.object "java/lang/SecurityManager"), (.object "java/lang/String"), (.object "java/io/Console"), (.object "java/io/PrintStream"), (.object "java/util/Properties"), (.object "java/lang/String"), (.object "java/lang/ModuleLayer")]
  resolved := Array.replicate 834 none
  statics := none }

def pool7 : Array CpInfo := pool [(1, .class_ 2), (0, u "java/lang/Cloneable"), (0, .class_ 4), (0, u "java/lang/Object")] 2

/-- java/lang/Cloneable -/
def k7 : Class := { plain "java/lang/Cloneable" (some 0) with
  accessFlags := 1537
  interfaces := #[]
  cf := some (fileOf pool7 1 #[] #[] 1537 3 #[] #[])
  fields := #[]
  methods := #[]
  instanceTypes := #[]
  staticTypes := #[]
  resolved := Array.replicate 7 none
  statics := none }

def pool8 : Array CpInfo := pool [(1, u "java/io/Serializable"), (0, .class_ 1), (0, u "java/lang/Object"), (0, .class_ 3)] 3

/-- java/io/Serializable -/
def k8 : Class := { plain "java/io/Serializable" (some 0) with
  accessFlags := 1537
  interfaces := #[]
  cf := some (fileOf pool8 2 #[] #[] 1537 4 #[] #[])
  fields := #[]
  methods := #[]
  instanceTypes := #[]
  staticTypes := #[]
  resolved := Array.replicate 8 none
  statics := none }

/-- the primitive byte -/
def k9 : Class := { plain "byte" none with kind := .primitive 'B', accessFlags := 0x411 }
/-- [B -/
def k10 : Class := { plain "[B" (some 0) with kind := .array 9 .byte, interfaces := #[7, 8], accessFlags := 1041 }

/-- the primitive int -/
def k11 : Class := { plain "int" none with kind := .primitive 'I', accessFlags := 0x411 }
/-- [I -/
def k12 : Class := { plain "[I" (some 0) with kind := .array 11 .int, interfaces := #[7, 8], accessFlags := 1041 }

def heap : Heap := #[]
def classes : Array Class := #[k0, k1, k2, k3, k4, k5, k6, k7, k8, k9, k10, k11, k12]
def interned : List (Array UInt16 × Addr) := []
def slotsUsed : Nat := 0
def theMethod : MethodId := ⟨1, 1⟩
def args0 : Array Value := #[.int 5, .int 5, .int 5, .int 5, .int 5]
def aboutOver (below : List Frame) : State where
  vm := { classes := classes, interned := interned.toArray }
  heap := heap
  slotsUsed := slotsUsed
  threads := #[{ frames := .invoking theMethod args0 :: below }]
def below0 : List Frame := [.native { method := ⟨0, 0⟩, args := #[] }]
def about1 : State := aboutOver below0
def p0 : Program := .bare "" "" ""
def e0 : Env := launch0.env 0 0 0
theorem w_frames : about1.frames = Frame.invoking theMethod args0 :: below0 := rfl
set_option maxRecDepth 65536 in
theorem w_args : argsFit about1.vm theMethod args0 = true := by decide +kernel
set_option maxRecDepth 65536 in
theorem w_heap : heapFits about1 = true := by decide +kernel
set_option maxRecDepth 65536 in
theorem w_runnable : about1.curStatus? = some .runnable := by decide +kernel
set_option maxRecDepth 65536 in
theorem w_alone : about1.alone = true := by decide +kernel
set_option maxRecDepth 65536 in
theorem w_named : about1.methodNamed? x = some theMethod := by decide +kernel
set_option maxRecDepth 65536 in
theorem w_hears : about1.hears theMethod below0 = true := by decide +kernel
set_option maxRecDepth 65536 in
theorem w_ripe : about1.ripe theMethod args0 below0 = true := by decide +kernel
theorem w_running : about1.status = .running := rfl
set_option maxRecDepth 65536 in
theorem w_room : about1.hasRoom e0.platform room_1 = true :=
  launch0.hasRoom_least _ room_1 (by decide +kernel) (by decide +kernel) (by decide +kernel) (by decide +kernel) (by decide +kernel) (by decide +kernel)
theorem allAtoms_all (ts : List Jvm.Cond) (a : Array Jvm.Value) (st : Jvm.State) : (allAtoms ts).before a st = ts.all (fun c => c.before a st) := by
  induction ts with
  | nil => rfl
  | cons c t ih =>
    show (Jvm.Cond.and c (allAtoms t)).before a st = _
    rw [Jvm.Cond.before_and, ih, List.all_cons]
def words1 : List Jvm.Cond := Jvm.Cond.code x code maxLocals ret :: tables_1
/-- a 'code' word, met by the world's own term for the bytes: nothing is compared byte by byte -/
theorem code_word {y : MethodName} {bytes : ByteArray} {mx : Nat} {rt : Option FieldType} {a : Array Value} {s : State} {m : MethodId} {meth : Method} {c : Code} (h1 : s.methodNamed? y = some m) (h2 : s.vm.method? m = some meth) (h3 : meth.code = some c) (h4 : c.code = bytes)
    (h5 : (c.maxLocals == mx && c.exceptionTable.isEmpty && decide (c.maxStack ≤ mostOperands) && decide (meth.sig.returnType = rt) && !meth.locks && decide (parseMethodDescriptor y.desc = some meth.sig)) = true) : (Jvm.Cond.code y bytes mx rt).before a s = true := by
  simp only [Bool.and_eq_true, beq_iff_eq, Bool.not_eq_true', decide_eq_true_eq] at h5
  obtain ⟨⟨⟨⟨⟨g1, g2⟩, g3⟩, g4⟩, g5⟩, g6⟩ := h5
  simp [Cond.before, Cond.holds, Cond.value, h1, h2, h3, h4, g1, g2, g3, g4, g5, g6]
def isCode : Jvm.Cond → Bool
  | .code _ _ _ _ => true
  | _ => false
theorem all_split {L : List Jvm.Cond} {P : Jvm.Cond → Bool} (h1 : L.all (fun c => isCode c || P c) = true) (h2 : ∀ c ∈ L.filter isCode, P c = true) : L.all P = true := by
  refine List.all_eq_true.mpr fun c hc => ?_
  have h := List.all_eq_true.mp h1 c hc
  rcases Bool.eq_false_or_eq_true (isCode c) with hi | hi
  · exact h2 c (List.mem_filter.mpr ⟨hc, hi⟩)
  · simpa [hi] using h
set_option maxRecDepth 65536 in
theorem w_c0 : (Jvm.Cond.code x code maxLocals ret).before args0 about1 = true := code_word (m := ⟨1, 1⟩) (meth := k1m1) (c := k1c1) (by decide +kernel) rfl rfl rfl (by decide +kernel)
set_option maxRecDepth 65536 in
theorem w_c1 : (Jvm.Cond.code ({ cls := "com/example/befugnis/befugnis/Der", name := "single", desc := "([B)Lcom/example/befugnis/befugnis/Der$Value;" } : Jvm.MethodName) prog_9_method_3_code (3 : Nat) (Option.some (Jvm.ClassFile.FieldType.object "com/example/befugnis/befugnis/Der$Value"))).before args0 about1 = true := code_word (m := ⟨2, 2⟩) (meth := k2m2) (c := k2c2) (by decide +kernel) rfl rfl rfl (by decide +kernel)
set_option maxRecDepth 65536 in
theorem w_c2 : (Jvm.Cond.code ({ cls := "com/example/befugnis/befugnis/Der", name := "of", desc := "([B)Lcom/example/befugnis/befugnis/Der;" } : Jvm.MethodName) prog_9_method_2_code (1 : Nat) (Option.some (Jvm.ClassFile.FieldType.object "com/example/befugnis/befugnis/Der"))).before args0 about1 = true := code_word (m := ⟨2, 1⟩) (meth := k2m1) (c := k2c1) (by decide +kernel) rfl rfl rfl (by decide +kernel)
set_option maxRecDepth 65536 in
theorem w_c3 : (Jvm.Cond.code ({ cls := "com/example/befugnis/befugnis/Der", name := "<init>", desc := "([BII)V" } : Jvm.MethodName) prog_9_method_1_code (4 : Nat) (Option.none : Option Jvm.ClassFile.FieldType)).before args0 about1 = true := code_word (m := ⟨2, 0⟩) (meth := k2m0) (c := k2c0) (by decide +kernel) rfl rfl rfl (by decide +kernel)
set_option maxRecDepth 65536 in
theorem w_c4 : (Jvm.Cond.code ({ cls := "java/lang/Object", name := "<init>", desc := "()V" } : Jvm.MethodName) object_method_1_code (1 : Nat) (Option.none : Option Jvm.ClassFile.FieldType)).before args0 about1 = true := code_word (m := ⟨0, 0⟩) (meth := k0m0) (c := k0c0) (by decide +kernel) rfl rfl rfl (by decide +kernel)
set_option maxRecDepth 65536 in
theorem w_c5 : (Jvm.Cond.code ({ cls := "com/example/befugnis/befugnis/Der", name := "next", desc := "()Lcom/example/befugnis/befugnis/Der$Value;" } : Jvm.MethodName) prog_9_method_6_code (4 : Nat) (Option.some (Jvm.ClassFile.FieldType.object "com/example/befugnis/befugnis/Der$Value"))).before args0 about1 = true := code_word (m := ⟨2, 4⟩) (meth := k2m4) (c := k2c4) (by decide +kernel) rfl rfl rfl (by decide +kernel)
set_option maxRecDepth 65536 in
theorem w_c6 : (Jvm.Cond.code ({ cls := "com/example/befugnis/befugnis/Der", name := "atEnd", desc := "()Z" } : Jvm.MethodName) prog_9_method_4_code (1 : Nat) (Option.some Jvm.ClassFile.FieldType.boolean)).before args0 about1 = true := code_word (m := ⟨2, 3⟩) (meth := k2m3) (c := k2c3) (by decide +kernel) rfl rfl rfl (by decide +kernel)
set_option maxRecDepth 65536 in
theorem w_c7 : (Jvm.Cond.code ({ cls := "com/example/befugnis/befugnis/Der", name := "readLength", desc := "()I" } : Jvm.MethodName) prog_9_method_8_code (6 : Nat) (Option.some Jvm.ClassFile.FieldType.int)).before args0 about1 = true := code_word (m := ⟨2, 5⟩) (meth := k2m5) (c := k2c5) (by decide +kernel) rfl rfl rfl (by decide +kernel)
set_option maxRecDepth 65536 in
theorem w_c8 : (Jvm.Cond.code ({ cls := "com/example/befugnis/befugnis/Der$Value", name := "<init>", desc := "([BIIII)V" } : Jvm.MethodName) prog_10_method_1_code (6 : Nat) (Option.none : Option Jvm.ClassFile.FieldType)).before args0 about1 = true := code_word (m := ⟨3, 0⟩) (meth := k3m0) (c := k3c0) (by decide +kernel) rfl rfl rfl (by decide +kernel)
set_option maxRecDepth 65536 in
theorem w_c9 : (Jvm.Cond.code ({ cls := "com/example/befugnis/befugnis/Der$Value", name := "tag", desc := "()I" } : Jvm.MethodName) prog_10_method_2_code (1 : Nat) (Option.some Jvm.ClassFile.FieldType.int)).before args0 about1 = true := code_word (m := ⟨3, 1⟩) (meth := k3m1) (c := k3c1) (by decide +kernel) rfl rfl rfl (by decide +kernel)
set_option maxRecDepth 65536 in
theorem w_c10 : (Jvm.Cond.code ({ cls := "com/example/befugnis/befugnis/Der$Value", name := "contents", desc := "()[B" } : Jvm.MethodName) prog_10_method_4_code (1 : Nat) (Option.some (Jvm.ClassFile.FieldType.array Jvm.ClassFile.FieldType.byte))).before args0 about1 = true := code_word (m := ⟨3, 2⟩) (meth := k3m2) (c := k3c2) (by decide +kernel) rfl rfl rfl (by decide +kernel)
set_option maxRecDepth 65536 in
theorem w_c11 : (Jvm.Cond.code ({ cls := "java/util/Arrays", name := "copyOfRange", desc := "([BII)[B" } : Jvm.MethodName) jdk_65_method_132_code (3 : Nat) (Option.some (Jvm.ClassFile.FieldType.array Jvm.ClassFile.FieldType.byte))).before args0 about1 = true := code_word (m := ⟨4, 2⟩) (meth := k4m2) (c := k4c2) (by decide +kernel) rfl rfl rfl (by decide +kernel)
set_option maxRecDepth 65536 in
theorem w_c12 : (Jvm.Cond.code ({ cls := "java/util/Arrays", name := "copyOfRangeByte", desc := "([BII)[B" } : Jvm.MethodName) jdk_65_method_133_code (5 : Nat) (Option.some (Jvm.ClassFile.FieldType.array Jvm.ClassFile.FieldType.byte))).before args0 about1 = true := code_word (m := ⟨4, 3⟩) (meth := k4m3) (c := k4c3) (by decide +kernel) rfl rfl rfl (by decide +kernel)
set_option maxRecDepth 65536 in
theorem w_c13 : (Jvm.Cond.code ({ cls := "java/util/Arrays", name := "checkLength", desc := "(II)V" } : Jvm.MethodName) jdk_65_method_131_code (2 : Nat) (Option.none : Option Jvm.ClassFile.FieldType)).before args0 about1 = true := code_word (m := ⟨4, 1⟩) (meth := k4m1) (c := k4c1) (by decide +kernel) rfl rfl rfl (by decide +kernel)
set_option maxRecDepth 65536 in
theorem w_c14 : (Jvm.Cond.code ({ cls := "java/lang/Math", name := "min", desc := "(II)I" } : Jvm.MethodName) jdk_29_method_69_code (2 : Nat) (Option.some Jvm.ClassFile.FieldType.int)).before args0 about1 = true := code_word (m := ⟨5, 1⟩) (meth := k5m1) (c := k5c1) (by decide +kernel) rfl rfl rfl (by decide +kernel)
set_option maxRecDepth 65536 in
theorem w_c15 : (Jvm.Cond.code ({ cls := "com/example/befugnis/befugnis/Der$Value", name := "encoded", desc := "()[B" } : Jvm.MethodName) prog_10_method_5_code (1 : Nat) (Option.some (Jvm.ClassFile.FieldType.array Jvm.ClassFile.FieldType.byte))).before args0 about1 = true := code_word (m := ⟨3, 3⟩) (meth := k3m3) (c := k3c3) (by decide +kernel) rfl rfl rfl (by decide +kernel)
def codes1 : List Jvm.Cond := [Jvm.Cond.code x code maxLocals ret, Jvm.Cond.code ({ cls := "com/example/befugnis/befugnis/Der", name := "single", desc := "([B)Lcom/example/befugnis/befugnis/Der$Value;" } : Jvm.MethodName) prog_9_method_3_code (3 : Nat) (Option.some (Jvm.ClassFile.FieldType.object "com/example/befugnis/befugnis/Der$Value")), Jvm.Cond.code ({ cls := "com/example/befugnis/befugnis/Der", name := "of", desc := "([B)Lcom/example/befugnis/befugnis/Der;" } : Jvm.MethodName) prog_9_method_2_code (1 : Nat) (Option.some (Jvm.ClassFile.FieldType.object "com/example/befugnis/befugnis/Der")), Jvm.Cond.code ({ cls := "com/example/befugnis/befugnis/Der", name := "<init>", desc := "([BII)V" } : Jvm.MethodName) prog_9_method_1_code (4 : Nat) (Option.none : Option Jvm.ClassFile.FieldType), Jvm.Cond.code ({ cls := "java/lang/Object", name := "<init>", desc := "()V" } : Jvm.MethodName) object_method_1_code (1 : Nat) (Option.none : Option Jvm.ClassFile.FieldType), Jvm.Cond.code ({ cls := "com/example/befugnis/befugnis/Der", name := "next", desc := "()Lcom/example/befugnis/befugnis/Der$Value;" } : Jvm.MethodName) prog_9_method_6_code (4 : Nat) (Option.some (Jvm.ClassFile.FieldType.object "com/example/befugnis/befugnis/Der$Value")), Jvm.Cond.code ({ cls := "com/example/befugnis/befugnis/Der", name := "atEnd", desc := "()Z" } : Jvm.MethodName) prog_9_method_4_code (1 : Nat) (Option.some Jvm.ClassFile.FieldType.boolean), Jvm.Cond.code ({ cls := "com/example/befugnis/befugnis/Der", name := "readLength", desc := "()I" } : Jvm.MethodName) prog_9_method_8_code (6 : Nat) (Option.some Jvm.ClassFile.FieldType.int), Jvm.Cond.code ({ cls := "com/example/befugnis/befugnis/Der$Value", name := "<init>", desc := "([BIIII)V" } : Jvm.MethodName) prog_10_method_1_code (6 : Nat) (Option.none : Option Jvm.ClassFile.FieldType), Jvm.Cond.code ({ cls := "com/example/befugnis/befugnis/Der$Value", name := "tag", desc := "()I" } : Jvm.MethodName) prog_10_method_2_code (1 : Nat) (Option.some Jvm.ClassFile.FieldType.int), Jvm.Cond.code ({ cls := "com/example/befugnis/befugnis/Der$Value", name := "contents", desc := "()[B" } : Jvm.MethodName) prog_10_method_4_code (1 : Nat) (Option.some (Jvm.ClassFile.FieldType.array Jvm.ClassFile.FieldType.byte)), Jvm.Cond.code ({ cls := "java/util/Arrays", name := "copyOfRange", desc := "([BII)[B" } : Jvm.MethodName) jdk_65_method_132_code (3 : Nat) (Option.some (Jvm.ClassFile.FieldType.array Jvm.ClassFile.FieldType.byte)), Jvm.Cond.code ({ cls := "java/util/Arrays", name := "copyOfRangeByte", desc := "([BII)[B" } : Jvm.MethodName) jdk_65_method_133_code (5 : Nat) (Option.some (Jvm.ClassFile.FieldType.array Jvm.ClassFile.FieldType.byte)), Jvm.Cond.code ({ cls := "java/util/Arrays", name := "checkLength", desc := "(II)V" } : Jvm.MethodName) jdk_65_method_131_code (2 : Nat) (Option.none : Option Jvm.ClassFile.FieldType), Jvm.Cond.code ({ cls := "java/lang/Math", name := "min", desc := "(II)I" } : Jvm.MethodName) jdk_29_method_69_code (2 : Nat) (Option.some Jvm.ClassFile.FieldType.int), Jvm.Cond.code ({ cls := "com/example/befugnis/befugnis/Der$Value", name := "encoded", desc := "()[B" } : Jvm.MethodName) prog_10_method_5_code (1 : Nat) (Option.some (Jvm.ClassFile.FieldType.array Jvm.ClassFile.FieldType.byte))]
set_option maxRecDepth 65536 in
theorem codes_eq : words1.filter isCode = codes1 := rfl
theorem w_codes : ∀ c ∈ words1.filter isCode, c.before args0 about1 = true := by
  rw [codes_eq]
  intro c hc
  simp only [codes1, List.mem_cons, List.not_mem_nil, or_false] at hc
  rcases hc with rfl | rfl | rfl | rfl | rfl | rfl | rfl | rfl | rfl | rfl | rfl | rfl | rfl | rfl | rfl | rfl
  · exact w_c0
  · exact w_c1
  · exact w_c2
  · exact w_c3
  · exact w_c4
  · exact w_c5
  · exact w_c6
  · exact w_c7
  · exact w_c8
  · exact w_c9
  · exact w_c10
  · exact w_c11
  · exact w_c12
  · exact w_c13
  · exact w_c14
  · exact w_c15
set_option maxRecDepth 65536 in
theorem w_t1 : (words1.take 24).all (fun c => isCode c || c.before args0 about1) = true := by decide +kernel
set_option maxRecDepth 65536 in
theorem w_t2 : ((words1.drop 24).take 24).all (fun c => isCode c || c.before args0 about1) = true := by decide +kernel
set_option maxRecDepth 65536 in
theorem w_t3 : (((words1.drop 24).drop 24).take 24).all (fun c => isCode c || c.before args0 about1) = true := by decide +kernel
set_option maxRecDepth 65536 in
theorem w_t4 : ((((words1.drop 24).drop 24).drop 24).take 24).all (fun c => isCode c || c.before args0 about1) = true := by decide +kernel
set_option maxRecDepth 65536 in
theorem w_t5 : ((((words1.drop 24).drop 24).drop 24).drop 24).all (fun c => isCode c || c.before args0 about1) = true := by decide +kernel
theorem w_tables : (allAtoms (Jvm.Cond.code x code maxLocals ret :: tables_1)).before args0 about1 = true := by
  rw [allAtoms_all]
  show words1.all (fun c => c.before args0 about1) = true
  refine all_split ?_ w_codes
  rw [← List.take_append_drop 24 words1, List.all_append, w_t1, ← List.take_append_drop 24 (words1.drop 24), List.all_append, w_t2, ← List.take_append_drop 24 ((words1.drop 24).drop 24), List.all_append, w_t3, ← List.take_append_drop 24 (((words1.drop 24).drop 24).drop 24), List.all_append, w_t4, w_t5]
  rfl
set_option maxRecDepth 65536 in
theorem w_case : (Jvm.Cond.and given_1 narrow_1).before args0 about1 = true := by decide +kernel
theorem w_applies : (headSpec (Jvm.Cond.code x code maxLocals ret :: tables_1) room_1).applies x e0.platform about1 = true :=
  (Spec.applies_iff w_frames).mpr ⟨w_running, w_runnable, w_alone, w_named, w_hears, w_ripe, w_room, w_tables⟩
theorem atStart : AtStart classFile x code maxLocals ret World_1 tables_1 room_1 Calls_1 rest_1 Pre_1 launch0 p0 e0 about1 theMethod args0 below0 :=
  ⟨lists_1, trivial, launch0.admits_env _ _ _, launch0.least_env, fairChoices_fair.cas, fairChoices_fair.clock, w_frames, w_args, w_heap, w_applies, trivial, trivial, w_case⟩
end start1
theorem witness_1 : WitnessClaimed_1 := ⟨start1.p0, start1.e0, start1.about1, start1.theMethod, start1.args0, start1.below0, start1.atStart⟩
end Jvm.Pilot.@@N@@

import JvmDerived
import JvmDerived.Pilot.@@N@@Statement
import JvmDerived.Pilot.@@N@@Code
set_option linter.unusedVariables false
set_option linter.unusedSimpArgs false
namespace Jvm.Pilot.@@N@@
open Jvm Jvm.ClassFile Sem Op Lib Jvm.Free Jvm.Stand Jvm.LawKit Jvm.RoadKit Bundle Jvm.Pilot.@@N@@.Jvm.D
-- LAYER BEGIN
section OwnW
variable {l : Launch} {Z : State} {y : MethodName} {bytes : ByteArray} {ml : Nat} {ret : Option FieldType} {R : Room} {n0 : Nat} {Q : Option Value → Heap → Prop} {h : Heap} {cells slots pc pc' : Nat} {Ls Ls' : Array Slot} {st st' : List Value} {a0 : Array Value}
/-- from this point of the body (heap h, so many cells and slots made, at pc with these locals and this stack) every run returns; Q holds of the value and the heap; all that was written lies at or above n0 -/
def own_W (l : Launch) (Z : State) (y : MethodName) (bytes : ByteArray) (ml : Nat) (ret : Option FieldType) (R : Room) (n0 : Nat) (Q : Option Value → Heap → Prop) (h : Heap) (cells slots pc : Nat) (Ls : Array Slot) (st : List Value) : Prop :=
  ∀ (p : Program) (e : Env) (s : State) (vm0 : Vm) (k0 : Nat) (m : MethodId) (args : Array Value) (below : List Frame) (meth : Method) (c : Code) (T : State) (locs : List Loc),
    p.tables.exec = Jvm.exec → Z.Warmed39 (s.setVm vm0).vm → (s.setVm vm0).vm.findClass y.cls = some m.cls → c.code = bytes → c.maxLocals = ml → meth.sig.returnType = ret → meth.locks = false → meth.name = y.name → cells ≤ R.cells → slots ≤ R.slots →
    Stand p l e R (s.setVm vm0) m args below meth c T locs cells slots → T.heap = h → Fr n0 locs → s.Since vm0 k0 → k0 ≤ h.size →
    ∃ s₂ o, Steps p.tables e below (T.setTop (mkF m pc Ls st)) s₂ ∧ s₂.status = .running ∧ Ended s₂ below o ∧ ∃ v L, o = .returned v ∧ (Q v s₂.heap ∧ Fr n0 L) ∧ ReturnedEndW s o s₂ L R.cells R.slots
theorem own_pure (hs : ∀ (p : Program) (e : Env) (below : List Frame) (T target : State) (m : MethodId) (c : Code), At T m c below → p.tables.exec = Jvm.exec → c.code = bytes → Steps p.tables e below (T.setTop (mkF m pc' Ls' st')) target → Steps p.tables e below (T.setTop (mkF m pc Ls st)) target)
    (k : own_W l Z y bytes ml ret R n0 Q h cells slots pc' Ls' st') : own_W l Z y bytes ml ret R n0 Q h cells slots pc Ls st := by
  intro p e s vm0 k0 m args below meth c T locs hx hZ hown hby hml hret hlk hnm hce hsl X eT N hS hk
  obtain ⟨s₂, o, h1, h2⟩ := k p e s vm0 k0 m args below meth c T locs hx hZ hown hby hml hret hlk hnm hce hsl X eT N hS hk
  exact ⟨s₂, o, hs p e below T s₂ m c X.here hx hby h1, h2⟩
theorem own_more {cells' slots' : Nat} (hc : cells ≤ cells') (hs : slots ≤ slots') (hc' : cells' ≤ R.cells) (hs' : slots' ≤ R.slots) (k : own_W l Z y bytes ml ret R n0 Q h cells' slots' pc Ls st) : own_W l Z y bytes ml ret R n0 Q h cells slots pc Ls st := by
  intro p e s vm0 k0 m args below meth c T locs hx hZ hown hby hml hret hlk hnm hce hsl X eT N hS hk
  exact k p e s vm0 k0 m args below meth c T locs hx hZ hown hby hml hret hlk hnm hc' hs' (X.more hc hs) eT N hS hk
theorem own_weak {Q' : Option Value → Heap → Prop} (hq : ∀ v h, Q' v h → Q v h) (k : own_W l Z y bytes ml ret R n0 Q' h cells slots pc Ls st) : own_W l Z y bytes ml ret R n0 Q h cells slots pc Ls st := by
  intro p e s vm0 k0 m args below meth c T locs hx hZ hown hby hml hret hlk hnm hce hsl X eT N hS hk
  obtain ⟨s₂, o, h1, h2, h3, v, L, h4, ⟨h5, h6⟩, h7⟩ := k p e s vm0 k0 m args below meth c T locs hx hZ hown hby hml hret hlk hnm hce hsl X eT N hS hk
  exact ⟨s₂, o, h1, h2, h3, v, L, h4, ⟨hq _ _ h5, h6⟩, h7⟩
theorem own_iloadN {i : Fin 4} {u : Int32} (hd : decode bytes pc = .ok (.iload_n i, 1)) (hp : pc + 1 = pc') (hl : Ls[i.val]? = some (.val (.int u))) (k : own_W l Z y bytes ml ret R n0 Q h cells slots pc' Ls (.int u :: st)) : own_W l Z y bytes ml ret R n0 Q h cells slots pc Ls (st) :=
  own_pure (fun p e below T t m c hA hx hb hr => by subst hp; exact XS.iloadN hA hx rfl (hb ▸ hd) hl hr) k
theorem own_iload {i : Nat} {u : Int32} (hd : decode bytes pc = .ok (.iload i, 2)) (hp : pc + 2 = pc') (hl : Ls[i]? = some (.val (.int u))) (k : own_W l Z y bytes ml ret R n0 Q h cells slots pc' Ls (.int u :: st)) : own_W l Z y bytes ml ret R n0 Q h cells slots pc Ls (st) :=
  own_pure (fun p e below T t m c hA hx hb hr => by subst hp; exact XS.iload hA hx rfl (hb ▸ hd) hl hr) k
theorem own_lloadN {i : Fin 4} {u : Int64} (hd : decode bytes pc = .ok (.lload_n i, 1)) (hp : pc + 1 = pc') (hl : Ls[i.val]? = some (.val (.long u))) (k : own_W l Z y bytes ml ret R n0 Q h cells slots pc' Ls (.long u :: st)) : own_W l Z y bytes ml ret R n0 Q h cells slots pc Ls (st) :=
  own_pure (fun p e below T t m c hA hx hb hr => by subst hp; exact XT.lloadN hA hx rfl (hb ▸ hd) hl hr) k
theorem own_lload {i : Nat} {u : Int64} (hd : decode bytes pc = .ok (.lload i, 2)) (hp : pc + 2 = pc') (hl : Ls[i]? = some (.val (.long u))) (k : own_W l Z y bytes ml ret R n0 Q h cells slots pc' Ls (.long u :: st)) : own_W l Z y bytes ml ret R n0 Q h cells slots pc Ls (st) :=
  own_pure (fun p e below T t m c hA hx hb hr => by subst hp; exact XT.lload hA hx rfl (hb ▸ hd) hl hr) k
theorem own_aloadN {i : Fin 4} {u : Addr} (hd : decode bytes pc = .ok (.aload_n i, 1)) (hp : pc + 1 = pc') (hl : Ls[i.val]? = some (.val (.ref u))) (k : own_W l Z y bytes ml ret R n0 Q h cells slots pc' Ls (.ref u :: st)) : own_W l Z y bytes ml ret R n0 Q h cells slots pc Ls (st) :=
  own_pure (fun p e below T t m c hA hx hb hr => by subst hp; exact XS.aloadN hA hx rfl (hb ▸ hd) hl rfl hr) k
theorem own_aload {i : Nat} {u : Addr} (hd : decode bytes pc = .ok (.aload i, 2)) (hp : pc + 2 = pc') (hl : Ls[i]? = some (.val (.ref u))) (k : own_W l Z y bytes ml ret R n0 Q h cells slots pc' Ls (.ref u :: st)) : own_W l Z y bytes ml ret R n0 Q h cells slots pc Ls (st) :=
  own_pure (fun p e below T t m c hA hx hb hr => by subst hp; exact XS.aload hA hx rfl (hb ▸ hd) hl rfl hr) k
theorem own_istoreN {i : Fin 4} {u : Int32} (hd : decode bytes pc = .ok (.istore_n i, 1)) (hp : pc + 1 = pc') (hl : storeLocals Ls i.val (.int u) = some Ls') (k : own_W l Z y bytes ml ret R n0 Q h cells slots pc' Ls' (st)) : own_W l Z y bytes ml ret R n0 Q h cells slots pc Ls (.int u :: st) :=
  own_pure (fun p e below T t m c hA hx hb hr => by subst hp; exact XS.istoreN hA hx rfl (hb ▸ hd) rfl hl hr) k
theorem own_istore {i : Nat} {u : Int32} (hd : decode bytes pc = .ok (.istore i, 2)) (hp : pc + 2 = pc') (hl : storeLocals Ls i (.int u) = some Ls') (k : own_W l Z y bytes ml ret R n0 Q h cells slots pc' Ls' (st)) : own_W l Z y bytes ml ret R n0 Q h cells slots pc Ls (.int u :: st) :=
  own_pure (fun p e below T t m c hA hx hb hr => by subst hp; exact XS.istore hA hx rfl (hb ▸ hd) rfl hl hr) k
theorem own_lstoreN {i : Fin 4} {u : Int64} (hd : decode bytes pc = .ok (.lstore_n i, 1)) (hp : pc + 1 = pc') (hl : storeLocals Ls i.val (.long u) = some Ls') (k : own_W l Z y bytes ml ret R n0 Q h cells slots pc' Ls' (st)) : own_W l Z y bytes ml ret R n0 Q h cells slots pc Ls (.long u :: st) :=
  own_pure (fun p e below T t m c hA hx hb hr => by subst hp; exact XT.lstoreN hA hx rfl (hb ▸ hd) rfl hl hr) k
theorem own_lstore {i : Nat} {u : Int64} (hd : decode bytes pc = .ok (.lstore i, 2)) (hp : pc + 2 = pc') (hl : storeLocals Ls i (.long u) = some Ls') (k : own_W l Z y bytes ml ret R n0 Q h cells slots pc' Ls' (st)) : own_W l Z y bytes ml ret R n0 Q h cells slots pc Ls (.long u :: st) :=
  own_pure (fun p e below T t m c hA hx hb hr => by subst hp; exact XT.lstore hA hx rfl (hb ▸ hd) rfl hl hr) k
theorem own_astoreN {i : Fin 4} {u : Addr} (hd : decode bytes pc = .ok (.astore_n i, 1)) (hp : pc + 1 = pc') (hl : storeLocals Ls i.val (.ref u) = some Ls') (k : own_W l Z y bytes ml ret R n0 Q h cells slots pc' Ls' (st)) : own_W l Z y bytes ml ret R n0 Q h cells slots pc Ls (.ref u :: st) :=
  own_pure (fun p e below T t m c hA hx hb hr => by subst hp; exact XS.astoreN hA hx rfl (hb ▸ hd) rfl rfl hl hr) k
theorem own_astore {i : Nat} {u : Addr} (hd : decode bytes pc = .ok (.astore i, 2)) (hp : pc + 2 = pc') (hl : storeLocals Ls i (.ref u) = some Ls') (k : own_W l Z y bytes ml ret R n0 Q h cells slots pc' Ls' (st)) : own_W l Z y bytes ml ret R n0 Q h cells slots pc Ls (.ref u :: st) :=
  own_pure (fun p e below T t m c hA hx hb hr => by subst hp; exact XS.astore hA hx rfl (hb ▸ hd) rfl rfl hl hr) k
theorem own_iinc {i : Nat} {cst : Int} {u w : Int32} (hd : decode bytes pc = .ok (.iinc i cst, 3)) (hp : pc + 3 = pc') (hv : Int32.ofInt cst = w) (hl : Ls[i]? = some (.val (.int u))) (hl' : storeLocals Ls i (.int (u + w)) = some Ls') (k : own_W l Z y bytes ml ret R n0 Q h cells slots pc' Ls' st) : own_W l Z y bytes ml ret R n0 Q h cells slots pc Ls st :=
  own_pure (fun p e below T t m c hA hx hb hr => by subst hp; exact XT.iincV hA hx rfl w (hb ▸ hd) hv hl hl' hr) k
theorem own_iconst {i : Int} (u : Int32) (hd : decode bytes pc = .ok (.iconst i, 1)) (hp : pc + 1 = pc') (hv : Int32.ofInt i = u) (k : own_W l Z y bytes ml ret R n0 Q h cells slots pc' Ls (.int u :: st)) : own_W l Z y bytes ml ret R n0 Q h cells slots pc Ls st :=
  own_pure (fun p e below T t m c hA hx hb hr => by subst hp; exact XT.iconstV hA hx rfl u (hb ▸ hd) hv hr) k
theorem own_bipush {i : Int} (u : Int32) (hd : decode bytes pc = .ok (.bipush i, 2)) (hp : pc + 2 = pc') (hv : (Int8.ofInt i).toInt32 = u) (k : own_W l Z y bytes ml ret R n0 Q h cells slots pc' Ls (.int u :: st)) : own_W l Z y bytes ml ret R n0 Q h cells slots pc Ls st :=
  own_pure (fun p e below T t m c hA hx hb hr => by subst hp; exact XT.bipushV hA hx rfl u (hb ▸ hd) hv hr) k
theorem own_sipush {i : Int} (u : Int32) (hd : decode bytes pc = .ok (.sipush i, 3)) (hp : pc + 3 = pc') (hv : (Int16.ofInt i).toInt32 = u) (k : own_W l Z y bytes ml ret R n0 Q h cells slots pc' Ls (.int u :: st)) : own_W l Z y bytes ml ret R n0 Q h cells slots pc Ls st :=
  own_pure (fun p e below T t m c hA hx hb hr => by subst hp; exact XT.sipushV hA hx rfl u (hb ▸ hd) hv hr) k
theorem own_lconst {i : Fin 2} (u : Int64) (hd : decode bytes pc = .ok (.lconst i, 1)) (hp : pc + 1 = pc') (hv : Int64.ofNat i = u) (k : own_W l Z y bytes ml ret R n0 Q h cells slots pc' Ls (.long u :: st)) : own_W l Z y bytes ml ret R n0 Q h cells slots pc Ls st :=
  own_pure (fun p e below T t m c hA hx hb hr => by subst hp; exact XT.lconstV hA hx rfl u (hb ▸ hd) hv hr) k
theorem own_aconstNull (hd : decode bytes pc = .ok (.aconst_null, 1)) (hp : pc + 1 = pc') (k : own_W l Z y bytes ml ret R n0 Q h cells slots pc' Ls (.null :: st)) : own_W l Z y bytes ml ret R n0 Q h cells slots pc Ls (st) :=
  own_pure (fun p e below T t m c hA hx hb hr => by subst hp; exact XS.aconstNull hA hx rfl (hb ▸ hd)  hr) k
theorem own_iadd {u w : Int32} (hd : decode bytes pc = .ok (.iadd, 1)) (hp : pc + 1 = pc') (k : own_W l Z y bytes ml ret R n0 Q h cells slots pc' Ls (.int (u + w) :: st)) : own_W l Z y bytes ml ret R n0 Q h cells slots pc Ls (.int w :: .int u :: st) :=
  own_pure (fun p e below T t m c hA hx hb hr => by subst hp; exact XS.iadd hA hx rfl (hb ▸ hd) rfl hr) k
theorem own_isub {u w : Int32} (hd : decode bytes pc = .ok (.isub, 1)) (hp : pc + 1 = pc') (k : own_W l Z y bytes ml ret R n0 Q h cells slots pc' Ls (.int (u - w) :: st)) : own_W l Z y bytes ml ret R n0 Q h cells slots pc Ls (.int w :: .int u :: st) :=
  own_pure (fun p e below T t m c hA hx hb hr => by subst hp; exact XS.isub hA hx rfl (hb ▸ hd) rfl hr) k
theorem own_imul {u w : Int32} (hd : decode bytes pc = .ok (.imul, 1)) (hp : pc + 1 = pc') (k : own_W l Z y bytes ml ret R n0 Q h cells slots pc' Ls (.int (u * w) :: st)) : own_W l Z y bytes ml ret R n0 Q h cells slots pc Ls (.int w :: .int u :: st) :=
  own_pure (fun p e below T t m c hA hx hb hr => by subst hp; exact XS.imul hA hx rfl (hb ▸ hd) rfl hr) k
theorem own_iand {u w : Int32} (hd : decode bytes pc = .ok (.iand, 1)) (hp : pc + 1 = pc') (k : own_W l Z y bytes ml ret R n0 Q h cells slots pc' Ls (.int (u &&& w) :: st)) : own_W l Z y bytes ml ret R n0 Q h cells slots pc Ls (.int w :: .int u :: st) :=
  own_pure (fun p e below T t m c hA hx hb hr => by subst hp; exact XS.iand hA hx rfl (hb ▸ hd) rfl hr) k
theorem own_ior {u w : Int32} (hd : decode bytes pc = .ok (.ior, 1)) (hp : pc + 1 = pc') (k : own_W l Z y bytes ml ret R n0 Q h cells slots pc' Ls (.int (u ||| w) :: st)) : own_W l Z y bytes ml ret R n0 Q h cells slots pc Ls (.int w :: .int u :: st) :=
  own_pure (fun p e below T t m c hA hx hb hr => by subst hp; exact XT.ior hA hx rfl (hb ▸ hd) rfl hr) k
theorem own_ixor {u w : Int32} (hd : decode bytes pc = .ok (.ixor, 1)) (hp : pc + 1 = pc') (k : own_W l Z y bytes ml ret R n0 Q h cells slots pc' Ls (.int (u ^^^ w) :: st)) : own_W l Z y bytes ml ret R n0 Q h cells slots pc Ls (.int w :: .int u :: st) :=
  own_pure (fun p e below T t m c hA hx hb hr => by subst hp; exact XT.ixor hA hx rfl (hb ▸ hd) rfl hr) k
theorem own_ishl {u w : Int32} (hd : decode bytes pc = .ok (.ishl, 1)) (hp : pc + 1 = pc') (k : own_W l Z y bytes ml ret R n0 Q h cells slots pc' Ls (.int (u <<< (w &&& 31)) :: st)) : own_W l Z y bytes ml ret R n0 Q h cells slots pc Ls (.int w :: .int u :: st) :=
  own_pure (fun p e below T t m c hA hx hb hr => by subst hp; exact XT.ishl hA hx rfl (hb ▸ hd) rfl hr) k
theorem own_ishr {u w : Int32} (hd : decode bytes pc = .ok (.ishr, 1)) (hp : pc + 1 = pc') (k : own_W l Z y bytes ml ret R n0 Q h cells slots pc' Ls (.int (u >>> (w &&& 31)) :: st)) : own_W l Z y bytes ml ret R n0 Q h cells slots pc Ls (.int w :: .int u :: st) :=
  own_pure (fun p e below T t m c hA hx hb hr => by subst hp; exact XT.ishr hA hx rfl (hb ▸ hd) rfl hr) k
theorem own_iushr {u w : Int32} (hd : decode bytes pc = .ok (.iushr, 1)) (hp : pc + 1 = pc') (k : own_W l Z y bytes ml ret R n0 Q h cells slots pc' Ls (.int (XT.ushr u w) :: st)) : own_W l Z y bytes ml ret R n0 Q h cells slots pc Ls (.int w :: .int u :: st) :=
  own_pure (fun p e below T t m c hA hx hb hr => by subst hp; exact XT.iushr hA hx rfl (hb ▸ hd) rfl hr) k
theorem own_idiv {u w : Int32} (hd : decode bytes pc = .ok (.idiv, 1)) (hp : pc + 1 = pc') (hw : w ≠ 0) (k : own_W l Z y bytes ml ret R n0 Q h cells slots pc' Ls (.int (u / w) :: st)) : own_W l Z y bytes ml ret R n0 Q h cells slots pc Ls (.int w :: .int u :: st) :=
  own_pure (fun p e below T t m c hA hx hb hr => by subst hp; exact XS.idiv hA hx rfl (hb ▸ hd) rfl hw hr) k
theorem own_irem {u w : Int32} (hd : decode bytes pc = .ok (.irem, 1)) (hp : pc + 1 = pc') (hw : w ≠ 0) (k : own_W l Z y bytes ml ret R n0 Q h cells slots pc' Ls (.int (u % w) :: st)) : own_W l Z y bytes ml ret R n0 Q h cells slots pc Ls (.int w :: .int u :: st) :=
  own_pure (fun p e below T t m c hA hx hb hr => by subst hp; exact XS.irem hA hx rfl (hb ▸ hd) rfl hw (by rw [irem_eq_mod u w]; exact hr)) k
theorem own_ineg {u : Int32} (hd : decode bytes pc = .ok (.ineg, 1)) (hp : pc + 1 = pc') (k : own_W l Z y bytes ml ret R n0 Q h cells slots pc' Ls (.int (-u) :: st)) : own_W l Z y bytes ml ret R n0 Q h cells slots pc Ls (.int u :: st) :=
  own_pure (fun p e below T t m c hA hx hb hr => by subst hp; exact XS.ineg hA hx rfl (hb ▸ hd) rfl hr) k
theorem own_ladd {u w : Int64} (hd : decode bytes pc = .ok (.ladd, 1)) (hp : pc + 1 = pc') (k : own_W l Z y bytes ml ret R n0 Q h cells slots pc' Ls (.long (u + w) :: st)) : own_W l Z y bytes ml ret R n0 Q h cells slots pc Ls (.long w :: .long u :: st) :=
  own_pure (fun p e below T t m c hA hx hb hr => by subst hp; exact XT.ladd hA hx rfl (hb ▸ hd) rfl hr) k
theorem own_lsub {u w : Int64} (hd : decode bytes pc = .ok (.lsub, 1)) (hp : pc + 1 = pc') (k : own_W l Z y bytes ml ret R n0 Q h cells slots pc' Ls (.long (u - w) :: st)) : own_W l Z y bytes ml ret R n0 Q h cells slots pc Ls (.long w :: .long u :: st) :=
  own_pure (fun p e below T t m c hA hx hb hr => by subst hp; exact XT.lsub hA hx rfl (hb ▸ hd) rfl hr) k
theorem own_lmul {u w : Int64} (hd : decode bytes pc = .ok (.lmul, 1)) (hp : pc + 1 = pc') (k : own_W l Z y bytes ml ret R n0 Q h cells slots pc' Ls (.long (u * w) :: st)) : own_W l Z y bytes ml ret R n0 Q h cells slots pc Ls (.long w :: .long u :: st) :=
  own_pure (fun p e below T t m c hA hx hb hr => by subst hp; exact XT.lmul hA hx rfl (hb ▸ hd) rfl hr) k
theorem own_land {u w : Int64} (hd : decode bytes pc = .ok (.land, 1)) (hp : pc + 1 = pc') (k : own_W l Z y bytes ml ret R n0 Q h cells slots pc' Ls (.long (u &&& w) :: st)) : own_W l Z y bytes ml ret R n0 Q h cells slots pc Ls (.long w :: .long u :: st) :=
  own_pure (fun p e below T t m c hA hx hb hr => by subst hp; exact XT.land hA hx rfl (hb ▸ hd) rfl hr) k
theorem own_lor {u w : Int64} (hd : decode bytes pc = .ok (.lor, 1)) (hp : pc + 1 = pc') (k : own_W l Z y bytes ml ret R n0 Q h cells slots pc' Ls (.long (u ||| w) :: st)) : own_W l Z y bytes ml ret R n0 Q h cells slots pc Ls (.long w :: .long u :: st) :=
  own_pure (fun p e below T t m c hA hx hb hr => by subst hp; exact XT.lor hA hx rfl (hb ▸ hd) rfl hr) k
theorem own_lxor {u w : Int64} (hd : decode bytes pc = .ok (.lxor, 1)) (hp : pc + 1 = pc') (k : own_W l Z y bytes ml ret R n0 Q h cells slots pc' Ls (.long (u ^^^ w) :: st)) : own_W l Z y bytes ml ret R n0 Q h cells slots pc Ls (.long w :: .long u :: st) :=
  own_pure (fun p e below T t m c hA hx hb hr => by subst hp; exact XT.lxor hA hx rfl (hb ▸ hd) rfl hr) k
theorem own_lrem {u w : Int64} (hd : decode bytes pc = .ok (.lrem, 1)) (hp : pc + 1 = pc') (hw : w ≠ 0) (k : own_W l Z y bytes ml ret R n0 Q h cells slots pc' Ls (.long (u % w) :: st)) : own_W l Z y bytes ml ret R n0 Q h cells slots pc Ls (.long w :: .long u :: st) :=
  own_pure (fun p e below T t m c hA hx hb hr => by subst hp; exact XT.lrem hA hx rfl (hb ▸ hd) rfl hw (by rw [lrem_mod u w]; exact hr)) k
theorem own_lshl {u : Int64} {w : Int32} (hd : decode bytes pc = .ok (.lshl, 1)) (hp : pc + 1 = pc') (k : own_W l Z y bytes ml ret R n0 Q h cells slots pc' Ls (.long (u <<< (w.toInt64 &&& 63)) :: st)) : own_W l Z y bytes ml ret R n0 Q h cells slots pc Ls (.int w :: .long u :: st) :=
  own_pure (fun p e below T t m c hA hx hb hr => by subst hp; exact XT.lshl hA hx rfl (hb ▸ hd) rfl hr) k
theorem own_lshr {u : Int64} {w : Int32} (hd : decode bytes pc = .ok (.lshr, 1)) (hp : pc + 1 = pc') (k : own_W l Z y bytes ml ret R n0 Q h cells slots pc' Ls (.long (u >>> (w.toInt64 &&& 63)) :: st)) : own_W l Z y bytes ml ret R n0 Q h cells slots pc Ls (.int w :: .long u :: st) :=
  own_pure (fun p e below T t m c hA hx hb hr => by subst hp; exact XT.lshr hA hx rfl (hb ▸ hd) rfl hr) k
theorem own_lushr {u : Int64} {w : Int32} (hd : decode bytes pc = .ok (.lushr, 1)) (hp : pc + 1 = pc') (k : own_W l Z y bytes ml ret R n0 Q h cells slots pc' Ls (.long (XT.ushrL u w) :: st)) : own_W l Z y bytes ml ret R n0 Q h cells slots pc Ls (.int w :: .long u :: st) :=
  own_pure (fun p e below T t m c hA hx hb hr => by subst hp; exact XT.lushr hA hx rfl (hb ▸ hd) rfl hr) k
theorem own_i2l {u : Int32} (hd : decode bytes pc = .ok (.i2l, 1)) (hp : pc + 1 = pc') (k : own_W l Z y bytes ml ret R n0 Q h cells slots pc' Ls (.long u.toInt64 :: st)) : own_W l Z y bytes ml ret R n0 Q h cells slots pc Ls (.int u :: st) :=
  own_pure (fun p e below T t m c hA hx hb hr => by subst hp; exact XT.i2l hA hx rfl (hb ▸ hd) rfl hr) k
theorem own_l2i {u : Int64} (hd : decode bytes pc = .ok (.l2i, 1)) (hp : pc + 1 = pc') (k : own_W l Z y bytes ml ret R n0 Q h cells slots pc' Ls (.int u.toInt32 :: st)) : own_W l Z y bytes ml ret R n0 Q h cells slots pc Ls (.long u :: st) :=
  own_pure (fun p e below T t m c hA hx hb hr => by subst hp; exact XT.l2i hA hx rfl (hb ▸ hd) rfl hr) k
theorem own_i2b {u : Int32} (hd : decode bytes pc = .ok (.i2b, 1)) (hp : pc + 1 = pc') (k : own_W l Z y bytes ml ret R n0 Q h cells slots pc' Ls (.int u.toInt8.toInt32 :: st)) : own_W l Z y bytes ml ret R n0 Q h cells slots pc Ls (.int u :: st) :=
  own_pure (fun p e below T t m c hA hx hb hr => by subst hp; exact XT.i2b hA hx rfl (hb ▸ hd) rfl hr) k
theorem own_i2c {u : Int32} (hd : decode bytes pc = .ok (.i2c, 1)) (hp : pc + 1 = pc') (k : own_W l Z y bytes ml ret R n0 Q h cells slots pc' Ls (.int u.toUInt32.toUInt16.toUInt32.toInt32 :: st)) : own_W l Z y bytes ml ret R n0 Q h cells slots pc Ls (.int u :: st) :=
  own_pure (fun p e below T t m c hA hx hb hr => by subst hp; exact XT.i2c hA hx rfl (hb ▸ hd) rfl hr) k
theorem own_lcmp {u w : Int64} (hd : decode bytes pc = .ok (.lcmp, 1)) (hp : pc + 1 = pc') (k : own_W l Z y bytes ml ret R n0 Q h cells slots pc' Ls (.int (XT.cmpL u w) :: st)) : own_W l Z y bytes ml ret R n0 Q h cells slots pc Ls (.long w :: .long u :: st) :=
  own_pure (fun p e below T t m c hA hx hb hr => by subst hp; exact XT.lcmp hA hx rfl (hb ▸ hd) rfl hr) k
theorem own_dup {u : Value} (hd : decode bytes pc = .ok (.dup, 1)) (hp : pc + 1 = pc') (hc : u.category = 1) (k : own_W l Z y bytes ml ret R n0 Q h cells slots pc' Ls (u :: u :: st)) : own_W l Z y bytes ml ret R n0 Q h cells slots pc Ls (u :: st) :=
  own_pure (fun p e below T t m c hA hx hb hr => by subst hp; exact XS.dup hA hx rfl (hb ▸ hd) rfl hc hr) k
theorem own_pop {u : Value} (hd : decode bytes pc = .ok (.pop, 1)) (hp : pc + 1 = pc') (hc : u.category = 1) (k : own_W l Z y bytes ml ret R n0 Q h cells slots pc' Ls (st)) : own_W l Z y bytes ml ret R n0 Q h cells slots pc Ls (u :: st) :=
  own_pure (fun p e below T t m c hA hx hb hr => by subst hp; exact XT.pop hA hx rfl (hb ▸ hd) rfl hc hr) k
theorem own_dupX1 {u w : Value} (hd : decode bytes pc = .ok (.dup_x1, 1)) (hp : pc + 1 = pc') (hc : u.category = 1) (hc' : w.category = 1) (k : own_W l Z y bytes ml ret R n0 Q h cells slots pc' Ls (u :: w :: u :: st)) : own_W l Z y bytes ml ret R n0 Q h cells slots pc Ls (u :: w :: st) :=
  own_pure (fun p e below T t m c hA hx hb hr => by subst hp; exact XT.dupX1 hA hx rfl (hb ▸ hd) rfl hc hc' hr) k
theorem own_dup2 {u w : Value} (hd : decode bytes pc = .ok (.dup2, 1)) (hp : pc + 1 = pc') (hc : u.category = 1) (hc' : w.category = 1) (k : own_W l Z y bytes ml ret R n0 Q h cells slots pc' Ls (u :: w :: u :: w :: st)) : own_W l Z y bytes ml ret R n0 Q h cells slots pc Ls (u :: w :: st) :=
  own_pure (fun p e below T t m c hA hx hb hr => by subst hp; exact XT.dup2 hA hx rfl (hb ▸ hd) rfl hc hc' hr) k
theorem own_dup2L {u : Int64} (hd : decode bytes pc = .ok (.dup2, 1)) (hp : pc + 1 = pc') (k : own_W l Z y bytes ml ret R n0 Q h cells slots pc' Ls (.long u :: .long u :: st)) : own_W l Z y bytes ml ret R n0 Q h cells slots pc Ls (.long u :: st) :=
  own_pure (fun p e below T t m c hA hx hb hr => by subst hp; exact XT.dup2L hA hx rfl (hb ▸ hd) rfl hr) k
theorem own_pop2step {tb : Tables} [Ours tb] {e : Env} {below : List Frame} {T target : State} {m : MethodId} {c : Code} {g : JFrame} (h : At T m c below) (hx : tb.exec = Jvm.exec) (hg : g.method = m) {u : Int64} {rest : List Value} (hd : decode c.code g.pc = .ok (.pop2, 1)) (hs : g.stack = .long u :: rest)
    (hr : Steps tb e below (T.setTop { g with pc := g.pc + 1, stack := rest }) target) : Steps tb e below (T.setTop g) target := by
  subst hg
  jvm_step h [h.top, hx, hd, hs, pop2.wp_sem, Value.category]
  exact hr
theorem own_pop2L {u : Int64} (hd : decode bytes pc = .ok (.pop2, 1)) (hp : pc + 1 = pc') (k : own_W l Z y bytes ml ret R n0 Q h cells slots pc' Ls (st)) : own_W l Z y bytes ml ret R n0 Q h cells slots pc Ls (.long u :: st) :=
  own_pure (fun p e below T t m c hA hx hb hr => by subst hp; exact own_pop2step hA hx rfl (hb ▸ hd) rfl hr) k
theorem own_dupX2step {tb : Tables} [Ours tb] {e : Env} {below : List Frame} {T target : State} {m : MethodId} {c : Code} {g : JFrame} (h : At T m c below) (hx : tb.exec = Jvm.exec) (hg : g.method = m) {x y z : Value} {rest : List Value} (hd : decode c.code g.pc = .ok (.dup_x2, 1)) (hs : g.stack = x :: y :: z :: rest) (hc : x.category = 1) (hc' : y.category = 1) (hc'' : z.category = 1)
    (hr : Steps tb e below (T.setTop { g with pc := g.pc + 1, stack := x :: y :: z :: x :: rest }) target) : Steps tb e below (T.setTop g) target := by
  subst hg
  jvm_step h [h.top, hx, hd, hs, dup_x2.wp_sem, hc, hc', hc'']
  exact hr
theorem own_dupX2 {u w x : Value} (hd : decode bytes pc = .ok (.dup_x2, 1)) (hp : pc + 1 = pc') (hc : u.category = 1) (hc' : w.category = 1) (hc'' : x.category = 1) (k : own_W l Z y bytes ml ret R n0 Q h cells slots pc' Ls (u :: w :: x :: u :: st)) : own_W l Z y bytes ml ret R n0 Q h cells slots pc Ls (u :: w :: x :: st) :=
  own_pure (fun p e below T t m c hA hx hb hr => by subst hp; exact own_dupX2step hA hx rfl (hb ▸ hd) rfl hc hc' hc'' hr) k
theorem own_goto {o : Int} (hd : decode bytes pc = .ok (.goto o, 3)) (ho : 0 ≤ (pc : Int) + o) (hp : ((pc : Int) + o).toNat = pc') (k : own_W l Z y bytes ml ret R n0 Q h cells slots pc' Ls st) : own_W l Z y bytes ml ret R n0 Q h cells slots pc Ls st :=
  own_pure (fun p e below T t m c hA hx hb hr => XS.goto hA hx rfl rfl (hb ▸ hd) ho hp hr) k
theorem own_if_eq_t {u : Int32} {o : Int} (hd : decode bytes pc = .ok (.ifCond .eq o, 3)) (hc : u = 0) (ho : 0 ≤ (pc : Int) + o) (hp : ((pc : Int) + o).toNat = pc') (k : own_W l Z y bytes ml ret R n0 Q h cells slots pc' Ls st) : own_W l Z y bytes ml ret R n0 Q h cells slots pc Ls (.int u :: st) :=
  own_pure (fun p e below T t m c hA hx hb hr => XS.ifYes hA hx rfl rfl (hb ▸ hd) rfl (XT.i0_eq_t hc) ho hp hr) k
theorem own_if_eq_f {u : Int32} {o : Int} (hd : decode bytes pc = .ok (.ifCond .eq o, 3)) (hc : ¬ u = 0) (hp : pc + 3 = pc') (k : own_W l Z y bytes ml ret R n0 Q h cells slots pc' Ls st) : own_W l Z y bytes ml ret R n0 Q h cells slots pc Ls (.int u :: st) :=
  own_pure (fun p e below T t m c hA hx hb hr => by subst hp; exact XS.ifNo hA hx rfl (hb ▸ hd) rfl (XT.i0_eq_f hc) hr) k
theorem own_if_eq {u : Int32} {o : Int} {pf : Nat} (hd : decode bytes pc = .ok (.ifCond .eq o, 3)) (ho : 0 ≤ (pc : Int) + o) (hp : ((pc : Int) + o).toNat = pc') (hq : pc + 3 = pf) (kt : u = 0 → own_W l Z y bytes ml ret R n0 Q h cells slots pc' Ls st) (kf : ¬ u = 0 → own_W l Z y bytes ml ret R n0 Q h cells slots pf Ls st) : own_W l Z y bytes ml ret R n0 Q h cells slots pc Ls (.int u :: st) := by
  by_cases hc : u = 0
  · exact own_if_eq_t hd hc ho hp (kt hc)
  · exact own_if_eq_f hd (by first | exact hc | exact Decidable.not_not.mp hc) hq (kf (by first | exact hc | exact Decidable.not_not.mp hc))
theorem own_ic_eq_t {u w : Int32} {o : Int} (hd : decode bytes pc = .ok (.if_icmp .eq o, 3)) (hc : u = w) (ho : 0 ≤ (pc : Int) + o) (hp : ((pc : Int) + o).toNat = pc') (k : own_W l Z y bytes ml ret R n0 Q h cells slots pc' Ls st) : own_W l Z y bytes ml ret R n0 Q h cells slots pc Ls (.int w :: .int u :: st) :=
  own_pure (fun p e below T t m c hA hx hb hr => XS.icmpYes hA hx rfl rfl (hb ▸ hd) rfl (XT.ii_eq_t hc) ho hp hr) k
theorem own_ic_eq_f {u w : Int32} {o : Int} (hd : decode bytes pc = .ok (.if_icmp .eq o, 3)) (hc : ¬ u = w) (hp : pc + 3 = pc') (k : own_W l Z y bytes ml ret R n0 Q h cells slots pc' Ls st) : own_W l Z y bytes ml ret R n0 Q h cells slots pc Ls (.int w :: .int u :: st) :=
  own_pure (fun p e below T t m c hA hx hb hr => by subst hp; exact XS.icmpNo hA hx rfl (hb ▸ hd) rfl (XT.ii_eq_f hc) hr) k
theorem own_ic_eq {u w : Int32} {o : Int} {pf : Nat} (hd : decode bytes pc = .ok (.if_icmp .eq o, 3)) (ho : 0 ≤ (pc : Int) + o) (hp : ((pc : Int) + o).toNat = pc') (hq : pc + 3 = pf) (kt : u = w → own_W l Z y bytes ml ret R n0 Q h cells slots pc' Ls st) (kf : ¬ u = w → own_W l Z y bytes ml ret R n0 Q h cells slots pf Ls st) : own_W l Z y bytes ml ret R n0 Q h cells slots pc Ls (.int w :: .int u :: st) := by
  by_cases hc : u = w
  · exact own_ic_eq_t hd hc ho hp (kt hc)
  · exact own_ic_eq_f hd (by first | exact hc | exact Decidable.not_not.mp hc) hq (kf (by first | exact hc | exact Decidable.not_not.mp hc))
theorem own_il_eq_t {u w : Int64} {o : Int} (hd : decode bytes pc = .ok (.ifCond .eq o, 3)) (hc : u = w) (ho : 0 ≤ (pc : Int) + o) (hp : ((pc : Int) + o).toNat = pc') (k : own_W l Z y bytes ml ret R n0 Q h cells slots pc' Ls st) : own_W l Z y bytes ml ret R n0 Q h cells slots pc Ls (.int (XT.cmpL u w) :: st) :=
  own_pure (fun p e below T t m c hA hx hb hr => XS.ifYes hA hx rfl rfl (hb ▸ hd) rfl (XT.ll_eq_t hc) ho hp hr) k
theorem own_il_eq_f {u w : Int64} {o : Int} (hd : decode bytes pc = .ok (.ifCond .eq o, 3)) (hc : ¬ u = w) (hp : pc + 3 = pc') (k : own_W l Z y bytes ml ret R n0 Q h cells slots pc' Ls st) : own_W l Z y bytes ml ret R n0 Q h cells slots pc Ls (.int (XT.cmpL u w) :: st) :=
  own_pure (fun p e below T t m c hA hx hb hr => by subst hp; exact XS.ifNo hA hx rfl (hb ▸ hd) rfl (XT.ll_eq_f hc) hr) k
theorem own_il_eq {u w : Int64} {o : Int} {pf : Nat} (hd : decode bytes pc = .ok (.ifCond .eq o, 3)) (ho : 0 ≤ (pc : Int) + o) (hp : ((pc : Int) + o).toNat = pc') (hq : pc + 3 = pf) (kt : u = w → own_W l Z y bytes ml ret R n0 Q h cells slots pc' Ls st) (kf : ¬ u = w → own_W l Z y bytes ml ret R n0 Q h cells slots pf Ls st) : own_W l Z y bytes ml ret R n0 Q h cells slots pc Ls (.int (XT.cmpL u w) :: st) := by
  by_cases hc : u = w
  · exact own_il_eq_t hd hc ho hp (kt hc)
  · exact own_il_eq_f hd (by first | exact hc | exact Decidable.not_not.mp hc) hq (kf (by first | exact hc | exact Decidable.not_not.mp hc))
theorem own_if_ne_t {u : Int32} {o : Int} (hd : decode bytes pc = .ok (.ifCond .ne o, 3)) (hc : ¬ u = 0) (ho : 0 ≤ (pc : Int) + o) (hp : ((pc : Int) + o).toNat = pc') (k : own_W l Z y bytes ml ret R n0 Q h cells slots pc' Ls st) : own_W l Z y bytes ml ret R n0 Q h cells slots pc Ls (.int u :: st) :=
  own_pure (fun p e below T t m c hA hx hb hr => XS.ifYes hA hx rfl rfl (hb ▸ hd) rfl (XT.i0_ne_t hc) ho hp hr) k
theorem own_if_ne_f {u : Int32} {o : Int} (hd : decode bytes pc = .ok (.ifCond .ne o, 3)) (hc : u = 0) (hp : pc + 3 = pc') (k : own_W l Z y bytes ml ret R n0 Q h cells slots pc' Ls st) : own_W l Z y bytes ml ret R n0 Q h cells slots pc Ls (.int u :: st) :=
  own_pure (fun p e below T t m c hA hx hb hr => by subst hp; exact XS.ifNo hA hx rfl (hb ▸ hd) rfl (XT.i0_ne_f hc) hr) k
theorem own_if_ne {u : Int32} {o : Int} {pf : Nat} (hd : decode bytes pc = .ok (.ifCond .ne o, 3)) (ho : 0 ≤ (pc : Int) + o) (hp : ((pc : Int) + o).toNat = pc') (hq : pc + 3 = pf) (kt : ¬ u = 0 → own_W l Z y bytes ml ret R n0 Q h cells slots pc' Ls st) (kf : u = 0 → own_W l Z y bytes ml ret R n0 Q h cells slots pf Ls st) : own_W l Z y bytes ml ret R n0 Q h cells slots pc Ls (.int u :: st) := by
  by_cases hc : ¬ u = 0
  · exact own_if_ne_t hd hc ho hp (kt hc)
  · exact own_if_ne_f hd (by first | exact hc | exact Decidable.not_not.mp hc) hq (kf (by first | exact hc | exact Decidable.not_not.mp hc))
theorem own_ic_ne_t {u w : Int32} {o : Int} (hd : decode bytes pc = .ok (.if_icmp .ne o, 3)) (hc : ¬ u = w) (ho : 0 ≤ (pc : Int) + o) (hp : ((pc : Int) + o).toNat = pc') (k : own_W l Z y bytes ml ret R n0 Q h cells slots pc' Ls st) : own_W l Z y bytes ml ret R n0 Q h cells slots pc Ls (.int w :: .int u :: st) :=
  own_pure (fun p e below T t m c hA hx hb hr => XS.icmpYes hA hx rfl rfl (hb ▸ hd) rfl (XT.ii_ne_t hc) ho hp hr) k
theorem own_ic_ne_f {u w : Int32} {o : Int} (hd : decode bytes pc = .ok (.if_icmp .ne o, 3)) (hc : u = w) (hp : pc + 3 = pc') (k : own_W l Z y bytes ml ret R n0 Q h cells slots pc' Ls st) : own_W l Z y bytes ml ret R n0 Q h cells slots pc Ls (.int w :: .int u :: st) :=
  own_pure (fun p e below T t m c hA hx hb hr => by subst hp; exact XS.icmpNo hA hx rfl (hb ▸ hd) rfl (XT.ii_ne_f hc) hr) k
theorem own_ic_ne {u w : Int32} {o : Int} {pf : Nat} (hd : decode bytes pc = .ok (.if_icmp .ne o, 3)) (ho : 0 ≤ (pc : Int) + o) (hp : ((pc : Int) + o).toNat = pc') (hq : pc + 3 = pf) (kt : ¬ u = w → own_W l Z y bytes ml ret R n0 Q h cells slots pc' Ls st) (kf : u = w → own_W l Z y bytes ml ret R n0 Q h cells slots pf Ls st) : own_W l Z y bytes ml ret R n0 Q h cells slots pc Ls (.int w :: .int u :: st) := by
  by_cases hc : ¬ u = w
  · exact own_ic_ne_t hd hc ho hp (kt hc)
  · exact own_ic_ne_f hd (by first | exact hc | exact Decidable.not_not.mp hc) hq (kf (by first | exact hc | exact Decidable.not_not.mp hc))
theorem own_il_ne_t {u w : Int64} {o : Int} (hd : decode bytes pc = .ok (.ifCond .ne o, 3)) (hc : ¬ u = w) (ho : 0 ≤ (pc : Int) + o) (hp : ((pc : Int) + o).toNat = pc') (k : own_W l Z y bytes ml ret R n0 Q h cells slots pc' Ls st) : own_W l Z y bytes ml ret R n0 Q h cells slots pc Ls (.int (XT.cmpL u w) :: st) :=
  own_pure (fun p e below T t m c hA hx hb hr => XS.ifYes hA hx rfl rfl (hb ▸ hd) rfl (XT.ll_ne_t hc) ho hp hr) k
theorem own_il_ne_f {u w : Int64} {o : Int} (hd : decode bytes pc = .ok (.ifCond .ne o, 3)) (hc : u = w) (hp : pc + 3 = pc') (k : own_W l Z y bytes ml ret R n0 Q h cells slots pc' Ls st) : own_W l Z y bytes ml ret R n0 Q h cells slots pc Ls (.int (XT.cmpL u w) :: st) :=
  own_pure (fun p e below T t m c hA hx hb hr => by subst hp; exact XS.ifNo hA hx rfl (hb ▸ hd) rfl (XT.ll_ne_f hc) hr) k
theorem own_il_ne {u w : Int64} {o : Int} {pf : Nat} (hd : decode bytes pc = .ok (.ifCond .ne o, 3)) (ho : 0 ≤ (pc : Int) + o) (hp : ((pc : Int) + o).toNat = pc') (hq : pc + 3 = pf) (kt : ¬ u = w → own_W l Z y bytes ml ret R n0 Q h cells slots pc' Ls st) (kf : u = w → own_W l Z y bytes ml ret R n0 Q h cells slots pf Ls st) : own_W l Z y bytes ml ret R n0 Q h cells slots pc Ls (.int (XT.cmpL u w) :: st) := by
  by_cases hc : ¬ u = w
  · exact own_il_ne_t hd hc ho hp (kt hc)
  · exact own_il_ne_f hd (by first | exact hc | exact Decidable.not_not.mp hc) hq (kf (by first | exact hc | exact Decidable.not_not.mp hc))
theorem own_if_lt_t {u : Int32} {o : Int} (hd : decode bytes pc = .ok (.ifCond .lt o, 3)) (hc : u < 0) (ho : 0 ≤ (pc : Int) + o) (hp : ((pc : Int) + o).toNat = pc') (k : own_W l Z y bytes ml ret R n0 Q h cells slots pc' Ls st) : own_W l Z y bytes ml ret R n0 Q h cells slots pc Ls (.int u :: st) :=
  own_pure (fun p e below T t m c hA hx hb hr => XS.ifYes hA hx rfl rfl (hb ▸ hd) rfl (XT.i0_lt_t hc) ho hp hr) k
theorem own_if_lt_f {u : Int32} {o : Int} (hd : decode bytes pc = .ok (.ifCond .lt o, 3)) (hc : ¬ u < 0) (hp : pc + 3 = pc') (k : own_W l Z y bytes ml ret R n0 Q h cells slots pc' Ls st) : own_W l Z y bytes ml ret R n0 Q h cells slots pc Ls (.int u :: st) :=
  own_pure (fun p e below T t m c hA hx hb hr => by subst hp; exact XS.ifNo hA hx rfl (hb ▸ hd) rfl (XT.i0_lt_f hc) hr) k
theorem own_if_lt {u : Int32} {o : Int} {pf : Nat} (hd : decode bytes pc = .ok (.ifCond .lt o, 3)) (ho : 0 ≤ (pc : Int) + o) (hp : ((pc : Int) + o).toNat = pc') (hq : pc + 3 = pf) (kt : u < 0 → own_W l Z y bytes ml ret R n0 Q h cells slots pc' Ls st) (kf : ¬ u < 0 → own_W l Z y bytes ml ret R n0 Q h cells slots pf Ls st) : own_W l Z y bytes ml ret R n0 Q h cells slots pc Ls (.int u :: st) := by
  by_cases hc : u < 0
  · exact own_if_lt_t hd hc ho hp (kt hc)
  · exact own_if_lt_f hd (by first | exact hc | exact Decidable.not_not.mp hc) hq (kf (by first | exact hc | exact Decidable.not_not.mp hc))
theorem own_ic_lt_t {u w : Int32} {o : Int} (hd : decode bytes pc = .ok (.if_icmp .lt o, 3)) (hc : u < w) (ho : 0 ≤ (pc : Int) + o) (hp : ((pc : Int) + o).toNat = pc') (k : own_W l Z y bytes ml ret R n0 Q h cells slots pc' Ls st) : own_W l Z y bytes ml ret R n0 Q h cells slots pc Ls (.int w :: .int u :: st) :=
  own_pure (fun p e below T t m c hA hx hb hr => XS.icmpYes hA hx rfl rfl (hb ▸ hd) rfl (XT.ii_lt_t hc) ho hp hr) k
theorem own_ic_lt_f {u w : Int32} {o : Int} (hd : decode bytes pc = .ok (.if_icmp .lt o, 3)) (hc : ¬ u < w) (hp : pc + 3 = pc') (k : own_W l Z y bytes ml ret R n0 Q h cells slots pc' Ls st) : own_W l Z y bytes ml ret R n0 Q h cells slots pc Ls (.int w :: .int u :: st) :=
  own_pure (fun p e below T t m c hA hx hb hr => by subst hp; exact XS.icmpNo hA hx rfl (hb ▸ hd) rfl (XT.ii_lt_f hc) hr) k
theorem own_ic_lt {u w : Int32} {o : Int} {pf : Nat} (hd : decode bytes pc = .ok (.if_icmp .lt o, 3)) (ho : 0 ≤ (pc : Int) + o) (hp : ((pc : Int) + o).toNat = pc') (hq : pc + 3 = pf) (kt : u < w → own_W l Z y bytes ml ret R n0 Q h cells slots pc' Ls st) (kf : ¬ u < w → own_W l Z y bytes ml ret R n0 Q h cells slots pf Ls st) : own_W l Z y bytes ml ret R n0 Q h cells slots pc Ls (.int w :: .int u :: st) := by
  by_cases hc : u < w
  · exact own_ic_lt_t hd hc ho hp (kt hc)
  · exact own_ic_lt_f hd (by first | exact hc | exact Decidable.not_not.mp hc) hq (kf (by first | exact hc | exact Decidable.not_not.mp hc))
theorem own_il_lt_t {u w : Int64} {o : Int} (hd : decode bytes pc = .ok (.ifCond .lt o, 3)) (hc : u < w) (ho : 0 ≤ (pc : Int) + o) (hp : ((pc : Int) + o).toNat = pc') (k : own_W l Z y bytes ml ret R n0 Q h cells slots pc' Ls st) : own_W l Z y bytes ml ret R n0 Q h cells slots pc Ls (.int (XT.cmpL u w) :: st) :=
  own_pure (fun p e below T t m c hA hx hb hr => XS.ifYes hA hx rfl rfl (hb ▸ hd) rfl (XT.ll_lt_t hc) ho hp hr) k
theorem own_il_lt_f {u w : Int64} {o : Int} (hd : decode bytes pc = .ok (.ifCond .lt o, 3)) (hc : ¬ u < w) (hp : pc + 3 = pc') (k : own_W l Z y bytes ml ret R n0 Q h cells slots pc' Ls st) : own_W l Z y bytes ml ret R n0 Q h cells slots pc Ls (.int (XT.cmpL u w) :: st) :=
  own_pure (fun p e below T t m c hA hx hb hr => by subst hp; exact XS.ifNo hA hx rfl (hb ▸ hd) rfl (XT.ll_lt_f hc) hr) k
theorem own_il_lt {u w : Int64} {o : Int} {pf : Nat} (hd : decode bytes pc = .ok (.ifCond .lt o, 3)) (ho : 0 ≤ (pc : Int) + o) (hp : ((pc : Int) + o).toNat = pc') (hq : pc + 3 = pf) (kt : u < w → own_W l Z y bytes ml ret R n0 Q h cells slots pc' Ls st) (kf : ¬ u < w → own_W l Z y bytes ml ret R n0 Q h cells slots pf Ls st) : own_W l Z y bytes ml ret R n0 Q h cells slots pc Ls (.int (XT.cmpL u w) :: st) := by
  by_cases hc : u < w
  · exact own_il_lt_t hd hc ho hp (kt hc)
  · exact own_il_lt_f hd (by first | exact hc | exact Decidable.not_not.mp hc) hq (kf (by first | exact hc | exact Decidable.not_not.mp hc))
theorem own_if_ge_t {u : Int32} {o : Int} (hd : decode bytes pc = .ok (.ifCond .ge o, 3)) (hc : ¬ u < 0) (ho : 0 ≤ (pc : Int) + o) (hp : ((pc : Int) + o).toNat = pc') (k : own_W l Z y bytes ml ret R n0 Q h cells slots pc' Ls st) : own_W l Z y bytes ml ret R n0 Q h cells slots pc Ls (.int u :: st) :=
  own_pure (fun p e below T t m c hA hx hb hr => XS.ifYes hA hx rfl rfl (hb ▸ hd) rfl (XT.i0_ge_t hc) ho hp hr) k
theorem own_if_ge_f {u : Int32} {o : Int} (hd : decode bytes pc = .ok (.ifCond .ge o, 3)) (hc : u < 0) (hp : pc + 3 = pc') (k : own_W l Z y bytes ml ret R n0 Q h cells slots pc' Ls st) : own_W l Z y bytes ml ret R n0 Q h cells slots pc Ls (.int u :: st) :=
  own_pure (fun p e below T t m c hA hx hb hr => by subst hp; exact XS.ifNo hA hx rfl (hb ▸ hd) rfl (XT.i0_ge_f hc) hr) k
theorem own_if_ge {u : Int32} {o : Int} {pf : Nat} (hd : decode bytes pc = .ok (.ifCond .ge o, 3)) (ho : 0 ≤ (pc : Int) + o) (hp : ((pc : Int) + o).toNat = pc') (hq : pc + 3 = pf) (kt : ¬ u < 0 → own_W l Z y bytes ml ret R n0 Q h cells slots pc' Ls st) (kf : u < 0 → own_W l Z y bytes ml ret R n0 Q h cells slots pf Ls st) : own_W l Z y bytes ml ret R n0 Q h cells slots pc Ls (.int u :: st) := by
  by_cases hc : ¬ u < 0
  · exact own_if_ge_t hd hc ho hp (kt hc)
  · exact own_if_ge_f hd (by first | exact hc | exact Decidable.not_not.mp hc) hq (kf (by first | exact hc | exact Decidable.not_not.mp hc))
theorem own_ic_ge_t {u w : Int32} {o : Int} (hd : decode bytes pc = .ok (.if_icmp .ge o, 3)) (hc : ¬ u < w) (ho : 0 ≤ (pc : Int) + o) (hp : ((pc : Int) + o).toNat = pc') (k : own_W l Z y bytes ml ret R n0 Q h cells slots pc' Ls st) : own_W l Z y bytes ml ret R n0 Q h cells slots pc Ls (.int w :: .int u :: st) :=
  own_pure (fun p e below T t m c hA hx hb hr => XS.icmpYes hA hx rfl rfl (hb ▸ hd) rfl (XT.ii_ge_t hc) ho hp hr) k
theorem own_ic_ge_f {u w : Int32} {o : Int} (hd : decode bytes pc = .ok (.if_icmp .ge o, 3)) (hc : u < w) (hp : pc + 3 = pc') (k : own_W l Z y bytes ml ret R n0 Q h cells slots pc' Ls st) : own_W l Z y bytes ml ret R n0 Q h cells slots pc Ls (.int w :: .int u :: st) :=
  own_pure (fun p e below T t m c hA hx hb hr => by subst hp; exact XS.icmpNo hA hx rfl (hb ▸ hd) rfl (XT.ii_ge_f hc) hr) k
theorem own_ic_ge {u w : Int32} {o : Int} {pf : Nat} (hd : decode bytes pc = .ok (.if_icmp .ge o, 3)) (ho : 0 ≤ (pc : Int) + o) (hp : ((pc : Int) + o).toNat = pc') (hq : pc + 3 = pf) (kt : ¬ u < w → own_W l Z y bytes ml ret R n0 Q h cells slots pc' Ls st) (kf : u < w → own_W l Z y bytes ml ret R n0 Q h cells slots pf Ls st) : own_W l Z y bytes ml ret R n0 Q h cells slots pc Ls (.int w :: .int u :: st) := by
  by_cases hc : ¬ u < w
  · exact own_ic_ge_t hd hc ho hp (kt hc)
  · exact own_ic_ge_f hd (by first | exact hc | exact Decidable.not_not.mp hc) hq (kf (by first | exact hc | exact Decidable.not_not.mp hc))
theorem own_il_ge_t {u w : Int64} {o : Int} (hd : decode bytes pc = .ok (.ifCond .ge o, 3)) (hc : ¬ u < w) (ho : 0 ≤ (pc : Int) + o) (hp : ((pc : Int) + o).toNat = pc') (k : own_W l Z y bytes ml ret R n0 Q h cells slots pc' Ls st) : own_W l Z y bytes ml ret R n0 Q h cells slots pc Ls (.int (XT.cmpL u w) :: st) :=
  own_pure (fun p e below T t m c hA hx hb hr => XS.ifYes hA hx rfl rfl (hb ▸ hd) rfl (XT.ll_ge_t hc) ho hp hr) k
theorem own_il_ge_f {u w : Int64} {o : Int} (hd : decode bytes pc = .ok (.ifCond .ge o, 3)) (hc : u < w) (hp : pc + 3 = pc') (k : own_W l Z y bytes ml ret R n0 Q h cells slots pc' Ls st) : own_W l Z y bytes ml ret R n0 Q h cells slots pc Ls (.int (XT.cmpL u w) :: st) :=
  own_pure (fun p e below T t m c hA hx hb hr => by subst hp; exact XS.ifNo hA hx rfl (hb ▸ hd) rfl (XT.ll_ge_f hc) hr) k
theorem own_il_ge {u w : Int64} {o : Int} {pf : Nat} (hd : decode bytes pc = .ok (.ifCond .ge o, 3)) (ho : 0 ≤ (pc : Int) + o) (hp : ((pc : Int) + o).toNat = pc') (hq : pc + 3 = pf) (kt : ¬ u < w → own_W l Z y bytes ml ret R n0 Q h cells slots pc' Ls st) (kf : u < w → own_W l Z y bytes ml ret R n0 Q h cells slots pf Ls st) : own_W l Z y bytes ml ret R n0 Q h cells slots pc Ls (.int (XT.cmpL u w) :: st) := by
  by_cases hc : ¬ u < w
  · exact own_il_ge_t hd hc ho hp (kt hc)
  · exact own_il_ge_f hd (by first | exact hc | exact Decidable.not_not.mp hc) hq (kf (by first | exact hc | exact Decidable.not_not.mp hc))
theorem own_if_gt_t {u : Int32} {o : Int} (hd : decode bytes pc = .ok (.ifCond .gt o, 3)) (hc : 0 < u) (ho : 0 ≤ (pc : Int) + o) (hp : ((pc : Int) + o).toNat = pc') (k : own_W l Z y bytes ml ret R n0 Q h cells slots pc' Ls st) : own_W l Z y bytes ml ret R n0 Q h cells slots pc Ls (.int u :: st) :=
  own_pure (fun p e below T t m c hA hx hb hr => XS.ifYes hA hx rfl rfl (hb ▸ hd) rfl (XT.i0_gt_t hc) ho hp hr) k
theorem own_if_gt_f {u : Int32} {o : Int} (hd : decode bytes pc = .ok (.ifCond .gt o, 3)) (hc : ¬ 0 < u) (hp : pc + 3 = pc') (k : own_W l Z y bytes ml ret R n0 Q h cells slots pc' Ls st) : own_W l Z y bytes ml ret R n0 Q h cells slots pc Ls (.int u :: st) :=
  own_pure (fun p e below T t m c hA hx hb hr => by subst hp; exact XS.ifNo hA hx rfl (hb ▸ hd) rfl (XT.i0_gt_f hc) hr) k
theorem own_if_gt {u : Int32} {o : Int} {pf : Nat} (hd : decode bytes pc = .ok (.ifCond .gt o, 3)) (ho : 0 ≤ (pc : Int) + o) (hp : ((pc : Int) + o).toNat = pc') (hq : pc + 3 = pf) (kt : 0 < u → own_W l Z y bytes ml ret R n0 Q h cells slots pc' Ls st) (kf : ¬ 0 < u → own_W l Z y bytes ml ret R n0 Q h cells slots pf Ls st) : own_W l Z y bytes ml ret R n0 Q h cells slots pc Ls (.int u :: st) := by
  by_cases hc : 0 < u
  · exact own_if_gt_t hd hc ho hp (kt hc)
  · exact own_if_gt_f hd (by first | exact hc | exact Decidable.not_not.mp hc) hq (kf (by first | exact hc | exact Decidable.not_not.mp hc))
theorem own_ic_gt_t {u w : Int32} {o : Int} (hd : decode bytes pc = .ok (.if_icmp .gt o, 3)) (hc : w < u) (ho : 0 ≤ (pc : Int) + o) (hp : ((pc : Int) + o).toNat = pc') (k : own_W l Z y bytes ml ret R n0 Q h cells slots pc' Ls st) : own_W l Z y bytes ml ret R n0 Q h cells slots pc Ls (.int w :: .int u :: st) :=
  own_pure (fun p e below T t m c hA hx hb hr => XS.icmpYes hA hx rfl rfl (hb ▸ hd) rfl (XT.ii_gt_t hc) ho hp hr) k
theorem own_ic_gt_f {u w : Int32} {o : Int} (hd : decode bytes pc = .ok (.if_icmp .gt o, 3)) (hc : ¬ w < u) (hp : pc + 3 = pc') (k : own_W l Z y bytes ml ret R n0 Q h cells slots pc' Ls st) : own_W l Z y bytes ml ret R n0 Q h cells slots pc Ls (.int w :: .int u :: st) :=
  own_pure (fun p e below T t m c hA hx hb hr => by subst hp; exact XS.icmpNo hA hx rfl (hb ▸ hd) rfl (XT.ii_gt_f hc) hr) k
theorem own_ic_gt {u w : Int32} {o : Int} {pf : Nat} (hd : decode bytes pc = .ok (.if_icmp .gt o, 3)) (ho : 0 ≤ (pc : Int) + o) (hp : ((pc : Int) + o).toNat = pc') (hq : pc + 3 = pf) (kt : w < u → own_W l Z y bytes ml ret R n0 Q h cells slots pc' Ls st) (kf : ¬ w < u → own_W l Z y bytes ml ret R n0 Q h cells slots pf Ls st) : own_W l Z y bytes ml ret R n0 Q h cells slots pc Ls (.int w :: .int u :: st) := by
  by_cases hc : w < u
  · exact own_ic_gt_t hd hc ho hp (kt hc)
  · exact own_ic_gt_f hd (by first | exact hc | exact Decidable.not_not.mp hc) hq (kf (by first | exact hc | exact Decidable.not_not.mp hc))
theorem own_il_gt_t {u w : Int64} {o : Int} (hd : decode bytes pc = .ok (.ifCond .gt o, 3)) (hc : w < u) (ho : 0 ≤ (pc : Int) + o) (hp : ((pc : Int) + o).toNat = pc') (k : own_W l Z y bytes ml ret R n0 Q h cells slots pc' Ls st) : own_W l Z y bytes ml ret R n0 Q h cells slots pc Ls (.int (XT.cmpL u w) :: st) :=
  own_pure (fun p e below T t m c hA hx hb hr => XS.ifYes hA hx rfl rfl (hb ▸ hd) rfl (XT.ll_gt_t hc) ho hp hr) k
theorem own_il_gt_f {u w : Int64} {o : Int} (hd : decode bytes pc = .ok (.ifCond .gt o, 3)) (hc : ¬ w < u) (hp : pc + 3 = pc') (k : own_W l Z y bytes ml ret R n0 Q h cells slots pc' Ls st) : own_W l Z y bytes ml ret R n0 Q h cells slots pc Ls (.int (XT.cmpL u w) :: st) :=
  own_pure (fun p e below T t m c hA hx hb hr => by subst hp; exact XS.ifNo hA hx rfl (hb ▸ hd) rfl (XT.ll_gt_f hc) hr) k
theorem own_il_gt {u w : Int64} {o : Int} {pf : Nat} (hd : decode bytes pc = .ok (.ifCond .gt o, 3)) (ho : 0 ≤ (pc : Int) + o) (hp : ((pc : Int) + o).toNat = pc') (hq : pc + 3 = pf) (kt : w < u → own_W l Z y bytes ml ret R n0 Q h cells slots pc' Ls st) (kf : ¬ w < u → own_W l Z y bytes ml ret R n0 Q h cells slots pf Ls st) : own_W l Z y bytes ml ret R n0 Q h cells slots pc Ls (.int (XT.cmpL u w) :: st) := by
  by_cases hc : w < u
  · exact own_il_gt_t hd hc ho hp (kt hc)
  · exact own_il_gt_f hd (by first | exact hc | exact Decidable.not_not.mp hc) hq (kf (by first | exact hc | exact Decidable.not_not.mp hc))
theorem own_if_le_t {u : Int32} {o : Int} (hd : decode bytes pc = .ok (.ifCond .le o, 3)) (hc : ¬ 0 < u) (ho : 0 ≤ (pc : Int) + o) (hp : ((pc : Int) + o).toNat = pc') (k : own_W l Z y bytes ml ret R n0 Q h cells slots pc' Ls st) : own_W l Z y bytes ml ret R n0 Q h cells slots pc Ls (.int u :: st) :=
  own_pure (fun p e below T t m c hA hx hb hr => XS.ifYes hA hx rfl rfl (hb ▸ hd) rfl (XT.i0_le_t hc) ho hp hr) k
theorem own_if_le_f {u : Int32} {o : Int} (hd : decode bytes pc = .ok (.ifCond .le o, 3)) (hc : 0 < u) (hp : pc + 3 = pc') (k : own_W l Z y bytes ml ret R n0 Q h cells slots pc' Ls st) : own_W l Z y bytes ml ret R n0 Q h cells slots pc Ls (.int u :: st) :=
  own_pure (fun p e below T t m c hA hx hb hr => by subst hp; exact XS.ifNo hA hx rfl (hb ▸ hd) rfl (XT.i0_le_f hc) hr) k
theorem own_if_le {u : Int32} {o : Int} {pf : Nat} (hd : decode bytes pc = .ok (.ifCond .le o, 3)) (ho : 0 ≤ (pc : Int) + o) (hp : ((pc : Int) + o).toNat = pc') (hq : pc + 3 = pf) (kt : ¬ 0 < u → own_W l Z y bytes ml ret R n0 Q h cells slots pc' Ls st) (kf : 0 < u → own_W l Z y bytes ml ret R n0 Q h cells slots pf Ls st) : own_W l Z y bytes ml ret R n0 Q h cells slots pc Ls (.int u :: st) := by
  by_cases hc : ¬ 0 < u
  · exact own_if_le_t hd hc ho hp (kt hc)
  · exact own_if_le_f hd (by first | exact hc | exact Decidable.not_not.mp hc) hq (kf (by first | exact hc | exact Decidable.not_not.mp hc))
theorem own_ic_le_t {u w : Int32} {o : Int} (hd : decode bytes pc = .ok (.if_icmp .le o, 3)) (hc : ¬ w < u) (ho : 0 ≤ (pc : Int) + o) (hp : ((pc : Int) + o).toNat = pc') (k : own_W l Z y bytes ml ret R n0 Q h cells slots pc' Ls st) : own_W l Z y bytes ml ret R n0 Q h cells slots pc Ls (.int w :: .int u :: st) :=
  own_pure (fun p e below T t m c hA hx hb hr => XS.icmpYes hA hx rfl rfl (hb ▸ hd) rfl (XT.ii_le_t hc) ho hp hr) k
theorem own_ic_le_f {u w : Int32} {o : Int} (hd : decode bytes pc = .ok (.if_icmp .le o, 3)) (hc : w < u) (hp : pc + 3 = pc') (k : own_W l Z y bytes ml ret R n0 Q h cells slots pc' Ls st) : own_W l Z y bytes ml ret R n0 Q h cells slots pc Ls (.int w :: .int u :: st) :=
  own_pure (fun p e below T t m c hA hx hb hr => by subst hp; exact XS.icmpNo hA hx rfl (hb ▸ hd) rfl (XT.ii_le_f hc) hr) k
theorem own_ic_le {u w : Int32} {o : Int} {pf : Nat} (hd : decode bytes pc = .ok (.if_icmp .le o, 3)) (ho : 0 ≤ (pc : Int) + o) (hp : ((pc : Int) + o).toNat = pc') (hq : pc + 3 = pf) (kt : ¬ w < u → own_W l Z y bytes ml ret R n0 Q h cells slots pc' Ls st) (kf : w < u → own_W l Z y bytes ml ret R n0 Q h cells slots pf Ls st) : own_W l Z y bytes ml ret R n0 Q h cells slots pc Ls (.int w :: .int u :: st) := by
  by_cases hc : ¬ w < u
  · exact own_ic_le_t hd hc ho hp (kt hc)
  · exact own_ic_le_f hd (by first | exact hc | exact Decidable.not_not.mp hc) hq (kf (by first | exact hc | exact Decidable.not_not.mp hc))
theorem own_il_le_t {u w : Int64} {o : Int} (hd : decode bytes pc = .ok (.ifCond .le o, 3)) (hc : ¬ w < u) (ho : 0 ≤ (pc : Int) + o) (hp : ((pc : Int) + o).toNat = pc') (k : own_W l Z y bytes ml ret R n0 Q h cells slots pc' Ls st) : own_W l Z y bytes ml ret R n0 Q h cells slots pc Ls (.int (XT.cmpL u w) :: st) :=
  own_pure (fun p e below T t m c hA hx hb hr => XS.ifYes hA hx rfl rfl (hb ▸ hd) rfl (XT.ll_le_t hc) ho hp hr) k
theorem own_il_le_f {u w : Int64} {o : Int} (hd : decode bytes pc = .ok (.ifCond .le o, 3)) (hc : w < u) (hp : pc + 3 = pc') (k : own_W l Z y bytes ml ret R n0 Q h cells slots pc' Ls st) : own_W l Z y bytes ml ret R n0 Q h cells slots pc Ls (.int (XT.cmpL u w) :: st) :=
  own_pure (fun p e below T t m c hA hx hb hr => by subst hp; exact XS.ifNo hA hx rfl (hb ▸ hd) rfl (XT.ll_le_f hc) hr) k
theorem own_il_le {u w : Int64} {o : Int} {pf : Nat} (hd : decode bytes pc = .ok (.ifCond .le o, 3)) (ho : 0 ≤ (pc : Int) + o) (hp : ((pc : Int) + o).toNat = pc') (hq : pc + 3 = pf) (kt : ¬ w < u → own_W l Z y bytes ml ret R n0 Q h cells slots pc' Ls st) (kf : w < u → own_W l Z y bytes ml ret R n0 Q h cells slots pf Ls st) : own_W l Z y bytes ml ret R n0 Q h cells slots pc Ls (.int (XT.cmpL u w) :: st) := by
  by_cases hc : ¬ w < u
  · exact own_il_le_t hd hc ho hp (kt hc)
  · exact own_il_le_f hd (by first | exact hc | exact Decidable.not_not.mp hc) hq (kf (by first | exact hc | exact Decidable.not_not.mp hc))
theorem own_ifnull_f {u : Addr} {o : Int} (hd : decode bytes pc = .ok (.ifnull o, 3)) (hp : pc + 3 = pc') (k : own_W l Z y bytes ml ret R n0 Q h cells slots pc' Ls st) : own_W l Z y bytes ml ret R n0 Q h cells slots pc Ls (.ref u :: st) :=
  own_pure (fun p e below T t m c hA hx hb hr => by subst hp; exact XS.ifnullNo hA hx rfl (hb ▸ hd) rfl hr) k
theorem own_ifnonnull_t {u : Addr} {o : Int} (hd : decode bytes pc = .ok (.ifnonnull o, 3)) (ho : 0 ≤ (pc : Int) + o) (hp : ((pc : Int) + o).toNat = pc') (k : own_W l Z y bytes ml ret R n0 Q h cells slots pc' Ls st) : own_W l Z y bytes ml ret R n0 Q h cells slots pc Ls (.ref u :: st) :=
  own_pure (fun p e below T t m c hA hx hb hr => XT.ifnonnullYes hA hx rfl rfl (hb ▸ hd) rfl ho hp hr) k
theorem own_ldcI {idx : Nat} {u : Int32} (w : (Jvm.Cond.constant y.cls idx u).before a0 Z = true) (hd : decode bytes pc = .ok (.ldc idx, 2)) (hp : pc + 2 = pc') (k : own_W l Z y bytes ml ret R n0 Q h cells slots pc' Ls (.int u :: st)) : own_W l Z y bytes ml ret R n0 Q h cells slots pc Ls st := by
  intro p e s vm0 k0 m args below meth c T locs hx hZ hown hby hml hret hlk hnm hce hsl X eT N hS hk
  subst hp
  obtain ⟨s₂, o, h1, h2⟩ := k p e s vm0 k0 m args below meth c T locs hx hZ hown hby hml hret hlk hnm hce hsl X eT N hS hk
  exact ⟨s₂, o, X.ldcInt hx hown (mvT hZ w) (g := mkF m pc Ls st) rfl (hb hby hd) _ h1, h2⟩
theorem own_ldcWI {idx : Nat} {u : Int32} (w : (Jvm.Cond.constant y.cls idx u).before a0 Z = true) (hd : decode bytes pc = .ok (.ldc_w idx, 3)) (hp : pc + 3 = pc') (k : own_W l Z y bytes ml ret R n0 Q h cells slots pc' Ls (.int u :: st)) : own_W l Z y bytes ml ret R n0 Q h cells slots pc Ls st := by
  intro p e s vm0 k0 m args below meth c T locs hx hZ hown hby hml hret hlk hnm hce hsl X eT N hS hk
  subst hp
  obtain ⟨s₂, o, h1, h2⟩ := k p e s vm0 k0 m args below meth c T locs hx hZ hown hby hml hret hlk hnm hce hsl X eT N hS hk
  exact ⟨s₂, o, X.ldcWInt hx hown (mvT hZ w) (g := mkF m pc Ls st) rfl (hb hby hd) _ h1, h2⟩
theorem own_ldc2 {idx : Nat} {u : Int64} (w : (Jvm.Cond.constantLong y.cls idx u).before a0 Z = true) (hd : decode bytes pc = .ok (.ldc2_w idx, 3)) (hp : pc + 3 = pc') (k : own_W l Z y bytes ml ret R n0 Q h cells slots pc' Ls (.long u :: st)) : own_W l Z y bytes ml ret R n0 Q h cells slots pc Ls st := by
  intro p e s vm0 k0 m args below meth c T locs hx hZ hown hby hml hret hlk hnm hce hsl X eT N hS hk
  subst hp
  obtain ⟨s₂, o, h1, h2⟩ := k p e s vm0 k0 m args below meth c T locs hx hZ hown hby hml hret hlk hnm hce hsl X eT N hS hk
  exact ⟨s₂, o, X.ldc2Long hx hown (mvT hZ w) (g := mkF m pc Ls st) rfl (hb hby hd) _ h1, h2⟩
theorem own_iret {u : Int32} (hr0 : ret = some .int) (hd : decode bytes pc = .ok (.ireturn, 1)) (hq : Q (some (.int u)) h) : own_W l Z y bytes ml ret R n0 Q h cells slots pc Ls (.int u :: st) := by
  intro p e s vm0 k0 m args below meth c T locs hx hZ hown hby hml hret hlk hnm hce hsl X eT N hS hk
  subst hr0
  obtain ⟨fs, hr, hrun, hended, hRW⟩ := X.leaveW hS (by rw [eT]; exact hk) (v := some (.int u)) (fun h => by rw [hret] at h; cases h) hlk
  refine ⟨_, _, ?_, hrun, hended, _, _, rfl, ⟨?_, N⟩, hRW.1, hRW.2.1, hRW.2.2.1, hRW.2.2.2.mono hce hsl⟩
  · exact retOut X hx hret rfl (Or.inl ⟨rfl, Or.inl rfl, _, rfl⟩) (hb hby hd) hr
  · rw [show (T.setFrames fs).heap = h from eT]; exact hq
theorem own_zret {u : Int32} {t : FieldType} (hr0 : ret = some t) (ht : t = .boolean ∨ t = .byte ∨ t = .char ∨ t = .short) (hd : decode bytes pc = .ok (.ireturn, 1)) (hq : Q (some (.int (nar t u))) h) : own_W l Z y bytes ml ret R n0 Q h cells slots pc Ls (.int u :: st) := by
  intro p e s vm0 k0 m args below meth c T locs hx hZ hown hby hml hret hlk hnm hce hsl X eT N hS hk
  subst hr0
  obtain ⟨fs, hr, hrun, hended, hRW⟩ := X.leaveW hS (by rw [eT]; exact hk) (v := some (.int (nar t u))) (fun h => by rw [hret] at h; cases h) hlk
  refine ⟨_, _, ?_, hrun, hended, _, _, rfl, ⟨?_, N⟩, hRW.1, hRW.2.1, hRW.2.2.1, hRW.2.2.2.mono hce hsl⟩
  · exact retN X hx hret ht (hb hby hd) hr
  · rw [show (T.setFrames fs).heap = h from eT]; exact hq
theorem own_bret {u v : Int32} (hr0 : ret = some .boolean) (hv : u &&& 1 = v) (hd : decode bytes pc = .ok (.ireturn, 1)) (hq : Q (some (.int v)) h) : own_W l Z y bytes ml ret R n0 Q h cells slots pc Ls (.int u :: st) :=
  own_zret hr0 (Or.inl rfl) hd (by subst hv; exact hq)
theorem own_lret {u : Int64} (hr0 : ret = some .long) (hd : decode bytes pc = .ok (.lreturn, 1)) (hq : Q (some (.long u)) h) : own_W l Z y bytes ml ret R n0 Q h cells slots pc Ls (.long u :: st) := by
  intro p e s vm0 k0 m args below meth c T locs hx hZ hown hby hml hret hlk hnm hce hsl X eT N hS hk
  subst hr0
  obtain ⟨fs, hr, hrun, hended, hRW⟩ := X.leaveW hS (by rw [eT]; exact hk) (v := some (.long u)) (fun h => by rw [hret] at h; cases h) hlk
  refine ⟨_, _, ?_, hrun, hended, _, _, rfl, ⟨?_, N⟩, hRW.1, hRW.2.1, hRW.2.2.1, hRW.2.2.2.mono hce hsl⟩
  · exact retOut X hx hret rfl (Or.inr (Or.inl ⟨rfl, rfl, _, rfl⟩)) (hb hby hd) hr
  · rw [show (T.setFrames fs).heap = h from eT]; exact hq
theorem own_aret {u : Addr} {t : FieldType} (hr0 : ret = some t) (ht : t.isReference = true) (hn : narrow t (.ref u) = .ref u) (hd : decode bytes pc = .ok (.areturn, 1)) (hq : Q (some (.ref u)) h) : own_W l Z y bytes ml ret R n0 Q h cells slots pc Ls (.ref u :: st) := by
  intro p e s vm0 k0 m args below meth c T locs hx hZ hown hby hml hret hlk hnm hce hsl X eT N hS hk
  subst hr0
  obtain ⟨fs, hr, hrun, hended, hRW⟩ := X.leaveW hS (by rw [eT]; exact hk) (v := some (.ref u)) (fun h => by rw [hret] at h; cases h) hlk
  refine ⟨_, _, ?_, hrun, hended, _, _, rfl, ⟨?_, N⟩, hRW.1, hRW.2.1, hRW.2.2.1, hRW.2.2.2.mono hce hsl⟩
  · exact retOut X hx hret hn (Or.inr (Or.inr (Or.inr (Or.inr ⟨rfl, ht, rfl⟩)))) (hb hby hd) hr
  · rw [show (T.setFrames fs).heap = h from eT]; exact hq
theorem own_ret (hr0 : ret = none) (hd : decode bytes pc = .ok (.return_, 1)) (hq : Q none h) : own_W l Z y bytes ml ret R n0 Q h cells slots pc Ls [] := by
  intro p e s vm0 k0 m args below meth c T locs hx hZ hown hby hml hret hlk hnm hce hsl X eT N hS hk
  subst hr0
  obtain ⟨fs, hr, hrun, hended, hRW⟩ := X.leaveW hS (by rw [eT]; exact hk) (v := none) (fun _ => rfl) hlk
  refine ⟨_, _, ?_, hrun, hended, _, _, rfl, ⟨?_, N⟩, hRW.1, hRW.2.1, hRW.2.2.1, hRW.2.2.2.mono hce hsl⟩
  · exact X.returnOut hx hret (hb hby hd) hr
  · rw [show (T.setFrames fs).heap = h from eT]; exact hq
theorem own_getF {O n d : String} {idx : Nat} {a : Addr} {v : Value} (w : (Jvm.Cond.fieldLink y.cls idx O n d).before a0 Z = true) (F : Fld Z h a O n d v) (hd : decode bytes pc = .ok (.getfield idx, 3)) (hp : pc + 3 = pc') (k : own_W l Z y bytes ml ret R n0 Q h cells slots pc' Ls (v :: st)) : own_W l Z y bytes ml ret R n0 Q h cells slots pc Ls (.ref a :: st) := by
  intro p e s vm0 k0 m args below meth c T locs hx hZ hown hby hml hret hlk hnm hce hsl X eT N hS hk
  subst hp
  obtain ⟨T', X', e', st'⟩ := getF X hx hZ hown (host := "") (Or.inl w) Via.refl eT F (g := mkF m pc Ls (.ref a :: st)) rfl rfl (hb hby hd)
  obtain ⟨s₂, o, h1, h2⟩ := k p e s vm0 k0 m args below meth c T' locs hx hZ hown hby hml hret hlk hnm hce hsl X' e' N hS hk
  exact ⟨s₂, o, st' _ h1, h2⟩
theorem own_putF {O n d C : String} {idx kk : Nat} {a : Addr} {v old : Value} {ty : FieldType} (w : (Jvm.Cond.fieldLink y.cls idx O n d).before a0 Z = true) (F : Fld Z h a O n d old) (E : Exa Z h a C) (L : (Jvm.Cond.lays C O n d).before a0 Z = true ∨ ((Jvm.Cond.laysFinal C O n d).before a0 Z = true ∧ y.cls = O ∧ y.name = "<init>")) (wi : (Jvm.Cond.instantiable C kk).before a0 Z = true)
    (ge : n0 ≤ a) (hty : parseFieldDescriptor d = some ty) (hn : narrow ty v = v) (hf : fits ty v = true) (hd : decode bytes pc = .ok (.putfield idx, 3)) (hp : pc + 3 = pc')
    (k : ∀ h', Wr h h' a (Jvm.RoadKit.slotOf Z O n d) v → Keep h h' [a] → own_W l Z y bytes ml ret R n0 Q h' cells slots pc' Ls st) : own_W l Z y bytes ml ret R n0 Q h cells slots pc Ls (v :: .ref a :: st) := by
  intro p e s vm0 k0 m args below meth c T locs hx hZ hown hby hml hret hlk hnm hce hsl X eT N hS hk
  subst hp
  obtain ⟨T', h', X', e', W', st'⟩ := putF X hx hZ hown (host := "") (Or.inl w) Via.refl eT F E (L.imp id fun q => ⟨q.1, q.2.1, hnm.trans q.2.2⟩) wi hty hn hf (g := mkF m pc Ls (v :: .ref a :: st)) rfl rfl (hb hby hd)
  obtain ⟨s₂, o, h1, h2⟩ := k h' W' (Keep.of_wr W') p e s vm0 k0 m args below meth c T' _ hx hZ hown hby hml hret hlk hnm hce hsl X' e' (Fr.snoc X' N ge) hS (Nat.le_trans hk (Keep.of_wr W').1)
  exact ⟨s₂, o, st' _ h1, h2⟩
theorem own_new {C : String} {idx n : Nat} (w : (Jvm.Cond.classLink y.cls idx C).before a0 Z = true) (wi : (Jvm.Cond.instantiable C n).before a0 Z = true) (wz : (Jvm.Cond.initialized C).before a0 Z = true) (hd : decode bytes pc = .ok (.new idx, 3)) (hp : pc + 3 = pc') (hc : cells + 1 ≤ R.cells) (hl : slots + n ≤ R.slots)
    (k : ∀ (h' : Heap) (a : Addr), h.size ≤ a → a < h'.size → Ext h h' → Exa Z h' a C → (∀ {O nm d : String} {ty : FieldType}, Laid Z a0 C O nm d → parseFieldDescriptor d = some ty → Fld Z h' a O nm d (defaultValue ty)) → own_W l Z y bytes ml ret R n0 Q h' (cells + 1) (slots + n) pc' Ls (.ref a :: st)) : own_W l Z y bytes ml ret R n0 Q h cells slots pc Ls st := by
  intro p e s vm0 k0 m args below meth c T locs hx hZ hown hby hml hret hlk hnm hce hsl X eT N hS hk
  subst hp
  obtain ⟨T', h', X', e', E', A', D', -, st'⟩ := newO X hx hZ hown w wi wz eT (g := mkF m pc Ls st) rfl (hb hby hd) hc hl
  obtain ⟨s₂, o, h1, h2⟩ := k h' h.size (Nat.le_refl _) A'.lt E' A' D' p e s vm0 k0 m args below meth c T' _ hx hZ hown hby hml hret hlk hnm hc hl X' e' N hS (Nat.le_trans hk E'.1)
  exact ⟨s₂, o, st' _ h1, h2⟩
theorem own_initO {idx W : Nat} {a : Addr} (w1 : (Jvm.Cond.methodLink y.cls idx Lib.objectInit).before a0 Z = true) (w2 : (Jvm.Cond.instanceMethod Lib.objectInit).before a0 Z = true) (w3 : (Jvm.Cond.code Lib.objectInit ⟨#[0xb1]⟩ 1 none).before a0 Z = true) (hd : decode bytes pc = .ok (.invokespecial idx, 3)) (hp : pc + 3 = pc')
    (hsz : Ls.size = ml) (hf : 1 ≤ R.frames) (hW : (st.map fun v => v.category).sum ≤ W) (hl : W + 12 ≤ R.locals) (k : own_W l Z y bytes ml ret R n0 Q h cells slots pc' Ls st) : own_W l Z y bytes ml ret R n0 Q h cells slots pc Ls (.ref a :: st) := by
  intro p e s vm0 k0 m args below meth c T locs hx hZ hown hby hml hret hlk hnm hce hsl X eT N hS hk
  subst hp
  obtain ⟨T', X', e', st'⟩ := initO X hx hZ hown w1 w2 w3 eT (g := mkF m pc Ls (.ref a :: st)) rfl (by rw [hml]; exact hsz) rfl (hb hby hd) hf (W := W) (by show 2 * 0 + _ ≤ _; omega) hl
  obtain ⟨s₂, o, h1, h2⟩ := k p e s vm0 k0 m args below meth c T' locs hx hZ hown hby hml hret hlk hnm hce hsl X' e' N hS hk
  exact ⟨s₂, o, st' _ h1, h2⟩
/-- an array of this component type with just these components -/
def own_A (Z : State) (h : Heap) (a : Addr) (ty : FieldType) (vs : List Value) : Prop := ∃ c : Cell, Arr Z h a c ty ∧ c.slots.toList = vs ∧ vs.length < 2 ^ 31 ∧ ∀ v ∈ vs, fits ty v = true
theorem own_A.lt {a : Addr} {ty : FieldType} {vs : List Value} (A : own_A Z h a ty vs) : a < h.size := by obtain ⟨c, A, -⟩ := A; exact A.lt
theorem own_A.ext {h' : Heap} {a : Addr} {ty : FieldType} {vs : List Value} (A : own_A Z h a ty vs) (E : Ext h h') : own_A Z h' a ty vs := by obtain ⟨c, A, r⟩ := A; exact ⟨c, A.ext E, r⟩
theorem own_A.keep {h' : Heap} {a : Addr} {ty : FieldType} {vs : List Value} {ws : List Addr} (A : own_A Z h a ty vs) (K : Keep h h' ws) (q : a ∉ ws) : own_A Z h' a ty vs := by obtain ⟨c, A, r⟩ := A; exact ⟨c, ⟨K.2.1 a c A.1 q, A.2⟩, r⟩
theorem own_A.cast {a : Addr} {ty : FieldType} {vs vs' : List Value} (A : own_A Z h a ty vs) (q : vs = vs') : own_A Z h a ty vs' := q ▸ A
theorem own_size {c : Cell} {vs : List Value} (q : c.slots.toList = vs) : c.slots.size = vs.length := by rw [← q]; simp
theorem own_in {c : Cell} {vs : List Value} {j : Int32} (q : c.slots.toList = vs) (h0 : ¬ j < 0) (h1 : j.toNatClampNeg < vs.length) : ¬ (j < 0 ∨ c.slots.size ≤ j.toNatClampNeg) := by rw [own_size q]; rintro (u | u); exact h0 u; omega
theorem own_get {c : Cell} {vs : List Value} {j : Nat} {v : Value} (q : c.slots.toList = vs) (h1 : vs[j]? = some v) : c.slots[j]? = some v := by rw [← Array.getElem?_toList, q]; exact h1
theorem own_A.set {h' : Heap} {a : Addr} {ty : FieldType} {vs : List Value} {j : Nat} {v : Value} {c : Cell} (A : Arr Z h a c ty) (q : c.slots.toList = vs) (hl : vs.length < 2 ^ 31) (hft : ∀ v ∈ vs, fits ty v = true) (hv : fits ty v = true) (W : Wr h h' a j v) : own_A Z h' a ty (vs.set j v) := by
  refine ⟨_, A.same W, ?_, by simpa using hl, fun w hw => (List.mem_or_eq_of_mem_set hw).elim (hft w) fun e => e ▸ hv⟩
  rw [← q]; simp [Cell.setSlot]
theorem own_fitd (ty : FieldType) : fits ty (defaultValue ty) = true := by cases ty <;> rfl
theorem own_len {a : Addr} {ty : FieldType} {vs : List Value} {n : Int32} (A : own_A Z h a ty vs) (hn : vs.length.toInt32 = n) (hd : decode bytes pc = .ok (.arraylength, 1)) (hp : pc + 1 = pc') (k : own_W l Z y bytes ml ret R n0 Q h cells slots pc' Ls (.int n :: st)) : own_W l Z y bytes ml ret R n0 Q h cells slots pc Ls (.ref a :: st) := by
  intro p e s vm0 k0 m args below meth c T locs hx hZ hown hby hml hret hlk hnm hce hsl X eT N hS hk
  subst hp hn
  obtain ⟨cl, A, q, hl, hft⟩ := A
  obtain ⟨s₂, o, h1, h2⟩ := k p e s vm0 k0 m args below meth c T locs hx hZ hown hby hml hret hlk hnm hce hsl X eT N hS hk
  refine ⟨s₂, o, X.arraylength hx (by rw [eT]; exact A.1) (State.isArrayOf_alike hZ.alike A.2.1) (g := mkF m pc Ls (.ref a :: st)) rfl rfl (hb hby hd) _ ?_, h2⟩
  rw [own_size q]; exact h1
theorem own_iaload {a : Addr} {vs : List Value} {j : Int32} {v : Value} (A : own_A Z h a .int vs) (h0 : ¬ j < 0) (hv : vs[j.toNatClampNeg]? = some v) (hd : decode bytes pc = .ok (.iaload, 1)) (hp : pc + 1 = pc') (k : own_W l Z y bytes ml ret R n0 Q h cells slots pc' Ls (v :: st)) : own_W l Z y bytes ml ret R n0 Q h cells slots pc Ls (.int j :: .ref a :: st) := by
  intro p e s vm0 k0 m args below meth c T locs hx hZ hown hby hml hret hlk hnm hce hsl X eT N hS hk
  subst hp
  obtain ⟨cl, A, q, hl, hft⟩ := A
  obtain ⟨s₂, o, h1, h2⟩ := k p e s vm0 k0 m args below meth c T locs hx hZ hown hby hml hret hlk hnm hce hsl X eT N hS hk
  exact ⟨s₂, o, X.iaload hx (by rw [eT]; exact A.1) (State.isArrayOf_alike hZ.alike A.2.1) A.2.2 (own_in q h0 (List.getElem?_eq_some_iff.mp hv).1) (own_get q hv) (g := mkF m pc Ls (.int j :: .ref a :: st)) rfl rfl (hb hby hd) _ h1, h2⟩
theorem own_laload {a : Addr} {vs : List Value} {j : Int32} {v : Value} (A : own_A Z h a .long vs) (h0 : ¬ j < 0) (hv : vs[j.toNatClampNeg]? = some v) (hd : decode bytes pc = .ok (.laload, 1)) (hp : pc + 1 = pc') (k : own_W l Z y bytes ml ret R n0 Q h cells slots pc' Ls (v :: st)) : own_W l Z y bytes ml ret R n0 Q h cells slots pc Ls (.int j :: .ref a :: st) := by
  intro p e s vm0 k0 m args below meth c T locs hx hZ hown hby hml hret hlk hnm hce hsl X eT N hS hk
  subst hp
  obtain ⟨cl, A, q, hl, hft⟩ := A
  obtain ⟨s₂, o, h1, h2⟩ := k p e s vm0 k0 m args below meth c T locs hx hZ hown hby hml hret hlk hnm hce hsl X eT N hS hk
  exact ⟨s₂, o, X.laload hx (by rw [eT]; exact A.1) (State.isArrayOf_alike hZ.alike A.2.1) A.2.2 (own_in q h0 (List.getElem?_eq_some_iff.mp hv).1) (own_get q hv) (g := mkF m pc Ls (.int j :: .ref a :: st)) rfl rfl (hb hby hd) _ h1, h2⟩
theorem own_caload {a : Addr} {vs : List Value} {j : Int32} {v : Value} (A : own_A Z h a .char vs) (h0 : ¬ j < 0) (hv : vs[j.toNatClampNeg]? = some v) (hd : decode bytes pc = .ok (.caload, 1)) (hp : pc + 1 = pc') (k : own_W l Z y bytes ml ret R n0 Q h cells slots pc' Ls (v :: st)) : own_W l Z y bytes ml ret R n0 Q h cells slots pc Ls (.int j :: .ref a :: st) := by
  intro p e s vm0 k0 m args below meth c T locs hx hZ hown hby hml hret hlk hnm hce hsl X eT N hS hk
  subst hp
  obtain ⟨cl, A, q, hl, hft⟩ := A
  obtain ⟨s₂, o, h1, h2⟩ := k p e s vm0 k0 m args below meth c T locs hx hZ hown hby hml hret hlk hnm hce hsl X eT N hS hk
  exact ⟨s₂, o, X.caload hx (by rw [eT]; exact A.1) (State.isArrayOf_alike hZ.alike A.2.1) A.2.2 (own_in q h0 (List.getElem?_eq_some_iff.mp hv).1) (own_get q hv) (g := mkF m pc Ls (.int j :: .ref a :: st)) rfl rfl (hb hby hd) _ h1, h2⟩
theorem own_baload {a : Addr} {vs : List Value} {j : Int32} {v : Value} (A : own_A Z h a .byte vs) (h0 : ¬ j < 0) (hv : vs[j.toNatClampNeg]? = some v) (hd : decode bytes pc = .ok (.baload, 1)) (hp : pc + 1 = pc') (k : own_W l Z y bytes ml ret R n0 Q h cells slots pc' Ls (v :: st)) : own_W l Z y bytes ml ret R n0 Q h cells slots pc Ls (.int j :: .ref a :: st) := by
  intro p e s vm0 k0 m args below meth c T locs hx hZ hown hby hml hret hlk hnm hce hsl X eT N hS hk
  subst hp
  obtain ⟨cl, A, q, hl, hft⟩ := A
  obtain ⟨s₂, o, h1, h2⟩ := k p e s vm0 k0 m args below meth c T locs hx hZ hown hby hml hret hlk hnm hce hsl X eT N hS hk
  exact ⟨s₂, o, X.baloadBytes hx (by rw [eT]; exact A.1) (State.isArrayOf_alike hZ.alike A.2.1) A.2.2 (own_in q h0 (List.getElem?_eq_some_iff.mp hv).1) (own_get q hv) (g := mkF m pc Ls (.int j :: .ref a :: st)) rfl rfl (hb hby hd) _ h1, h2⟩
theorem own_zaload {a : Addr} {vs : List Value} {j : Int32} {v : Value} (A : own_A Z h a .boolean vs) (h0 : ¬ j < 0) (hv : vs[j.toNatClampNeg]? = some v) (hd : decode bytes pc = .ok (.baload, 1)) (hp : pc + 1 = pc') (k : own_W l Z y bytes ml ret R n0 Q h cells slots pc' Ls (v :: st)) : own_W l Z y bytes ml ret R n0 Q h cells slots pc Ls (.int j :: .ref a :: st) := by
  intro p e s vm0 k0 m args below meth c T locs hx hZ hown hby hml hret hlk hnm hce hsl X eT N hS hk
  subst hp
  obtain ⟨cl, A, q, hl, hft⟩ := A
  obtain ⟨s₂, o, h1, h2⟩ := k p e s vm0 k0 m args below meth c T locs hx hZ hown hby hml hret hlk hnm hce hsl X eT N hS hk
  exact ⟨s₂, o, X.baloadBooleans hx (by rw [eT]; exact A.1) (State.isArrayOf_alike hZ.alike A.2.1) A.2.2 (own_in q h0 (List.getElem?_eq_some_iff.mp hv).1) (own_get q hv) (g := mkF m pc Ls (.int j :: .ref a :: st)) rfl rfl (hb hby hd) _ h1, h2⟩
theorem own_iastore {a : Addr} {vs : List Value} {j : Int32} {u : Int32} (A : own_A Z h a .int vs) (h0 : ¬ j < 0) (h1 : j.toNatClampNeg < vs.length) (ge : n0 ≤ a) (hd : decode bytes pc = .ok (.iastore, 1)) (hp : pc + 1 = pc') (k : ∀ h', Keep h h' [a] → own_A Z h' a .int (vs.set j.toNatClampNeg (.int u)) → own_W l Z y bytes ml ret R n0 Q h' cells slots pc' Ls st) : own_W l Z y bytes ml ret R n0 Q h cells slots pc Ls (.int u :: .int j :: .ref a :: st) := by
  intro p e s vm0 k0 m args below meth c T locs hx hZ hown hby hml hret hlk hnm hce hsl X eT N hS hk
  subst hp
  obtain ⟨cl, A, q, hl, hft⟩ := A
  obtain ⟨T', h', X', e', W', st'⟩ := stI X hx hZ eT A (own_in q h0 h1) (g := mkF m pc Ls (.int u :: .int j :: .ref a :: st)) rfl rfl (hb hby hd)
  obtain ⟨s₂, o, h1, h2⟩ := k h' (Keep.of_wr W') (own_A.set A q hl hft rfl W') p e s vm0 k0 m args below meth c T' _ hx hZ hown hby hml hret hlk hnm hce hsl X' e' (Fr.snoc X' N ge) hS (Nat.le_trans hk (Keep.of_wr W').1)
  exact ⟨s₂, o, st' _ h1, h2⟩
theorem own_lastore {a : Addr} {vs : List Value} {j : Int32} {u : Int64} (A : own_A Z h a .long vs) (h0 : ¬ j < 0) (h1 : j.toNatClampNeg < vs.length) (ge : n0 ≤ a) (hd : decode bytes pc = .ok (.lastore, 1)) (hp : pc + 1 = pc') (k : ∀ h', Keep h h' [a] → own_A Z h' a .long (vs.set j.toNatClampNeg (.long u)) → own_W l Z y bytes ml ret R n0 Q h' cells slots pc' Ls st) : own_W l Z y bytes ml ret R n0 Q h cells slots pc Ls (.long u :: .int j :: .ref a :: st) := by
  intro p e s vm0 k0 m args below meth c T locs hx hZ hown hby hml hret hlk hnm hce hsl X eT N hS hk
  subst hp
  obtain ⟨cl, A, q, hl, hft⟩ := A
  obtain ⟨T', h', X', e', W', st'⟩ := stJ X hx hZ eT A (own_in q h0 h1) (g := mkF m pc Ls (.long u :: .int j :: .ref a :: st)) rfl rfl (hb hby hd)
  obtain ⟨s₂, o, h1, h2⟩ := k h' (Keep.of_wr W') (own_A.set A q hl hft rfl W') p e s vm0 k0 m args below meth c T' _ hx hZ hown hby hml hret hlk hnm hce hsl X' e' (Fr.snoc X' N ge) hS (Nat.le_trans hk (Keep.of_wr W').1)
  exact ⟨s₂, o, st' _ h1, h2⟩
theorem own_castore {a : Addr} {vs : List Value} {j : Int32} {u : Int32} (A : own_A Z h a .char vs) (h0 : ¬ j < 0) (h1 : j.toNatClampNeg < vs.length) (ge : n0 ≤ a) (hd : decode bytes pc = .ok (.castore, 1)) (hp : pc + 1 = pc') (k : ∀ h', Keep h h' [a] → own_A Z h' a .char (vs.set j.toNatClampNeg (.int (nar .char u))) → own_W l Z y bytes ml ret R n0 Q h' cells slots pc' Ls st) : own_W l Z y bytes ml ret R n0 Q h cells slots pc Ls (.int u :: .int j :: .ref a :: st) := by
  intro p e s vm0 k0 m args below meth c T locs hx hZ hown hby hml hret hlk hnm hce hsl X eT N hS hk
  subst hp
  obtain ⟨cl, A, q, hl, hft⟩ := A
  obtain ⟨T', h', X', e', W', st'⟩ := stC X hx hZ eT A (own_in q h0 h1) (g := mkF m pc Ls (.int u :: .int j :: .ref a :: st)) rfl rfl (hb hby hd)
  obtain ⟨s₂, o, h1, h2⟩ := k h' (Keep.of_wr W') (own_A.set A q hl hft (fits_nar_char u) W') p e s vm0 k0 m args below meth c T' _ hx hZ hown hby hml hret hlk hnm hce hsl X' e' (Fr.snoc X' N ge) hS (Nat.le_trans hk (Keep.of_wr W').1)
  exact ⟨s₂, o, st' _ h1, h2⟩
theorem own_bastore {a : Addr} {vs : List Value} {j : Int32} {u : Int32} (A : own_A Z h a .byte vs) (h0 : ¬ j < 0) (h1 : j.toNatClampNeg < vs.length) (ge : n0 ≤ a) (hd : decode bytes pc = .ok (.bastore, 1)) (hp : pc + 1 = pc') (k : ∀ h', Keep h h' [a] → own_A Z h' a .byte (vs.set j.toNatClampNeg (.int (nar .byte u))) → own_W l Z y bytes ml ret R n0 Q h' cells slots pc' Ls st) : own_W l Z y bytes ml ret R n0 Q h cells slots pc Ls (.int u :: .int j :: .ref a :: st) := by
  intro p e s vm0 k0 m args below meth c T locs hx hZ hown hby hml hret hlk hnm hce hsl X eT N hS hk
  subst hp
  obtain ⟨cl, A, q, hl, hft⟩ := A
  obtain ⟨T', h', X', e', W', st'⟩ := stB X hx hZ eT A (own_in q h0 h1) (g := mkF m pc Ls (.int u :: .int j :: .ref a :: st)) rfl rfl (hb hby hd)
  obtain ⟨s₂, o, h1, h2⟩ := k h' (Keep.of_wr W') (own_A.set A q hl hft (fits_nar_byte u) W') p e s vm0 k0 m args below meth c T' _ hx hZ hown hby hml hret hlk hnm hce hsl X' e' (Fr.snoc X' N ge) hS (Nat.le_trans hk (Keep.of_wr W').1)
  exact ⟨s₂, o, st' _ h1, h2⟩
theorem own_zastore {a : Addr} {vs : List Value} {j : Int32} {u : Int32} (A : own_A Z h a .boolean vs) (h0 : ¬ j < 0) (h1 : j.toNatClampNeg < vs.length) (ge : n0 ≤ a) (hd : decode bytes pc = .ok (.bastore, 1)) (hp : pc + 1 = pc') (k : ∀ h', Keep h h' [a] → own_A Z h' a .boolean (vs.set j.toNatClampNeg (.int (nar .boolean u))) → own_W l Z y bytes ml ret R n0 Q h' cells slots pc' Ls st) : own_W l Z y bytes ml ret R n0 Q h cells slots pc Ls (.int u :: .int j :: .ref a :: st) := by
  intro p e s vm0 k0 m args below meth c T locs hx hZ hown hby hml hret hlk hnm hce hsl X eT N hS hk
  subst hp
  obtain ⟨cl, A, q, hl, hft⟩ := A
  obtain ⟨T', h', X', e', W', st'⟩ := stZ X hx hZ eT A (own_in q h0 h1) (g := mkF m pc Ls (.int u :: .int j :: .ref a :: st)) rfl rfl (hb hby hd)
  obtain ⟨s₂, o, h1, h2⟩ := k h' (Keep.of_wr W') (own_A.set A q hl hft (fits_nar_bool u) W') p e s vm0 k0 m args below meth c T' _ hx hZ hown hby hml hret hlk hnm hce hsl X' e' (Fr.snoc X' N ge) hS (Nat.le_trans hk (Keep.of_wr W').1)
  exact ⟨s₂, o, st' _ h1, h2⟩
theorem own_newarrE {aty : ArrayType} {ty : FieldType} {n : Int32} {cap : Nat} (w : (Jvm.Cond.arrayClass ty).before a0 Z = true) (ht : newarray.typeOf aty = ty) (hd : decode bytes pc = .ok (.newarray aty, 2)) (hp : pc + 2 = pc') (hn : ¬ n < 0) (hcap : n.toNatClampNeg ≤ cap) (hb8 : cap * 8 ≤ 536870912) (hc : cells + 1 ≤ R.cells) (hl : slots + cap ≤ R.slots)
    (k : ∀ (h' : Heap) (a : Addr), h.size ≤ a → a < h'.size → Ext h h' → own_A Z h' a ty (List.replicate n.toNatClampNeg (defaultValue ty)) → Exa Z h' a ("[" ++ ty.toString) → own_W l Z y bytes ml ret R n0 Q h' (cells + 1) (slots + cap) pc' Ls (.ref a :: st)) : own_W l Z y bytes ml ret R n0 Q h cells slots pc Ls (.int n :: st) := by
  intro p e s vm0 k0 m args below meth c T locs hx hZ hown hby hml hret hlk hnm hce hsl X eT N hS hk
  subst hp ht
  have hcb : componentBytes (newarray.typeOf aty) ≤ 8 := by cases aty <;> decide
  obtain ⟨cA, kA, comp, g1, g2, g3, X', st'⟩ := X.newarrayPrim hx (mvA hZ w) (g := mkF m pc Ls (.int n :: st)) rfl (hb hby hd) rfl hn (Nat.le_trans (Nat.mul_le_mul hcap hcb) hb8) hc (by omega)
  rw [hZ.alike.findClass] at g1
  obtain ⟨kZ, z1, -⟩ := Vm.findClass_spec g1
  obtain ⟨k', z2, z3⟩ := hZ.alike.2.2 _ _ z1
  cases g2.symm.trans z2
  have kk : kZ.kind = .array comp (newarray.typeOf aty) := by rw [← g3, z3]
  have hN : (T.heap.push ({ cls := cA, slots := Array.replicate n.toNatClampNeg (defaultValue (newarray.typeOf aty)), vm := .none } : Cell))[T.heap.size]? = some { cls := cA, slots := Array.replicate n.toNatClampNeg (defaultValue (newarray.typeOf aty)), vm := .none } := by simp
  have E' : Ext h (T.heap.push ({ cls := cA, slots := Array.replicate n.toNatClampNeg (defaultValue (newarray.typeOf aty)), vm := .none } : Cell)) := by
    subst eT
    refine ⟨by simp, fun b cc hb' => ?_⟩
    rw [Array.getElem?_push_lt (Array.getElem?_eq_some_iff.mp hb').1]; exact (Array.getElem?_eq_getElem _).symm.trans hb'
  have A' : own_A Z (T.heap.push ({ cls := cA, slots := Array.replicate n.toNatClampNeg (defaultValue (newarray.typeOf aty)), vm := .none } : Cell)) T.heap.size (newarray.typeOf aty) (List.replicate n.toNatClampNeg (defaultValue (newarray.typeOf aty))) :=
    ⟨_, ⟨hN, ⟨by simp, kZ, z1, comp, kk⟩, by simp⟩, by simp, by simp only [List.length_replicate]; exact (back32 hn).2, fun v hv => by rw [(List.mem_replicate.mp hv).2]; exact own_fitd _⟩
  have X2 := X'.more (Nat.le_refl _) (Nat.add_le_add_left hcap slots)
  obtain ⟨s₂, o, h1, h2⟩ := k _ T.heap.size (by rw [eT]; exact Nat.le_refl _) A'.lt E' A' ⟨_, kZ, hN, g1, z1, rfl, fun q => by rw [kk] at q; cases q⟩ p e s vm0 k0 m args below meth c _ _ hx hZ hown hby hml hret hlk hnm hc hl X2 rfl N hS (Nat.le_trans hk E'.1)
  exact ⟨s₂, o, st' _ h1, h2⟩
theorem own_newarr {aty : ArrayType} {ty : FieldType} {n : Int32} {cap : Nat} (w : (Jvm.Cond.arrayClass ty).before a0 Z = true) (ht : newarray.typeOf aty = ty) (hd : decode bytes pc = .ok (.newarray aty, 2)) (hp : pc + 2 = pc') (hn : ¬ n < 0) (hcap : n.toNatClampNeg ≤ cap) (hb8 : cap * 8 ≤ 536870912) (hc : cells + 1 ≤ R.cells) (hl : slots + cap ≤ R.slots)
    (k : ∀ (h' : Heap) (a : Addr), h.size ≤ a → a < h'.size → Ext h h' → own_A Z h' a ty (List.replicate n.toNatClampNeg (defaultValue ty)) → own_W l Z y bytes ml ret R n0 Q h' (cells + 1) (slots + cap) pc' Ls (.ref a :: st)) : own_W l Z y bytes ml ret R n0 Q h cells slots pc Ls (.int n :: st) :=
  own_newarrE w ht hd hp hn hcap hb8 hc hl fun h' a q1 q2 q3 q4 _ => k h' a q1 q2 q3 q4
theorem own_cast {idx : Nat} {K : String} {a : Addr} (w : (Jvm.Cond.classLink y.cls idx K).before a0 Z = true) (F : Ins Z h a K true) (hd : decode bytes pc = .ok (.checkcast idx, 3)) (hp : pc + 3 = pc') (k : own_W l Z y bytes ml ret R n0 Q h cells slots pc' Ls (.ref a :: st)) : own_W l Z y bytes ml ret R n0 Q h cells slots pc Ls (.ref a :: st) := by
  intro p e s vm0 k0 m args below meth c T locs hx hZ hown hby hml hret hlk hnm hce hsl X eT N hS hk
  subst hp
  obtain ⟨T', X', e', st'⟩ := castY X hx hZ hown w eT F (g := mkF m pc Ls (.ref a :: st)) rfl rfl (hb hby hd)
  obtain ⟨s₂, o, h1, h2⟩ := k p e s vm0 k0 m args below meth c T' locs hx hZ hown hby hml hret hlk hnm hce hsl X' e' N hS hk
  exact ⟨s₂, o, st' _ h1, h2⟩
theorem own_clone {ad : String} {idx W cap : Nat} {a : Addr} {ty : FieldType} {vs : List Value} (w1 : (Jvm.Cond.methodLink y.cls idx ⟨ad, "clone", "()Ljava/lang/Object;"⟩).before a0 Z = true) (w2 : (Jvm.Cond.sameMethod ad "java/lang/Object" "clone" "()Ljava/lang/Object;").before a0 Z = true) (w3 : (Jvm.Cond.native ⟨"java/lang/Object", "clone", "()Ljava/lang/Object;"⟩).before a0 Z = true)
    (w4 : (Jvm.Cond.instanceMethod ⟨"java/lang/Object", "clone", "()Ljava/lang/Object;"⟩).before a0 Z = true) (w5 : (Jvm.Cond.selects ad ⟨ad, "clone", "()Ljava/lang/Object;"⟩ ⟨"java/lang/Object", "clone", "()Ljava/lang/Object;"⟩).before a0 Z = true) (w6 : (Jvm.Cond.castable ad "java/lang/Cloneable").before a0 Z = true)
    (A : own_A Z h a ty vs) (E : Exa Z h a ad) (hd : decode bytes pc = .ok (.invokevirtual idx, 3)) (hp : pc + 3 = pc') (hsz : Ls.size = ml) (hf : 1 ≤ R.frames) (hW : (st.map fun v => v.category).sum ≤ W) (hl : W + 14 ≤ R.locals) (hcap : vs.length ≤ cap) (hc : cells + 1 ≤ R.cells) (hsl' : slots + cap ≤ R.slots)
    (k : ∀ (h' : Heap) (b : Addr), h.size ≤ b → b < h'.size → Ext h h' → own_A Z h' b ty vs → Exa Z h' b ad → own_W l Z y bytes ml ret R n0 Q h' (cells + 1) (slots + cap) pc' Ls (.ref b :: st)) : own_W l Z y bytes ml ret R n0 Q h cells slots pc Ls (.ref a :: st) := by
  intro p e s vm0 k0 m args below meth c T locs hx hZ hown hby hml hret hlk hnm hce hsl X eT N hS hk
  subst hp
  obtain ⟨cl, A, q, hlen, hft⟩ := A
  have F : FitC Z cl := fun i v hv => by
    obtain ⟨-, k, hk, comp, hkind⟩ := A.2.1
    have e1 : Z.slotType? cl.cls .none i = some ty := by simp [State.slotType?, hk, hkind]
    have mem : v ∈ vs := by rw [← q]; rw [← Array.getElem?_toList] at hv; exact List.mem_of_getElem? hv
    simpa [State.fitsSlot, e1] using hft v mem
  obtain ⟨T', h', X', e', E', A', E2, st'⟩ := cloneA X hx hZ hown w1 w2 w3 w4 w5 w6 eT A E F (g := mkF m pc Ls (.ref a :: st)) rfl (by rw [hml]; exact hsz) rfl (hb hby hd) hf (W := W) (by show 2 * 0 + _ ≤ _; omega) hl (cap := cap) (by rw [own_size q]; exact hcap) hc hsl'
  obtain ⟨s₂, o, h1, h2⟩ := k h' h.size (Nat.le_refl _) A'.lt E' ⟨_, A', q, hlen, hft⟩ E2 p e s vm0 k0 m args below meth c T' locs hx hZ hown hby hml hret hlk hnm hc hsl' X' e' N hS (Nat.le_trans hk E'.1)
  exact ⟨s₂, o, st' _ h1, h2⟩
theorem own_getD {α : Type} (l : List α) (d : α) {i : Nat} (h : i < l.length) : l.getD i d = l[i] := by
  rw [List.getD_eq_getElem?_getD, List.getElem?_eq_getElem h]; rfl
theorem own_len32 {n : Nat} (h : n < 2 ^ 31) : n.toInt32.toNatClampNeg = n ∧ ¬ n.toInt32 < 0 := by
  have e := len_toInt h
  have z : (0 : Int32).toInt = 0 := rfl
  exact ⟨by rw [Int32.toNatClampNeg, e]; rfl, by rw [Int32.lt_iff_toInt_lt, e, z]; omega⟩
theorem own_A.arv {a : Addr} {ty : FieldType} {vs : List Value} (A : own_A Z h a ty vs) (d : Value) : ∃ k, Arv Z h a k ty vs.length.toInt32 vs d := by
  obtain ⟨c, A, q, hl, hft⟩ := A
  have e := own_len32 hl
  refine ⟨c.cls, c, A, rfl, by rw [e.1]; exact own_size q, e.2, fun k hk => ?_, fun k hk => ?_⟩
  · rw [own_size q] at hk
    refine own_get q ?_
    rw [own_getD _ _ hk]; exact List.getElem?_eq_getElem hk
  · rw [own_size q] at hk
    rw [own_getD _ _ hk]; exact hft _ (List.getElem_mem hk)
theorem own_A.ofArv {a : Addr} {ty : FieldType} {vs : List Value} {k : ClassId} {z : Int32} {d : Value} (A : Arv Z h a k ty z vs d) (hz : z.toNatClampNeg = vs.length) (hl : vs.length < 2 ^ 31) : own_A Z h a ty vs := by
  obtain ⟨c, A, -, hs, -, H, G⟩ := A
  have e : c.slots.toList = vs := by
    apply List.ext_getElem?
    intro i
    by_cases hi : i < vs.length
    · rw [Array.getElem?_toList, H i (by omega), own_getD _ _ hi, List.getElem?_eq_getElem hi]
    · rw [List.getElem?_eq_none (by rw [Array.length_toList]; omega), List.getElem?_eq_none (by omega)]
  refine ⟨c, A, e, hl, fun v hv => ?_⟩
  obtain ⟨i, hi, rfl⟩ := List.mem_iff_getElem.mp hv
  have := G i (by omega)
  rwa [own_getD _ _ hi] at this
theorem own_slice (vs : List Value) (d : Value) (p n : Nat) (h : p + n ≤ vs.length) : (vs.drop p).take n = (List.range n).map fun i => vs.getD (p + i) d := by
  apply List.ext_getElem
  · simp; omega
  · intro i h1 h2
    simp only [List.length_map, List.length_range] at h2
    simp [List.getD_eq_getElem?_getD, show p + i < vs.length by omega]
theorem own_acopy {idx W : Nat} {a b : Addr} {ty : FieldType} {vs vd : List Value} {sp dp nn : Int32} (w1 : (Jvm.Cond.methodLink y.cls idx Jvm.Stand.acN).before a0 Z = true) (w2 : (Jvm.Cond.native Jvm.Stand.acN).before a0 Z = true) (w3 : (Jvm.Cond.static Jvm.Stand.acN).before a0 Z = true) (w4 : (Jvm.Cond.initialized "java/lang/System").before a0 Z = true)
    (A : own_A Z h a ty vs) (B : own_A Z h b ty vd) (hty : refKind ty = false) (h1 : ¬ sp < 0) (h2 : ¬ dp < 0) (h3 : ¬ nn < 0) (h4 : sp.toNatClampNeg + nn.toNatClampNeg ≤ vs.length) (h5 : dp.toNatClampNeg + nn.toNatClampNeg ≤ vd.length) (ge : n0 ≤ b)
    (hd : decode bytes pc = .ok (.invokestatic idx, 3)) (hp : pc + 3 = pc') (hsz : Ls.size = ml) (hf : 1 ≤ R.frames) (hW : (st.map fun v => v.category).sum ≤ W) (hlo : W + (nativeFrameWords "java/lang/System" "arraycopy" 5 + 11) ≤ R.locals)
    (k : ∀ h', Keep h h' [b] → own_A Z h' b ty (vd.take dp.toNatClampNeg ++ (vs.drop sp.toNatClampNeg).take nn.toNatClampNeg ++ vd.drop (dp.toNatClampNeg + nn.toNatClampNeg)) → own_W l Z y bytes ml ret R n0 Q h' cells slots pc' Ls st) : own_W l Z y bytes ml ret R n0 Q h cells slots pc Ls (.int nn :: .int dp :: .ref b :: .int sp :: .ref a :: st) := by
  intro p e s vm0 k0 m args below meth c T locs hx hZ hown hby hml hret hlk hnm hce hsl X eT N hS hk
  subst hp
  have hlv : vs.length < 2 ^ 31 := by obtain ⟨_, _, _, q, _⟩ := A; exact q
  have hld : vd.length < 2 ^ 31 := by obtain ⟨_, _, _, q, _⟩ := B; exact q
  obtain ⟨k1, A1⟩ := A.arv .null
  obtain ⟨k2, B1⟩ := B.arv .null
  have e1 := own_len32 hlv
  have e2 := own_len32 hld
  obtain ⟨T', h', L, X', e', N', K', B', st'⟩ := cpA X hx hZ hown w1 w2 w3 w4 eT A1 B1 (Or.inl ⟨rfl, hty⟩) h1 h2 h3 (by rw [e1.1]; exact h4) (by rw [e2.1]; exact h5) (own_slice vs .null _ _ h4) h5 N ge (g := mkF m pc Ls (.int nn :: .int dp :: .ref b :: .int sp :: .ref a :: st)) rfl (by rw [hml]; exact hsz) rfl (hb hby hd) hf (W := W) (by show 2 * 0 + _ ≤ _; omega) hlo
  have hlen : (vd.take dp.toNatClampNeg ++ (vs.drop sp.toNatClampNeg).take nn.toNatClampNeg ++ vd.drop (dp.toNatClampNeg + nn.toNatClampNeg)).length = vd.length := by
    simp only [List.length_append, List.length_take, List.length_drop]; omega
  obtain ⟨s₂, o, q1, q2⟩ := k h' K' (own_A.ofArv B' (by rw [e2.1, hlen]) (by rw [hlen]; exact hld)) p e s vm0 k0 m args below meth c T' L hx hZ hown hby hml hret hlk hnm hce hsl X' e' N' hS (Nat.le_trans hk K'.1)
  exact ⟨s₂, o, st' _ q1, q2⟩
theorem own_ldcS {idx n : Nat} {text : String} (w : (Jvm.Cond.stringLink y.cls idx text).before a0 Z = true) (wS : ∀ d ∈ Bundle.stringAtoms, d.before a0 Z = true) (hd : decode bytes pc = .ok (.ldc idx, 2)) (hp : pc + 2 = pc') (hn : 4 * text.toList.length ≤ n) (hbig : n ≤ 536870912) (hc : cells + 2 ≤ R.cells) (hl : slots + (n + 4) ≤ R.slots)
    (k : ∀ (h' : Heap) (a : Addr), Ext h h' → own_W l Z y bytes ml ret R n0 Q h' (cells + 2) (slots + (n + 4)) pc' Ls (.ref a :: st)) : own_W l Z y bytes ml ret R n0 Q h cells slots pc Ls st := by
  intro p e s vm0 k0 m args below meth c T locs hx hZ hown hby hml hret hlk hnm hce hsl X eT N hS hk
  subst hp
  obtain ⟨a, T', h', k1, X', e', E', hS', hk', hZ', hown', st'⟩ := ldcS X hx hZ hown w wS eT hS hk (g := mkF m pc Ls st) rfl (hb hby hd) hn hbig hc hl
  obtain ⟨s₂, o, h1, h2⟩ := k h' a E' p e s T'.vm k1 m args below meth c T' locs hx hZ' hown' hby hml hret hlk hnm hc hl X' e' N hS' hk'
  exact ⟨s₂, o, st' _ h1, h2⟩
theorem own_met {z : MethodName} {rm : Room} {argsL : List Value} {Lc : Array Slot} (hC : own_W l Z z bytes ml ret rm n0 Q h 0 0 0 Lc []) (pn : plainFor z = true) (hent : Jvm.Sym.laidSlots argsL ++ List.replicate (ml - (Jvm.Sym.laidSlots argsL).length) .unset = Lc.toList) (ws : List Jvm.Cond) :
    MetFree l z (head1 (Jvm.Cond.code z bytes ml ret :: ws) rm) (fun a U => a = argsL.toArray ∧ Z.Warmed39 U.vm ∧ U.heap = h) (fun _ _ _ _ _ => True) (fun _ U o U' => ∃ v L, o = .returned v ∧ (Q v U'.heap ∧ Fr n0 L) ∧ ReturnedEndW U o U' L rm.cells rm.slots) := by
  refine MetFree.of_bodySF pn hisR ?_
  intro p e s m args below meth c s₁ Bd hml0 hP hK
  obtain ⟨rfl, hZ, hh⟩ := hP
  obtain ⟨s₂, o, h1, h2, h3, h4⟩ := hC p e s s.vm 0 m _ below meth c s₁ [] Bd.exec hZ (findClass_of_methodNamed Bd.named) Bd.bytes hml0 Bd.returns Bd.notSynchronized (name_of_methodNamed Bd.named Bd.method).1 (Nat.zero_le _) (Nat.zero_le _) (Stand.of_body Bd) (by rw [← hh, Bd.state]; rfl) (Fr.nil n0) ((State.WarmedH.refl s).since 0) (Nat.zero_le _)
  exact ⟨s₂, o, (XT.entry (by simpa using hent)).trans h1, h2, h3, h4⟩
theorem own_static {z : MethodName} {bytes' : ByteArray} {ml' : Nat} {ret' : Option FieldType} {rm : Room} {Qc : Option Value → Heap → Prop} {Lc : Array Slot} {argsL rest : List Value} {ps : List FieldType} {rt : Option FieldType} {idx W : Nat} (hC : own_W l Z z bytes' ml' ret' rm n0 Qc h 0 0 0 Lc []) (w1 : (Jvm.Cond.methodLink y.cls idx z).before a0 Z = true) (w2 : (Jvm.Cond.static z).before a0 Z = true) (w3 : (Jvm.Cond.initialized z.cls).before a0 Z = true) (w4 : (Jvm.Cond.code z bytes' ml' ret').before a0 Z = true) (pn : plainFor z = true) (hy : z.cls ≠ "java/lang/invoke/MethodHandle" ∧ z.cls ≠ "java/lang/invoke/VarHandle") (pd : parseMethodDescriptor z.desc = some ⟨ps, rt⟩) (hlen : argsL.length = ps.length)
    (hst : st = argsL.reverse ++ rest) (hent : Jvm.Sym.laidSlots argsL ++ List.replicate (ml' - (Jvm.Sym.laidSlots argsL).length) .unset = Lc.toList) (hW : (rest.map fun v => v.category).sum ≤ W) (hfr : rm.frames + 1 ≤ R.frames) (hlo : W + (ml' + 11) + rm.locals ≤ R.locals) (hce' : cells + rm.cells ≤ R.cells) (hsl' : slots + rm.slots ≤ R.slots) (hsz : Ls.size = ml) (hd : decode bytes pc = .ok (.invokestatic idx, 3)) (hp : pc + 3 = pc') (k : ∀ v h', Qc v h' → own_W l Z y bytes ml ret R n0 Q h' (cells + rm.cells) (slots + rm.slots) pc' Ls (v.toList ++ rest)) : own_W l Z y bytes ml ret R n0 Q h cells slots pc Ls st := by
  intro p e s vm0 k0 m args below meth c T locs hx hZ hown hby hml hret hlk hnm hce hsl X eT N hS hk
  subst hp
  obtain ⟨v, vm₁, ⟨T1, L1, k1, n1⟩, -, X1, hS1, hg1, ⟨Lc1, hQ1, l1, y1, z1⟩, st1⟩ := callSS X hx (y := z) hown (mvT hZ w1) (mvT hZ w2) (mvT hZ w3) (mvT hZ w4) hy (backOfS (W := W) (Q := fun v h L => Qc v h ∧ Fr n0 L) (own_met hC pn hent []) hZ w4 w3 hfr hlo) (g := mkF m pc Ls st) rfl (by rw [hml]; exact hsz) (argsL := argsL) (rest := rest) (lenOf pd hlen) hst (by show 2 * 0 + _ ≤ _; omega) (hb hby hd) (fun _ _ => ⟨rfl, eT, hce', hsl'⟩)
  dsimp only [Pt.U, Pt.locs, Pt.cells, Pt.slots] at X1 l1 y1 z1 st1 hQ1 hS1 hg1
  subst l1 y1 z1
  obtain ⟨X2, hS2, hZ2, hown2⟩ := rebS hS (show k0 ≤ T.heap.size by rw [eT]; exact hk) X1 hS1 hg1 hZ hown
  obtain ⟨s₂, o, h1, h2⟩ := k v T1.heap hQ1.1 p e s T1.vm T1.heap.size m args below meth c T1 _ hx hZ2 hown2 hby hml hret hlk hnm hce' hsl' X2 rfl (Fr.app N hQ1.2) hS2 (Nat.le_refl _)
  exact ⟨s₂, o, st1.trans h1, h2⟩
theorem own_special {z : MethodName} {bytes' : ByteArray} {ml' : Nat} {ret' : Option FieldType} {rm : Room} {Qc : Option Value → Heap → Prop} {Lc : Array Slot} {argsL rest : List Value} {ps : List FieldType} {rt : Option FieldType} {idx W : Nat} {a : Addr} (hC : own_W l Z z bytes' ml' none rm n0 Qc h 0 0 0 Lc []) (w1 : (Jvm.Cond.methodLink y.cls idx z).before a0 Z = true) (w2 : (Jvm.Cond.instanceMethod z).before a0 Z = true) (w3 : (Jvm.Cond.initialized z.cls).before a0 Z = true) (w4 : (Jvm.Cond.code z bytes' ml' none).before a0 Z = true) (hzn : z.name = "<init>") (pn : plainFor z = true) (hy : z.cls ≠ "java/lang/invoke/MethodHandle" ∧ z.cls ≠ "java/lang/invoke/VarHandle") (pd : parseMethodDescriptor z.desc = some ⟨ps, rt⟩) (hlen : argsL.length = ps.length)
    (hst : st = argsL.reverse ++ .ref a :: rest) (hent : Jvm.Sym.laidSlots (.ref a :: argsL) ++ List.replicate (ml' - (Jvm.Sym.laidSlots (.ref a :: argsL)).length) .unset = Lc.toList) (hW : (rest.map fun v => v.category).sum ≤ W) (hfr : rm.frames + 1 ≤ R.frames) (hlo : W + (ml' + 11) + rm.locals ≤ R.locals) (hce' : cells + rm.cells ≤ R.cells) (hsl' : slots + rm.slots ≤ R.slots) (hsz : Ls.size = ml) (hd : decode bytes pc = .ok (.invokespecial idx, 3)) (hp : pc + 3 = pc') (k : ∀ v h', Qc v h' → own_W l Z y bytes ml ret R n0 Q h' (cells + rm.cells) (slots + rm.slots) pc' Ls (v.toList ++ rest)) : own_W l Z y bytes ml ret R n0 Q h cells slots pc Ls st := by
  intro p e s vm0 k0 m args below meth c T locs hx hZ hown hby hml hret hlk hnm hce hsl X eT N hS hk
  subst hp
  obtain ⟨v, vm₁, ⟨T1, L1, k1, n1⟩, -, X1, hS1, hg1, ⟨Lc1, hQ1, l1, y1, z1⟩, st1⟩ := X.specialBackS hx (y := z) hzn hown (mvT hZ w1) (mvT hZ w2) (mvT hZ w4) hy (backOfS (W := W) (Q := fun v h L => Qc v h ∧ Fr n0 L) (own_met hC pn hent []) hZ w4 w3 hfr hlo) (g := mkF m pc Ls st) rfl (by rw [hml]; exact hsz) (Steps.refl _) (a := a) (argsL := argsL) (rest := rest) (lenOf pd hlen) hst (by show 2 * 0 + _ ≤ _; omega) (hb hby hd) (fun _ _ => ⟨rfl, eT, hce', hsl'⟩)
  dsimp only [Pt.U, Pt.locs, Pt.cells, Pt.slots] at X1 l1 y1 z1 st1 hQ1 hS1 hg1
  subst l1 y1 z1
  obtain ⟨X2, hS2, hZ2, hown2⟩ := rebS hS (show k0 ≤ T.heap.size by rw [eT]; exact hk) X1 hS1 hg1 hZ hown
  obtain ⟨s₂, o, h1, h2⟩ := k v T1.heap hQ1.1 p e s T1.vm T1.heap.size m args below meth c T1 _ hx hZ2 hown2 hby hml hret hlk hnm hce' hsl' X2 rfl (Fr.app N hQ1.2) hS2 (Nat.le_refl _)
  exact ⟨s₂, o, st1.trans h1, h2⟩
theorem own_virtual {z : MethodName} {bytes' : ByteArray} {ml' : Nat} {ret' : Option FieldType} {rm : Room} {Qc : Option Value → Heap → Prop} {Lc : Array Slot} {argsL rest : List Value} {ps : List FieldType} {rt : Option FieldType} {idx W : Nat} {a : Addr} {C : String} (hC : own_W l Z z bytes' ml' ret' rm n0 Qc h 0 0 0 Lc []) (E : Exa Z h a C) (w1 : (Jvm.Cond.methodLink y.cls idx z).before a0 Z = true) (w2 : (Jvm.Cond.declares z).before a0 Z = true) (w5 : (Jvm.Cond.selects C z z).before a0 Z = true) (w6 : (Jvm.Cond.instanceMethod z).before a0 Z = true) (w3 : (Jvm.Cond.initialized z.cls).before a0 Z = true) (w4 : (Jvm.Cond.code z bytes' ml' ret').before a0 Z = true) (pn : plainFor z = true) (hy : z.cls ≠ "java/lang/invoke/MethodHandle" ∧ z.cls ≠ "java/lang/invoke/VarHandle") (pd : parseMethodDescriptor z.desc = some ⟨ps, rt⟩) (hlen : argsL.length = ps.length)
    (hst : st = argsL.reverse ++ .ref a :: rest) (hent : Jvm.Sym.laidSlots (.ref a :: argsL) ++ List.replicate (ml' - (Jvm.Sym.laidSlots (.ref a :: argsL)).length) .unset = Lc.toList) (hW : (rest.map fun v => v.category).sum ≤ W) (hfr : rm.frames + 1 ≤ R.frames) (hlo : W + (ml' + 11) + rm.locals ≤ R.locals) (hce' : cells + rm.cells ≤ R.cells) (hsl' : slots + rm.slots ≤ R.slots) (hsz : Ls.size = ml) (hd : decode bytes pc = .ok (.invokevirtual idx, 3)) (hp : pc + 3 = pc') (k : ∀ v h', Qc v h' → own_W l Z y bytes ml ret R n0 Q h' (cells + rm.cells) (slots + rm.slots) pc' Ls (v.toList ++ rest)) : own_W l Z y bytes ml ret R n0 Q h cells slots pc Ls st := by
  intro p e s vm0 k0 m args below meth c T locs hx hZ hown hby hml hret hlk hnm hce hsl X eT N hS hk
  subst hp
  obtain ⟨cq, kq, qa, qb, qc⟩ := isOf hZ eT E
  obtain ⟨v, vm₁, ⟨T1, L1, k1, n1⟩, -, X1, hS1, hg1, ⟨Lc1, hQ1, l1, y1, z1⟩, st1⟩ := X.virtualBackS hx (y := z) (z := z) hown (mvT hZ w1) (mvT hZ w2) (notFace_of_selects (args := #[]) (mvT hZ w5)) (mvT hZ w5) (mvT hZ w6) hy (backOfS (W := W) (Q := fun v h L => Qc v h ∧ Fr n0 L) (own_met hC pn hent []) hZ w4 w3 hfr hlo) qa qc (g := mkF m pc Ls st) rfl (by rw [hml]; exact hsz) (Steps.refl _) (argsL := argsL) (rest := rest) (lenOf pd hlen) hst (by show 2 * 0 + _ ≤ _; omega) (hb hby hd) (fun _ _ => ⟨rfl, eT, hce', hsl'⟩)
  dsimp only [Pt.U, Pt.locs, Pt.cells, Pt.slots] at X1 l1 y1 z1 st1 hQ1 hS1 hg1
  subst l1 y1 z1
  obtain ⟨X2, hS2, hZ2, hown2⟩ := rebS hS (show k0 ≤ T.heap.size by rw [eT]; exact hk) X1 hS1 hg1 hZ hown
  obtain ⟨s₂, o, h1, h2⟩ := k v T1.heap hQ1.1 p e s T1.vm T1.heap.size m args below meth c T1 _ hx hZ2 hown2 hby hml hret hlk hnm hce' hsl' X2 rfl (Fr.app N hQ1.2) hS2 (Nat.le_refl _)
  exact ⟨s₂, o, st1.trans h1, h2⟩
theorem own_private {z : MethodName} {bytes' : ByteArray} {ml' : Nat} {ret' : Option FieldType} {rm : Room} {Qc : Option Value → Heap → Prop} {Lc : Array Slot} {argsL rest : List Value} {ps : List FieldType} {rt : Option FieldType} {idx W : Nat} {a : Addr} {C : String} {kk : Nat} (hC : own_W l Z z bytes' ml' ret' rm n0 Qc h 0 0 0 Lc []) (E : Exa Z h a C) (w1 : (Jvm.Cond.methodLink y.cls idx z).before a0 Z = true) (w6 : (Jvm.Cond.instanceMethod z).before a0 Z = true) (wp : (Jvm.Cond.privateMethod z).before a0 Z = true) (wi : (Jvm.Cond.instantiable z.cls kk).before a0 Z = true) (w3 : (Jvm.Cond.initialized z.cls).before a0 Z = true) (w4 : (Jvm.Cond.code z bytes' ml' ret').before a0 Z = true) (pn : plainFor z = true) (hy : z.cls ≠ "java/lang/invoke/MethodHandle" ∧ z.cls ≠ "java/lang/invoke/VarHandle") (pd : parseMethodDescriptor z.desc = some ⟨ps, rt⟩) (hlen : argsL.length = ps.length)
    (hst : st = argsL.reverse ++ .ref a :: rest) (hent : Jvm.Sym.laidSlots (.ref a :: argsL) ++ List.replicate (ml' - (Jvm.Sym.laidSlots (.ref a :: argsL)).length) .unset = Lc.toList) (hW : (rest.map fun v => v.category).sum ≤ W) (hfr : rm.frames + 1 ≤ R.frames) (hlo : W + (ml' + 11) + rm.locals ≤ R.locals) (hce' : cells + rm.cells ≤ R.cells) (hsl' : slots + rm.slots ≤ R.slots) (hsz : Ls.size = ml) (hd : decode bytes pc = .ok (.invokevirtual idx, 3)) (hp : pc + 3 = pc') (k : ∀ v h', Qc v h' → own_W l Z y bytes ml ret R n0 Q h' (cells + rm.cells) (slots + rm.slots) pc' Ls (v.toList ++ rest)) : own_W l Z y bytes ml ret R n0 Q h cells slots pc Ls st := by
  intro p e s vm0 k0 m args below meth c T locs hx hZ hown hby hml hret hlk hnm hce hsl X eT N hS hk
  subst hp
  obtain ⟨c2, k2, i1, i2, i3, i4, -⟩ := Cond.instantiable_spec (mvT (args := args) hZ wi)
  have hpr := Cond.privateMethod_at (mvP (args := #[]) hZ wp)
  have hsel := Jvm.Stand.selects_self_of_private (args := args) i1 i2 (Bool.or_eq_false_iff.mp i4).1 hpr (mvT hZ w6) hy
  obtain ⟨cell, qc, qo⟩ := E.cell
  obtain ⟨v, vm₁, ⟨T1, L1, k1, n1⟩, -, X1, hS1, hg1, ⟨Lc1, hQ1, l1, y1, z1⟩, st1⟩ := X.privateBackS hx (y := z) hown (mvT hZ w1) (mvT hZ w6) hsel hpr (mvT hZ w4) hy (backOfS (W := W) (Q := fun v h L => Qc v h ∧ Fr n0 L) (own_met hC pn hent []) hZ w4 w3 hfr hlo) (g := mkF m pc Ls st) rfl (by rw [hml]; exact hsz) (Steps.refl _) (a := a) (by rw [eT]; exact qc) qo (argsL := argsL) (rest := rest) (lenOf pd hlen) hst (by show 2 * 0 + _ ≤ _; omega) (hb hby hd) (fun _ _ => ⟨rfl, eT, hce', hsl'⟩)
  dsimp only [Pt.U, Pt.locs, Pt.cells, Pt.slots] at X1 l1 y1 z1 st1 hQ1 hS1 hg1
  subst l1 y1 z1
  obtain ⟨X2, hS2, hZ2, hown2⟩ := rebS hS (show k0 ≤ T.heap.size by rw [eT]; exact hk) X1 hS1 hg1 hZ hown
  obtain ⟨s₂, o, h1, h2⟩ := k v T1.heap hQ1.1 p e s T1.vm T1.heap.size m args below meth c T1 _ hx hZ2 hown2 hby hml hret hlk hnm hce' hsl' X2 rfl (Fr.app N hQ1.2) hS2 (Nat.le_refl _)
  exact ⟨s₂, o, st1.trans h1, h2⟩
end OwnW
-- LAYER END
theorem d1_0 : decode jdk_29_method_69_code 0 = .ok (.iload_n 0, 1) := by decide +kernel
theorem d1_1 : decode jdk_29_method_69_code 1 = .ok (.iload_n 1, 1) := by decide +kernel
theorem d1_2 : decode jdk_29_method_69_code 2 = .ok (.if_icmp .gt 7, 3) := by decide +kernel
theorem d1_5 : decode jdk_29_method_69_code 5 = .ok (.iload_n 0, 1) := by decide +kernel
theorem d1_6 : decode jdk_29_method_69_code 6 = .ok (.goto 4, 3) := by decide +kernel
theorem d1_9 : decode jdk_29_method_69_code 9 = .ok (.iload_n 1, 1) := by decide +kernel
theorem d1_10 : decode jdk_29_method_69_code 10 = .ok (.ireturn, 1) := by decide +kernel
theorem d2_0 : decode method_3_code 0 = .ok (.lload_n 0, 1) := by decide +kernel
theorem d2_1 : decode method_3_code 1 = .ok (.iconst 4, 1) := by decide +kernel
theorem d2_2 : decode method_3_code 2 = .ok (.iload_n 2, 1) := by decide +kernel
theorem d2_3 : decode method_3_code 3 = .ok (.imul, 1) := by decide +kernel
theorem d2_4 : decode method_3_code 4 = .ok (.lushr, 1) := by decide +kernel
theorem d2_5 : decode method_3_code 5 = .ok (.ldc2_w 37, 3) := by decide +kernel
theorem d2_8 : decode method_3_code 8 = .ok (.land, 1) := by decide +kernel
theorem d2_9 : decode method_3_code 9 = .ok (.l2i, 1) := by decide +kernel
theorem d2_10 : decode method_3_code 10 = .ok (.iconst 3, 1) := by decide +kernel
theorem d2_11 : decode method_3_code 11 = .ok (.irem, 1) := by decide +kernel
theorem d2_12 : decode method_3_code 12 = .ok (.ireturn, 1) := by decide +kernel
theorem d3_0 : decode prog_16_method_1_code 0 = .ok (.aload_n 0, 1) := by decide +kernel
theorem d3_1 : decode prog_16_method_1_code 1 = .ok (.invokespecial 3, 3) := by decide +kernel
theorem d3_4 : decode prog_16_method_1_code 4 = .ok (.aload_n 0, 1) := by decide +kernel
theorem d3_5 : decode prog_16_method_1_code 5 = .ok (.aload_n 1, 1) := by decide +kernel
theorem d3_6 : decode prog_16_method_1_code 6 = .ok (.ldc 9, 2) := by decide +kernel
theorem d3_8 : decode prog_16_method_1_code 8 = .ok (.invokestatic 11, 3) := by decide +kernel
theorem d3_11 : decode prog_16_method_1_code 11 = .ok (.checkcast 17, 3) := by decide +kernel
theorem d3_14 : decode prog_16_method_1_code 14 = .ok (.invokevirtual 19, 3) := by decide +kernel
theorem d3_17 : decode prog_16_method_1_code 17 = .ok (.checkcast 17, 3) := by decide +kernel
theorem d3_20 : decode prog_16_method_1_code 20 = .ok (.putfield 23, 3) := by decide +kernel
theorem d3_23 : decode prog_16_method_1_code 23 = .ok (.aload_n 0, 1) := by decide +kernel
theorem d3_24 : decode prog_16_method_1_code 24 = .ok (.aload_n 2, 1) := by decide +kernel
theorem d3_25 : decode prog_16_method_1_code 25 = .ok (.ldc 27, 2) := by decide +kernel
theorem d3_27 : decode prog_16_method_1_code 27 = .ok (.invokestatic 11, 3) := by decide +kernel
theorem d3_30 : decode prog_16_method_1_code 30 = .ok (.checkcast 17, 3) := by decide +kernel
theorem d3_33 : decode prog_16_method_1_code 33 = .ok (.invokevirtual 19, 3) := by decide +kernel
theorem d3_36 : decode prog_16_method_1_code 36 = .ok (.checkcast 17, 3) := by decide +kernel
theorem d3_39 : decode prog_16_method_1_code 39 = .ok (.putfield 29, 3) := by decide +kernel
theorem d3_42 : decode prog_16_method_1_code 42 = .ok (.aload_n 0, 1) := by decide +kernel
theorem d3_43 : decode prog_16_method_1_code 43 = .ok (.aload_n 3, 1) := by decide +kernel
theorem d3_44 : decode prog_16_method_1_code 44 = .ok (.ldc 31, 2) := by decide +kernel
theorem d3_46 : decode prog_16_method_1_code 46 = .ok (.invokestatic 11, 3) := by decide +kernel
theorem d3_49 : decode prog_16_method_1_code 49 = .ok (.checkcast 17, 3) := by decide +kernel
theorem d3_52 : decode prog_16_method_1_code 52 = .ok (.invokevirtual 19, 3) := by decide +kernel
theorem d3_55 : decode prog_16_method_1_code 55 = .ok (.checkcast 17, 3) := by decide +kernel
theorem d3_58 : decode prog_16_method_1_code 58 = .ok (.putfield 33, 3) := by decide +kernel
theorem d3_61 : decode prog_16_method_1_code 61 = .ok (.aload_n 0, 1) := by decide +kernel
theorem d3_62 : decode prog_16_method_1_code 62 = .ok (.aload 4, 2) := by decide +kernel
theorem d3_64 : decode prog_16_method_1_code 64 = .ok (.ldc 35, 2) := by decide +kernel
theorem d3_66 : decode prog_16_method_1_code 66 = .ok (.invokestatic 11, 3) := by decide +kernel
theorem d3_69 : decode prog_16_method_1_code 69 = .ok (.checkcast 17, 3) := by decide +kernel
theorem d3_72 : decode prog_16_method_1_code 72 = .ok (.invokevirtual 19, 3) := by decide +kernel
theorem d3_75 : decode prog_16_method_1_code 75 = .ok (.checkcast 17, 3) := by decide +kernel
theorem d3_78 : decode prog_16_method_1_code 78 = .ok (.putfield 37, 3) := by decide +kernel
theorem d3_81 : decode prog_16_method_1_code 81 = .ok (.aload_n 0, 1) := by decide +kernel
theorem d3_82 : decode prog_16_method_1_code 82 = .ok (.getfield 23, 3) := by decide +kernel
theorem d3_85 : decode prog_16_method_1_code 85 = .ok (.aload_n 0, 1) := by decide +kernel
theorem d3_86 : decode prog_16_method_1_code 86 = .ok (.getfield 29, 3) := by decide +kernel
theorem d3_89 : decode prog_16_method_1_code 89 = .ok (.aload_n 0, 1) := by decide +kernel
theorem d3_90 : decode prog_16_method_1_code 90 = .ok (.getfield 33, 3) := by decide +kernel
theorem d3_93 : decode prog_16_method_1_code 93 = .ok (.aload_n 0, 1) := by decide +kernel
theorem d3_94 : decode prog_16_method_1_code 94 = .ok (.getfield 37, 3) := by decide +kernel
theorem d3_97 : decode prog_16_method_1_code 97 = .ok (.invokestatic 39, 3) := by decide +kernel
theorem d3_100 : decode prog_16_method_1_code 100 = .ok (.aload_n 0, 1) := by decide +kernel
theorem d3_101 : decode prog_16_method_1_code 101 = .ok (.getfield 23, 3) := by decide +kernel
theorem d3_104 : decode prog_16_method_1_code 104 = .ok (.aload_n 0, 1) := by decide +kernel
theorem d3_105 : decode prog_16_method_1_code 105 = .ok (.getfield 29, 3) := by decide +kernel
theorem d3_108 : decode prog_16_method_1_code 108 = .ok (.aload_n 0, 1) := by decide +kernel
theorem d3_109 : decode prog_16_method_1_code 109 = .ok (.getfield 33, 3) := by decide +kernel
theorem d3_112 : decode prog_16_method_1_code 112 = .ok (.aload_n 0, 1) := by decide +kernel
theorem d3_113 : decode prog_16_method_1_code 113 = .ok (.getfield 37, 3) := by decide +kernel
theorem d3_116 : decode prog_16_method_1_code 116 = .ok (.invokestatic 43, 3) := by decide +kernel
theorem d3_119 : decode prog_16_method_1_code 119 = .ok (.aload_n 0, 1) := by decide +kernel
theorem d3_120 : decode prog_16_method_1_code 120 = .ok (.aload_n 0, 1) := by decide +kernel
theorem d3_121 : decode prog_16_method_1_code 121 = .ok (.getfield 29, 3) := by decide +kernel
theorem d3_124 : decode prog_16_method_1_code 124 = .ok (.invokestatic 46, 3) := by decide +kernel
theorem d3_127 : decode prog_16_method_1_code 127 = .ok (.putfield 50, 3) := by decide +kernel
theorem d3_130 : decode prog_16_method_1_code 130 = .ok (.return_, 1) := by decide +kernel
theorem d4_0 : decode object_method_1_code 0 = .ok (.return_, 1) := by decide +kernel
theorem d5_0 : decode jdk_31_method_11_code 0 = .ok (.aload_n 0, 1) := by decide +kernel
theorem d5_1 : decode jdk_31_method_11_code 1 = .ok (.ifnonnull 12, 3) := by decide +kernel
theorem d5_4 : decode jdk_31_method_11_code 4 = .ok (.new 84, 3) := by decide +kernel
theorem d5_7 : decode jdk_31_method_11_code 7 = .ok (.dup, 1) := by decide +kernel
theorem d5_8 : decode jdk_31_method_11_code 8 = .ok (.aload_n 1, 1) := by decide +kernel
theorem d5_9 : decode jdk_31_method_11_code 9 = .ok (.invokespecial 87, 3) := by decide +kernel
theorem d5_12 : decode jdk_31_method_11_code 12 = .ok (.athrow, 1) := by decide +kernel
theorem d5_13 : decode jdk_31_method_11_code 13 = .ok (.aload_n 0, 1) := by decide +kernel
theorem d5_14 : decode jdk_31_method_11_code 14 = .ok (.areturn, 1) := by decide +kernel
theorem d6_0 : decode prog_16_method_2_code 0 = .ok (.aload_n 0, 1) := by decide +kernel
theorem d6_1 : decode prog_16_method_2_code 1 = .ok (.arraylength, 1) := by decide +kernel
theorem d6_2 : decode prog_16_method_2_code 2 = .ok (.istore 4, 2) := by decide +kernel
theorem d6_4 : decode prog_16_method_2_code 4 = .ok (.iload 4, 2) := by decide +kernel
theorem d6_6 : decode prog_16_method_2_code 6 = .ok (.ifCond .ne 13, 3) := by decide +kernel
theorem d6_9 : decode prog_16_method_2_code 9 = .ok (.ldc 54, 2) := by decide +kernel
theorem d6_11 : decode prog_16_method_2_code 11 = .ok (.iconst 0, 1) := by decide +kernel
theorem d6_12 : decode prog_16_method_2_code 12 = .ok (.anewarray 4, 3) := by decide +kernel
theorem d6_15 : decode prog_16_method_2_code 15 = .ok (.invokestatic 56, 3) := by decide +kernel
theorem d6_18 : decode prog_16_method_2_code 18 = .ok (.athrow, 1) := by decide +kernel
theorem d6_19 : decode prog_16_method_2_code 19 = .ok (.aload_n 1, 1) := by decide +kernel
theorem d6_20 : decode prog_16_method_2_code 20 = .ok (.arraylength, 1) := by decide +kernel
theorem d6_21 : decode prog_16_method_2_code 21 = .ok (.iload 4, 2) := by decide +kernel
theorem d6_23 : decode prog_16_method_2_code 23 = .ok (.if_icmp .eq 29, 3) := by decide +kernel
theorem d6_26 : decode prog_16_method_2_code 26 = .ok (.ldc 60, 2) := by decide +kernel
theorem d6_28 : decode prog_16_method_2_code 28 = .ok (.iconst 2, 1) := by decide +kernel
theorem d6_29 : decode prog_16_method_2_code 29 = .ok (.anewarray 4, 3) := by decide +kernel
theorem d6_32 : decode prog_16_method_2_code 32 = .ok (.dup, 1) := by decide +kernel
theorem d6_33 : decode prog_16_method_2_code 33 = .ok (.iconst 0, 1) := by decide +kernel
theorem d6_34 : decode prog_16_method_2_code 34 = .ok (.iload 4, 2) := by decide +kernel
theorem d6_36 : decode prog_16_method_2_code 36 = .ok (.invokestatic 62, 3) := by decide +kernel
theorem d6_39 : decode prog_16_method_2_code 39 = .ok (.aastore, 1) := by decide +kernel
theorem d6_40 : decode prog_16_method_2_code 40 = .ok (.dup, 1) := by decide +kernel
theorem d6_41 : decode prog_16_method_2_code 41 = .ok (.iconst 1, 1) := by decide +kernel
theorem d6_42 : decode prog_16_method_2_code 42 = .ok (.aload_n 1, 1) := by decide +kernel
theorem d6_43 : decode prog_16_method_2_code 43 = .ok (.arraylength, 1) := by decide +kernel
theorem d6_44 : decode prog_16_method_2_code 44 = .ok (.invokestatic 62, 3) := by decide +kernel
theorem d6_47 : decode prog_16_method_2_code 47 = .ok (.aastore, 1) := by decide +kernel
theorem d6_48 : decode prog_16_method_2_code 48 = .ok (.invokestatic 56, 3) := by decide +kernel
theorem d6_51 : decode prog_16_method_2_code 51 = .ok (.athrow, 1) := by decide +kernel
theorem d6_52 : decode prog_16_method_2_code 52 = .ok (.aload_n 2, 1) := by decide +kernel
theorem d6_53 : decode prog_16_method_2_code 53 = .ok (.arraylength, 1) := by decide +kernel
theorem d6_54 : decode prog_16_method_2_code 54 = .ok (.iload 4, 2) := by decide +kernel
theorem d6_56 : decode prog_16_method_2_code 56 = .ok (.iconst 1, 1) := by decide +kernel
theorem d6_57 : decode prog_16_method_2_code 57 = .ok (.iadd, 1) := by decide +kernel
theorem d6_58 : decode prog_16_method_2_code 58 = .ok (.if_icmp .eq 31, 3) := by decide +kernel
theorem d6_61 : decode prog_16_method_2_code 61 = .ok (.ldc 66, 2) := by decide +kernel
theorem d6_63 : decode prog_16_method_2_code 63 = .ok (.iconst 2, 1) := by decide +kernel
theorem d6_64 : decode prog_16_method_2_code 64 = .ok (.anewarray 4, 3) := by decide +kernel
theorem d6_67 : decode prog_16_method_2_code 67 = .ok (.dup, 1) := by decide +kernel
theorem d6_68 : decode prog_16_method_2_code 68 = .ok (.iconst 0, 1) := by decide +kernel
theorem d6_69 : decode prog_16_method_2_code 69 = .ok (.aload_n 2, 1) := by decide +kernel
theorem d6_70 : decode prog_16_method_2_code 70 = .ok (.arraylength, 1) := by decide +kernel
theorem d6_71 : decode prog_16_method_2_code 71 = .ok (.invokestatic 62, 3) := by decide +kernel
theorem d6_74 : decode prog_16_method_2_code 74 = .ok (.aastore, 1) := by decide +kernel
theorem d6_75 : decode prog_16_method_2_code 75 = .ok (.dup, 1) := by decide +kernel
theorem d6_76 : decode prog_16_method_2_code 76 = .ok (.iconst 1, 1) := by decide +kernel
theorem d6_77 : decode prog_16_method_2_code 77 = .ok (.iload 4, 2) := by decide +kernel
theorem d6_79 : decode prog_16_method_2_code 79 = .ok (.iconst 1, 1) := by decide +kernel
theorem d6_80 : decode prog_16_method_2_code 80 = .ok (.iadd, 1) := by decide +kernel
theorem d6_81 : decode prog_16_method_2_code 81 = .ok (.invokestatic 62, 3) := by decide +kernel
theorem d6_84 : decode prog_16_method_2_code 84 = .ok (.aastore, 1) := by decide +kernel
theorem d6_85 : decode prog_16_method_2_code 85 = .ok (.invokestatic 56, 3) := by decide +kernel
theorem d6_88 : decode prog_16_method_2_code 88 = .ok (.athrow, 1) := by decide +kernel
theorem d6_89 : decode prog_16_method_2_code 89 = .ok (.aload_n 2, 1) := by decide +kernel
theorem d6_90 : decode prog_16_method_2_code 90 = .ok (.iconst 0, 1) := by decide +kernel
theorem d6_91 : decode prog_16_method_2_code 91 = .ok (.iaload, 1) := by decide +kernel
theorem d6_92 : decode prog_16_method_2_code 92 = .ok (.ifCond .ne 12, 3) := by decide +kernel
theorem d6_95 : decode prog_16_method_2_code 95 = .ok (.aload_n 2, 1) := by decide +kernel
theorem d6_96 : decode prog_16_method_2_code 96 = .ok (.iload 4, 2) := by decide +kernel
theorem d6_98 : decode prog_16_method_2_code 98 = .ok (.iaload, 1) := by decide +kernel
theorem d6_99 : decode prog_16_method_2_code 99 = .ok (.aload_n 3, 1) := by decide +kernel
theorem d6_100 : decode prog_16_method_2_code 100 = .ok (.arraylength, 1) := by decide +kernel
theorem d6_101 : decode prog_16_method_2_code 101 = .ok (.if_icmp .eq 40, 3) := by decide +kernel
theorem d6_104 : decode prog_16_method_2_code 104 = .ok (.ldc 68, 2) := by decide +kernel
theorem d6_106 : decode prog_16_method_2_code 106 = .ok (.iconst 3, 1) := by decide +kernel
theorem d6_107 : decode prog_16_method_2_code 107 = .ok (.anewarray 4, 3) := by decide +kernel
theorem d6_110 : decode prog_16_method_2_code 110 = .ok (.dup, 1) := by decide +kernel
theorem d6_111 : decode prog_16_method_2_code 111 = .ok (.iconst 0, 1) := by decide +kernel
theorem d6_112 : decode prog_16_method_2_code 112 = .ok (.aload_n 2, 1) := by decide +kernel
theorem d6_113 : decode prog_16_method_2_code 113 = .ok (.iconst 0, 1) := by decide +kernel
theorem d6_114 : decode prog_16_method_2_code 114 = .ok (.iaload, 1) := by decide +kernel
theorem d6_115 : decode prog_16_method_2_code 115 = .ok (.invokestatic 62, 3) := by decide +kernel
theorem d6_118 : decode prog_16_method_2_code 118 = .ok (.aastore, 1) := by decide +kernel
theorem d6_119 : decode prog_16_method_2_code 119 = .ok (.dup, 1) := by decide +kernel
theorem d6_120 : decode prog_16_method_2_code 120 = .ok (.iconst 1, 1) := by decide +kernel
theorem d6_121 : decode prog_16_method_2_code 121 = .ok (.aload_n 2, 1) := by decide +kernel
theorem d6_122 : decode prog_16_method_2_code 122 = .ok (.iload 4, 2) := by decide +kernel
theorem d6_124 : decode prog_16_method_2_code 124 = .ok (.iaload, 1) := by decide +kernel
theorem d6_125 : decode prog_16_method_2_code 125 = .ok (.invokestatic 62, 3) := by decide +kernel
theorem d6_128 : decode prog_16_method_2_code 128 = .ok (.aastore, 1) := by decide +kernel
theorem d6_129 : decode prog_16_method_2_code 129 = .ok (.dup, 1) := by decide +kernel
theorem d6_130 : decode prog_16_method_2_code 130 = .ok (.iconst 2, 1) := by decide +kernel
theorem d6_131 : decode prog_16_method_2_code 131 = .ok (.aload_n 3, 1) := by decide +kernel
theorem d6_132 : decode prog_16_method_2_code 132 = .ok (.arraylength, 1) := by decide +kernel
theorem d6_133 : decode prog_16_method_2_code 133 = .ok (.invokestatic 62, 3) := by decide +kernel
theorem d6_136 : decode prog_16_method_2_code 136 = .ok (.aastore, 1) := by decide +kernel
theorem d6_137 : decode prog_16_method_2_code 137 = .ok (.invokestatic 56, 3) := by decide +kernel
theorem d6_140 : decode prog_16_method_2_code 140 = .ok (.athrow, 1) := by decide +kernel
theorem d6_141 : decode prog_16_method_2_code 141 = .ok (.iconst 0, 1) := by decide +kernel
theorem d6_142 : decode prog_16_method_2_code 142 = .ok (.istore 5, 2) := by decide +kernel
theorem d6_144 : decode prog_16_method_2_code 144 = .ok (.iload 5, 2) := by decide +kernel
theorem d6_146 : decode prog_16_method_2_code 146 = .ok (.iload 4, 2) := by decide +kernel
theorem d6_148 : decode prog_16_method_2_code 148 = .ok (.if_icmp .ge 50, 3) := by decide +kernel
theorem d6_151 : decode prog_16_method_2_code 151 = .ok (.aload_n 2, 1) := by decide +kernel
theorem d6_152 : decode prog_16_method_2_code 152 = .ok (.iload 5, 2) := by decide +kernel
theorem d6_154 : decode prog_16_method_2_code 154 = .ok (.iconst 1, 1) := by decide +kernel
theorem d6_155 : decode prog_16_method_2_code 155 = .ok (.iadd, 1) := by decide +kernel
theorem d6_156 : decode prog_16_method_2_code 156 = .ok (.iaload, 1) := by decide +kernel
theorem d6_157 : decode prog_16_method_2_code 157 = .ok (.aload_n 2, 1) := by decide +kernel
theorem d6_158 : decode prog_16_method_2_code 158 = .ok (.iload 5, 2) := by decide +kernel
theorem d6_160 : decode prog_16_method_2_code 160 = .ok (.iaload, 1) := by decide +kernel
theorem d6_161 : decode prog_16_method_2_code 161 = .ok (.if_icmp .ge 31, 3) := by decide +kernel
theorem d6_164 : decode prog_16_method_2_code 164 = .ok (.ldc 70, 2) := by decide +kernel
theorem d6_166 : decode prog_16_method_2_code 166 = .ok (.iconst 2, 1) := by decide +kernel
theorem d6_167 : decode prog_16_method_2_code 167 = .ok (.anewarray 4, 3) := by decide +kernel
theorem d6_170 : decode prog_16_method_2_code 170 = .ok (.dup, 1) := by decide +kernel
theorem d6_171 : decode prog_16_method_2_code 171 = .ok (.iconst 0, 1) := by decide +kernel
theorem d6_172 : decode prog_16_method_2_code 172 = .ok (.iload 5, 2) := by decide +kernel
theorem d6_174 : decode prog_16_method_2_code 174 = .ok (.iconst 1, 1) := by decide +kernel
theorem d6_175 : decode prog_16_method_2_code 175 = .ok (.iadd, 1) := by decide +kernel
theorem d6_176 : decode prog_16_method_2_code 176 = .ok (.invokestatic 62, 3) := by decide +kernel
theorem d6_179 : decode prog_16_method_2_code 179 = .ok (.aastore, 1) := by decide +kernel
theorem d6_180 : decode prog_16_method_2_code 180 = .ok (.dup, 1) := by decide +kernel
theorem d6_181 : decode prog_16_method_2_code 181 = .ok (.iconst 1, 1) := by decide +kernel
theorem d6_182 : decode prog_16_method_2_code 182 = .ok (.iload 5, 2) := by decide +kernel
theorem d6_184 : decode prog_16_method_2_code 184 = .ok (.invokestatic 62, 3) := by decide +kernel
theorem d6_187 : decode prog_16_method_2_code 187 = .ok (.aastore, 1) := by decide +kernel
theorem d6_188 : decode prog_16_method_2_code 188 = .ok (.invokestatic 56, 3) := by decide +kernel
theorem d6_191 : decode prog_16_method_2_code 191 = .ok (.athrow, 1) := by decide +kernel
theorem d6_192 : decode prog_16_method_2_code 192 = .ok (.iinc 5 1, 3) := by decide +kernel
theorem d6_195 : decode prog_16_method_2_code 195 = .ok (.goto (-51), 3) := by decide +kernel
theorem d6_198 : decode prog_16_method_2_code 198 = .ok (.return_, 1) := by decide +kernel
theorem d7_0 : decode prog_16_method_3_code 0 = .ok (.iconst 0, 1) := by decide +kernel
theorem d7_1 : decode prog_16_method_3_code 1 = .ok (.istore 4, 2) := by decide +kernel
theorem d7_3 : decode prog_16_method_3_code 3 = .ok (.iload 4, 2) := by decide +kernel
theorem d7_5 : decode prog_16_method_3_code 5 = .ok (.aload_n 0, 1) := by decide +kernel
theorem d7_6 : decode prog_16_method_3_code 6 = .ok (.arraylength, 1) := by decide +kernel
theorem d7_7 : decode prog_16_method_3_code 7 = .ok (.if_icmp .ge 35, 3) := by decide +kernel
theorem d7_10 : decode prog_16_method_3_code 10 = .ok (.iload 4, 2) := by decide +kernel
theorem d7_12 : decode prog_16_method_3_code 12 = .ok (.aload_n 0, 1) := by decide +kernel
theorem d7_13 : decode prog_16_method_3_code 13 = .ok (.iload 4, 2) := by decide +kernel
theorem d7_15 : decode prog_16_method_3_code 15 = .ok (.iaload, 1) := by decide +kernel
theorem d7_16 : decode prog_16_method_3_code 16 = .ok (.aload_n 1, 1) := by decide +kernel
theorem d7_17 : decode prog_16_method_3_code 17 = .ok (.iload 4, 2) := by decide +kernel
theorem d7_19 : decode prog_16_method_3_code 19 = .ok (.iaload, 1) := by decide +kernel
theorem d7_20 : decode prog_16_method_3_code 20 = .ok (.aload_n 3, 1) := by decide +kernel
theorem d7_21 : decode prog_16_method_3_code 21 = .ok (.aload_n 2, 1) := by decide +kernel
theorem d7_22 : decode prog_16_method_3_code 22 = .ok (.iload 4, 2) := by decide +kernel
theorem d7_24 : decode prog_16_method_3_code 24 = .ok (.iaload, 1) := by decide +kernel
theorem d7_25 : decode prog_16_method_3_code 25 = .ok (.aload_n 2, 1) := by decide +kernel
theorem d7_26 : decode prog_16_method_3_code 26 = .ok (.iload 4, 2) := by decide +kernel
theorem d7_28 : decode prog_16_method_3_code 28 = .ok (.iconst 1, 1) := by decide +kernel
theorem d7_29 : decode prog_16_method_3_code 29 = .ok (.iadd, 1) := by decide +kernel
theorem d7_30 : decode prog_16_method_3_code 30 = .ok (.iaload, 1) := by decide +kernel
theorem d7_31 : decode prog_16_method_3_code 31 = .ok (.aload_n 0, 1) := by decide +kernel
theorem d7_32 : decode prog_16_method_3_code 32 = .ok (.arraylength, 1) := by decide +kernel
theorem d7_33 : decode prog_16_method_3_code 33 = .ok (.invokestatic 72, 3) := by decide +kernel
theorem d7_36 : decode prog_16_method_3_code 36 = .ok (.iinc 4 1, 3) := by decide +kernel
theorem d7_39 : decode prog_16_method_3_code 39 = .ok (.goto (-36), 3) := by decide +kernel
theorem d7_42 : decode prog_16_method_3_code 42 = .ok (.return_, 1) := by decide +kernel
theorem d8_0 : decode prog_16_method_4_code 0 = .ok (.iload_n 1, 1) := by decide +kernel
theorem d8_1 : decode prog_16_method_4_code 1 = .ok (.ifCond .eq 32, 3) := by decide +kernel
theorem d8_4 : decode prog_16_method_4_code 4 = .ok (.iload_n 1, 1) := by decide +kernel
theorem d8_5 : decode prog_16_method_4_code 5 = .ok (.iconst 1, 1) := by decide +kernel
theorem d8_6 : decode prog_16_method_4_code 6 = .ok (.if_icmp .eq 27, 3) := by decide +kernel
theorem d8_9 : decode prog_16_method_4_code 9 = .ok (.ldc 76, 2) := by decide +kernel
theorem d8_11 : decode prog_16_method_4_code 11 = .ok (.iconst 2, 1) := by decide +kernel
theorem d8_12 : decode prog_16_method_4_code 12 = .ok (.anewarray 4, 3) := by decide +kernel
theorem d8_15 : decode prog_16_method_4_code 15 = .ok (.dup, 1) := by decide +kernel
theorem d8_16 : decode prog_16_method_4_code 16 = .ok (.iconst 0, 1) := by decide +kernel
theorem d8_17 : decode prog_16_method_4_code 17 = .ok (.iload_n 0, 1) := by decide +kernel
theorem d8_18 : decode prog_16_method_4_code 18 = .ok (.invokestatic 62, 3) := by decide +kernel
theorem d8_21 : decode prog_16_method_4_code 21 = .ok (.aastore, 1) := by decide +kernel
theorem d8_22 : decode prog_16_method_4_code 22 = .ok (.dup, 1) := by decide +kernel
theorem d8_23 : decode prog_16_method_4_code 23 = .ok (.iconst 1, 1) := by decide +kernel
theorem d8_24 : decode prog_16_method_4_code 24 = .ok (.iload_n 1, 1) := by decide +kernel
theorem d8_25 : decode prog_16_method_4_code 25 = .ok (.invokestatic 62, 3) := by decide +kernel
theorem d8_28 : decode prog_16_method_4_code 28 = .ok (.aastore, 1) := by decide +kernel
theorem d8_29 : decode prog_16_method_4_code 29 = .ok (.invokestatic 56, 3) := by decide +kernel
theorem d8_32 : decode prog_16_method_4_code 32 = .ok (.athrow, 1) := by decide +kernel
theorem d8_33 : decode prog_16_method_4_code 33 = .ok (.iload_n 2, 1) := by decide +kernel
theorem d8_34 : decode prog_16_method_4_code 34 = .ok (.ifCond .ge 27, 3) := by decide +kernel
theorem d8_37 : decode prog_16_method_4_code 37 = .ok (.ldc 78, 2) := by decide +kernel
theorem d8_39 : decode prog_16_method_4_code 39 = .ok (.iconst 2, 1) := by decide +kernel
theorem d8_40 : decode prog_16_method_4_code 40 = .ok (.anewarray 4, 3) := by decide +kernel
theorem d8_43 : decode prog_16_method_4_code 43 = .ok (.dup, 1) := by decide +kernel
theorem d8_44 : decode prog_16_method_4_code 44 = .ok (.iconst 0, 1) := by decide +kernel
theorem d8_45 : decode prog_16_method_4_code 45 = .ok (.iload_n 0, 1) := by decide +kernel
theorem d8_46 : decode prog_16_method_4_code 46 = .ok (.invokestatic 62, 3) := by decide +kernel
theorem d8_49 : decode prog_16_method_4_code 49 = .ok (.aastore, 1) := by decide +kernel
theorem d8_50 : decode prog_16_method_4_code 50 = .ok (.dup, 1) := by decide +kernel
theorem d8_51 : decode prog_16_method_4_code 51 = .ok (.iconst 1, 1) := by decide +kernel
theorem d8_52 : decode prog_16_method_4_code 52 = .ok (.iload_n 2, 1) := by decide +kernel
theorem d8_53 : decode prog_16_method_4_code 53 = .ok (.invokestatic 62, 3) := by decide +kernel
theorem d8_56 : decode prog_16_method_4_code 56 = .ok (.aastore, 1) := by decide +kernel
theorem d8_57 : decode prog_16_method_4_code 57 = .ok (.invokestatic 56, 3) := by decide +kernel
theorem d8_60 : decode prog_16_method_4_code 60 = .ok (.athrow, 1) := by decide +kernel
theorem d8_61 : decode prog_16_method_4_code 61 = .ok (.iload 5, 2) := by decide +kernel
theorem d8_63 : decode prog_16_method_4_code 63 = .ok (.iload 4, 2) := by decide +kernel
theorem d8_65 : decode prog_16_method_4_code 65 = .ok (.if_icmp .ne 20, 3) := by decide +kernel
theorem d8_68 : decode prog_16_method_4_code 68 = .ok (.ldc 80, 2) := by decide +kernel
theorem d8_70 : decode prog_16_method_4_code 70 = .ok (.iconst 1, 1) := by decide +kernel
theorem d8_71 : decode prog_16_method_4_code 71 = .ok (.anewarray 4, 3) := by decide +kernel
theorem d8_74 : decode prog_16_method_4_code 74 = .ok (.dup, 1) := by decide +kernel
theorem d8_75 : decode prog_16_method_4_code 75 = .ok (.iconst 0, 1) := by decide +kernel
theorem d8_76 : decode prog_16_method_4_code 76 = .ok (.iload_n 0, 1) := by decide +kernel
theorem d8_77 : decode prog_16_method_4_code 77 = .ok (.invokestatic 62, 3) := by decide +kernel
theorem d8_80 : decode prog_16_method_4_code 80 = .ok (.aastore, 1) := by decide +kernel
theorem d8_81 : decode prog_16_method_4_code 81 = .ok (.invokestatic 56, 3) := by decide +kernel
theorem d8_84 : decode prog_16_method_4_code 84 = .ok (.athrow, 1) := by decide +kernel
theorem d8_85 : decode prog_16_method_4_code 85 = .ok (.iload 4, 2) := by decide +kernel
theorem d8_87 : decode prog_16_method_4_code 87 = .ok (.istore 7, 2) := by decide +kernel
theorem d8_89 : decode prog_16_method_4_code 89 = .ok (.iload 7, 2) := by decide +kernel
theorem d8_91 : decode prog_16_method_4_code 91 = .ok (.iload 5, 2) := by decide +kernel
theorem d8_93 : decode prog_16_method_4_code 93 = .ok (.if_icmp .ge 62, 3) := by decide +kernel
theorem d8_96 : decode prog_16_method_4_code 96 = .ok (.aload_n 3, 1) := by decide +kernel
theorem d8_97 : decode prog_16_method_4_code 97 = .ok (.iload 7, 2) := by decide +kernel
theorem d8_99 : decode prog_16_method_4_code 99 = .ok (.iaload, 1) := by decide +kernel
theorem d8_100 : decode prog_16_method_4_code 100 = .ok (.istore 8, 2) := by decide +kernel
theorem d8_102 : decode prog_16_method_4_code 102 = .ok (.iload 8, 2) := by decide +kernel
theorem d8_104 : decode prog_16_method_4_code 104 = .ok (.ifCond .lt 10, 3) := by decide +kernel
theorem d8_107 : decode prog_16_method_4_code 107 = .ok (.iload 8, 2) := by decide +kernel
theorem d8_109 : decode prog_16_method_4_code 109 = .ok (.iload 6, 2) := by decide +kernel
theorem d8_111 : decode prog_16_method_4_code 111 = .ok (.if_icmp .lt 38, 3) := by decide +kernel
theorem d8_114 : decode prog_16_method_4_code 114 = .ok (.ldc 82, 2) := by decide +kernel
theorem d8_116 : decode prog_16_method_4_code 116 = .ok (.iconst 3, 1) := by decide +kernel
theorem d8_117 : decode prog_16_method_4_code 117 = .ok (.anewarray 4, 3) := by decide +kernel
theorem d8_120 : decode prog_16_method_4_code 120 = .ok (.dup, 1) := by decide +kernel
theorem d8_121 : decode prog_16_method_4_code 121 = .ok (.iconst 0, 1) := by decide +kernel
theorem d8_122 : decode prog_16_method_4_code 122 = .ok (.iload_n 0, 1) := by decide +kernel
theorem d8_123 : decode prog_16_method_4_code 123 = .ok (.invokestatic 62, 3) := by decide +kernel
theorem d8_126 : decode prog_16_method_4_code 126 = .ok (.aastore, 1) := by decide +kernel
theorem d8_127 : decode prog_16_method_4_code 127 = .ok (.dup, 1) := by decide +kernel
theorem d8_128 : decode prog_16_method_4_code 128 = .ok (.iconst 1, 1) := by decide +kernel
theorem d8_129 : decode prog_16_method_4_code 129 = .ok (.iload 8, 2) := by decide +kernel
theorem d8_131 : decode prog_16_method_4_code 131 = .ok (.invokestatic 62, 3) := by decide +kernel
theorem d8_134 : decode prog_16_method_4_code 134 = .ok (.aastore, 1) := by decide +kernel
theorem d8_135 : decode prog_16_method_4_code 135 = .ok (.dup, 1) := by decide +kernel
theorem d8_136 : decode prog_16_method_4_code 136 = .ok (.iconst 2, 1) := by decide +kernel
theorem d8_137 : decode prog_16_method_4_code 137 = .ok (.iload 6, 2) := by decide +kernel
theorem d8_139 : decode prog_16_method_4_code 139 = .ok (.iconst 1, 1) := by decide +kernel
theorem d8_140 : decode prog_16_method_4_code 140 = .ok (.isub, 1) := by decide +kernel
theorem d8_141 : decode prog_16_method_4_code 141 = .ok (.invokestatic 62, 3) := by decide +kernel
theorem d8_144 : decode prog_16_method_4_code 144 = .ok (.aastore, 1) := by decide +kernel
theorem d8_145 : decode prog_16_method_4_code 145 = .ok (.invokestatic 56, 3) := by decide +kernel
theorem d8_148 : decode prog_16_method_4_code 148 = .ok (.athrow, 1) := by decide +kernel
theorem d8_149 : decode prog_16_method_4_code 149 = .ok (.iinc 7 1, 3) := by decide +kernel
theorem d8_152 : decode prog_16_method_4_code 152 = .ok (.goto (-63), 3) := by decide +kernel
theorem d8_155 : decode prog_16_method_4_code 155 = .ok (.return_, 1) := by decide +kernel
theorem d9_0 : decode prog_16_method_6_code 0 = .ok (.aload_n 0, 1) := by decide +kernel
theorem d9_1 : decode prog_16_method_6_code 1 = .ok (.iconst 0, 1) := by decide +kernel
theorem d9_2 : decode prog_16_method_6_code 2 = .ok (.iaload, 1) := by decide +kernel
theorem d9_3 : decode prog_16_method_6_code 3 = .ok (.istore_n 1, 1) := by decide +kernel
theorem d9_4 : decode prog_16_method_6_code 4 = .ok (.aload_n 0, 1) := by decide +kernel
theorem d9_5 : decode prog_16_method_6_code 5 = .ok (.astore_n 2, 1) := by decide +kernel
theorem d9_6 : decode prog_16_method_6_code 6 = .ok (.aload_n 2, 1) := by decide +kernel
theorem d9_7 : decode prog_16_method_6_code 7 = .ok (.arraylength, 1) := by decide +kernel
theorem d9_8 : decode prog_16_method_6_code 8 = .ok (.istore_n 3, 1) := by decide +kernel
theorem d9_9 : decode prog_16_method_6_code 9 = .ok (.iconst 0, 1) := by decide +kernel
theorem d9_10 : decode prog_16_method_6_code 10 = .ok (.istore 4, 2) := by decide +kernel
theorem d9_12 : decode prog_16_method_6_code 12 = .ok (.iload 4, 2) := by decide +kernel
theorem d9_14 : decode prog_16_method_6_code 14 = .ok (.iload_n 3, 1) := by decide +kernel
theorem d9_15 : decode prog_16_method_6_code 15 = .ok (.if_icmp .ge 22, 3) := by decide +kernel
theorem d9_18 : decode prog_16_method_6_code 18 = .ok (.aload_n 2, 1) := by decide +kernel
theorem d9_19 : decode prog_16_method_6_code 19 = .ok (.iload 4, 2) := by decide +kernel
theorem d9_21 : decode prog_16_method_6_code 21 = .ok (.iaload, 1) := by decide +kernel
theorem d9_22 : decode prog_16_method_6_code 22 = .ok (.istore 5, 2) := by decide +kernel
theorem d9_24 : decode prog_16_method_6_code 24 = .ok (.iload_n 1, 1) := by decide +kernel
theorem d9_25 : decode prog_16_method_6_code 25 = .ok (.iload 5, 2) := by decide +kernel
theorem d9_27 : decode prog_16_method_6_code 27 = .ok (.invokestatic 101, 3) := by decide +kernel
theorem d9_30 : decode prog_16_method_6_code 30 = .ok (.istore_n 1, 1) := by decide +kernel
theorem d9_31 : decode prog_16_method_6_code 31 = .ok (.iinc 4 1, 3) := by decide +kernel
theorem d9_34 : decode prog_16_method_6_code 34 = .ok (.goto (-22), 3) := by decide +kernel
theorem d9_37 : decode prog_16_method_6_code 37 = .ok (.iload_n 1, 1) := by decide +kernel
theorem d9_38 : decode prog_16_method_6_code 38 = .ok (.ireturn, 1) := by decide +kernel
theorem d10_0 : decode jdk_29_method_65_code 0 = .ok (.iload_n 0, 1) := by decide +kernel
theorem d10_1 : decode jdk_29_method_65_code 1 = .ok (.iload_n 1, 1) := by decide +kernel
theorem d10_2 : decode jdk_29_method_65_code 2 = .ok (.if_icmp .lt 7, 3) := by decide +kernel
theorem d10_5 : decode jdk_29_method_65_code 5 = .ok (.iload_n 0, 1) := by decide +kernel
theorem d10_6 : decode jdk_29_method_65_code 6 = .ok (.goto 4, 3) := by decide +kernel
theorem d10_9 : decode jdk_29_method_65_code 9 = .ok (.iload_n 1, 1) := by decide +kernel
theorem d10_10 : decode jdk_29_method_65_code 10 = .ok (.ireturn, 1) := by decide +kernel
theorem d11_0 : decode prog_1_method_1_code 0 = .ok (.aload_n 0, 1) := by decide +kernel
theorem d11_1 : decode prog_1_method_1_code 1 = .ok (.invokespecial 1, 3) := by decide +kernel
theorem d11_4 : decode prog_1_method_1_code 4 = .ok (.aload_n 1, 1) := by decide +kernel
theorem d11_5 : decode prog_1_method_1_code 5 = .ok (.invokevirtual 7, 3) := by decide +kernel
theorem d11_8 : decode prog_1_method_1_code 8 = .ok (.istore_n 2, 1) := by decide +kernel
theorem d11_9 : decode prog_1_method_1_code 9 = .ok (.aload_n 0, 1) := by decide +kernel
theorem d11_10 : decode prog_1_method_1_code 10 = .ok (.iload_n 2, 1) := by decide +kernel
theorem d11_11 : decode prog_1_method_1_code 11 = .ok (.iconst 1, 1) := by decide +kernel
theorem d11_12 : decode prog_1_method_1_code 12 = .ok (.iadd, 1) := by decide +kernel
theorem d11_13 : decode prog_1_method_1_code 13 = .ok (.newarray .int, 2) := by decide +kernel
theorem d11_15 : decode prog_1_method_1_code 15 = .ok (.putfield 13, 3) := by decide +kernel
theorem d11_18 : decode prog_1_method_1_code 18 = .ok (.aload_n 0, 1) := by decide +kernel
theorem d11_19 : decode prog_1_method_1_code 19 = .ok (.aload_n 1, 1) := by decide +kernel
theorem d11_20 : decode prog_1_method_1_code 20 = .ok (.invokevirtual 19, 3) := by decide +kernel
theorem d11_23 : decode prog_1_method_1_code 23 = .ok (.newarray .int, 2) := by decide +kernel
theorem d11_25 : decode prog_1_method_1_code 25 = .ok (.putfield 22, 3) := by decide +kernel
theorem d11_28 : decode prog_1_method_1_code 28 = .ok (.iconst 0, 1) := by decide +kernel
theorem d11_29 : decode prog_1_method_1_code 29 = .ok (.istore_n 3, 1) := by decide +kernel
theorem d11_30 : decode prog_1_method_1_code 30 = .ok (.iload_n 3, 1) := by decide +kernel
theorem d11_31 : decode prog_1_method_1_code 31 = .ok (.iload_n 2, 1) := by decide +kernel
theorem d11_32 : decode prog_1_method_1_code 32 = .ok (.if_icmp .ge 46, 3) := by decide +kernel
theorem d11_35 : decode prog_1_method_1_code 35 = .ok (.iconst 0, 1) := by decide +kernel
theorem d11_36 : decode prog_1_method_1_code 36 = .ok (.istore 4, 2) := by decide +kernel
theorem d11_38 : decode prog_1_method_1_code 38 = .ok (.iload 4, 2) := by decide +kernel
theorem d11_40 : decode prog_1_method_1_code 40 = .ok (.aload_n 1, 1) := by decide +kernel
theorem d11_41 : decode prog_1_method_1_code 41 = .ok (.iload_n 3, 1) := by decide +kernel
theorem d11_42 : decode prog_1_method_1_code 42 = .ok (.invokevirtual 25, 3) := by decide +kernel
theorem d11_45 : decode prog_1_method_1_code 45 = .ok (.if_icmp .ge 27, 3) := by decide +kernel
theorem d11_48 : decode prog_1_method_1_code 48 = .ok (.aload_n 0, 1) := by decide +kernel
theorem d11_49 : decode prog_1_method_1_code 49 = .ok (.getfield 13, 3) := by decide +kernel
theorem d11_52 : decode prog_1_method_1_code 52 = .ok (.aload_n 1, 1) := by decide +kernel
theorem d11_53 : decode prog_1_method_1_code 53 = .ok (.iload_n 3, 1) := by decide +kernel
theorem d11_54 : decode prog_1_method_1_code 54 = .ok (.iload 4, 2) := by decide +kernel
theorem d11_56 : decode prog_1_method_1_code 56 = .ok (.invokevirtual 29, 3) := by decide +kernel
theorem d11_59 : decode prog_1_method_1_code 59 = .ok (.iconst 1, 1) := by decide +kernel
theorem d11_60 : decode prog_1_method_1_code 60 = .ok (.iadd, 1) := by decide +kernel
theorem d11_61 : decode prog_1_method_1_code 61 = .ok (.dup2, 1) := by decide +kernel
theorem d11_62 : decode prog_1_method_1_code 62 = .ok (.iaload, 1) := by decide +kernel
theorem d11_63 : decode prog_1_method_1_code 63 = .ok (.iconst 1, 1) := by decide +kernel
theorem d11_64 : decode prog_1_method_1_code 64 = .ok (.iadd, 1) := by decide +kernel
theorem d11_65 : decode prog_1_method_1_code 65 = .ok (.iastore, 1) := by decide +kernel
theorem d11_66 : decode prog_1_method_1_code 66 = .ok (.iinc 4 1, 3) := by decide +kernel
theorem d11_69 : decode prog_1_method_1_code 69 = .ok (.goto (-31), 3) := by decide +kernel
theorem d11_72 : decode prog_1_method_1_code 72 = .ok (.iinc 3 1, 3) := by decide +kernel
theorem d11_75 : decode prog_1_method_1_code 75 = .ok (.goto (-45), 3) := by decide +kernel
theorem d11_78 : decode prog_1_method_1_code 78 = .ok (.iconst 0, 1) := by decide +kernel
theorem d11_79 : decode prog_1_method_1_code 79 = .ok (.istore_n 3, 1) := by decide +kernel
theorem d11_80 : decode prog_1_method_1_code 80 = .ok (.iload_n 3, 1) := by decide +kernel
theorem d11_81 : decode prog_1_method_1_code 81 = .ok (.iload_n 2, 1) := by decide +kernel
theorem d11_82 : decode prog_1_method_1_code 82 = .ok (.if_icmp .ge 26, 3) := by decide +kernel
theorem d11_85 : decode prog_1_method_1_code 85 = .ok (.aload_n 0, 1) := by decide +kernel
theorem d11_86 : decode prog_1_method_1_code 86 = .ok (.getfield 13, 3) := by decide +kernel
theorem d11_89 : decode prog_1_method_1_code 89 = .ok (.iload_n 3, 1) := by decide +kernel
theorem d11_90 : decode prog_1_method_1_code 90 = .ok (.iconst 1, 1) := by decide +kernel
theorem d11_91 : decode prog_1_method_1_code 91 = .ok (.iadd, 1) := by decide +kernel
theorem d11_92 : decode prog_1_method_1_code 92 = .ok (.dup2, 1) := by decide +kernel
theorem d11_93 : decode prog_1_method_1_code 93 = .ok (.iaload, 1) := by decide +kernel
theorem d11_94 : decode prog_1_method_1_code 94 = .ok (.aload_n 0, 1) := by decide +kernel
theorem d11_95 : decode prog_1_method_1_code 95 = .ok (.getfield 13, 3) := by decide +kernel
theorem d11_98 : decode prog_1_method_1_code 98 = .ok (.iload_n 3, 1) := by decide +kernel
theorem d11_99 : decode prog_1_method_1_code 99 = .ok (.iaload, 1) := by decide +kernel
theorem d11_100 : decode prog_1_method_1_code 100 = .ok (.iadd, 1) := by decide +kernel
theorem d11_101 : decode prog_1_method_1_code 101 = .ok (.iastore, 1) := by decide +kernel
theorem d11_102 : decode prog_1_method_1_code 102 = .ok (.iinc 3 1, 3) := by decide +kernel
theorem d11_105 : decode prog_1_method_1_code 105 = .ok (.goto (-25), 3) := by decide +kernel
theorem d11_108 : decode prog_1_method_1_code 108 = .ok (.aload_n 0, 1) := by decide +kernel
theorem d11_109 : decode prog_1_method_1_code 109 = .ok (.getfield 13, 3) := by decide +kernel
theorem d11_112 : decode prog_1_method_1_code 112 = .ok (.invokevirtual 33, 3) := by decide +kernel
theorem d11_115 : decode prog_1_method_1_code 115 = .ok (.checkcast 34, 3) := by decide +kernel
theorem d11_118 : decode prog_1_method_1_code 118 = .ok (.astore_n 3, 1) := by decide +kernel
theorem d11_119 : decode prog_1_method_1_code 119 = .ok (.iconst 0, 1) := by decide +kernel
theorem d11_120 : decode prog_1_method_1_code 120 = .ok (.istore 4, 2) := by decide +kernel
theorem d11_122 : decode prog_1_method_1_code 122 = .ok (.iload 4, 2) := by decide +kernel
theorem d11_124 : decode prog_1_method_1_code 124 = .ok (.iload_n 2, 1) := by decide +kernel
theorem d11_125 : decode prog_1_method_1_code 125 = .ok (.if_icmp .ge 51, 3) := by decide +kernel
theorem d11_128 : decode prog_1_method_1_code 128 = .ok (.iconst 0, 1) := by decide +kernel
theorem d11_129 : decode prog_1_method_1_code 129 = .ok (.istore 5, 2) := by decide +kernel
theorem d11_131 : decode prog_1_method_1_code 131 = .ok (.iload 5, 2) := by decide +kernel
theorem d11_133 : decode prog_1_method_1_code 133 = .ok (.aload_n 1, 1) := by decide +kernel
theorem d11_134 : decode prog_1_method_1_code 134 = .ok (.iload 4, 2) := by decide +kernel
theorem d11_136 : decode prog_1_method_1_code 136 = .ok (.invokevirtual 25, 3) := by decide +kernel
theorem d11_139 : decode prog_1_method_1_code 139 = .ok (.if_icmp .ge 31, 3) := by decide +kernel
theorem d11_142 : decode prog_1_method_1_code 142 = .ok (.aload_n 0, 1) := by decide +kernel
theorem d11_143 : decode prog_1_method_1_code 143 = .ok (.getfield 22, 3) := by decide +kernel
theorem d11_146 : decode prog_1_method_1_code 146 = .ok (.aload_n 3, 1) := by decide +kernel
theorem d11_147 : decode prog_1_method_1_code 147 = .ok (.aload_n 1, 1) := by decide +kernel
theorem d11_148 : decode prog_1_method_1_code 148 = .ok (.iload 4, 2) := by decide +kernel
theorem d11_150 : decode prog_1_method_1_code 150 = .ok (.iload 5, 2) := by decide +kernel
theorem d11_152 : decode prog_1_method_1_code 152 = .ok (.invokevirtual 29, 3) := by decide +kernel
theorem d11_155 : decode prog_1_method_1_code 155 = .ok (.dup2, 1) := by decide +kernel
theorem d11_156 : decode prog_1_method_1_code 156 = .ok (.iaload, 1) := by decide +kernel
theorem d11_157 : decode prog_1_method_1_code 157 = .ok (.dup_x2, 1) := by decide +kernel
theorem d11_158 : decode prog_1_method_1_code 158 = .ok (.iconst 1, 1) := by decide +kernel
theorem d11_159 : decode prog_1_method_1_code 159 = .ok (.iadd, 1) := by decide +kernel
theorem d11_160 : decode prog_1_method_1_code 160 = .ok (.iastore, 1) := by decide +kernel
theorem d11_161 : decode prog_1_method_1_code 161 = .ok (.iload 4, 2) := by decide +kernel
theorem d11_163 : decode prog_1_method_1_code 163 = .ok (.iastore, 1) := by decide +kernel
theorem d11_164 : decode prog_1_method_1_code 164 = .ok (.iinc 5 1, 3) := by decide +kernel
theorem d11_167 : decode prog_1_method_1_code 167 = .ok (.goto (-36), 3) := by decide +kernel
theorem d11_170 : decode prog_1_method_1_code 170 = .ok (.iinc 4 1, 3) := by decide +kernel
theorem d11_173 : decode prog_1_method_1_code 173 = .ok (.goto (-51), 3) := by decide +kernel
theorem d11_176 : decode prog_1_method_1_code 176 = .ok (.return_, 1) := by decide +kernel
theorem d12_0 : decode prog_16_method_7_code 0 = .ok (.aload_n 0, 1) := by decide +kernel
theorem d12_1 : decode prog_16_method_7_code 1 = .ok (.getfield 23, 3) := by decide +kernel
theorem d12_4 : decode prog_16_method_7_code 4 = .ok (.arraylength, 1) := by decide +kernel
theorem d12_5 : decode prog_16_method_7_code 5 = .ok (.ireturn, 1) := by decide +kernel
theorem d13_0 : decode prog_16_method_8_code 0 = .ok (.aload_n 0, 1) := by decide +kernel
theorem d13_1 : decode prog_16_method_8_code 1 = .ok (.getfield 37, 3) := by decide +kernel
theorem d13_4 : decode prog_16_method_8_code 4 = .ok (.arraylength, 1) := by decide +kernel
theorem d13_5 : decode prog_16_method_8_code 5 = .ok (.ireturn, 1) := by decide +kernel
theorem d14_0 : decode prog_16_method_12_code 0 = .ok (.aload_n 0, 1) := by decide +kernel
theorem d14_1 : decode prog_16_method_12_code 1 = .ok (.getfield 33, 3) := by decide +kernel
theorem d14_4 : decode prog_16_method_12_code 4 = .ok (.iload_n 1, 1) := by decide +kernel
theorem d14_5 : decode prog_16_method_12_code 5 = .ok (.iconst 1, 1) := by decide +kernel
theorem d14_6 : decode prog_16_method_12_code 6 = .ok (.iadd, 1) := by decide +kernel
theorem d14_7 : decode prog_16_method_12_code 7 = .ok (.iaload, 1) := by decide +kernel
theorem d14_8 : decode prog_16_method_12_code 8 = .ok (.aload_n 0, 1) := by decide +kernel
theorem d14_9 : decode prog_16_method_12_code 9 = .ok (.getfield 33, 3) := by decide +kernel
theorem d14_12 : decode prog_16_method_12_code 12 = .ok (.iload_n 1, 1) := by decide +kernel
theorem d14_13 : decode prog_16_method_12_code 13 = .ok (.iaload, 1) := by decide +kernel
theorem d14_14 : decode prog_16_method_12_code 14 = .ok (.isub, 1) := by decide +kernel
theorem d14_15 : decode prog_16_method_12_code 15 = .ok (.ireturn, 1) := by decide +kernel
theorem d15_0 : decode prog_16_method_13_code 0 = .ok (.aload_n 0, 1) := by decide +kernel
theorem d15_1 : decode prog_16_method_13_code 1 = .ok (.getfield 33, 3) := by decide +kernel
theorem d15_4 : decode prog_16_method_13_code 4 = .ok (.iload_n 1, 1) := by decide +kernel
theorem d15_5 : decode prog_16_method_13_code 5 = .ok (.iaload, 1) := by decide +kernel
theorem d15_6 : decode prog_16_method_13_code 6 = .ok (.istore_n 3, 1) := by decide +kernel
theorem d15_7 : decode prog_16_method_13_code 7 = .ok (.iload_n 2, 1) := by decide +kernel
theorem d15_8 : decode prog_16_method_13_code 8 = .ok (.aload_n 0, 1) := by decide +kernel
theorem d15_9 : decode prog_16_method_13_code 9 = .ok (.getfield 33, 3) := by decide +kernel
theorem d15_12 : decode prog_16_method_13_code 12 = .ok (.iload_n 1, 1) := by decide +kernel
theorem d15_13 : decode prog_16_method_13_code 13 = .ok (.iconst 1, 1) := by decide +kernel
theorem d15_14 : decode prog_16_method_13_code 14 = .ok (.iadd, 1) := by decide +kernel
theorem d15_15 : decode prog_16_method_13_code 15 = .ok (.iaload, 1) := by decide +kernel
theorem d15_16 : decode prog_16_method_13_code 16 = .ok (.iload_n 3, 1) := by decide +kernel
theorem d15_17 : decode prog_16_method_13_code 17 = .ok (.isub, 1) := by decide +kernel
theorem d15_18 : decode prog_16_method_13_code 18 = .ok (.invokestatic 107, 3) := by decide +kernel
theorem d15_21 : decode prog_16_method_13_code 21 = .ok (.pop, 1) := by decide +kernel
theorem d15_22 : decode prog_16_method_13_code 22 = .ok (.aload_n 0, 1) := by decide +kernel
theorem d15_23 : decode prog_16_method_13_code 23 = .ok (.getfield 37, 3) := by decide +kernel
theorem d15_26 : decode prog_16_method_13_code 26 = .ok (.iload_n 3, 1) := by decide +kernel
theorem d15_27 : decode prog_16_method_13_code 27 = .ok (.iload_n 2, 1) := by decide +kernel
theorem d15_28 : decode prog_16_method_13_code 28 = .ok (.iadd, 1) := by decide +kernel
theorem d15_29 : decode prog_16_method_13_code 29 = .ok (.iaload, 1) := by decide +kernel
theorem d15_30 : decode prog_16_method_13_code 30 = .ok (.ireturn, 1) := by decide +kernel
theorem d16_0 : decode jdk_31_method_17_code 0 = .ok (.iload_n 0, 1) := by decide +kernel
theorem d16_1 : decode jdk_31_method_17_code 1 = .ok (.iload_n 1, 1) := by decide +kernel
theorem d16_2 : decode jdk_31_method_17_code 2 = .ok (.aconst_null, 1) := by decide +kernel
theorem d16_3 : decode jdk_31_method_17_code 3 = .ok (.invokestatic 105, 3) := by decide +kernel
theorem d16_6 : decode jdk_31_method_17_code 6 = .ok (.ireturn, 1) := by decide +kernel
theorem d17_0 : decode jdk_41_method_11_code 0 = .ok (.iload_n 0, 1) := by decide +kernel
theorem d17_1 : decode jdk_41_method_11_code 1 = .ok (.ifCond .lt 8, 3) := by decide +kernel
theorem d17_4 : decode jdk_41_method_11_code 4 = .ok (.iload_n 0, 1) := by decide +kernel
theorem d17_5 : decode jdk_41_method_11_code 5 = .ok (.iload_n 1, 1) := by decide +kernel
theorem d17_6 : decode jdk_41_method_11_code 6 = .ok (.if_icmp .lt 10, 3) := by decide +kernel
theorem d17_9 : decode jdk_41_method_11_code 9 = .ok (.aload_n 2, 1) := by decide +kernel
theorem d17_10 : decode jdk_41_method_11_code 10 = .ok (.iload_n 0, 1) := by decide +kernel
theorem d17_11 : decode jdk_41_method_11_code 11 = .ok (.iload_n 1, 1) := by decide +kernel
theorem d17_12 : decode jdk_41_method_11_code 12 = .ok (.invokestatic 95, 3) := by decide +kernel
theorem d17_15 : decode jdk_41_method_11_code 15 = .ok (.athrow, 1) := by decide +kernel
theorem d17_16 : decode jdk_41_method_11_code 16 = .ok (.iload_n 0, 1) := by decide +kernel
theorem d17_17 : decode jdk_41_method_11_code 17 = .ok (.ireturn, 1) := by decide +kernel
theorem d18_0 : decode prog_1_method_2_code 0 = .ok (.aload_n 0, 1) := by decide +kernel
theorem d18_1 : decode prog_1_method_2_code 1 = .ok (.getfield 13, 3) := by decide +kernel
theorem d18_4 : decode prog_1_method_2_code 4 = .ok (.iload_n 1, 1) := by decide +kernel
theorem d18_5 : decode prog_1_method_2_code 5 = .ok (.iconst 1, 1) := by decide +kernel
theorem d18_6 : decode prog_1_method_2_code 6 = .ok (.iadd, 1) := by decide +kernel
theorem d18_7 : decode prog_1_method_2_code 7 = .ok (.iaload, 1) := by decide +kernel
theorem d18_8 : decode prog_1_method_2_code 8 = .ok (.aload_n 0, 1) := by decide +kernel
theorem d18_9 : decode prog_1_method_2_code 9 = .ok (.getfield 13, 3) := by decide +kernel
theorem d18_12 : decode prog_1_method_2_code 12 = .ok (.iload_n 1, 1) := by decide +kernel
theorem d18_13 : decode prog_1_method_2_code 13 = .ok (.iaload, 1) := by decide +kernel
theorem d18_14 : decode prog_1_method_2_code 14 = .ok (.isub, 1) := by decide +kernel
theorem d18_15 : decode prog_1_method_2_code 15 = .ok (.ireturn, 1) := by decide +kernel
theorem d19_0 : decode method_4_code 0 = .ok (.aload_n 0, 1) := by decide +kernel
theorem d19_1 : decode method_4_code 1 = .ok (.iconst 0, 1) := by decide +kernel
theorem d19_2 : decode method_4_code 2 = .ok (.iaload, 1) := by decide +kernel
theorem d19_3 : decode method_4_code 3 = .ok (.iload_n 1, 1) := by decide +kernel
theorem d19_4 : decode method_4_code 4 = .ok (.invokestatic 39, 3) := by decide +kernel
theorem d19_7 : decode method_4_code 7 = .ok (.aload_n 0, 1) := by decide +kernel
theorem d19_8 : decode method_4_code 8 = .ok (.iconst 1, 1) := by decide +kernel
theorem d19_9 : decode method_4_code 9 = .ok (.iaload, 1) := by decide +kernel
theorem d19_10 : decode method_4_code 10 = .ok (.iload_n 1, 1) := by decide +kernel
theorem d19_11 : decode method_4_code 11 = .ok (.invokestatic 39, 3) := by decide +kernel
theorem d19_14 : decode method_4_code 14 = .ok (.iadd, 1) := by decide +kernel
theorem d19_15 : decode method_4_code 15 = .ok (.aload_n 0, 1) := by decide +kernel
theorem d19_16 : decode method_4_code 16 = .ok (.iconst 2, 1) := by decide +kernel
theorem d19_17 : decode method_4_code 17 = .ok (.iaload, 1) := by decide +kernel
theorem d19_18 : decode method_4_code 18 = .ok (.iload_n 1, 1) := by decide +kernel
theorem d19_19 : decode method_4_code 19 = .ok (.invokestatic 39, 3) := by decide +kernel
theorem d19_22 : decode method_4_code 22 = .ok (.iadd, 1) := by decide +kernel
theorem d19_23 : decode method_4_code 23 = .ok (.aload_n 0, 1) := by decide +kernel
theorem d19_24 : decode method_4_code 24 = .ok (.iconst 3, 1) := by decide +kernel
theorem d19_25 : decode method_4_code 25 = .ok (.iaload, 1) := by decide +kernel
theorem d19_26 : decode method_4_code 26 = .ok (.iload_n 1, 1) := by decide +kernel
theorem d19_27 : decode method_4_code 27 = .ok (.invokestatic 39, 3) := by decide +kernel
theorem d19_30 : decode method_4_code 30 = .ok (.iadd, 1) := by decide +kernel
theorem d19_31 : decode method_4_code 31 = .ok (.aload_n 0, 1) := by decide +kernel
theorem d19_32 : decode method_4_code 32 = .ok (.iconst 4, 1) := by decide +kernel
theorem d19_33 : decode method_4_code 33 = .ok (.iaload, 1) := by decide +kernel
theorem d19_34 : decode method_4_code 34 = .ok (.iload_n 1, 1) := by decide +kernel
theorem d19_35 : decode method_4_code 35 = .ok (.invokestatic 39, 3) := by decide +kernel
theorem d19_38 : decode method_4_code 38 = .ok (.iadd, 1) := by decide +kernel
theorem d19_39 : decode method_4_code 39 = .ok (.aload_n 0, 1) := by decide +kernel
theorem d19_40 : decode method_4_code 40 = .ok (.iconst 5, 1) := by decide +kernel
theorem d19_41 : decode method_4_code 41 = .ok (.iaload, 1) := by decide +kernel
theorem d19_42 : decode method_4_code 42 = .ok (.iload_n 1, 1) := by decide +kernel
theorem d19_43 : decode method_4_code 43 = .ok (.invokestatic 39, 3) := by decide +kernel
theorem d19_46 : decode method_4_code 46 = .ok (.iadd, 1) := by decide +kernel
theorem d19_47 : decode method_4_code 47 = .ok (.ireturn, 1) := by decide +kernel
theorem d20_0 : decode method_5_code 0 = .ok (.iload_n 0, 1) := by decide +kernel
theorem d20_1 : decode method_5_code 1 = .ok (.iload_n 1, 1) := by decide +kernel
theorem d20_2 : decode method_5_code 2 = .ok (.if_icmp .ne 7, 3) := by decide +kernel
theorem d20_5 : decode method_5_code 5 = .ok (.iconst 1, 1) := by decide +kernel
theorem d20_6 : decode method_5_code 6 = .ok (.goto 4, 3) := by decide +kernel
theorem d20_9 : decode method_5_code 9 = .ok (.iconst 0, 1) := by decide +kernel
theorem d20_10 : decode method_5_code 10 = .ok (.ireturn, 1) := by decide +kernel
theorem own_wS (Z : State) (a0 : Array Value) (hw : ∀ d ∈ tables_1, d.before a0 Z = true) : ∀ d ∈ Bundle.stringAtoms, d.before a0 Z = true := by
  intro d hd
  simp only [Bundle.stringAtoms, List.mem_cons, List.not_mem_nil, or_false] at hd
  rcases hd with rfl | rfl | rfl | rfl | rfl | rfl | rfl
  all_goals first | exact (hw _ (List.mem_of_getElem? (i := 20) rfl)) | exact (hw _ (List.mem_of_getElem? (i := 21) rfl)) | exact (hw _ (List.mem_of_getElem? (i := 22) rfl)) | exact (hw _ (List.mem_of_getElem? (i := 23) rfl)) | exact (hw _ (List.mem_of_getElem? (i := 24) rfl)) | exact (hw _ (List.mem_of_getElem? (i := 25) rfl)) | exact (hw _ (List.mem_of_getElem? (i := 26) rfl))
theorem own_pn0 : plainName "com/example/cycles_to_winners/cyclestowinners/algo/PredecessorsCountPinLaw" = true := by decide +kernel
theorem own_pn2 : plainName "com/example/cycles_to_winners/cyclestowinners/model/Game" = true := by decide +kernel
theorem own_pn4 : plainName "java/util/Objects" = true := by decide +kernel
theorem own_pn5 : plainName "com/example/cycles_to_winners/cyclestowinners/algo/Predecessors" = true := by decide +kernel
theorem own_pn6 : plainName "jdk/internal/util/Preconditions" = true := by decide +kernel
theorem own_pd0 : parseMethodDescriptor "(IJ)Z" = some ⟨[.int, .long], (some .boolean)⟩ := by decide +kernel
theorem own_pd1 : parseMethodDescriptor "(II)I" = some ⟨[.int, .int], (some .int)⟩ := by decide +kernel
theorem own_pd2 : parseMethodDescriptor "(JI)I" = some ⟨[.long, .int], (some .int)⟩ := by decide +kernel
theorem own_pd3 : parseMethodDescriptor "([I[I[I[I)V" = some ⟨[(.array .int), (.array .int), (.array .int), (.array .int)], none⟩ := by decide +kernel
theorem own_pd4 : parseMethodDescriptor "()V" = some ⟨[], none⟩ := by decide +kernel
theorem own_pd5 : parseMethodDescriptor "(Ljava/lang/Object;Ljava/lang/String;)Ljava/lang/Object;" = some ⟨[(.object "java/lang/Object"), (.object "java/lang/String")], (some (.object "java/lang/Object"))⟩ := by decide +kernel
theorem own_pd6 : parseMethodDescriptor "(III[IIII)V" = some ⟨[.int, .int, .int, (.array .int), .int, .int, .int], none⟩ := by decide +kernel
theorem own_pd7 : parseMethodDescriptor "([I)I" = some ⟨[(.array .int)], (some .int)⟩ := by decide +kernel
theorem own_pd8 : parseMethodDescriptor "(Lcom/example/cycles_to_winners/cyclestowinners/model/Game;)V" = some ⟨[(.object "com/example/cycles_to_winners/cyclestowinners/model/Game")], none⟩ := by decide +kernel
theorem own_pd9 : parseMethodDescriptor "()I" = some ⟨[], (some .int)⟩ := by decide +kernel
theorem own_pd10 : parseMethodDescriptor "(I)I" = some ⟨[.int], (some .int)⟩ := by decide +kernel
theorem own_pd11 : parseMethodDescriptor "(IILjava/util/function/BiFunction;)I" = some ⟨[.int, .int, (.object "java/util/function/BiFunction")], (some .int)⟩ := by decide +kernel
theorem own_pd12 : parseMethodDescriptor "([II)I" = some ⟨[(.array .int), .int], (some .int)⟩ := by decide +kernel
def own_at (xs : List Int32) (p : Int32) : Int32 := xs.getD p.toNatClampNeg 0
def own_max (f g : Int32) : Int32 := if f < g then g else f
def own_ok3 (xs : List Int32) : Prop := xs.length = 6 ∧ ∀ x ∈ xs, ¬ x < 0 ∧ x < 3
theorem own_get6 (xs : List Int32) (p : Int32) (hl : xs.length = 6) (h0 : 0 ≤ p.toInt) (h : p.toInt < 6) : (xs.map Value.int)[p.toNatClampNeg]? = some (.int (own_at xs p)) := by
  have q : p.toNatClampNeg < xs.length := by rw [Int32.toNatClampNeg]; omega
  unfold own_at
  simp [q]
theorem own_at3 (xs : List Int32) (p : Int32) (hx : own_ok3 xs) (h0 : 0 ≤ p.toInt) (h : p.toInt < 6) : ¬ own_at xs p < 0 ∧ own_at xs p < 3 := by
  have q : p.toNatClampNeg < xs.length := by rw [Int32.toNatClampNeg, hx.1]; omega
  unfold own_at
  rw [own_getD _ _ q]
  exact hx.2 _ (List.getElem_mem q)
theorem own_z0 : (0 : Int32).toInt = 0 := rfl
theorem own_nlt {p : Int32} (h : 0 ≤ p.toInt) : ¬ p < 0 := by rw [Int32.lt_iff_toInt_lt, own_z0]; omega
def own_min (f g : Int32) : Int32 := if g < f then g else f
def own_c (x : Int32) (m : Nat) (xs : List Int32) : Int32 := Int32.ofNat ((xs.take m).count x)
def own_cs (m : Nat) (xs : List Int32) : List Value := [.int 0, .int (own_c 0 m xs), .int (own_c 1 m xs), .int (own_c 2 m xs)]
def own_T1 (xs : List Int32) : Int32 := own_c 0 6 xs + 0
def own_T2 (xs : List Int32) : Int32 := own_c 1 6 xs + own_T1 xs
def own_T3 (xs : List Int32) : Int32 := own_c 2 6 xs + own_T2 xs
def own_ns (m : Nat) (xs : List Int32) : List Value := [.int (0 + own_c 0 m xs), .int (own_T1 xs + own_c 1 m xs), .int (own_T2 xs + own_c 2 m xs), .int (own_T3 xs)]
def own_B (x : Int32) (xs : List Int32) : Int32 := if x = 0 then 0 else if x = 1 then own_T1 xs else own_T2 xs
theorem own_012 {x : Int32} (h : ¬ x < 0 ∧ x < 3) : x = 0 ∨ x = 1 ∨ x = 2 := by
  have z3 : (3 : Int32).toInt = 3 := rfl
  rw [Int32.lt_iff_toInt_lt, Int32.lt_iff_toInt_lt, own_z0, z3] at h
  simp only [← Int32.toInt_inj, Int32.reduceToInt]; omega
theorem own_csucc (y : Int32) (m : Nat) (xs : List Int32) (x : Int32) (hm : m < xs.length) (hx : xs[m]? = some x) : own_c y (m + 1) xs = if x = y then own_c y m xs + 1 else own_c y m xs := by
  unfold own_c
  rw [List.take_add_one, hx, List.count_append]
  show Int32.ofNat (_ + List.count y [x]) = _
  rw [List.count_singleton]
  by_cases h : x = y
  · subst h; simp [Int32.ofNat_add]
  · simp [h]
theorem own_cs_get (m : Nat) (xs : List Int32) (x : Int32) (h : ¬ x < 0 ∧ x < 3) : (own_cs m xs)[(x + 1).toNatClampNeg]? = some (.int (own_c x m xs)) := by
  rcases own_012 h with rfl | rfl | rfl <;> rfl
theorem own_cs_set (m : Nat) (xs : List Int32) (x : Int32) (h : ¬ x < 0 ∧ x < 3) (hm : m < xs.length) (hx : xs[m]? = some x) : (own_cs m xs).set (x + 1).toNatClampNeg (.int (own_c x m xs + 1)) = own_cs (m + 1) xs := by
  unfold own_cs
  rw [own_csucc 0 m xs x hm hx, own_csucc 1 m xs x hm hx, own_csucc 2 m xs x hm hx]
  rcases own_012 h with rfl | rfl | rfl
  · rw [if_pos rfl, if_neg (by decide), if_neg (by decide)]; rfl
  · rw [if_neg (by decide), if_pos rfl, if_neg (by decide)]; rfl
  · rw [if_neg (by decide), if_neg (by decide), if_pos rfl]; rfl
theorem own_ns_get (m : Nat) (xs : List Int32) (x : Int32) (h : ¬ x < 0 ∧ x < 3) : (own_ns m xs)[x.toNatClampNeg]? = some (.int (own_B x xs + own_c x m xs)) := by
  rcases own_012 h with rfl | rfl | rfl <;> rfl
theorem own_ns_set (m : Nat) (xs : List Int32) (x : Int32) (h : ¬ x < 0 ∧ x < 3) (hm : m < xs.length) (hx : xs[m]? = some x) : (own_ns m xs).set x.toNatClampNeg (.int (own_B x xs + own_c x m xs + 1)) = own_ns (m + 1) xs := by
  unfold own_ns
  rw [own_csucc 0 m xs x hm hx, own_csucc 1 m xs x hm hx, own_csucc 2 m xs x hm hx, Int32.add_assoc]
  rcases own_012 h with rfl | rfl | rfl
  · rw [if_pos rfl, if_neg (by decide), if_neg (by decide)]; rfl
  · rw [if_neg (by decide), if_pos rfl, if_neg (by decide)]; rfl
  · rw [if_neg (by decide), if_neg (by decide), if_pos rfl]; rfl
theorem own_ns0 (xs : List Int32) : [Value.int 0, .int (own_T1 xs), .int (own_T2 xs), .int (own_T3 xs)] = own_ns 0 xs := by
  have e : ∀ x, own_c x 0 xs = 0 := fun x => rfl
  unfold own_ns
  rw [e, e, e, Int32.add_zero, Int32.add_zero, Int32.add_zero]
theorem own_cnt3 (l : List Int32) : l.count 0 + l.count 1 + l.count 2 ≤ l.length := by
  induction l with
  | nil => simp
  | cons a l ih =>
    simp only [List.count_cons, List.length_cons]
    by_cases h0 : a = 0
    · subst h0; simp; omega
    · by_cases h1 : a = 1
      · subst h1; simp; omega
      · by_cases h2 : a = 2
        · subst h2; simp; omega
        · simp [h0, h1, h2]; omega
theorem own_ofn (k : Nat) (h : k ≤ 6) : (Int32.ofNat k).toInt = k := Int32.toInt_ofNat_of_lt (by omega)
theorem own_rngB (m : Nat) (xs : List Int32) (x : Int32) (h : ¬ x < 0 ∧ x < 3) (hl : xs.length = 6) (hm : m < 6) (hx : xs[m]? = some x) : 0 ≤ (own_B x xs + own_c x m xs).toInt ∧ (own_B x xs + own_c x m xs).toInt < 6 := by
  have t6 : xs.take 6 = xs := List.take_of_length_le (by omega)
  have s := own_cnt3 xs
  have hlt : (xs.take m).count x < xs.count x := by
    have e : xs = xs.take m ++ x :: xs.drop (m + 1) := by
      have hm' : m < xs.length := by omega
      have : xs[m] = x := by rw [List.getElem?_eq_getElem hm'] at hx; exact Option.some.inj hx
      rw [← this, List.getElem_cons_drop, List.take_append_drop]
    have e2 : xs.count x = (xs.take m).count x + (1 + (xs.drop (m + 1)).count x) := by
      conv => lhs; rw [e]
      rw [List.count_append, List.count_cons_self]; omega
    omega
  have c0 : (own_c 0 6 xs).toInt = xs.count 0 := by unfold own_c; rw [t6, own_ofn _ (by omega)]
  have c1 : (own_c 1 6 xs).toInt = xs.count 1 := by unfold own_c; rw [t6, own_ofn _ (by omega)]
  have cm : (own_c x m xs).toInt = ((xs.take m).count x : Nat) := by unfold own_c; rw [own_ofn _ (by rcases own_012 h with rfl | rfl | rfl <;> omega)]
  have t1 : (own_T1 xs).toInt = xs.count 0 := by
    unfold own_T1; rw [Int32.add_zero]; exact c0
  have t2 : (own_T2 xs).toInt = xs.count 1 + xs.count 0 := by
    unfold own_T2
    have a := c_iadd (own_c 1 6 xs) (own_T1 xs); have b := rng32 (own_c 1 6 xs + own_T1 xs)
    omega
  have a := c_iadd (own_B x xs) (own_c x m xs); have b := rng32 (own_B x xs + own_c x m xs)
  rcases own_012 h with rfl | rfl | rfl
  · have eb : own_B 0 xs = 0 := rfl
    rw [eb] at a b ⊢; rw [own_z0] at a; omega
  · have eb : own_B 1 xs = own_T1 xs := rfl
    rw [eb] at a b ⊢; omega
  · have eb : own_B 2 xs = own_T2 xs := rfl
    rw [eb] at a b ⊢; omega
theorem own_getm (xs : List Int32) (p : Int32) (m : Nat) (hl : xs.length = 6) (hm : p.toInt = m) (h6 : m < 6) : xs[m]? = some (own_at xs p) := by
  have e : p.toNatClampNeg = m := by rw [Int32.toNatClampNeg]; omega
  unfold own_at
  rw [e, List.getD_eq_getElem?_getD, List.getElem?_eq_getElem (by omega)]; rfl
def own_is (x v : Int32) : Int32 := if ¬ x = v then 0 else 1
theorem own_addlc (a b c : Int32) : a + (b + c) = b + (a + c) := by rw [← Int32.add_assoc, Int32.add_comm a b, Int32.add_assoc]
theorem own_occ6 (v x0 x1 x2 x3 x4 x5 : Int32) : own_is x0 v + own_is x1 v + own_is x2 v + own_is x3 v + own_is x4 v + own_is x5 v = own_c v 6 [x0, x1, x2, x3, x4, x5] := by
  have e : ∀ x : Int32, own_is x v = Int32.ofNat (if x == v then 1 else 0) := fun x => by
    unfold own_is
    by_cases h : x = v
    · rw [if_neg (fun q => q h)]; simp [h]
    · rw [if_pos h]; simp [h]
  unfold own_c
  show _ = Int32.ofNat (List.count v [x0, x1, x2, x3, x4, x5])
  simp only [List.count_cons, List.count_nil, e, Int32.ofNat_add, Nat.zero_add]
  simp only [Int32.add_assoc, Int32.add_comm, own_addlc]
set_option maxRecDepth 65536 in
set_option maxHeartbeats 40000000 in
theorem own_rnn (l : Launch) (Z : State) (a0 : Array Value) (hw : ∀ d ∈ tables_1, d.before a0 Z = true) (s u : Addr) (h0 : Heap) (n0 : Nat) (hn0 : n0 ≤ h0.size) :
    own_W l Z (⟨"java/util/Objects", "requireNonNull", "(Ljava/lang/Object;Ljava/lang/String;)Ljava/lang/Object;"⟩ : MethodName) jdk_31_method_11_code 2 (some (.object "java/lang/Object")) ({ frames := 0, cells := 0, slots := 0, locals := 0 } : Room) n0 (fun v h => v = some (.ref s) ∧ h0 = h) h0 0 0 0 #[.val (.ref s), .val (.ref u)] [] := by
  refine own_aloadN (pc' := 1) d5_0 rfl rfl ?_
  refine own_ifnonnull_t (pc' := 13) d5_1 (by decide) (by decide) ?_
  refine own_aloadN (pc' := 14) d5_13 rfl rfl ?_
  exact own_aret rfl rfl rfl d5_14 ⟨rfl, rfl⟩
set_option maxRecDepth 65536 in
set_option maxHeartbeats 40000000 in
theorem own_maxW (l : Launch) (Z : State) (a0 : Array Value) (hw : ∀ d ∈ tables_1, d.before a0 Z = true) (f g : Int32) (h0 : Heap) (n0 : Nat) (hn0 : n0 ≤ h0.size) :
    own_W l Z (⟨"java/lang/Math", "max", "(II)I"⟩ : MethodName) jdk_29_method_65_code 2 (some .int) ({ frames := 0, cells := 0, slots := 0, locals := 0 } : Room) n0 (fun v h => v = some (.int (own_max f g)) ∧ h0 = h) h0 0 0 0 #[.val (.int f), .val (.int g)] [] := by
  refine own_iloadN (pc' := 1) d10_0 rfl rfl ?_
  refine own_iloadN (pc' := 2) d10_1 rfl rfl ?_
  refine own_ic_lt (pc' := 9) (pf := 5) d10_2 (by decide) (by decide) rfl (fun h_2 => ?_) (fun h_2 => ?_)
  · refine own_iloadN (pc' := 10) d10_9 rfl rfl ?_
    exact own_iret rfl d10_10 ⟨by first | contradiction | (simp only [own_max, *, ↓reduceIte]; done) | (simp [own_max, *]; done) | (simp_all [own_max]; done), rfl⟩
  · refine own_iloadN (pc' := 6) d10_5 rfl rfl ?_
    refine own_goto (pc' := 10) d10_6 (by decide) (by decide) ?_
    exact own_iret rfl d10_10 ⟨by first | contradiction | (simp only [own_max, *, ↓reduceIte]; done) | (simp [own_max, *]; done) | (simp_all [own_max]; done), rfl⟩
set_option maxRecDepth 65536 in
set_option maxHeartbeats 40000000 in
theorem own_shape (l : Launch) (Z : State) (a0 : Array Value) (hw : ∀ d ∈ tables_1, d.before a0 Z = true) (p q s u : Addr) (o0 o1 o2 p0 p1 p2 c d : Int32) (us : List Value) (h0 : Heap) (n0 : Nat) (hn0 : n0 ≤ h0.size) (hc : ¬ c < 0) (hd : ¬ d < c) (he : ¬ 6 < d) (A_p : own_A Z h0 p .int [.int o0, .int o1, .int o2]) (A_q : own_A Z h0 q .int [.int p0, .int p1, .int p2]) (A_s : own_A Z h0 s .int [.int (0 : Int32), .int c, .int d, .int (6 : Int32)]) (A_u : own_A Z h0 u .int us) (hu : us.length.toInt32 = 6) :
    own_W l Z (⟨"com/example/cycles_to_winners/cyclestowinners/model/Game", "checkShape", "([I[I[I[I)V"⟩ : MethodName) prog_16_method_2_code 6 none ({ frames := 0, cells := 0, slots := 0, locals := 0 } : Room) n0 (fun v h => v = none ∧ h0 = h) h0 0 0 0 #[.val (.ref p), .val (.ref q), .val (.ref s), .val (.ref u), .unset, .unset] [] := by
  refine own_aloadN (pc' := 1) d6_0 rfl rfl ?_
  refine own_len (pc' := 2) (n := (3 : Int32)) A_p rfl d6_1 rfl ?_
  refine own_istore (pc' := 4) (Ls' := #[.val (.ref p), .val (.ref q), .val (.ref s), .val (.ref u), .val (.int (3 : Int32)), .unset]) d6_2 rfl rfl ?_
  refine own_iload (pc' := 6) d6_4 rfl rfl ?_
  refine own_if_ne_t (pc' := 19) d6_6 (by decide) (by decide) (by decide) ?_
  refine own_aloadN (pc' := 20) d6_19 rfl rfl ?_
  refine own_len (pc' := 21) (n := (3 : Int32)) A_q rfl d6_20 rfl ?_
  refine own_iload (pc' := 23) d6_21 rfl rfl ?_
  refine own_ic_eq_t (pc' := 52) d6_23 rfl (by decide) (by decide) ?_
  refine own_aloadN (pc' := 53) d6_52 rfl rfl ?_
  refine own_len (pc' := 54) (n := (4 : Int32)) A_s rfl d6_53 rfl ?_
  refine own_iload (pc' := 56) d6_54 rfl rfl ?_
  refine own_iconst (1 : Int32) (pc' := 57) d6_56 rfl rfl ?_
  refine own_iadd (pc' := 58) d6_57 rfl ?_
  rw [show ((3 : Int32) + (1 : Int32)) = (4 : Int32) from (by decide)]
  refine own_ic_eq_t (pc' := 89) d6_58 rfl (by decide) (by decide) ?_
  refine own_aloadN (pc' := 90) d6_89 rfl rfl ?_
  refine own_iconst (0 : Int32) (pc' := 91) d6_90 rfl rfl ?_
  refine own_iaload (pc' := 92) (v := .int (0 : Int32)) A_s (by decide) rfl d6_91 rfl ?_
  refine own_if_ne_f (pc' := 95) d6_92 rfl rfl ?_
  refine own_aloadN (pc' := 96) d6_95 rfl rfl ?_
  refine own_iload (pc' := 98) d6_96 rfl rfl ?_
  refine own_iaload (pc' := 99) (v := .int (6 : Int32)) A_s (by decide) rfl d6_98 rfl ?_
  refine own_aloadN (pc' := 100) d6_99 rfl rfl ?_
  refine own_len (pc' := 101) (n := (6 : Int32)) A_u hu d6_100 rfl ?_
  refine own_ic_eq_t (pc' := 141) d6_101 rfl (by decide) (by decide) ?_
  refine own_iconst (0 : Int32) (pc' := 142) d6_141 rfl rfl ?_
  refine own_istore (pc' := 144) (Ls' := #[.val (.ref p), .val (.ref q), .val (.ref s), .val (.ref u), .val (.int (3 : Int32)), .val (.int (0 : Int32))]) d6_142 rfl rfl ?_
  refine own_iload (pc' := 146) d6_144 rfl rfl ?_
  refine own_iload (pc' := 148) d6_146 rfl rfl ?_
  refine own_ic_ge_f (pc' := 151) d6_148 (by decide) rfl ?_
  refine own_aloadN (pc' := 152) d6_151 rfl rfl ?_
  refine own_iload (pc' := 154) d6_152 rfl rfl ?_
  refine own_iconst (1 : Int32) (pc' := 155) d6_154 rfl rfl ?_
  refine own_iadd (pc' := 156) d6_155 rfl ?_
  rw [show ((0 : Int32) + (1 : Int32)) = (1 : Int32) from (by decide)]
  refine own_iaload (pc' := 157) (v := .int c) A_s (by decide) rfl d6_156 rfl ?_
  refine own_aloadN (pc' := 158) d6_157 rfl rfl ?_
  refine own_iload (pc' := 160) d6_158 rfl rfl ?_
  refine own_iaload (pc' := 161) (v := .int (0 : Int32)) A_s (by decide) rfl d6_160 rfl ?_
  refine own_ic_ge_t (pc' := 192) d6_161 hc (by decide) (by decide) ?_
  refine own_iinc (pc' := 195) (w := (1 : Int32)) (Ls' := #[.val (.ref p), .val (.ref q), .val (.ref s), .val (.ref u), .val (.int (3 : Int32)), .val (.int ((0 : Int32) + (1 : Int32)))]) d6_192 rfl rfl rfl rfl ?_
  rw [show ((0 : Int32) + (1 : Int32)) = (1 : Int32) from (by decide)]
  refine own_goto (pc' := 144) d6_195 (by decide) (by decide) ?_
  refine own_iload (pc' := 146) d6_144 rfl rfl ?_
  refine own_iload (pc' := 148) d6_146 rfl rfl ?_
  refine own_ic_ge_f (pc' := 151) d6_148 (by decide) rfl ?_
  refine own_aloadN (pc' := 152) d6_151 rfl rfl ?_
  refine own_iload (pc' := 154) d6_152 rfl rfl ?_
  refine own_iconst (1 : Int32) (pc' := 155) d6_154 rfl rfl ?_
  refine own_iadd (pc' := 156) d6_155 rfl ?_
  rw [show ((1 : Int32) + (1 : Int32)) = (2 : Int32) from (by decide)]
  refine own_iaload (pc' := 157) (v := .int d) A_s (by decide) rfl d6_156 rfl ?_
  refine own_aloadN (pc' := 158) d6_157 rfl rfl ?_
  refine own_iload (pc' := 160) d6_158 rfl rfl ?_
  refine own_iaload (pc' := 161) (v := .int c) A_s (by decide) rfl d6_160 rfl ?_
  refine own_ic_ge_t (pc' := 192) d6_161 hd (by decide) (by decide) ?_
  refine own_iinc (pc' := 195) (w := (1 : Int32)) (Ls' := #[.val (.ref p), .val (.ref q), .val (.ref s), .val (.ref u), .val (.int (3 : Int32)), .val (.int ((1 : Int32) + (1 : Int32)))]) d6_192 rfl rfl rfl rfl ?_
  rw [show ((1 : Int32) + (1 : Int32)) = (2 : Int32) from (by decide)]
  refine own_goto (pc' := 144) d6_195 (by decide) (by decide) ?_
  refine own_iload (pc' := 146) d6_144 rfl rfl ?_
  refine own_iload (pc' := 148) d6_146 rfl rfl ?_
  refine own_ic_ge_f (pc' := 151) d6_148 (by decide) rfl ?_
  refine own_aloadN (pc' := 152) d6_151 rfl rfl ?_
  refine own_iload (pc' := 154) d6_152 rfl rfl ?_
  refine own_iconst (1 : Int32) (pc' := 155) d6_154 rfl rfl ?_
  refine own_iadd (pc' := 156) d6_155 rfl ?_
  rw [show ((2 : Int32) + (1 : Int32)) = (3 : Int32) from (by decide)]
  refine own_iaload (pc' := 157) (v := .int (6 : Int32)) A_s (by decide) rfl d6_156 rfl ?_
  refine own_aloadN (pc' := 158) d6_157 rfl rfl ?_
  refine own_iload (pc' := 160) d6_158 rfl rfl ?_
  refine own_iaload (pc' := 161) (v := .int d) A_s (by decide) rfl d6_160 rfl ?_
  refine own_ic_ge_t (pc' := 192) d6_161 he (by decide) (by decide) ?_
  refine own_iinc (pc' := 195) (w := (1 : Int32)) (Ls' := #[.val (.ref p), .val (.ref q), .val (.ref s), .val (.ref u), .val (.int (3 : Int32)), .val (.int ((2 : Int32) + (1 : Int32)))]) d6_192 rfl rfl rfl rfl ?_
  rw [show ((2 : Int32) + (1 : Int32)) = (3 : Int32) from (by decide)]
  refine own_goto (pc' := 144) d6_195 (by decide) (by decide) ?_
  refine own_iload (pc' := 146) d6_144 rfl rfl ?_
  refine own_iload (pc' := 148) d6_146 rfl rfl ?_
  refine own_ic_ge_t (pc' := 198) d6_148 (by decide) (by decide) (by decide) ?_
  exact own_ret rfl d6_198 ⟨rfl, rfl⟩
set_option maxRecDepth 65536 in
set_option maxHeartbeats 40000000 in
theorem own_cvL (l : Launch) (Z : State) (a0 : Array Value) (hw : ∀ d ∈ tables_1, d.before a0 Z = true) (u : Addr) (v ow pr st en : Int32) (xs : List Int32) (h0 : Heap) (n0 : Nat) (hx : own_ok3 xs) (hen : en.toInt ≤ 6) (A_u : own_A Z h0 u .int (xs.map Value.int)) : ∀ (j : Nat) (i w : Int32), 0 ≤ i.toInt → i.toInt + j = en.toInt →
    own_W l Z (⟨"com/example/cycles_to_winners/cyclestowinners/model/Game", "checkVertex", "(III[IIII)V"⟩ : MethodName) prog_16_method_4_code 9 none ({ frames := 0, cells := 0, slots := 0, locals := 0 } : Room) n0 (fun r h => r = none ∧ h0 = h) h0 0 0 89 #[.val (.int v), .val (.int ow), .val (.int pr), .val (.ref u), .val (.int st), .val (.int en), .val (.int (3 : Int32)), .val (.int i), .val (.int w)] [] := by
  intro j
  induction j with
  | zero =>
    intro i w hi hj
    refine own_iload (pc' := 91) d8_89 rfl rfl ?_
    refine own_iload (pc' := 93) d8_91 rfl rfl ?_
    refine own_ic_ge_t (pc' := 155) d8_93 (by rw [Int32.lt_iff_toInt_lt]; omega) (by decide) (by decide) ?_
    exact own_ret rfl d8_155 ⟨rfl, rfl⟩
  | succ j ih =>
    intro i w hi hj
    have h3 := own_at3 xs i hx hi (by omega)
    have e1 : (1 : Int32).toInt = 1 := rfl
    have a1 := c_iadd i 1
    have a2 := rng32 (i + 1)
    refine own_iload (pc' := 91) d8_89 rfl rfl ?_
    refine own_iload (pc' := 93) d8_91 rfl rfl ?_
    refine own_ic_ge_f (pc' := 96) d8_93 (by rw [Int32.lt_iff_toInt_lt]; omega) rfl ?_
    refine own_aloadN (pc' := 97) d8_96 rfl rfl ?_
    refine own_iload (pc' := 99) d8_97 rfl rfl ?_
    refine own_iaload (pc' := 100) (v := .int (own_at xs i)) A_u (own_nlt hi) (own_get6 xs i hx.1 hi (by omega)) d8_99 rfl ?_
    refine own_istore (pc' := 102) (Ls' := #[.val (.int v), .val (.int ow), .val (.int pr), .val (.ref u), .val (.int st), .val (.int en), .val (.int (3 : Int32)), .val (.int i), .val (.int (own_at xs i))]) d8_100 rfl rfl ?_
    refine own_iload (pc' := 104) d8_102 rfl rfl ?_
    refine own_if_lt_f (pc' := 107) d8_104 h3.1 rfl ?_
    refine own_iload (pc' := 109) d8_107 rfl rfl ?_
    refine own_iload (pc' := 111) d8_109 rfl rfl ?_
    refine own_ic_lt_t (pc' := 149) d8_111 h3.2 (by decide) (by decide) ?_
    refine own_iinc (pc' := 152) (w := (1 : Int32)) (Ls' := #[.val (.int v), .val (.int ow), .val (.int pr), .val (.ref u), .val (.int st), .val (.int en), .val (.int (3 : Int32)), .val (.int (i + (1 : Int32))), .val (.int (own_at xs i))]) d8_149 rfl rfl rfl rfl ?_
    refine own_goto (pc' := 89) d8_152 (by decide) (by decide) ?_
    exact ih (i + 1) _ (by omega) (by omega)
set_option maxRecDepth 65536 in
set_option maxHeartbeats 40000000 in
theorem own_cv (l : Launch) (Z : State) (a0 : Array Value) (hw : ∀ d ∈ tables_1, d.before a0 Z = true) (u : Addr) (v ow pr i en : Int32) (xs : List Int32) (h0 : Heap) (n0 : Nat) (hn0 : n0 ≤ h0.size) (hx : own_ok3 xs) (how : ow = 0 ∨ ow = 1) (hpr : ¬ pr < 0) (hi : 0 ≤ i.toInt) (hlt : i.toInt < en.toInt) (hen : en.toInt ≤ 6) (A_u : own_A Z h0 u .int (xs.map Value.int)) :
    own_W l Z (⟨"com/example/cycles_to_winners/cyclestowinners/model/Game", "checkVertex", "(III[IIII)V"⟩ : MethodName) prog_16_method_4_code 9 none ({ frames := 0, cells := 0, slots := 0, locals := 0 } : Room) n0 (fun r h => r = none ∧ h0 = h) h0 0 0 0 #[.val (.int v), .val (.int ow), .val (.int pr), .val (.ref u), .val (.int i), .val (.int en), .val (.int (3 : Int32)), .unset, .unset] [] := by
  have h3 := own_at3 xs i hx hi (by omega)
  have e1 : (1 : Int32).toInt = 1 := rfl
  have a1 := c_iadd i 1
  have a2 := rng32 (i + 1)
  have K33 : own_W l Z (⟨"com/example/cycles_to_winners/cyclestowinners/model/Game", "checkVertex", "(III[IIII)V"⟩ : MethodName) prog_16_method_4_code 9 none ({ frames := 0, cells := 0, slots := 0, locals := 0 } : Room) n0 (fun r h => r = none ∧ h0 = h) h0 0 0 33 #[.val (.int v), .val (.int ow), .val (.int pr), .val (.ref u), .val (.int i), .val (.int en), .val (.int (3 : Int32)), .unset, .unset] [] := by
    refine own_iloadN (pc' := 34) d8_33 rfl rfl ?_
    refine own_if_ge_t (pc' := 61) d8_34 hpr (by decide) (by decide) ?_
    refine own_iload (pc' := 63) d8_61 rfl rfl ?_
    refine own_iload (pc' := 65) d8_63 rfl rfl ?_
    refine own_ic_ne_t (pc' := 85) d8_65 (by rw [← Int32.toInt_inj]; omega) (by decide) (by decide) ?_
    refine own_iload (pc' := 87) d8_85 rfl rfl ?_
    refine own_istore (pc' := 89) (Ls' := #[.val (.int v), .val (.int ow), .val (.int pr), .val (.ref u), .val (.int i), .val (.int en), .val (.int (3 : Int32)), .val (.int i), .unset]) d8_87 rfl rfl ?_
    refine own_iload (pc' := 91) d8_89 rfl rfl ?_
    refine own_iload (pc' := 93) d8_91 rfl rfl ?_
    refine own_ic_ge_f (pc' := 96) d8_93 (by rw [Int32.lt_iff_toInt_lt]; omega) rfl ?_
    refine own_aloadN (pc' := 97) d8_96 rfl rfl ?_
    refine own_iload (pc' := 99) d8_97 rfl rfl ?_
    refine own_iaload (pc' := 100) (v := .int (own_at xs i)) A_u (own_nlt hi) (own_get6 xs i hx.1 hi (by omega)) d8_99 rfl ?_
    refine own_istore (pc' := 102) (Ls' := #[.val (.int v), .val (.int ow), .val (.int pr), .val (.ref u), .val (.int i), .val (.int en), .val (.int (3 : Int32)), .val (.int i), .val (.int (own_at xs i))]) d8_100 rfl rfl ?_
    refine own_iload (pc' := 104) d8_102 rfl rfl ?_
    refine own_if_lt_f (pc' := 107) d8_104 h3.1 rfl ?_
    refine own_iload (pc' := 109) d8_107 rfl rfl ?_
    refine own_iload (pc' := 111) d8_109 rfl rfl ?_
    refine own_ic_lt_t (pc' := 149) d8_111 h3.2 (by decide) (by decide) ?_
    refine own_iinc (pc' := 152) (w := (1 : Int32)) (Ls' := #[.val (.int v), .val (.int ow), .val (.int pr), .val (.ref u), .val (.int i), .val (.int en), .val (.int (3 : Int32)), .val (.int (i + (1 : Int32))), .val (.int (own_at xs i))]) d8_149 rfl rfl rfl rfl ?_
    refine own_goto (pc' := 89) d8_152 (by decide) (by decide) ?_
    exact own_cvL l Z a0 hw u v ow pr i en xs h0 n0 hx hen A_u (en.toInt - (i + 1).toInt).toNat (i + 1) _ (by omega) (by omega)
  refine own_iloadN (pc' := 1) d8_0 rfl rfl ?_
  refine own_if_eq (pc' := 33) (pf := 4) d8_1 (by decide) (by decide) rfl (fun h_1 => ?_) (fun h_1 => ?_)
  · exact K33
  · refine own_iloadN (pc' := 5) d8_4 rfl rfl ?_
    refine own_iconst (1 : Int32) (pc' := 6) d8_5 rfl rfl ?_
    refine own_ic_eq_t (pc' := 33) d8_6 (how.resolve_left h_1) (by decide) (by decide) ?_
    exact K33
set_option maxRecDepth 65536 in
set_option maxHeartbeats 40000000 in
theorem own_cvs (l : Launch) (Z : State) (a0 : Array Value) (hw : ∀ d ∈ tables_1, d.before a0 Z = true) (p q s u : Addr) (o0 o1 o2 p0 p1 p2 c d : Int32) (xs : List Int32) (h0 : Heap) (n0 : Nat) (hn0 : n0 ≤ h0.size) (hx : own_ok3 xs) (ho0 : o0 = 0 ∨ o0 = 1) (hp0 : ¬ p0 < 0) (ho1 : o1 = 0 ∨ o1 = 1) (hp1 : ¬ p1 < 0) (ho2 : o2 = 0 ∨ o2 = 1) (hp2 : ¬ p2 < 0) (hc : 0 < c.toInt) (hd : c.toInt < d.toInt) (he : d.toInt < 6) (A_p : own_A Z h0 p .int [.int o0, .int o1, .int o2]) (A_q : own_A Z h0 q .int [.int p0, .int p1, .int p2]) (A_s : own_A Z h0 s .int [.int (0 : Int32), .int c, .int d, .int (6 : Int32)]) (A_u : own_A Z h0 u .int (xs.map Value.int)) :
    own_W l Z (⟨"com/example/cycles_to_winners/cyclestowinners/model/Game", "checkVertices", "([I[I[I[I)V"⟩ : MethodName) prog_16_method_3_code 5 none ({ frames := 1, cells := 0, slots := 0, locals := 20 } : Room) n0 (fun v h => v = none ∧ h0 = h) h0 0 0 0 #[.val (.ref p), .val (.ref q), .val (.ref s), .val (.ref u), .unset] [] := by
  have c6 : (6 : Int32).toInt = 6 := rfl
  have c0 : (0 : Int32).toInt = 0 := rfl
  refine own_iconst (0 : Int32) (pc' := 1) d7_0 rfl rfl ?_
  refine own_istore (pc' := 3) (Ls' := #[.val (.ref p), .val (.ref q), .val (.ref s), .val (.ref u), .val (.int (0 : Int32))]) d7_1 rfl rfl ?_
  refine own_iload (pc' := 5) d7_3 rfl rfl ?_
  refine own_aloadN (pc' := 6) d7_5 rfl rfl ?_
  refine own_len (pc' := 7) (n := (3 : Int32)) A_p rfl d7_6 rfl ?_
  refine own_ic_ge_f (pc' := 10) d7_7 (by decide) rfl ?_
  refine own_iload (pc' := 12) d7_10 rfl rfl ?_
  refine own_aloadN (pc' := 13) d7_12 rfl rfl ?_
  refine own_iload (pc' := 15) d7_13 rfl rfl ?_
  refine own_iaload (pc' := 16) (v := .int o0) A_p (by decide) rfl d7_15 rfl ?_
  refine own_aloadN (pc' := 17) d7_16 rfl rfl ?_
  refine own_iload (pc' := 19) d7_17 rfl rfl ?_
  refine own_iaload (pc' := 20) (v := .int p0) A_q (by decide) rfl d7_19 rfl ?_
  refine own_aloadN (pc' := 21) d7_20 rfl rfl ?_
  refine own_aloadN (pc' := 22) d7_21 rfl rfl ?_
  refine own_iload (pc' := 24) d7_22 rfl rfl ?_
  refine own_iaload (pc' := 25) (v := .int (0 : Int32)) A_s (by decide) rfl d7_24 rfl ?_
  refine own_aloadN (pc' := 26) d7_25 rfl rfl ?_
  refine own_iload (pc' := 28) d7_26 rfl rfl ?_
  refine own_iconst (1 : Int32) (pc' := 29) d7_28 rfl rfl ?_
  refine own_iadd (pc' := 30) d7_29 rfl ?_
  rw [show ((0 : Int32) + (1 : Int32)) = (1 : Int32) from (by decide)]
  refine own_iaload (pc' := 31) (v := .int c) A_s (by decide) rfl d7_30 rfl ?_
  refine own_aloadN (pc' := 32) d7_31 rfl rfl ?_
  refine own_len (pc' := 33) (n := (3 : Int32)) A_p rfl d7_32 rfl ?_
  refine own_static (own_cv l Z a0 hw u (0 : Int32) o0 p0 (0 : Int32) c xs h0 n0 hn0 hx ho0 hp0 (by omega) (by omega) (by omega) A_u) (hw _ (List.mem_of_getElem? (i := 57) rfl)) (hw _ (List.mem_of_getElem? (i := 58) rfl)) (hw _ (List.mem_of_getElem? (i := 12) rfl)) (hw _ (List.mem_of_getElem? (i := 59) rfl)) (plainFor_of_name own_pn2) (by decide) own_pd6 rfl (argsL := [.int (0 : Int32), .int o0, .int p0, .ref u, .int (0 : Int32), .int c, .int (3 : Int32)]) (rest := []) rfl rfl (W := 0) (Nat.le_refl _) (by decide) (by decide) (by decide) (by decide) rfl d7_33 (pc' := 36) rfl (fun v_ h1 hq => ?_)
  obtain ⟨rfl, rfl⟩ := hq
  show own_W l Z (⟨"com/example/cycles_to_winners/cyclestowinners/model/Game", "checkVertices", "([I[I[I[I)V"⟩ : MethodName) prog_16_method_3_code 5 none ({ frames := 1, cells := 0, slots := 0, locals := 20 } : Room) n0 (fun v h => v = none ∧ h0 = h) h0 0 0 36 #[.val (.ref p), .val (.ref q), .val (.ref s), .val (.ref u), .val (.int (0 : Int32))] []
  refine own_iinc (pc' := 39) (w := (1 : Int32)) (Ls' := #[.val (.ref p), .val (.ref q), .val (.ref s), .val (.ref u), .val (.int ((0 : Int32) + (1 : Int32)))]) d7_36 rfl rfl rfl rfl ?_
  rw [show ((0 : Int32) + (1 : Int32)) = (1 : Int32) from (by decide)]
  refine own_goto (pc' := 3) d7_39 (by decide) (by decide) ?_
  refine own_iload (pc' := 5) d7_3 rfl rfl ?_
  refine own_aloadN (pc' := 6) d7_5 rfl rfl ?_
  refine own_len (pc' := 7) (n := (3 : Int32)) A_p rfl d7_6 rfl ?_
  refine own_ic_ge_f (pc' := 10) d7_7 (by decide) rfl ?_
  refine own_iload (pc' := 12) d7_10 rfl rfl ?_
  refine own_aloadN (pc' := 13) d7_12 rfl rfl ?_
  refine own_iload (pc' := 15) d7_13 rfl rfl ?_
  refine own_iaload (pc' := 16) (v := .int o1) A_p (by decide) rfl d7_15 rfl ?_
  refine own_aloadN (pc' := 17) d7_16 rfl rfl ?_
  refine own_iload (pc' := 19) d7_17 rfl rfl ?_
  refine own_iaload (pc' := 20) (v := .int p1) A_q (by decide) rfl d7_19 rfl ?_
  refine own_aloadN (pc' := 21) d7_20 rfl rfl ?_
  refine own_aloadN (pc' := 22) d7_21 rfl rfl ?_
  refine own_iload (pc' := 24) d7_22 rfl rfl ?_
  refine own_iaload (pc' := 25) (v := .int c) A_s (by decide) rfl d7_24 rfl ?_
  refine own_aloadN (pc' := 26) d7_25 rfl rfl ?_
  refine own_iload (pc' := 28) d7_26 rfl rfl ?_
  refine own_iconst (1 : Int32) (pc' := 29) d7_28 rfl rfl ?_
  refine own_iadd (pc' := 30) d7_29 rfl ?_
  rw [show ((1 : Int32) + (1 : Int32)) = (2 : Int32) from (by decide)]
  refine own_iaload (pc' := 31) (v := .int d) A_s (by decide) rfl d7_30 rfl ?_
  refine own_aloadN (pc' := 32) d7_31 rfl rfl ?_
  refine own_len (pc' := 33) (n := (3 : Int32)) A_p rfl d7_32 rfl ?_
  refine own_static (own_cv l Z a0 hw u (1 : Int32) o1 p1 c d xs h0 n0 hn0 hx ho1 hp1 (by omega) (by omega) (by omega) A_u) (hw _ (List.mem_of_getElem? (i := 57) rfl)) (hw _ (List.mem_of_getElem? (i := 58) rfl)) (hw _ (List.mem_of_getElem? (i := 12) rfl)) (hw _ (List.mem_of_getElem? (i := 59) rfl)) (plainFor_of_name own_pn2) (by decide) own_pd6 rfl (argsL := [.int (1 : Int32), .int o1, .int p1, .ref u, .int c, .int d, .int (3 : Int32)]) (rest := []) rfl rfl (W := 0) (Nat.le_refl _) (by decide) (by decide) (by decide) (by decide) rfl d7_33 (pc' := 36) rfl (fun v_ h2 hq => ?_)
  obtain ⟨rfl, rfl⟩ := hq
  show own_W l Z (⟨"com/example/cycles_to_winners/cyclestowinners/model/Game", "checkVertices", "([I[I[I[I)V"⟩ : MethodName) prog_16_method_3_code 5 none ({ frames := 1, cells := 0, slots := 0, locals := 20 } : Room) n0 (fun v h => v = none ∧ h0 = h) h0 0 0 36 #[.val (.ref p), .val (.ref q), .val (.ref s), .val (.ref u), .val (.int (1 : Int32))] []
  refine own_iinc (pc' := 39) (w := (1 : Int32)) (Ls' := #[.val (.ref p), .val (.ref q), .val (.ref s), .val (.ref u), .val (.int ((1 : Int32) + (1 : Int32)))]) d7_36 rfl rfl rfl rfl ?_
  rw [show ((1 : Int32) + (1 : Int32)) = (2 : Int32) from (by decide)]
  refine own_goto (pc' := 3) d7_39 (by decide) (by decide) ?_
  refine own_iload (pc' := 5) d7_3 rfl rfl ?_
  refine own_aloadN (pc' := 6) d7_5 rfl rfl ?_
  refine own_len (pc' := 7) (n := (3 : Int32)) A_p rfl d7_6 rfl ?_
  refine own_ic_ge_f (pc' := 10) d7_7 (by decide) rfl ?_
  refine own_iload (pc' := 12) d7_10 rfl rfl ?_
  refine own_aloadN (pc' := 13) d7_12 rfl rfl ?_
  refine own_iload (pc' := 15) d7_13 rfl rfl ?_
  refine own_iaload (pc' := 16) (v := .int o2) A_p (by decide) rfl d7_15 rfl ?_
  refine own_aloadN (pc' := 17) d7_16 rfl rfl ?_
  refine own_iload (pc' := 19) d7_17 rfl rfl ?_
  refine own_iaload (pc' := 20) (v := .int p2) A_q (by decide) rfl d7_19 rfl ?_
  refine own_aloadN (pc' := 21) d7_20 rfl rfl ?_
  refine own_aloadN (pc' := 22) d7_21 rfl rfl ?_
  refine own_iload (pc' := 24) d7_22 rfl rfl ?_
  refine own_iaload (pc' := 25) (v := .int d) A_s (by decide) rfl d7_24 rfl ?_
  refine own_aloadN (pc' := 26) d7_25 rfl rfl ?_
  refine own_iload (pc' := 28) d7_26 rfl rfl ?_
  refine own_iconst (1 : Int32) (pc' := 29) d7_28 rfl rfl ?_
  refine own_iadd (pc' := 30) d7_29 rfl ?_
  rw [show ((2 : Int32) + (1 : Int32)) = (3 : Int32) from (by decide)]
  refine own_iaload (pc' := 31) (v := .int (6 : Int32)) A_s (by decide) rfl d7_30 rfl ?_
  refine own_aloadN (pc' := 32) d7_31 rfl rfl ?_
  refine own_len (pc' := 33) (n := (3 : Int32)) A_p rfl d7_32 rfl ?_
  refine own_static (own_cv l Z a0 hw u (2 : Int32) o2 p2 d (6 : Int32) xs h0 n0 hn0 hx ho2 hp2 (by omega) (by omega) (by omega) A_u) (hw _ (List.mem_of_getElem? (i := 57) rfl)) (hw _ (List.mem_of_getElem? (i := 58) rfl)) (hw _ (List.mem_of_getElem? (i := 12) rfl)) (hw _ (List.mem_of_getElem? (i := 59) rfl)) (plainFor_of_name own_pn2) (by decide) own_pd6 rfl (argsL := [.int (2 : Int32), .int o2, .int p2, .ref u, .int d, .int (6 : Int32), .int (3 : Int32)]) (rest := []) rfl rfl (W := 0) (Nat.le_refl _) (by decide) (by decide) (by decide) (by decide) rfl d7_33 (pc' := 36) rfl (fun v_ h3 hq => ?_)
  obtain ⟨rfl, rfl⟩ := hq
  show own_W l Z (⟨"com/example/cycles_to_winners/cyclestowinners/model/Game", "checkVertices", "([I[I[I[I)V"⟩ : MethodName) prog_16_method_3_code 5 none ({ frames := 1, cells := 0, slots := 0, locals := 20 } : Room) n0 (fun v h => v = none ∧ h0 = h) h0 0 0 36 #[.val (.ref p), .val (.ref q), .val (.ref s), .val (.ref u), .val (.int (2 : Int32))] []
  refine own_iinc (pc' := 39) (w := (1 : Int32)) (Ls' := #[.val (.ref p), .val (.ref q), .val (.ref s), .val (.ref u), .val (.int ((2 : Int32) + (1 : Int32)))]) d7_36 rfl rfl rfl rfl ?_
  rw [show ((2 : Int32) + (1 : Int32)) = (3 : Int32) from (by decide)]
  refine own_goto (pc' := 3) d7_39 (by decide) (by decide) ?_
  refine own_iload (pc' := 5) d7_3 rfl rfl ?_
  refine own_aloadN (pc' := 6) d7_5 rfl rfl ?_
  refine own_len (pc' := 7) (n := (3 : Int32)) A_p rfl d7_6 rfl ?_
  refine own_ic_ge_t (pc' := 42) d7_7 (by decide) (by decide) (by decide) ?_
  exact own_ret rfl d7_42 ⟨rfl, rfl⟩
set_option maxRecDepth 65536 in
set_option maxHeartbeats 40000000 in
theorem own_hi (l : Launch) (Z : State) (a0 : Array Value) (hw : ∀ d ∈ tables_1, d.before a0 Z = true) (q : Addr) (p0 p1 p2 : Int32) (h0 : Heap) (n0 : Nat) (hn0 : n0 ≤ h0.size) (A_q : own_A Z h0 q .int [.int p0, .int p1, .int p2]) :
    own_W l Z (⟨"com/example/cycles_to_winners/cyclestowinners/model/Game", "highest", "([I)I"⟩ : MethodName) prog_16_method_6_code 6 (some .int) ({ frames := 1, cells := 0, slots := 0, locals := 13 } : Room) n0 (fun v h => ∃ k : Int32, v = some (.int k) ∧ h0 = h) h0 0 0 0 #[.val (.ref q), .unset, .unset, .unset, .unset, .unset] [] := by
  refine own_aloadN (pc' := 1) d9_0 rfl rfl ?_
  refine own_iconst (0 : Int32) (pc' := 2) d9_1 rfl rfl ?_
  refine own_iaload (pc' := 3) (v := .int p0) A_q (by decide) rfl d9_2 rfl ?_
  refine own_istoreN (pc' := 4) (Ls' := #[.val (.ref q), .val (.int p0), .unset, .unset, .unset, .unset]) d9_3 rfl rfl ?_
  refine own_aloadN (pc' := 5) d9_4 rfl rfl ?_
  refine own_astoreN (pc' := 6) (Ls' := #[.val (.ref q), .val (.int p0), .val (.ref q), .unset, .unset, .unset]) d9_5 rfl rfl ?_
  refine own_aloadN (pc' := 7) d9_6 rfl rfl ?_
  refine own_len (pc' := 8) (n := (3 : Int32)) A_q rfl d9_7 rfl ?_
  refine own_istoreN (pc' := 9) (Ls' := #[.val (.ref q), .val (.int p0), .val (.ref q), .val (.int (3 : Int32)), .unset, .unset]) d9_8 rfl rfl ?_
  refine own_iconst (0 : Int32) (pc' := 10) d9_9 rfl rfl ?_
  refine own_istore (pc' := 12) (Ls' := #[.val (.ref q), .val (.int p0), .val (.ref q), .val (.int (3 : Int32)), .val (.int (0 : Int32)), .unset]) d9_10 rfl rfl ?_
  refine own_iload (pc' := 14) d9_12 rfl rfl ?_
  refine own_iloadN (pc' := 15) d9_14 rfl rfl ?_
  refine own_ic_ge_f (pc' := 18) d9_15 (by decide) rfl ?_
  refine own_aloadN (pc' := 19) d9_18 rfl rfl ?_
  refine own_iload (pc' := 21) d9_19 rfl rfl ?_
  refine own_iaload (pc' := 22) (v := .int p0) A_q (by decide) rfl d9_21 rfl ?_
  refine own_istore (pc' := 24) (Ls' := #[.val (.ref q), .val (.int p0), .val (.ref q), .val (.int (3 : Int32)), .val (.int (0 : Int32)), .val (.int p0)]) d9_22 rfl rfl ?_
  refine own_iloadN (pc' := 25) d9_24 rfl rfl ?_
  refine own_iload (pc' := 27) d9_25 rfl rfl ?_
  refine own_static (own_maxW l Z a0 hw p0 p0 h0 n0 hn0) (hw _ (List.mem_of_getElem? (i := 63) rfl)) (hw _ (List.mem_of_getElem? (i := 64) rfl)) (hw _ (List.mem_of_getElem? (i := 2) rfl)) (hw _ (List.mem_of_getElem? (i := 65) rfl)) (Jvm.Free.JP.mathPlain rfl (by decide)) (by decide) own_pd1 rfl (argsL := [.int p0, .int p0]) (rest := []) rfl rfl (W := 0) (Nat.le_refl _) (by decide) (by decide) (by decide) (by decide) rfl d9_27 (pc' := 30) rfl (fun v_ h4 hq => ?_)
  obtain ⟨rfl, rfl⟩ := hq
  show own_W l Z (⟨"com/example/cycles_to_winners/cyclestowinners/model/Game", "highest", "([I)I"⟩ : MethodName) prog_16_method_6_code 6 (some .int) ({ frames := 1, cells := 0, slots := 0, locals := 13 } : Room) n0 (fun v h => ∃ k : Int32, v = some (.int k) ∧ h0 = h) h0 0 0 30 #[.val (.ref q), .val (.int p0), .val (.ref q), .val (.int (3 : Int32)), .val (.int (0 : Int32)), .val (.int p0)] [.int (own_max p0 p0)]
  refine own_istoreN (pc' := 31) (Ls' := #[.val (.ref q), .val (.int (own_max p0 p0)), .val (.ref q), .val (.int (3 : Int32)), .val (.int (0 : Int32)), .val (.int p0)]) d9_30 rfl rfl ?_
  refine own_iinc (pc' := 34) (w := (1 : Int32)) (Ls' := #[.val (.ref q), .val (.int (own_max p0 p0)), .val (.ref q), .val (.int (3 : Int32)), .val (.int ((0 : Int32) + (1 : Int32))), .val (.int p0)]) d9_31 rfl rfl rfl rfl ?_
  rw [show ((0 : Int32) + (1 : Int32)) = (1 : Int32) from (by decide)]
  refine own_goto (pc' := 12) d9_34 (by decide) (by decide) ?_
  refine own_iload (pc' := 14) d9_12 rfl rfl ?_
  refine own_iloadN (pc' := 15) d9_14 rfl rfl ?_
  refine own_ic_ge_f (pc' := 18) d9_15 (by decide) rfl ?_
  refine own_aloadN (pc' := 19) d9_18 rfl rfl ?_
  refine own_iload (pc' := 21) d9_19 rfl rfl ?_
  refine own_iaload (pc' := 22) (v := .int p1) A_q (by decide) rfl d9_21 rfl ?_
  refine own_istore (pc' := 24) (Ls' := #[.val (.ref q), .val (.int (own_max p0 p0)), .val (.ref q), .val (.int (3 : Int32)), .val (.int (1 : Int32)), .val (.int p1)]) d9_22 rfl rfl ?_
  refine own_iloadN (pc' := 25) d9_24 rfl rfl ?_
  refine own_iload (pc' := 27) d9_25 rfl rfl ?_
  refine own_static (own_maxW l Z a0 hw (own_max p0 p0) p1 h0 n0 hn0) (hw _ (List.mem_of_getElem? (i := 63) rfl)) (hw _ (List.mem_of_getElem? (i := 64) rfl)) (hw _ (List.mem_of_getElem? (i := 2) rfl)) (hw _ (List.mem_of_getElem? (i := 65) rfl)) (Jvm.Free.JP.mathPlain rfl (by decide)) (by decide) own_pd1 rfl (argsL := [.int (own_max p0 p0), .int p1]) (rest := []) rfl rfl (W := 0) (Nat.le_refl _) (by decide) (by decide) (by decide) (by decide) rfl d9_27 (pc' := 30) rfl (fun v_ h5 hq => ?_)
  obtain ⟨rfl, rfl⟩ := hq
  show own_W l Z (⟨"com/example/cycles_to_winners/cyclestowinners/model/Game", "highest", "([I)I"⟩ : MethodName) prog_16_method_6_code 6 (some .int) ({ frames := 1, cells := 0, slots := 0, locals := 13 } : Room) n0 (fun v h => ∃ k : Int32, v = some (.int k) ∧ h0 = h) h0 0 0 30 #[.val (.ref q), .val (.int (own_max p0 p0)), .val (.ref q), .val (.int (3 : Int32)), .val (.int (1 : Int32)), .val (.int p1)] [.int (own_max (own_max p0 p0) p1)]
  refine own_istoreN (pc' := 31) (Ls' := #[.val (.ref q), .val (.int (own_max (own_max p0 p0) p1)), .val (.ref q), .val (.int (3 : Int32)), .val (.int (1 : Int32)), .val (.int p1)]) d9_30 rfl rfl ?_
  refine own_iinc (pc' := 34) (w := (1 : Int32)) (Ls' := #[.val (.ref q), .val (.int (own_max (own_max p0 p0) p1)), .val (.ref q), .val (.int (3 : Int32)), .val (.int ((1 : Int32) + (1 : Int32))), .val (.int p1)]) d9_31 rfl rfl rfl rfl ?_
  rw [show ((1 : Int32) + (1 : Int32)) = (2 : Int32) from (by decide)]
  refine own_goto (pc' := 12) d9_34 (by decide) (by decide) ?_
  refine own_iload (pc' := 14) d9_12 rfl rfl ?_
  refine own_iloadN (pc' := 15) d9_14 rfl rfl ?_
  refine own_ic_ge_f (pc' := 18) d9_15 (by decide) rfl ?_
  refine own_aloadN (pc' := 19) d9_18 rfl rfl ?_
  refine own_iload (pc' := 21) d9_19 rfl rfl ?_
  refine own_iaload (pc' := 22) (v := .int p2) A_q (by decide) rfl d9_21 rfl ?_
  refine own_istore (pc' := 24) (Ls' := #[.val (.ref q), .val (.int (own_max (own_max p0 p0) p1)), .val (.ref q), .val (.int (3 : Int32)), .val (.int (2 : Int32)), .val (.int p2)]) d9_22 rfl rfl ?_
  refine own_iloadN (pc' := 25) d9_24 rfl rfl ?_
  refine own_iload (pc' := 27) d9_25 rfl rfl ?_
  refine own_static (own_maxW l Z a0 hw (own_max (own_max p0 p0) p1) p2 h0 n0 hn0) (hw _ (List.mem_of_getElem? (i := 63) rfl)) (hw _ (List.mem_of_getElem? (i := 64) rfl)) (hw _ (List.mem_of_getElem? (i := 2) rfl)) (hw _ (List.mem_of_getElem? (i := 65) rfl)) (Jvm.Free.JP.mathPlain rfl (by decide)) (by decide) own_pd1 rfl (argsL := [.int (own_max (own_max p0 p0) p1), .int p2]) (rest := []) rfl rfl (W := 0) (Nat.le_refl _) (by decide) (by decide) (by decide) (by decide) rfl d9_27 (pc' := 30) rfl (fun v_ h6 hq => ?_)
  obtain ⟨rfl, rfl⟩ := hq
  show own_W l Z (⟨"com/example/cycles_to_winners/cyclestowinners/model/Game", "highest", "([I)I"⟩ : MethodName) prog_16_method_6_code 6 (some .int) ({ frames := 1, cells := 0, slots := 0, locals := 13 } : Room) n0 (fun v h => ∃ k : Int32, v = some (.int k) ∧ h0 = h) h0 0 0 30 #[.val (.ref q), .val (.int (own_max (own_max p0 p0) p1)), .val (.ref q), .val (.int (3 : Int32)), .val (.int (2 : Int32)), .val (.int p2)] [.int (own_max (own_max (own_max p0 p0) p1) p2)]
  refine own_istoreN (pc' := 31) (Ls' := #[.val (.ref q), .val (.int (own_max (own_max (own_max p0 p0) p1) p2)), .val (.ref q), .val (.int (3 : Int32)), .val (.int (2 : Int32)), .val (.int p2)]) d9_30 rfl rfl ?_
  refine own_iinc (pc' := 34) (w := (1 : Int32)) (Ls' := #[.val (.ref q), .val (.int (own_max (own_max (own_max p0 p0) p1) p2)), .val (.ref q), .val (.int (3 : Int32)), .val (.int ((2 : Int32) + (1 : Int32))), .val (.int p2)]) d9_31 rfl rfl rfl rfl ?_
  rw [show ((2 : Int32) + (1 : Int32)) = (3 : Int32) from (by decide)]
  refine own_goto (pc' := 12) d9_34 (by decide) (by decide) ?_
  refine own_iload (pc' := 14) d9_12 rfl rfl ?_
  refine own_iloadN (pc' := 15) d9_14 rfl rfl ?_
  refine own_ic_ge_t (pc' := 37) d9_15 (by decide) (by decide) (by decide) ?_
  refine own_iloadN (pc' := 38) d9_37 rfl rfl ?_
  exact own_iret rfl d9_38 ⟨_, rfl, rfl⟩
set_option maxRecDepth 65536 in
set_option maxHeartbeats 40000000 in
theorem own_mk (l : Launch) (Z : State) (a0 : Array Value) (hw : ∀ d ∈ tables_1, d.before a0 Z = true) (o p q s u : Addr) (o0 o1 o2 p0 p1 p2 c d : Int32) (xs : List Int32) (h0 : Heap) (n0 : Nat) (hn0 : n0 ≤ h0.size) (hx : own_ok3 xs) (ho0 : o0 = 0 ∨ o0 = 1) (hp0 : ¬ p0 < 0) (ho1 : o1 = 0 ∨ o1 = 1) (hp1 : ¬ p1 < 0) (ho2 : o2 = 0 ∨ o2 = 1) (hp2 : ¬ p2 < 0) (hc : 0 < c.toInt) (hd : c.toInt < d.toInt) (he : d.toInt < 6) (ge_o : n0 ≤ o) (A_p : own_A Z h0 p .int [.int o0, .int o1, .int o2]) (A_q : own_A Z h0 q .int [.int p0, .int p1, .int p2]) (A_s : own_A Z h0 s .int [.int (0 : Int32), .int c, .int d, .int (6 : Int32)]) (A_u : own_A Z h0 u .int (xs.map Value.int)) (E_p : Exa Z h0 p "[I") (ne_p_o : p ≠ o) (E_q : Exa Z h0 q "[I") (ne_q_o : q ≠ o) (E_s : Exa Z h0 s "[I") (ne_s_o : s ≠ o) (E_u : Exa Z h0 u "[I") (ne_u_o : u ≠ o) (E_o : Exa Z h0 o "com/example/cycles_to_winners/cyclestowinners/model/Game") (F_o_owners : Fld Z h0 o "com/example/cycles_to_winners/cyclestowinners/model/Game" "owners" "[I" (.null)) (F_o_priorities : Fld Z h0 o "com/example/cycles_to_winners/cyclestowinners/model/Game" "priorities" "[I" (.null)) (F_o_successorStart : Fld Z h0 o "com/example/cycles_to_winners/cyclestowinners/model/Game" "successorStart" "[I" (.null)) (F_o_successors : Fld Z h0 o "com/example/cycles_to_winners/cyclestowinners/model/Game" "successors" "[I" (.null)) (F_o_maxPriority : Fld Z h0 o "com/example/cycles_to_winners/cyclestowinners/model/Game" "maxPriority" "I" (.int 0)) :
    own_W l Z (⟨"com/example/cycles_to_winners/cyclestowinners/model/Game", "<init>", "([I[I[I[I)V"⟩ : MethodName) prog_16_method_1_code 5 none ({ frames := 2, cells := 12, slots := 192, locals := 36 } : Room) n0 (fun v h => v = none ∧ ∃ ow2 s2 u2 : Addr, h0.size ≤ ow2 ∧ h0.size ≤ s2 ∧ h0.size ≤ u2 ∧ Keep h0 h [o] ∧ Exa Z h o "com/example/cycles_to_winners/cyclestowinners/model/Game" ∧ Fld Z h o "com/example/cycles_to_winners/cyclestowinners/model/Game" "owners" "[I" (.ref ow2) ∧ Fld Z h o "com/example/cycles_to_winners/cyclestowinners/model/Game" "successorStart" "[I" (.ref s2) ∧ Fld Z h o "com/example/cycles_to_winners/cyclestowinners/model/Game" "successors" "[I" (.ref u2) ∧ own_A Z h ow2 .int [.int o0, .int o1, .int o2] ∧ own_A Z h s2 .int [.int (0 : Int32), .int c, .int d, .int (6 : Int32)] ∧ own_A Z h u2 .int (xs.map Value.int)) h0 0 0 0 #[.val (.ref o), .val (.ref p), .val (.ref q), .val (.ref s), .val (.ref u)] [] := by
  have c6 : (6 : Int32).toInt = 6 := rfl
  have c0 : (0 : Int32).toInt = 0 := rfl
  have kk0 : h0.size ≤ h0.size := Nat.le_refl _
  refine own_aloadN (pc' := 1) d3_0 rfl rfl ?_
  refine own_initO (pc' := 4) (W := 0) (hw _ (List.mem_of_getElem? (i := 16) rfl)) (hw _ (List.mem_of_getElem? (i := 17) rfl)) (hw _ (List.mem_of_getElem? (i := 18) rfl)) d3_1 rfl rfl (by decide) (Nat.le_refl _) (by decide) ?_
  refine own_aloadN (pc' := 5) d3_4 rfl rfl ?_
  refine own_aloadN (pc' := 6) d3_5 rfl rfl ?_
  refine own_ldcS (pc' := 8) (n := 24) (hw _ (List.mem_of_getElem? (i := 19) rfl)) (own_wS Z a0 hw) d3_6 rfl (by decide) (by decide) (by decide) (by decide) (fun h7 a8 E9 => ?_)
  replace A_p := A_p.ext E9
  replace A_q := A_q.ext E9
  replace A_s := A_s.ext E9
  replace A_u := A_u.ext E9
  replace E_p := E_p.ext E9
  replace E_q := E_q.ext E9
  replace E_s := E_s.ext E9
  replace E_u := E_u.ext E9
  replace E_o := E_o.ext E9
  replace F_o_owners := F_o_owners.ext E9
  replace F_o_priorities := F_o_priorities.ext E9
  replace F_o_successorStart := F_o_successorStart.ext E9
  replace F_o_successors := F_o_successors.ext E9
  replace F_o_maxPriority := F_o_maxPriority.ext E9
  replace hn0 : n0 ≤ h7.size := Nat.le_trans hn0 E9.1
  refine own_static (own_rnn l Z a0 hw p a8 h7 n0 hn0) (hw _ (List.mem_of_getElem? (i := 27) rfl)) (hw _ (List.mem_of_getElem? (i := 28) rfl)) (hw _ (List.mem_of_getElem? (i := 29) rfl)) (hw _ (List.mem_of_getElem? (i := 30) rfl)) (plainFor_of_name own_pn4) (by decide) own_pd5 rfl (argsL := [.ref p, .ref a8]) (rest := [.ref o]) rfl rfl (W := 1) (Nat.le_refl _) (by decide) (by decide) (by decide) (by decide) rfl d3_8 (pc' := 11) rfl (fun v_ h10 hq => ?_)
  obtain ⟨rfl, rfl⟩ := hq
  show own_W l Z (⟨"com/example/cycles_to_winners/cyclestowinners/model/Game", "<init>", "([I[I[I[I)V"⟩ : MethodName) prog_16_method_1_code 5 none ({ frames := 2, cells := 12, slots := 192, locals := 36 } : Room) n0 (fun v h => v = none ∧ ∃ ow2 s2 u2 : Addr, h0.size ≤ ow2 ∧ h0.size ≤ s2 ∧ h0.size ≤ u2 ∧ Keep h0 h [o] ∧ Exa Z h o "com/example/cycles_to_winners/cyclestowinners/model/Game" ∧ Fld Z h o "com/example/cycles_to_winners/cyclestowinners/model/Game" "owners" "[I" (.ref ow2) ∧ Fld Z h o "com/example/cycles_to_winners/cyclestowinners/model/Game" "successorStart" "[I" (.ref s2) ∧ Fld Z h o "com/example/cycles_to_winners/cyclestowinners/model/Game" "successors" "[I" (.ref u2) ∧ own_A Z h ow2 .int [.int o0, .int o1, .int o2] ∧ own_A Z h s2 .int [.int (0 : Int32), .int c, .int d, .int (6 : Int32)] ∧ own_A Z h u2 .int (xs.map Value.int)) h7 2 28 11 #[.val (.ref o), .val (.ref p), .val (.ref q), .val (.ref s), .val (.ref u)] [.ref p, .ref o]
  refine own_cast (pc' := 14) (hw _ (List.mem_of_getElem? (i := 31) rfl)) (Ins.self E_p) d3_11 rfl ?_
  refine own_clone (pc' := 17) (W := 1) (cap := 3) (hw _ (List.mem_of_getElem? (i := 33) rfl)) (hw _ (List.mem_of_getElem? (i := 34) rfl)) (hw _ (List.mem_of_getElem? (i := 38) rfl)) (hw _ (List.mem_of_getElem? (i := 36) rfl)) (hw _ (List.mem_of_getElem? (i := 37) rfl)) (hw _ (List.mem_of_getElem? (i := 39) rfl)) A_p E_p d3_14 rfl rfl (by decide) (Nat.le_refl _) (by decide) (by first | decide | exact Nat.le_refl _) (by decide) (by decide) (fun h11 p2_ gt_p2_ lt_p2_ E12 A_p2_ E_p2_ => ?_)
  have ge_p2_ : n0 ≤ p2_ := Nat.le_trans hn0 gt_p2_
  have ne_o_p2_ : o ≠ p2_ := Nat.ne_of_lt (by first | exact Nat.lt_of_lt_of_le E_o.lt gt_p2_ | (have q := Nat.lt_of_lt_of_le E_o.lt (Nat.le_refl _); omega))
  have ne_p_p2_ : p ≠ p2_ := Nat.ne_of_lt (by first | exact Nat.lt_of_lt_of_le A_p.lt gt_p2_ | (have q := Nat.lt_of_lt_of_le A_p.lt (Nat.le_refl _); omega))
  have ne_q_p2_ : q ≠ p2_ := Nat.ne_of_lt (by first | exact Nat.lt_of_lt_of_le A_q.lt gt_p2_ | (have q := Nat.lt_of_lt_of_le A_q.lt (Nat.le_refl _); omega))
  have ne_s_p2_ : s ≠ p2_ := Nat.ne_of_lt (by first | exact Nat.lt_of_lt_of_le A_s.lt gt_p2_ | (have q := Nat.lt_of_lt_of_le A_s.lt (Nat.le_refl _); omega))
  have ne_u_p2_ : u ≠ p2_ := Nat.ne_of_lt (by first | exact Nat.lt_of_lt_of_le A_u.lt gt_p2_ | (have q := Nat.lt_of_lt_of_le A_u.lt (Nat.le_refl _); omega))
  replace A_p := A_p.ext E12
  replace A_q := A_q.ext E12
  replace A_s := A_s.ext E12
  replace A_u := A_u.ext E12
  replace E_p := E_p.ext E12
  replace E_q := E_q.ext E12
  replace E_s := E_s.ext E12
  replace E_u := E_u.ext E12
  replace E_o := E_o.ext E12
  replace F_o_owners := F_o_owners.ext E12
  replace F_o_priorities := F_o_priorities.ext E12
  replace F_o_successorStart := F_o_successorStart.ext E12
  replace F_o_successors := F_o_successors.ext E12
  replace F_o_maxPriority := F_o_maxPriority.ext E12
  replace hn0 : n0 ≤ h11.size := Nat.le_trans hn0 E12.1
  have gg_p2_ : h0.size ≤ p2_ := Nat.le_trans ((Keep.refl h0 [o]).ext E9).1 gt_p2_
  refine own_cast (pc' := 20) (hw _ (List.mem_of_getElem? (i := 31) rfl)) (Ins.self E_p2_) d3_17 rfl ?_
  refine own_putF (pc' := 23) (hw _ (List.mem_of_getElem? (i := 40) rfl)) F_o_owners E_o (Or.inr ⟨(hw _ (List.mem_of_getElem? (i := 41) rfl)), rfl, rfl⟩) (hw _ (List.mem_of_getElem? (i := 11) rfl)) ge_o (ty := (.array .int)) (by decide) rfl rfl d3_20 rfl (fun h13 Wr14 K15 => ?_)
  replace A_p := A_p.keep K15 (ninS ne_p_o nin0)
  replace A_q := A_q.keep K15 (ninS ne_q_o nin0)
  replace A_s := A_s.keep K15 (ninS ne_s_o nin0)
  replace A_u := A_u.keep K15 (ninS ne_u_o nin0)
  replace E_p := E_p.wr Wr14
  replace E_q := E_q.wr Wr14
  replace E_s := E_s.wr Wr14
  replace E_u := E_u.wr Wr14
  replace E_o := E_o.wr Wr14
  replace F_o_owners := F_o_owners.same Wr14
  replace F_o_priorities := F_o_priorities.other Wr14 (Or.inr (slot_ne (a0 := a0) (Or.inr (hw _ (List.mem_of_getElem? (i := 44) rfl))) (Or.inr (hw _ (List.mem_of_getElem? (i := 41) rfl))) (by decide) (t := (.array .int)) (by decide) (t' := (.array .int)) (by decide)))
  replace F_o_successorStart := F_o_successorStart.other Wr14 (Or.inr (slot_ne (a0 := a0) (Or.inr (hw _ (List.mem_of_getElem? (i := 47) rfl))) (Or.inr (hw _ (List.mem_of_getElem? (i := 41) rfl))) (by decide) (t := (.array .int)) (by decide) (t' := (.array .int)) (by decide)))
  replace F_o_successors := F_o_successors.other Wr14 (Or.inr (slot_ne (a0 := a0) (Or.inr (hw _ (List.mem_of_getElem? (i := 50) rfl))) (Or.inr (hw _ (List.mem_of_getElem? (i := 41) rfl))) (by decide) (t := (.array .int)) (by decide) (t' := (.array .int)) (by decide)))
  replace F_o_maxPriority := F_o_maxPriority.other Wr14 (Or.inr (slot_ne (a0 := a0) (Or.inr (hw _ (List.mem_of_getElem? (i := 67) rfl))) (Or.inr (hw _ (List.mem_of_getElem? (i := 41) rfl))) (by decide) (t := .int) (by decide) (t' := (.array .int)) (by decide)))
  replace A_p2_ := A_p2_.keep K15 (ninS (Ne.symm ne_o_p2_) nin0)
  replace E_p2_ := E_p2_.wr Wr14
  replace hn0 : n0 ≤ h13.size := Nat.le_trans hn0 K15.1
  refine own_aloadN (pc' := 24) d3_23 rfl rfl ?_
  refine own_aloadN (pc' := 25) d3_24 rfl rfl ?_
  refine own_ldcS (pc' := 27) (n := 40) (hw _ (List.mem_of_getElem? (i := 42) rfl)) (own_wS Z a0 hw) d3_25 rfl (by decide) (by decide) (by decide) (by decide) (fun h16 a17 E18 => ?_)
  replace A_p := A_p.ext E18
  replace A_q := A_q.ext E18
  replace A_s := A_s.ext E18
  replace A_u := A_u.ext E18
  replace E_p := E_p.ext E18
  replace E_q := E_q.ext E18
  replace E_s := E_s.ext E18
  replace E_u := E_u.ext E18
  replace E_o := E_o.ext E18
  replace F_o_owners := F_o_owners.ext E18
  replace F_o_priorities := F_o_priorities.ext E18
  replace F_o_successorStart := F_o_successorStart.ext E18
  replace F_o_successors := F_o_successors.ext E18
  replace F_o_maxPriority := F_o_maxPriority.ext E18
  replace A_p2_ := A_p2_.ext E18
  replace E_p2_ := E_p2_.ext E18
  replace hn0 : n0 ≤ h16.size := Nat.le_trans hn0 E18.1
  refine own_static (own_rnn l Z a0 hw q a17 h16 n0 hn0) (hw _ (List.mem_of_getElem? (i := 27) rfl)) (hw _ (List.mem_of_getElem? (i := 28) rfl)) (hw _ (List.mem_of_getElem? (i := 29) rfl)) (hw _ (List.mem_of_getElem? (i := 30) rfl)) (plainFor_of_name own_pn4) (by decide) own_pd5 rfl (argsL := [.ref q, .ref a17]) (rest := [.ref o]) rfl rfl (W := 1) (Nat.le_refl _) (by decide) (by decide) (by decide) (by decide) rfl d3_27 (pc' := 30) rfl (fun v_ h19 hq => ?_)
  obtain ⟨rfl, rfl⟩ := hq
  show own_W l Z (⟨"com/example/cycles_to_winners/cyclestowinners/model/Game", "<init>", "([I[I[I[I)V"⟩ : MethodName) prog_16_method_1_code 5 none ({ frames := 2, cells := 12, slots := 192, locals := 36 } : Room) n0 (fun v h => v = none ∧ ∃ ow2 s2 u2 : Addr, h0.size ≤ ow2 ∧ h0.size ≤ s2 ∧ h0.size ≤ u2 ∧ Keep h0 h [o] ∧ Exa Z h o "com/example/cycles_to_winners/cyclestowinners/model/Game" ∧ Fld Z h o "com/example/cycles_to_winners/cyclestowinners/model/Game" "owners" "[I" (.ref ow2) ∧ Fld Z h o "com/example/cycles_to_winners/cyclestowinners/model/Game" "successorStart" "[I" (.ref s2) ∧ Fld Z h o "com/example/cycles_to_winners/cyclestowinners/model/Game" "successors" "[I" (.ref u2) ∧ own_A Z h ow2 .int [.int o0, .int o1, .int o2] ∧ own_A Z h s2 .int [.int (0 : Int32), .int c, .int d, .int (6 : Int32)] ∧ own_A Z h u2 .int (xs.map Value.int)) h16 5 75 30 #[.val (.ref o), .val (.ref p), .val (.ref q), .val (.ref s), .val (.ref u)] [.ref q, .ref o]
  refine own_cast (pc' := 33) (hw _ (List.mem_of_getElem? (i := 31) rfl)) (Ins.self E_q) d3_30 rfl ?_
  refine own_clone (pc' := 36) (W := 1) (cap := 3) (hw _ (List.mem_of_getElem? (i := 33) rfl)) (hw _ (List.mem_of_getElem? (i := 34) rfl)) (hw _ (List.mem_of_getElem? (i := 38) rfl)) (hw _ (List.mem_of_getElem? (i := 36) rfl)) (hw _ (List.mem_of_getElem? (i := 37) rfl)) (hw _ (List.mem_of_getElem? (i := 39) rfl)) A_q E_q d3_33 rfl rfl (by decide) (Nat.le_refl _) (by decide) (by first | decide | exact Nat.le_refl _) (by decide) (by decide) (fun h20 q2_ gt_q2_ lt_q2_ E21 A_q2_ E_q2_ => ?_)
  have ge_q2_ : n0 ≤ q2_ := Nat.le_trans hn0 gt_q2_
  have ne_o_q2_ : o ≠ q2_ := Nat.ne_of_lt (by first | exact Nat.lt_of_lt_of_le E_o.lt gt_q2_ | (have q := Nat.lt_of_lt_of_le E_o.lt (Nat.le_refl _); omega))
  have ne_p_q2_ : p ≠ q2_ := Nat.ne_of_lt (by first | exact Nat.lt_of_lt_of_le A_p.lt gt_q2_ | (have q := Nat.lt_of_lt_of_le A_p.lt (Nat.le_refl _); omega))
  have ne_p2__q2_ : p2_ ≠ q2_ := Nat.ne_of_lt (by first | exact Nat.lt_of_lt_of_le A_p2_.lt gt_q2_ | (have q := Nat.lt_of_lt_of_le A_p2_.lt (Nat.le_refl _); omega))
  have ne_q_q2_ : q ≠ q2_ := Nat.ne_of_lt (by first | exact Nat.lt_of_lt_of_le A_q.lt gt_q2_ | (have q := Nat.lt_of_lt_of_le A_q.lt (Nat.le_refl _); omega))
  have ne_s_q2_ : s ≠ q2_ := Nat.ne_of_lt (by first | exact Nat.lt_of_lt_of_le A_s.lt gt_q2_ | (have q := Nat.lt_of_lt_of_le A_s.lt (Nat.le_refl _); omega))
  have ne_u_q2_ : u ≠ q2_ := Nat.ne_of_lt (by first | exact Nat.lt_of_lt_of_le A_u.lt gt_q2_ | (have q := Nat.lt_of_lt_of_le A_u.lt (Nat.le_refl _); omega))
  replace A_p := A_p.ext E21
  replace A_q := A_q.ext E21
  replace A_s := A_s.ext E21
  replace A_u := A_u.ext E21
  replace E_p := E_p.ext E21
  replace E_q := E_q.ext E21
  replace E_s := E_s.ext E21
  replace E_u := E_u.ext E21
  replace E_o := E_o.ext E21
  replace F_o_owners := F_o_owners.ext E21
  replace F_o_priorities := F_o_priorities.ext E21
  replace F_o_successorStart := F_o_successorStart.ext E21
  replace F_o_successors := F_o_successors.ext E21
  replace F_o_maxPriority := F_o_maxPriority.ext E21
  replace A_p2_ := A_p2_.ext E21
  replace E_p2_ := E_p2_.ext E21
  replace hn0 : n0 ≤ h20.size := Nat.le_trans hn0 E21.1
  have gg_q2_ : h0.size ≤ q2_ := Nat.le_trans (((((Keep.refl h0 [o]).ext E9).ext E12).trans K15 (fun x hx => Or.inl hx)).ext E18).1 gt_q2_
  refine own_cast (pc' := 39) (hw _ (List.mem_of_getElem? (i := 31) rfl)) (Ins.self E_q2_) d3_36 rfl ?_
  refine own_putF (pc' := 42) (hw _ (List.mem_of_getElem? (i := 43) rfl)) F_o_priorities E_o (Or.inr ⟨(hw _ (List.mem_of_getElem? (i := 44) rfl)), rfl, rfl⟩) (hw _ (List.mem_of_getElem? (i := 11) rfl)) ge_o (ty := (.array .int)) (by decide) rfl rfl d3_39 rfl (fun h22 Wr23 K24 => ?_)
  replace A_p := A_p.keep K24 (ninS ne_p_o nin0)
  replace A_q := A_q.keep K24 (ninS ne_q_o nin0)
  replace A_s := A_s.keep K24 (ninS ne_s_o nin0)
  replace A_u := A_u.keep K24 (ninS ne_u_o nin0)
  replace E_p := E_p.wr Wr23
  replace E_q := E_q.wr Wr23
  replace E_s := E_s.wr Wr23
  replace E_u := E_u.wr Wr23
  replace E_o := E_o.wr Wr23
  replace F_o_owners := F_o_owners.other Wr23 (Or.inr (slot_ne (a0 := a0) (Or.inr (hw _ (List.mem_of_getElem? (i := 41) rfl))) (Or.inr (hw _ (List.mem_of_getElem? (i := 44) rfl))) (by decide) (t := (.array .int)) (by decide) (t' := (.array .int)) (by decide)))
  replace F_o_priorities := F_o_priorities.same Wr23
  replace F_o_successorStart := F_o_successorStart.other Wr23 (Or.inr (slot_ne (a0 := a0) (Or.inr (hw _ (List.mem_of_getElem? (i := 47) rfl))) (Or.inr (hw _ (List.mem_of_getElem? (i := 44) rfl))) (by decide) (t := (.array .int)) (by decide) (t' := (.array .int)) (by decide)))
  replace F_o_successors := F_o_successors.other Wr23 (Or.inr (slot_ne (a0 := a0) (Or.inr (hw _ (List.mem_of_getElem? (i := 50) rfl))) (Or.inr (hw _ (List.mem_of_getElem? (i := 44) rfl))) (by decide) (t := (.array .int)) (by decide) (t' := (.array .int)) (by decide)))
  replace F_o_maxPriority := F_o_maxPriority.other Wr23 (Or.inr (slot_ne (a0 := a0) (Or.inr (hw _ (List.mem_of_getElem? (i := 67) rfl))) (Or.inr (hw _ (List.mem_of_getElem? (i := 44) rfl))) (by decide) (t := .int) (by decide) (t' := (.array .int)) (by decide)))
  replace A_p2_ := A_p2_.keep K24 (ninS (Ne.symm ne_o_p2_) nin0)
  replace E_p2_ := E_p2_.wr Wr23
  replace A_q2_ := A_q2_.keep K24 (ninS (Ne.symm ne_o_q2_) nin0)
  replace E_q2_ := E_q2_.wr Wr23
  replace hn0 : n0 ≤ h22.size := Nat.le_trans hn0 K24.1
  refine own_aloadN (pc' := 43) d3_42 rfl rfl ?_
  refine own_aloadN (pc' := 44) d3_43 rfl rfl ?_
  refine own_ldcS (pc' := 46) (n := 56) (hw _ (List.mem_of_getElem? (i := 45) rfl)) (own_wS Z a0 hw) d3_44 rfl (by decide) (by decide) (by decide) (by decide) (fun h25 a26 E27 => ?_)
  replace A_p := A_p.ext E27
  replace A_q := A_q.ext E27
  replace A_s := A_s.ext E27
  replace A_u := A_u.ext E27
  replace E_p := E_p.ext E27
  replace E_q := E_q.ext E27
  replace E_s := E_s.ext E27
  replace E_u := E_u.ext E27
  replace E_o := E_o.ext E27
  replace F_o_owners := F_o_owners.ext E27
  replace F_o_priorities := F_o_priorities.ext E27
  replace F_o_successorStart := F_o_successorStart.ext E27
  replace F_o_successors := F_o_successors.ext E27
  replace F_o_maxPriority := F_o_maxPriority.ext E27
  replace A_p2_ := A_p2_.ext E27
  replace E_p2_ := E_p2_.ext E27
  replace A_q2_ := A_q2_.ext E27
  replace E_q2_ := E_q2_.ext E27
  replace hn0 : n0 ≤ h25.size := Nat.le_trans hn0 E27.1
  refine own_static (own_rnn l Z a0 hw s a26 h25 n0 hn0) (hw _ (List.mem_of_getElem? (i := 27) rfl)) (hw _ (List.mem_of_getElem? (i := 28) rfl)) (hw _ (List.mem_of_getElem? (i := 29) rfl)) (hw _ (List.mem_of_getElem? (i := 30) rfl)) (plainFor_of_name own_pn4) (by decide) own_pd5 rfl (argsL := [.ref s, .ref a26]) (rest := [.ref o]) rfl rfl (W := 1) (Nat.le_refl _) (by decide) (by decide) (by decide) (by decide) rfl d3_46 (pc' := 49) rfl (fun v_ h28 hq => ?_)
  obtain ⟨rfl, rfl⟩ := hq
  show own_W l Z (⟨"com/example/cycles_to_winners/cyclestowinners/model/Game", "<init>", "([I[I[I[I)V"⟩ : MethodName) prog_16_method_1_code 5 none ({ frames := 2, cells := 12, slots := 192, locals := 36 } : Room) n0 (fun v h => v = none ∧ ∃ ow2 s2 u2 : Addr, h0.size ≤ ow2 ∧ h0.size ≤ s2 ∧ h0.size ≤ u2 ∧ Keep h0 h [o] ∧ Exa Z h o "com/example/cycles_to_winners/cyclestowinners/model/Game" ∧ Fld Z h o "com/example/cycles_to_winners/cyclestowinners/model/Game" "owners" "[I" (.ref ow2) ∧ Fld Z h o "com/example/cycles_to_winners/cyclestowinners/model/Game" "successorStart" "[I" (.ref s2) ∧ Fld Z h o "com/example/cycles_to_winners/cyclestowinners/model/Game" "successors" "[I" (.ref u2) ∧ own_A Z h ow2 .int [.int o0, .int o1, .int o2] ∧ own_A Z h s2 .int [.int (0 : Int32), .int c, .int d, .int (6 : Int32)] ∧ own_A Z h u2 .int (xs.map Value.int)) h25 8 138 49 #[.val (.ref o), .val (.ref p), .val (.ref q), .val (.ref s), .val (.ref u)] [.ref s, .ref o]
  refine own_cast (pc' := 52) (hw _ (List.mem_of_getElem? (i := 31) rfl)) (Ins.self E_s) d3_49 rfl ?_
  refine own_clone (pc' := 55) (W := 1) (cap := 4) (hw _ (List.mem_of_getElem? (i := 33) rfl)) (hw _ (List.mem_of_getElem? (i := 34) rfl)) (hw _ (List.mem_of_getElem? (i := 38) rfl)) (hw _ (List.mem_of_getElem? (i := 36) rfl)) (hw _ (List.mem_of_getElem? (i := 37) rfl)) (hw _ (List.mem_of_getElem? (i := 39) rfl)) A_s E_s d3_52 rfl rfl (by decide) (Nat.le_refl _) (by decide) (by first | decide | exact Nat.le_refl _) (by decide) (by decide) (fun h29 s2 gt_s2 lt_s2 E30 A_s2 E_s2 => ?_)
  have ge_s2 : n0 ≤ s2 := Nat.le_trans hn0 gt_s2
  have ne_o_s2 : o ≠ s2 := Nat.ne_of_lt (by first | exact Nat.lt_of_lt_of_le E_o.lt gt_s2 | (have q := Nat.lt_of_lt_of_le E_o.lt (Nat.le_refl _); omega))
  have ne_p_s2 : p ≠ s2 := Nat.ne_of_lt (by first | exact Nat.lt_of_lt_of_le A_p.lt gt_s2 | (have q := Nat.lt_of_lt_of_le A_p.lt (Nat.le_refl _); omega))
  have ne_p2__s2 : p2_ ≠ s2 := Nat.ne_of_lt (by first | exact Nat.lt_of_lt_of_le A_p2_.lt gt_s2 | (have q := Nat.lt_of_lt_of_le A_p2_.lt (Nat.le_refl _); omega))
  have ne_q_s2 : q ≠ s2 := Nat.ne_of_lt (by first | exact Nat.lt_of_lt_of_le A_q.lt gt_s2 | (have q := Nat.lt_of_lt_of_le A_q.lt (Nat.le_refl _); omega))
  have ne_q2__s2 : q2_ ≠ s2 := Nat.ne_of_lt (by first | exact Nat.lt_of_lt_of_le A_q2_.lt gt_s2 | (have q := Nat.lt_of_lt_of_le A_q2_.lt (Nat.le_refl _); omega))
  have ne_s_s2 : s ≠ s2 := Nat.ne_of_lt (by first | exact Nat.lt_of_lt_of_le A_s.lt gt_s2 | (have q := Nat.lt_of_lt_of_le A_s.lt (Nat.le_refl _); omega))
  have ne_u_s2 : u ≠ s2 := Nat.ne_of_lt (by first | exact Nat.lt_of_lt_of_le A_u.lt gt_s2 | (have q := Nat.lt_of_lt_of_le A_u.lt (Nat.le_refl _); omega))
  replace A_p := A_p.ext E30
  replace A_q := A_q.ext E30
  replace A_s := A_s.ext E30
  replace A_u := A_u.ext E30
  replace E_p := E_p.ext E30
  replace E_q := E_q.ext E30
  replace E_s := E_s.ext E30
  replace E_u := E_u.ext E30
  replace E_o := E_o.ext E30
  replace F_o_owners := F_o_owners.ext E30
  replace F_o_priorities := F_o_priorities.ext E30
  replace F_o_successorStart := F_o_successorStart.ext E30
  replace F_o_successors := F_o_successors.ext E30
  replace F_o_maxPriority := F_o_maxPriority.ext E30
  replace A_p2_ := A_p2_.ext E30
  replace E_p2_ := E_p2_.ext E30
  replace A_q2_ := A_q2_.ext E30
  replace E_q2_ := E_q2_.ext E30
  replace hn0 : n0 ≤ h29.size := Nat.le_trans hn0 E30.1
  have gg_s2 : h0.size ≤ s2 := Nat.le_trans ((((((((Keep.refl h0 [o]).ext E9).ext E12).trans K15 (fun x hx => Or.inl hx)).ext E18).ext E21).trans K24 (fun x hx => Or.inl hx)).ext E27).1 gt_s2
  refine own_cast (pc' := 58) (hw _ (List.mem_of_getElem? (i := 31) rfl)) (Ins.self E_s2) d3_55 rfl ?_
  refine own_putF (pc' := 61) (hw _ (List.mem_of_getElem? (i := 46) rfl)) F_o_successorStart E_o (Or.inr ⟨(hw _ (List.mem_of_getElem? (i := 47) rfl)), rfl, rfl⟩) (hw _ (List.mem_of_getElem? (i := 11) rfl)) ge_o (ty := (.array .int)) (by decide) rfl rfl d3_58 rfl (fun h31 Wr32 K33 => ?_)
  replace A_p := A_p.keep K33 (ninS ne_p_o nin0)
  replace A_q := A_q.keep K33 (ninS ne_q_o nin0)
  replace A_s := A_s.keep K33 (ninS ne_s_o nin0)
  replace A_u := A_u.keep K33 (ninS ne_u_o nin0)
  replace E_p := E_p.wr Wr32
  replace E_q := E_q.wr Wr32
  replace E_s := E_s.wr Wr32
  replace E_u := E_u.wr Wr32
  replace E_o := E_o.wr Wr32
  replace F_o_owners := F_o_owners.other Wr32 (Or.inr (slot_ne (a0 := a0) (Or.inr (hw _ (List.mem_of_getElem? (i := 41) rfl))) (Or.inr (hw _ (List.mem_of_getElem? (i := 47) rfl))) (by decide) (t := (.array .int)) (by decide) (t' := (.array .int)) (by decide)))
  replace F_o_priorities := F_o_priorities.other Wr32 (Or.inr (slot_ne (a0 := a0) (Or.inr (hw _ (List.mem_of_getElem? (i := 44) rfl))) (Or.inr (hw _ (List.mem_of_getElem? (i := 47) rfl))) (by decide) (t := (.array .int)) (by decide) (t' := (.array .int)) (by decide)))
  replace F_o_successorStart := F_o_successorStart.same Wr32
  replace F_o_successors := F_o_successors.other Wr32 (Or.inr (slot_ne (a0 := a0) (Or.inr (hw _ (List.mem_of_getElem? (i := 50) rfl))) (Or.inr (hw _ (List.mem_of_getElem? (i := 47) rfl))) (by decide) (t := (.array .int)) (by decide) (t' := (.array .int)) (by decide)))
  replace F_o_maxPriority := F_o_maxPriority.other Wr32 (Or.inr (slot_ne (a0 := a0) (Or.inr (hw _ (List.mem_of_getElem? (i := 67) rfl))) (Or.inr (hw _ (List.mem_of_getElem? (i := 47) rfl))) (by decide) (t := .int) (by decide) (t' := (.array .int)) (by decide)))
  replace A_p2_ := A_p2_.keep K33 (ninS (Ne.symm ne_o_p2_) nin0)
  replace E_p2_ := E_p2_.wr Wr32
  replace A_q2_ := A_q2_.keep K33 (ninS (Ne.symm ne_o_q2_) nin0)
  replace E_q2_ := E_q2_.wr Wr32
  replace A_s2 := A_s2.keep K33 (ninS (Ne.symm ne_o_s2) nin0)
  replace E_s2 := E_s2.wr Wr32
  replace hn0 : n0 ≤ h31.size := Nat.le_trans hn0 K33.1
  refine own_aloadN (pc' := 62) d3_61 rfl rfl ?_
  refine own_aload (pc' := 64) d3_62 rfl rfl ?_
  refine own_ldcS (pc' := 66) (n := 40) (hw _ (List.mem_of_getElem? (i := 48) rfl)) (own_wS Z a0 hw) d3_64 rfl (by decide) (by decide) (by decide) (by decide) (fun h34 a35 E36 => ?_)
  replace A_p := A_p.ext E36
  replace A_q := A_q.ext E36
  replace A_s := A_s.ext E36
  replace A_u := A_u.ext E36
  replace E_p := E_p.ext E36
  replace E_q := E_q.ext E36
  replace E_s := E_s.ext E36
  replace E_u := E_u.ext E36
  replace E_o := E_o.ext E36
  replace F_o_owners := F_o_owners.ext E36
  replace F_o_priorities := F_o_priorities.ext E36
  replace F_o_successorStart := F_o_successorStart.ext E36
  replace F_o_successors := F_o_successors.ext E36
  replace F_o_maxPriority := F_o_maxPriority.ext E36
  replace A_p2_ := A_p2_.ext E36
  replace E_p2_ := E_p2_.ext E36
  replace A_q2_ := A_q2_.ext E36
  replace E_q2_ := E_q2_.ext E36
  replace A_s2 := A_s2.ext E36
  replace E_s2 := E_s2.ext E36
  replace hn0 : n0 ≤ h34.size := Nat.le_trans hn0 E36.1
  refine own_static (own_rnn l Z a0 hw u a35 h34 n0 hn0) (hw _ (List.mem_of_getElem? (i := 27) rfl)) (hw _ (List.mem_of_getElem? (i := 28) rfl)) (hw _ (List.mem_of_getElem? (i := 29) rfl)) (hw _ (List.mem_of_getElem? (i := 30) rfl)) (plainFor_of_name own_pn4) (by decide) own_pd5 rfl (argsL := [.ref u, .ref a35]) (rest := [.ref o]) rfl rfl (W := 1) (Nat.le_refl _) (by decide) (by decide) (by decide) (by decide) rfl d3_66 (pc' := 69) rfl (fun v_ h37 hq => ?_)
  obtain ⟨rfl, rfl⟩ := hq
  show own_W l Z (⟨"com/example/cycles_to_winners/cyclestowinners/model/Game", "<init>", "([I[I[I[I)V"⟩ : MethodName) prog_16_method_1_code 5 none ({ frames := 2, cells := 12, slots := 192, locals := 36 } : Room) n0 (fun v h => v = none ∧ ∃ ow2 s2 u2 : Addr, h0.size ≤ ow2 ∧ h0.size ≤ s2 ∧ h0.size ≤ u2 ∧ Keep h0 h [o] ∧ Exa Z h o "com/example/cycles_to_winners/cyclestowinners/model/Game" ∧ Fld Z h o "com/example/cycles_to_winners/cyclestowinners/model/Game" "owners" "[I" (.ref ow2) ∧ Fld Z h o "com/example/cycles_to_winners/cyclestowinners/model/Game" "successorStart" "[I" (.ref s2) ∧ Fld Z h o "com/example/cycles_to_winners/cyclestowinners/model/Game" "successors" "[I" (.ref u2) ∧ own_A Z h ow2 .int [.int o0, .int o1, .int o2] ∧ own_A Z h s2 .int [.int (0 : Int32), .int c, .int d, .int (6 : Int32)] ∧ own_A Z h u2 .int (xs.map Value.int)) h34 11 186 69 #[.val (.ref o), .val (.ref p), .val (.ref q), .val (.ref s), .val (.ref u)] [.ref u, .ref o]
  refine own_cast (pc' := 72) (hw _ (List.mem_of_getElem? (i := 31) rfl)) (Ins.self E_u) d3_69 rfl ?_
  refine own_clone (pc' := 75) (W := 1) (cap := 6) (hw _ (List.mem_of_getElem? (i := 33) rfl)) (hw _ (List.mem_of_getElem? (i := 34) rfl)) (hw _ (List.mem_of_getElem? (i := 38) rfl)) (hw _ (List.mem_of_getElem? (i := 36) rfl)) (hw _ (List.mem_of_getElem? (i := 37) rfl)) (hw _ (List.mem_of_getElem? (i := 39) rfl)) A_u E_u d3_72 rfl rfl (by decide) (Nat.le_refl _) (by decide) (by rw [List.length_map, hx.1]; decide) (by decide) (by decide) (fun h38 u2 gt_u2 lt_u2 E39 A_u2 E_u2 => ?_)
  have ge_u2 : n0 ≤ u2 := Nat.le_trans hn0 gt_u2
  have ne_o_u2 : o ≠ u2 := Nat.ne_of_lt (by first | exact Nat.lt_of_lt_of_le E_o.lt gt_u2 | (have q := Nat.lt_of_lt_of_le E_o.lt (Nat.le_refl _); omega))
  have ne_p_u2 : p ≠ u2 := Nat.ne_of_lt (by first | exact Nat.lt_of_lt_of_le A_p.lt gt_u2 | (have q := Nat.lt_of_lt_of_le A_p.lt (Nat.le_refl _); omega))
  have ne_p2__u2 : p2_ ≠ u2 := Nat.ne_of_lt (by first | exact Nat.lt_of_lt_of_le A_p2_.lt gt_u2 | (have q := Nat.lt_of_lt_of_le A_p2_.lt (Nat.le_refl _); omega))
  have ne_q_u2 : q ≠ u2 := Nat.ne_of_lt (by first | exact Nat.lt_of_lt_of_le A_q.lt gt_u2 | (have q := Nat.lt_of_lt_of_le A_q.lt (Nat.le_refl _); omega))
  have ne_q2__u2 : q2_ ≠ u2 := Nat.ne_of_lt (by first | exact Nat.lt_of_lt_of_le A_q2_.lt gt_u2 | (have q := Nat.lt_of_lt_of_le A_q2_.lt (Nat.le_refl _); omega))
  have ne_s_u2 : s ≠ u2 := Nat.ne_of_lt (by first | exact Nat.lt_of_lt_of_le A_s.lt gt_u2 | (have q := Nat.lt_of_lt_of_le A_s.lt (Nat.le_refl _); omega))
  have ne_s2_u2 : s2 ≠ u2 := Nat.ne_of_lt (by first | exact Nat.lt_of_lt_of_le A_s2.lt gt_u2 | (have q := Nat.lt_of_lt_of_le A_s2.lt (Nat.le_refl _); omega))
  have ne_u_u2 : u ≠ u2 := Nat.ne_of_lt (by first | exact Nat.lt_of_lt_of_le A_u.lt gt_u2 | (have q := Nat.lt_of_lt_of_le A_u.lt (Nat.le_refl _); omega))
  replace A_p := A_p.ext E39
  replace A_q := A_q.ext E39
  replace A_s := A_s.ext E39
  replace A_u := A_u.ext E39
  replace E_p := E_p.ext E39
  replace E_q := E_q.ext E39
  replace E_s := E_s.ext E39
  replace E_u := E_u.ext E39
  replace E_o := E_o.ext E39
  replace F_o_owners := F_o_owners.ext E39
  replace F_o_priorities := F_o_priorities.ext E39
  replace F_o_successorStart := F_o_successorStart.ext E39
  replace F_o_successors := F_o_successors.ext E39
  replace F_o_maxPriority := F_o_maxPriority.ext E39
  replace A_p2_ := A_p2_.ext E39
  replace E_p2_ := E_p2_.ext E39
  replace A_q2_ := A_q2_.ext E39
  replace E_q2_ := E_q2_.ext E39
  replace A_s2 := A_s2.ext E39
  replace E_s2 := E_s2.ext E39
  replace hn0 : n0 ≤ h38.size := Nat.le_trans hn0 E39.1
  have gg_u2 : h0.size ≤ u2 := Nat.le_trans (((((((((((Keep.refl h0 [o]).ext E9).ext E12).trans K15 (fun x hx => Or.inl hx)).ext E18).ext E21).trans K24 (fun x hx => Or.inl hx)).ext E27).ext E30).trans K33 (fun x hx => Or.inl hx)).ext E36).1 gt_u2
  refine own_cast (pc' := 78) (hw _ (List.mem_of_getElem? (i := 31) rfl)) (Ins.self E_u2) d3_75 rfl ?_
  refine own_putF (pc' := 81) (hw _ (List.mem_of_getElem? (i := 49) rfl)) F_o_successors E_o (Or.inr ⟨(hw _ (List.mem_of_getElem? (i := 50) rfl)), rfl, rfl⟩) (hw _ (List.mem_of_getElem? (i := 11) rfl)) ge_o (ty := (.array .int)) (by decide) rfl rfl d3_78 rfl (fun h40 Wr41 K42 => ?_)
  replace A_p := A_p.keep K42 (ninS ne_p_o nin0)
  replace A_q := A_q.keep K42 (ninS ne_q_o nin0)
  replace A_s := A_s.keep K42 (ninS ne_s_o nin0)
  replace A_u := A_u.keep K42 (ninS ne_u_o nin0)
  replace E_p := E_p.wr Wr41
  replace E_q := E_q.wr Wr41
  replace E_s := E_s.wr Wr41
  replace E_u := E_u.wr Wr41
  replace E_o := E_o.wr Wr41
  replace F_o_owners := F_o_owners.other Wr41 (Or.inr (slot_ne (a0 := a0) (Or.inr (hw _ (List.mem_of_getElem? (i := 41) rfl))) (Or.inr (hw _ (List.mem_of_getElem? (i := 50) rfl))) (by decide) (t := (.array .int)) (by decide) (t' := (.array .int)) (by decide)))
  replace F_o_priorities := F_o_priorities.other Wr41 (Or.inr (slot_ne (a0 := a0) (Or.inr (hw _ (List.mem_of_getElem? (i := 44) rfl))) (Or.inr (hw _ (List.mem_of_getElem? (i := 50) rfl))) (by decide) (t := (.array .int)) (by decide) (t' := (.array .int)) (by decide)))
  replace F_o_successorStart := F_o_successorStart.other Wr41 (Or.inr (slot_ne (a0 := a0) (Or.inr (hw _ (List.mem_of_getElem? (i := 47) rfl))) (Or.inr (hw _ (List.mem_of_getElem? (i := 50) rfl))) (by decide) (t := (.array .int)) (by decide) (t' := (.array .int)) (by decide)))
  replace F_o_successors := F_o_successors.same Wr41
  replace F_o_maxPriority := F_o_maxPriority.other Wr41 (Or.inr (slot_ne (a0 := a0) (Or.inr (hw _ (List.mem_of_getElem? (i := 67) rfl))) (Or.inr (hw _ (List.mem_of_getElem? (i := 50) rfl))) (by decide) (t := .int) (by decide) (t' := (.array .int)) (by decide)))
  replace A_p2_ := A_p2_.keep K42 (ninS (Ne.symm ne_o_p2_) nin0)
  replace E_p2_ := E_p2_.wr Wr41
  replace A_q2_ := A_q2_.keep K42 (ninS (Ne.symm ne_o_q2_) nin0)
  replace E_q2_ := E_q2_.wr Wr41
  replace A_s2 := A_s2.keep K42 (ninS (Ne.symm ne_o_s2) nin0)
  replace E_s2 := E_s2.wr Wr41
  replace A_u2 := A_u2.keep K42 (ninS (Ne.symm ne_o_u2) nin0)
  replace E_u2 := E_u2.wr Wr41
  replace hn0 : n0 ≤ h40.size := Nat.le_trans hn0 K42.1
  refine own_aloadN (pc' := 82) d3_81 rfl rfl ?_
  refine own_getF (pc' := 85) (hw _ (List.mem_of_getElem? (i := 40) rfl)) F_o_owners d3_82 rfl ?_
  refine own_aloadN (pc' := 86) d3_85 rfl rfl ?_
  refine own_getF (pc' := 89) (hw _ (List.mem_of_getElem? (i := 43) rfl)) F_o_priorities d3_86 rfl ?_
  refine own_aloadN (pc' := 90) d3_89 rfl rfl ?_
  refine own_getF (pc' := 93) (hw _ (List.mem_of_getElem? (i := 46) rfl)) F_o_successorStart d3_90 rfl ?_
  refine own_aloadN (pc' := 94) d3_93 rfl rfl ?_
  refine own_getF (pc' := 97) (hw _ (List.mem_of_getElem? (i := 49) rfl)) F_o_successors d3_94 rfl ?_
  refine own_static (own_shape l Z a0 hw p2_ q2_ s2 u2 o0 o1 o2 p0 p1 p2 c d _ h40 n0 hn0 (by rw [Int32.lt_iff_toInt_lt, c0]; omega) (by rw [Int32.lt_iff_toInt_lt]; omega) (by rw [Int32.lt_iff_toInt_lt, c6]; omega) A_p2_ A_q2_ A_s2 A_u2 (by rw [List.length_map, hx.1]; rfl)) (hw _ (List.mem_of_getElem? (i := 51) rfl)) (hw _ (List.mem_of_getElem? (i := 52) rfl)) (hw _ (List.mem_of_getElem? (i := 12) rfl)) (hw _ (List.mem_of_getElem? (i := 53) rfl)) (plainFor_of_name own_pn2) (by decide) own_pd3 rfl (argsL := [.ref p2_, .ref q2_, .ref s2, .ref u2]) (rest := []) rfl rfl (W := 0) (Nat.le_refl _) (by decide) (by decide) (by decide) (by decide) rfl d3_97 (pc' := 100) rfl (fun v_ h43 hq => ?_)
  obtain ⟨rfl, rfl⟩ := hq
  show own_W l Z (⟨"com/example/cycles_to_winners/cyclestowinners/model/Game", "<init>", "([I[I[I[I)V"⟩ : MethodName) prog_16_method_1_code 5 none ({ frames := 2, cells := 12, slots := 192, locals := 36 } : Room) n0 (fun v h => v = none ∧ ∃ ow2 s2 u2 : Addr, h0.size ≤ ow2 ∧ h0.size ≤ s2 ∧ h0.size ≤ u2 ∧ Keep h0 h [o] ∧ Exa Z h o "com/example/cycles_to_winners/cyclestowinners/model/Game" ∧ Fld Z h o "com/example/cycles_to_winners/cyclestowinners/model/Game" "owners" "[I" (.ref ow2) ∧ Fld Z h o "com/example/cycles_to_winners/cyclestowinners/model/Game" "successorStart" "[I" (.ref s2) ∧ Fld Z h o "com/example/cycles_to_winners/cyclestowinners/model/Game" "successors" "[I" (.ref u2) ∧ own_A Z h ow2 .int [.int o0, .int o1, .int o2] ∧ own_A Z h s2 .int [.int (0 : Int32), .int c, .int d, .int (6 : Int32)] ∧ own_A Z h u2 .int (xs.map Value.int)) h40 12 192 100 #[.val (.ref o), .val (.ref p), .val (.ref q), .val (.ref s), .val (.ref u)] []
  refine own_aloadN (pc' := 101) d3_100 rfl rfl ?_
  refine own_getF (pc' := 104) (hw _ (List.mem_of_getElem? (i := 40) rfl)) F_o_owners d3_101 rfl ?_
  refine own_aloadN (pc' := 105) d3_104 rfl rfl ?_
  refine own_getF (pc' := 108) (hw _ (List.mem_of_getElem? (i := 43) rfl)) F_o_priorities d3_105 rfl ?_
  refine own_aloadN (pc' := 109) d3_108 rfl rfl ?_
  refine own_getF (pc' := 112) (hw _ (List.mem_of_getElem? (i := 46) rfl)) F_o_successorStart d3_109 rfl ?_
  refine own_aloadN (pc' := 113) d3_112 rfl rfl ?_
  refine own_getF (pc' := 116) (hw _ (List.mem_of_getElem? (i := 49) rfl)) F_o_successors d3_113 rfl ?_
  refine own_static (own_cvs l Z a0 hw p2_ q2_ s2 u2 o0 o1 o2 p0 p1 p2 c d xs h40 n0 hn0 hx ho0 hp0 ho1 hp1 ho2 hp2 hc hd he A_p2_ A_q2_ A_s2 A_u2) (hw _ (List.mem_of_getElem? (i := 54) rfl)) (hw _ (List.mem_of_getElem? (i := 55) rfl)) (hw _ (List.mem_of_getElem? (i := 12) rfl)) (hw _ (List.mem_of_getElem? (i := 56) rfl)) (plainFor_of_name own_pn2) (by decide) own_pd3 rfl (argsL := [.ref p2_, .ref q2_, .ref s2, .ref u2]) (rest := []) rfl rfl (W := 0) (Nat.le_refl _) (by decide) (by decide) (by decide) (by decide) rfl d3_116 (pc' := 119) rfl (fun v_ h44 hq => ?_)
  obtain ⟨rfl, rfl⟩ := hq
  show own_W l Z (⟨"com/example/cycles_to_winners/cyclestowinners/model/Game", "<init>", "([I[I[I[I)V"⟩ : MethodName) prog_16_method_1_code 5 none ({ frames := 2, cells := 12, slots := 192, locals := 36 } : Room) n0 (fun v h => v = none ∧ ∃ ow2 s2 u2 : Addr, h0.size ≤ ow2 ∧ h0.size ≤ s2 ∧ h0.size ≤ u2 ∧ Keep h0 h [o] ∧ Exa Z h o "com/example/cycles_to_winners/cyclestowinners/model/Game" ∧ Fld Z h o "com/example/cycles_to_winners/cyclestowinners/model/Game" "owners" "[I" (.ref ow2) ∧ Fld Z h o "com/example/cycles_to_winners/cyclestowinners/model/Game" "successorStart" "[I" (.ref s2) ∧ Fld Z h o "com/example/cycles_to_winners/cyclestowinners/model/Game" "successors" "[I" (.ref u2) ∧ own_A Z h ow2 .int [.int o0, .int o1, .int o2] ∧ own_A Z h s2 .int [.int (0 : Int32), .int c, .int d, .int (6 : Int32)] ∧ own_A Z h u2 .int (xs.map Value.int)) h40 12 192 119 #[.val (.ref o), .val (.ref p), .val (.ref q), .val (.ref s), .val (.ref u)] []
  refine own_aloadN (pc' := 120) d3_119 rfl rfl ?_
  refine own_aloadN (pc' := 121) d3_120 rfl rfl ?_
  refine own_getF (pc' := 124) (hw _ (List.mem_of_getElem? (i := 43) rfl)) F_o_priorities d3_121 rfl ?_
  refine own_static (own_hi l Z a0 hw q2_ p0 p1 p2 h40 n0 hn0 A_q2_) (hw _ (List.mem_of_getElem? (i := 60) rfl)) (hw _ (List.mem_of_getElem? (i := 61) rfl)) (hw _ (List.mem_of_getElem? (i := 12) rfl)) (hw _ (List.mem_of_getElem? (i := 62) rfl)) (plainFor_of_name own_pn2) (by decide) own_pd7 rfl (argsL := [.ref q2_]) (rest := [.ref o]) rfl rfl (W := 1) (Nat.le_refl _) (by decide) (by decide) (by decide) (by decide) rfl d3_124 (pc' := 127) rfl (fun v_ h45 hq => ?_)
  obtain ⟨mm, rfl, rfl⟩ := hq
  show own_W l Z (⟨"com/example/cycles_to_winners/cyclestowinners/model/Game", "<init>", "([I[I[I[I)V"⟩ : MethodName) prog_16_method_1_code 5 none ({ frames := 2, cells := 12, slots := 192, locals := 36 } : Room) n0 (fun v h => v = none ∧ ∃ ow2 s2 u2 : Addr, h0.size ≤ ow2 ∧ h0.size ≤ s2 ∧ h0.size ≤ u2 ∧ Keep h0 h [o] ∧ Exa Z h o "com/example/cycles_to_winners/cyclestowinners/model/Game" ∧ Fld Z h o "com/example/cycles_to_winners/cyclestowinners/model/Game" "owners" "[I" (.ref ow2) ∧ Fld Z h o "com/example/cycles_to_winners/cyclestowinners/model/Game" "successorStart" "[I" (.ref s2) ∧ Fld Z h o "com/example/cycles_to_winners/cyclestowinners/model/Game" "successors" "[I" (.ref u2) ∧ own_A Z h ow2 .int [.int o0, .int o1, .int o2] ∧ own_A Z h s2 .int [.int (0 : Int32), .int c, .int d, .int (6 : Int32)] ∧ own_A Z h u2 .int (xs.map Value.int)) h40 12 192 127 #[.val (.ref o), .val (.ref p), .val (.ref q), .val (.ref s), .val (.ref u)] [.int mm, .ref o]
  refine own_putF (pc' := 130) (hw _ (List.mem_of_getElem? (i := 66) rfl)) F_o_maxPriority E_o (Or.inr ⟨(hw _ (List.mem_of_getElem? (i := 67) rfl)), rfl, rfl⟩) (hw _ (List.mem_of_getElem? (i := 11) rfl)) ge_o (ty := .int) (by decide) rfl rfl d3_127 rfl (fun h46 Wr47 K48 => ?_)
  replace A_p := A_p.keep K48 (ninS ne_p_o nin0)
  replace A_q := A_q.keep K48 (ninS ne_q_o nin0)
  replace A_s := A_s.keep K48 (ninS ne_s_o nin0)
  replace A_u := A_u.keep K48 (ninS ne_u_o nin0)
  replace E_p := E_p.wr Wr47
  replace E_q := E_q.wr Wr47
  replace E_s := E_s.wr Wr47
  replace E_u := E_u.wr Wr47
  replace E_o := E_o.wr Wr47
  replace F_o_owners := F_o_owners.other Wr47 (Or.inr (slot_ne (a0 := a0) (Or.inr (hw _ (List.mem_of_getElem? (i := 41) rfl))) (Or.inr (hw _ (List.mem_of_getElem? (i := 67) rfl))) (by decide) (t := (.array .int)) (by decide) (t' := .int) (by decide)))
  replace F_o_priorities := F_o_priorities.other Wr47 (Or.inr (slot_ne (a0 := a0) (Or.inr (hw _ (List.mem_of_getElem? (i := 44) rfl))) (Or.inr (hw _ (List.mem_of_getElem? (i := 67) rfl))) (by decide) (t := (.array .int)) (by decide) (t' := .int) (by decide)))
  replace F_o_successorStart := F_o_successorStart.other Wr47 (Or.inr (slot_ne (a0 := a0) (Or.inr (hw _ (List.mem_of_getElem? (i := 47) rfl))) (Or.inr (hw _ (List.mem_of_getElem? (i := 67) rfl))) (by decide) (t := (.array .int)) (by decide) (t' := .int) (by decide)))
  replace F_o_successors := F_o_successors.other Wr47 (Or.inr (slot_ne (a0 := a0) (Or.inr (hw _ (List.mem_of_getElem? (i := 50) rfl))) (Or.inr (hw _ (List.mem_of_getElem? (i := 67) rfl))) (by decide) (t := (.array .int)) (by decide) (t' := .int) (by decide)))
  replace F_o_maxPriority := F_o_maxPriority.same Wr47
  replace A_p2_ := A_p2_.keep K48 (ninS (Ne.symm ne_o_p2_) nin0)
  replace E_p2_ := E_p2_.wr Wr47
  replace A_q2_ := A_q2_.keep K48 (ninS (Ne.symm ne_o_q2_) nin0)
  replace E_q2_ := E_q2_.wr Wr47
  replace A_s2 := A_s2.keep K48 (ninS (Ne.symm ne_o_s2) nin0)
  replace E_s2 := E_s2.wr Wr47
  replace A_u2 := A_u2.keep K48 (ninS (Ne.symm ne_o_u2) nin0)
  replace E_u2 := E_u2.wr Wr47
  replace hn0 : n0 ≤ h46.size := Nat.le_trans hn0 K48.1
  exact own_ret rfl d3_130 ⟨rfl, p2_, s2, u2, gg_p2_, gg_s2, gg_u2, ((((((((((((((Keep.refl h0 [o]).ext E9).ext E12).trans K15 (fun x hx => Or.inl hx)).ext E18).ext E21).trans K24 (fun x hx => Or.inl hx)).ext E27).ext E30).trans K33 (fun x hx => Or.inl hx)).ext E36).ext E39).trans K42 (fun x hx => Or.inl hx)).trans K48 (fun x hx => Or.inl hx)), E_o, F_o_owners, F_o_successorStart, F_o_successors, A_p2_, A_s2, A_u2⟩
set_option maxRecDepth 65536 in
set_option maxHeartbeats 40000000 in
theorem own_scW (l : Launch) (Z : State) (a0 : Array Value) (hw : ∀ d ∈ tables_1, d.before a0 Z = true) (o s2 : Addr) (vs : List Value) (j p q : Int32) (h0 : Heap) (n0 : Nat) (hn0 : n0 ≤ h0.size) (hj : ¬ j < 0) (hj1 : ¬ (j + 1) < 0) (hp : vs[(j + 1).toNatClampNeg]? = some (.int p)) (hq : vs[j.toNatClampNeg]? = some (.int q)) (F_s : Fld Z h0 o "com/example/cycles_to_winners/cyclestowinners/model/Game" "successorStart" "[I" (.ref s2)) (A_s2 : own_A Z h0 s2 .int vs) :
    own_W l Z (⟨"com/example/cycles_to_winners/cyclestowinners/model/Game", "successorCount", "(I)I"⟩ : MethodName) prog_16_method_12_code 2 (some .int) ({ frames := 0, cells := 0, slots := 0, locals := 0 } : Room) n0 (fun v h => v = some (.int (p - q)) ∧ h0 = h) h0 0 0 0 #[.val (.ref o), .val (.int j)] [] := by
  refine own_aloadN (pc' := 1) d14_0 rfl rfl ?_
  refine own_getF (pc' := 4) (hw _ (List.mem_of_getElem? (i := 46) rfl)) F_s d14_1 rfl ?_
  refine own_iloadN (pc' := 5) d14_4 rfl rfl ?_
  refine own_iconst (1 : Int32) (pc' := 6) d14_5 rfl rfl ?_
  refine own_iadd (pc' := 7) d14_6 rfl ?_
  refine own_iaload (pc' := 8) (v := .int p) A_s2 hj1 hp d14_7 rfl ?_
  refine own_aloadN (pc' := 9) d14_8 rfl rfl ?_
  refine own_getF (pc' := 12) (hw _ (List.mem_of_getElem? (i := 46) rfl)) F_s d14_9 rfl ?_
  refine own_iloadN (pc' := 13) d14_12 rfl rfl ?_
  refine own_iaload (pc' := 14) (v := .int q) A_s2 hj hq d14_13 rfl ?_
  refine own_isub (pc' := 15) d14_14 rfl ?_
  exact own_iret rfl d14_15 ⟨rfl, rfl⟩
set_option maxRecDepth 65536 in
set_option maxHeartbeats 40000000 in
theorem own_ci0 (l : Launch) (Z : State) (a0 : Array Value) (hw : ∀ d ∈ tables_1, d.before a0 Z = true) (i n : Int32) (h0 : Heap) (n0 : Nat) (hn0 : n0 ≤ h0.size) (hi : ¬ i < 0) (hn : i < n) :
    own_W l Z (⟨"jdk/internal/util/Preconditions", "checkIndex", "(IILjava/util/function/BiFunction;)I"⟩ : MethodName) jdk_41_method_11_code 3 (some .int) ({ frames := 0, cells := 0, slots := 0, locals := 0 } : Room) n0 (fun v h => v = some (.int i) ∧ h0 = h) h0 0 0 0 #[.val (.int i), .val (.int n), .val (.null)] [] := by
  refine own_iloadN (pc' := 1) d17_0 rfl rfl ?_
  refine own_if_lt_f (pc' := 4) d17_1 hi rfl ?_
  refine own_iloadN (pc' := 5) d17_4 rfl rfl ?_
  refine own_iloadN (pc' := 6) d17_5 rfl rfl ?_
  refine own_ic_lt_t (pc' := 16) d17_6 hn (by decide) (by decide) ?_
  refine own_iloadN (pc' := 17) d17_16 rfl rfl ?_
  exact own_iret rfl d17_17 ⟨rfl, rfl⟩
set_option maxRecDepth 65536 in
set_option maxHeartbeats 40000000 in
theorem own_ci (l : Launch) (Z : State) (a0 : Array Value) (hw : ∀ d ∈ tables_1, d.before a0 Z = true) (i n : Int32) (h0 : Heap) (n0 : Nat) (hn0 : n0 ≤ h0.size) (hi : ¬ i < 0) (hn : i < n) :
    own_W l Z (⟨"java/util/Objects", "checkIndex", "(II)I"⟩ : MethodName) jdk_31_method_17_code 2 (some .int) ({ frames := 1, cells := 0, slots := 0, locals := 14 } : Room) n0 (fun v h => v = some (.int i) ∧ h0 = h) h0 0 0 0 #[.val (.int i), .val (.int n)] [] := by
  refine own_iloadN (pc' := 1) d16_0 rfl rfl ?_
  refine own_iloadN (pc' := 2) d16_1 rfl rfl ?_
  refine own_aconstNull (pc' := 3) d16_2 rfl ?_
  refine own_static (own_ci0 l Z a0 hw i n h0 n0 hn0 hi hn) (hw _ (List.mem_of_getElem? (i := 102) rfl)) (hw _ (List.mem_of_getElem? (i := 103) rfl)) (hw _ (List.mem_of_getElem? (i := 104) rfl)) (hw _ (List.mem_of_getElem? (i := 105) rfl)) (plainFor_of_name own_pn6) (by decide) own_pd11 rfl (argsL := [.int i, .int n, .null]) (rest := []) rfl rfl (W := 0) (Nat.le_refl _) (by decide) (by decide) (by decide) (by decide) rfl d16_3 (pc' := 6) rfl (fun v_ h49 hq => ?_)
  obtain ⟨rfl, rfl⟩ := hq
  show own_W l Z (⟨"java/util/Objects", "checkIndex", "(II)I"⟩ : MethodName) jdk_31_method_17_code 2 (some .int) ({ frames := 1, cells := 0, slots := 0, locals := 14 } : Room) n0 (fun v h => v = some (.int i) ∧ h0 = h) h0 0 0 6 #[.val (.int i), .val (.int n)] [.int i]
  exact own_iret rfl d16_6 ⟨rfl, rfl⟩
set_option maxRecDepth 65536 in
set_option maxHeartbeats 40000000 in
theorem own_sucW (l : Launch) (Z : State) (a0 : Array Value) (hw : ∀ d ∈ tables_1, d.before a0 Z = true) (o s2 u2 : Addr) (vs us : List Value) (j k p q w : Int32) (h0 : Heap) (n0 : Nat) (hn0 : n0 ≤ h0.size) (hj : ¬ j < 0) (hj1 : ¬ (j + 1) < 0) (hp : vs[(j + 1).toNatClampNeg]? = some (.int p)) (hq : vs[j.toNatClampNeg]? = some (.int q)) (hk : ¬ k < 0) (hkn : k < p - q) (hi : ¬ (q + k) < 0) (hv : us[(q + k).toNatClampNeg]? = some (.int w)) (F_s : Fld Z h0 o "com/example/cycles_to_winners/cyclestowinners/model/Game" "successorStart" "[I" (.ref s2)) (F_u : Fld Z h0 o "com/example/cycles_to_winners/cyclestowinners/model/Game" "successors" "[I" (.ref u2)) (A_s2 : own_A Z h0 s2 .int vs) (A_u2 : own_A Z h0 u2 .int us) :
    own_W l Z (⟨"com/example/cycles_to_winners/cyclestowinners/model/Game", "successor", "(II)I"⟩ : MethodName) prog_16_method_13_code 4 (some .int) ({ frames := 2, cells := 0, slots := 0, locals := 27 } : Room) n0 (fun v h => v = some (.int w) ∧ h0 = h) h0 0 0 0 #[.val (.ref o), .val (.int j), .val (.int k), .unset] [] := by
  refine own_aloadN (pc' := 1) d15_0 rfl rfl ?_
  refine own_getF (pc' := 4) (hw _ (List.mem_of_getElem? (i := 46) rfl)) F_s d15_1 rfl ?_
  refine own_iloadN (pc' := 5) d15_4 rfl rfl ?_
  refine own_iaload (pc' := 6) (v := .int q) A_s2 hj hq d15_5 rfl ?_
  refine own_istoreN (pc' := 7) (Ls' := #[.val (.ref o), .val (.int j), .val (.int k), .val (.int q)]) d15_6 rfl rfl ?_
  refine own_iloadN (pc' := 8) d15_7 rfl rfl ?_
  refine own_aloadN (pc' := 9) d15_8 rfl rfl ?_
  refine own_getF (pc' := 12) (hw _ (List.mem_of_getElem? (i := 46) rfl)) F_s d15_9 rfl ?_
  refine own_iloadN (pc' := 13) d15_12 rfl rfl ?_
  refine own_iconst (1 : Int32) (pc' := 14) d15_13 rfl rfl ?_
  refine own_iadd (pc' := 15) d15_14 rfl ?_
  refine own_iaload (pc' := 16) (v := .int p) A_s2 hj1 hp d15_15 rfl ?_
  refine own_iloadN (pc' := 17) d15_16 rfl rfl ?_
  refine own_isub (pc' := 18) d15_17 rfl ?_
  refine own_static (own_ci l Z a0 hw k (p - q) h0 n0 hn0 hk hkn) (hw _ (List.mem_of_getElem? (i := 99) rfl)) (hw _ (List.mem_of_getElem? (i := 100) rfl)) (hw _ (List.mem_of_getElem? (i := 29) rfl)) (hw _ (List.mem_of_getElem? (i := 101) rfl)) (plainFor_of_name own_pn4) (by decide) own_pd1 rfl (argsL := [.int k, .int (p - q)]) (rest := []) rfl rfl (W := 0) (Nat.le_refl _) (by decide) (by decide) (by decide) (by decide) rfl d15_18 (pc' := 21) rfl (fun v_ h50 hq => ?_)
  obtain ⟨rfl, rfl⟩ := hq
  show own_W l Z (⟨"com/example/cycles_to_winners/cyclestowinners/model/Game", "successor", "(II)I"⟩ : MethodName) prog_16_method_13_code 4 (some .int) ({ frames := 2, cells := 0, slots := 0, locals := 27 } : Room) n0 (fun v h => v = some (.int w) ∧ h0 = h) h0 0 0 21 #[.val (.ref o), .val (.int j), .val (.int k), .val (.int q)] [.int k]
  refine own_pop (pc' := 22) d15_21 rfl rfl ?_
  refine own_aloadN (pc' := 23) d15_22 rfl rfl ?_
  refine own_getF (pc' := 26) (hw _ (List.mem_of_getElem? (i := 49) rfl)) F_u d15_23 rfl ?_
  refine own_iloadN (pc' := 27) d15_26 rfl rfl ?_
  refine own_iloadN (pc' := 28) d15_27 rfl rfl ?_
  refine own_iadd (pc' := 29) d15_28 rfl ?_
  refine own_iaload (pc' := 30) (v := .int w) A_u2 hi hv d15_29 rfl ?_
  exact own_iret rfl d15_30 ⟨rfl, rfl⟩
set_option maxRecDepth 65536 in
set_option maxHeartbeats 40000000 in
theorem own_vcW (l : Launch) (Z : State) (a0 : Array Value) (hw : ∀ d ∈ tables_1, d.before a0 Z = true) (o w : Addr) (o0 o1 o2 : Int32) (h0 : Heap) (n0 : Nat) (hn0 : n0 ≤ h0.size) (F_w : Fld Z h0 o "com/example/cycles_to_winners/cyclestowinners/model/Game" "owners" "[I" (.ref w)) (A_w : own_A Z h0 w .int [.int o0, .int o1, .int o2]) :
    own_W l Z (⟨"com/example/cycles_to_winners/cyclestowinners/model/Game", "vertexCount", "()I"⟩ : MethodName) prog_16_method_7_code 1 (some .int) ({ frames := 0, cells := 0, slots := 0, locals := 0 } : Room) n0 (fun v h => v = some (.int 3) ∧ h0 = h) h0 0 0 0 #[.val (.ref o)] [] := by
  refine own_aloadN (pc' := 1) d12_0 rfl rfl ?_
  refine own_getF (pc' := 4) (hw _ (List.mem_of_getElem? (i := 40) rfl)) F_w d12_1 rfl ?_
  refine own_len (pc' := 5) (n := (3 : Int32)) A_w rfl d12_4 rfl ?_
  exact own_iret rfl d12_5 ⟨rfl, rfl⟩
set_option maxRecDepth 65536 in
set_option maxHeartbeats 40000000 in
theorem own_ecW (l : Launch) (Z : State) (a0 : Array Value) (hw : ∀ d ∈ tables_1, d.before a0 Z = true) (o u : Addr) (xs : List Int32) (h0 : Heap) (n0 : Nat) (hn0 : n0 ≤ h0.size) (hl : xs.length = 6) (F_u : Fld Z h0 o "com/example/cycles_to_winners/cyclestowinners/model/Game" "successors" "[I" (.ref u)) (A_u : own_A Z h0 u .int (xs.map Value.int)) :
    own_W l Z (⟨"com/example/cycles_to_winners/cyclestowinners/model/Game", "edgeCount", "()I"⟩ : MethodName) prog_16_method_8_code 1 (some .int) ({ frames := 0, cells := 0, slots := 0, locals := 0 } : Room) n0 (fun v h => v = some (.int 6) ∧ h0 = h) h0 0 0 0 #[.val (.ref o)] [] := by
  refine own_aloadN (pc' := 1) d13_0 rfl rfl ?_
  refine own_getF (pc' := 4) (hw _ (List.mem_of_getElem? (i := 49) rfl)) F_u d13_1 rfl ?_
  refine own_len (pc' := 5) (n := (6 : Int32)) A_u (by rw [List.length_map, hl]; rfl) d13_4 rfl ?_
  exact own_iret rfl d13_5 ⟨rfl, rfl⟩
set_option maxRecDepth 65536 in
set_option maxHeartbeats 40000000 in
theorem own_in1_0 (l : Launch) (Z : State) (a0 : Array Value) (hw : ∀ d ∈ tables_1, d.before a0 Z = true) (Q : Option Value → Heap → Prop) (n0 : Nat) (p g s2 u2 st : Addr) (c d : Int32) (xs : List Int32) (hx : own_ok3 xs) (hc : 0 < c.toInt) (hd : c.toInt < d.toInt) (he : d.toInt < 6) (ne_g_st : g ≠ st) (ne_s2_st : s2 ≠ st) (ne_u2_st : u2 ≠ st) (ne_p_st : p ≠ st) (ge_st : n0 ≤ st) : ∀ (j : Nat) (i : Int32) (m : Nat) (h : Heap) (hn0 : n0 ≤ h.size) (hi0 : 0 ≤ i.toInt) (hj : (0 : Int32).toInt + i.toInt + j = c.toInt) (hm : (m : Int) = (0 : Int32).toInt + i.toInt) (E_g : Exa Z h g "com/example/cycles_to_winners/cyclestowinners/model/Game") (F_g_s : Fld Z h g "com/example/cycles_to_winners/cyclestowinners/model/Game" "successorStart" "[I" (.ref s2)) (F_g_u : Fld Z h g "com/example/cycles_to_winners/cyclestowinners/model/Game" "successors" "[I" (.ref u2)) (A_s2 : own_A Z h s2 .int [.int (0 : Int32), .int c, .int d, .int (6 : Int32)]) (A_u2 : own_A Z h u2 .int (xs.map Value.int)) (F_p_start : Fld Z h p "com/example/cycles_to_winners/cyclestowinners/algo/Predecessors" "start" "[I" (.ref st)) (A_st : own_A Z h st .int (own_cs m xs)) (K : (∀ (h' : Heap) (i' : Int32), n0 ≤ h'.size → Keep h h' [st] → own_A Z h' st .int (own_cs c.toNatClampNeg xs) → own_W l Z (⟨"com/example/cycles_to_winners/cyclestowinners/algo/Predecessors", "<init>", "(Lcom/example/cycles_to_winners/cyclestowinners/model/Game;)V"⟩ : MethodName) prog_1_method_1_code 6 none ({ frames := 3, cells := 3, slots := 14, locals := 44 } : Room) n0 (Q) h' 2 10 72 #[.val (.ref p), .val (.ref g), .val (.int (3 : Int32)), .val (.int (0 : Int32)), .val (.int i'), .unset] [])),
    own_W l Z (⟨"com/example/cycles_to_winners/cyclestowinners/algo/Predecessors", "<init>", "(Lcom/example/cycles_to_winners/cyclestowinners/model/Game;)V"⟩ : MethodName) prog_1_method_1_code 6 none ({ frames := 3, cells := 3, slots := 14, locals := 44 } : Room) n0 (Q) h 2 10 38 #[.val (.ref p), .val (.ref g), .val (.int (3 : Int32)), .val (.int (0 : Int32)), .val (.int i), .unset] [] := by
  intro j
  induction j with
  | zero =>
    intro i m h hn0 hi0 hj hm E_g F_g_s F_g_u A_s2 A_u2 F_p_start A_st K
    have z0 : (0 : Int32).toInt = 0 := rfl
    have c6 : (6 : Int32).toInt = 6 := rfl
    have z1 : (1 : Int32).toInt = 1 := rfl
    have a1 := c_isub c (0 : Int32)
    have a2 := rng32 (c - (0 : Int32))
    refine own_iload (pc' := 40) d11_38 rfl rfl ?_
    refine own_aloadN (pc' := 41) d11_40 rfl rfl ?_
    refine own_iloadN (pc' := 42) d11_41 rfl rfl ?_
    refine own_virtual (own_scW l Z a0 hw g s2 _ (0 : Int32) c (0 : Int32) h n0 hn0 (by decide) (by decide) rfl rfl F_g_s A_s2) E_g (hw _ (List.mem_of_getElem? (i := 89) rfl)) (hw _ (List.mem_of_getElem? (i := 90) rfl)) (hw _ (List.mem_of_getElem? (i := 92) rfl)) (hw _ (List.mem_of_getElem? (i := 91) rfl)) (hw _ (List.mem_of_getElem? (i := 12) rfl)) (hw _ (List.mem_of_getElem? (i := 93) rfl)) (plainFor_of_name own_pn2) (by decide) own_pd10 rfl (argsL := [.int (0 : Int32)]) (rest := [.int i]) rfl rfl (W := 1) (Nat.le_refl _) (by decide) (by decide) (by decide) (by decide) rfl d11_42 (pc' := 45) rfl (fun v_ h51 hq => ?_)
    obtain ⟨rfl, rfl⟩ := hq
    show own_W l Z (⟨"com/example/cycles_to_winners/cyclestowinners/algo/Predecessors", "<init>", "(Lcom/example/cycles_to_winners/cyclestowinners/model/Game;)V"⟩ : MethodName) prog_1_method_1_code 6 none ({ frames := 3, cells := 3, slots := 14, locals := 44 } : Room) n0 (Q) h 2 10 45 #[.val (.ref p), .val (.ref g), .val (.int (3 : Int32)), .val (.int (0 : Int32)), .val (.int i), .unset] [.int (c - (0 : Int32)), .int i]
    refine own_ic_ge_t (pc' := 72) d11_45 (by rw [Int32.lt_iff_toInt_lt]; omega) (by decide) (by decide) ?_
    have em : m = c.toNatClampNeg := by rw [Int32.toNatClampNeg]; omega
    exact K h i hn0 (Keep.refl h [st]) (em ▸ A_st)
  | succ j ih =>
    intro i m h hn0 hi0 hj hm E_g F_g_s F_g_u A_s2 A_u2 F_p_start A_st K
    have z0 : (0 : Int32).toInt = 0 := rfl
    have c6 : (6 : Int32).toInt = 6 := rfl
    have z1 : (1 : Int32).toInt = 1 := rfl
    have a1 := c_isub c (0 : Int32)
    have a2 := rng32 (c - (0 : Int32))
    have b1 := c_iadd (0 : Int32) i
    have b2 := rng32 ((0 : Int32) + i)
    have d1 := c_iadd i 1
    have d2 := rng32 (i + 1)
    have hli : ((0 : Int32) + i).toInt = m := by omega
    have x3 := own_at3 xs ((0 : Int32) + i) hx (by omega) (by omega)
    have xm := own_getm xs ((0 : Int32) + i) m hx.1 hli (by omega)
    refine own_iload (pc' := 40) d11_38 rfl rfl ?_
    refine own_aloadN (pc' := 41) d11_40 rfl rfl ?_
    refine own_iloadN (pc' := 42) d11_41 rfl rfl ?_
    refine own_virtual (own_scW l Z a0 hw g s2 _ (0 : Int32) c (0 : Int32) h n0 hn0 (by decide) (by decide) rfl rfl F_g_s A_s2) E_g (hw _ (List.mem_of_getElem? (i := 89) rfl)) (hw _ (List.mem_of_getElem? (i := 90) rfl)) (hw _ (List.mem_of_getElem? (i := 92) rfl)) (hw _ (List.mem_of_getElem? (i := 91) rfl)) (hw _ (List.mem_of_getElem? (i := 12) rfl)) (hw _ (List.mem_of_getElem? (i := 93) rfl)) (plainFor_of_name own_pn2) (by decide) own_pd10 rfl (argsL := [.int (0 : Int32)]) (rest := [.int i]) rfl rfl (W := 1) (Nat.le_refl _) (by decide) (by decide) (by decide) (by decide) rfl d11_42 (pc' := 45) rfl (fun v_ h52 hq => ?_)
    obtain ⟨rfl, rfl⟩ := hq
    show own_W l Z (⟨"com/example/cycles_to_winners/cyclestowinners/algo/Predecessors", "<init>", "(Lcom/example/cycles_to_winners/cyclestowinners/model/Game;)V"⟩ : MethodName) prog_1_method_1_code 6 none ({ frames := 3, cells := 3, slots := 14, locals := 44 } : Room) n0 (Q) h 2 10 45 #[.val (.ref p), .val (.ref g), .val (.int (3 : Int32)), .val (.int (0 : Int32)), .val (.int i), .unset] [.int (c - (0 : Int32)), .int i]
    refine own_ic_ge_f (pc' := 48) d11_45 (by rw [Int32.lt_iff_toInt_lt]; omega) rfl ?_
    refine own_aloadN (pc' := 49) d11_48 rfl rfl ?_
    refine own_getF (pc' := 52) (hw _ (List.mem_of_getElem? (i := 80) rfl)) F_p_start d11_49 rfl ?_
    refine own_aloadN (pc' := 53) d11_52 rfl rfl ?_
    refine own_iloadN (pc' := 54) d11_53 rfl rfl ?_
    refine own_iload (pc' := 56) d11_54 rfl rfl ?_
    refine own_virtual (own_sucW l Z a0 hw g s2 u2 _ _ (0 : Int32) i c (0 : Int32) (own_at xs ((0 : Int32) + i)) h n0 hn0 (by decide) (by decide) rfl rfl (own_nlt hi0) (by rw [Int32.lt_iff_toInt_lt]; omega) (own_nlt (by omega)) (own_get6 xs _ hx.1 (by omega) (by omega)) F_g_s F_g_u A_s2 A_u2) E_g (hw _ (List.mem_of_getElem? (i := 94) rfl)) (hw _ (List.mem_of_getElem? (i := 95) rfl)) (hw _ (List.mem_of_getElem? (i := 97) rfl)) (hw _ (List.mem_of_getElem? (i := 96) rfl)) (hw _ (List.mem_of_getElem? (i := 12) rfl)) (hw _ (List.mem_of_getElem? (i := 98) rfl)) (plainFor_of_name own_pn2) (by decide) own_pd1 rfl (argsL := [.int (0 : Int32), .int i]) (rest := [.ref st]) rfl rfl (W := 1) (Nat.le_refl _) (by decide) (by decide) (by decide) (by decide) rfl d11_56 (pc' := 59) rfl (fun v_ h53 hq => ?_)
    obtain ⟨rfl, rfl⟩ := hq
    show own_W l Z (⟨"com/example/cycles_to_winners/cyclestowinners/algo/Predecessors", "<init>", "(Lcom/example/cycles_to_winners/cyclestowinners/model/Game;)V"⟩ : MethodName) prog_1_method_1_code 6 none ({ frames := 3, cells := 3, slots := 14, locals := 44 } : Room) n0 (Q) h 2 10 59 #[.val (.ref p), .val (.ref g), .val (.int (3 : Int32)), .val (.int (0 : Int32)), .val (.int i), .unset] [.int (own_at xs ((0 : Int32) + i)), .ref st]
    generalize hy_ : (own_at xs ((0 : Int32) + i)) = y
    rw [hy_] at x3 xm
    have z3 : (3 : Int32).toInt = 3 := rfl
    have x4 := x3
    rw [Int32.lt_iff_toInt_lt, Int32.lt_iff_toInt_lt, own_z0, z3] at x4
    have y1 := c_iadd y 1
    have y2 := rng32 (y + 1)
    refine own_iconst (1 : Int32) (pc' := 60) d11_59 rfl rfl ?_
    refine own_iadd (pc' := 61) d11_60 rfl ?_
    refine own_dup2 (pc' := 62) d11_61 rfl rfl rfl ?_
    refine own_iaload (pc' := 63) (v := .int (own_c y m xs)) A_st (own_nlt (by omega)) (own_cs_get m xs y x3) d11_62 rfl ?_
    refine own_iconst (1 : Int32) (pc' := 64) d11_63 rfl rfl ?_
    refine own_iadd (pc' := 65) d11_64 rfl ?_
    refine own_iastore (pc' := 66) A_st (own_nlt (by omega)) (by show (y + 1).toNatClampNeg < 4; rw [Int32.toNatClampNeg]; omega) ge_st d11_65 rfl (fun h54 K55 A_new => ?_)
    replace E_g := E_g.keep K55
    replace F_g_s := F_g_s.keep K55 (ninS ne_g_st nin0)
    replace F_g_u := F_g_u.keep K55 (ninS ne_g_st nin0)
    replace A_s2 := A_s2.keep K55 (ninS ne_s2_st nin0)
    replace A_u2 := A_u2.keep K55 (ninS ne_u2_st nin0)
    replace F_p_start := F_p_start.keep K55 (ninS ne_p_st nin0)
    replace hn0 : n0 ≤ h54.size := Nat.le_trans hn0 K55.1
    replace A_st := A_new
    replace A_st := A_st.cast (own_cs_set m xs y x3 (by rw [hx.1]; omega) xm)
    refine own_iinc (pc' := 69) (w := (1 : Int32)) (Ls' := #[.val (.ref p), .val (.ref g), .val (.int (3 : Int32)), .val (.int (0 : Int32)), .val (.int (i + (1 : Int32))), .unset]) d11_66 rfl rfl rfl rfl ?_
    refine own_goto (pc' := 38) d11_69 (by decide) (by decide) ?_
    refine ih (i + 1) (m + 1) h54 hn0 (by omega) (by omega) (by omega) E_g F_g_s F_g_u A_s2 A_u2 F_p_start A_st (fun h2 i2 q1 q2 q3 => ?_)
    exact K h2 i2 q1 (Keep.trans K55 q2 (fun x hx => Or.inl hx)) q3
set_option maxRecDepth 65536 in
set_option maxHeartbeats 40000000 in
theorem own_in1_1 (l : Launch) (Z : State) (a0 : Array Value) (hw : ∀ d ∈ tables_1, d.before a0 Z = true) (Q : Option Value → Heap → Prop) (n0 : Nat) (p g s2 u2 st : Addr) (c d : Int32) (xs : List Int32) (hx : own_ok3 xs) (hc : 0 < c.toInt) (hd : c.toInt < d.toInt) (he : d.toInt < 6) (ne_g_st : g ≠ st) (ne_s2_st : s2 ≠ st) (ne_u2_st : u2 ≠ st) (ne_p_st : p ≠ st) (ge_st : n0 ≤ st) : ∀ (j : Nat) (i : Int32) (m : Nat) (h : Heap) (hn0 : n0 ≤ h.size) (hi0 : 0 ≤ i.toInt) (hj : c.toInt + i.toInt + j = d.toInt) (hm : (m : Int) = c.toInt + i.toInt) (E_g : Exa Z h g "com/example/cycles_to_winners/cyclestowinners/model/Game") (F_g_s : Fld Z h g "com/example/cycles_to_winners/cyclestowinners/model/Game" "successorStart" "[I" (.ref s2)) (F_g_u : Fld Z h g "com/example/cycles_to_winners/cyclestowinners/model/Game" "successors" "[I" (.ref u2)) (A_s2 : own_A Z h s2 .int [.int (0 : Int32), .int c, .int d, .int (6 : Int32)]) (A_u2 : own_A Z h u2 .int (xs.map Value.int)) (F_p_start : Fld Z h p "com/example/cycles_to_winners/cyclestowinners/algo/Predecessors" "start" "[I" (.ref st)) (A_st : own_A Z h st .int (own_cs m xs)) (K : (∀ (h' : Heap) (i' : Int32), n0 ≤ h'.size → Keep h h' [st] → own_A Z h' st .int (own_cs d.toNatClampNeg xs) → own_W l Z (⟨"com/example/cycles_to_winners/cyclestowinners/algo/Predecessors", "<init>", "(Lcom/example/cycles_to_winners/cyclestowinners/model/Game;)V"⟩ : MethodName) prog_1_method_1_code 6 none ({ frames := 3, cells := 3, slots := 14, locals := 44 } : Room) n0 (Q) h' 2 10 72 #[.val (.ref p), .val (.ref g), .val (.int (3 : Int32)), .val (.int (1 : Int32)), .val (.int i'), .unset] [])),
    own_W l Z (⟨"com/example/cycles_to_winners/cyclestowinners/algo/Predecessors", "<init>", "(Lcom/example/cycles_to_winners/cyclestowinners/model/Game;)V"⟩ : MethodName) prog_1_method_1_code 6 none ({ frames := 3, cells := 3, slots := 14, locals := 44 } : Room) n0 (Q) h 2 10 38 #[.val (.ref p), .val (.ref g), .val (.int (3 : Int32)), .val (.int (1 : Int32)), .val (.int i), .unset] [] := by
  intro j
  induction j with
  | zero =>
    intro i m h hn0 hi0 hj hm E_g F_g_s F_g_u A_s2 A_u2 F_p_start A_st K
    have z0 : (0 : Int32).toInt = 0 := rfl
    have c6 : (6 : Int32).toInt = 6 := rfl
    have z1 : (1 : Int32).toInt = 1 := rfl
    have a1 := c_isub d c
    have a2 := rng32 (d - c)
    refine own_iload (pc' := 40) d11_38 rfl rfl ?_
    refine own_aloadN (pc' := 41) d11_40 rfl rfl ?_
    refine own_iloadN (pc' := 42) d11_41 rfl rfl ?_
    refine own_virtual (own_scW l Z a0 hw g s2 _ (1 : Int32) d c h n0 hn0 (by decide) (by decide) rfl rfl F_g_s A_s2) E_g (hw _ (List.mem_of_getElem? (i := 89) rfl)) (hw _ (List.mem_of_getElem? (i := 90) rfl)) (hw _ (List.mem_of_getElem? (i := 92) rfl)) (hw _ (List.mem_of_getElem? (i := 91) rfl)) (hw _ (List.mem_of_getElem? (i := 12) rfl)) (hw _ (List.mem_of_getElem? (i := 93) rfl)) (plainFor_of_name own_pn2) (by decide) own_pd10 rfl (argsL := [.int (1 : Int32)]) (rest := [.int i]) rfl rfl (W := 1) (Nat.le_refl _) (by decide) (by decide) (by decide) (by decide) rfl d11_42 (pc' := 45) rfl (fun v_ h56 hq => ?_)
    obtain ⟨rfl, rfl⟩ := hq
    show own_W l Z (⟨"com/example/cycles_to_winners/cyclestowinners/algo/Predecessors", "<init>", "(Lcom/example/cycles_to_winners/cyclestowinners/model/Game;)V"⟩ : MethodName) prog_1_method_1_code 6 none ({ frames := 3, cells := 3, slots := 14, locals := 44 } : Room) n0 (Q) h 2 10 45 #[.val (.ref p), .val (.ref g), .val (.int (3 : Int32)), .val (.int (1 : Int32)), .val (.int i), .unset] [.int (d - c), .int i]
    refine own_ic_ge_t (pc' := 72) d11_45 (by rw [Int32.lt_iff_toInt_lt]; omega) (by decide) (by decide) ?_
    have em : m = d.toNatClampNeg := by rw [Int32.toNatClampNeg]; omega
    exact K h i hn0 (Keep.refl h [st]) (em ▸ A_st)
  | succ j ih =>
    intro i m h hn0 hi0 hj hm E_g F_g_s F_g_u A_s2 A_u2 F_p_start A_st K
    have z0 : (0 : Int32).toInt = 0 := rfl
    have c6 : (6 : Int32).toInt = 6 := rfl
    have z1 : (1 : Int32).toInt = 1 := rfl
    have a1 := c_isub d c
    have a2 := rng32 (d - c)
    have b1 := c_iadd c i
    have b2 := rng32 (c + i)
    have d1 := c_iadd i 1
    have d2 := rng32 (i + 1)
    have hli : (c + i).toInt = m := by omega
    have x3 := own_at3 xs (c + i) hx (by omega) (by omega)
    have xm := own_getm xs (c + i) m hx.1 hli (by omega)
    refine own_iload (pc' := 40) d11_38 rfl rfl ?_
    refine own_aloadN (pc' := 41) d11_40 rfl rfl ?_
    refine own_iloadN (pc' := 42) d11_41 rfl rfl ?_
    refine own_virtual (own_scW l Z a0 hw g s2 _ (1 : Int32) d c h n0 hn0 (by decide) (by decide) rfl rfl F_g_s A_s2) E_g (hw _ (List.mem_of_getElem? (i := 89) rfl)) (hw _ (List.mem_of_getElem? (i := 90) rfl)) (hw _ (List.mem_of_getElem? (i := 92) rfl)) (hw _ (List.mem_of_getElem? (i := 91) rfl)) (hw _ (List.mem_of_getElem? (i := 12) rfl)) (hw _ (List.mem_of_getElem? (i := 93) rfl)) (plainFor_of_name own_pn2) (by decide) own_pd10 rfl (argsL := [.int (1 : Int32)]) (rest := [.int i]) rfl rfl (W := 1) (Nat.le_refl _) (by decide) (by decide) (by decide) (by decide) rfl d11_42 (pc' := 45) rfl (fun v_ h57 hq => ?_)
    obtain ⟨rfl, rfl⟩ := hq
    show own_W l Z (⟨"com/example/cycles_to_winners/cyclestowinners/algo/Predecessors", "<init>", "(Lcom/example/cycles_to_winners/cyclestowinners/model/Game;)V"⟩ : MethodName) prog_1_method_1_code 6 none ({ frames := 3, cells := 3, slots := 14, locals := 44 } : Room) n0 (Q) h 2 10 45 #[.val (.ref p), .val (.ref g), .val (.int (3 : Int32)), .val (.int (1 : Int32)), .val (.int i), .unset] [.int (d - c), .int i]
    refine own_ic_ge_f (pc' := 48) d11_45 (by rw [Int32.lt_iff_toInt_lt]; omega) rfl ?_
    refine own_aloadN (pc' := 49) d11_48 rfl rfl ?_
    refine own_getF (pc' := 52) (hw _ (List.mem_of_getElem? (i := 80) rfl)) F_p_start d11_49 rfl ?_
    refine own_aloadN (pc' := 53) d11_52 rfl rfl ?_
    refine own_iloadN (pc' := 54) d11_53 rfl rfl ?_
    refine own_iload (pc' := 56) d11_54 rfl rfl ?_
    refine own_virtual (own_sucW l Z a0 hw g s2 u2 _ _ (1 : Int32) i d c (own_at xs (c + i)) h n0 hn0 (by decide) (by decide) rfl rfl (own_nlt hi0) (by rw [Int32.lt_iff_toInt_lt]; omega) (own_nlt (by omega)) (own_get6 xs _ hx.1 (by omega) (by omega)) F_g_s F_g_u A_s2 A_u2) E_g (hw _ (List.mem_of_getElem? (i := 94) rfl)) (hw _ (List.mem_of_getElem? (i := 95) rfl)) (hw _ (List.mem_of_getElem? (i := 97) rfl)) (hw _ (List.mem_of_getElem? (i := 96) rfl)) (hw _ (List.mem_of_getElem? (i := 12) rfl)) (hw _ (List.mem_of_getElem? (i := 98) rfl)) (plainFor_of_name own_pn2) (by decide) own_pd1 rfl (argsL := [.int (1 : Int32), .int i]) (rest := [.ref st]) rfl rfl (W := 1) (Nat.le_refl _) (by decide) (by decide) (by decide) (by decide) rfl d11_56 (pc' := 59) rfl (fun v_ h58 hq => ?_)
    obtain ⟨rfl, rfl⟩ := hq
    show own_W l Z (⟨"com/example/cycles_to_winners/cyclestowinners/algo/Predecessors", "<init>", "(Lcom/example/cycles_to_winners/cyclestowinners/model/Game;)V"⟩ : MethodName) prog_1_method_1_code 6 none ({ frames := 3, cells := 3, slots := 14, locals := 44 } : Room) n0 (Q) h 2 10 59 #[.val (.ref p), .val (.ref g), .val (.int (3 : Int32)), .val (.int (1 : Int32)), .val (.int i), .unset] [.int (own_at xs (c + i)), .ref st]
    generalize hy_ : (own_at xs (c + i)) = y
    rw [hy_] at x3 xm
    have z3 : (3 : Int32).toInt = 3 := rfl
    have x4 := x3
    rw [Int32.lt_iff_toInt_lt, Int32.lt_iff_toInt_lt, own_z0, z3] at x4
    have y1 := c_iadd y 1
    have y2 := rng32 (y + 1)
    refine own_iconst (1 : Int32) (pc' := 60) d11_59 rfl rfl ?_
    refine own_iadd (pc' := 61) d11_60 rfl ?_
    refine own_dup2 (pc' := 62) d11_61 rfl rfl rfl ?_
    refine own_iaload (pc' := 63) (v := .int (own_c y m xs)) A_st (own_nlt (by omega)) (own_cs_get m xs y x3) d11_62 rfl ?_
    refine own_iconst (1 : Int32) (pc' := 64) d11_63 rfl rfl ?_
    refine own_iadd (pc' := 65) d11_64 rfl ?_
    refine own_iastore (pc' := 66) A_st (own_nlt (by omega)) (by show (y + 1).toNatClampNeg < 4; rw [Int32.toNatClampNeg]; omega) ge_st d11_65 rfl (fun h59 K60 A_new => ?_)
    replace E_g := E_g.keep K60
    replace F_g_s := F_g_s.keep K60 (ninS ne_g_st nin0)
    replace F_g_u := F_g_u.keep K60 (ninS ne_g_st nin0)
    replace A_s2 := A_s2.keep K60 (ninS ne_s2_st nin0)
    replace A_u2 := A_u2.keep K60 (ninS ne_u2_st nin0)
    replace F_p_start := F_p_start.keep K60 (ninS ne_p_st nin0)
    replace hn0 : n0 ≤ h59.size := Nat.le_trans hn0 K60.1
    replace A_st := A_new
    replace A_st := A_st.cast (own_cs_set m xs y x3 (by rw [hx.1]; omega) xm)
    refine own_iinc (pc' := 69) (w := (1 : Int32)) (Ls' := #[.val (.ref p), .val (.ref g), .val (.int (3 : Int32)), .val (.int (1 : Int32)), .val (.int (i + (1 : Int32))), .unset]) d11_66 rfl rfl rfl rfl ?_
    refine own_goto (pc' := 38) d11_69 (by decide) (by decide) ?_
    refine ih (i + 1) (m + 1) h59 hn0 (by omega) (by omega) (by omega) E_g F_g_s F_g_u A_s2 A_u2 F_p_start A_st (fun h2 i2 q1 q2 q3 => ?_)
    exact K h2 i2 q1 (Keep.trans K60 q2 (fun x hx => Or.inl hx)) q3
set_option maxRecDepth 65536 in
set_option maxHeartbeats 40000000 in
theorem own_in1_2 (l : Launch) (Z : State) (a0 : Array Value) (hw : ∀ d ∈ tables_1, d.before a0 Z = true) (Q : Option Value → Heap → Prop) (n0 : Nat) (p g s2 u2 st : Addr) (c d : Int32) (xs : List Int32) (hx : own_ok3 xs) (hc : 0 < c.toInt) (hd : c.toInt < d.toInt) (he : d.toInt < 6) (ne_g_st : g ≠ st) (ne_s2_st : s2 ≠ st) (ne_u2_st : u2 ≠ st) (ne_p_st : p ≠ st) (ge_st : n0 ≤ st) : ∀ (j : Nat) (i : Int32) (m : Nat) (h : Heap) (hn0 : n0 ≤ h.size) (hi0 : 0 ≤ i.toInt) (hj : d.toInt + i.toInt + j = (6 : Int32).toInt) (hm : (m : Int) = d.toInt + i.toInt) (E_g : Exa Z h g "com/example/cycles_to_winners/cyclestowinners/model/Game") (F_g_s : Fld Z h g "com/example/cycles_to_winners/cyclestowinners/model/Game" "successorStart" "[I" (.ref s2)) (F_g_u : Fld Z h g "com/example/cycles_to_winners/cyclestowinners/model/Game" "successors" "[I" (.ref u2)) (A_s2 : own_A Z h s2 .int [.int (0 : Int32), .int c, .int d, .int (6 : Int32)]) (A_u2 : own_A Z h u2 .int (xs.map Value.int)) (F_p_start : Fld Z h p "com/example/cycles_to_winners/cyclestowinners/algo/Predecessors" "start" "[I" (.ref st)) (A_st : own_A Z h st .int (own_cs m xs)) (K : (∀ (h' : Heap) (i' : Int32), n0 ≤ h'.size → Keep h h' [st] → own_A Z h' st .int (own_cs (6 : Int32).toNatClampNeg xs) → own_W l Z (⟨"com/example/cycles_to_winners/cyclestowinners/algo/Predecessors", "<init>", "(Lcom/example/cycles_to_winners/cyclestowinners/model/Game;)V"⟩ : MethodName) prog_1_method_1_code 6 none ({ frames := 3, cells := 3, slots := 14, locals := 44 } : Room) n0 (Q) h' 2 10 72 #[.val (.ref p), .val (.ref g), .val (.int (3 : Int32)), .val (.int (2 : Int32)), .val (.int i'), .unset] [])),
    own_W l Z (⟨"com/example/cycles_to_winners/cyclestowinners/algo/Predecessors", "<init>", "(Lcom/example/cycles_to_winners/cyclestowinners/model/Game;)V"⟩ : MethodName) prog_1_method_1_code 6 none ({ frames := 3, cells := 3, slots := 14, locals := 44 } : Room) n0 (Q) h 2 10 38 #[.val (.ref p), .val (.ref g), .val (.int (3 : Int32)), .val (.int (2 : Int32)), .val (.int i), .unset] [] := by
  intro j
  induction j with
  | zero =>
    intro i m h hn0 hi0 hj hm E_g F_g_s F_g_u A_s2 A_u2 F_p_start A_st K
    have z0 : (0 : Int32).toInt = 0 := rfl
    have c6 : (6 : Int32).toInt = 6 := rfl
    have z1 : (1 : Int32).toInt = 1 := rfl
    have a1 := c_isub (6 : Int32) d
    have a2 := rng32 ((6 : Int32) - d)
    refine own_iload (pc' := 40) d11_38 rfl rfl ?_
    refine own_aloadN (pc' := 41) d11_40 rfl rfl ?_
    refine own_iloadN (pc' := 42) d11_41 rfl rfl ?_
    refine own_virtual (own_scW l Z a0 hw g s2 _ (2 : Int32) (6 : Int32) d h n0 hn0 (by decide) (by decide) rfl rfl F_g_s A_s2) E_g (hw _ (List.mem_of_getElem? (i := 89) rfl)) (hw _ (List.mem_of_getElem? (i := 90) rfl)) (hw _ (List.mem_of_getElem? (i := 92) rfl)) (hw _ (List.mem_of_getElem? (i := 91) rfl)) (hw _ (List.mem_of_getElem? (i := 12) rfl)) (hw _ (List.mem_of_getElem? (i := 93) rfl)) (plainFor_of_name own_pn2) (by decide) own_pd10 rfl (argsL := [.int (2 : Int32)]) (rest := [.int i]) rfl rfl (W := 1) (Nat.le_refl _) (by decide) (by decide) (by decide) (by decide) rfl d11_42 (pc' := 45) rfl (fun v_ h61 hq => ?_)
    obtain ⟨rfl, rfl⟩ := hq
    show own_W l Z (⟨"com/example/cycles_to_winners/cyclestowinners/algo/Predecessors", "<init>", "(Lcom/example/cycles_to_winners/cyclestowinners/model/Game;)V"⟩ : MethodName) prog_1_method_1_code 6 none ({ frames := 3, cells := 3, slots := 14, locals := 44 } : Room) n0 (Q) h 2 10 45 #[.val (.ref p), .val (.ref g), .val (.int (3 : Int32)), .val (.int (2 : Int32)), .val (.int i), .unset] [.int ((6 : Int32) - d), .int i]
    refine own_ic_ge_t (pc' := 72) d11_45 (by rw [Int32.lt_iff_toInt_lt]; omega) (by decide) (by decide) ?_
    have em : m = (6 : Int32).toNatClampNeg := by rw [Int32.toNatClampNeg]; omega
    exact K h i hn0 (Keep.refl h [st]) (em ▸ A_st)
  | succ j ih =>
    intro i m h hn0 hi0 hj hm E_g F_g_s F_g_u A_s2 A_u2 F_p_start A_st K
    have z0 : (0 : Int32).toInt = 0 := rfl
    have c6 : (6 : Int32).toInt = 6 := rfl
    have z1 : (1 : Int32).toInt = 1 := rfl
    have a1 := c_isub (6 : Int32) d
    have a2 := rng32 ((6 : Int32) - d)
    have b1 := c_iadd d i
    have b2 := rng32 (d + i)
    have d1 := c_iadd i 1
    have d2 := rng32 (i + 1)
    have hli : (d + i).toInt = m := by omega
    have x3 := own_at3 xs (d + i) hx (by omega) (by omega)
    have xm := own_getm xs (d + i) m hx.1 hli (by omega)
    refine own_iload (pc' := 40) d11_38 rfl rfl ?_
    refine own_aloadN (pc' := 41) d11_40 rfl rfl ?_
    refine own_iloadN (pc' := 42) d11_41 rfl rfl ?_
    refine own_virtual (own_scW l Z a0 hw g s2 _ (2 : Int32) (6 : Int32) d h n0 hn0 (by decide) (by decide) rfl rfl F_g_s A_s2) E_g (hw _ (List.mem_of_getElem? (i := 89) rfl)) (hw _ (List.mem_of_getElem? (i := 90) rfl)) (hw _ (List.mem_of_getElem? (i := 92) rfl)) (hw _ (List.mem_of_getElem? (i := 91) rfl)) (hw _ (List.mem_of_getElem? (i := 12) rfl)) (hw _ (List.mem_of_getElem? (i := 93) rfl)) (plainFor_of_name own_pn2) (by decide) own_pd10 rfl (argsL := [.int (2 : Int32)]) (rest := [.int i]) rfl rfl (W := 1) (Nat.le_refl _) (by decide) (by decide) (by decide) (by decide) rfl d11_42 (pc' := 45) rfl (fun v_ h62 hq => ?_)
    obtain ⟨rfl, rfl⟩ := hq
    show own_W l Z (⟨"com/example/cycles_to_winners/cyclestowinners/algo/Predecessors", "<init>", "(Lcom/example/cycles_to_winners/cyclestowinners/model/Game;)V"⟩ : MethodName) prog_1_method_1_code 6 none ({ frames := 3, cells := 3, slots := 14, locals := 44 } : Room) n0 (Q) h 2 10 45 #[.val (.ref p), .val (.ref g), .val (.int (3 : Int32)), .val (.int (2 : Int32)), .val (.int i), .unset] [.int ((6 : Int32) - d), .int i]
    refine own_ic_ge_f (pc' := 48) d11_45 (by rw [Int32.lt_iff_toInt_lt]; omega) rfl ?_
    refine own_aloadN (pc' := 49) d11_48 rfl rfl ?_
    refine own_getF (pc' := 52) (hw _ (List.mem_of_getElem? (i := 80) rfl)) F_p_start d11_49 rfl ?_
    refine own_aloadN (pc' := 53) d11_52 rfl rfl ?_
    refine own_iloadN (pc' := 54) d11_53 rfl rfl ?_
    refine own_iload (pc' := 56) d11_54 rfl rfl ?_
    refine own_virtual (own_sucW l Z a0 hw g s2 u2 _ _ (2 : Int32) i (6 : Int32) d (own_at xs (d + i)) h n0 hn0 (by decide) (by decide) rfl rfl (own_nlt hi0) (by rw [Int32.lt_iff_toInt_lt]; omega) (own_nlt (by omega)) (own_get6 xs _ hx.1 (by omega) (by omega)) F_g_s F_g_u A_s2 A_u2) E_g (hw _ (List.mem_of_getElem? (i := 94) rfl)) (hw _ (List.mem_of_getElem? (i := 95) rfl)) (hw _ (List.mem_of_getElem? (i := 97) rfl)) (hw _ (List.mem_of_getElem? (i := 96) rfl)) (hw _ (List.mem_of_getElem? (i := 12) rfl)) (hw _ (List.mem_of_getElem? (i := 98) rfl)) (plainFor_of_name own_pn2) (by decide) own_pd1 rfl (argsL := [.int (2 : Int32), .int i]) (rest := [.ref st]) rfl rfl (W := 1) (Nat.le_refl _) (by decide) (by decide) (by decide) (by decide) rfl d11_56 (pc' := 59) rfl (fun v_ h63 hq => ?_)
    obtain ⟨rfl, rfl⟩ := hq
    show own_W l Z (⟨"com/example/cycles_to_winners/cyclestowinners/algo/Predecessors", "<init>", "(Lcom/example/cycles_to_winners/cyclestowinners/model/Game;)V"⟩ : MethodName) prog_1_method_1_code 6 none ({ frames := 3, cells := 3, slots := 14, locals := 44 } : Room) n0 (Q) h 2 10 59 #[.val (.ref p), .val (.ref g), .val (.int (3 : Int32)), .val (.int (2 : Int32)), .val (.int i), .unset] [.int (own_at xs (d + i)), .ref st]
    generalize hy_ : (own_at xs (d + i)) = y
    rw [hy_] at x3 xm
    have z3 : (3 : Int32).toInt = 3 := rfl
    have x4 := x3
    rw [Int32.lt_iff_toInt_lt, Int32.lt_iff_toInt_lt, own_z0, z3] at x4
    have y1 := c_iadd y 1
    have y2 := rng32 (y + 1)
    refine own_iconst (1 : Int32) (pc' := 60) d11_59 rfl rfl ?_
    refine own_iadd (pc' := 61) d11_60 rfl ?_
    refine own_dup2 (pc' := 62) d11_61 rfl rfl rfl ?_
    refine own_iaload (pc' := 63) (v := .int (own_c y m xs)) A_st (own_nlt (by omega)) (own_cs_get m xs y x3) d11_62 rfl ?_
    refine own_iconst (1 : Int32) (pc' := 64) d11_63 rfl rfl ?_
    refine own_iadd (pc' := 65) d11_64 rfl ?_
    refine own_iastore (pc' := 66) A_st (own_nlt (by omega)) (by show (y + 1).toNatClampNeg < 4; rw [Int32.toNatClampNeg]; omega) ge_st d11_65 rfl (fun h64 K65 A_new => ?_)
    replace E_g := E_g.keep K65
    replace F_g_s := F_g_s.keep K65 (ninS ne_g_st nin0)
    replace F_g_u := F_g_u.keep K65 (ninS ne_g_st nin0)
    replace A_s2 := A_s2.keep K65 (ninS ne_s2_st nin0)
    replace A_u2 := A_u2.keep K65 (ninS ne_u2_st nin0)
    replace F_p_start := F_p_start.keep K65 (ninS ne_p_st nin0)
    replace hn0 : n0 ≤ h64.size := Nat.le_trans hn0 K65.1
    replace A_st := A_new
    replace A_st := A_st.cast (own_cs_set m xs y x3 (by rw [hx.1]; omega) xm)
    refine own_iinc (pc' := 69) (w := (1 : Int32)) (Ls' := #[.val (.ref p), .val (.ref g), .val (.int (3 : Int32)), .val (.int (2 : Int32)), .val (.int (i + (1 : Int32))), .unset]) d11_66 rfl rfl rfl rfl ?_
    refine own_goto (pc' := 38) d11_69 (by decide) (by decide) ?_
    refine ih (i + 1) (m + 1) h64 hn0 (by omega) (by omega) (by omega) E_g F_g_s F_g_u A_s2 A_u2 F_p_start A_st (fun h2 i2 q1 q2 q3 => ?_)
    exact K h2 i2 q1 (Keep.trans K65 q2 (fun x hx => Or.inl hx)) q3
set_option maxRecDepth 65536 in
set_option maxHeartbeats 40000000 in
theorem own_in2_0 (l : Launch) (Z : State) (a0 : Array Value) (hw : ∀ d ∈ tables_1, d.before a0 Z = true) (Q : Option Value → Heap → Prop) (n0 : Nat) (p g s2 u2 nx vt : Addr) (c d : Int32) (xs : List Int32) (hx : own_ok3 xs) (hc : 0 < c.toInt) (hd : c.toInt < d.toInt) (he : d.toInt < 6) (ne_g_nx : g ≠ nx) (ne_s2_nx : s2 ≠ nx) (ne_u2_nx : u2 ≠ nx) (ne_p_nx : p ≠ nx) (ne_g_vt : g ≠ vt) (ne_s2_vt : s2 ≠ vt) (ne_u2_vt : u2 ≠ vt) (ne_p_vt : p ≠ vt) (ne_nx_vt : nx ≠ vt) (ge_nx : n0 ≤ nx) (ge_vt : n0 ≤ vt) : ∀ (j : Nat) (i : Int32) (m : Nat) (h : Heap) (hn0 : n0 ≤ h.size) (hi0 : 0 ≤ i.toInt) (hj : (0 : Int32).toInt + i.toInt + j = c.toInt) (hm : (m : Int) = (0 : Int32).toInt + i.toInt) (E_g : Exa Z h g "com/example/cycles_to_winners/cyclestowinners/model/Game") (F_g_s : Fld Z h g "com/example/cycles_to_winners/cyclestowinners/model/Game" "successorStart" "[I" (.ref s2)) (F_g_u : Fld Z h g "com/example/cycles_to_winners/cyclestowinners/model/Game" "successors" "[I" (.ref u2)) (A_s2 : own_A Z h s2 .int [.int (0 : Int32), .int c, .int d, .int (6 : Int32)]) (A_u2 : own_A Z h u2 .int (xs.map Value.int)) (F_p_vertices : Fld Z h p "com/example/cycles_to_winners/cyclestowinners/algo/Predecessors" "vertices" "[I" (.ref vt)) (A_nx : own_A Z h nx .int (own_ns m xs)) (vs : List Value) (hvs : vs.length = 6) (A_vt : own_A Z h vt .int vs) (K : (∀ (h' : Heap) (i' : Int32) (vs' : List Value), n0 ≤ h'.size → Keep h h' [nx, vt] → own_A Z h' nx .int (own_ns c.toNatClampNeg xs) → vs'.length = 6 → own_A Z h' vt .int vs' → own_W l Z (⟨"com/example/cycles_to_winners/cyclestowinners/algo/Predecessors", "<init>", "(Lcom/example/cycles_to_winners/cyclestowinners/model/Game;)V"⟩ : MethodName) prog_1_method_1_code 6 none ({ frames := 3, cells := 3, slots := 14, locals := 44 } : Room) n0 (Q) h' 3 14 170 #[.val (.ref p), .val (.ref g), .val (.int (3 : Int32)), .val (.ref nx), .val (.int (0 : Int32)), .val (.int i')] [])),
    own_W l Z (⟨"com/example/cycles_to_winners/cyclestowinners/algo/Predecessors", "<init>", "(Lcom/example/cycles_to_winners/cyclestowinners/model/Game;)V"⟩ : MethodName) prog_1_method_1_code 6 none ({ frames := 3, cells := 3, slots := 14, locals := 44 } : Room) n0 (Q) h 3 14 131 #[.val (.ref p), .val (.ref g), .val (.int (3 : Int32)), .val (.ref nx), .val (.int (0 : Int32)), .val (.int i)] [] := by
  intro j
  induction j with
  | zero =>
    intro i m h hn0 hi0 hj hm E_g F_g_s F_g_u A_s2 A_u2 F_p_vertices A_nx vs hvs A_vt K
    have z0 : (0 : Int32).toInt = 0 := rfl
    have c6 : (6 : Int32).toInt = 6 := rfl
    have z1 : (1 : Int32).toInt = 1 := rfl
    have a1 := c_isub c (0 : Int32)
    have a2 := rng32 (c - (0 : Int32))
    refine own_iload (pc' := 133) d11_131 rfl rfl ?_
    refine own_aloadN (pc' := 134) d11_133 rfl rfl ?_
    refine own_iload (pc' := 136) d11_134 rfl rfl ?_
    refine own_virtual (own_scW l Z a0 hw g s2 _ (0 : Int32) c (0 : Int32) h n0 hn0 (by decide) (by decide) rfl rfl F_g_s A_s2) E_g (hw _ (List.mem_of_getElem? (i := 89) rfl)) (hw _ (List.mem_of_getElem? (i := 90) rfl)) (hw _ (List.mem_of_getElem? (i := 92) rfl)) (hw _ (List.mem_of_getElem? (i := 91) rfl)) (hw _ (List.mem_of_getElem? (i := 12) rfl)) (hw _ (List.mem_of_getElem? (i := 93) rfl)) (plainFor_of_name own_pn2) (by decide) own_pd10 rfl (argsL := [.int (0 : Int32)]) (rest := [.int i]) rfl rfl (W := 1) (Nat.le_refl _) (by decide) (by decide) (by decide) (by decide) rfl d11_136 (pc' := 139) rfl (fun v_ h66 hq => ?_)
    obtain ⟨rfl, rfl⟩ := hq
    show own_W l Z (⟨"com/example/cycles_to_winners/cyclestowinners/algo/Predecessors", "<init>", "(Lcom/example/cycles_to_winners/cyclestowinners/model/Game;)V"⟩ : MethodName) prog_1_method_1_code 6 none ({ frames := 3, cells := 3, slots := 14, locals := 44 } : Room) n0 (Q) h 3 14 139 #[.val (.ref p), .val (.ref g), .val (.int (3 : Int32)), .val (.ref nx), .val (.int (0 : Int32)), .val (.int i)] [.int (c - (0 : Int32)), .int i]
    refine own_ic_ge_t (pc' := 170) d11_139 (by rw [Int32.lt_iff_toInt_lt]; omega) (by decide) (by decide) ?_
    have em : m = c.toNatClampNeg := by rw [Int32.toNatClampNeg]; omega
    exact K h i vs hn0 (Keep.refl h [nx, vt]) (em ▸ A_nx) hvs A_vt
  | succ j ih =>
    intro i m h hn0 hi0 hj hm E_g F_g_s F_g_u A_s2 A_u2 F_p_vertices A_nx vs hvs A_vt K
    have z0 : (0 : Int32).toInt = 0 := rfl
    have c6 : (6 : Int32).toInt = 6 := rfl
    have z1 : (1 : Int32).toInt = 1 := rfl
    have a1 := c_isub c (0 : Int32)
    have a2 := rng32 (c - (0 : Int32))
    have b1 := c_iadd (0 : Int32) i
    have b2 := rng32 ((0 : Int32) + i)
    have d1 := c_iadd i 1
    have d2 := rng32 (i + 1)
    have hli : ((0 : Int32) + i).toInt = m := by omega
    have x3 := own_at3 xs ((0 : Int32) + i) hx (by omega) (by omega)
    have xm := own_getm xs ((0 : Int32) + i) m hx.1 hli (by omega)
    refine own_iload (pc' := 133) d11_131 rfl rfl ?_
    refine own_aloadN (pc' := 134) d11_133 rfl rfl ?_
    refine own_iload (pc' := 136) d11_134 rfl rfl ?_
    refine own_virtual (own_scW l Z a0 hw g s2 _ (0 : Int32) c (0 : Int32) h n0 hn0 (by decide) (by decide) rfl rfl F_g_s A_s2) E_g (hw _ (List.mem_of_getElem? (i := 89) rfl)) (hw _ (List.mem_of_getElem? (i := 90) rfl)) (hw _ (List.mem_of_getElem? (i := 92) rfl)) (hw _ (List.mem_of_getElem? (i := 91) rfl)) (hw _ (List.mem_of_getElem? (i := 12) rfl)) (hw _ (List.mem_of_getElem? (i := 93) rfl)) (plainFor_of_name own_pn2) (by decide) own_pd10 rfl (argsL := [.int (0 : Int32)]) (rest := [.int i]) rfl rfl (W := 1) (Nat.le_refl _) (by decide) (by decide) (by decide) (by decide) rfl d11_136 (pc' := 139) rfl (fun v_ h67 hq => ?_)
    obtain ⟨rfl, rfl⟩ := hq
    show own_W l Z (⟨"com/example/cycles_to_winners/cyclestowinners/algo/Predecessors", "<init>", "(Lcom/example/cycles_to_winners/cyclestowinners/model/Game;)V"⟩ : MethodName) prog_1_method_1_code 6 none ({ frames := 3, cells := 3, slots := 14, locals := 44 } : Room) n0 (Q) h 3 14 139 #[.val (.ref p), .val (.ref g), .val (.int (3 : Int32)), .val (.ref nx), .val (.int (0 : Int32)), .val (.int i)] [.int (c - (0 : Int32)), .int i]
    refine own_ic_ge_f (pc' := 142) d11_139 (by rw [Int32.lt_iff_toInt_lt]; omega) rfl ?_
    refine own_aloadN (pc' := 143) d11_142 rfl rfl ?_
    refine own_getF (pc' := 146) (hw _ (List.mem_of_getElem? (i := 87) rfl)) F_p_vertices d11_143 rfl ?_
    refine own_aloadN (pc' := 147) d11_146 rfl rfl ?_
    refine own_aloadN (pc' := 148) d11_147 rfl rfl ?_
    refine own_iload (pc' := 150) d11_148 rfl rfl ?_
    refine own_iload (pc' := 152) d11_150 rfl rfl ?_
    refine own_virtual (own_sucW l Z a0 hw g s2 u2 _ _ (0 : Int32) i c (0 : Int32) (own_at xs ((0 : Int32) + i)) h n0 hn0 (by decide) (by decide) rfl rfl (own_nlt hi0) (by rw [Int32.lt_iff_toInt_lt]; omega) (own_nlt (by omega)) (own_get6 xs _ hx.1 (by omega) (by omega)) F_g_s F_g_u A_s2 A_u2) E_g (hw _ (List.mem_of_getElem? (i := 94) rfl)) (hw _ (List.mem_of_getElem? (i := 95) rfl)) (hw _ (List.mem_of_getElem? (i := 97) rfl)) (hw _ (List.mem_of_getElem? (i := 96) rfl)) (hw _ (List.mem_of_getElem? (i := 12) rfl)) (hw _ (List.mem_of_getElem? (i := 98) rfl)) (plainFor_of_name own_pn2) (by decide) own_pd1 rfl (argsL := [.int (0 : Int32), .int i]) (rest := [.ref nx, .ref vt]) rfl rfl (W := 2) (Nat.le_refl _) (by decide) (by decide) (by decide) (by decide) rfl d11_152 (pc' := 155) rfl (fun v_ h68 hq => ?_)
    obtain ⟨rfl, rfl⟩ := hq
    show own_W l Z (⟨"com/example/cycles_to_winners/cyclestowinners/algo/Predecessors", "<init>", "(Lcom/example/cycles_to_winners/cyclestowinners/model/Game;)V"⟩ : MethodName) prog_1_method_1_code 6 none ({ frames := 3, cells := 3, slots := 14, locals := 44 } : Room) n0 (Q) h 3 14 155 #[.val (.ref p), .val (.ref g), .val (.int (3 : Int32)), .val (.ref nx), .val (.int (0 : Int32)), .val (.int i)] [.int (own_at xs ((0 : Int32) + i)), .ref nx, .ref vt]
    generalize hy_ : (own_at xs ((0 : Int32) + i)) = y
    rw [hy_] at x3 xm
    have z3 : (3 : Int32).toInt = 3 := rfl
    have x4 := x3
    rw [Int32.lt_iff_toInt_lt, Int32.lt_iff_toInt_lt, own_z0, z3] at x4
    have y1 := c_iadd y 1
    have y2 := rng32 (y + 1)
    have rb := own_rngB m xs y x3 hx.1 (by omega) xm
    refine own_dup2 (pc' := 156) d11_155 rfl rfl rfl ?_
    refine own_iaload (pc' := 157) (v := .int (own_B y xs + own_c y m xs)) A_nx x3.1 (own_ns_get m xs y x3) d11_156 rfl ?_
    refine own_dupX2 (pc' := 158) d11_157 rfl rfl rfl rfl ?_
    refine own_iconst (1 : Int32) (pc' := 159) d11_158 rfl rfl ?_
    refine own_iadd (pc' := 160) d11_159 rfl ?_
    refine own_iastore (pc' := 161) A_nx x3.1 (by show y.toNatClampNeg < 4; rw [Int32.toNatClampNeg]; omega) ge_nx d11_160 rfl (fun h69 K70 A_new => ?_)
    replace E_g := E_g.keep K70
    replace F_g_s := F_g_s.keep K70 (ninS ne_g_nx nin0)
    replace F_g_u := F_g_u.keep K70 (ninS ne_g_nx nin0)
    replace A_s2 := A_s2.keep K70 (ninS ne_s2_nx nin0)
    replace A_u2 := A_u2.keep K70 (ninS ne_u2_nx nin0)
    replace F_p_vertices := F_p_vertices.keep K70 (ninS ne_p_nx nin0)
    replace A_vt := A_vt.keep K70 (ninS (Ne.symm ne_nx_vt) nin0)
    replace hn0 : n0 ≤ h69.size := Nat.le_trans hn0 K70.1
    replace A_nx := A_new
    replace A_nx := A_nx.cast (own_ns_set m xs y x3 (by rw [hx.1]; omega) xm)
    refine own_iload (pc' := 163) d11_161 rfl rfl ?_
    refine own_iastore (pc' := 164) A_vt (own_nlt rb.1) (by rw [hvs, Int32.toNatClampNeg]; omega) ge_vt d11_163 rfl (fun h71 K72 A_new => ?_)
    replace E_g := E_g.keep K72
    replace F_g_s := F_g_s.keep K72 (ninS ne_g_vt nin0)
    replace F_g_u := F_g_u.keep K72 (ninS ne_g_vt nin0)
    replace A_s2 := A_s2.keep K72 (ninS ne_s2_vt nin0)
    replace A_u2 := A_u2.keep K72 (ninS ne_u2_vt nin0)
    replace F_p_vertices := F_p_vertices.keep K72 (ninS ne_p_vt nin0)
    replace A_nx := A_nx.keep K72 (ninS ne_nx_vt nin0)
    replace hn0 : n0 ≤ h71.size := Nat.le_trans hn0 K72.1
    replace A_vt := A_new
    refine own_iinc (pc' := 167) (w := (1 : Int32)) (Ls' := #[.val (.ref p), .val (.ref g), .val (.int (3 : Int32)), .val (.ref nx), .val (.int (0 : Int32)), .val (.int (i + (1 : Int32)))]) d11_164 rfl rfl rfl rfl ?_
    refine own_goto (pc' := 131) d11_167 (by decide) (by decide) ?_
    refine ih (i + 1) (m + 1) h71 hn0 (by omega) (by omega) (by omega) E_g F_g_s F_g_u A_s2 A_u2 F_p_vertices A_nx _ (by rw [List.length_set]; exact hvs) A_vt (fun h2 i2 vs2 q1 q2 q3 q4 q5 => ?_)
    exact K h2 i2 vs2 q1 (Keep.trans (Keep.trans (Keep.trans (Keep.refl _ [nx, vt]) K70 (fun x hx => Or.inl (by simp at hx; simp [hx]))) K72 (fun x hx => Or.inl (by simp at hx; simp [hx]))) q2 (fun x hx => Or.inl hx)) q3 q4 q5
set_option maxRecDepth 65536 in
set_option maxHeartbeats 40000000 in
theorem own_in2_1 (l : Launch) (Z : State) (a0 : Array Value) (hw : ∀ d ∈ tables_1, d.before a0 Z = true) (Q : Option Value → Heap → Prop) (n0 : Nat) (p g s2 u2 nx vt : Addr) (c d : Int32) (xs : List Int32) (hx : own_ok3 xs) (hc : 0 < c.toInt) (hd : c.toInt < d.toInt) (he : d.toInt < 6) (ne_g_nx : g ≠ nx) (ne_s2_nx : s2 ≠ nx) (ne_u2_nx : u2 ≠ nx) (ne_p_nx : p ≠ nx) (ne_g_vt : g ≠ vt) (ne_s2_vt : s2 ≠ vt) (ne_u2_vt : u2 ≠ vt) (ne_p_vt : p ≠ vt) (ne_nx_vt : nx ≠ vt) (ge_nx : n0 ≤ nx) (ge_vt : n0 ≤ vt) : ∀ (j : Nat) (i : Int32) (m : Nat) (h : Heap) (hn0 : n0 ≤ h.size) (hi0 : 0 ≤ i.toInt) (hj : c.toInt + i.toInt + j = d.toInt) (hm : (m : Int) = c.toInt + i.toInt) (E_g : Exa Z h g "com/example/cycles_to_winners/cyclestowinners/model/Game") (F_g_s : Fld Z h g "com/example/cycles_to_winners/cyclestowinners/model/Game" "successorStart" "[I" (.ref s2)) (F_g_u : Fld Z h g "com/example/cycles_to_winners/cyclestowinners/model/Game" "successors" "[I" (.ref u2)) (A_s2 : own_A Z h s2 .int [.int (0 : Int32), .int c, .int d, .int (6 : Int32)]) (A_u2 : own_A Z h u2 .int (xs.map Value.int)) (F_p_vertices : Fld Z h p "com/example/cycles_to_winners/cyclestowinners/algo/Predecessors" "vertices" "[I" (.ref vt)) (A_nx : own_A Z h nx .int (own_ns m xs)) (vs : List Value) (hvs : vs.length = 6) (A_vt : own_A Z h vt .int vs) (K : (∀ (h' : Heap) (i' : Int32) (vs' : List Value), n0 ≤ h'.size → Keep h h' [nx, vt] → own_A Z h' nx .int (own_ns d.toNatClampNeg xs) → vs'.length = 6 → own_A Z h' vt .int vs' → own_W l Z (⟨"com/example/cycles_to_winners/cyclestowinners/algo/Predecessors", "<init>", "(Lcom/example/cycles_to_winners/cyclestowinners/model/Game;)V"⟩ : MethodName) prog_1_method_1_code 6 none ({ frames := 3, cells := 3, slots := 14, locals := 44 } : Room) n0 (Q) h' 3 14 170 #[.val (.ref p), .val (.ref g), .val (.int (3 : Int32)), .val (.ref nx), .val (.int (1 : Int32)), .val (.int i')] [])),
    own_W l Z (⟨"com/example/cycles_to_winners/cyclestowinners/algo/Predecessors", "<init>", "(Lcom/example/cycles_to_winners/cyclestowinners/model/Game;)V"⟩ : MethodName) prog_1_method_1_code 6 none ({ frames := 3, cells := 3, slots := 14, locals := 44 } : Room) n0 (Q) h 3 14 131 #[.val (.ref p), .val (.ref g), .val (.int (3 : Int32)), .val (.ref nx), .val (.int (1 : Int32)), .val (.int i)] [] := by
  intro j
  induction j with
  | zero =>
    intro i m h hn0 hi0 hj hm E_g F_g_s F_g_u A_s2 A_u2 F_p_vertices A_nx vs hvs A_vt K
    have z0 : (0 : Int32).toInt = 0 := rfl
    have c6 : (6 : Int32).toInt = 6 := rfl
    have z1 : (1 : Int32).toInt = 1 := rfl
    have a1 := c_isub d c
    have a2 := rng32 (d - c)
    refine own_iload (pc' := 133) d11_131 rfl rfl ?_
    refine own_aloadN (pc' := 134) d11_133 rfl rfl ?_
    refine own_iload (pc' := 136) d11_134 rfl rfl ?_
    refine own_virtual (own_scW l Z a0 hw g s2 _ (1 : Int32) d c h n0 hn0 (by decide) (by decide) rfl rfl F_g_s A_s2) E_g (hw _ (List.mem_of_getElem? (i := 89) rfl)) (hw _ (List.mem_of_getElem? (i := 90) rfl)) (hw _ (List.mem_of_getElem? (i := 92) rfl)) (hw _ (List.mem_of_getElem? (i := 91) rfl)) (hw _ (List.mem_of_getElem? (i := 12) rfl)) (hw _ (List.mem_of_getElem? (i := 93) rfl)) (plainFor_of_name own_pn2) (by decide) own_pd10 rfl (argsL := [.int (1 : Int32)]) (rest := [.int i]) rfl rfl (W := 1) (Nat.le_refl _) (by decide) (by decide) (by decide) (by decide) rfl d11_136 (pc' := 139) rfl (fun v_ h73 hq => ?_)
    obtain ⟨rfl, rfl⟩ := hq
    show own_W l Z (⟨"com/example/cycles_to_winners/cyclestowinners/algo/Predecessors", "<init>", "(Lcom/example/cycles_to_winners/cyclestowinners/model/Game;)V"⟩ : MethodName) prog_1_method_1_code 6 none ({ frames := 3, cells := 3, slots := 14, locals := 44 } : Room) n0 (Q) h 3 14 139 #[.val (.ref p), .val (.ref g), .val (.int (3 : Int32)), .val (.ref nx), .val (.int (1 : Int32)), .val (.int i)] [.int (d - c), .int i]
    refine own_ic_ge_t (pc' := 170) d11_139 (by rw [Int32.lt_iff_toInt_lt]; omega) (by decide) (by decide) ?_
    have em : m = d.toNatClampNeg := by rw [Int32.toNatClampNeg]; omega
    exact K h i vs hn0 (Keep.refl h [nx, vt]) (em ▸ A_nx) hvs A_vt
  | succ j ih =>
    intro i m h hn0 hi0 hj hm E_g F_g_s F_g_u A_s2 A_u2 F_p_vertices A_nx vs hvs A_vt K
    have z0 : (0 : Int32).toInt = 0 := rfl
    have c6 : (6 : Int32).toInt = 6 := rfl
    have z1 : (1 : Int32).toInt = 1 := rfl
    have a1 := c_isub d c
    have a2 := rng32 (d - c)
    have b1 := c_iadd c i
    have b2 := rng32 (c + i)
    have d1 := c_iadd i 1
    have d2 := rng32 (i + 1)
    have hli : (c + i).toInt = m := by omega
    have x3 := own_at3 xs (c + i) hx (by omega) (by omega)
    have xm := own_getm xs (c + i) m hx.1 hli (by omega)
    refine own_iload (pc' := 133) d11_131 rfl rfl ?_
    refine own_aloadN (pc' := 134) d11_133 rfl rfl ?_
    refine own_iload (pc' := 136) d11_134 rfl rfl ?_
    refine own_virtual (own_scW l Z a0 hw g s2 _ (1 : Int32) d c h n0 hn0 (by decide) (by decide) rfl rfl F_g_s A_s2) E_g (hw _ (List.mem_of_getElem? (i := 89) rfl)) (hw _ (List.mem_of_getElem? (i := 90) rfl)) (hw _ (List.mem_of_getElem? (i := 92) rfl)) (hw _ (List.mem_of_getElem? (i := 91) rfl)) (hw _ (List.mem_of_getElem? (i := 12) rfl)) (hw _ (List.mem_of_getElem? (i := 93) rfl)) (plainFor_of_name own_pn2) (by decide) own_pd10 rfl (argsL := [.int (1 : Int32)]) (rest := [.int i]) rfl rfl (W := 1) (Nat.le_refl _) (by decide) (by decide) (by decide) (by decide) rfl d11_136 (pc' := 139) rfl (fun v_ h74 hq => ?_)
    obtain ⟨rfl, rfl⟩ := hq
    show own_W l Z (⟨"com/example/cycles_to_winners/cyclestowinners/algo/Predecessors", "<init>", "(Lcom/example/cycles_to_winners/cyclestowinners/model/Game;)V"⟩ : MethodName) prog_1_method_1_code 6 none ({ frames := 3, cells := 3, slots := 14, locals := 44 } : Room) n0 (Q) h 3 14 139 #[.val (.ref p), .val (.ref g), .val (.int (3 : Int32)), .val (.ref nx), .val (.int (1 : Int32)), .val (.int i)] [.int (d - c), .int i]
    refine own_ic_ge_f (pc' := 142) d11_139 (by rw [Int32.lt_iff_toInt_lt]; omega) rfl ?_
    refine own_aloadN (pc' := 143) d11_142 rfl rfl ?_
    refine own_getF (pc' := 146) (hw _ (List.mem_of_getElem? (i := 87) rfl)) F_p_vertices d11_143 rfl ?_
    refine own_aloadN (pc' := 147) d11_146 rfl rfl ?_
    refine own_aloadN (pc' := 148) d11_147 rfl rfl ?_
    refine own_iload (pc' := 150) d11_148 rfl rfl ?_
    refine own_iload (pc' := 152) d11_150 rfl rfl ?_
    refine own_virtual (own_sucW l Z a0 hw g s2 u2 _ _ (1 : Int32) i d c (own_at xs (c + i)) h n0 hn0 (by decide) (by decide) rfl rfl (own_nlt hi0) (by rw [Int32.lt_iff_toInt_lt]; omega) (own_nlt (by omega)) (own_get6 xs _ hx.1 (by omega) (by omega)) F_g_s F_g_u A_s2 A_u2) E_g (hw _ (List.mem_of_getElem? (i := 94) rfl)) (hw _ (List.mem_of_getElem? (i := 95) rfl)) (hw _ (List.mem_of_getElem? (i := 97) rfl)) (hw _ (List.mem_of_getElem? (i := 96) rfl)) (hw _ (List.mem_of_getElem? (i := 12) rfl)) (hw _ (List.mem_of_getElem? (i := 98) rfl)) (plainFor_of_name own_pn2) (by decide) own_pd1 rfl (argsL := [.int (1 : Int32), .int i]) (rest := [.ref nx, .ref vt]) rfl rfl (W := 2) (Nat.le_refl _) (by decide) (by decide) (by decide) (by decide) rfl d11_152 (pc' := 155) rfl (fun v_ h75 hq => ?_)
    obtain ⟨rfl, rfl⟩ := hq
    show own_W l Z (⟨"com/example/cycles_to_winners/cyclestowinners/algo/Predecessors", "<init>", "(Lcom/example/cycles_to_winners/cyclestowinners/model/Game;)V"⟩ : MethodName) prog_1_method_1_code 6 none ({ frames := 3, cells := 3, slots := 14, locals := 44 } : Room) n0 (Q) h 3 14 155 #[.val (.ref p), .val (.ref g), .val (.int (3 : Int32)), .val (.ref nx), .val (.int (1 : Int32)), .val (.int i)] [.int (own_at xs (c + i)), .ref nx, .ref vt]
    generalize hy_ : (own_at xs (c + i)) = y
    rw [hy_] at x3 xm
    have z3 : (3 : Int32).toInt = 3 := rfl
    have x4 := x3
    rw [Int32.lt_iff_toInt_lt, Int32.lt_iff_toInt_lt, own_z0, z3] at x4
    have y1 := c_iadd y 1
    have y2 := rng32 (y + 1)
    have rb := own_rngB m xs y x3 hx.1 (by omega) xm
    refine own_dup2 (pc' := 156) d11_155 rfl rfl rfl ?_
    refine own_iaload (pc' := 157) (v := .int (own_B y xs + own_c y m xs)) A_nx x3.1 (own_ns_get m xs y x3) d11_156 rfl ?_
    refine own_dupX2 (pc' := 158) d11_157 rfl rfl rfl rfl ?_
    refine own_iconst (1 : Int32) (pc' := 159) d11_158 rfl rfl ?_
    refine own_iadd (pc' := 160) d11_159 rfl ?_
    refine own_iastore (pc' := 161) A_nx x3.1 (by show y.toNatClampNeg < 4; rw [Int32.toNatClampNeg]; omega) ge_nx d11_160 rfl (fun h76 K77 A_new => ?_)
    replace E_g := E_g.keep K77
    replace F_g_s := F_g_s.keep K77 (ninS ne_g_nx nin0)
    replace F_g_u := F_g_u.keep K77 (ninS ne_g_nx nin0)
    replace A_s2 := A_s2.keep K77 (ninS ne_s2_nx nin0)
    replace A_u2 := A_u2.keep K77 (ninS ne_u2_nx nin0)
    replace F_p_vertices := F_p_vertices.keep K77 (ninS ne_p_nx nin0)
    replace A_vt := A_vt.keep K77 (ninS (Ne.symm ne_nx_vt) nin0)
    replace hn0 : n0 ≤ h76.size := Nat.le_trans hn0 K77.1
    replace A_nx := A_new
    replace A_nx := A_nx.cast (own_ns_set m xs y x3 (by rw [hx.1]; omega) xm)
    refine own_iload (pc' := 163) d11_161 rfl rfl ?_
    refine own_iastore (pc' := 164) A_vt (own_nlt rb.1) (by rw [hvs, Int32.toNatClampNeg]; omega) ge_vt d11_163 rfl (fun h78 K79 A_new => ?_)
    replace E_g := E_g.keep K79
    replace F_g_s := F_g_s.keep K79 (ninS ne_g_vt nin0)
    replace F_g_u := F_g_u.keep K79 (ninS ne_g_vt nin0)
    replace A_s2 := A_s2.keep K79 (ninS ne_s2_vt nin0)
    replace A_u2 := A_u2.keep K79 (ninS ne_u2_vt nin0)
    replace F_p_vertices := F_p_vertices.keep K79 (ninS ne_p_vt nin0)
    replace A_nx := A_nx.keep K79 (ninS ne_nx_vt nin0)
    replace hn0 : n0 ≤ h78.size := Nat.le_trans hn0 K79.1
    replace A_vt := A_new
    refine own_iinc (pc' := 167) (w := (1 : Int32)) (Ls' := #[.val (.ref p), .val (.ref g), .val (.int (3 : Int32)), .val (.ref nx), .val (.int (1 : Int32)), .val (.int (i + (1 : Int32)))]) d11_164 rfl rfl rfl rfl ?_
    refine own_goto (pc' := 131) d11_167 (by decide) (by decide) ?_
    refine ih (i + 1) (m + 1) h78 hn0 (by omega) (by omega) (by omega) E_g F_g_s F_g_u A_s2 A_u2 F_p_vertices A_nx _ (by rw [List.length_set]; exact hvs) A_vt (fun h2 i2 vs2 q1 q2 q3 q4 q5 => ?_)
    exact K h2 i2 vs2 q1 (Keep.trans (Keep.trans (Keep.trans (Keep.refl _ [nx, vt]) K77 (fun x hx => Or.inl (by simp at hx; simp [hx]))) K79 (fun x hx => Or.inl (by simp at hx; simp [hx]))) q2 (fun x hx => Or.inl hx)) q3 q4 q5
set_option maxRecDepth 65536 in
set_option maxHeartbeats 40000000 in
theorem own_in2_2 (l : Launch) (Z : State) (a0 : Array Value) (hw : ∀ d ∈ tables_1, d.before a0 Z = true) (Q : Option Value → Heap → Prop) (n0 : Nat) (p g s2 u2 nx vt : Addr) (c d : Int32) (xs : List Int32) (hx : own_ok3 xs) (hc : 0 < c.toInt) (hd : c.toInt < d.toInt) (he : d.toInt < 6) (ne_g_nx : g ≠ nx) (ne_s2_nx : s2 ≠ nx) (ne_u2_nx : u2 ≠ nx) (ne_p_nx : p ≠ nx) (ne_g_vt : g ≠ vt) (ne_s2_vt : s2 ≠ vt) (ne_u2_vt : u2 ≠ vt) (ne_p_vt : p ≠ vt) (ne_nx_vt : nx ≠ vt) (ge_nx : n0 ≤ nx) (ge_vt : n0 ≤ vt) : ∀ (j : Nat) (i : Int32) (m : Nat) (h : Heap) (hn0 : n0 ≤ h.size) (hi0 : 0 ≤ i.toInt) (hj : d.toInt + i.toInt + j = (6 : Int32).toInt) (hm : (m : Int) = d.toInt + i.toInt) (E_g : Exa Z h g "com/example/cycles_to_winners/cyclestowinners/model/Game") (F_g_s : Fld Z h g "com/example/cycles_to_winners/cyclestowinners/model/Game" "successorStart" "[I" (.ref s2)) (F_g_u : Fld Z h g "com/example/cycles_to_winners/cyclestowinners/model/Game" "successors" "[I" (.ref u2)) (A_s2 : own_A Z h s2 .int [.int (0 : Int32), .int c, .int d, .int (6 : Int32)]) (A_u2 : own_A Z h u2 .int (xs.map Value.int)) (F_p_vertices : Fld Z h p "com/example/cycles_to_winners/cyclestowinners/algo/Predecessors" "vertices" "[I" (.ref vt)) (A_nx : own_A Z h nx .int (own_ns m xs)) (vs : List Value) (hvs : vs.length = 6) (A_vt : own_A Z h vt .int vs) (K : (∀ (h' : Heap) (i' : Int32) (vs' : List Value), n0 ≤ h'.size → Keep h h' [nx, vt] → own_A Z h' nx .int (own_ns (6 : Int32).toNatClampNeg xs) → vs'.length = 6 → own_A Z h' vt .int vs' → own_W l Z (⟨"com/example/cycles_to_winners/cyclestowinners/algo/Predecessors", "<init>", "(Lcom/example/cycles_to_winners/cyclestowinners/model/Game;)V"⟩ : MethodName) prog_1_method_1_code 6 none ({ frames := 3, cells := 3, slots := 14, locals := 44 } : Room) n0 (Q) h' 3 14 170 #[.val (.ref p), .val (.ref g), .val (.int (3 : Int32)), .val (.ref nx), .val (.int (2 : Int32)), .val (.int i')] [])),
    own_W l Z (⟨"com/example/cycles_to_winners/cyclestowinners/algo/Predecessors", "<init>", "(Lcom/example/cycles_to_winners/cyclestowinners/model/Game;)V"⟩ : MethodName) prog_1_method_1_code 6 none ({ frames := 3, cells := 3, slots := 14, locals := 44 } : Room) n0 (Q) h 3 14 131 #[.val (.ref p), .val (.ref g), .val (.int (3 : Int32)), .val (.ref nx), .val (.int (2 : Int32)), .val (.int i)] [] := by
  intro j
  induction j with
  | zero =>
    intro i m h hn0 hi0 hj hm E_g F_g_s F_g_u A_s2 A_u2 F_p_vertices A_nx vs hvs A_vt K
    have z0 : (0 : Int32).toInt = 0 := rfl
    have c6 : (6 : Int32).toInt = 6 := rfl
    have z1 : (1 : Int32).toInt = 1 := rfl
    have a1 := c_isub (6 : Int32) d
    have a2 := rng32 ((6 : Int32) - d)
    refine own_iload (pc' := 133) d11_131 rfl rfl ?_
    refine own_aloadN (pc' := 134) d11_133 rfl rfl ?_
    refine own_iload (pc' := 136) d11_134 rfl rfl ?_
    refine own_virtual (own_scW l Z a0 hw g s2 _ (2 : Int32) (6 : Int32) d h n0 hn0 (by decide) (by decide) rfl rfl F_g_s A_s2) E_g (hw _ (List.mem_of_getElem? (i := 89) rfl)) (hw _ (List.mem_of_getElem? (i := 90) rfl)) (hw _ (List.mem_of_getElem? (i := 92) rfl)) (hw _ (List.mem_of_getElem? (i := 91) rfl)) (hw _ (List.mem_of_getElem? (i := 12) rfl)) (hw _ (List.mem_of_getElem? (i := 93) rfl)) (plainFor_of_name own_pn2) (by decide) own_pd10 rfl (argsL := [.int (2 : Int32)]) (rest := [.int i]) rfl rfl (W := 1) (Nat.le_refl _) (by decide) (by decide) (by decide) (by decide) rfl d11_136 (pc' := 139) rfl (fun v_ h80 hq => ?_)
    obtain ⟨rfl, rfl⟩ := hq
    show own_W l Z (⟨"com/example/cycles_to_winners/cyclestowinners/algo/Predecessors", "<init>", "(Lcom/example/cycles_to_winners/cyclestowinners/model/Game;)V"⟩ : MethodName) prog_1_method_1_code 6 none ({ frames := 3, cells := 3, slots := 14, locals := 44 } : Room) n0 (Q) h 3 14 139 #[.val (.ref p), .val (.ref g), .val (.int (3 : Int32)), .val (.ref nx), .val (.int (2 : Int32)), .val (.int i)] [.int ((6 : Int32) - d), .int i]
    refine own_ic_ge_t (pc' := 170) d11_139 (by rw [Int32.lt_iff_toInt_lt]; omega) (by decide) (by decide) ?_
    have em : m = (6 : Int32).toNatClampNeg := by rw [Int32.toNatClampNeg]; omega
    exact K h i vs hn0 (Keep.refl h [nx, vt]) (em ▸ A_nx) hvs A_vt
  | succ j ih =>
    intro i m h hn0 hi0 hj hm E_g F_g_s F_g_u A_s2 A_u2 F_p_vertices A_nx vs hvs A_vt K
    have z0 : (0 : Int32).toInt = 0 := rfl
    have c6 : (6 : Int32).toInt = 6 := rfl
    have z1 : (1 : Int32).toInt = 1 := rfl
    have a1 := c_isub (6 : Int32) d
    have a2 := rng32 ((6 : Int32) - d)
    have b1 := c_iadd d i
    have b2 := rng32 (d + i)
    have d1 := c_iadd i 1
    have d2 := rng32 (i + 1)
    have hli : (d + i).toInt = m := by omega
    have x3 := own_at3 xs (d + i) hx (by omega) (by omega)
    have xm := own_getm xs (d + i) m hx.1 hli (by omega)
    refine own_iload (pc' := 133) d11_131 rfl rfl ?_
    refine own_aloadN (pc' := 134) d11_133 rfl rfl ?_
    refine own_iload (pc' := 136) d11_134 rfl rfl ?_
    refine own_virtual (own_scW l Z a0 hw g s2 _ (2 : Int32) (6 : Int32) d h n0 hn0 (by decide) (by decide) rfl rfl F_g_s A_s2) E_g (hw _ (List.mem_of_getElem? (i := 89) rfl)) (hw _ (List.mem_of_getElem? (i := 90) rfl)) (hw _ (List.mem_of_getElem? (i := 92) rfl)) (hw _ (List.mem_of_getElem? (i := 91) rfl)) (hw _ (List.mem_of_getElem? (i := 12) rfl)) (hw _ (List.mem_of_getElem? (i := 93) rfl)) (plainFor_of_name own_pn2) (by decide) own_pd10 rfl (argsL := [.int (2 : Int32)]) (rest := [.int i]) rfl rfl (W := 1) (Nat.le_refl _) (by decide) (by decide) (by decide) (by decide) rfl d11_136 (pc' := 139) rfl (fun v_ h81 hq => ?_)
    obtain ⟨rfl, rfl⟩ := hq
    show own_W l Z (⟨"com/example/cycles_to_winners/cyclestowinners/algo/Predecessors", "<init>", "(Lcom/example/cycles_to_winners/cyclestowinners/model/Game;)V"⟩ : MethodName) prog_1_method_1_code 6 none ({ frames := 3, cells := 3, slots := 14, locals := 44 } : Room) n0 (Q) h 3 14 139 #[.val (.ref p), .val (.ref g), .val (.int (3 : Int32)), .val (.ref nx), .val (.int (2 : Int32)), .val (.int i)] [.int ((6 : Int32) - d), .int i]
    refine own_ic_ge_f (pc' := 142) d11_139 (by rw [Int32.lt_iff_toInt_lt]; omega) rfl ?_
    refine own_aloadN (pc' := 143) d11_142 rfl rfl ?_
    refine own_getF (pc' := 146) (hw _ (List.mem_of_getElem? (i := 87) rfl)) F_p_vertices d11_143 rfl ?_
    refine own_aloadN (pc' := 147) d11_146 rfl rfl ?_
    refine own_aloadN (pc' := 148) d11_147 rfl rfl ?_
    refine own_iload (pc' := 150) d11_148 rfl rfl ?_
    refine own_iload (pc' := 152) d11_150 rfl rfl ?_
    refine own_virtual (own_sucW l Z a0 hw g s2 u2 _ _ (2 : Int32) i (6 : Int32) d (own_at xs (d + i)) h n0 hn0 (by decide) (by decide) rfl rfl (own_nlt hi0) (by rw [Int32.lt_iff_toInt_lt]; omega) (own_nlt (by omega)) (own_get6 xs _ hx.1 (by omega) (by omega)) F_g_s F_g_u A_s2 A_u2) E_g (hw _ (List.mem_of_getElem? (i := 94) rfl)) (hw _ (List.mem_of_getElem? (i := 95) rfl)) (hw _ (List.mem_of_getElem? (i := 97) rfl)) (hw _ (List.mem_of_getElem? (i := 96) rfl)) (hw _ (List.mem_of_getElem? (i := 12) rfl)) (hw _ (List.mem_of_getElem? (i := 98) rfl)) (plainFor_of_name own_pn2) (by decide) own_pd1 rfl (argsL := [.int (2 : Int32), .int i]) (rest := [.ref nx, .ref vt]) rfl rfl (W := 2) (Nat.le_refl _) (by decide) (by decide) (by decide) (by decide) rfl d11_152 (pc' := 155) rfl (fun v_ h82 hq => ?_)
    obtain ⟨rfl, rfl⟩ := hq
    show own_W l Z (⟨"com/example/cycles_to_winners/cyclestowinners/algo/Predecessors", "<init>", "(Lcom/example/cycles_to_winners/cyclestowinners/model/Game;)V"⟩ : MethodName) prog_1_method_1_code 6 none ({ frames := 3, cells := 3, slots := 14, locals := 44 } : Room) n0 (Q) h 3 14 155 #[.val (.ref p), .val (.ref g), .val (.int (3 : Int32)), .val (.ref nx), .val (.int (2 : Int32)), .val (.int i)] [.int (own_at xs (d + i)), .ref nx, .ref vt]
    generalize hy_ : (own_at xs (d + i)) = y
    rw [hy_] at x3 xm
    have z3 : (3 : Int32).toInt = 3 := rfl
    have x4 := x3
    rw [Int32.lt_iff_toInt_lt, Int32.lt_iff_toInt_lt, own_z0, z3] at x4
    have y1 := c_iadd y 1
    have y2 := rng32 (y + 1)
    have rb := own_rngB m xs y x3 hx.1 (by omega) xm
    refine own_dup2 (pc' := 156) d11_155 rfl rfl rfl ?_
    refine own_iaload (pc' := 157) (v := .int (own_B y xs + own_c y m xs)) A_nx x3.1 (own_ns_get m xs y x3) d11_156 rfl ?_
    refine own_dupX2 (pc' := 158) d11_157 rfl rfl rfl rfl ?_
    refine own_iconst (1 : Int32) (pc' := 159) d11_158 rfl rfl ?_
    refine own_iadd (pc' := 160) d11_159 rfl ?_
    refine own_iastore (pc' := 161) A_nx x3.1 (by show y.toNatClampNeg < 4; rw [Int32.toNatClampNeg]; omega) ge_nx d11_160 rfl (fun h83 K84 A_new => ?_)
    replace E_g := E_g.keep K84
    replace F_g_s := F_g_s.keep K84 (ninS ne_g_nx nin0)
    replace F_g_u := F_g_u.keep K84 (ninS ne_g_nx nin0)
    replace A_s2 := A_s2.keep K84 (ninS ne_s2_nx nin0)
    replace A_u2 := A_u2.keep K84 (ninS ne_u2_nx nin0)
    replace F_p_vertices := F_p_vertices.keep K84 (ninS ne_p_nx nin0)
    replace A_vt := A_vt.keep K84 (ninS (Ne.symm ne_nx_vt) nin0)
    replace hn0 : n0 ≤ h83.size := Nat.le_trans hn0 K84.1
    replace A_nx := A_new
    replace A_nx := A_nx.cast (own_ns_set m xs y x3 (by rw [hx.1]; omega) xm)
    refine own_iload (pc' := 163) d11_161 rfl rfl ?_
    refine own_iastore (pc' := 164) A_vt (own_nlt rb.1) (by rw [hvs, Int32.toNatClampNeg]; omega) ge_vt d11_163 rfl (fun h85 K86 A_new => ?_)
    replace E_g := E_g.keep K86
    replace F_g_s := F_g_s.keep K86 (ninS ne_g_vt nin0)
    replace F_g_u := F_g_u.keep K86 (ninS ne_g_vt nin0)
    replace A_s2 := A_s2.keep K86 (ninS ne_s2_vt nin0)
    replace A_u2 := A_u2.keep K86 (ninS ne_u2_vt nin0)
    replace F_p_vertices := F_p_vertices.keep K86 (ninS ne_p_vt nin0)
    replace A_nx := A_nx.keep K86 (ninS ne_nx_vt nin0)
    replace hn0 : n0 ≤ h85.size := Nat.le_trans hn0 K86.1
    replace A_vt := A_new
    refine own_iinc (pc' := 167) (w := (1 : Int32)) (Ls' := #[.val (.ref p), .val (.ref g), .val (.int (3 : Int32)), .val (.ref nx), .val (.int (2 : Int32)), .val (.int (i + (1 : Int32)))]) d11_164 rfl rfl rfl rfl ?_
    refine own_goto (pc' := 131) d11_167 (by decide) (by decide) ?_
    refine ih (i + 1) (m + 1) h85 hn0 (by omega) (by omega) (by omega) E_g F_g_s F_g_u A_s2 A_u2 F_p_vertices A_nx _ (by rw [List.length_set]; exact hvs) A_vt (fun h2 i2 vs2 q1 q2 q3 q4 q5 => ?_)
    exact K h2 i2 vs2 q1 (Keep.trans (Keep.trans (Keep.trans (Keep.refl _ [nx, vt]) K84 (fun x hx => Or.inl (by simp at hx; simp [hx]))) K86 (fun x hx => Or.inl (by simp at hx; simp [hx]))) q2 (fun x hx => Or.inl hx)) q3 q4 q5
set_option maxRecDepth 65536 in
set_option maxHeartbeats 40000000 in
theorem own_mkP (l : Launch) (Z : State) (a0 : Array Value) (hw : ∀ d ∈ tables_1, d.before a0 Z = true) (p g w s2 u2 : Addr) (o0 o1 o2 c d : Int32) (xs : List Int32) (h0 : Heap) (n0 : Nat) (hn0 : n0 ≤ h0.size) (hx : own_ok3 xs) (hc : 0 < c.toInt) (hd : c.toInt < d.toInt) (he : d.toInt < 6) (ge_p : n0 ≤ p) (ne_g_p : g ≠ p) (ne_w_p : w ≠ p) (ne_s2_p : s2 ≠ p) (ne_u2_p : u2 ≠ p) (E_g : Exa Z h0 g "com/example/cycles_to_winners/cyclestowinners/model/Game") (F_g_s : Fld Z h0 g "com/example/cycles_to_winners/cyclestowinners/model/Game" "successorStart" "[I" (.ref s2)) (F_g_u : Fld Z h0 g "com/example/cycles_to_winners/cyclestowinners/model/Game" "successors" "[I" (.ref u2)) (A_s2 : own_A Z h0 s2 .int [.int (0 : Int32), .int c, .int d, .int (6 : Int32)]) (A_u2 : own_A Z h0 u2 .int (xs.map Value.int)) (F_g_w : Fld Z h0 g "com/example/cycles_to_winners/cyclestowinners/model/Game" "owners" "[I" (.ref w)) (A_w : own_A Z h0 w .int [.int o0, .int o1, .int o2]) (E_p : Exa Z h0 p "com/example/cycles_to_winners/cyclestowinners/algo/Predecessors") (F_p_start : Fld Z h0 p "com/example/cycles_to_winners/cyclestowinners/algo/Predecessors" "start" "[I" .null) (F_p_vertices : Fld Z h0 p "com/example/cycles_to_winners/cyclestowinners/algo/Predecessors" "vertices" "[I" .null) :
    own_W l Z (⟨"com/example/cycles_to_winners/cyclestowinners/algo/Predecessors", "<init>", "(Lcom/example/cycles_to_winners/cyclestowinners/model/Game;)V"⟩ : MethodName) prog_1_method_1_code 6 none ({ frames := 3, cells := 3, slots := 14, locals := 44 } : Room) n0 (fun v h => v = none ∧ ∃ st : Addr, h0.size ≤ st ∧ Keep h0 h [p] ∧ Exa Z h p "com/example/cycles_to_winners/cyclestowinners/algo/Predecessors" ∧ Fld Z h p "com/example/cycles_to_winners/cyclestowinners/algo/Predecessors" "start" "[I" (.ref st) ∧ own_A Z h st .int [.int 0, .int (own_T1 xs), .int (own_T2 xs), .int (own_T3 xs)]) h0 0 0 0 #[.val (.ref p), .val (.ref g), .unset, .unset, .unset, .unset] [] := by
  have c6 : (6 : Int32).toInt = 6 := rfl
  refine own_aloadN (pc' := 1) d11_0 rfl rfl ?_
  refine own_initO (pc' := 4) (W := 0) (hw _ (List.mem_of_getElem? (i := 74) rfl)) (hw _ (List.mem_of_getElem? (i := 17) rfl)) (hw _ (List.mem_of_getElem? (i := 18) rfl)) d11_1 rfl rfl (by decide) (Nat.le_refl _) (by decide) ?_
  refine own_aloadN (pc' := 5) d11_4 rfl rfl ?_
  refine own_virtual (own_vcW l Z a0 hw g w o0 o1 o2 h0 n0 hn0 F_g_w A_w) E_g (hw _ (List.mem_of_getElem? (i := 75) rfl)) (hw _ (List.mem_of_getElem? (i := 76) rfl)) (hw _ (List.mem_of_getElem? (i := 78) rfl)) (hw _ (List.mem_of_getElem? (i := 77) rfl)) (hw _ (List.mem_of_getElem? (i := 12) rfl)) (hw _ (List.mem_of_getElem? (i := 79) rfl)) (plainFor_of_name own_pn2) (by decide) own_pd9 rfl (argsL := []) (rest := []) rfl rfl (W := 0) (Nat.le_refl _) (by decide) (by decide) (by decide) (by decide) rfl d11_5 (pc' := 8) rfl (fun v_ h87 hq => ?_)
  obtain ⟨rfl, rfl⟩ := hq
  show own_W l Z (⟨"com/example/cycles_to_winners/cyclestowinners/algo/Predecessors", "<init>", "(Lcom/example/cycles_to_winners/cyclestowinners/model/Game;)V"⟩ : MethodName) prog_1_method_1_code 6 none ({ frames := 3, cells := 3, slots := 14, locals := 44 } : Room) n0 (fun v h => v = none ∧ ∃ st : Addr, h0.size ≤ st ∧ Keep h0 h [p] ∧ Exa Z h p "com/example/cycles_to_winners/cyclestowinners/algo/Predecessors" ∧ Fld Z h p "com/example/cycles_to_winners/cyclestowinners/algo/Predecessors" "start" "[I" (.ref st) ∧ own_A Z h st .int [.int 0, .int (own_T1 xs), .int (own_T2 xs), .int (own_T3 xs)]) h0 0 0 8 #[.val (.ref p), .val (.ref g), .unset, .unset, .unset, .unset] [.int (3 : Int32)]
  refine own_istoreN (pc' := 9) (Ls' := #[.val (.ref p), .val (.ref g), .val (.int (3 : Int32)), .unset, .unset, .unset]) d11_8 rfl rfl ?_
  refine own_aloadN (pc' := 10) d11_9 rfl rfl ?_
  refine own_iloadN (pc' := 11) d11_10 rfl rfl ?_
  refine own_iconst (1 : Int32) (pc' := 12) d11_11 rfl rfl ?_
  refine own_iadd (pc' := 13) d11_12 rfl ?_
  rw [show ((3 : Int32) + (1 : Int32)) = (4 : Int32) from (by decide)]
  refine own_newarrE (pc' := 15) (ty := .int) (cap := 4) (hw _ (List.mem_of_getElem? (i := 4) rfl)) rfl d11_13 rfl (by decide) (by decide) (by decide) (by decide) (by decide) (fun h88 st gt_st lt_st E89 A_st E_st => ?_)
  replace E_st : Exa Z h88 st "[I" := (show ("[" ++ FieldType.toString .int) = "[I" from by decide) ▸ E_st
  have ge_st : n0 ≤ st := Nat.le_trans hn0 gt_st
  have ne_g_st : g ≠ st := Nat.ne_of_lt (by first | exact Nat.lt_of_lt_of_le E_g.lt gt_st | (have q := Nat.lt_of_lt_of_le E_g.lt (Nat.le_refl _); omega))
  have ne_p_st : p ≠ st := Nat.ne_of_lt (by first | exact Nat.lt_of_lt_of_le E_p.lt gt_st | (have q := Nat.lt_of_lt_of_le E_p.lt (Nat.le_refl _); omega))
  have ne_s2_st : s2 ≠ st := Nat.ne_of_lt (by first | exact Nat.lt_of_lt_of_le A_s2.lt gt_st | (have q := Nat.lt_of_lt_of_le A_s2.lt (Nat.le_refl _); omega))
  have ne_u2_st : u2 ≠ st := Nat.ne_of_lt (by first | exact Nat.lt_of_lt_of_le A_u2.lt gt_st | (have q := Nat.lt_of_lt_of_le A_u2.lt (Nat.le_refl _); omega))
  have ne_w_st : w ≠ st := Nat.ne_of_lt (by first | exact Nat.lt_of_lt_of_le A_w.lt gt_st | (have q := Nat.lt_of_lt_of_le A_w.lt (Nat.le_refl _); omega))
  replace E_g := E_g.ext E89
  replace F_g_s := F_g_s.ext E89
  replace F_g_u := F_g_u.ext E89
  replace A_s2 := A_s2.ext E89
  replace A_u2 := A_u2.ext E89
  replace F_g_w := F_g_w.ext E89
  replace A_w := A_w.ext E89
  replace E_p := E_p.ext E89
  replace F_p_start := F_p_start.ext E89
  replace F_p_vertices := F_p_vertices.ext E89
  replace hn0 : n0 ≤ h88.size := Nat.le_trans hn0 E89.1
  replace A_st : own_A Z h88 st .int [.int (0 : Int32), .int (0 : Int32), .int (0 : Int32), .int (0 : Int32)] := A_st.cast rfl
  have gs : h0.size ≤ st := gt_st
  refine own_putF (pc' := 18) (hw _ (List.mem_of_getElem? (i := 80) rfl)) F_p_start E_p (Or.inr ⟨(hw _ (List.mem_of_getElem? (i := 81) rfl)), rfl, rfl⟩) (hw _ (List.mem_of_getElem? (i := 69) rfl)) ge_p (ty := (.array .int)) (by decide) rfl rfl d11_15 rfl (fun h90 Wr91 K92 => ?_)
  replace E_g := E_g.wr Wr91
  replace F_g_s := F_g_s.other Wr91 (Or.inl ne_g_p)
  replace F_g_u := F_g_u.other Wr91 (Or.inl ne_g_p)
  replace A_s2 := A_s2.keep K92 (ninS ne_s2_p nin0)
  replace A_u2 := A_u2.keep K92 (ninS ne_u2_p nin0)
  replace F_g_w := F_g_w.other Wr91 (Or.inl ne_g_p)
  replace A_w := A_w.keep K92 (ninS ne_w_p nin0)
  replace E_p := E_p.wr Wr91
  replace F_p_start := F_p_start.same Wr91
  replace F_p_vertices := F_p_vertices.other Wr91 (Or.inr (slot_ne (a0 := a0) (Or.inr (hw _ (List.mem_of_getElem? (i := 88) rfl))) (Or.inr (hw _ (List.mem_of_getElem? (i := 81) rfl))) (by decide) (t := (.array .int)) (by decide) (t' := (.array .int)) (by decide)))
  replace A_st := A_st.keep K92 (ninS (Ne.symm ne_p_st) nin0)
  replace E_st := E_st.wr Wr91
  replace hn0 : n0 ≤ h90.size := Nat.le_trans hn0 K92.1
  refine own_aloadN (pc' := 19) d11_18 rfl rfl ?_
  refine own_aloadN (pc' := 20) d11_19 rfl rfl ?_
  refine own_virtual (own_ecW l Z a0 hw g u2 xs h90 n0 hn0 hx.1 F_g_u A_u2) E_g (hw _ (List.mem_of_getElem? (i := 82) rfl)) (hw _ (List.mem_of_getElem? (i := 83) rfl)) (hw _ (List.mem_of_getElem? (i := 85) rfl)) (hw _ (List.mem_of_getElem? (i := 84) rfl)) (hw _ (List.mem_of_getElem? (i := 12) rfl)) (hw _ (List.mem_of_getElem? (i := 86) rfl)) (plainFor_of_name own_pn2) (by decide) own_pd9 rfl (argsL := []) (rest := [.ref p]) rfl rfl (W := 1) (Nat.le_refl _) (by decide) (by decide) (by decide) (by decide) rfl d11_20 (pc' := 23) rfl (fun v_ h93 hq => ?_)
  obtain ⟨rfl, rfl⟩ := hq
  show own_W l Z (⟨"com/example/cycles_to_winners/cyclestowinners/algo/Predecessors", "<init>", "(Lcom/example/cycles_to_winners/cyclestowinners/model/Game;)V"⟩ : MethodName) prog_1_method_1_code 6 none ({ frames := 3, cells := 3, slots := 14, locals := 44 } : Room) n0 (fun v h => v = none ∧ ∃ st : Addr, h0.size ≤ st ∧ Keep h0 h [p] ∧ Exa Z h p "com/example/cycles_to_winners/cyclestowinners/algo/Predecessors" ∧ Fld Z h p "com/example/cycles_to_winners/cyclestowinners/algo/Predecessors" "start" "[I" (.ref st) ∧ own_A Z h st .int [.int 0, .int (own_T1 xs), .int (own_T2 xs), .int (own_T3 xs)]) h90 1 4 23 #[.val (.ref p), .val (.ref g), .val (.int (3 : Int32)), .unset, .unset, .unset] [.int (6 : Int32), .ref p]
  refine own_newarr (pc' := 25) (ty := .int) (cap := 6) (hw _ (List.mem_of_getElem? (i := 4) rfl)) rfl d11_23 rfl (by decide) (by decide) (by decide) (by decide) (by decide) (fun h94 vt gt_vt lt_vt E95 A_vt => ?_)
  have ge_vt : n0 ≤ vt := Nat.le_trans hn0 gt_vt
  have ne_g_vt : g ≠ vt := Nat.ne_of_lt (by first | exact Nat.lt_of_lt_of_le E_g.lt gt_vt | (have q := Nat.lt_of_lt_of_le E_g.lt (Nat.le_refl _); omega))
  have ne_p_vt : p ≠ vt := Nat.ne_of_lt (by first | exact Nat.lt_of_lt_of_le E_p.lt gt_vt | (have q := Nat.lt_of_lt_of_le E_p.lt (Nat.le_refl _); omega))
  have ne_s2_vt : s2 ≠ vt := Nat.ne_of_lt (by first | exact Nat.lt_of_lt_of_le A_s2.lt gt_vt | (have q := Nat.lt_of_lt_of_le A_s2.lt (Nat.le_refl _); omega))
  have ne_st_vt : st ≠ vt := Nat.ne_of_lt (by first | exact Nat.lt_of_lt_of_le A_st.lt gt_vt | (have q := Nat.lt_of_lt_of_le A_st.lt (Nat.le_refl _); omega))
  have ne_u2_vt : u2 ≠ vt := Nat.ne_of_lt (by first | exact Nat.lt_of_lt_of_le A_u2.lt gt_vt | (have q := Nat.lt_of_lt_of_le A_u2.lt (Nat.le_refl _); omega))
  have ne_w_vt : w ≠ vt := Nat.ne_of_lt (by first | exact Nat.lt_of_lt_of_le A_w.lt gt_vt | (have q := Nat.lt_of_lt_of_le A_w.lt (Nat.le_refl _); omega))
  replace E_g := E_g.ext E95
  replace F_g_s := F_g_s.ext E95
  replace F_g_u := F_g_u.ext E95
  replace A_s2 := A_s2.ext E95
  replace A_u2 := A_u2.ext E95
  replace F_g_w := F_g_w.ext E95
  replace A_w := A_w.ext E95
  replace E_p := E_p.ext E95
  replace F_p_start := F_p_start.ext E95
  replace F_p_vertices := F_p_vertices.ext E95
  replace A_st := A_st.ext E95
  replace E_st := E_st.ext E95
  replace hn0 : n0 ≤ h94.size := Nat.le_trans hn0 E95.1
  replace A_vt : own_A Z h94 vt .int [.int (0 : Int32), .int (0 : Int32), .int (0 : Int32), .int (0 : Int32), .int (0 : Int32), .int (0 : Int32)] := A_vt.cast rfl
  have gv : h0.size ≤ vt := Nat.le_trans (((Keep.refl h0 [p]).ext E89).trans K92 (fun x hx => Or.inl hx)).1 gt_vt
  refine own_putF (pc' := 28) (hw _ (List.mem_of_getElem? (i := 87) rfl)) F_p_vertices E_p (Or.inr ⟨(hw _ (List.mem_of_getElem? (i := 88) rfl)), rfl, rfl⟩) (hw _ (List.mem_of_getElem? (i := 69) rfl)) ge_p (ty := (.array .int)) (by decide) rfl rfl d11_25 rfl (fun h96 Wr97 K98 => ?_)
  replace E_g := E_g.wr Wr97
  replace F_g_s := F_g_s.other Wr97 (Or.inl ne_g_p)
  replace F_g_u := F_g_u.other Wr97 (Or.inl ne_g_p)
  replace A_s2 := A_s2.keep K98 (ninS ne_s2_p nin0)
  replace A_u2 := A_u2.keep K98 (ninS ne_u2_p nin0)
  replace F_g_w := F_g_w.other Wr97 (Or.inl ne_g_p)
  replace A_w := A_w.keep K98 (ninS ne_w_p nin0)
  replace E_p := E_p.wr Wr97
  replace F_p_start := F_p_start.other Wr97 (Or.inr (slot_ne (a0 := a0) (Or.inr (hw _ (List.mem_of_getElem? (i := 81) rfl))) (Or.inr (hw _ (List.mem_of_getElem? (i := 88) rfl))) (by decide) (t := (.array .int)) (by decide) (t' := (.array .int)) (by decide)))
  replace F_p_vertices := F_p_vertices.same Wr97
  replace A_st := A_st.keep K98 (ninS (Ne.symm ne_p_st) nin0)
  replace E_st := E_st.wr Wr97
  replace A_vt := A_vt.keep K98 (ninS (Ne.symm ne_p_vt) nin0)
  replace hn0 : n0 ≤ h96.size := Nat.le_trans hn0 K98.1
  have KK : Keep h0 h96 [p] := (((((Keep.refl h0 [p]).ext E89).trans K92 (fun x hx => Or.inl hx)).ext E95).trans K98 (fun x hx => Or.inl hx))
  replace A_st : own_A Z h96 st .int (own_cs 0 xs) := A_st.cast rfl
  refine own_iconst (0 : Int32) (pc' := 29) d11_28 rfl rfl ?_
  refine own_istoreN (pc' := 30) (Ls' := #[.val (.ref p), .val (.ref g), .val (.int (3 : Int32)), .val (.int (0 : Int32)), .unset, .unset]) d11_29 rfl rfl ?_
  refine own_iloadN (pc' := 31) d11_30 rfl rfl ?_
  refine own_iloadN (pc' := 32) d11_31 rfl rfl ?_
  refine own_ic_ge_f (pc' := 35) d11_32 (by decide) rfl ?_
  refine own_iconst (0 : Int32) (pc' := 36) d11_35 rfl rfl ?_
  refine own_istore (pc' := 38) (Ls' := #[.val (.ref p), .val (.ref g), .val (.int (3 : Int32)), .val (.int (0 : Int32)), .val (.int (0 : Int32)), .unset]) d11_36 rfl rfl ?_
  refine own_in1_0 l Z a0 hw _ n0 p g s2 u2 st c d xs hx hc hd he ne_g_st ne_s2_st ne_u2_st ne_p_st ge_st (c.toInt - (0 : Int32).toInt).toNat 0 (0 : Int32).toNatClampNeg h96 hn0 (by decide) (by rw [own_z0]; have q : (0 : Int32).toInt = 0 := rfl; omega) (by rw [Int32.toNatClampNeg, own_z0]; have q : (0 : Int32).toInt = 0 := rfl; omega) E_g F_g_s F_g_u A_s2 A_u2 F_p_start A_st (fun h99 iv0 hn1 K100 A_n => ?_)
  replace E_g := E_g.keep K100
  replace F_g_s := F_g_s.keep K100 (ninS ne_g_st nin0)
  replace F_g_u := F_g_u.keep K100 (ninS ne_g_st nin0)
  replace A_s2 := A_s2.keep K100 (ninS ne_s2_st nin0)
  replace A_u2 := A_u2.keep K100 (ninS ne_u2_st nin0)
  replace F_g_w := F_g_w.keep K100 (ninS ne_g_st nin0)
  replace A_w := A_w.keep K100 (ninS ne_w_st nin0)
  replace E_p := E_p.keep K100
  replace F_p_start := F_p_start.keep K100 (ninS ne_p_st nin0)
  replace F_p_vertices := F_p_vertices.keep K100 (ninS ne_p_st nin0)
  replace E_st := E_st.keep K100
  replace A_vt := A_vt.keep K100 (ninS (Ne.symm ne_st_vt) nin0)
  replace A_st := A_n
  replace hn0 := hn1
  replace KK := KK.trans K100 (allS (Or.inr gs) all0)
  show own_W l Z (⟨"com/example/cycles_to_winners/cyclestowinners/algo/Predecessors", "<init>", "(Lcom/example/cycles_to_winners/cyclestowinners/model/Game;)V"⟩ : MethodName) prog_1_method_1_code 6 none ({ frames := 3, cells := 3, slots := 14, locals := 44 } : Room) n0 (fun v h => v = none ∧ ∃ st : Addr, h0.size ≤ st ∧ Keep h0 h [p] ∧ Exa Z h p "com/example/cycles_to_winners/cyclestowinners/algo/Predecessors" ∧ Fld Z h p "com/example/cycles_to_winners/cyclestowinners/algo/Predecessors" "start" "[I" (.ref st) ∧ own_A Z h st .int [.int 0, .int (own_T1 xs), .int (own_T2 xs), .int (own_T3 xs)]) h99 2 10 72 #[.val (.ref p), .val (.ref g), .val (.int (3 : Int32)), .val (.int (0 : Int32)), .val (.int iv0), .unset] []
  refine own_iinc (pc' := 75) (w := (1 : Int32)) (Ls' := #[.val (.ref p), .val (.ref g), .val (.int (3 : Int32)), .val (.int ((0 : Int32) + (1 : Int32))), .val (.int iv0), .unset]) d11_72 rfl rfl rfl rfl ?_
  rw [show ((0 : Int32) + (1 : Int32)) = (1 : Int32) from (by decide)]
  refine own_goto (pc' := 30) d11_75 (by decide) (by decide) ?_
  refine own_iloadN (pc' := 31) d11_30 rfl rfl ?_
  refine own_iloadN (pc' := 32) d11_31 rfl rfl ?_
  refine own_ic_ge_f (pc' := 35) d11_32 (by decide) rfl ?_
  refine own_iconst (0 : Int32) (pc' := 36) d11_35 rfl rfl ?_
  refine own_istore (pc' := 38) (Ls' := #[.val (.ref p), .val (.ref g), .val (.int (3 : Int32)), .val (.int (1 : Int32)), .val (.int (0 : Int32)), .unset]) d11_36 rfl rfl ?_
  refine own_in1_1 l Z a0 hw _ n0 p g s2 u2 st c d xs hx hc hd he ne_g_st ne_s2_st ne_u2_st ne_p_st ge_st (d.toInt - c.toInt).toNat 0 c.toNatClampNeg h99 hn0 (by decide) (by rw [own_z0]; have q : (0 : Int32).toInt = 0 := rfl; omega) (by rw [Int32.toNatClampNeg, own_z0]; have q : (0 : Int32).toInt = 0 := rfl; omega) E_g F_g_s F_g_u A_s2 A_u2 F_p_start A_st (fun h101 iv1 hn1 K102 A_n => ?_)
  replace E_g := E_g.keep K102
  replace F_g_s := F_g_s.keep K102 (ninS ne_g_st nin0)
  replace F_g_u := F_g_u.keep K102 (ninS ne_g_st nin0)
  replace A_s2 := A_s2.keep K102 (ninS ne_s2_st nin0)
  replace A_u2 := A_u2.keep K102 (ninS ne_u2_st nin0)
  replace F_g_w := F_g_w.keep K102 (ninS ne_g_st nin0)
  replace A_w := A_w.keep K102 (ninS ne_w_st nin0)
  replace E_p := E_p.keep K102
  replace F_p_start := F_p_start.keep K102 (ninS ne_p_st nin0)
  replace F_p_vertices := F_p_vertices.keep K102 (ninS ne_p_st nin0)
  replace E_st := E_st.keep K102
  replace A_vt := A_vt.keep K102 (ninS (Ne.symm ne_st_vt) nin0)
  replace A_st := A_n
  replace hn0 := hn1
  replace KK := KK.trans K102 (allS (Or.inr gs) all0)
  show own_W l Z (⟨"com/example/cycles_to_winners/cyclestowinners/algo/Predecessors", "<init>", "(Lcom/example/cycles_to_winners/cyclestowinners/model/Game;)V"⟩ : MethodName) prog_1_method_1_code 6 none ({ frames := 3, cells := 3, slots := 14, locals := 44 } : Room) n0 (fun v h => v = none ∧ ∃ st : Addr, h0.size ≤ st ∧ Keep h0 h [p] ∧ Exa Z h p "com/example/cycles_to_winners/cyclestowinners/algo/Predecessors" ∧ Fld Z h p "com/example/cycles_to_winners/cyclestowinners/algo/Predecessors" "start" "[I" (.ref st) ∧ own_A Z h st .int [.int 0, .int (own_T1 xs), .int (own_T2 xs), .int (own_T3 xs)]) h101 2 10 72 #[.val (.ref p), .val (.ref g), .val (.int (3 : Int32)), .val (.int (1 : Int32)), .val (.int iv1), .unset] []
  refine own_iinc (pc' := 75) (w := (1 : Int32)) (Ls' := #[.val (.ref p), .val (.ref g), .val (.int (3 : Int32)), .val (.int ((1 : Int32) + (1 : Int32))), .val (.int iv1), .unset]) d11_72 rfl rfl rfl rfl ?_
  rw [show ((1 : Int32) + (1 : Int32)) = (2 : Int32) from (by decide)]
  refine own_goto (pc' := 30) d11_75 (by decide) (by decide) ?_
  refine own_iloadN (pc' := 31) d11_30 rfl rfl ?_
  refine own_iloadN (pc' := 32) d11_31 rfl rfl ?_
  refine own_ic_ge_f (pc' := 35) d11_32 (by decide) rfl ?_
  refine own_iconst (0 : Int32) (pc' := 36) d11_35 rfl rfl ?_
  refine own_istore (pc' := 38) (Ls' := #[.val (.ref p), .val (.ref g), .val (.int (3 : Int32)), .val (.int (2 : Int32)), .val (.int (0 : Int32)), .unset]) d11_36 rfl rfl ?_
  refine own_in1_2 l Z a0 hw _ n0 p g s2 u2 st c d xs hx hc hd he ne_g_st ne_s2_st ne_u2_st ne_p_st ge_st ((6 : Int32).toInt - d.toInt).toNat 0 d.toNatClampNeg h101 hn0 (by decide) (by rw [own_z0]; have q : (0 : Int32).toInt = 0 := rfl; omega) (by rw [Int32.toNatClampNeg, own_z0]; have q : (0 : Int32).toInt = 0 := rfl; omega) E_g F_g_s F_g_u A_s2 A_u2 F_p_start A_st (fun h103 iv2 hn1 K104 A_n => ?_)
  replace E_g := E_g.keep K104
  replace F_g_s := F_g_s.keep K104 (ninS ne_g_st nin0)
  replace F_g_u := F_g_u.keep K104 (ninS ne_g_st nin0)
  replace A_s2 := A_s2.keep K104 (ninS ne_s2_st nin0)
  replace A_u2 := A_u2.keep K104 (ninS ne_u2_st nin0)
  replace F_g_w := F_g_w.keep K104 (ninS ne_g_st nin0)
  replace A_w := A_w.keep K104 (ninS ne_w_st nin0)
  replace E_p := E_p.keep K104
  replace F_p_start := F_p_start.keep K104 (ninS ne_p_st nin0)
  replace F_p_vertices := F_p_vertices.keep K104 (ninS ne_p_st nin0)
  replace E_st := E_st.keep K104
  replace A_vt := A_vt.keep K104 (ninS (Ne.symm ne_st_vt) nin0)
  replace A_st := A_n
  replace hn0 := hn1
  replace KK := KK.trans K104 (allS (Or.inr gs) all0)
  show own_W l Z (⟨"com/example/cycles_to_winners/cyclestowinners/algo/Predecessors", "<init>", "(Lcom/example/cycles_to_winners/cyclestowinners/model/Game;)V"⟩ : MethodName) prog_1_method_1_code 6 none ({ frames := 3, cells := 3, slots := 14, locals := 44 } : Room) n0 (fun v h => v = none ∧ ∃ st : Addr, h0.size ≤ st ∧ Keep h0 h [p] ∧ Exa Z h p "com/example/cycles_to_winners/cyclestowinners/algo/Predecessors" ∧ Fld Z h p "com/example/cycles_to_winners/cyclestowinners/algo/Predecessors" "start" "[I" (.ref st) ∧ own_A Z h st .int [.int 0, .int (own_T1 xs), .int (own_T2 xs), .int (own_T3 xs)]) h103 2 10 72 #[.val (.ref p), .val (.ref g), .val (.int (3 : Int32)), .val (.int (2 : Int32)), .val (.int iv2), .unset] []
  refine own_iinc (pc' := 75) (w := (1 : Int32)) (Ls' := #[.val (.ref p), .val (.ref g), .val (.int (3 : Int32)), .val (.int ((2 : Int32) + (1 : Int32))), .val (.int iv2), .unset]) d11_72 rfl rfl rfl rfl ?_
  rw [show ((2 : Int32) + (1 : Int32)) = (3 : Int32) from (by decide)]
  refine own_goto (pc' := 30) d11_75 (by decide) (by decide) ?_
  refine own_iloadN (pc' := 31) d11_30 rfl rfl ?_
  refine own_iloadN (pc' := 32) d11_31 rfl rfl ?_
  refine own_ic_ge_t (pc' := 78) d11_32 (by decide) (by decide) (by decide) ?_
  replace A_st : own_A Z h103 st .int [.int 0, .int (own_c 0 6 xs), .int (own_c 1 6 xs), .int (own_c 2 6 xs)] := A_st.cast rfl
  refine own_iconst (0 : Int32) (pc' := 79) d11_78 rfl rfl ?_
  refine own_istoreN (pc' := 80) (Ls' := #[.val (.ref p), .val (.ref g), .val (.int (3 : Int32)), .val (.int (0 : Int32)), .val (.int iv2), .unset]) d11_79 rfl rfl ?_
  refine own_iloadN (pc' := 81) d11_80 rfl rfl ?_
  refine own_iloadN (pc' := 82) d11_81 rfl rfl ?_
  refine own_ic_ge_f (pc' := 85) d11_82 (by decide) rfl ?_
  refine own_aloadN (pc' := 86) d11_85 rfl rfl ?_
  refine own_getF (pc' := 89) (hw _ (List.mem_of_getElem? (i := 80) rfl)) F_p_start d11_86 rfl ?_
  refine own_iloadN (pc' := 90) d11_89 rfl rfl ?_
  refine own_iconst (1 : Int32) (pc' := 91) d11_90 rfl rfl ?_
  refine own_iadd (pc' := 92) d11_91 rfl ?_
  rw [show ((0 : Int32) + (1 : Int32)) = (1 : Int32) from (by decide)]
  refine own_dup2 (pc' := 93) d11_92 rfl rfl rfl ?_
  refine own_iaload (pc' := 94) (v := .int (own_c 0 6 xs)) A_st (by decide) rfl d11_93 rfl ?_
  refine own_aloadN (pc' := 95) d11_94 rfl rfl ?_
  refine own_getF (pc' := 98) (hw _ (List.mem_of_getElem? (i := 80) rfl)) F_p_start d11_95 rfl ?_
  refine own_iloadN (pc' := 99) d11_98 rfl rfl ?_
  refine own_iaload (pc' := 100) (v := .int (0 : Int32)) A_st (by decide) rfl d11_99 rfl ?_
  refine own_iadd (pc' := 101) d11_100 rfl ?_
  rw [show ((own_c 0 6 xs) + (0 : Int32)) = (own_T1 xs) from rfl]
  refine own_iastore (pc' := 102) A_st (by decide) (by first | decide | (simp only [List.length_cons, List.length_nil, List.length_set, List.length_replicate]; decide)) ge_st d11_101 rfl (fun h105 K106 A_new => ?_)
  replace E_g := E_g.keep K106
  replace F_g_s := F_g_s.keep K106 (ninS ne_g_st nin0)
  replace F_g_u := F_g_u.keep K106 (ninS ne_g_st nin0)
  replace A_s2 := A_s2.keep K106 (ninS ne_s2_st nin0)
  replace A_u2 := A_u2.keep K106 (ninS ne_u2_st nin0)
  replace F_g_w := F_g_w.keep K106 (ninS ne_g_st nin0)
  replace A_w := A_w.keep K106 (ninS ne_w_st nin0)
  replace E_p := E_p.keep K106
  replace F_p_start := F_p_start.keep K106 (ninS ne_p_st nin0)
  replace F_p_vertices := F_p_vertices.keep K106 (ninS ne_p_st nin0)
  replace E_st := E_st.keep K106
  replace A_vt := A_vt.keep K106 (ninS (Ne.symm ne_st_vt) nin0)
  replace hn0 : n0 ≤ h105.size := Nat.le_trans hn0 K106.1
  replace A_st : own_A Z h105 st .int [.int (0 : Int32), .int (own_T1 xs), .int (own_c 1 6 xs), .int (own_c 2 6 xs)] := A_new.cast rfl
  replace KK := KK.trans K106 (allS (Or.inr gs) all0)
  refine own_iinc (pc' := 105) (w := (1 : Int32)) (Ls' := #[.val (.ref p), .val (.ref g), .val (.int (3 : Int32)), .val (.int ((0 : Int32) + (1 : Int32))), .val (.int iv2), .unset]) d11_102 rfl rfl rfl rfl ?_
  rw [show ((0 : Int32) + (1 : Int32)) = (1 : Int32) from (by decide)]
  refine own_goto (pc' := 80) d11_105 (by decide) (by decide) ?_
  refine own_iloadN (pc' := 81) d11_80 rfl rfl ?_
  refine own_iloadN (pc' := 82) d11_81 rfl rfl ?_
  refine own_ic_ge_f (pc' := 85) d11_82 (by decide) rfl ?_
  refine own_aloadN (pc' := 86) d11_85 rfl rfl ?_
  refine own_getF (pc' := 89) (hw _ (List.mem_of_getElem? (i := 80) rfl)) F_p_start d11_86 rfl ?_
  refine own_iloadN (pc' := 90) d11_89 rfl rfl ?_
  refine own_iconst (1 : Int32) (pc' := 91) d11_90 rfl rfl ?_
  refine own_iadd (pc' := 92) d11_91 rfl ?_
  rw [show ((1 : Int32) + (1 : Int32)) = (2 : Int32) from (by decide)]
  refine own_dup2 (pc' := 93) d11_92 rfl rfl rfl ?_
  refine own_iaload (pc' := 94) (v := .int (own_c 1 6 xs)) A_st (by decide) rfl d11_93 rfl ?_
  refine own_aloadN (pc' := 95) d11_94 rfl rfl ?_
  refine own_getF (pc' := 98) (hw _ (List.mem_of_getElem? (i := 80) rfl)) F_p_start d11_95 rfl ?_
  refine own_iloadN (pc' := 99) d11_98 rfl rfl ?_
  refine own_iaload (pc' := 100) (v := .int (own_T1 xs)) A_st (by decide) rfl d11_99 rfl ?_
  refine own_iadd (pc' := 101) d11_100 rfl ?_
  rw [show ((own_c 1 6 xs) + (own_T1 xs)) = (own_T2 xs) from rfl]
  refine own_iastore (pc' := 102) A_st (by decide) (by first | decide | (simp only [List.length_cons, List.length_nil, List.length_set, List.length_replicate]; decide)) ge_st d11_101 rfl (fun h107 K108 A_new => ?_)
  replace E_g := E_g.keep K108
  replace F_g_s := F_g_s.keep K108 (ninS ne_g_st nin0)
  replace F_g_u := F_g_u.keep K108 (ninS ne_g_st nin0)
  replace A_s2 := A_s2.keep K108 (ninS ne_s2_st nin0)
  replace A_u2 := A_u2.keep K108 (ninS ne_u2_st nin0)
  replace F_g_w := F_g_w.keep K108 (ninS ne_g_st nin0)
  replace A_w := A_w.keep K108 (ninS ne_w_st nin0)
  replace E_p := E_p.keep K108
  replace F_p_start := F_p_start.keep K108 (ninS ne_p_st nin0)
  replace F_p_vertices := F_p_vertices.keep K108 (ninS ne_p_st nin0)
  replace E_st := E_st.keep K108
  replace A_vt := A_vt.keep K108 (ninS (Ne.symm ne_st_vt) nin0)
  replace hn0 : n0 ≤ h107.size := Nat.le_trans hn0 K108.1
  replace A_st : own_A Z h107 st .int [.int (0 : Int32), .int (own_T1 xs), .int (own_T2 xs), .int (own_c 2 6 xs)] := A_new.cast rfl
  replace KK := KK.trans K108 (allS (Or.inr gs) all0)
  refine own_iinc (pc' := 105) (w := (1 : Int32)) (Ls' := #[.val (.ref p), .val (.ref g), .val (.int (3 : Int32)), .val (.int ((1 : Int32) + (1 : Int32))), .val (.int iv2), .unset]) d11_102 rfl rfl rfl rfl ?_
  rw [show ((1 : Int32) + (1 : Int32)) = (2 : Int32) from (by decide)]
  refine own_goto (pc' := 80) d11_105 (by decide) (by decide) ?_
  refine own_iloadN (pc' := 81) d11_80 rfl rfl ?_
  refine own_iloadN (pc' := 82) d11_81 rfl rfl ?_
  refine own_ic_ge_f (pc' := 85) d11_82 (by decide) rfl ?_
  refine own_aloadN (pc' := 86) d11_85 rfl rfl ?_
  refine own_getF (pc' := 89) (hw _ (List.mem_of_getElem? (i := 80) rfl)) F_p_start d11_86 rfl ?_
  refine own_iloadN (pc' := 90) d11_89 rfl rfl ?_
  refine own_iconst (1 : Int32) (pc' := 91) d11_90 rfl rfl ?_
  refine own_iadd (pc' := 92) d11_91 rfl ?_
  rw [show ((2 : Int32) + (1 : Int32)) = (3 : Int32) from (by decide)]
  refine own_dup2 (pc' := 93) d11_92 rfl rfl rfl ?_
  refine own_iaload (pc' := 94) (v := .int (own_c 2 6 xs)) A_st (by decide) rfl d11_93 rfl ?_
  refine own_aloadN (pc' := 95) d11_94 rfl rfl ?_
  refine own_getF (pc' := 98) (hw _ (List.mem_of_getElem? (i := 80) rfl)) F_p_start d11_95 rfl ?_
  refine own_iloadN (pc' := 99) d11_98 rfl rfl ?_
  refine own_iaload (pc' := 100) (v := .int (own_T2 xs)) A_st (by decide) rfl d11_99 rfl ?_
  refine own_iadd (pc' := 101) d11_100 rfl ?_
  rw [show ((own_c 2 6 xs) + (own_T2 xs)) = (own_T3 xs) from rfl]
  refine own_iastore (pc' := 102) A_st (by decide) (by first | decide | (simp only [List.length_cons, List.length_nil, List.length_set, List.length_replicate]; decide)) ge_st d11_101 rfl (fun h109 K110 A_new => ?_)
  replace E_g := E_g.keep K110
  replace F_g_s := F_g_s.keep K110 (ninS ne_g_st nin0)
  replace F_g_u := F_g_u.keep K110 (ninS ne_g_st nin0)
  replace A_s2 := A_s2.keep K110 (ninS ne_s2_st nin0)
  replace A_u2 := A_u2.keep K110 (ninS ne_u2_st nin0)
  replace F_g_w := F_g_w.keep K110 (ninS ne_g_st nin0)
  replace A_w := A_w.keep K110 (ninS ne_w_st nin0)
  replace E_p := E_p.keep K110
  replace F_p_start := F_p_start.keep K110 (ninS ne_p_st nin0)
  replace F_p_vertices := F_p_vertices.keep K110 (ninS ne_p_st nin0)
  replace E_st := E_st.keep K110
  replace A_vt := A_vt.keep K110 (ninS (Ne.symm ne_st_vt) nin0)
  replace hn0 : n0 ≤ h109.size := Nat.le_trans hn0 K110.1
  replace A_st : own_A Z h109 st .int [.int (0 : Int32), .int (own_T1 xs), .int (own_T2 xs), .int (own_T3 xs)] := A_new.cast rfl
  replace KK := KK.trans K110 (allS (Or.inr gs) all0)
  refine own_iinc (pc' := 105) (w := (1 : Int32)) (Ls' := #[.val (.ref p), .val (.ref g), .val (.int (3 : Int32)), .val (.int ((2 : Int32) + (1 : Int32))), .val (.int iv2), .unset]) d11_102 rfl rfl rfl rfl ?_
  rw [show ((2 : Int32) + (1 : Int32)) = (3 : Int32) from (by decide)]
  refine own_goto (pc' := 80) d11_105 (by decide) (by decide) ?_
  refine own_iloadN (pc' := 81) d11_80 rfl rfl ?_
  refine own_iloadN (pc' := 82) d11_81 rfl rfl ?_
  refine own_ic_ge_t (pc' := 108) d11_82 (by decide) (by decide) (by decide) ?_
  refine own_aloadN (pc' := 109) d11_108 rfl rfl ?_
  refine own_getF (pc' := 112) (hw _ (List.mem_of_getElem? (i := 80) rfl)) F_p_start d11_109 rfl ?_
  refine own_clone (pc' := 115) (W := 0) (cap := 4) (hw _ (List.mem_of_getElem? (i := 106) rfl)) (hw _ (List.mem_of_getElem? (i := 34) rfl)) (hw _ (List.mem_of_getElem? (i := 38) rfl)) (hw _ (List.mem_of_getElem? (i := 36) rfl)) (hw _ (List.mem_of_getElem? (i := 37) rfl)) (hw _ (List.mem_of_getElem? (i := 39) rfl)) A_st E_st d11_112 rfl rfl (by decide) (Nat.le_refl _) (by decide) (by first | decide | exact Nat.le_refl _) (by decide) (by decide) (fun h111 nx gt_nx lt_nx E112 A_nx E_nx => ?_)
  have ge_nx : n0 ≤ nx := Nat.le_trans hn0 gt_nx
  have ne_g_nx : g ≠ nx := Nat.ne_of_lt (by first | exact Nat.lt_of_lt_of_le E_g.lt gt_nx | (have q := Nat.lt_of_lt_of_le E_g.lt (Nat.le_refl _); omega))
  have ne_p_nx : p ≠ nx := Nat.ne_of_lt (by first | exact Nat.lt_of_lt_of_le E_p.lt gt_nx | (have q := Nat.lt_of_lt_of_le E_p.lt (Nat.le_refl _); omega))
  have ne_s2_nx : s2 ≠ nx := Nat.ne_of_lt (by first | exact Nat.lt_of_lt_of_le A_s2.lt gt_nx | (have q := Nat.lt_of_lt_of_le A_s2.lt (Nat.le_refl _); omega))
  have ne_st_nx : st ≠ nx := Nat.ne_of_lt (by first | exact Nat.lt_of_lt_of_le A_st.lt gt_nx | (have q := Nat.lt_of_lt_of_le A_st.lt (Nat.le_refl _); omega))
  have ne_u2_nx : u2 ≠ nx := Nat.ne_of_lt (by first | exact Nat.lt_of_lt_of_le A_u2.lt gt_nx | (have q := Nat.lt_of_lt_of_le A_u2.lt (Nat.le_refl _); omega))
  have ne_vt_nx : vt ≠ nx := Nat.ne_of_lt (by first | exact Nat.lt_of_lt_of_le A_vt.lt gt_nx | (have q := Nat.lt_of_lt_of_le A_vt.lt (Nat.le_refl _); omega))
  have ne_w_nx : w ≠ nx := Nat.ne_of_lt (by first | exact Nat.lt_of_lt_of_le A_w.lt gt_nx | (have q := Nat.lt_of_lt_of_le A_w.lt (Nat.le_refl _); omega))
  replace E_g := E_g.ext E112
  replace F_g_s := F_g_s.ext E112
  replace F_g_u := F_g_u.ext E112
  replace A_s2 := A_s2.ext E112
  replace A_u2 := A_u2.ext E112
  replace F_g_w := F_g_w.ext E112
  replace A_w := A_w.ext E112
  replace E_p := E_p.ext E112
  replace F_p_start := F_p_start.ext E112
  replace F_p_vertices := F_p_vertices.ext E112
  replace A_st := A_st.ext E112
  replace E_st := E_st.ext E112
  replace A_vt := A_vt.ext E112
  replace hn0 : n0 ≤ h111.size := Nat.le_trans hn0 E112.1
  have gn : h0.size ≤ nx := Nat.le_trans KK.1 gt_nx
  replace KK := KK.ext E112
  replace A_nx : own_A Z h111 nx .int (own_ns 0 xs) := A_nx.cast (own_ns0 xs)
  refine own_cast (pc' := 118) (hw _ (List.mem_of_getElem? (i := 107) rfl)) (Ins.self E_nx) d11_115 rfl ?_
  refine own_astoreN (pc' := 119) (Ls' := #[.val (.ref p), .val (.ref g), .val (.int (3 : Int32)), .val (.ref nx), .val (.int iv2), .unset]) d11_118 rfl rfl ?_
  refine own_iconst (0 : Int32) (pc' := 120) d11_119 rfl rfl ?_
  refine own_istore (pc' := 122) (Ls' := #[.val (.ref p), .val (.ref g), .val (.int (3 : Int32)), .val (.ref nx), .val (.int (0 : Int32)), .unset]) d11_120 rfl rfl ?_
  have hvs : ([.int 0, .int 0, .int 0, .int 0, .int 0, .int 0] : List Value).length = 6 := rfl
  refine own_iload (pc' := 124) d11_122 rfl rfl ?_
  refine own_iloadN (pc' := 125) d11_124 rfl rfl ?_
  refine own_ic_ge_f (pc' := 128) d11_125 (by decide) rfl ?_
  refine own_iconst (0 : Int32) (pc' := 129) d11_128 rfl rfl ?_
  refine own_istore (pc' := 131) (Ls' := #[.val (.ref p), .val (.ref g), .val (.int (3 : Int32)), .val (.ref nx), .val (.int (0 : Int32)), .val (.int (0 : Int32))]) d11_129 rfl rfl ?_
  refine own_in2_0 l Z a0 hw _ n0 p g s2 u2 nx vt c d xs hx hc hd he ne_g_nx ne_s2_nx ne_u2_nx ne_p_nx ne_g_vt ne_s2_vt ne_u2_vt ne_p_vt (Ne.symm ne_vt_nx) ge_nx ge_vt (c.toInt - (0 : Int32).toInt).toNat 0 (0 : Int32).toNatClampNeg h111 hn0 (by decide) (by rw [own_z0]; have q : (0 : Int32).toInt = 0 := rfl; omega) (by rw [Int32.toNatClampNeg, own_z0]; have q : (0 : Int32).toInt = 0 := rfl; omega) E_g F_g_s F_g_u A_s2 A_u2 F_p_vertices A_nx _ hvs A_vt (fun h113 jv0 vs0 hn1 K114 A_n hvs2 A_n2 => ?_)
  replace E_g := E_g.keep K114
  replace F_g_s := F_g_s.keep K114 (ninS ne_g_nx (ninS ne_g_vt nin0))
  replace F_g_u := F_g_u.keep K114 (ninS ne_g_nx (ninS ne_g_vt nin0))
  replace A_s2 := A_s2.keep K114 (ninS ne_s2_nx (ninS ne_s2_vt nin0))
  replace A_u2 := A_u2.keep K114 (ninS ne_u2_nx (ninS ne_u2_vt nin0))
  replace F_g_w := F_g_w.keep K114 (ninS ne_g_nx (ninS ne_g_vt nin0))
  replace A_w := A_w.keep K114 (ninS ne_w_nx (ninS ne_w_vt nin0))
  replace E_p := E_p.keep K114
  replace F_p_start := F_p_start.keep K114 (ninS ne_p_nx (ninS ne_p_vt nin0))
  replace F_p_vertices := F_p_vertices.keep K114 (ninS ne_p_nx (ninS ne_p_vt nin0))
  replace A_st := A_st.keep K114 (ninS ne_st_nx (ninS ne_st_vt nin0))
  replace E_st := E_st.keep K114
  replace E_nx := E_nx.keep K114
  replace A_nx := A_n
  replace A_vt := A_n2
  replace hvs := hvs2
  replace hn0 := hn1
  replace KK := KK.trans K114 (allS (Or.inr gn) (allS (Or.inr gv) all0))
  show own_W l Z (⟨"com/example/cycles_to_winners/cyclestowinners/algo/Predecessors", "<init>", "(Lcom/example/cycles_to_winners/cyclestowinners/model/Game;)V"⟩ : MethodName) prog_1_method_1_code 6 none ({ frames := 3, cells := 3, slots := 14, locals := 44 } : Room) n0 (fun v h => v = none ∧ ∃ st : Addr, h0.size ≤ st ∧ Keep h0 h [p] ∧ Exa Z h p "com/example/cycles_to_winners/cyclestowinners/algo/Predecessors" ∧ Fld Z h p "com/example/cycles_to_winners/cyclestowinners/algo/Predecessors" "start" "[I" (.ref st) ∧ own_A Z h st .int [.int 0, .int (own_T1 xs), .int (own_T2 xs), .int (own_T3 xs)]) h113 3 14 170 #[.val (.ref p), .val (.ref g), .val (.int (3 : Int32)), .val (.ref nx), .val (.int (0 : Int32)), .val (.int jv0)] []
  refine own_iinc (pc' := 173) (w := (1 : Int32)) (Ls' := #[.val (.ref p), .val (.ref g), .val (.int (3 : Int32)), .val (.ref nx), .val (.int ((0 : Int32) + (1 : Int32))), .val (.int jv0)]) d11_170 rfl rfl rfl rfl ?_
  rw [show ((0 : Int32) + (1 : Int32)) = (1 : Int32) from (by decide)]
  refine own_goto (pc' := 122) d11_173 (by decide) (by decide) ?_
  refine own_iload (pc' := 124) d11_122 rfl rfl ?_
  refine own_iloadN (pc' := 125) d11_124 rfl rfl ?_
  refine own_ic_ge_f (pc' := 128) d11_125 (by decide) rfl ?_
  refine own_iconst (0 : Int32) (pc' := 129) d11_128 rfl rfl ?_
  refine own_istore (pc' := 131) (Ls' := #[.val (.ref p), .val (.ref g), .val (.int (3 : Int32)), .val (.ref nx), .val (.int (1 : Int32)), .val (.int (0 : Int32))]) d11_129 rfl rfl ?_
  refine own_in2_1 l Z a0 hw _ n0 p g s2 u2 nx vt c d xs hx hc hd he ne_g_nx ne_s2_nx ne_u2_nx ne_p_nx ne_g_vt ne_s2_vt ne_u2_vt ne_p_vt (Ne.symm ne_vt_nx) ge_nx ge_vt (d.toInt - c.toInt).toNat 0 c.toNatClampNeg h113 hn0 (by decide) (by rw [own_z0]; have q : (0 : Int32).toInt = 0 := rfl; omega) (by rw [Int32.toNatClampNeg, own_z0]; have q : (0 : Int32).toInt = 0 := rfl; omega) E_g F_g_s F_g_u A_s2 A_u2 F_p_vertices A_nx _ hvs A_vt (fun h115 jv1 vs1 hn1 K116 A_n hvs2 A_n2 => ?_)
  replace E_g := E_g.keep K116
  replace F_g_s := F_g_s.keep K116 (ninS ne_g_nx (ninS ne_g_vt nin0))
  replace F_g_u := F_g_u.keep K116 (ninS ne_g_nx (ninS ne_g_vt nin0))
  replace A_s2 := A_s2.keep K116 (ninS ne_s2_nx (ninS ne_s2_vt nin0))
  replace A_u2 := A_u2.keep K116 (ninS ne_u2_nx (ninS ne_u2_vt nin0))
  replace F_g_w := F_g_w.keep K116 (ninS ne_g_nx (ninS ne_g_vt nin0))
  replace A_w := A_w.keep K116 (ninS ne_w_nx (ninS ne_w_vt nin0))
  replace E_p := E_p.keep K116
  replace F_p_start := F_p_start.keep K116 (ninS ne_p_nx (ninS ne_p_vt nin0))
  replace F_p_vertices := F_p_vertices.keep K116 (ninS ne_p_nx (ninS ne_p_vt nin0))
  replace A_st := A_st.keep K116 (ninS ne_st_nx (ninS ne_st_vt nin0))
  replace E_st := E_st.keep K116
  replace E_nx := E_nx.keep K116
  replace A_nx := A_n
  replace A_vt := A_n2
  replace hvs := hvs2
  replace hn0 := hn1
  replace KK := KK.trans K116 (allS (Or.inr gn) (allS (Or.inr gv) all0))
  show own_W l Z (⟨"com/example/cycles_to_winners/cyclestowinners/algo/Predecessors", "<init>", "(Lcom/example/cycles_to_winners/cyclestowinners/model/Game;)V"⟩ : MethodName) prog_1_method_1_code 6 none ({ frames := 3, cells := 3, slots := 14, locals := 44 } : Room) n0 (fun v h => v = none ∧ ∃ st : Addr, h0.size ≤ st ∧ Keep h0 h [p] ∧ Exa Z h p "com/example/cycles_to_winners/cyclestowinners/algo/Predecessors" ∧ Fld Z h p "com/example/cycles_to_winners/cyclestowinners/algo/Predecessors" "start" "[I" (.ref st) ∧ own_A Z h st .int [.int 0, .int (own_T1 xs), .int (own_T2 xs), .int (own_T3 xs)]) h115 3 14 170 #[.val (.ref p), .val (.ref g), .val (.int (3 : Int32)), .val (.ref nx), .val (.int (1 : Int32)), .val (.int jv1)] []
  refine own_iinc (pc' := 173) (w := (1 : Int32)) (Ls' := #[.val (.ref p), .val (.ref g), .val (.int (3 : Int32)), .val (.ref nx), .val (.int ((1 : Int32) + (1 : Int32))), .val (.int jv1)]) d11_170 rfl rfl rfl rfl ?_
  rw [show ((1 : Int32) + (1 : Int32)) = (2 : Int32) from (by decide)]
  refine own_goto (pc' := 122) d11_173 (by decide) (by decide) ?_
  refine own_iload (pc' := 124) d11_122 rfl rfl ?_
  refine own_iloadN (pc' := 125) d11_124 rfl rfl ?_
  refine own_ic_ge_f (pc' := 128) d11_125 (by decide) rfl ?_
  refine own_iconst (0 : Int32) (pc' := 129) d11_128 rfl rfl ?_
  refine own_istore (pc' := 131) (Ls' := #[.val (.ref p), .val (.ref g), .val (.int (3 : Int32)), .val (.ref nx), .val (.int (2 : Int32)), .val (.int (0 : Int32))]) d11_129 rfl rfl ?_
  refine own_in2_2 l Z a0 hw _ n0 p g s2 u2 nx vt c d xs hx hc hd he ne_g_nx ne_s2_nx ne_u2_nx ne_p_nx ne_g_vt ne_s2_vt ne_u2_vt ne_p_vt (Ne.symm ne_vt_nx) ge_nx ge_vt ((6 : Int32).toInt - d.toInt).toNat 0 d.toNatClampNeg h115 hn0 (by decide) (by rw [own_z0]; have q : (0 : Int32).toInt = 0 := rfl; omega) (by rw [Int32.toNatClampNeg, own_z0]; have q : (0 : Int32).toInt = 0 := rfl; omega) E_g F_g_s F_g_u A_s2 A_u2 F_p_vertices A_nx _ hvs A_vt (fun h117 jv2 vs2 hn1 K118 A_n hvs2 A_n2 => ?_)
  replace E_g := E_g.keep K118
  replace F_g_s := F_g_s.keep K118 (ninS ne_g_nx (ninS ne_g_vt nin0))
  replace F_g_u := F_g_u.keep K118 (ninS ne_g_nx (ninS ne_g_vt nin0))
  replace A_s2 := A_s2.keep K118 (ninS ne_s2_nx (ninS ne_s2_vt nin0))
  replace A_u2 := A_u2.keep K118 (ninS ne_u2_nx (ninS ne_u2_vt nin0))
  replace F_g_w := F_g_w.keep K118 (ninS ne_g_nx (ninS ne_g_vt nin0))
  replace A_w := A_w.keep K118 (ninS ne_w_nx (ninS ne_w_vt nin0))
  replace E_p := E_p.keep K118
  replace F_p_start := F_p_start.keep K118 (ninS ne_p_nx (ninS ne_p_vt nin0))
  replace F_p_vertices := F_p_vertices.keep K118 (ninS ne_p_nx (ninS ne_p_vt nin0))
  replace A_st := A_st.keep K118 (ninS ne_st_nx (ninS ne_st_vt nin0))
  replace E_st := E_st.keep K118
  replace E_nx := E_nx.keep K118
  replace A_nx := A_n
  replace A_vt := A_n2
  replace hvs := hvs2
  replace hn0 := hn1
  replace KK := KK.trans K118 (allS (Or.inr gn) (allS (Or.inr gv) all0))
  show own_W l Z (⟨"com/example/cycles_to_winners/cyclestowinners/algo/Predecessors", "<init>", "(Lcom/example/cycles_to_winners/cyclestowinners/model/Game;)V"⟩ : MethodName) prog_1_method_1_code 6 none ({ frames := 3, cells := 3, slots := 14, locals := 44 } : Room) n0 (fun v h => v = none ∧ ∃ st : Addr, h0.size ≤ st ∧ Keep h0 h [p] ∧ Exa Z h p "com/example/cycles_to_winners/cyclestowinners/algo/Predecessors" ∧ Fld Z h p "com/example/cycles_to_winners/cyclestowinners/algo/Predecessors" "start" "[I" (.ref st) ∧ own_A Z h st .int [.int 0, .int (own_T1 xs), .int (own_T2 xs), .int (own_T3 xs)]) h117 3 14 170 #[.val (.ref p), .val (.ref g), .val (.int (3 : Int32)), .val (.ref nx), .val (.int (2 : Int32)), .val (.int jv2)] []
  refine own_iinc (pc' := 173) (w := (1 : Int32)) (Ls' := #[.val (.ref p), .val (.ref g), .val (.int (3 : Int32)), .val (.ref nx), .val (.int ((2 : Int32) + (1 : Int32))), .val (.int jv2)]) d11_170 rfl rfl rfl rfl ?_
  rw [show ((2 : Int32) + (1 : Int32)) = (3 : Int32) from (by decide)]
  refine own_goto (pc' := 122) d11_173 (by decide) (by decide) ?_
  refine own_iload (pc' := 124) d11_122 rfl rfl ?_
  refine own_iloadN (pc' := 125) d11_124 rfl rfl ?_
  refine own_ic_ge_t (pc' := 176) d11_125 (by decide) (by decide) (by decide) ?_
  exact own_ret rfl d11_176 ⟨rfl, st, gs, KK, E_p, F_p_start, A_st⟩
set_option maxRecDepth 65536 in
set_option maxHeartbeats 40000000 in
theorem own_cntW (l : Launch) (Z : State) (a0 : Array Value) (hw : ∀ d ∈ tables_1, d.before a0 Z = true) (o s2 : Addr) (vs : List Value) (j p q : Int32) (h0 : Heap) (n0 : Nat) (hn0 : n0 ≤ h0.size) (hj : ¬ j < 0) (hj1 : ¬ (j + 1) < 0) (hp : vs[(j + 1).toNatClampNeg]? = some (.int p)) (hq : vs[j.toNatClampNeg]? = some (.int q)) (F_s : Fld Z h0 o "com/example/cycles_to_winners/cyclestowinners/algo/Predecessors" "start" "[I" (.ref s2)) (A_s2 : own_A Z h0 s2 .int vs) :
    own_W l Z (⟨"com/example/cycles_to_winners/cyclestowinners/algo/Predecessors", "count", "(I)I"⟩ : MethodName) prog_1_method_2_code 2 (some .int) ({ frames := 0, cells := 0, slots := 0, locals := 0 } : Room) n0 (fun v h => v = some (.int (p - q)) ∧ h0 = h) h0 0 0 0 #[.val (.ref o), .val (.int j)] [] := by
  refine own_aloadN (pc' := 1) d18_0 rfl rfl ?_
  refine own_getF (pc' := 4) (hw _ (List.mem_of_getElem? (i := 80) rfl)) F_s d18_1 rfl ?_
  refine own_iloadN (pc' := 5) d18_4 rfl rfl ?_
  refine own_iconst (1 : Int32) (pc' := 6) d18_5 rfl rfl ?_
  refine own_iadd (pc' := 7) d18_6 rfl ?_
  refine own_iaload (pc' := 8) (v := .int p) A_s2 hj1 hp d18_7 rfl ?_
  refine own_aloadN (pc' := 9) d18_8 rfl rfl ?_
  refine own_getF (pc' := 12) (hw _ (List.mem_of_getElem? (i := 80) rfl)) F_s d18_9 rfl ?_
  refine own_iloadN (pc' := 13) d18_12 rfl rfl ?_
  refine own_iaload (pc' := 14) (v := .int q) A_s2 hj hq d18_13 rfl ?_
  refine own_isub (pc' := 15) d18_14 rfl ?_
  exact own_iret rfl d18_15 ⟨rfl, rfl⟩
set_option maxRecDepth 65536 in
set_option maxHeartbeats 40000000 in
theorem own_isW (l : Launch) (Z : State) (a0 : Array Value) (hw : ∀ d ∈ tables_1, d.before a0 Z = true) (x1 v : Int32) (h0 : Heap) (n0 : Nat) (hn0 : n0 ≤ h0.size) :
    own_W l Z (⟨"com/example/cycles_to_winners/cyclestowinners/algo/PredecessorsCountPinLaw", "is", "(II)I"⟩ : MethodName) method_5_code 2 (some .int) ({ frames := 0, cells := 0, slots := 0, locals := 0 } : Room) n0 (fun r h => r = some (.int (own_is x1 v)) ∧ h0 = h) h0 0 0 0 #[.val (.int x1), .val (.int v)] [] := by
  refine own_iloadN (pc' := 1) d20_0 rfl rfl ?_
  refine own_iloadN (pc' := 2) d20_1 rfl rfl ?_
  refine own_ic_ne (pc' := 9) (pf := 5) d20_2 (by decide) (by decide) rfl (fun h_2 => ?_) (fun h_2 => ?_)
  · refine own_iconst (0 : Int32) (pc' := 10) d20_9 rfl rfl ?_
    exact own_iret rfl d20_10 ⟨by first | contradiction | (simp only [own_is, *, ↓reduceIte]; done) | (simp [own_is, *]; done) | (simp_all [own_is]; done), rfl⟩
  · refine own_iconst (1 : Int32) (pc' := 6) d20_5 rfl rfl ?_
    refine own_goto (pc' := 10) d20_6 (by decide) (by decide) ?_
    exact own_iret rfl d20_10 ⟨by first | contradiction | (simp only [own_is, *, ↓reduceIte]; done) | (simp [own_is, *]; done) | (simp_all [own_is]; done), rfl⟩
set_option maxRecDepth 65536 in
set_option maxHeartbeats 40000000 in
theorem own_occW (l : Launch) (Z : State) (a0 : Array Value) (hw : ∀ d ∈ tables_1, d.before a0 Z = true) (u : Addr) (v y0 y1 y2 y3 y4 y5 : Int32) (h0 : Heap) (n0 : Nat) (hn0 : n0 ≤ h0.size) (A_u : own_A Z h0 u .int [.int y0, .int y1, .int y2, .int y3, .int y4, .int y5]) :
    own_W l Z (⟨"com/example/cycles_to_winners/cyclestowinners/algo/PredecessorsCountPinLaw", "occ", "([II)I"⟩ : MethodName) method_4_code 2 (some .int) ({ frames := 1, cells := 0, slots := 0, locals := 14 } : Room) n0 (fun r h => r = some (.int (own_c v 6 [y0, y1, y2, y3, y4, y5])) ∧ h0 = h) h0 0 0 0 #[.val (.ref u), .val (.int v)] [] := by
  refine own_aloadN (pc' := 1) d19_0 rfl rfl ?_
  refine own_iconst (0 : Int32) (pc' := 2) d19_1 rfl rfl ?_
  refine own_iaload (pc' := 3) (v := .int y0) A_u (by decide) rfl d19_2 rfl ?_
  refine own_iloadN (pc' := 4) d19_3 rfl rfl ?_
  refine own_static (own_isW l Z a0 hw y0 v h0 n0 hn0) (hw _ (List.mem_of_getElem? (i := 116) rfl)) (hw _ (List.mem_of_getElem? (i := 117) rfl)) (hw _ (List.mem_of_getElem? (i := 7) rfl)) (hw _ (List.mem_of_getElem? (i := 118) rfl)) (plainFor_of_name own_pn0) (by decide) own_pd1 rfl (argsL := [.int y0, .int v]) (rest := []) rfl rfl (W := 0) (Nat.le_refl _) (by decide) (by decide) (by decide) (by decide) rfl d19_4 (pc' := 7) rfl (fun v_ h119 hq => ?_)
  obtain ⟨rfl, rfl⟩ := hq
  show own_W l Z (⟨"com/example/cycles_to_winners/cyclestowinners/algo/PredecessorsCountPinLaw", "occ", "([II)I"⟩ : MethodName) method_4_code 2 (some .int) ({ frames := 1, cells := 0, slots := 0, locals := 14 } : Room) n0 (fun r h => r = some (.int (own_c v 6 [y0, y1, y2, y3, y4, y5])) ∧ h0 = h) h0 0 0 7 #[.val (.ref u), .val (.int v)] [.int (own_is y0 v)]
  refine own_aloadN (pc' := 8) d19_7 rfl rfl ?_
  refine own_iconst (1 : Int32) (pc' := 9) d19_8 rfl rfl ?_
  refine own_iaload (pc' := 10) (v := .int y1) A_u (by decide) rfl d19_9 rfl ?_
  refine own_iloadN (pc' := 11) d19_10 rfl rfl ?_
  refine own_static (own_isW l Z a0 hw y1 v h0 n0 hn0) (hw _ (List.mem_of_getElem? (i := 116) rfl)) (hw _ (List.mem_of_getElem? (i := 117) rfl)) (hw _ (List.mem_of_getElem? (i := 7) rfl)) (hw _ (List.mem_of_getElem? (i := 118) rfl)) (plainFor_of_name own_pn0) (by decide) own_pd1 rfl (argsL := [.int y1, .int v]) (rest := [.int (own_is y0 v)]) rfl rfl (W := 1) (Nat.le_refl _) (by decide) (by decide) (by decide) (by decide) rfl d19_11 (pc' := 14) rfl (fun v_ h120 hq => ?_)
  obtain ⟨rfl, rfl⟩ := hq
  show own_W l Z (⟨"com/example/cycles_to_winners/cyclestowinners/algo/PredecessorsCountPinLaw", "occ", "([II)I"⟩ : MethodName) method_4_code 2 (some .int) ({ frames := 1, cells := 0, slots := 0, locals := 14 } : Room) n0 (fun r h => r = some (.int (own_c v 6 [y0, y1, y2, y3, y4, y5])) ∧ h0 = h) h0 0 0 14 #[.val (.ref u), .val (.int v)] [.int (own_is y1 v), .int (own_is y0 v)]
  refine own_iadd (pc' := 15) d19_14 rfl ?_
  refine own_aloadN (pc' := 16) d19_15 rfl rfl ?_
  refine own_iconst (2 : Int32) (pc' := 17) d19_16 rfl rfl ?_
  refine own_iaload (pc' := 18) (v := .int y2) A_u (by decide) rfl d19_17 rfl ?_
  refine own_iloadN (pc' := 19) d19_18 rfl rfl ?_
  refine own_static (own_isW l Z a0 hw y2 v h0 n0 hn0) (hw _ (List.mem_of_getElem? (i := 116) rfl)) (hw _ (List.mem_of_getElem? (i := 117) rfl)) (hw _ (List.mem_of_getElem? (i := 7) rfl)) (hw _ (List.mem_of_getElem? (i := 118) rfl)) (plainFor_of_name own_pn0) (by decide) own_pd1 rfl (argsL := [.int y2, .int v]) (rest := [.int ((own_is y0 v) + (own_is y1 v))]) rfl rfl (W := 1) (Nat.le_refl _) (by decide) (by decide) (by decide) (by decide) rfl d19_19 (pc' := 22) rfl (fun v_ h121 hq => ?_)
  obtain ⟨rfl, rfl⟩ := hq
  show own_W l Z (⟨"com/example/cycles_to_winners/cyclestowinners/algo/PredecessorsCountPinLaw", "occ", "([II)I"⟩ : MethodName) method_4_code 2 (some .int) ({ frames := 1, cells := 0, slots := 0, locals := 14 } : Room) n0 (fun r h => r = some (.int (own_c v 6 [y0, y1, y2, y3, y4, y5])) ∧ h0 = h) h0 0 0 22 #[.val (.ref u), .val (.int v)] [.int (own_is y2 v), .int ((own_is y0 v) + (own_is y1 v))]
  refine own_iadd (pc' := 23) d19_22 rfl ?_
  refine own_aloadN (pc' := 24) d19_23 rfl rfl ?_
  refine own_iconst (3 : Int32) (pc' := 25) d19_24 rfl rfl ?_
  refine own_iaload (pc' := 26) (v := .int y3) A_u (by decide) rfl d19_25 rfl ?_
  refine own_iloadN (pc' := 27) d19_26 rfl rfl ?_
  refine own_static (own_isW l Z a0 hw y3 v h0 n0 hn0) (hw _ (List.mem_of_getElem? (i := 116) rfl)) (hw _ (List.mem_of_getElem? (i := 117) rfl)) (hw _ (List.mem_of_getElem? (i := 7) rfl)) (hw _ (List.mem_of_getElem? (i := 118) rfl)) (plainFor_of_name own_pn0) (by decide) own_pd1 rfl (argsL := [.int y3, .int v]) (rest := [.int (((own_is y0 v) + (own_is y1 v)) + (own_is y2 v))]) rfl rfl (W := 1) (Nat.le_refl _) (by decide) (by decide) (by decide) (by decide) rfl d19_27 (pc' := 30) rfl (fun v_ h122 hq => ?_)
  obtain ⟨rfl, rfl⟩ := hq
  show own_W l Z (⟨"com/example/cycles_to_winners/cyclestowinners/algo/PredecessorsCountPinLaw", "occ", "([II)I"⟩ : MethodName) method_4_code 2 (some .int) ({ frames := 1, cells := 0, slots := 0, locals := 14 } : Room) n0 (fun r h => r = some (.int (own_c v 6 [y0, y1, y2, y3, y4, y5])) ∧ h0 = h) h0 0 0 30 #[.val (.ref u), .val (.int v)] [.int (own_is y3 v), .int (((own_is y0 v) + (own_is y1 v)) + (own_is y2 v))]
  refine own_iadd (pc' := 31) d19_30 rfl ?_
  refine own_aloadN (pc' := 32) d19_31 rfl rfl ?_
  refine own_iconst (4 : Int32) (pc' := 33) d19_32 rfl rfl ?_
  refine own_iaload (pc' := 34) (v := .int y4) A_u (by decide) rfl d19_33 rfl ?_
  refine own_iloadN (pc' := 35) d19_34 rfl rfl ?_
  refine own_static (own_isW l Z a0 hw y4 v h0 n0 hn0) (hw _ (List.mem_of_getElem? (i := 116) rfl)) (hw _ (List.mem_of_getElem? (i := 117) rfl)) (hw _ (List.mem_of_getElem? (i := 7) rfl)) (hw _ (List.mem_of_getElem? (i := 118) rfl)) (plainFor_of_name own_pn0) (by decide) own_pd1 rfl (argsL := [.int y4, .int v]) (rest := [.int ((((own_is y0 v) + (own_is y1 v)) + (own_is y2 v)) + (own_is y3 v))]) rfl rfl (W := 1) (Nat.le_refl _) (by decide) (by decide) (by decide) (by decide) rfl d19_35 (pc' := 38) rfl (fun v_ h123 hq => ?_)
  obtain ⟨rfl, rfl⟩ := hq
  show own_W l Z (⟨"com/example/cycles_to_winners/cyclestowinners/algo/PredecessorsCountPinLaw", "occ", "([II)I"⟩ : MethodName) method_4_code 2 (some .int) ({ frames := 1, cells := 0, slots := 0, locals := 14 } : Room) n0 (fun r h => r = some (.int (own_c v 6 [y0, y1, y2, y3, y4, y5])) ∧ h0 = h) h0 0 0 38 #[.val (.ref u), .val (.int v)] [.int (own_is y4 v), .int ((((own_is y0 v) + (own_is y1 v)) + (own_is y2 v)) + (own_is y3 v))]
  refine own_iadd (pc' := 39) d19_38 rfl ?_
  refine own_aloadN (pc' := 40) d19_39 rfl rfl ?_
  refine own_iconst (5 : Int32) (pc' := 41) d19_40 rfl rfl ?_
  refine own_iaload (pc' := 42) (v := .int y5) A_u (by decide) rfl d19_41 rfl ?_
  refine own_iloadN (pc' := 43) d19_42 rfl rfl ?_
  refine own_static (own_isW l Z a0 hw y5 v h0 n0 hn0) (hw _ (List.mem_of_getElem? (i := 116) rfl)) (hw _ (List.mem_of_getElem? (i := 117) rfl)) (hw _ (List.mem_of_getElem? (i := 7) rfl)) (hw _ (List.mem_of_getElem? (i := 118) rfl)) (plainFor_of_name own_pn0) (by decide) own_pd1 rfl (argsL := [.int y5, .int v]) (rest := [.int (((((own_is y0 v) + (own_is y1 v)) + (own_is y2 v)) + (own_is y3 v)) + (own_is y4 v))]) rfl rfl (W := 1) (Nat.le_refl _) (by decide) (by decide) (by decide) (by decide) rfl d19_43 (pc' := 46) rfl (fun v_ h124 hq => ?_)
  obtain ⟨rfl, rfl⟩ := hq
  show own_W l Z (⟨"com/example/cycles_to_winners/cyclestowinners/algo/PredecessorsCountPinLaw", "occ", "([II)I"⟩ : MethodName) method_4_code 2 (some .int) ({ frames := 1, cells := 0, slots := 0, locals := 14 } : Room) n0 (fun r h => r = some (.int (own_c v 6 [y0, y1, y2, y3, y4, y5])) ∧ h0 = h) h0 0 0 46 #[.val (.ref u), .val (.int v)] [.int (own_is y5 v), .int (((((own_is y0 v) + (own_is y1 v)) + (own_is y2 v)) + (own_is y3 v)) + (own_is y4 v))]
  refine own_iadd (pc' := 47) d19_46 rfl ?_
  exact own_iret rfl d19_47 ⟨by rw [← own_occ6], rfl⟩
set_option maxRecDepth 65536 in
set_option maxHeartbeats 40000000 in
theorem own_eW (l : Launch) (Z : State) (a0 : Array Value) (hw : ∀ d ∈ tables_1, d.before a0 Z = true) (u : Int64) (k : Int32) (h0 : Heap) (n0 : Nat) (hn0 : n0 ≤ h0.size) :
    own_W l Z (⟨"com/example/cycles_to_winners/cyclestowinners/algo/PredecessorsCountPinLaw", "e", "(JI)I"⟩ : MethodName) method_3_code 3 (some .int) ({ frames := 0, cells := 0, slots := 0, locals := 0 } : Room) n0 (fun r h => ∃ x : Int32, r = some (.int x) ∧ (¬ x < 0 ∧ x < 3) ∧ h0 = h) h0 0 0 0 #[.val (.long u), .second, .val (.int k)] [] := by
  refine own_lloadN (pc' := 1) d2_0 rfl rfl ?_
  refine own_iconst (4 : Int32) (pc' := 2) d2_1 rfl rfl ?_
  refine own_iloadN (pc' := 3) d2_2 rfl rfl ?_
  refine own_imul (pc' := 4) d2_3 rfl ?_
  refine own_lushr (pc' := 5) d2_4 rfl ?_
  refine own_ldc2 (pc' := 8) (u := (15 : Int64)) (hw _ (List.mem_of_getElem? (i := 9) rfl)) d2_5 rfl ?_
  refine own_land (pc' := 9) d2_8 rfl ?_
  refine own_l2i (pc' := 10) d2_9 rfl ?_
  refine own_iconst (3 : Int32) (pc' := 11) d2_10 rfl rfl ?_
  refine own_irem (pc' := 12) d2_11 rfl (by decide) ?_
  have key : ∀ w : Int64, ¬ ((w &&& 15).toInt32 % 3) < 0 ∧ ((w &&& 15).toInt32 % 3) < 3 := by
    intro w
    have a := c_maskL w 15 4 (by decide) (by decide)
    have b := c_l2i (w &&& 15)
    have c := rng32 (w &&& 15).toInt32
    have d := (c_irem (w &&& 15).toInt32 3 3 rfl).1 (by omega)
    have z3 : (3 : Int32).toInt = 3 := rfl
    rw [Int32.lt_iff_toInt_lt, Int32.lt_iff_toInt_lt, own_z0, z3]; omega
  exact own_iret rfl d2_12 ⟨_, rfl, key _, rfl⟩
set_option maxRecDepth 65536 in
set_option maxHeartbeats 40000000 in
theorem own_minW (l : Launch) (Z : State) (a0 : Array Value) (hw : ∀ d ∈ tables_1, d.before a0 Z = true) (f g : Int32) (h0 : Heap) (n0 : Nat) (hn0 : n0 ≤ h0.size) :
    own_W l Z (⟨"java/lang/Math", "min", "(II)I"⟩ : MethodName) jdk_29_method_69_code 2 (some .int) ({ frames := 0, cells := 0, slots := 0, locals := 0 } : Room) n0 (fun v h => v = some (.int (own_min f g)) ∧ h0 = h) h0 0 0 0 #[.val (.int f), .val (.int g)] [] := by
  refine own_iloadN (pc' := 1) d1_0 rfl rfl ?_
  refine own_iloadN (pc' := 2) d1_1 rfl rfl ?_
  refine own_ic_gt (pc' := 9) (pf := 5) d1_2 (by decide) (by decide) rfl (fun h_2 => ?_) (fun h_2 => ?_)
  · refine own_iloadN (pc' := 10) d1_9 rfl rfl ?_
    exact own_iret rfl d1_10 ⟨by first | contradiction | (simp only [own_min, *, ↓reduceIte]; done) | (simp [own_min, *]; done) | (simp_all [own_min]; done), rfl⟩
  · refine own_iloadN (pc' := 6) d1_5 rfl rfl ?_
    refine own_goto (pc' := 10) d1_6 (by decide) (by decide) ?_
    exact own_iret rfl d1_10 ⟨by first | contradiction | (simp only [own_min, *, ↓reduceIte]; done) | (simp [own_min, *]; done) | (simp_all [own_min]; done), rfl⟩
set_option maxRecDepth 65536 in
set_option maxHeartbeats 40000000 in
theorem own_law (l : Launch) (Z : State) (a0 : Array Value) (hw : ∀ d ∈ tables_1, d.before a0 Z = true) (x0 : Int32) (x1 : Int64) (h0 : Heap) (n0 : Nat) (hn0 : n0 ≤ h0.size) :
    own_W l Z x code maxLocals ret room_1 n0 (fun v h => v = some (.int 1)) h0 0 0 0 #[.val (.int x0), .val (.long x1), .second, .unset, .unset, .unset, .unset, .unset, .unset, .unset, .unset] [] := by
  have z1 : (1 : Int32).toInt = 1 := rfl
  have z3 : (3 : Int32).toInt = 3 := rfl
  have z5 : (5 : Int32).toInt = 5 := rfl
  have g1 := c_and x0 3 (by decide)
  have g2 := c_iadd 1 (x0 &&& 3)
  have g3 := rng32 (1 + (x0 &&& 3))
  rw [z3] at g1
  refine own_iconst (1 : Int32) (pc' := 1) at_0 rfl rfl ?_
  refine own_iloadN (pc' := 2) at_1 rfl rfl ?_
  refine own_iconst (3 : Int32) (pc' := 3) at_2 rfl rfl ?_
  refine own_iand (pc' := 4) at_3 rfl ?_
  refine own_iadd (pc' := 5) at_4 rfl ?_
  generalize hc_ : ((1 : Int32) + (x0 &&& (3 : Int32))) = c
  rw [hc_] at g2 g3
  have i1 := c_and (XT.ushr x0 2) 3 (by decide)
  rw [z3] at i1
  have i2 := c_iadd c 1
  have i3 := rng32 (c + 1)
  have i4 := c_iadd (c + 1) (XT.ushr x0 2 &&& 3)
  have i5 := rng32 (c + 1 + (XT.ushr x0 2 &&& 3))
  refine own_istoreN (pc' := 6) (Ls' := #[.val (.int x0), .val (.long x1), .second, .val (.int c), .unset, .unset, .unset, .unset, .unset, .unset, .unset]) at_5 rfl rfl ?_
  refine own_iconst (5 : Int32) (pc' := 7) at_6 rfl rfl ?_
  refine own_iloadN (pc' := 8) at_7 rfl rfl ?_
  refine own_iconst (1 : Int32) (pc' := 9) at_8 rfl rfl ?_
  refine own_iadd (pc' := 10) at_9 rfl ?_
  refine own_iloadN (pc' := 11) at_10 rfl rfl ?_
  refine own_iconst (2 : Int32) (pc' := 12) at_11 rfl rfl ?_
  refine own_iushr (pc' := 13) at_12 rfl ?_
  refine own_iconst (3 : Int32) (pc' := 14) at_13 rfl rfl ?_
  refine own_iand (pc' := 15) at_14 rfl ?_
  refine own_iadd (pc' := 16) at_15 rfl ?_
  refine own_static (own_minW l Z a0 hw 5 ((c + (1 : Int32)) + ((XT.ushr x0 (2 : Int32)) &&& (3 : Int32))) h0 n0 hn0) (hw _ (List.mem_of_getElem? (i := 0) rfl)) (hw _ (List.mem_of_getElem? (i := 1) rfl)) (hw _ (List.mem_of_getElem? (i := 2) rfl)) (hw _ (List.mem_of_getElem? (i := 3) rfl)) (Jvm.Free.JP.mathPlain rfl (by decide)) (by decide) own_pd1 rfl (argsL := [.int (5 : Int32), .int ((c + (1 : Int32)) + ((XT.ushr x0 (2 : Int32)) &&& (3 : Int32)))]) (rest := []) rfl rfl (W := 0) (Nat.le_refl _) (by decide) (by decide) (by decide) (by decide) rfl at_16 (pc' := 19) rfl (fun v_ h125 hq => ?_)
  obtain ⟨rfl, rfl⟩ := hq
  show own_W l Z x code maxLocals ret room_1 n0 (fun v h => v = some (.int 1)) h0 0 0 19 #[.val (.int x0), .val (.long x1), .second, .val (.int c), .unset, .unset, .unset, .unset, .unset, .unset, .unset] [.int (own_min (5 : Int32) ((c + (1 : Int32)) + ((XT.ushr x0 (2 : Int32)) &&& (3 : Int32))))]
  have i6 : (own_min (5 : Int32) ((c + (1 : Int32)) + ((XT.ushr x0 (2 : Int32)) &&& (3 : Int32)))).toInt = if ((c + (1 : Int32)) + ((XT.ushr x0 (2 : Int32)) &&& (3 : Int32))).toInt < 5 then ((c + (1 : Int32)) + ((XT.ushr x0 (2 : Int32)) &&& (3 : Int32))).toInt else 5 := by unfold own_min; simp only [Int32.lt_iff_toInt_lt, z5]; split <;> first | rfl | exact z5
  generalize hd_ : (own_min (5 : Int32) ((c + (1 : Int32)) + ((XT.ushr x0 (2 : Int32)) &&& (3 : Int32)))) = d
  rw [hd_] at i6
  have hb : 0 < c.toInt ∧ c.toInt < d.toInt ∧ d.toInt < 6 := by rw [i6]; split <;> omega
  refine own_istore (pc' := 21) (Ls' := #[.val (.int x0), .val (.long x1), .second, .val (.int c), .val (.int d), .unset, .unset, .unset, .unset, .unset, .unset]) at_19 rfl rfl ?_
  refine own_bipush (6 : Int32) (pc' := 23) at_21 rfl rfl ?_
  refine own_newarrE (pc' := 25) (ty := .int) (cap := 6) (hw _ (List.mem_of_getElem? (i := 4) rfl)) rfl at_23 rfl (by decide) (by decide) (by decide) (by decide) (by decide) (fun h126 u gt_u lt_u E127 A_u E_u => ?_)
  replace E_u : Exa Z h126 u "[I" := (show ("[" ++ FieldType.toString .int) = "[I" from by decide) ▸ E_u
  have ge_u : n0 ≤ u := Nat.le_trans hn0 gt_u
  replace hn0 : n0 ≤ h126.size := Nat.le_trans hn0 E127.1
  replace A_u : own_A Z h126 u .int [.int (0 : Int32), .int (0 : Int32), .int (0 : Int32), .int (0 : Int32), .int (0 : Int32), .int (0 : Int32)] := A_u.cast rfl
  refine own_dup (pc' := 26) at_25 rfl rfl ?_
  refine own_iconst (0 : Int32) (pc' := 27) at_26 rfl rfl ?_
  refine own_lloadN (pc' := 28) at_27 rfl rfl ?_
  refine own_iconst (0 : Int32) (pc' := 29) at_28 rfl rfl ?_
  refine own_static (own_eW l Z a0 hw x1 (0 : Int32) h126 n0 hn0) (hw _ (List.mem_of_getElem? (i := 5) rfl)) (hw _ (List.mem_of_getElem? (i := 6) rfl)) (hw _ (List.mem_of_getElem? (i := 7) rfl)) (hw _ (List.mem_of_getElem? (i := 8) rfl)) (plainFor_of_name own_pn0) (by decide) own_pd2 rfl (argsL := [.long x1, .int (0 : Int32)]) (rest := [.int (0 : Int32), .ref u, .ref u]) rfl rfl (W := 3) (Nat.le_refl _) (by decide) (by decide) (by decide) (by decide) rfl at_29 (pc' := 32) rfl (fun v_ h128 hq => ?_)
  obtain ⟨y0, rfl, hy0, rfl⟩ := hq
  show own_W l Z x code maxLocals ret room_1 n0 (fun v h => v = some (.int 1)) h126 1 6 32 #[.val (.int x0), .val (.long x1), .second, .val (.int c), .val (.int d), .unset, .unset, .unset, .unset, .unset, .unset] [.int y0, .int (0 : Int32), .ref u, .ref u]
  refine own_iastore (pc' := 33) A_u (by decide) (by first | decide | (simp only [List.length_cons, List.length_nil, List.length_set, List.length_replicate]; decide)) ge_u at_32 rfl (fun h129 K130 A_new => ?_)
  replace E_u := E_u.keep K130
  replace hn0 : n0 ≤ h129.size := Nat.le_trans hn0 K130.1
  replace A_u : own_A Z h129 u .int [.int y0, .int (0 : Int32), .int (0 : Int32), .int (0 : Int32), .int (0 : Int32), .int (0 : Int32)] := A_new.cast rfl
  refine own_dup (pc' := 34) at_33 rfl rfl ?_
  refine own_iconst (1 : Int32) (pc' := 35) at_34 rfl rfl ?_
  refine own_lloadN (pc' := 36) at_35 rfl rfl ?_
  refine own_iconst (1 : Int32) (pc' := 37) at_36 rfl rfl ?_
  refine own_static (own_eW l Z a0 hw x1 (1 : Int32) h129 n0 hn0) (hw _ (List.mem_of_getElem? (i := 5) rfl)) (hw _ (List.mem_of_getElem? (i := 6) rfl)) (hw _ (List.mem_of_getElem? (i := 7) rfl)) (hw _ (List.mem_of_getElem? (i := 8) rfl)) (plainFor_of_name own_pn0) (by decide) own_pd2 rfl (argsL := [.long x1, .int (1 : Int32)]) (rest := [.int (1 : Int32), .ref u, .ref u]) rfl rfl (W := 3) (Nat.le_refl _) (by decide) (by decide) (by decide) (by decide) rfl at_37 (pc' := 40) rfl (fun v_ h131 hq => ?_)
  obtain ⟨y1, rfl, hy1, rfl⟩ := hq
  show own_W l Z x code maxLocals ret room_1 n0 (fun v h => v = some (.int 1)) h129 1 6 40 #[.val (.int x0), .val (.long x1), .second, .val (.int c), .val (.int d), .unset, .unset, .unset, .unset, .unset, .unset] [.int y1, .int (1 : Int32), .ref u, .ref u]
  refine own_iastore (pc' := 41) A_u (by decide) (by first | decide | (simp only [List.length_cons, List.length_nil, List.length_set, List.length_replicate]; decide)) ge_u at_40 rfl (fun h132 K133 A_new => ?_)
  replace E_u := E_u.keep K133
  replace hn0 : n0 ≤ h132.size := Nat.le_trans hn0 K133.1
  replace A_u : own_A Z h132 u .int [.int y0, .int y1, .int (0 : Int32), .int (0 : Int32), .int (0 : Int32), .int (0 : Int32)] := A_new.cast rfl
  refine own_dup (pc' := 42) at_41 rfl rfl ?_
  refine own_iconst (2 : Int32) (pc' := 43) at_42 rfl rfl ?_
  refine own_lloadN (pc' := 44) at_43 rfl rfl ?_
  refine own_iconst (2 : Int32) (pc' := 45) at_44 rfl rfl ?_
  refine own_static (own_eW l Z a0 hw x1 (2 : Int32) h132 n0 hn0) (hw _ (List.mem_of_getElem? (i := 5) rfl)) (hw _ (List.mem_of_getElem? (i := 6) rfl)) (hw _ (List.mem_of_getElem? (i := 7) rfl)) (hw _ (List.mem_of_getElem? (i := 8) rfl)) (plainFor_of_name own_pn0) (by decide) own_pd2 rfl (argsL := [.long x1, .int (2 : Int32)]) (rest := [.int (2 : Int32), .ref u, .ref u]) rfl rfl (W := 3) (Nat.le_refl _) (by decide) (by decide) (by decide) (by decide) rfl at_45 (pc' := 48) rfl (fun v_ h134 hq => ?_)
  obtain ⟨y2, rfl, hy2, rfl⟩ := hq
  show own_W l Z x code maxLocals ret room_1 n0 (fun v h => v = some (.int 1)) h132 1 6 48 #[.val (.int x0), .val (.long x1), .second, .val (.int c), .val (.int d), .unset, .unset, .unset, .unset, .unset, .unset] [.int y2, .int (2 : Int32), .ref u, .ref u]
  refine own_iastore (pc' := 49) A_u (by decide) (by first | decide | (simp only [List.length_cons, List.length_nil, List.length_set, List.length_replicate]; decide)) ge_u at_48 rfl (fun h135 K136 A_new => ?_)
  replace E_u := E_u.keep K136
  replace hn0 : n0 ≤ h135.size := Nat.le_trans hn0 K136.1
  replace A_u : own_A Z h135 u .int [.int y0, .int y1, .int y2, .int (0 : Int32), .int (0 : Int32), .int (0 : Int32)] := A_new.cast rfl
  refine own_dup (pc' := 50) at_49 rfl rfl ?_
  refine own_iconst (3 : Int32) (pc' := 51) at_50 rfl rfl ?_
  refine own_lloadN (pc' := 52) at_51 rfl rfl ?_
  refine own_iconst (3 : Int32) (pc' := 53) at_52 rfl rfl ?_
  refine own_static (own_eW l Z a0 hw x1 (3 : Int32) h135 n0 hn0) (hw _ (List.mem_of_getElem? (i := 5) rfl)) (hw _ (List.mem_of_getElem? (i := 6) rfl)) (hw _ (List.mem_of_getElem? (i := 7) rfl)) (hw _ (List.mem_of_getElem? (i := 8) rfl)) (plainFor_of_name own_pn0) (by decide) own_pd2 rfl (argsL := [.long x1, .int (3 : Int32)]) (rest := [.int (3 : Int32), .ref u, .ref u]) rfl rfl (W := 3) (Nat.le_refl _) (by decide) (by decide) (by decide) (by decide) rfl at_53 (pc' := 56) rfl (fun v_ h137 hq => ?_)
  obtain ⟨y3, rfl, hy3, rfl⟩ := hq
  show own_W l Z x code maxLocals ret room_1 n0 (fun v h => v = some (.int 1)) h135 1 6 56 #[.val (.int x0), .val (.long x1), .second, .val (.int c), .val (.int d), .unset, .unset, .unset, .unset, .unset, .unset] [.int y3, .int (3 : Int32), .ref u, .ref u]
  refine own_iastore (pc' := 57) A_u (by decide) (by first | decide | (simp only [List.length_cons, List.length_nil, List.length_set, List.length_replicate]; decide)) ge_u at_56 rfl (fun h138 K139 A_new => ?_)
  replace E_u := E_u.keep K139
  replace hn0 : n0 ≤ h138.size := Nat.le_trans hn0 K139.1
  replace A_u : own_A Z h138 u .int [.int y0, .int y1, .int y2, .int y3, .int (0 : Int32), .int (0 : Int32)] := A_new.cast rfl
  refine own_dup (pc' := 58) at_57 rfl rfl ?_
  refine own_iconst (4 : Int32) (pc' := 59) at_58 rfl rfl ?_
  refine own_lloadN (pc' := 60) at_59 rfl rfl ?_
  refine own_iconst (4 : Int32) (pc' := 61) at_60 rfl rfl ?_
  refine own_static (own_eW l Z a0 hw x1 (4 : Int32) h138 n0 hn0) (hw _ (List.mem_of_getElem? (i := 5) rfl)) (hw _ (List.mem_of_getElem? (i := 6) rfl)) (hw _ (List.mem_of_getElem? (i := 7) rfl)) (hw _ (List.mem_of_getElem? (i := 8) rfl)) (plainFor_of_name own_pn0) (by decide) own_pd2 rfl (argsL := [.long x1, .int (4 : Int32)]) (rest := [.int (4 : Int32), .ref u, .ref u]) rfl rfl (W := 3) (Nat.le_refl _) (by decide) (by decide) (by decide) (by decide) rfl at_61 (pc' := 64) rfl (fun v_ h140 hq => ?_)
  obtain ⟨y4, rfl, hy4, rfl⟩ := hq
  show own_W l Z x code maxLocals ret room_1 n0 (fun v h => v = some (.int 1)) h138 1 6 64 #[.val (.int x0), .val (.long x1), .second, .val (.int c), .val (.int d), .unset, .unset, .unset, .unset, .unset, .unset] [.int y4, .int (4 : Int32), .ref u, .ref u]
  refine own_iastore (pc' := 65) A_u (by decide) (by first | decide | (simp only [List.length_cons, List.length_nil, List.length_set, List.length_replicate]; decide)) ge_u at_64 rfl (fun h141 K142 A_new => ?_)
  replace E_u := E_u.keep K142
  replace hn0 : n0 ≤ h141.size := Nat.le_trans hn0 K142.1
  replace A_u : own_A Z h141 u .int [.int y0, .int y1, .int y2, .int y3, .int y4, .int (0 : Int32)] := A_new.cast rfl
  refine own_dup (pc' := 66) at_65 rfl rfl ?_
  refine own_iconst (5 : Int32) (pc' := 67) at_66 rfl rfl ?_
  refine own_lloadN (pc' := 68) at_67 rfl rfl ?_
  refine own_iconst (5 : Int32) (pc' := 69) at_68 rfl rfl ?_
  refine own_static (own_eW l Z a0 hw x1 (5 : Int32) h141 n0 hn0) (hw _ (List.mem_of_getElem? (i := 5) rfl)) (hw _ (List.mem_of_getElem? (i := 6) rfl)) (hw _ (List.mem_of_getElem? (i := 7) rfl)) (hw _ (List.mem_of_getElem? (i := 8) rfl)) (plainFor_of_name own_pn0) (by decide) own_pd2 rfl (argsL := [.long x1, .int (5 : Int32)]) (rest := [.int (5 : Int32), .ref u, .ref u]) rfl rfl (W := 3) (Nat.le_refl _) (by decide) (by decide) (by decide) (by decide) rfl at_69 (pc' := 72) rfl (fun v_ h143 hq => ?_)
  obtain ⟨y5, rfl, hy5, rfl⟩ := hq
  show own_W l Z x code maxLocals ret room_1 n0 (fun v h => v = some (.int 1)) h141 1 6 72 #[.val (.int x0), .val (.long x1), .second, .val (.int c), .val (.int d), .unset, .unset, .unset, .unset, .unset, .unset] [.int y5, .int (5 : Int32), .ref u, .ref u]
  refine own_iastore (pc' := 73) A_u (by decide) (by first | decide | (simp only [List.length_cons, List.length_nil, List.length_set, List.length_replicate]; decide)) ge_u at_72 rfl (fun h144 K145 A_new => ?_)
  replace E_u := E_u.keep K145
  replace hn0 : n0 ≤ h144.size := Nat.le_trans hn0 K145.1
  replace A_u : own_A Z h144 u .int [.int y0, .int y1, .int y2, .int y3, .int y4, .int y5] := A_new.cast rfl
  refine own_astore (pc' := 75) (Ls' := #[.val (.int x0), .val (.long x1), .second, .val (.int c), .val (.int d), .val (.ref u), .unset, .unset, .unset, .unset, .unset]) at_73 rfl rfl ?_
  refine own_iconst (3 : Int32) (pc' := 76) at_75 rfl rfl ?_
  refine own_newarrE (pc' := 78) (ty := .int) (cap := 3) (hw _ (List.mem_of_getElem? (i := 4) rfl)) rfl at_76 rfl (by decide) (by decide) (by decide) (by decide) (by decide) (fun h146 p gt_p lt_p E147 A_p E_p => ?_)
  replace E_p : Exa Z h146 p "[I" := (show ("[" ++ FieldType.toString .int) = "[I" from by decide) ▸ E_p
  have ge_p : n0 ≤ p := Nat.le_trans hn0 gt_p
  have ne_u_p : u ≠ p := Nat.ne_of_lt (by first | exact Nat.lt_of_lt_of_le A_u.lt gt_p | (have q := Nat.lt_of_lt_of_le A_u.lt (Nat.le_refl _); omega))
  replace A_u := A_u.ext E147
  replace E_u := E_u.ext E147
  replace hn0 : n0 ≤ h146.size := Nat.le_trans hn0 E147.1
  replace A_p : own_A Z h146 p .int [.int (0 : Int32), .int (0 : Int32), .int (0 : Int32)] := A_p.cast rfl
  refine own_dup (pc' := 79) at_78 rfl rfl ?_
  refine own_iconst (0 : Int32) (pc' := 80) at_79 rfl rfl ?_
  refine own_iconst (0 : Int32) (pc' := 81) at_80 rfl rfl ?_
  refine own_iastore (pc' := 82) A_p (by decide) (by first | decide | (simp only [List.length_cons, List.length_nil, List.length_set, List.length_replicate]; decide)) ge_p at_81 rfl (fun h148 K149 A_new => ?_)
  replace A_u := A_u.keep K149 (ninS ne_u_p nin0)
  replace E_u := E_u.keep K149
  replace E_p := E_p.keep K149
  replace hn0 : n0 ≤ h148.size := Nat.le_trans hn0 K149.1
  replace A_p : own_A Z h148 p .int [.int (0 : Int32), .int (0 : Int32), .int (0 : Int32)] := A_new.cast rfl
  refine own_dup (pc' := 83) at_82 rfl rfl ?_
  refine own_iconst (1 : Int32) (pc' := 84) at_83 rfl rfl ?_
  refine own_iconst (1 : Int32) (pc' := 85) at_84 rfl rfl ?_
  refine own_iastore (pc' := 86) A_p (by decide) (by first | decide | (simp only [List.length_cons, List.length_nil, List.length_set, List.length_replicate]; decide)) ge_p at_85 rfl (fun h150 K151 A_new => ?_)
  replace A_u := A_u.keep K151 (ninS ne_u_p nin0)
  replace E_u := E_u.keep K151
  replace E_p := E_p.keep K151
  replace hn0 : n0 ≤ h150.size := Nat.le_trans hn0 K151.1
  replace A_p : own_A Z h150 p .int [.int (0 : Int32), .int (1 : Int32), .int (0 : Int32)] := A_new.cast rfl
  refine own_dup (pc' := 87) at_86 rfl rfl ?_
  refine own_iconst (2 : Int32) (pc' := 88) at_87 rfl rfl ?_
  refine own_iconst (0 : Int32) (pc' := 89) at_88 rfl rfl ?_
  refine own_iastore (pc' := 90) A_p (by decide) (by first | decide | (simp only [List.length_cons, List.length_nil, List.length_set, List.length_replicate]; decide)) ge_p at_89 rfl (fun h152 K153 A_new => ?_)
  replace A_u := A_u.keep K153 (ninS ne_u_p nin0)
  replace E_u := E_u.keep K153
  replace E_p := E_p.keep K153
  replace hn0 : n0 ≤ h152.size := Nat.le_trans hn0 K153.1
  replace A_p : own_A Z h152 p .int [.int (0 : Int32), .int (1 : Int32), .int (0 : Int32)] := A_new.cast rfl
  refine own_astore (pc' := 92) (Ls' := #[.val (.int x0), .val (.long x1), .second, .val (.int c), .val (.int d), .val (.ref u), .val (.ref p), .unset, .unset, .unset, .unset]) at_90 rfl rfl ?_
  refine own_iconst (3 : Int32) (pc' := 93) at_92 rfl rfl ?_
  refine own_newarrE (pc' := 95) (ty := .int) (cap := 3) (hw _ (List.mem_of_getElem? (i := 4) rfl)) rfl at_93 rfl (by decide) (by decide) (by decide) (by decide) (by decide) (fun h154 q gt_q lt_q E155 A_q E_q => ?_)
  replace E_q : Exa Z h154 q "[I" := (show ("[" ++ FieldType.toString .int) = "[I" from by decide) ▸ E_q
  have ge_q : n0 ≤ q := Nat.le_trans hn0 gt_q
  have ne_p_q : p ≠ q := Nat.ne_of_lt (by first | exact Nat.lt_of_lt_of_le A_p.lt gt_q | (have q := Nat.lt_of_lt_of_le A_p.lt (Nat.le_refl _); omega))
  have ne_u_q : u ≠ q := Nat.ne_of_lt (by first | exact Nat.lt_of_lt_of_le A_u.lt gt_q | (have q := Nat.lt_of_lt_of_le A_u.lt (Nat.le_refl _); omega))
  replace A_u := A_u.ext E155
  replace E_u := E_u.ext E155
  replace A_p := A_p.ext E155
  replace E_p := E_p.ext E155
  replace hn0 : n0 ≤ h154.size := Nat.le_trans hn0 E155.1
  replace A_q : own_A Z h154 q .int [.int (0 : Int32), .int (0 : Int32), .int (0 : Int32)] := A_q.cast rfl
  refine own_dup (pc' := 96) at_95 rfl rfl ?_
  refine own_iconst (0 : Int32) (pc' := 97) at_96 rfl rfl ?_
  refine own_iconst (0 : Int32) (pc' := 98) at_97 rfl rfl ?_
  refine own_iastore (pc' := 99) A_q (by decide) (by first | decide | (simp only [List.length_cons, List.length_nil, List.length_set, List.length_replicate]; decide)) ge_q at_98 rfl (fun h156 K157 A_new => ?_)
  replace A_u := A_u.keep K157 (ninS ne_u_q nin0)
  replace E_u := E_u.keep K157
  replace A_p := A_p.keep K157 (ninS ne_p_q nin0)
  replace E_p := E_p.keep K157
  replace E_q := E_q.keep K157
  replace hn0 : n0 ≤ h156.size := Nat.le_trans hn0 K157.1
  replace A_q : own_A Z h156 q .int [.int (0 : Int32), .int (0 : Int32), .int (0 : Int32)] := A_new.cast rfl
  refine own_dup (pc' := 100) at_99 rfl rfl ?_
  refine own_iconst (1 : Int32) (pc' := 101) at_100 rfl rfl ?_
  refine own_iconst (1 : Int32) (pc' := 102) at_101 rfl rfl ?_
  refine own_iastore (pc' := 103) A_q (by decide) (by first | decide | (simp only [List.length_cons, List.length_nil, List.length_set, List.length_replicate]; decide)) ge_q at_102 rfl (fun h158 K159 A_new => ?_)
  replace A_u := A_u.keep K159 (ninS ne_u_q nin0)
  replace E_u := E_u.keep K159
  replace A_p := A_p.keep K159 (ninS ne_p_q nin0)
  replace E_p := E_p.keep K159
  replace E_q := E_q.keep K159
  replace hn0 : n0 ≤ h158.size := Nat.le_trans hn0 K159.1
  replace A_q : own_A Z h158 q .int [.int (0 : Int32), .int (1 : Int32), .int (0 : Int32)] := A_new.cast rfl
  refine own_dup (pc' := 104) at_103 rfl rfl ?_
  refine own_iconst (2 : Int32) (pc' := 105) at_104 rfl rfl ?_
  refine own_iconst (2 : Int32) (pc' := 106) at_105 rfl rfl ?_
  refine own_iastore (pc' := 107) A_q (by decide) (by first | decide | (simp only [List.length_cons, List.length_nil, List.length_set, List.length_replicate]; decide)) ge_q at_106 rfl (fun h160 K161 A_new => ?_)
  replace A_u := A_u.keep K161 (ninS ne_u_q nin0)
  replace E_u := E_u.keep K161
  replace A_p := A_p.keep K161 (ninS ne_p_q nin0)
  replace E_p := E_p.keep K161
  replace E_q := E_q.keep K161
  replace hn0 : n0 ≤ h160.size := Nat.le_trans hn0 K161.1
  replace A_q : own_A Z h160 q .int [.int (0 : Int32), .int (1 : Int32), .int (2 : Int32)] := A_new.cast rfl
  refine own_astore (pc' := 109) (Ls' := #[.val (.int x0), .val (.long x1), .second, .val (.int c), .val (.int d), .val (.ref u), .val (.ref p), .val (.ref q), .unset, .unset, .unset]) at_107 rfl rfl ?_
  refine own_iconst (4 : Int32) (pc' := 110) at_109 rfl rfl ?_
  refine own_newarrE (pc' := 112) (ty := .int) (cap := 4) (hw _ (List.mem_of_getElem? (i := 4) rfl)) rfl at_110 rfl (by decide) (by decide) (by decide) (by decide) (by decide) (fun h162 s gt_s lt_s E163 A_s E_s => ?_)
  replace E_s : Exa Z h162 s "[I" := (show ("[" ++ FieldType.toString .int) = "[I" from by decide) ▸ E_s
  have ge_s : n0 ≤ s := Nat.le_trans hn0 gt_s
  have ne_p_s : p ≠ s := Nat.ne_of_lt (by first | exact Nat.lt_of_lt_of_le A_p.lt gt_s | (have q := Nat.lt_of_lt_of_le A_p.lt (Nat.le_refl _); omega))
  have ne_q_s : q ≠ s := Nat.ne_of_lt (by first | exact Nat.lt_of_lt_of_le A_q.lt gt_s | (have q := Nat.lt_of_lt_of_le A_q.lt (Nat.le_refl _); omega))
  have ne_u_s : u ≠ s := Nat.ne_of_lt (by first | exact Nat.lt_of_lt_of_le A_u.lt gt_s | (have q := Nat.lt_of_lt_of_le A_u.lt (Nat.le_refl _); omega))
  replace A_u := A_u.ext E163
  replace E_u := E_u.ext E163
  replace A_p := A_p.ext E163
  replace E_p := E_p.ext E163
  replace A_q := A_q.ext E163
  replace E_q := E_q.ext E163
  replace hn0 : n0 ≤ h162.size := Nat.le_trans hn0 E163.1
  replace A_s : own_A Z h162 s .int [.int (0 : Int32), .int (0 : Int32), .int (0 : Int32), .int (0 : Int32)] := A_s.cast rfl
  refine own_dup (pc' := 113) at_112 rfl rfl ?_
  refine own_iconst (0 : Int32) (pc' := 114) at_113 rfl rfl ?_
  refine own_iconst (0 : Int32) (pc' := 115) at_114 rfl rfl ?_
  refine own_iastore (pc' := 116) A_s (by decide) (by first | decide | (simp only [List.length_cons, List.length_nil, List.length_set, List.length_replicate]; decide)) ge_s at_115 rfl (fun h164 K165 A_new => ?_)
  replace A_u := A_u.keep K165 (ninS ne_u_s nin0)
  replace E_u := E_u.keep K165
  replace A_p := A_p.keep K165 (ninS ne_p_s nin0)
  replace E_p := E_p.keep K165
  replace A_q := A_q.keep K165 (ninS ne_q_s nin0)
  replace E_q := E_q.keep K165
  replace E_s := E_s.keep K165
  replace hn0 : n0 ≤ h164.size := Nat.le_trans hn0 K165.1
  replace A_s : own_A Z h164 s .int [.int (0 : Int32), .int (0 : Int32), .int (0 : Int32), .int (0 : Int32)] := A_new.cast rfl
  refine own_dup (pc' := 117) at_116 rfl rfl ?_
  refine own_iconst (1 : Int32) (pc' := 118) at_117 rfl rfl ?_
  refine own_iloadN (pc' := 119) at_118 rfl rfl ?_
  refine own_iastore (pc' := 120) A_s (by decide) (by first | decide | (simp only [List.length_cons, List.length_nil, List.length_set, List.length_replicate]; decide)) ge_s at_119 rfl (fun h166 K167 A_new => ?_)
  replace A_u := A_u.keep K167 (ninS ne_u_s nin0)
  replace E_u := E_u.keep K167
  replace A_p := A_p.keep K167 (ninS ne_p_s nin0)
  replace E_p := E_p.keep K167
  replace A_q := A_q.keep K167 (ninS ne_q_s nin0)
  replace E_q := E_q.keep K167
  replace E_s := E_s.keep K167
  replace hn0 : n0 ≤ h166.size := Nat.le_trans hn0 K167.1
  replace A_s : own_A Z h166 s .int [.int (0 : Int32), .int c, .int (0 : Int32), .int (0 : Int32)] := A_new.cast rfl
  refine own_dup (pc' := 121) at_120 rfl rfl ?_
  refine own_iconst (2 : Int32) (pc' := 122) at_121 rfl rfl ?_
  refine own_iload (pc' := 124) at_122 rfl rfl ?_
  refine own_iastore (pc' := 125) A_s (by decide) (by first | decide | (simp only [List.length_cons, List.length_nil, List.length_set, List.length_replicate]; decide)) ge_s at_124 rfl (fun h168 K169 A_new => ?_)
  replace A_u := A_u.keep K169 (ninS ne_u_s nin0)
  replace E_u := E_u.keep K169
  replace A_p := A_p.keep K169 (ninS ne_p_s nin0)
  replace E_p := E_p.keep K169
  replace A_q := A_q.keep K169 (ninS ne_q_s nin0)
  replace E_q := E_q.keep K169
  replace E_s := E_s.keep K169
  replace hn0 : n0 ≤ h168.size := Nat.le_trans hn0 K169.1
  replace A_s : own_A Z h168 s .int [.int (0 : Int32), .int c, .int d, .int (0 : Int32)] := A_new.cast rfl
  refine own_dup (pc' := 126) at_125 rfl rfl ?_
  refine own_iconst (3 : Int32) (pc' := 127) at_126 rfl rfl ?_
  refine own_bipush (6 : Int32) (pc' := 129) at_127 rfl rfl ?_
  refine own_iastore (pc' := 130) A_s (by decide) (by first | decide | (simp only [List.length_cons, List.length_nil, List.length_set, List.length_replicate]; decide)) ge_s at_129 rfl (fun h170 K171 A_new => ?_)
  replace A_u := A_u.keep K171 (ninS ne_u_s nin0)
  replace E_u := E_u.keep K171
  replace A_p := A_p.keep K171 (ninS ne_p_s nin0)
  replace E_p := E_p.keep K171
  replace A_q := A_q.keep K171 (ninS ne_q_s nin0)
  replace E_q := E_q.keep K171
  replace E_s := E_s.keep K171
  replace hn0 : n0 ≤ h170.size := Nat.le_trans hn0 K171.1
  replace A_s : own_A Z h170 s .int [.int (0 : Int32), .int c, .int d, .int (6 : Int32)] := A_new.cast rfl
  refine own_astore (pc' := 132) (Ls' := #[.val (.int x0), .val (.long x1), .second, .val (.int c), .val (.int d), .val (.ref u), .val (.ref p), .val (.ref q), .val (.ref s), .unset, .unset]) at_130 rfl rfl ?_
  have hx : own_ok3 [y0, y1, y2, y3, y4, y5] := ⟨rfl, fun w hw_ => by simp only [List.mem_cons, List.not_mem_nil, or_false] at hw_; rcases hw_ with rfl | rfl | rfl | rfl | rfl | rfl <;> assumption⟩
  refine own_new (pc' := 135) (hw _ (List.mem_of_getElem? (i := 10) rfl)) (hw _ (List.mem_of_getElem? (i := 11) rfl)) (hw _ (List.mem_of_getElem? (i := 12) rfl)) at_132 rfl (by decide) (by decide) (fun h172 o gt_o lt_o E173 E_o D_o => ?_)
  have ge_o : n0 ≤ o := Nat.le_trans hn0 gt_o
  have ne_p_o : p ≠ o := Nat.ne_of_lt (by first | exact Nat.lt_of_lt_of_le A_p.lt gt_o | (have q := Nat.lt_of_lt_of_le A_p.lt (Nat.le_refl _); omega))
  have ne_q_o : q ≠ o := Nat.ne_of_lt (by first | exact Nat.lt_of_lt_of_le A_q.lt gt_o | (have q := Nat.lt_of_lt_of_le A_q.lt (Nat.le_refl _); omega))
  have ne_s_o : s ≠ o := Nat.ne_of_lt (by first | exact Nat.lt_of_lt_of_le A_s.lt gt_o | (have q := Nat.lt_of_lt_of_le A_s.lt (Nat.le_refl _); omega))
  have ne_u_o : u ≠ o := Nat.ne_of_lt (by first | exact Nat.lt_of_lt_of_le A_u.lt gt_o | (have q := Nat.lt_of_lt_of_le A_u.lt (Nat.le_refl _); omega))
  replace A_u := A_u.ext E173
  replace E_u := E_u.ext E173
  replace A_p := A_p.ext E173
  replace E_p := E_p.ext E173
  replace A_q := A_q.ext E173
  replace E_q := E_q.ext E173
  replace A_s := A_s.ext E173
  replace E_s := E_s.ext E173
  replace hn0 : n0 ≤ h172.size := Nat.le_trans hn0 E173.1
  have F_o_owners : Fld Z h172 o "com/example/cycles_to_winners/cyclestowinners/model/Game" "owners" "[I" (.null) := D_o (Or.inr (hw _ (List.mem_of_getElem? (i := 41) rfl))) (ty := (.array .int)) (by decide)
  have F_o_priorities : Fld Z h172 o "com/example/cycles_to_winners/cyclestowinners/model/Game" "priorities" "[I" (.null) := D_o (Or.inr (hw _ (List.mem_of_getElem? (i := 44) rfl))) (ty := (.array .int)) (by decide)
  have F_o_successorStart : Fld Z h172 o "com/example/cycles_to_winners/cyclestowinners/model/Game" "successorStart" "[I" (.null) := D_o (Or.inr (hw _ (List.mem_of_getElem? (i := 47) rfl))) (ty := (.array .int)) (by decide)
  have F_o_successors : Fld Z h172 o "com/example/cycles_to_winners/cyclestowinners/model/Game" "successors" "[I" (.null) := D_o (Or.inr (hw _ (List.mem_of_getElem? (i := 50) rfl))) (ty := (.array .int)) (by decide)
  have F_o_maxPriority : Fld Z h172 o "com/example/cycles_to_winners/cyclestowinners/model/Game" "maxPriority" "I" (.int (0 : Int32)) := D_o (Or.inr (hw _ (List.mem_of_getElem? (i := 67) rfl))) (ty := .int) (by decide)
  refine own_dup (pc' := 136) at_135 rfl rfl ?_
  refine own_aload (pc' := 138) at_136 rfl rfl ?_
  refine own_aload (pc' := 140) at_138 rfl rfl ?_
  refine own_aload (pc' := 142) at_140 rfl rfl ?_
  refine own_aload (pc' := 144) at_142 rfl rfl ?_
  refine own_special (ret' := none) (own_mk l Z a0 hw o p q s u 0 1 0 0 1 2 c d [y0, y1, y2, y3, y4, y5] h172 n0 hn0 hx (by decide) (by decide) (by decide) (by decide) (by decide) (by decide) hb.1 hb.2.1 hb.2.2 ge_o A_p A_q A_s A_u E_p ne_p_o E_q ne_q_o E_s ne_s_o E_u ne_u_o E_o F_o_owners F_o_priorities F_o_successorStart F_o_successors F_o_maxPriority) (hw _ (List.mem_of_getElem? (i := 13) rfl)) (hw _ (List.mem_of_getElem? (i := 14) rfl)) (hw _ (List.mem_of_getElem? (i := 12) rfl)) (hw _ (List.mem_of_getElem? (i := 15) rfl)) rfl (plainFor_of_name own_pn2) (by decide) own_pd3 rfl (argsL := [.ref p, .ref q, .ref s, .ref u]) (rest := [.ref o]) rfl rfl (W := 1) (Nat.le_refl _) (by decide) (by decide) (by decide) (by decide) rfl at_144 (pc' := 147) rfl (fun v_ h174 hq => ?_)
  obtain ⟨rfl, w2, s2, u2, gg_w, gg_s, gg_u, K_1, E_1, F_0, F_1, F_2, A_w2, A_s2, A_u2⟩ := hq
  show own_W l Z x code maxLocals ret room_1 n0 (fun v h => v = some (.int 1)) h174 17 213 147 #[.val (.int x0), .val (.long x1), .second, .val (.int c), .val (.int d), .val (.ref u), .val (.ref p), .val (.ref q), .val (.ref s), .unset, .unset] [.ref o]
  clear F_o_owners
  clear F_o_priorities
  clear F_o_successorStart
  clear F_o_successors
  clear F_o_maxPriority
  clear A_p E_p
  clear A_q E_q
  clear A_s E_s
  clear E_u
  replace A_u := A_u.keep K_1 (ninS ne_u_o nin0)
  replace E_o := E_1
  replace hn0 : n0 ≤ h174.size := Nat.le_trans hn0 K_1.1
  refine own_astore (pc' := 149) (Ls' := #[.val (.int x0), .val (.long x1), .second, .val (.int c), .val (.int d), .val (.ref u), .val (.ref p), .val (.ref q), .val (.ref s), .val (.ref o), .unset]) at_147 rfl rfl ?_
  refine own_new (pc' := 152) (hw _ (List.mem_of_getElem? (i := 68) rfl)) (hw _ (List.mem_of_getElem? (i := 69) rfl)) (hw _ (List.mem_of_getElem? (i := 70) rfl)) at_149 rfl (by decide) (by decide) (fun h175 pp gt_pp lt_pp E176 E_pp D_pp => ?_)
  have ge_pp : n0 ≤ pp := Nat.le_trans hn0 gt_pp
  have ne_o_pp : o ≠ pp := Nat.ne_of_lt (by first | exact Nat.lt_of_lt_of_le E_o.lt gt_pp | (have q := Nat.lt_of_lt_of_le E_o.lt (Nat.le_refl _); omega))
  have ne_s2_pp : s2 ≠ pp := Nat.ne_of_lt (by first | exact Nat.lt_of_lt_of_le A_s2.lt gt_pp | (have q := Nat.lt_of_lt_of_le A_s2.lt (Nat.le_refl _); omega))
  have ne_u_pp : u ≠ pp := Nat.ne_of_lt (by first | exact Nat.lt_of_lt_of_le A_u.lt gt_pp | (have q := Nat.lt_of_lt_of_le A_u.lt (Nat.le_refl _); omega))
  have ne_u2_pp : u2 ≠ pp := Nat.ne_of_lt (by first | exact Nat.lt_of_lt_of_le A_u2.lt gt_pp | (have q := Nat.lt_of_lt_of_le A_u2.lt (Nat.le_refl _); omega))
  have ne_w2_pp : w2 ≠ pp := Nat.ne_of_lt (by first | exact Nat.lt_of_lt_of_le A_w2.lt gt_pp | (have q := Nat.lt_of_lt_of_le A_w2.lt (Nat.le_refl _); omega))
  replace A_u := A_u.ext E176
  replace E_o := E_o.ext E176
  replace A_w2 := A_w2.ext E176
  replace A_s2 := A_s2.ext E176
  replace A_u2 := A_u2.ext E176
  replace F_0 := F_0.ext E176
  replace F_1 := F_1.ext E176
  replace F_2 := F_2.ext E176
  replace hn0 : n0 ≤ h175.size := Nat.le_trans hn0 E176.1
  have F_pp_start : Fld Z h175 pp "com/example/cycles_to_winners/cyclestowinners/algo/Predecessors" "start" "[I" (.null) := D_pp (Or.inr (hw _ (List.mem_of_getElem? (i := 81) rfl))) (ty := (.array .int)) (by decide)
  have F_pp_vertices : Fld Z h175 pp "com/example/cycles_to_winners/cyclestowinners/algo/Predecessors" "vertices" "[I" (.null) := D_pp (Or.inr (hw _ (List.mem_of_getElem? (i := 88) rfl))) (ty := (.array .int)) (by decide)
  refine own_dup (pc' := 153) at_152 rfl rfl ?_
  refine own_aload (pc' := 155) at_153 rfl rfl ?_
  refine own_special (ret' := none) (own_mkP l Z a0 hw pp o w2 s2 u2 0 1 0 c d [y0, y1, y2, y3, y4, y5] h175 n0 hn0 hx hb.1 hb.2.1 hb.2.2 ge_pp ne_o_pp ne_w2_pp ne_s2_pp ne_u2_pp E_o F_1 F_2 A_s2 A_u2 F_0 A_w2 E_pp F_pp_start F_pp_vertices) (hw _ (List.mem_of_getElem? (i := 71) rfl)) (hw _ (List.mem_of_getElem? (i := 72) rfl)) (hw _ (List.mem_of_getElem? (i := 70) rfl)) (hw _ (List.mem_of_getElem? (i := 73) rfl)) rfl (plainFor_of_name own_pn5) (by decide) own_pd8 rfl (argsL := [.ref o]) (rest := [.ref pp]) rfl rfl (W := 1) (Nat.le_refl _) (by decide) (by decide) (by decide) (by decide) rfl at_155 (pc' := 158) rfl (fun v_ h177 hq => ?_)
  obtain ⟨rfl, st, gg_st, K_2, E_2, F_3, A_st⟩ := hq
  show own_W l Z x code maxLocals ret room_1 n0 (fun v h => v = some (.int 1)) h177 21 229 158 #[.val (.int x0), .val (.long x1), .second, .val (.int c), .val (.int d), .val (.ref u), .val (.ref p), .val (.ref q), .val (.ref s), .val (.ref o), .unset] [.ref pp]
  clear F_pp_start
  clear F_pp_vertices
  replace A_u := A_u.keep K_2 (ninS ne_u_pp nin0)
  replace E_o := E_o.keep K_2
  replace A_w2 := A_w2.keep K_2 (ninS ne_w2_pp nin0)
  replace A_s2 := A_s2.keep K_2 (ninS ne_s2_pp nin0)
  replace A_u2 := A_u2.keep K_2 (ninS ne_u2_pp nin0)
  replace F_0 := F_0.keep K_2 (ninS ne_o_pp nin0)
  replace F_1 := F_1.keep K_2 (ninS ne_o_pp nin0)
  replace F_2 := F_2.keep K_2 (ninS ne_o_pp nin0)
  replace E_pp := E_2
  replace hn0 : n0 ≤ h177.size := Nat.le_trans hn0 K_2.1
  have sub : ∀ f g : Int32, f + g - g = f := fun f g => by rw [← Int32.toInt_inj]; have a := c_iadd f g; have b := rng32 (f + g); have c := c_isub (f + g) g; have d := rng32 (f + g - g); have e := rng32 f; omega
  refine own_astore (pc' := 160) (Ls' := #[.val (.int x0), .val (.long x1), .second, .val (.int c), .val (.int d), .val (.ref u), .val (.ref p), .val (.ref q), .val (.ref s), .val (.ref o), .val (.ref pp)]) at_158 rfl rfl ?_
  refine own_aload (pc' := 162) at_160 rfl rfl ?_
  refine own_iconst (0 : Int32) (pc' := 163) at_162 rfl rfl ?_
  refine own_virtual (own_cntW l Z a0 hw pp st _ (0 : Int32) (own_T1 [y0, y1, y2, y3, y4, y5]) (0 : Int32) h177 n0 hn0 (by decide) (by decide) rfl rfl F_3 A_st) E_pp (hw _ (List.mem_of_getElem? (i := 108) rfl)) (hw _ (List.mem_of_getElem? (i := 109) rfl)) (hw _ (List.mem_of_getElem? (i := 111) rfl)) (hw _ (List.mem_of_getElem? (i := 110) rfl)) (hw _ (List.mem_of_getElem? (i := 70) rfl)) (hw _ (List.mem_of_getElem? (i := 112) rfl)) (plainFor_of_name own_pn5) (by decide) own_pd10 rfl (argsL := [.int (0 : Int32)]) (rest := []) rfl rfl (W := 0) (Nat.le_refl _) (by decide) (by decide) (by decide) (by decide) rfl at_163 (pc' := 166) rfl (fun v_ h178 hq => ?_)
  obtain ⟨rfl, rfl⟩ := hq
  show own_W l Z x code maxLocals ret room_1 n0 (fun v h => v = some (.int 1)) h177 21 229 166 #[.val (.int x0), .val (.long x1), .second, .val (.int c), .val (.int d), .val (.ref u), .val (.ref p), .val (.ref q), .val (.ref s), .val (.ref o), .val (.ref pp)] [.int ((own_T1 [y0, y1, y2, y3, y4, y5]) - (0 : Int32))]
  refine own_aload (pc' := 168) at_166 rfl rfl ?_
  refine own_iconst (0 : Int32) (pc' := 169) at_168 rfl rfl ?_
  refine own_static (own_occW l Z a0 hw u (0 : Int32) y0 y1 y2 y3 y4 y5 h177 n0 hn0 A_u) (hw _ (List.mem_of_getElem? (i := 113) rfl)) (hw _ (List.mem_of_getElem? (i := 114) rfl)) (hw _ (List.mem_of_getElem? (i := 7) rfl)) (hw _ (List.mem_of_getElem? (i := 115) rfl)) (plainFor_of_name own_pn0) (by decide) own_pd12 rfl (argsL := [.ref u, .int (0 : Int32)]) (rest := [.int ((own_T1 [y0, y1, y2, y3, y4, y5]) - (0 : Int32))]) rfl rfl (W := 1) (Nat.le_refl _) (by decide) (by decide) (by decide) (by decide) rfl at_169 (pc' := 172) rfl (fun v_ h179 hq => ?_)
  obtain ⟨rfl, rfl⟩ := hq
  show own_W l Z x code maxLocals ret room_1 n0 (fun v h => v = some (.int 1)) h177 21 229 172 #[.val (.int x0), .val (.long x1), .second, .val (.int c), .val (.int d), .val (.ref u), .val (.ref p), .val (.ref q), .val (.ref s), .val (.ref o), .val (.ref pp)] [.int (own_c (0 : Int32) 6 [y0, y1, y2, y3, y4, y5]), .int ((own_T1 [y0, y1, y2, y3, y4, y5]) - (0 : Int32))]
  refine own_ic_ne_f (pc' := 175) at_172 (sub (own_c (0 : Int32) 6 [y0, y1, y2, y3, y4, y5]) (0 : Int32)) rfl ?_
  refine own_aload (pc' := 177) at_175 rfl rfl ?_
  refine own_iconst (1 : Int32) (pc' := 178) at_177 rfl rfl ?_
  refine own_virtual (own_cntW l Z a0 hw pp st _ (1 : Int32) (own_T2 [y0, y1, y2, y3, y4, y5]) (own_T1 [y0, y1, y2, y3, y4, y5]) h177 n0 hn0 (by decide) (by decide) rfl rfl F_3 A_st) E_pp (hw _ (List.mem_of_getElem? (i := 108) rfl)) (hw _ (List.mem_of_getElem? (i := 109) rfl)) (hw _ (List.mem_of_getElem? (i := 111) rfl)) (hw _ (List.mem_of_getElem? (i := 110) rfl)) (hw _ (List.mem_of_getElem? (i := 70) rfl)) (hw _ (List.mem_of_getElem? (i := 112) rfl)) (plainFor_of_name own_pn5) (by decide) own_pd10 rfl (argsL := [.int (1 : Int32)]) (rest := []) rfl rfl (W := 0) (Nat.le_refl _) (by decide) (by decide) (by decide) (by decide) rfl at_178 (pc' := 181) rfl (fun v_ h180 hq => ?_)
  obtain ⟨rfl, rfl⟩ := hq
  show own_W l Z x code maxLocals ret room_1 n0 (fun v h => v = some (.int 1)) h177 21 229 181 #[.val (.int x0), .val (.long x1), .second, .val (.int c), .val (.int d), .val (.ref u), .val (.ref p), .val (.ref q), .val (.ref s), .val (.ref o), .val (.ref pp)] [.int ((own_T2 [y0, y1, y2, y3, y4, y5]) - (own_T1 [y0, y1, y2, y3, y4, y5]))]
  refine own_aload (pc' := 183) at_181 rfl rfl ?_
  refine own_iconst (1 : Int32) (pc' := 184) at_183 rfl rfl ?_
  refine own_static (own_occW l Z a0 hw u (1 : Int32) y0 y1 y2 y3 y4 y5 h177 n0 hn0 A_u) (hw _ (List.mem_of_getElem? (i := 113) rfl)) (hw _ (List.mem_of_getElem? (i := 114) rfl)) (hw _ (List.mem_of_getElem? (i := 7) rfl)) (hw _ (List.mem_of_getElem? (i := 115) rfl)) (plainFor_of_name own_pn0) (by decide) own_pd12 rfl (argsL := [.ref u, .int (1 : Int32)]) (rest := [.int ((own_T2 [y0, y1, y2, y3, y4, y5]) - (own_T1 [y0, y1, y2, y3, y4, y5]))]) rfl rfl (W := 1) (Nat.le_refl _) (by decide) (by decide) (by decide) (by decide) rfl at_184 (pc' := 187) rfl (fun v_ h181 hq => ?_)
  obtain ⟨rfl, rfl⟩ := hq
  show own_W l Z x code maxLocals ret room_1 n0 (fun v h => v = some (.int 1)) h177 21 229 187 #[.val (.int x0), .val (.long x1), .second, .val (.int c), .val (.int d), .val (.ref u), .val (.ref p), .val (.ref q), .val (.ref s), .val (.ref o), .val (.ref pp)] [.int (own_c (1 : Int32) 6 [y0, y1, y2, y3, y4, y5]), .int ((own_T2 [y0, y1, y2, y3, y4, y5]) - (own_T1 [y0, y1, y2, y3, y4, y5]))]
  refine own_ic_ne_f (pc' := 190) at_187 (sub (own_c (1 : Int32) 6 [y0, y1, y2, y3, y4, y5]) (own_T1 [y0, y1, y2, y3, y4, y5])) rfl ?_
  refine own_aload (pc' := 192) at_190 rfl rfl ?_
  refine own_iconst (2 : Int32) (pc' := 193) at_192 rfl rfl ?_
  refine own_virtual (own_cntW l Z a0 hw pp st _ (2 : Int32) (own_T3 [y0, y1, y2, y3, y4, y5]) (own_T2 [y0, y1, y2, y3, y4, y5]) h177 n0 hn0 (by decide) (by decide) rfl rfl F_3 A_st) E_pp (hw _ (List.mem_of_getElem? (i := 108) rfl)) (hw _ (List.mem_of_getElem? (i := 109) rfl)) (hw _ (List.mem_of_getElem? (i := 111) rfl)) (hw _ (List.mem_of_getElem? (i := 110) rfl)) (hw _ (List.mem_of_getElem? (i := 70) rfl)) (hw _ (List.mem_of_getElem? (i := 112) rfl)) (plainFor_of_name own_pn5) (by decide) own_pd10 rfl (argsL := [.int (2 : Int32)]) (rest := []) rfl rfl (W := 0) (Nat.le_refl _) (by decide) (by decide) (by decide) (by decide) rfl at_193 (pc' := 196) rfl (fun v_ h182 hq => ?_)
  obtain ⟨rfl, rfl⟩ := hq
  show own_W l Z x code maxLocals ret room_1 n0 (fun v h => v = some (.int 1)) h177 21 229 196 #[.val (.int x0), .val (.long x1), .second, .val (.int c), .val (.int d), .val (.ref u), .val (.ref p), .val (.ref q), .val (.ref s), .val (.ref o), .val (.ref pp)] [.int ((own_T3 [y0, y1, y2, y3, y4, y5]) - (own_T2 [y0, y1, y2, y3, y4, y5]))]
  refine own_aload (pc' := 198) at_196 rfl rfl ?_
  refine own_iconst (2 : Int32) (pc' := 199) at_198 rfl rfl ?_
  refine own_static (own_occW l Z a0 hw u (2 : Int32) y0 y1 y2 y3 y4 y5 h177 n0 hn0 A_u) (hw _ (List.mem_of_getElem? (i := 113) rfl)) (hw _ (List.mem_of_getElem? (i := 114) rfl)) (hw _ (List.mem_of_getElem? (i := 7) rfl)) (hw _ (List.mem_of_getElem? (i := 115) rfl)) (plainFor_of_name own_pn0) (by decide) own_pd12 rfl (argsL := [.ref u, .int (2 : Int32)]) (rest := [.int ((own_T3 [y0, y1, y2, y3, y4, y5]) - (own_T2 [y0, y1, y2, y3, y4, y5]))]) rfl rfl (W := 1) (Nat.le_refl _) (by decide) (by decide) (by decide) (by decide) rfl at_199 (pc' := 202) rfl (fun v_ h183 hq => ?_)
  obtain ⟨rfl, rfl⟩ := hq
  show own_W l Z x code maxLocals ret room_1 n0 (fun v h => v = some (.int 1)) h177 21 229 202 #[.val (.int x0), .val (.long x1), .second, .val (.int c), .val (.int d), .val (.ref u), .val (.ref p), .val (.ref q), .val (.ref s), .val (.ref o), .val (.ref pp)] [.int (own_c (2 : Int32) 6 [y0, y1, y2, y3, y4, y5]), .int ((own_T3 [y0, y1, y2, y3, y4, y5]) - (own_T2 [y0, y1, y2, y3, y4, y5]))]
  refine own_ic_ne_f (pc' := 205) at_202 (sub (own_c (2 : Int32) 6 [y0, y1, y2, y3, y4, y5]) (own_T2 [y0, y1, y2, y3, y4, y5])) rfl ?_
  refine own_iconst (1 : Int32) (pc' := 206) at_205 rfl rfl ?_
  refine own_goto (pc' := 210) at_206 (by decide) (by decide) ?_
  exact own_bret (v := (1 : Int32)) rfl (by first | rfl | decide | assumption) at_210 rfl
set_option maxRecDepth 65536 in
set_option maxHeartbeats 40000000 in
theorem comes_1 {Post : Tables → Env → Array Value → State → Outcome → State → Prop} (hpost : ∀ tb e args s v u, (limb_1_1.after args s (.returned v) u = true ∧ limb_1_2.after args s (.returned v) u = true ∧ True) → ReturnedEndW s (.returned v) u (Jvm.fieldLocs frame_1_writes args s ++ Jvm.arrayLocs frame_1_arrays args s ++ Jvm.staticLocs frame_1_statics s) 48 4288 → Post tb e args s (.returned v) u) :
    ArmFor flags0 classFile x code maxLocals ret World_1 tables_1 room_1 Calls_1 rest_1 Pre_1 Post := by
  intro l hfl _ _ p e ha hc hk s m args below hf hA hF happ hP
  obtain ⟨hcalls, hrest, hpre⟩ := hP
  obtain ⟨-, -, -, hnamed, -, -, -, hat⟩ := (Spec.applies_iff hf).mp happ
  obtain ⟨hg, hn⟩ := and_e (Cond.before_iff.mp (show (Jvm.Cond.and given_1 narrow_1).before args s = true from hpre))
  obtain ⟨hcount, hg0⟩ := and_e hg
  obtain ⟨w0, w1, rfl⟩ : ∃ w0 w1 : Value, args = #[w0, w1] := by
    have hs : args.size = 2 := by simpa [Cond.value, given_1] using hcount
    obtain ⟨L⟩ := args
    match L, hs with
    | [w0, w1], _ => exact ⟨w0, w1, rfl⟩
  have hw := fun d (hd : d ∈ tables_1) => atoms_spec (ws := Jvm.Cond.code x code maxLocals ret :: tables_1) hat d (List.mem_cons_of_mem _ hd)
  obtain ⟨hg0v, hg1⟩ := and_e hg0
  obtain ⟨x0, e0⟩ := is_v hg0v
  obtain rfl : w0 = (.int x0) := Option.some.inj e0
  obtain ⟨x1, e1⟩ := isL_v hg1
  obtain rfl : w1 = (.long x1) := Option.some.inj e1
  obtain ⟨n, o, h1, h2, h3, _, L, rfl, ⟨hq1, N⟩, hq⟩ := own_met (argsL := [.int x0, .long x1]) (own_law l s _ hw x0 x1 s.heap s.heap.size (Nat.le_refl _)) (plainFor_of_name own_pn0) rfl tables_1 p e ha hc hk s m _ below hf ((Spec.applies_iff_loose hf).mp happ).1 ⟨rfl, State.Warmed39.refl s, rfl⟩ trivial
  subst hq1
  refine ⟨n, _, h1, h2, h3, hpost _ _ _ _ _ _ ⟨Cond.after_iff.mpr rfl, Cond.after_iff.mpr (eq_i res_at (Term.int_eval (1)) rfl), trivial⟩ ⟨hq.1, hq.2.1, hq.2.2.1, (hq.2.2.2.sift fun y hy => Or.inr (N y hy)).mono (by decide) (by decide)⟩⟩
theorem main_1_1 : Claimed_1_1 := comes_1 fun _ _ _ _ _ _ h hF => ⟨h.1, hF⟩
theorem main_1_2 : Claimed_1_2 := comes_1 fun _ _ _ _ _ _ h hF => ⟨h.2.1, hF⟩
end Jvm.Pilot.@@N@@
namespace Jvm.Pilot.@@N@@
open Jvm Jvm.ClassFile Sem Op Lib Jvm.Free Jvm.Stand Jvm.Pilot.@@N@@.Jvm.D
/-! MADE BY PROGRAM (witnessworld.py) out of the Statement's table words and the real class files: 18 classes; the members and pool entries that the words name. The judged class is class 1, her method 1. -/
namespace start1
open Jvm.ClassFile
def u (s : String) : CpInfo := .utf8 (stringToUtf16 s)
/-- a pool by its gaps: so many unusable entries, then the entry; so many at the end -/
def gap : Nat → List CpInfo → List CpInfo
  | 0, r => r
  | n + 1, r => .unusable :: gap n r
def poolList (es : List (Nat × CpInfo)) (last : Nat) : List CpInfo := es.foldr (fun e r => gap e.1 (e.2 :: r)) (gap last [])
def pool (es : List (Nat × CpInfo)) (last : Nat) : Array CpInfo := ⟨poolList es last⟩
def fileOf (pool : Array CpInfo) (this : Nat) (attrs : Array Attribute := #[]) (ms : Array MethodInfo := #[]) (fl : Nat := 33) (sup : Nat := 0) (ifs : Array Nat := #[]) (fds : Array FieldInfo := #[]) : ClassFile where
  minorVersion := 0
  majorVersion := 65
  constantPool := pool
  accessFlags := fl
  thisClass := this
  superClass := sup
  interfaces := ifs
  fields := fds
  methods := ms
  attributes := attrs
def plain (name : String) (sup : Option ClassId) : Class where
  name := name
  kind := .ordinary
  loader := none
  accessFlags := 33
  super := sup
  interfaces := #[]
  cf := none
  fields := #[]
  methods := #[]
  instanceTypes := #[]
  staticTypes := #[]
  resolved := #[]
  callSites := []
  init := .initialized
  statics := none
  mirror := none

def pool0 : Array CpInfo := pool [(5, u "<init>"), (0, u "()V"), (1, .class_ 10), (1, u "java/lang/Object"), (85, u "clone"), (0, u "()Ljava/lang/Object;")] 26

def k0c0 : Code := { maxStack := 0, maxLocals := 1, code := object_method_1_code, exceptionTable := #[], attributes := #[] }
def k0m0 : Method := { name := "<init>", desc := "()V", sig := { parameters := [], returnType := none }, accessFlags := 1, code := some k0c0 }
def k0m1 : Method := { name := "clone", desc := "()Ljava/lang/Object;", sig := { parameters := [], returnType := some (.object "java/lang/Object") }, accessFlags := 260, code := none }
/-- java/lang/Object -/
def k0 : Class := { plain "java/lang/Object" none with
  accessFlags := 33
  interfaces := #[]
  cf := some (fileOf pool0 8 #[] #[{ accessFlags := 1, nameIndex := 5, descriptorIndex := 6, attributes := #[] }, { accessFlags := 260, nameIndex := 96, descriptorIndex := 97, attributes := #[] }] 33 0 #[] #[])
  fields := #[]
  methods := #[k0m0, k0m1]
  instanceTypes := #[]
  staticTypes := #[]
  resolved := Array.replicate 124 none
  statics := none }

def pool1 : Array CpInfo := pool [(2, .class_ 4), (1, u "java/lang/Object"), (0, u "<init>"), (0, u "()V"), (0, .methodref 8 9), (0, .class_ 10), (0, .nameAndType 11 12), (0, u "java/lang/Math"), (0, u "min"), (0, u "(II)I"), (0, .methodref 14 15), (0, .class_ 16), (0, .nameAndType 17 18), (0, u "com/example/cycles_to_winners/cyclestowinners/algo/PredecessorsCountPinLaw"), (0, u "e"), (0, u "(JI)I"), (0, .class_ 20), (0, u "com/example/cycles_to_winners/cyclestowinners/model/Game"), (0, .methodref 19 22), (0, .nameAndType 5 23), (0, u "([I[I[I[I)V"), (0, .class_ 25), (0, u "com/example/cycles_to_winners/cyclestowinners/algo/Predecessors"), (0, .methodref 24 27), (0, .nameAndType 5 28), (0, u "(Lcom/example/cycles_to_winners/cyclestowinners/model/Game;)V"), (0, .methodref 24 30), (0, .nameAndType 31 32), (0, u "count"), (0, u "(I)I"), (0, .methodref 14 34), (0, .nameAndType 35 36), (0, u "occ"), (0, u "([II)I"), (0, .long 15), (1, .methodref 14 40), (0, .nameAndType 41 12), (0, u "is"), (2, u "law"), (0, u "(IJ)Z")] 5

def k1m0 : Method := { name := "<init>", desc := "()V", sig := { parameters := [], returnType := none }, accessFlags := 1, code := none }
def k1c1 : Code := { maxStack := 6, maxLocals := 11, code := code, exceptionTable := #[], attributes := #[] }
def k1m1 : Method := { name := "law", desc := "(IJ)Z", sig := { parameters := [.int, .long], returnType := some .boolean }, accessFlags := 9, code := some k1c1 }
def k1c2 : Code := { maxStack := 4, maxLocals := 3, code := method_3_code, exceptionTable := #[], attributes := #[] }
def k1m2 : Method := { name := "e", desc := "(JI)I", sig := { parameters := [.long, .int], returnType := some .int }, accessFlags := 10, code := some k1c2 }
def k1c3 : Code := { maxStack := 3, maxLocals := 2, code := method_4_code, exceptionTable := #[], attributes := #[] }
def k1m3 : Method := { name := "occ", desc := "([II)I", sig := { parameters := [(.array .int), .int], returnType := some .int }, accessFlags := 10, code := some k1c3 }
def k1c4 : Code := { maxStack := 2, maxLocals := 2, code := method_5_code, exceptionTable := #[], attributes := #[] }
def k1m4 : Method := { name := "is", desc := "(II)I", sig := { parameters := [.int, .int], returnType := some .int }, accessFlags := 10, code := some k1c4 }
/-- com/example/cycles_to_winners/cyclestowinners/algo/PredecessorsCountPinLaw -/
def k1 : Class := { plain "com/example/cycles_to_winners/cyclestowinners/algo/PredecessorsCountPinLaw" (some 0) with
  accessFlags := 49
  interfaces := #[]
  cf := some (fileOf pool1 14 #[] #[{ accessFlags := 1, nameIndex := 5, descriptorIndex := 6, attributes := #[] }, { accessFlags := 9, nameIndex := 44, descriptorIndex := 45, attributes := #[] }, { accessFlags := 10, nameIndex := 17, descriptorIndex := 18, attributes := #[] }, { accessFlags := 10, nameIndex := 35, descriptorIndex := 36, attributes := #[] }, { accessFlags := 10, nameIndex := 41, descriptorIndex := 12, attributes := #[] }] 49 2 #[] #[])
  fields := #[]
  methods := #[k1m0, k1m1, k1m2, k1m3, k1m4]
  instanceTypes := #[]
  staticTypes := #[]
  resolved := Array.replicate 51 none
  statics := none }

def pool2 : Array CpInfo := pool [(1, .class_ 2), (0, u "java/lang/Math"), (1, .class_ 6), (1, u "java/lang/Object"), (0, u "<init>"), (0, u "()V"), (89, .class_ 100), (1, u "java/lang/Math$RandomNumberGeneratorHolder"), (71, u "negativeZeroFloatBits"), (0, u "J"), (2, u "negativeZeroDoubleBits"), (21, u "max"), (2, u "min"), (43, u "$assertionsDisabled"), (0, u "Z"), (88, u "(II)I"), (2, u "twoToTheDoubleScaleDown"), (0, u "D"), (4, u "twoToTheDoubleScaleUp"), (9, u "E"), (3, u "PI"), (2, u "TAU"), (2, u "DEGREES_TO_RADIANS"), (0, u "RADIANS_TO_DEGREES")] 94

def k2m0 : Method := { name := "<init>", desc := "()V", sig := { parameters := [], returnType := none }, accessFlags := 2, code := none }
def k2c1 : Code := { maxStack := 2, maxLocals := 2, code := jdk_29_method_65_code, exceptionTable := #[], attributes := #[] }
def k2m1 : Method := { name := "max", desc := "(II)I", sig := { parameters := [.int, .int], returnType := some .int }, accessFlags := 9, code := some k2c1 }
def k2c2 : Code := { maxStack := 2, maxLocals := 2, code := jdk_29_method_69_code, exceptionTable := #[], attributes := #[] }
def k2m2 : Method := { name := "min", desc := "(II)I", sig := { parameters := [.int, .int], returnType := some .int }, accessFlags := 9, code := some k2c2 }
/-- java/lang/Math -/
def k2 : Class := { plain "java/lang/Math" (some 0) with
  accessFlags := 49
  interfaces := #[]
  cf := some (fileOf pool2 1 #[.nestMembers #[98]] #[{ accessFlags := 2, nameIndex := 7, descriptorIndex := 8, attributes := #[] }, { accessFlags := 9, nameIndex := 198, descriptorIndex := 335, attributes := #[] }, { accessFlags := 9, nameIndex := 201, descriptorIndex := 335, attributes := #[] }] 49 4 #[] #[{ accessFlags := 25, nameIndex := 354, descriptorIndex := 339, attributes := #[] }, { accessFlags := 25, nameIndex := 358, descriptorIndex := 339, attributes := #[] }, { accessFlags := 25, nameIndex := 361, descriptorIndex := 339, attributes := #[] }, { accessFlags := 26, nameIndex := 364, descriptorIndex := 339, attributes := #[] }, { accessFlags := 26, nameIndex := 365, descriptorIndex := 339, attributes := #[] }, { accessFlags := 26, nameIndex := 172, descriptorIndex := 173, attributes := #[] }, { accessFlags := 26, nameIndex := 176, descriptorIndex := 173, attributes := #[] }, { accessFlags := 8, nameIndex := 344, descriptorIndex := 339, attributes := #[] }, { accessFlags := 8, nameIndex := 338, descriptorIndex := 339, attributes := #[] }, { accessFlags := 4120, nameIndex := 245, descriptorIndex := 246, attributes := #[] }])
  fields := #[{ name := "E", type := .double, accessFlags := 25, slot := 0, constantValue := 0 }, { name := "PI", type := .double, accessFlags := 25, slot := 1, constantValue := 0 }, { name := "TAU", type := .double, accessFlags := 25, slot := 2, constantValue := 0 }, { name := "DEGREES_TO_RADIANS", type := .double, accessFlags := 26, slot := 3, constantValue := 0 }, { name := "RADIANS_TO_DEGREES", type := .double, accessFlags := 26, slot := 4, constantValue := 0 }, { name := "negativeZeroFloatBits", type := .long, accessFlags := 26, slot := 5, constantValue := 0 }, { name := "negativeZeroDoubleBits", type := .long, accessFlags := 26, slot := 6, constantValue := 0 }, { name := "twoToTheDoubleScaleUp", type := .double, accessFlags := 8, slot := 7, constantValue := 0 }, { name := "twoToTheDoubleScaleDown", type := .double, accessFlags := 8, slot := 8, constantValue := 0 }, { name := "$assertionsDisabled", type := .boolean, accessFlags := 4120, slot := 9, constantValue := 0 }]
  methods := #[k2m0, k2m1, k2m2]
  instanceTypes := #[]
  staticTypes := #[.double, .double, .double, .double, .double, .long, .long, .double, .double, .boolean]
  resolved := Array.replicate 460 none
  statics := none }

def pool3 : Array CpInfo := pool [(3, .methodref 4 5), (0, .class_ 6), (0, .nameAndType 7 8), (0, u "java/lang/Object"), (0, u "<init>"), (0, u "()V"), (0, .string 10), (0, u "owners"), (0, .methodref 12 13), (0, .class_ 14), (0, .nameAndType 15 16), (0, u "java/util/Objects"), (0, u "requireNonNull"), (0, u "(Ljava/lang/Object;Ljava/lang/String;)Ljava/lang/Object;"), (0, .class_ 18), (0, u "[I"), (0, .methodref 17 20), (0, .nameAndType 21 22), (0, u "clone"), (0, u "()Ljava/lang/Object;"), (0, .fieldref 24 25), (0, .class_ 26), (0, .nameAndType 10 18), (0, u "com/example/cycles_to_winners/cyclestowinners/model/Game"), (0, .string 28), (0, u "priorities"), (0, .fieldref 24 30), (0, .nameAndType 28 18), (0, .string 32), (0, u "successorStart"), (0, .fieldref 24 34), (0, .nameAndType 32 18), (0, .string 36), (0, u "successors"), (0, .fieldref 24 38), (0, .nameAndType 36 18), (0, .methodref 24 40), (0, .nameAndType 41 42), (0, u "checkShape"), (0, u "([I[I[I[I)V"), (0, .methodref 24 44), (0, .nameAndType 45 42), (0, u "checkVertices"), (0, .methodref 24 47), (0, .nameAndType 48 49), (0, u "highest"), (0, u "([I)I"), (0, .fieldref 24 51), (0, .nameAndType 52 53), (0, u "maxPriority"), (0, u "I"), (18, .methodref 24 73), (0, .nameAndType 74 75), (0, u "checkVertex"), (0, u "(III[IIII)V"), (25, .methodref 102 103), (0, .class_ 104), (0, .nameAndType 105 106), (0, u "java/lang/Math"), (0, u "max"), (0, u "(II)I"), (0, .methodref 12 108), (0, .nameAndType 109 106), (0, u "checkIndex"), (13, u "MAX_EDGES"), (5, u "vertexCount"), (0, u "()I"), (0, u "edgeCount"), (1, u "(I)I"), (1, u "successorCount"), (0, u "successor")] 3

def k3c0 : Code := { maxStack := 4, maxLocals := 5, code := prog_16_method_1_code, exceptionTable := #[], attributes := #[] }
def k3m0 : Method := { name := "<init>", desc := "([I[I[I[I)V", sig := { parameters := [(.array .int), (.array .int), (.array .int), (.array .int)], returnType := none }, accessFlags := 1, code := some k3c0 }
def k3c1 : Code := { maxStack := 6, maxLocals := 6, code := prog_16_method_2_code, exceptionTable := #[], attributes := #[] }
def k3m1 : Method := { name := "checkShape", desc := "([I[I[I[I)V", sig := { parameters := [(.array .int), (.array .int), (.array .int), (.array .int)], returnType := none }, accessFlags := 10, code := some k3c1 }
def k3c2 : Code := { maxStack := 8, maxLocals := 5, code := prog_16_method_3_code, exceptionTable := #[], attributes := #[] }
def k3m2 : Method := { name := "checkVertices", desc := "([I[I[I[I)V", sig := { parameters := [(.array .int), (.array .int), (.array .int), (.array .int)], returnType := none }, accessFlags := 10, code := some k3c2 }
def k3c3 : Code := { maxStack := 6, maxLocals := 9, code := prog_16_method_4_code, exceptionTable := #[], attributes := #[] }
def k3m3 : Method := { name := "checkVertex", desc := "(III[IIII)V", sig := { parameters := [.int, .int, .int, (.array .int), .int, .int, .int], returnType := none }, accessFlags := 8, code := some k3c3 }
def k3c4 : Code := { maxStack := 2, maxLocals := 6, code := prog_16_method_6_code, exceptionTable := #[], attributes := #[] }
def k3m4 : Method := { name := "highest", desc := "([I)I", sig := { parameters := [(.array .int)], returnType := some .int }, accessFlags := 10, code := some k3c4 }
def k3c5 : Code := { maxStack := 1, maxLocals := 1, code := prog_16_method_7_code, exceptionTable := #[], attributes := #[] }
def k3m5 : Method := { name := "vertexCount", desc := "()I", sig := { parameters := [], returnType := some .int }, accessFlags := 1, code := some k3c5 }
def k3c6 : Code := { maxStack := 1, maxLocals := 1, code := prog_16_method_8_code, exceptionTable := #[], attributes := #[] }
def k3m6 : Method := { name := "edgeCount", desc := "()I", sig := { parameters := [], returnType := some .int }, accessFlags := 1, code := some k3c6 }
def k3c7 : Code := { maxStack := 3, maxLocals := 2, code := prog_16_method_12_code, exceptionTable := #[], attributes := #[] }
def k3m7 : Method := { name := "successorCount", desc := "(I)I", sig := { parameters := [.int], returnType := some .int }, accessFlags := 1, code := some k3c7 }
def k3c8 : Code := { maxStack := 4, maxLocals := 4, code := prog_16_method_13_code, exceptionTable := #[], attributes := #[] }
def k3m8 : Method := { name := "successor", desc := "(II)I", sig := { parameters := [.int, .int], returnType := some .int }, accessFlags := 1, code := some k3c8 }
/-- com/example/cycles_to_winners/cyclestowinners/model/Game -/
def k3 : Class := { plain "com/example/cycles_to_winners/cyclestowinners/model/Game" (some 0) with
  accessFlags := 33
  interfaces := #[]
  cf := some (fileOf pool3 24 #[] #[{ accessFlags := 1, nameIndex := 7, descriptorIndex := 42, attributes := #[] }, { accessFlags := 10, nameIndex := 41, descriptorIndex := 42, attributes := #[] }, { accessFlags := 10, nameIndex := 45, descriptorIndex := 42, attributes := #[] }, { accessFlags := 8, nameIndex := 74, descriptorIndex := 75, attributes := #[] }, { accessFlags := 10, nameIndex := 48, descriptorIndex := 49, attributes := #[] }, { accessFlags := 1, nameIndex := 129, descriptorIndex := 130, attributes := #[] }, { accessFlags := 1, nameIndex := 131, descriptorIndex := 130, attributes := #[] }, { accessFlags := 1, nameIndex := 135, descriptorIndex := 133, attributes := #[] }, { accessFlags := 1, nameIndex := 136, descriptorIndex := 106, attributes := #[] }] 33 4 #[] #[{ accessFlags := 25, nameIndex := 123, descriptorIndex := 53, attributes := #[] }, { accessFlags := 18, nameIndex := 10, descriptorIndex := 18, attributes := #[] }, { accessFlags := 18, nameIndex := 28, descriptorIndex := 18, attributes := #[] }, { accessFlags := 18, nameIndex := 32, descriptorIndex := 18, attributes := #[] }, { accessFlags := 18, nameIndex := 36, descriptorIndex := 18, attributes := #[] }, { accessFlags := 18, nameIndex := 52, descriptorIndex := 53, attributes := #[] }])
  fields := #[{ name := "MAX_EDGES", type := .int, accessFlags := 25, slot := 0, constantValue := 0 }, { name := "owners", type := (.array .int), accessFlags := 18, slot := 0, constantValue := 0 }, { name := "priorities", type := (.array .int), accessFlags := 18, slot := 1, constantValue := 0 }, { name := "successorStart", type := (.array .int), accessFlags := 18, slot := 2, constantValue := 0 }, { name := "successors", type := (.array .int), accessFlags := 18, slot := 3, constantValue := 0 }, { name := "maxPriority", type := .int, accessFlags := 18, slot := 4, constantValue := 0 }]
  methods := #[k3m0, k3m1, k3m2, k3m3, k3m4, k3m5, k3m6, k3m7, k3m8]
  instanceTypes := #[(.array .int), (.array .int), (.array .int), (.array .int), .int]
  staticTypes := #[.int]
  resolved := Array.replicate 140 none
  statics := none }

def pool4 : Array CpInfo := pool [(1, .class_ 2), (0, u "java/io/Serializable"), (0, .class_ 4), (0, u "java/lang/Object")] 2

/-- java/io/Serializable -/
def k4 : Class := { plain "java/io/Serializable" (some 0) with
  accessFlags := 1537
  interfaces := #[]
  cf := some (fileOf pool4 1 #[] #[] 1537 3 #[] #[])
  fields := #[]
  methods := #[]
  instanceTypes := #[]
  staticTypes := #[]
  resolved := Array.replicate 7 none
  statics := none }

def pool5 : Array CpInfo := pool [(1, .class_ 2), (0, u "java/lang/Comparable"), (0, .class_ 4), (0, u "java/lang/Object")] 7

/-- java/lang/Comparable -/
def k5 : Class := { plain "java/lang/Comparable" (some 0) with
  accessFlags := 1537
  interfaces := #[]
  cf := some (fileOf pool5 1 #[] #[] 1537 3 #[] #[])
  fields := #[]
  methods := #[]
  instanceTypes := #[]
  staticTypes := #[]
  resolved := Array.replicate 12 none
  statics := none }

def pool6 : Array CpInfo := pool [(2, .class_ 4), (1, u "java/lang/CharSequence"), (42, .class_ 48), (0, u "java/lang/CharSequence$1CodePointIterator"), (10, .class_ 60), (0, u "java/lang/CharSequence$1CharIterator"), (5, .class_ 67), (0, u "java/lang/Object")] 63

/-- java/lang/CharSequence -/
def k6 : Class := { plain "java/lang/CharSequence" (some 0) with
  accessFlags := 1537
  interfaces := #[]
  cf := some (fileOf pool6 2 #[.nestMembers #[47, 59]] #[] 1537 66 #[] #[])
  fields := #[]
  methods := #[]
  instanceTypes := #[]
  staticTypes := #[]
  resolved := Array.replicate 131 none
  statics := none }

def pool7 : Array CpInfo := pool [(1, .class_ 2), (0, u "java/lang/constant/Constable"), (0, .class_ 4), (0, u "java/lang/Object")] 6

/-- java/lang/constant/Constable -/
def k7 : Class := { plain "java/lang/constant/Constable" (some 0) with
  accessFlags := 1537
  interfaces := #[]
  cf := some (fileOf pool7 1 #[] #[] 1537 3 #[] #[])
  fields := #[]
  methods := #[]
  instanceTypes := #[]
  staticTypes := #[]
  resolved := Array.replicate 11 none
  statics := none }

def pool8 : Array CpInfo := pool [(1, .class_ 2), (0, u "java/lang/constant/ConstantDesc"), (0, .class_ 4), (0, u "java/lang/Object")] 32

/-- java/lang/constant/ConstantDesc -/
def k8 : Class := { plain "java/lang/constant/ConstantDesc" (some 0) with
  accessFlags := 1537
  interfaces := #[]
  cf := some (fileOf pool8 1 #[] #[] 1537 3 #[] #[])
  fields := #[]
  methods := #[]
  instanceTypes := #[]
  staticTypes := #[]
  resolved := Array.replicate 37 none
  statics := none }

def pool9 : Array CpInfo := pool [(2, .class_ 4), (1, u "java/lang/Object"), (0, u "<init>"), (0, u "()V"), (3, .class_ 12), (1, u "java/lang/String"), (0, u "value"), (0, u "[B"), (2, u "coder"), (0, u "B"), (2, u "hash"), (0, u "I"), (2, u "hashIsZero"), (0, u "Z"), (13, u "COMPACT_STRINGS"), (534, .class_ 576), (0, u "java/lang/CharSequence"), (22, u "CASE_INSENSITIVE_ORDER"), (0, u "Ljava/util/Comparator;"), (500, u "serialPersistentFields"), (0, u "[Ljava/io/ObjectStreamField;"), (0, .class_ 1104), (0, u "java/lang/String$CaseInsensitiveComparator"), (1, .class_ 1107), (0, u "java/io/Serializable"), (0, .class_ 1109), (0, u "java/lang/Comparable"), (0, .class_ 1111), (0, u "java/lang/constant/Constable"), (0, .class_ 1113), (0, u "java/lang/constant/ConstantDesc"), (2, u "serialVersionUID"), (0, u "J"), (3, u "REPL"), (0, u "C"), (2, u "LATIN1"), (1, u "UTF16")] 323

def k9m0 : Method := { name := "<init>", desc := "()V", sig := { parameters := [], returnType := none }, accessFlags := 1, code := none }
/-- java/lang/String -/
def k9 : Class := { plain "java/lang/String" (some 0) with
  accessFlags := 49
  interfaces := #[4, 5, 6, 7, 8]
  cf := some (fileOf pool9 10 #[.nestMembers #[1103]] #[{ accessFlags := 1, nameIndex := 5, descriptorIndex := 6, attributes := #[] }] 49 2 #[1106, 1108, 575, 1110, 1112] #[{ accessFlags := 18, nameIndex := 13, descriptorIndex := 14, attributes := #[] }, { accessFlags := 18, nameIndex := 17, descriptorIndex := 18, attributes := #[] }, { accessFlags := 2, nameIndex := 21, descriptorIndex := 22, attributes := #[] }, { accessFlags := 2, nameIndex := 25, descriptorIndex := 26, attributes := #[] }, { accessFlags := 26, nameIndex := 1116, descriptorIndex := 1117, attributes := #[] }, { accessFlags := 24, nameIndex := 40, descriptorIndex := 26, attributes := #[] }, { accessFlags := 26, nameIndex := 1101, descriptorIndex := 1102, attributes := #[] }, { accessFlags := 26, nameIndex := 1121, descriptorIndex := 1122, attributes := #[] }, { accessFlags := 25, nameIndex := 599, descriptorIndex := 600, attributes := #[] }, { accessFlags := 24, nameIndex := 1125, descriptorIndex := 18, attributes := #[] }, { accessFlags := 24, nameIndex := 1127, descriptorIndex := 18, attributes := #[] }])
  fields := #[{ name := "value", type := (.array .byte), accessFlags := 18, slot := 0, constantValue := 0 }, { name := "coder", type := .byte, accessFlags := 18, slot := 1, constantValue := 0 }, { name := "hash", type := .int, accessFlags := 2, slot := 2, constantValue := 0 }, { name := "hashIsZero", type := .boolean, accessFlags := 2, slot := 3, constantValue := 0 }, { name := "serialVersionUID", type := .long, accessFlags := 26, slot := 0, constantValue := 0 }, { name := "COMPACT_STRINGS", type := .boolean, accessFlags := 24, slot := 1, constantValue := 0 }, { name := "serialPersistentFields", type := (.array (.object "java/io/ObjectStreamField")), accessFlags := 26, slot := 2, constantValue := 0 }, { name := "REPL", type := .char, accessFlags := 26, slot := 3, constantValue := 0 }, { name := "CASE_INSENSITIVE_ORDER", type := (.object "java/util/Comparator"), accessFlags := 25, slot := 4, constantValue := 0 }, { name := "LATIN1", type := .byte, accessFlags := 24, slot := 5, constantValue := 0 }, { name := "UTF16", type := .byte, accessFlags := 24, slot := 6, constantValue := 0 }]
  methods := #[k9m0]
  instanceTypes := #[(.array .byte), .byte, .int, .boolean]
  staticTypes := #[.long, .boolean, (.array (.object "java/io/ObjectStreamField")), .char, (.object "java/util/Comparator"), .byte, .byte]
  resolved := Array.replicate 1451 none
  statics := none }

def pool10 : Array CpInfo := pool [(2, .class_ 4), (1, u "java/lang/Object"), (0, u "<init>"), (0, u "()V"), (35, .class_ 44), (1, u "java/util/Objects"), (0, u "requireNonNull"), (48, u "(Ljava/lang/Object;Ljava/lang/String;)Ljava/lang/Object;"), (10, .methodref 106 107), (0, .class_ 108), (0, .nameAndType 109 110), (0, u "jdk/internal/util/Preconditions"), (0, u "checkIndex"), (0, u "(IILjava/util/function/BiFunction;)I"), (60, u "(II)I")] 12

def k10m0 : Method := { name := "<init>", desc := "()V", sig := { parameters := [], returnType := none }, accessFlags := 2, code := none }
def k10c1 : Code := { maxStack := 3, maxLocals := 2, code := jdk_31_method_11_code, exceptionTable := #[], attributes := #[] }
def k10m1 : Method := { name := "requireNonNull", desc := "(Ljava/lang/Object;Ljava/lang/String;)Ljava/lang/Object;", sig := { parameters := [(.object "java/lang/Object"), (.object "java/lang/String")], returnType := some (.object "java/lang/Object") }, accessFlags := 9, code := some k10c1 }
def k10c2 : Code := { maxStack := 3, maxLocals := 2, code := jdk_31_method_17_code, exceptionTable := #[], attributes := #[] }
def k10m2 : Method := { name := "checkIndex", desc := "(II)I", sig := { parameters := [.int, .int], returnType := some .int }, accessFlags := 9, code := some k10c2 }
/-- java/util/Objects -/
def k10 : Class := { plain "java/util/Objects" (some 0) with
  accessFlags := 49
  interfaces := #[]
  cf := some (fileOf pool10 42 #[] #[{ accessFlags := 2, nameIndex := 5, descriptorIndex := 6, attributes := #[] }, { accessFlags := 9, nameIndex := 45, descriptorIndex := 94, attributes := #[] }, { accessFlags := 9, nameIndex := 109, descriptorIndex := 171, attributes := #[] }] 49 2 #[] #[])
  fields := #[]
  methods := #[k10m0, k10m1, k10m2]
  instanceTypes := #[]
  staticTypes := #[]
  resolved := Array.replicate 184 none
  statics := none }

def pool11 : Array CpInfo := pool [(1, .class_ 2), (0, u "java/lang/Cloneable"), (0, .class_ 4), (0, u "java/lang/Object")] 2

/-- java/lang/Cloneable -/
def k11 : Class := { plain "java/lang/Cloneable" (some 0) with
  accessFlags := 1537
  interfaces := #[]
  cf := some (fileOf pool11 1 #[] #[] 1537 3 #[] #[])
  fields := #[]
  methods := #[]
  instanceTypes := #[]
  staticTypes := #[]
  resolved := Array.replicate 7 none
  statics := none }

def pool12 : Array CpInfo := pool [(1, .methodref 2 3), (0, .class_ 4), (0, .nameAndType 5 6), (0, u "java/lang/Object"), (0, u "<init>"), (0, u "()V"), (0, .methodref 8 9), (0, .class_ 10), (0, .nameAndType 11 12), (0, u "com/example/cycles_to_winners/cyclestowinners/model/Game"), (0, u "vertexCount"), (0, u "()I"), (0, .fieldref 14 15), (0, .class_ 16), (0, .nameAndType 17 18), (0, u "com/example/cycles_to_winners/cyclestowinners/algo/Predecessors"), (0, u "start"), (0, u "[I"), (0, .methodref 8 20), (0, .nameAndType 21 12), (0, u "edgeCount"), (0, .fieldref 14 23), (0, .nameAndType 24 18), (0, u "vertices"), (0, .methodref 8 26), (0, .nameAndType 27 28), (0, u "successorCount"), (0, u "(I)I"), (0, .methodref 8 30), (0, .nameAndType 31 32), (0, u "successor"), (0, u "(II)I"), (0, .methodref 34 35), (0, .class_ 18), (0, .nameAndType 36 37), (0, u "clone"), (0, u "()Ljava/lang/Object;"), (0, u "(Lcom/example/cycles_to_winners/cyclestowinners/model/Game;)V"), (3, u "count")] 3

def k12c0 : Code := { maxStack := 6, maxLocals := 6, code := prog_1_method_1_code, exceptionTable := #[], attributes := #[] }
def k12m0 : Method := { name := "<init>", desc := "(Lcom/example/cycles_to_winners/cyclestowinners/model/Game;)V", sig := { parameters := [(.object "com/example/cycles_to_winners/cyclestowinners/model/Game")], returnType := none }, accessFlags := 0, code := some k12c0 }
def k12c1 : Code := { maxStack := 3, maxLocals := 2, code := prog_1_method_2_code, exceptionTable := #[], attributes := #[] }
def k12m1 : Method := { name := "count", desc := "(I)I", sig := { parameters := [.int], returnType := some .int }, accessFlags := 0, code := some k12c1 }
/-- com/example/cycles_to_winners/cyclestowinners/algo/Predecessors -/
def k12 : Class := { plain "com/example/cycles_to_winners/cyclestowinners/algo/Predecessors" (some 0) with
  accessFlags := 32
  interfaces := #[]
  cf := some (fileOf pool12 14 #[] #[{ accessFlags := 0, nameIndex := 5, descriptorIndex := 38, attributes := #[] }, { accessFlags := 0, nameIndex := 42, descriptorIndex := 28, attributes := #[] }] 32 2 #[] #[{ accessFlags := 18, nameIndex := 17, descriptorIndex := 18, attributes := #[] }, { accessFlags := 18, nameIndex := 24, descriptorIndex := 18, attributes := #[] }])
  fields := #[{ name := "start", type := (.array .int), accessFlags := 18, slot := 0, constantValue := 0 }, { name := "vertices", type := (.array .int), accessFlags := 18, slot := 1, constantValue := 0 }]
  methods := #[k12m0, k12m1]
  instanceTypes := #[(.array .int), (.array .int)]
  staticTypes := #[]
  resolved := Array.replicate 46 none
  statics := none }

def pool13 : Array CpInfo := pool [(2, .class_ 4), (1, u "java/lang/Object"), (0, u "<init>"), (0, u "()V"), (17, .class_ 26), (1, u "jdk/internal/util/Preconditions"), (6, u "checkIndex"), (21, .class_ 56), (0, u "jdk/internal/util/Preconditions$4"), (57, .class_ 115), (0, u "jdk/internal/util/Preconditions$1"), (7, u "SIOOBE_FORMATTER"), (0, u "Ljava/util/function/BiFunction;"), (0, .class_ 126), (0, u "jdk/internal/util/Preconditions$2"), (3, u "AIOOBE_FORMATTER"), (0, .class_ 132), (0, u "jdk/internal/util/Preconditions$3"), (3, u "IOOBE_FORMATTER"), (41, u "(IILjava/util/function/BiFunction;)I")] 15

def k13m0 : Method := { name := "<init>", desc := "()V", sig := { parameters := [], returnType := none }, accessFlags := 1, code := none }
def k13c1 : Code := { maxStack := 3, maxLocals := 3, code := jdk_41_method_11_code, exceptionTable := #[], attributes := #[] }
def k13m1 : Method := { name := "checkIndex", desc := "(IILjava/util/function/BiFunction;)I", sig := { parameters := [.int, .int, (.object "java/util/function/BiFunction")], returnType := some .int }, accessFlags := 9, code := some k13c1 }
/-- jdk/internal/util/Preconditions -/
def k13 : Class := { plain "jdk/internal/util/Preconditions" (some 0) with
  accessFlags := 33
  interfaces := #[]
  cf := some (fileOf pool13 24 #[.nestMembers #[55, 131, 125, 114]] #[{ accessFlags := 1, nameIndex := 5, descriptorIndex := 6, attributes := #[] }, { accessFlags := 9, nameIndex := 33, descriptorIndex := 178, attributes := #[] }] 33 2 #[] #[{ accessFlags := 25, nameIndex := 123, descriptorIndex := 124, attributes := #[] }, { accessFlags := 25, nameIndex := 130, descriptorIndex := 124, attributes := #[] }, { accessFlags := 25, nameIndex := 136, descriptorIndex := 124, attributes := #[] }])
  fields := #[{ name := "SIOOBE_FORMATTER", type := (.object "java/util/function/BiFunction"), accessFlags := 25, slot := 0, constantValue := 0 }, { name := "AIOOBE_FORMATTER", type := (.object "java/util/function/BiFunction"), accessFlags := 25, slot := 1, constantValue := 0 }, { name := "IOOBE_FORMATTER", type := (.object "java/util/function/BiFunction"), accessFlags := 25, slot := 2, constantValue := 0 }]
  methods := #[k13m0, k13m1]
  instanceTypes := #[]
  staticTypes := #[(.object "java/util/function/BiFunction"), (.object "java/util/function/BiFunction"), (.object "java/util/function/BiFunction")]
  resolved := Array.replicate 194 none
  statics := none }

/-- the primitive byte -/
def k14 : Class := { plain "byte" none with kind := .primitive 'B', accessFlags := 0x411 }
/-- [B -/
def k15 : Class := { plain "[B" (some 0) with kind := .array 14 .byte, interfaces := #[11, 4], accessFlags := 1041 }

/-- the primitive int -/
def k16 : Class := { plain "int" none with kind := .primitive 'I', accessFlags := 0x411 }
/-- [I -/
def k17 : Class := { plain "[I" (some 0) with kind := .array 16 .int, interfaces := #[11, 4], accessFlags := 1041 }

def heap : Heap := #[]
def classes : Array Class := #[k0, k1, k2, k3, k4, k5, k6, k7, k8, k9, k10, k11, k12, k13, k14, k15, k16, k17]
def interned : List (Array UInt16 × Addr) := []
def slotsUsed : Nat := 0
def theMethod : MethodId := ⟨1, 1⟩
def args0 : Array Value := #[.int 5, .long 7]
def aboutOver (below : List Frame) : State where
  vm := { classes := classes, interned := interned.toArray }
  heap := heap
  slotsUsed := slotsUsed
  threads := #[{ frames := .invoking theMethod args0 :: below }]
def below0 : List Frame := [.native { method := ⟨0, 0⟩, args := #[] }]
def about1 : State := aboutOver below0
def p0 : Program := .bare "" "" ""
def e0 : Env := launch0.env 0 0 0
theorem w_frames : about1.frames = Frame.invoking theMethod args0 :: below0 := rfl
set_option maxRecDepth 65536 in
theorem w_args : argsFit about1.vm theMethod args0 = true := by decide +kernel
set_option maxRecDepth 65536 in
theorem w_heap : heapFits about1 = true := by decide +kernel
set_option maxRecDepth 65536 in
theorem w_runnable : about1.curStatus? = some .runnable := by decide +kernel
set_option maxRecDepth 65536 in
theorem w_alone : about1.alone = true := by decide +kernel
set_option maxRecDepth 65536 in
theorem w_named : about1.methodNamed? x = some theMethod := by decide +kernel
set_option maxRecDepth 65536 in
theorem w_hears : about1.hears theMethod below0 = true := by decide +kernel
set_option maxRecDepth 65536 in
theorem w_ripe : about1.ripe theMethod args0 below0 = true := by decide +kernel
theorem w_running : about1.status = .running := rfl
set_option maxRecDepth 65536 in
theorem w_room : about1.hasRoom e0.platform room_1 = true :=
  launch0.hasRoom_least _ room_1 (by decide +kernel) (by decide +kernel) (by decide +kernel) (by decide +kernel) (by decide +kernel) (by decide +kernel)
theorem allAtoms_all (ts : List Jvm.Cond) (a : Array Jvm.Value) (st : Jvm.State) : (allAtoms ts).before a st = ts.all (fun c => c.before a st) := by
  induction ts with
  | nil => rfl
  | cons c t ih =>
    show (Jvm.Cond.and c (allAtoms t)).before a st = _
    rw [Jvm.Cond.before_and, ih, List.all_cons]
def words1 : List Jvm.Cond := Jvm.Cond.code x code maxLocals ret :: tables_1
/-- a 'code' word, met by the world's own term for the bytes: nothing is compared byte by byte -/
theorem code_word {y : MethodName} {bytes : ByteArray} {mx : Nat} {rt : Option FieldType} {a : Array Value} {s : State} {m : MethodId} {meth : Method} {c : Code} (h1 : s.methodNamed? y = some m) (h2 : s.vm.method? m = some meth) (h3 : meth.code = some c) (h4 : c.code = bytes)
    (h5 : (c.maxLocals == mx && c.exceptionTable.isEmpty && decide (c.maxStack ≤ mostOperands) && decide (meth.sig.returnType = rt) && !meth.locks && decide (parseMethodDescriptor y.desc = some meth.sig)) = true) : (Jvm.Cond.code y bytes mx rt).before a s = true := by
  simp only [Bool.and_eq_true, beq_iff_eq, Bool.not_eq_true', decide_eq_true_eq] at h5
  obtain ⟨⟨⟨⟨⟨g1, g2⟩, g3⟩, g4⟩, g5⟩, g6⟩ := h5
  simp [Cond.before, Cond.holds, Cond.value, h1, h2, h3, h4, g1, g2, g3, g4, g5, g6]
def isCode : Jvm.Cond → Bool
  | .code _ _ _ _ => true
  | _ => false
theorem all_split {L : List Jvm.Cond} {P : Jvm.Cond → Bool} (h1 : L.all (fun c => isCode c || P c) = true) (h2 : ∀ c ∈ L.filter isCode, P c = true) : L.all P = true := by
  refine List.all_eq_true.mpr fun c hc => ?_
  have h := List.all_eq_true.mp h1 c hc
  rcases Bool.eq_false_or_eq_true (isCode c) with hi | hi
  · exact h2 c (List.mem_filter.mpr ⟨hc, hi⟩)
  · simpa [hi] using h
set_option maxRecDepth 65536 in
theorem w_c0 : (Jvm.Cond.code x code maxLocals ret).before args0 about1 = true := code_word (m := ⟨1, 1⟩) (meth := k1m1) (c := k1c1) (by decide +kernel) rfl rfl rfl (by decide +kernel)
set_option maxRecDepth 65536 in
theorem w_c1 : (Jvm.Cond.code ({ cls := "java/lang/Math", name := "min", desc := "(II)I" } : Jvm.MethodName) jdk_29_method_69_code (2 : Nat) (Option.some Jvm.ClassFile.FieldType.int)).before args0 about1 = true := code_word (m := ⟨2, 2⟩) (meth := k2m2) (c := k2c2) (by decide +kernel) rfl rfl rfl (by decide +kernel)
set_option maxRecDepth 65536 in
theorem w_c2 : (Jvm.Cond.code ({ cls := "com/example/cycles_to_winners/cyclestowinners/algo/PredecessorsCountPinLaw", name := "e", desc := "(JI)I" } : Jvm.MethodName) method_3_code (3 : Nat) (Option.some Jvm.ClassFile.FieldType.int)).before args0 about1 = true := code_word (m := ⟨1, 2⟩) (meth := k1m2) (c := k1c2) (by decide +kernel) rfl rfl rfl (by decide +kernel)
set_option maxRecDepth 65536 in
theorem w_c3 : (Jvm.Cond.code ({ cls := "com/example/cycles_to_winners/cyclestowinners/model/Game", name := "<init>", desc := "([I[I[I[I)V" } : Jvm.MethodName) prog_16_method_1_code (5 : Nat) (Option.none : Option Jvm.ClassFile.FieldType)).before args0 about1 = true := code_word (m := ⟨3, 0⟩) (meth := k3m0) (c := k3c0) (by decide +kernel) rfl rfl rfl (by decide +kernel)
set_option maxRecDepth 65536 in
theorem w_c4 : (Jvm.Cond.code ({ cls := "java/lang/Object", name := "<init>", desc := "()V" } : Jvm.MethodName) object_method_1_code (1 : Nat) (Option.none : Option Jvm.ClassFile.FieldType)).before args0 about1 = true := code_word (m := ⟨0, 0⟩) (meth := k0m0) (c := k0c0) (by decide +kernel) rfl rfl rfl (by decide +kernel)
set_option maxRecDepth 65536 in
theorem w_c5 : (Jvm.Cond.code ({ cls := "java/util/Objects", name := "requireNonNull", desc := "(Ljava/lang/Object;Ljava/lang/String;)Ljava/lang/Object;" } : Jvm.MethodName) jdk_31_method_11_code (2 : Nat) (Option.some (Jvm.ClassFile.FieldType.object "java/lang/Object"))).before args0 about1 = true := code_word (m := ⟨10, 1⟩) (meth := k10m1) (c := k10c1) (by decide +kernel) rfl rfl rfl (by decide +kernel)
set_option maxRecDepth 65536 in
theorem w_c6 : (Jvm.Cond.code ({ cls := "com/example/cycles_to_winners/cyclestowinners/model/Game", name := "checkShape", desc := "([I[I[I[I)V" } : Jvm.MethodName) prog_16_method_2_code (6 : Nat) (Option.none : Option Jvm.ClassFile.FieldType)).before args0 about1 = true := code_word (m := ⟨3, 1⟩) (meth := k3m1) (c := k3c1) (by decide +kernel) rfl rfl rfl (by decide +kernel)
set_option maxRecDepth 65536 in
theorem w_c7 : (Jvm.Cond.code ({ cls := "com/example/cycles_to_winners/cyclestowinners/model/Game", name := "checkVertices", desc := "([I[I[I[I)V" } : Jvm.MethodName) prog_16_method_3_code (5 : Nat) (Option.none : Option Jvm.ClassFile.FieldType)).before args0 about1 = true := code_word (m := ⟨3, 2⟩) (meth := k3m2) (c := k3c2) (by decide +kernel) rfl rfl rfl (by decide +kernel)
set_option maxRecDepth 65536 in
theorem w_c8 : (Jvm.Cond.code ({ cls := "com/example/cycles_to_winners/cyclestowinners/model/Game", name := "checkVertex", desc := "(III[IIII)V" } : Jvm.MethodName) prog_16_method_4_code (9 : Nat) (Option.none : Option Jvm.ClassFile.FieldType)).before args0 about1 = true := code_word (m := ⟨3, 3⟩) (meth := k3m3) (c := k3c3) (by decide +kernel) rfl rfl rfl (by decide +kernel)
set_option maxRecDepth 65536 in
theorem w_c9 : (Jvm.Cond.code ({ cls := "com/example/cycles_to_winners/cyclestowinners/model/Game", name := "highest", desc := "([I)I" } : Jvm.MethodName) prog_16_method_6_code (6 : Nat) (Option.some Jvm.ClassFile.FieldType.int)).before args0 about1 = true := code_word (m := ⟨3, 4⟩) (meth := k3m4) (c := k3c4) (by decide +kernel) rfl rfl rfl (by decide +kernel)
set_option maxRecDepth 65536 in
theorem w_c10 : (Jvm.Cond.code ({ cls := "java/lang/Math", name := "max", desc := "(II)I" } : Jvm.MethodName) jdk_29_method_65_code (2 : Nat) (Option.some Jvm.ClassFile.FieldType.int)).before args0 about1 = true := code_word (m := ⟨2, 1⟩) (meth := k2m1) (c := k2c1) (by decide +kernel) rfl rfl rfl (by decide +kernel)
set_option maxRecDepth 65536 in
theorem w_c11 : (Jvm.Cond.code ({ cls := "com/example/cycles_to_winners/cyclestowinners/algo/Predecessors", name := "<init>", desc := "(Lcom/example/cycles_to_winners/cyclestowinners/model/Game;)V" } : Jvm.MethodName) prog_1_method_1_code (6 : Nat) (Option.none : Option Jvm.ClassFile.FieldType)).before args0 about1 = true := code_word (m := ⟨12, 0⟩) (meth := k12m0) (c := k12c0) (by decide +kernel) rfl rfl rfl (by decide +kernel)
set_option maxRecDepth 65536 in
theorem w_c12 : (Jvm.Cond.code ({ cls := "com/example/cycles_to_winners/cyclestowinners/model/Game", name := "vertexCount", desc := "()I" } : Jvm.MethodName) prog_16_method_7_code (1 : Nat) (Option.some Jvm.ClassFile.FieldType.int)).before args0 about1 = true := code_word (m := ⟨3, 5⟩) (meth := k3m5) (c := k3c5) (by decide +kernel) rfl rfl rfl (by decide +kernel)
set_option maxRecDepth 65536 in
theorem w_c13 : (Jvm.Cond.code ({ cls := "com/example/cycles_to_winners/cyclestowinners/model/Game", name := "edgeCount", desc := "()I" } : Jvm.MethodName) prog_16_method_8_code (1 : Nat) (Option.some Jvm.ClassFile.FieldType.int)).before args0 about1 = true := code_word (m := ⟨3, 6⟩) (meth := k3m6) (c := k3c6) (by decide +kernel) rfl rfl rfl (by decide +kernel)
set_option maxRecDepth 65536 in
theorem w_c14 : (Jvm.Cond.code ({ cls := "com/example/cycles_to_winners/cyclestowinners/model/Game", name := "successorCount", desc := "(I)I" } : Jvm.MethodName) prog_16_method_12_code (2 : Nat) (Option.some Jvm.ClassFile.FieldType.int)).before args0 about1 = true := code_word (m := ⟨3, 7⟩) (meth := k3m7) (c := k3c7) (by decide +kernel) rfl rfl rfl (by decide +kernel)
set_option maxRecDepth 65536 in
theorem w_c15 : (Jvm.Cond.code ({ cls := "com/example/cycles_to_winners/cyclestowinners/model/Game", name := "successor", desc := "(II)I" } : Jvm.MethodName) prog_16_method_13_code (4 : Nat) (Option.some Jvm.ClassFile.FieldType.int)).before args0 about1 = true := code_word (m := ⟨3, 8⟩) (meth := k3m8) (c := k3c8) (by decide +kernel) rfl rfl rfl (by decide +kernel)
set_option maxRecDepth 65536 in
theorem w_c16 : (Jvm.Cond.code ({ cls := "java/util/Objects", name := "checkIndex", desc := "(II)I" } : Jvm.MethodName) jdk_31_method_17_code (2 : Nat) (Option.some Jvm.ClassFile.FieldType.int)).before args0 about1 = true := code_word (m := ⟨10, 2⟩) (meth := k10m2) (c := k10c2) (by decide +kernel) rfl rfl rfl (by decide +kernel)
set_option maxRecDepth 65536 in
theorem w_c17 : (Jvm.Cond.code ({ cls := "jdk/internal/util/Preconditions", name := "checkIndex", desc := "(IILjava/util/function/BiFunction;)I" } : Jvm.MethodName) jdk_41_method_11_code (3 : Nat) (Option.some Jvm.ClassFile.FieldType.int)).before args0 about1 = true := code_word (m := ⟨13, 1⟩) (meth := k13m1) (c := k13c1) (by decide +kernel) rfl rfl rfl (by decide +kernel)
set_option maxRecDepth 65536 in
theorem w_c18 : (Jvm.Cond.code ({ cls := "com/example/cycles_to_winners/cyclestowinners/algo/Predecessors", name := "count", desc := "(I)I" } : Jvm.MethodName) prog_1_method_2_code (2 : Nat) (Option.some Jvm.ClassFile.FieldType.int)).before args0 about1 = true := code_word (m := ⟨12, 1⟩) (meth := k12m1) (c := k12c1) (by decide +kernel) rfl rfl rfl (by decide +kernel)
set_option maxRecDepth 65536 in
theorem w_c19 : (Jvm.Cond.code ({ cls := "com/example/cycles_to_winners/cyclestowinners/algo/PredecessorsCountPinLaw", name := "occ", desc := "([II)I" } : Jvm.MethodName) method_4_code (2 : Nat) (Option.some Jvm.ClassFile.FieldType.int)).before args0 about1 = true := code_word (m := ⟨1, 3⟩) (meth := k1m3) (c := k1c3) (by decide +kernel) rfl rfl rfl (by decide +kernel)
set_option maxRecDepth 65536 in
theorem w_c20 : (Jvm.Cond.code ({ cls := "com/example/cycles_to_winners/cyclestowinners/algo/PredecessorsCountPinLaw", name := "is", desc := "(II)I" } : Jvm.MethodName) method_5_code (2 : Nat) (Option.some Jvm.ClassFile.FieldType.int)).before args0 about1 = true := code_word (m := ⟨1, 4⟩) (meth := k1m4) (c := k1c4) (by decide +kernel) rfl rfl rfl (by decide +kernel)
def codes1 : List Jvm.Cond := [Jvm.Cond.code x code maxLocals ret, Jvm.Cond.code ({ cls := "java/lang/Math", name := "min", desc := "(II)I" } : Jvm.MethodName) jdk_29_method_69_code (2 : Nat) (Option.some Jvm.ClassFile.FieldType.int), Jvm.Cond.code ({ cls := "com/example/cycles_to_winners/cyclestowinners/algo/PredecessorsCountPinLaw", name := "e", desc := "(JI)I" } : Jvm.MethodName) method_3_code (3 : Nat) (Option.some Jvm.ClassFile.FieldType.int), Jvm.Cond.code ({ cls := "com/example/cycles_to_winners/cyclestowinners/model/Game", name := "<init>", desc := "([I[I[I[I)V" } : Jvm.MethodName) prog_16_method_1_code (5 : Nat) (Option.none : Option Jvm.ClassFile.FieldType), Jvm.Cond.code ({ cls := "java/lang/Object", name := "<init>", desc := "()V" } : Jvm.MethodName) object_method_1_code (1 : Nat) (Option.none : Option Jvm.ClassFile.FieldType), Jvm.Cond.code ({ cls := "java/util/Objects", name := "requireNonNull", desc := "(Ljava/lang/Object;Ljava/lang/String;)Ljava/lang/Object;" } : Jvm.MethodName) jdk_31_method_11_code (2 : Nat) (Option.some (Jvm.ClassFile.FieldType.object "java/lang/Object")), Jvm.Cond.code ({ cls := "com/example/cycles_to_winners/cyclestowinners/model/Game", name := "checkShape", desc := "([I[I[I[I)V" } : Jvm.MethodName) prog_16_method_2_code (6 : Nat) (Option.none : Option Jvm.ClassFile.FieldType), Jvm.Cond.code ({ cls := "com/example/cycles_to_winners/cyclestowinners/model/Game", name := "checkVertices", desc := "([I[I[I[I)V" } : Jvm.MethodName) prog_16_method_3_code (5 : Nat) (Option.none : Option Jvm.ClassFile.FieldType), Jvm.Cond.code ({ cls := "com/example/cycles_to_winners/cyclestowinners/model/Game", name := "checkVertex", desc := "(III[IIII)V" } : Jvm.MethodName) prog_16_method_4_code (9 : Nat) (Option.none : Option Jvm.ClassFile.FieldType), Jvm.Cond.code ({ cls := "com/example/cycles_to_winners/cyclestowinners/model/Game", name := "highest", desc := "([I)I" } : Jvm.MethodName) prog_16_method_6_code (6 : Nat) (Option.some Jvm.ClassFile.FieldType.int), Jvm.Cond.code ({ cls := "java/lang/Math", name := "max", desc := "(II)I" } : Jvm.MethodName) jdk_29_method_65_code (2 : Nat) (Option.some Jvm.ClassFile.FieldType.int), Jvm.Cond.code ({ cls := "com/example/cycles_to_winners/cyclestowinners/algo/Predecessors", name := "<init>", desc := "(Lcom/example/cycles_to_winners/cyclestowinners/model/Game;)V" } : Jvm.MethodName) prog_1_method_1_code (6 : Nat) (Option.none : Option Jvm.ClassFile.FieldType), Jvm.Cond.code ({ cls := "com/example/cycles_to_winners/cyclestowinners/model/Game", name := "vertexCount", desc := "()I" } : Jvm.MethodName) prog_16_method_7_code (1 : Nat) (Option.some Jvm.ClassFile.FieldType.int), Jvm.Cond.code ({ cls := "com/example/cycles_to_winners/cyclestowinners/model/Game", name := "edgeCount", desc := "()I" } : Jvm.MethodName) prog_16_method_8_code (1 : Nat) (Option.some Jvm.ClassFile.FieldType.int), Jvm.Cond.code ({ cls := "com/example/cycles_to_winners/cyclestowinners/model/Game", name := "successorCount", desc := "(I)I" } : Jvm.MethodName) prog_16_method_12_code (2 : Nat) (Option.some Jvm.ClassFile.FieldType.int), Jvm.Cond.code ({ cls := "com/example/cycles_to_winners/cyclestowinners/model/Game", name := "successor", desc := "(II)I" } : Jvm.MethodName) prog_16_method_13_code (4 : Nat) (Option.some Jvm.ClassFile.FieldType.int), Jvm.Cond.code ({ cls := "java/util/Objects", name := "checkIndex", desc := "(II)I" } : Jvm.MethodName) jdk_31_method_17_code (2 : Nat) (Option.some Jvm.ClassFile.FieldType.int), Jvm.Cond.code ({ cls := "jdk/internal/util/Preconditions", name := "checkIndex", desc := "(IILjava/util/function/BiFunction;)I" } : Jvm.MethodName) jdk_41_method_11_code (3 : Nat) (Option.some Jvm.ClassFile.FieldType.int), Jvm.Cond.code ({ cls := "com/example/cycles_to_winners/cyclestowinners/algo/Predecessors", name := "count", desc := "(I)I" } : Jvm.MethodName) prog_1_method_2_code (2 : Nat) (Option.some Jvm.ClassFile.FieldType.int), Jvm.Cond.code ({ cls := "com/example/cycles_to_winners/cyclestowinners/algo/PredecessorsCountPinLaw", name := "occ", desc := "([II)I" } : Jvm.MethodName) method_4_code (2 : Nat) (Option.some Jvm.ClassFile.FieldType.int), Jvm.Cond.code ({ cls := "com/example/cycles_to_winners/cyclestowinners/algo/PredecessorsCountPinLaw", name := "is", desc := "(II)I" } : Jvm.MethodName) method_5_code (2 : Nat) (Option.some Jvm.ClassFile.FieldType.int)]
set_option maxRecDepth 65536 in
theorem codes_eq : words1.filter isCode = codes1 := rfl
theorem w_codes : ∀ c ∈ words1.filter isCode, c.before args0 about1 = true := by
  rw [codes_eq]
  intro c hc
  simp only [codes1, List.mem_cons, List.not_mem_nil, or_false] at hc
  rcases hc with rfl | rfl | rfl | rfl | rfl | rfl | rfl | rfl | rfl | rfl | rfl | rfl | rfl | rfl | rfl | rfl | rfl | rfl | rfl | rfl | rfl
  · exact w_c0
  · exact w_c1
  · exact w_c2
  · exact w_c3
  · exact w_c4
  · exact w_c5
  · exact w_c6
  · exact w_c7
  · exact w_c8
  · exact w_c9
  · exact w_c10
  · exact w_c11
  · exact w_c12
  · exact w_c13
  · exact w_c14
  · exact w_c15
  · exact w_c16
  · exact w_c17
  · exact w_c18
  · exact w_c19
  · exact w_c20
set_option maxRecDepth 65536 in
theorem w_t1 : (words1.take 24).all (fun c => isCode c || c.before args0 about1) = true := by decide +kernel
set_option maxRecDepth 65536 in
theorem w_t2 : ((words1.drop 24).take 24).all (fun c => isCode c || c.before args0 about1) = true := by decide +kernel
set_option maxRecDepth 65536 in
theorem w_t3 : (((words1.drop 24).drop 24).take 24).all (fun c => isCode c || c.before args0 about1) = true := by decide +kernel
set_option maxRecDepth 65536 in
theorem w_t4 : ((((words1.drop 24).drop 24).drop 24).take 24).all (fun c => isCode c || c.before args0 about1) = true := by decide +kernel
set_option maxRecDepth 65536 in
theorem w_t5 : ((((words1.drop 24).drop 24).drop 24).drop 24).all (fun c => isCode c || c.before args0 about1) = true := by decide +kernel
theorem w_tables : (allAtoms (Jvm.Cond.code x code maxLocals ret :: tables_1)).before args0 about1 = true := by
  rw [allAtoms_all]
  show words1.all (fun c => c.before args0 about1) = true
  refine all_split ?_ w_codes
  rw [← List.take_append_drop 24 words1, List.all_append, w_t1, ← List.take_append_drop 24 (words1.drop 24), List.all_append, w_t2, ← List.take_append_drop 24 ((words1.drop 24).drop 24), List.all_append, w_t3, ← List.take_append_drop 24 (((words1.drop 24).drop 24).drop 24), List.all_append, w_t4, w_t5]
  rfl
set_option maxRecDepth 65536 in
theorem w_case : (Jvm.Cond.and given_1 narrow_1).before args0 about1 = true := by decide +kernel
theorem w_applies : (headSpec (Jvm.Cond.code x code maxLocals ret :: tables_1) room_1).applies x e0.platform about1 = true :=
  (Spec.applies_iff w_frames).mpr ⟨w_running, w_runnable, w_alone, w_named, w_hears, w_ripe, w_room, w_tables⟩
theorem atStart : AtStart classFile x code maxLocals ret World_1 tables_1 room_1 Calls_1 rest_1 Pre_1 launch0 p0 e0 about1 theMethod args0 below0 :=
  ⟨lists_1, trivial, launch0.admits_env _ _ _, launch0.least_env, fairChoices_fair.cas, fairChoices_fair.clock, w_frames, w_args, w_heap, w_applies, trivial, trivial, w_case⟩
end start1
theorem witness_1 : WitnessClaimed_1 := ⟨start1.p0, start1.e0, start1.about1, start1.theMethod, start1.args0, start1.below0, start1.atStart⟩
end Jvm.Pilot.@@N@@

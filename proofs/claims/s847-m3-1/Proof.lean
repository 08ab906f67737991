import JvmDerived
import JvmDerived.Pilot.@@N@@Statement
import JvmDerived.Pilot.@@N@@Code
set_option linter.unusedVariables false
set_option linter.unusedSimpArgs false
namespace Jvm.Pilot.@@N@@
open Jvm Jvm.ClassFile Sem Op Lib Jvm.Free Jvm.Stand Jvm.LawKit Jvm.RoadKit Bundle Jvm.Pilot.@@N@@.Jvm.D
-- LAYER BEGIN
section OwnW
variable {l : Launch} {Z : State} {y : MethodName} {bytes : ByteArray} {ml : Nat} {ret : Option FieldType} {R : Room} {n0 : Nat} {Q : Option Value → Heap → Prop} {h : Heap} {cells slots pc pc' : Nat} {Ls Ls' : Array Slot} {st st' : List Value} {a0 : Array Value}
/-- from this point of the body (heap h, so many cells and slots made, at pc with these locals and this stack) every run returns; Q holds of the value and the heap; all that was written lies at or above n0 -/
def own_W (l : Launch) (Z : State) (y : MethodName) (bytes : ByteArray) (ml : Nat) (ret : Option FieldType) (R : Room) (n0 : Nat) (Q : Option Value → Heap → Prop) (h : Heap) (cells slots pc : Nat) (Ls : Array Slot) (st : List Value) : Prop :=
  ∀ (p : Program) (e : Env) (s : State) (vm0 : Vm) (k0 : Nat) (m : MethodId) (args : Array Value) (below : List Frame) (meth : Method) (c : Code) (T : State) (locs : List Loc),
    p.tables.exec = Jvm.exec → Z.Warmed39 (s.setVm vm0).vm → (s.setVm vm0).vm.findClass y.cls = some m.cls → c.code = bytes → c.maxLocals = ml → meth.sig.returnType = ret → meth.locks = false → meth.name = y.name → cells ≤ R.cells → slots ≤ R.slots →
    Stand p l e R (s.setVm vm0) m args below meth c T locs cells slots → T.heap = h → Fr n0 locs → s.Since vm0 k0 → k0 ≤ h.size →
    ∃ s₂ o, Steps p.tables e below (T.setTop (mkF m pc Ls st)) s₂ ∧ s₂.status = .running ∧ Ended s₂ below o ∧ ∃ v L, o = .returned v ∧ (Q v s₂.heap ∧ Fr n0 L) ∧ ReturnedEndW s o s₂ L R.cells R.slots
theorem own_pure (hs : ∀ (p : Program) (e : Env) (below : List Frame) (T target : State) (m : MethodId) (c : Code), At T m c below → p.tables.exec = Jvm.exec → c.code = bytes → Steps p.tables e below (T.setTop (mkF m pc' Ls' st')) target → Steps p.tables e below (T.setTop (mkF m pc Ls st)) target)
    (k : own_W l Z y bytes ml ret R n0 Q h cells slots pc' Ls' st') : own_W l Z y bytes ml ret R n0 Q h cells slots pc Ls st := by
  intro p e s vm0 k0 m args below meth c T locs hx hZ hown hby hml hret hlk hnm hce hsl X eT N hS hk
  obtain ⟨s₂, o, h1, h2⟩ := k p e s vm0 k0 m args below meth c T locs hx hZ hown hby hml hret hlk hnm hce hsl X eT N hS hk
  exact ⟨s₂, o, hs p e below T s₂ m c X.here hx hby h1, h2⟩
theorem own_more {cells' slots' : Nat} (hc : cells ≤ cells') (hs : slots ≤ slots') (hc' : cells' ≤ R.cells) (hs' : slots' ≤ R.slots) (k : own_W l Z y bytes ml ret R n0 Q h cells' slots' pc Ls st) : own_W l Z y bytes ml ret R n0 Q h cells slots pc Ls st := by
  intro p e s vm0 k0 m args below meth c T locs hx hZ hown hby hml hret hlk hnm hce hsl X eT N hS hk
  exact k p e s vm0 k0 m args below meth c T locs hx hZ hown hby hml hret hlk hnm hc' hs' (X.more hc hs) eT N hS hk
theorem own_weak {Q' : Option Value → Heap → Prop} (hq : ∀ v h, Q' v h → Q v h) (k : own_W l Z y bytes ml ret R n0 Q' h cells slots pc Ls st) : own_W l Z y bytes ml ret R n0 Q h cells slots pc Ls st := by
  intro p e s vm0 k0 m args below meth c T locs hx hZ hown hby hml hret hlk hnm hce hsl X eT N hS hk
  obtain ⟨s₂, o, h1, h2, h3, v, L, h4, ⟨h5, h6⟩, h7⟩ := k p e s vm0 k0 m args below meth c T locs hx hZ hown hby hml hret hlk hnm hce hsl X eT N hS hk
  exact ⟨s₂, o, h1, h2, h3, v, L, h4, ⟨hq _ _ h5, h6⟩, h7⟩
theorem own_iloadN {i : Fin 4} {u : Int32} (hd : decode bytes pc = .ok (.iload_n i, 1)) (hp : pc + 1 = pc') (hl : Ls[i.val]? = some (.val (.int u))) (k : own_W l Z y bytes ml ret R n0 Q h cells slots pc' Ls (.int u :: st)) : own_W l Z y bytes ml ret R n0 Q h cells slots pc Ls (st) :=
  own_pure (fun p e below T t m c hA hx hb hr => by subst hp; exact XS.iloadN hA hx rfl (hb ▸ hd) hl hr) k
theorem own_iload {i : Nat} {u : Int32} (hd : decode bytes pc = .ok (.iload i, 2)) (hp : pc + 2 = pc') (hl : Ls[i]? = some (.val (.int u))) (k : own_W l Z y bytes ml ret R n0 Q h cells slots pc' Ls (.int u :: st)) : own_W l Z y bytes ml ret R n0 Q h cells slots pc Ls (st) :=
  own_pure (fun p e below T t m c hA hx hb hr => by subst hp; exact XS.iload hA hx rfl (hb ▸ hd) hl hr) k
theorem own_lloadN {i : Fin 4} {u : Int64} (hd : decode bytes pc = .ok (.lload_n i, 1)) (hp : pc + 1 = pc') (hl : Ls[i.val]? = some (.val (.long u))) (k : own_W l Z y bytes ml ret R n0 Q h cells slots pc' Ls (.long u :: st)) : own_W l Z y bytes ml ret R n0 Q h cells slots pc Ls (st) :=
  own_pure (fun p e below T t m c hA hx hb hr => by subst hp; exact XT.lloadN hA hx rfl (hb ▸ hd) hl hr) k
theorem own_lload {i : Nat} {u : Int64} (hd : decode bytes pc = .ok (.lload i, 2)) (hp : pc + 2 = pc') (hl : Ls[i]? = some (.val (.long u))) (k : own_W l Z y bytes ml ret R n0 Q h cells slots pc' Ls (.long u :: st)) : own_W l Z y bytes ml ret R n0 Q h cells slots pc Ls (st) :=
  own_pure (fun p e below T t m c hA hx hb hr => by subst hp; exact XT.lload hA hx rfl (hb ▸ hd) hl hr) k
theorem own_aloadN {i : Fin 4} {u : Addr} (hd : decode bytes pc = .ok (.aload_n i, 1)) (hp : pc + 1 = pc') (hl : Ls[i.val]? = some (.val (.ref u))) (k : own_W l Z y bytes ml ret R n0 Q h cells slots pc' Ls (.ref u :: st)) : own_W l Z y bytes ml ret R n0 Q h cells slots pc Ls (st) :=
  own_pure (fun p e below T t m c hA hx hb hr => by subst hp; exact XS.aloadN hA hx rfl (hb ▸ hd) hl rfl hr) k
theorem own_aload {i : Nat} {u : Addr} (hd : decode bytes pc = .ok (.aload i, 2)) (hp : pc + 2 = pc') (hl : Ls[i]? = some (.val (.ref u))) (k : own_W l Z y bytes ml ret R n0 Q h cells slots pc' Ls (.ref u :: st)) : own_W l Z y bytes ml ret R n0 Q h cells slots pc Ls (st) :=
  own_pure (fun p e below T t m c hA hx hb hr => by subst hp; exact XS.aload hA hx rfl (hb ▸ hd) hl rfl hr) k
theorem own_istoreN {i : Fin 4} {u : Int32} (hd : decode bytes pc = .ok (.istore_n i, 1)) (hp : pc + 1 = pc') (hl : storeLocals Ls i.val (.int u) = some Ls') (k : own_W l Z y bytes ml ret R n0 Q h cells slots pc' Ls' (st)) : own_W l Z y bytes ml ret R n0 Q h cells slots pc Ls (.int u :: st) :=
  own_pure (fun p e below T t m c hA hx hb hr => by subst hp; exact XS.istoreN hA hx rfl (hb ▸ hd) rfl hl hr) k
theorem own_istore {i : Nat} {u : Int32} (hd : decode bytes pc = .ok (.istore i, 2)) (hp : pc + 2 = pc') (hl : storeLocals Ls i (.int u) = some Ls') (k : own_W l Z y bytes ml ret R n0 Q h cells slots pc' Ls' (st)) : own_W l Z y bytes ml ret R n0 Q h cells slots pc Ls (.int u :: st) :=
  own_pure (fun p e below T t m c hA hx hb hr => by subst hp; exact XS.istore hA hx rfl (hb ▸ hd) rfl hl hr) k
theorem own_lstoreN {i : Fin 4} {u : Int64} (hd : decode bytes pc = .ok (.lstore_n i, 1)) (hp : pc + 1 = pc') (hl : storeLocals Ls i.val (.long u) = some Ls') (k : own_W l Z y bytes ml ret R n0 Q h cells slots pc' Ls' (st)) : own_W l Z y bytes ml ret R n0 Q h cells slots pc Ls (.long u :: st) :=
  own_pure (fun p e below T t m c hA hx hb hr => by subst hp; exact XT.lstoreN hA hx rfl (hb ▸ hd) rfl hl hr) k
theorem own_lstore {i : Nat} {u : Int64} (hd : decode bytes pc = .ok (.lstore i, 2)) (hp : pc + 2 = pc') (hl : storeLocals Ls i (.long u) = some Ls') (k : own_W l Z y bytes ml ret R n0 Q h cells slots pc' Ls' (st)) : own_W l Z y bytes ml ret R n0 Q h cells slots pc Ls (.long u :: st) :=
  own_pure (fun p e below T t m c hA hx hb hr => by subst hp; exact XT.lstore hA hx rfl (hb ▸ hd) rfl hl hr) k
theorem own_astoreN {i : Fin 4} {u : Addr} (hd : decode bytes pc = .ok (.astore_n i, 1)) (hp : pc + 1 = pc') (hl : storeLocals Ls i.val (.ref u) = some Ls') (k : own_W l Z y bytes ml ret R n0 Q h cells slots pc' Ls' (st)) : own_W l Z y bytes ml ret R n0 Q h cells slots pc Ls (.ref u :: st) :=
  own_pure (fun p e below T t m c hA hx hb hr => by subst hp; exact XS.astoreN hA hx rfl (hb ▸ hd) rfl rfl hl hr) k
theorem own_astore {i : Nat} {u : Addr} (hd : decode bytes pc = .ok (.astore i, 2)) (hp : pc + 2 = pc') (hl : storeLocals Ls i (.ref u) = some Ls') (k : own_W l Z y bytes ml ret R n0 Q h cells slots pc' Ls' (st)) : own_W l Z y bytes ml ret R n0 Q h cells slots pc Ls (.ref u :: st) :=
  own_pure (fun p e below T t m c hA hx hb hr => by subst hp; exact XS.astore hA hx rfl (hb ▸ hd) rfl rfl hl hr) k
theorem own_iinc {i : Nat} {cst : Int} {u w : Int32} (hd : decode bytes pc = .ok (.iinc i cst, 3)) (hp : pc + 3 = pc') (hv : Int32.ofInt cst = w) (hl : Ls[i]? = some (.val (.int u))) (hl' : storeLocals Ls i (.int (u + w)) = some Ls') (k : own_W l Z y bytes ml ret R n0 Q h cells slots pc' Ls' st) : own_W l Z y bytes ml ret R n0 Q h cells slots pc Ls st :=
  own_pure (fun p e below T t m c hA hx hb hr => by subst hp; exact XT.iincV hA hx rfl w (hb ▸ hd) hv hl hl' hr) k
theorem own_iconst {i : Int} (u : Int32) (hd : decode bytes pc = .ok (.iconst i, 1)) (hp : pc + 1 = pc') (hv : Int32.ofInt i = u) (k : own_W l Z y bytes ml ret R n0 Q h cells slots pc' Ls (.int u :: st)) : own_W l Z y bytes ml ret R n0 Q h cells slots pc Ls st :=
  own_pure (fun p e below T t m c hA hx hb hr => by subst hp; exact XT.iconstV hA hx rfl u (hb ▸ hd) hv hr) k
theorem own_bipush {i : Int} (u : Int32) (hd : decode bytes pc = .ok (.bipush i, 2)) (hp : pc + 2 = pc') (hv : (Int8.ofInt i).toInt32 = u) (k : own_W l Z y bytes ml ret R n0 Q h cells slots pc' Ls (.int u :: st)) : own_W l Z y bytes ml ret R n0 Q h cells slots pc Ls st :=
  own_pure (fun p e below T t m c hA hx hb hr => by subst hp; exact XT.bipushV hA hx rfl u (hb ▸ hd) hv hr) k
theorem own_sipush {i : Int} (u : Int32) (hd : decode bytes pc = .ok (.sipush i, 3)) (hp : pc + 3 = pc') (hv : (Int16.ofInt i).toInt32 = u) (k : own_W l Z y bytes ml ret R n0 Q h cells slots pc' Ls (.int u :: st)) : own_W l Z y bytes ml ret R n0 Q h cells slots pc Ls st :=
  own_pure (fun p e below T t m c hA hx hb hr => by subst hp; exact XT.sipushV hA hx rfl u (hb ▸ hd) hv hr) k
theorem own_lconst {i : Fin 2} (u : Int64) (hd : decode bytes pc = .ok (.lconst i, 1)) (hp : pc + 1 = pc') (hv : Int64.ofNat i = u) (k : own_W l Z y bytes ml ret R n0 Q h cells slots pc' Ls (.long u :: st)) : own_W l Z y bytes ml ret R n0 Q h cells slots pc Ls st :=
  own_pure (fun p e below T t m c hA hx hb hr => by subst hp; exact XT.lconstV hA hx rfl u (hb ▸ hd) hv hr) k
theorem own_aconstNull (hd : decode bytes pc = .ok (.aconst_null, 1)) (hp : pc + 1 = pc') (k : own_W l Z y bytes ml ret R n0 Q h cells slots pc' Ls (.null :: st)) : own_W l Z y bytes ml ret R n0 Q h cells slots pc Ls (st) :=
  own_pure (fun p e below T t m c hA hx hb hr => by subst hp; exact XS.aconstNull hA hx rfl (hb ▸ hd)  hr) k
theorem own_iadd {u w : Int32} (hd : decode bytes pc = .ok (.iadd, 1)) (hp : pc + 1 = pc') (k : own_W l Z y bytes ml ret R n0 Q h cells slots pc' Ls (.int (u + w) :: st)) : own_W l Z y bytes ml ret R n0 Q h cells slots pc Ls (.int w :: .int u :: st) :=
  own_pure (fun p e below T t m c hA hx hb hr => by subst hp; exact XS.iadd hA hx rfl (hb ▸ hd) rfl hr) k
theorem own_isub {u w : Int32} (hd : decode bytes pc = .ok (.isub, 1)) (hp : pc + 1 = pc') (k : own_W l Z y bytes ml ret R n0 Q h cells slots pc' Ls (.int (u - w) :: st)) : own_W l Z y bytes ml ret R n0 Q h cells slots pc Ls (.int w :: .int u :: st) :=
  own_pure (fun p e below T t m c hA hx hb hr => by subst hp; exact XS.isub hA hx rfl (hb ▸ hd) rfl hr) k
theorem own_imul {u w : Int32} (hd : decode bytes pc = .ok (.imul, 1)) (hp : pc + 1 = pc') (k : own_W l Z y bytes ml ret R n0 Q h cells slots pc' Ls (.int (u * w) :: st)) : own_W l Z y bytes ml ret R n0 Q h cells slots pc Ls (.int w :: .int u :: st) :=
  own_pure (fun p e below T t m c hA hx hb hr => by subst hp; exact XS.imul hA hx rfl (hb ▸ hd) rfl hr) k
theorem own_iand {u w : Int32} (hd : decode bytes pc = .ok (.iand, 1)) (hp : pc + 1 = pc') (k : own_W l Z y bytes ml ret R n0 Q h cells slots pc' Ls (.int (u &&& w) :: st)) : own_W l Z y bytes ml ret R n0 Q h cells slots pc Ls (.int w :: .int u :: st) :=
  own_pure (fun p e below T t m c hA hx hb hr => by subst hp; exact XS.iand hA hx rfl (hb ▸ hd) rfl hr) k
theorem own_ior {u w : Int32} (hd : decode bytes pc = .ok (.ior, 1)) (hp : pc + 1 = pc') (k : own_W l Z y bytes ml ret R n0 Q h cells slots pc' Ls (.int (u ||| w) :: st)) : own_W l Z y bytes ml ret R n0 Q h cells slots pc Ls (.int w :: .int u :: st) :=
  own_pure (fun p e below T t m c hA hx hb hr => by subst hp; exact XT.ior hA hx rfl (hb ▸ hd) rfl hr) k
theorem own_ixor {u w : Int32} (hd : decode bytes pc = .ok (.ixor, 1)) (hp : pc + 1 = pc') (k : own_W l Z y bytes ml ret R n0 Q h cells slots pc' Ls (.int (u ^^^ w) :: st)) : own_W l Z y bytes ml ret R n0 Q h cells slots pc Ls (.int w :: .int u :: st) :=
  own_pure (fun p e below T t m c hA hx hb hr => by subst hp; exact XT.ixor hA hx rfl (hb ▸ hd) rfl hr) k
theorem own_ishl {u w : Int32} (hd : decode bytes pc = .ok (.ishl, 1)) (hp : pc + 1 = pc') (k : own_W l Z y bytes ml ret R n0 Q h cells slots pc' Ls (.int (u <<< (w &&& 31)) :: st)) : own_W l Z y bytes ml ret R n0 Q h cells slots pc Ls (.int w :: .int u :: st) :=
  own_pure (fun p e below T t m c hA hx hb hr => by subst hp; exact XT.ishl hA hx rfl (hb ▸ hd) rfl hr) k
theorem own_ishr {u w : Int32} (hd : decode bytes pc = .ok (.ishr, 1)) (hp : pc + 1 = pc') (k : own_W l Z y bytes ml ret R n0 Q h cells slots pc' Ls (.int (u >>> (w &&& 31)) :: st)) : own_W l Z y bytes ml ret R n0 Q h cells slots pc Ls (.int w :: .int u :: st) :=
  own_pure (fun p e below T t m c hA hx hb hr => by subst hp; exact XT.ishr hA hx rfl (hb ▸ hd) rfl hr) k
theorem own_iushr {u w : Int32} (hd : decode bytes pc = .ok (.iushr, 1)) (hp : pc + 1 = pc') (k : own_W l Z y bytes ml ret R n0 Q h cells slots pc' Ls (.int (XT.ushr u w) :: st)) : own_W l Z y bytes ml ret R n0 Q h cells slots pc Ls (.int w :: .int u :: st) :=
  own_pure (fun p e below T t m c hA hx hb hr => by subst hp; exact XT.iushr hA hx rfl (hb ▸ hd) rfl hr) k
theorem own_idiv {u w : Int32} (hd : decode bytes pc = .ok (.idiv, 1)) (hp : pc + 1 = pc') (hw : w ≠ 0) (k : own_W l Z y bytes ml ret R n0 Q h cells slots pc' Ls (.int (u / w) :: st)) : own_W l Z y bytes ml ret R n0 Q h cells slots pc Ls (.int w :: .int u :: st) :=
  own_pure (fun p e below T t m c hA hx hb hr => by subst hp; exact XS.idiv hA hx rfl (hb ▸ hd) rfl hw hr) k
theorem own_irem {u w : Int32} (hd : decode bytes pc = .ok (.irem, 1)) (hp : pc + 1 = pc') (hw : w ≠ 0) (k : own_W l Z y bytes ml ret R n0 Q h cells slots pc' Ls (.int (u % w) :: st)) : own_W l Z y bytes ml ret R n0 Q h cells slots pc Ls (.int w :: .int u :: st) :=
  own_pure (fun p e below T t m c hA hx hb hr => by subst hp; exact XS.irem hA hx rfl (hb ▸ hd) rfl hw (by rw [irem_eq_mod u w]; exact hr)) k
theorem own_ineg {u : Int32} (hd : decode bytes pc = .ok (.ineg, 1)) (hp : pc + 1 = pc') (k : own_W l Z y bytes ml ret R n0 Q h cells slots pc' Ls (.int (-u) :: st)) : own_W l Z y bytes ml ret R n0 Q h cells slots pc Ls (.int u :: st) :=
  own_pure (fun p e below T t m c hA hx hb hr => by subst hp; exact XS.ineg hA hx rfl (hb ▸ hd) rfl hr) k
theorem own_ladd {u w : Int64} (hd : decode bytes pc = .ok (.ladd, 1)) (hp : pc + 1 = pc') (k : own_W l Z y bytes ml ret R n0 Q h cells slots pc' Ls (.long (u + w) :: st)) : own_W l Z y bytes ml ret R n0 Q h cells slots pc Ls (.long w :: .long u :: st) :=
  own_pure (fun p e below T t m c hA hx hb hr => by subst hp; exact XT.ladd hA hx rfl (hb ▸ hd) rfl hr) k
theorem own_lsub {u w : Int64} (hd : decode bytes pc = .ok (.lsub, 1)) (hp : pc + 1 = pc') (k : own_W l Z y bytes ml ret R n0 Q h cells slots pc' Ls (.long (u - w) :: st)) : own_W l Z y bytes ml ret R n0 Q h cells slots pc Ls (.long w :: .long u :: st) :=
  own_pure (fun p e below T t m c hA hx hb hr => by subst hp; exact XT.lsub hA hx rfl (hb ▸ hd) rfl hr) k
theorem own_lmul {u w : Int64} (hd : decode bytes pc = .ok (.lmul, 1)) (hp : pc + 1 = pc') (k : own_W l Z y bytes ml ret R n0 Q h cells slots pc' Ls (.long (u * w) :: st)) : own_W l Z y bytes ml ret R n0 Q h cells slots pc Ls (.long w :: .long u :: st) :=
  own_pure (fun p e below T t m c hA hx hb hr => by subst hp; exact XT.lmul hA hx rfl (hb ▸ hd) rfl hr) k
theorem own_land {u w : Int64} (hd : decode bytes pc = .ok (.land, 1)) (hp : pc + 1 = pc') (k : own_W l Z y bytes ml ret R n0 Q h cells slots pc' Ls (.long (u &&& w) :: st)) : own_W l Z y bytes ml ret R n0 Q h cells slots pc Ls (.long w :: .long u :: st) :=
  own_pure (fun p e below T t m c hA hx hb hr => by subst hp; exact XT.land hA hx rfl (hb ▸ hd) rfl hr) k
theorem own_lor {u w : Int64} (hd : decode bytes pc = .ok (.lor, 1)) (hp : pc + 1 = pc') (k : own_W l Z y bytes ml ret R n0 Q h cells slots pc' Ls (.long (u ||| w) :: st)) : own_W l Z y bytes ml ret R n0 Q h cells slots pc Ls (.long w :: .long u :: st) :=
  own_pure (fun p e below T t m c hA hx hb hr => by subst hp; exact XT.lor hA hx rfl (hb ▸ hd) rfl hr) k
theorem own_lxor {u w : Int64} (hd : decode bytes pc = .ok (.lxor, 1)) (hp : pc + 1 = pc') (k : own_W l Z y bytes ml ret R n0 Q h cells slots pc' Ls (.long (u ^^^ w) :: st)) : own_W l Z y bytes ml ret R n0 Q h cells slots pc Ls (.long w :: .long u :: st) :=
  own_pure (fun p e below T t m c hA hx hb hr => by subst hp; exact XT.lxor hA hx rfl (hb ▸ hd) rfl hr) k
theorem own_lrem {u w : Int64} (hd : decode bytes pc = .ok (.lrem, 1)) (hp : pc + 1 = pc') (hw : w ≠ 0) (k : own_W l Z y bytes ml ret R n0 Q h cells slots pc' Ls (.long (u % w) :: st)) : own_W l Z y bytes ml ret R n0 Q h cells slots pc Ls (.long w :: .long u :: st) :=
  own_pure (fun p e below T t m c hA hx hb hr => by subst hp; exact XT.lrem hA hx rfl (hb ▸ hd) rfl hw (by rw [lrem_mod u w]; exact hr)) k
theorem own_lshl {u : Int64} {w : Int32} (hd : decode bytes pc = .ok (.lshl, 1)) (hp : pc + 1 = pc') (k : own_W l Z y bytes ml ret R n0 Q h cells slots pc' Ls (.long (u <<< (w.toInt64 &&& 63)) :: st)) : own_W l Z y bytes ml ret R n0 Q h cells slots pc Ls (.int w :: .long u :: st) :=
  own_pure (fun p e below T t m c hA hx hb hr => by subst hp; exact XT.lshl hA hx rfl (hb ▸ hd) rfl hr) k
theorem own_lshr {u : Int64} {w : Int32} (hd : decode bytes pc = .ok (.lshr, 1)) (hp : pc + 1 = pc') (k : own_W l Z y bytes ml ret R n0 Q h cells slots pc' Ls (.long (u >>> (w.toInt64 &&& 63)) :: st)) : own_W l Z y bytes ml ret R n0 Q h cells slots pc Ls (.int w :: .long u :: st) :=
  own_pure (fun p e below T t m c hA hx hb hr => by subst hp; exact XT.lshr hA hx rfl (hb ▸ hd) rfl hr) k
theorem own_lushr {u : Int64} {w : Int32} (hd : decode bytes pc = .ok (.lushr, 1)) (hp : pc + 1 = pc') (k : own_W l Z y bytes ml ret R n0 Q h cells slots pc' Ls (.long (XT.ushrL u w) :: st)) : own_W l Z y bytes ml ret R n0 Q h cells slots pc Ls (.int w :: .long u :: st) :=
  own_pure (fun p e below T t m c hA hx hb hr => by subst hp; exact XT.lushr hA hx rfl (hb ▸ hd) rfl hr) k
theorem own_i2l {u : Int32} (hd : decode bytes pc = .ok (.i2l, 1)) (hp : pc + 1 = pc') (k : own_W l Z y bytes ml ret R n0 Q h cells slots pc' Ls (.long u.toInt64 :: st)) : own_W l Z y bytes ml ret R n0 Q h cells slots pc Ls (.int u :: st) :=
  own_pure (fun p e below T t m c hA hx hb hr => by subst hp; exact XT.i2l hA hx rfl (hb ▸ hd) rfl hr) k
theorem own_l2i {u : Int64} (hd : decode bytes pc = .ok (.l2i, 1)) (hp : pc + 1 = pc') (k : own_W l Z y bytes ml ret R n0 Q h cells slots pc' Ls (.int u.toInt32 :: st)) : own_W l Z y bytes ml ret R n0 Q h cells slots pc Ls (.long u :: st) :=
  own_pure (fun p e below T t m c hA hx hb hr => by subst hp; exact XT.l2i hA hx rfl (hb ▸ hd) rfl hr) k
theorem own_i2b {u : Int32} (hd : decode bytes pc = .ok (.i2b, 1)) (hp : pc + 1 = pc') (k : own_W l Z y bytes ml ret R n0 Q h cells slots pc' Ls (.int u.toInt8.toInt32 :: st)) : own_W l Z y bytes ml ret R n0 Q h cells slots pc Ls (.int u :: st) :=
  own_pure (fun p e below T t m c hA hx hb hr => by subst hp; exact XT.i2b hA hx rfl (hb ▸ hd) rfl hr) k
theorem own_i2c {u : Int32} (hd : decode bytes pc = .ok (.i2c, 1)) (hp : pc + 1 = pc') (k : own_W l Z y bytes ml ret R n0 Q h cells slots pc' Ls (.int u.toUInt32.toUInt16.toUInt32.toInt32 :: st)) : own_W l Z y bytes ml ret R n0 Q h cells slots pc Ls (.int u :: st) :=
  own_pure (fun p e below T t m c hA hx hb hr => by subst hp; exact XT.i2c hA hx rfl (hb ▸ hd) rfl hr) k
theorem own_lcmp {u w : Int64} (hd : decode bytes pc = .ok (.lcmp, 1)) (hp : pc + 1 = pc') (k : own_W l Z y bytes ml ret R n0 Q h cells slots pc' Ls (.int (XT.cmpL u w) :: st)) : own_W l Z y bytes ml ret R n0 Q h cells slots pc Ls (.long w :: .long u :: st) :=
  own_pure (fun p e below T t m c hA hx hb hr => by subst hp; exact XT.lcmp hA hx rfl (hb ▸ hd) rfl hr) k
theorem own_dup {u : Value} (hd : decode bytes pc = .ok (.dup, 1)) (hp : pc + 1 = pc') (hc : u.category = 1) (k : own_W l Z y bytes ml ret R n0 Q h cells slots pc' Ls (u :: u :: st)) : own_W l Z y bytes ml ret R n0 Q h cells slots pc Ls (u :: st) :=
  own_pure (fun p e below T t m c hA hx hb hr => by subst hp; exact XS.dup hA hx rfl (hb ▸ hd) rfl hc hr) k
theorem own_pop {u : Value} (hd : decode bytes pc = .ok (.pop, 1)) (hp : pc + 1 = pc') (hc : u.category = 1) (k : own_W l Z y bytes ml ret R n0 Q h cells slots pc' Ls (st)) : own_W l Z y bytes ml ret R n0 Q h cells slots pc Ls (u :: st) :=
  own_pure (fun p e below T t m c hA hx hb hr => by subst hp; exact XT.pop hA hx rfl (hb ▸ hd) rfl hc hr) k
theorem own_dupX1 {u w : Value} (hd : decode bytes pc = .ok (.dup_x1, 1)) (hp : pc + 1 = pc') (hc : u.category = 1) (hc' : w.category = 1) (k : own_W l Z y bytes ml ret R n0 Q h cells slots pc' Ls (u :: w :: u :: st)) : own_W l Z y bytes ml ret R n0 Q h cells slots pc Ls (u :: w :: st) :=
  own_pure (fun p e below T t m c hA hx hb hr => by subst hp; exact XT.dupX1 hA hx rfl (hb ▸ hd) rfl hc hc' hr) k
theorem own_dup2 {u w : Value} (hd : decode bytes pc = .ok (.dup2, 1)) (hp : pc + 1 = pc') (hc : u.category = 1) (hc' : w.category = 1) (k : own_W l Z y bytes ml ret R n0 Q h cells slots pc' Ls (u :: w :: u :: w :: st)) : own_W l Z y bytes ml ret R n0 Q h cells slots pc Ls (u :: w :: st) :=
  own_pure (fun p e below T t m c hA hx hb hr => by subst hp; exact XT.dup2 hA hx rfl (hb ▸ hd) rfl hc hc' hr) k
theorem own_dup2L {u : Int64} (hd : decode bytes pc = .ok (.dup2, 1)) (hp : pc + 1 = pc') (k : own_W l Z y bytes ml ret R n0 Q h cells slots pc' Ls (.long u :: .long u :: st)) : own_W l Z y bytes ml ret R n0 Q h cells slots pc Ls (.long u :: st) :=
  own_pure (fun p e below T t m c hA hx hb hr => by subst hp; exact XT.dup2L hA hx rfl (hb ▸ hd) rfl hr) k
theorem own_pop2step {tb : Tables} [Ours tb] {e : Env} {below : List Frame} {T target : State} {m : MethodId} {c : Code} {g : JFrame} (h : At T m c below) (hx : tb.exec = Jvm.exec) (hg : g.method = m) {u : Int64} {rest : List Value} (hd : decode c.code g.pc = .ok (.pop2, 1)) (hs : g.stack = .long u :: rest)
    (hr : Steps tb e below (T.setTop { g with pc := g.pc + 1, stack := rest }) target) : Steps tb e below (T.setTop g) target := by
  subst hg
  jvm_step h [h.top, hx, hd, hs, pop2.wp_sem, Value.category]
  exact hr
theorem own_pop2L {u : Int64} (hd : decode bytes pc = .ok (.pop2, 1)) (hp : pc + 1 = pc') (k : own_W l Z y bytes ml ret R n0 Q h cells slots pc' Ls (st)) : own_W l Z y bytes ml ret R n0 Q h cells slots pc Ls (.long u :: st) :=
  own_pure (fun p e below T t m c hA hx hb hr => by subst hp; exact own_pop2step hA hx rfl (hb ▸ hd) rfl hr) k
theorem own_dupX2step {tb : Tables} [Ours tb] {e : Env} {below : List Frame} {T target : State} {m : MethodId} {c : Code} {g : JFrame} (h : At T m c below) (hx : tb.exec = Jvm.exec) (hg : g.method = m) {x y z : Value} {rest : List Value} (hd : decode c.code g.pc = .ok (.dup_x2, 1)) (hs : g.stack = x :: y :: z :: rest) (hc : x.category = 1) (hc' : y.category = 1) (hc'' : z.category = 1)
    (hr : Steps tb e below (T.setTop { g with pc := g.pc + 1, stack := x :: y :: z :: x :: rest }) target) : Steps tb e below (T.setTop g) target := by
  subst hg
  jvm_step h [h.top, hx, hd, hs, dup_x2.wp_sem, hc, hc', hc'']
  exact hr
theorem own_dupX2 {u w x : Value} (hd : decode bytes pc = .ok (.dup_x2, 1)) (hp : pc + 1 = pc') (hc : u.category = 1) (hc' : w.category = 1) (hc'' : x.category = 1) (k : own_W l Z y bytes ml ret R n0 Q h cells slots pc' Ls (u :: w :: x :: u :: st)) : own_W l Z y bytes ml ret R n0 Q h cells slots pc Ls (u :: w :: x :: st) :=
  own_pure (fun p e below T t m c hA hx hb hr => by subst hp; exact own_dupX2step hA hx rfl (hb ▸ hd) rfl hc hc' hc'' hr) k
theorem own_goto {o : Int} (hd : decode bytes pc = .ok (.goto o, 3)) (ho : 0 ≤ (pc : Int) + o) (hp : ((pc : Int) + o).toNat = pc') (k : own_W l Z y bytes ml ret R n0 Q h cells slots pc' Ls st) : own_W l Z y bytes ml ret R n0 Q h cells slots pc Ls st :=
  own_pure (fun p e below T t m c hA hx hb hr => XS.goto hA hx rfl rfl (hb ▸ hd) ho hp hr) k
theorem own_if_eq_t {u : Int32} {o : Int} (hd : decode bytes pc = .ok (.ifCond .eq o, 3)) (hc : u = 0) (ho : 0 ≤ (pc : Int) + o) (hp : ((pc : Int) + o).toNat = pc') (k : own_W l Z y bytes ml ret R n0 Q h cells slots pc' Ls st) : own_W l Z y bytes ml ret R n0 Q h cells slots pc Ls (.int u :: st) :=
  own_pure (fun p e below T t m c hA hx hb hr => XS.ifYes hA hx rfl rfl (hb ▸ hd) rfl (XT.i0_eq_t hc) ho hp hr) k
theorem own_if_eq_f {u : Int32} {o : Int} (hd : decode bytes pc = .ok (.ifCond .eq o, 3)) (hc : ¬ u = 0) (hp : pc + 3 = pc') (k : own_W l Z y bytes ml ret R n0 Q h cells slots pc' Ls st) : own_W l Z y bytes ml ret R n0 Q h cells slots pc Ls (.int u :: st) :=
  own_pure (fun p e below T t m c hA hx hb hr => by subst hp; exact XS.ifNo hA hx rfl (hb ▸ hd) rfl (XT.i0_eq_f hc) hr) k
theorem own_if_eq {u : Int32} {o : Int} {pf : Nat} (hd : decode bytes pc = .ok (.ifCond .eq o, 3)) (ho : 0 ≤ (pc : Int) + o) (hp : ((pc : Int) + o).toNat = pc') (hq : pc + 3 = pf) (kt : u = 0 → own_W l Z y bytes ml ret R n0 Q h cells slots pc' Ls st) (kf : ¬ u = 0 → own_W l Z y bytes ml ret R n0 Q h cells slots pf Ls st) : own_W l Z y bytes ml ret R n0 Q h cells slots pc Ls (.int u :: st) := by
  by_cases hc : u = 0
  · exact own_if_eq_t hd hc ho hp (kt hc)
  · exact own_if_eq_f hd (by first | exact hc | exact Decidable.not_not.mp hc) hq (kf (by first | exact hc | exact Decidable.not_not.mp hc))
theorem own_ic_eq_t {u w : Int32} {o : Int} (hd : decode bytes pc = .ok (.if_icmp .eq o, 3)) (hc : u = w) (ho : 0 ≤ (pc : Int) + o) (hp : ((pc : Int) + o).toNat = pc') (k : own_W l Z y bytes ml ret R n0 Q h cells slots pc' Ls st) : own_W l Z y bytes ml ret R n0 Q h cells slots pc Ls (.int w :: .int u :: st) :=
  own_pure (fun p e below T t m c hA hx hb hr => XS.icmpYes hA hx rfl rfl (hb ▸ hd) rfl (XT.ii_eq_t hc) ho hp hr) k
theorem own_ic_eq_f {u w : Int32} {o : Int} (hd : decode bytes pc = .ok (.if_icmp .eq o, 3)) (hc : ¬ u = w) (hp : pc + 3 = pc') (k : own_W l Z y bytes ml ret R n0 Q h cells slots pc' Ls st) : own_W l Z y bytes ml ret R n0 Q h cells slots pc Ls (.int w :: .int u :: st) :=
  own_pure (fun p e below T t m c hA hx hb hr => by subst hp; exact XS.icmpNo hA hx rfl (hb ▸ hd) rfl (XT.ii_eq_f hc) hr) k
theorem own_ic_eq {u w : Int32} {o : Int} {pf : Nat} (hd : decode bytes pc = .ok (.if_icmp .eq o, 3)) (ho : 0 ≤ (pc : Int) + o) (hp : ((pc : Int) + o).toNat = pc') (hq : pc + 3 = pf) (kt : u = w → own_W l Z y bytes ml ret R n0 Q h cells slots pc' Ls st) (kf : ¬ u = w → own_W l Z y bytes ml ret R n0 Q h cells slots pf Ls st) : own_W l Z y bytes ml ret R n0 Q h cells slots pc Ls (.int w :: .int u :: st) := by
  by_cases hc : u = w
  · exact own_ic_eq_t hd hc ho hp (kt hc)
  · exact own_ic_eq_f hd (by first | exact hc | exact Decidable.not_not.mp hc) hq (kf (by first | exact hc | exact Decidable.not_not.mp hc))
theorem own_il_eq_t {u w : Int64} {o : Int} (hd : decode bytes pc = .ok (.ifCond .eq o, 3)) (hc : u = w) (ho : 0 ≤ (pc : Int) + o) (hp : ((pc : Int) + o).toNat = pc') (k : own_W l Z y bytes ml ret R n0 Q h cells slots pc' Ls st) : own_W l Z y bytes ml ret R n0 Q h cells slots pc Ls (.int (XT.cmpL u w) :: st) :=
  own_pure (fun p e below T t m c hA hx hb hr => XS.ifYes hA hx rfl rfl (hb ▸ hd) rfl (XT.ll_eq_t hc) ho hp hr) k
theorem own_il_eq_f {u w : Int64} {o : Int} (hd : decode bytes pc = .ok (.ifCond .eq o, 3)) (hc : ¬ u = w) (hp : pc + 3 = pc') (k : own_W l Z y bytes ml ret R n0 Q h cells slots pc' Ls st) : own_W l Z y bytes ml ret R n0 Q h cells slots pc Ls (.int (XT.cmpL u w) :: st) :=
  own_pure (fun p e below T t m c hA hx hb hr => by subst hp; exact XS.ifNo hA hx rfl (hb ▸ hd) rfl (XT.ll_eq_f hc) hr) k
theorem own_il_eq {u w : Int64} {o : Int} {pf : Nat} (hd : decode bytes pc = .ok (.ifCond .eq o, 3)) (ho : 0 ≤ (pc : Int) + o) (hp : ((pc : Int) + o).toNat = pc') (hq : pc + 3 = pf) (kt : u = w → own_W l Z y bytes ml ret R n0 Q h cells slots pc' Ls st) (kf : ¬ u = w → own_W l Z y bytes ml ret R n0 Q h cells slots pf Ls st) : own_W l Z y bytes ml ret R n0 Q h cells slots pc Ls (.int (XT.cmpL u w) :: st) := by
  by_cases hc : u = w
  · exact own_il_eq_t hd hc ho hp (kt hc)
  · exact own_il_eq_f hd (by first | exact hc | exact Decidable.not_not.mp hc) hq (kf (by first | exact hc | exact Decidable.not_not.mp hc))
theorem own_if_ne_t {u : Int32} {o : Int} (hd : decode bytes pc = .ok (.ifCond .ne o, 3)) (hc : ¬ u = 0) (ho : 0 ≤ (pc : Int) + o) (hp : ((pc : Int) + o).toNat = pc') (k : own_W l Z y bytes ml ret R n0 Q h cells slots pc' Ls st) : own_W l Z y bytes ml ret R n0 Q h cells slots pc Ls (.int u :: st) :=
  own_pure (fun p e below T t m c hA hx hb hr => XS.ifYes hA hx rfl rfl (hb ▸ hd) rfl (XT.i0_ne_t hc) ho hp hr) k
theorem own_if_ne_f {u : Int32} {o : Int} (hd : decode bytes pc = .ok (.ifCond .ne o, 3)) (hc : u = 0) (hp : pc + 3 = pc') (k : own_W l Z y bytes ml ret R n0 Q h cells slots pc' Ls st) : own_W l Z y bytes ml ret R n0 Q h cells slots pc Ls (.int u :: st) :=
  own_pure (fun p e below T t m c hA hx hb hr => by subst hp; exact XS.ifNo hA hx rfl (hb ▸ hd) rfl (XT.i0_ne_f hc) hr) k
theorem own_if_ne {u : Int32} {o : Int} {pf : Nat} (hd : decode bytes pc = .ok (.ifCond .ne o, 3)) (ho : 0 ≤ (pc : Int) + o) (hp : ((pc : Int) + o).toNat = pc') (hq : pc + 3 = pf) (kt : ¬ u = 0 → own_W l Z y bytes ml ret R n0 Q h cells slots pc' Ls st) (kf : u = 0 → own_W l Z y bytes ml ret R n0 Q h cells slots pf Ls st) : own_W l Z y bytes ml ret R n0 Q h cells slots pc Ls (.int u :: st) := by
  by_cases hc : ¬ u = 0
  · exact own_if_ne_t hd hc ho hp (kt hc)
  · exact own_if_ne_f hd (by first | exact hc | exact Decidable.not_not.mp hc) hq (kf (by first | exact hc | exact Decidable.not_not.mp hc))
theorem own_ic_ne_t {u w : Int32} {o : Int} (hd : decode bytes pc = .ok (.if_icmp .ne o, 3)) (hc : ¬ u = w) (ho : 0 ≤ (pc : Int) + o) (hp : ((pc : Int) + o).toNat = pc') (k : own_W l Z y bytes ml ret R n0 Q h cells slots pc' Ls st) : own_W l Z y bytes ml ret R n0 Q h cells slots pc Ls (.int w :: .int u :: st) :=
  own_pure (fun p e below T t m c hA hx hb hr => XS.icmpYes hA hx rfl rfl (hb ▸ hd) rfl (XT.ii_ne_t hc) ho hp hr) k
theorem own_ic_ne_f {u w : Int32} {o : Int} (hd : decode bytes pc = .ok (.if_icmp .ne o, 3)) (hc : u = w) (hp : pc + 3 = pc') (k : own_W l Z y bytes ml ret R n0 Q h cells slots pc' Ls st) : own_W l Z y bytes ml ret R n0 Q h cells slots pc Ls (.int w :: .int u :: st) :=
  own_pure (fun p e below T t m c hA hx hb hr => by subst hp; exact XS.icmpNo hA hx rfl (hb ▸ hd) rfl (XT.ii_ne_f hc) hr) k
theorem own_ic_ne {u w : Int32} {o : Int} {pf : Nat} (hd : decode bytes pc = .ok (.if_icmp .ne o, 3)) (ho : 0 ≤ (pc : Int) + o) (hp : ((pc : Int) + o).toNat = pc') (hq : pc + 3 = pf) (kt : ¬ u = w → own_W l Z y bytes ml ret R n0 Q h cells slots pc' Ls st) (kf : u = w → own_W l Z y bytes ml ret R n0 Q h cells slots pf Ls st) : own_W l Z y bytes ml ret R n0 Q h cells slots pc Ls (.int w :: .int u :: st) := by
  by_cases hc : ¬ u = w
  · exact own_ic_ne_t hd hc ho hp (kt hc)
  · exact own_ic_ne_f hd (by first | exact hc | exact Decidable.not_not.mp hc) hq (kf (by first | exact hc | exact Decidable.not_not.mp hc))
theorem own_il_ne_t {u w : Int64} {o : Int} (hd : decode bytes pc = .ok (.ifCond .ne o, 3)) (hc : ¬ u = w) (ho : 0 ≤ (pc : Int) + o) (hp : ((pc : Int) + o).toNat = pc') (k : own_W l Z y bytes ml ret R n0 Q h cells slots pc' Ls st) : own_W l Z y bytes ml ret R n0 Q h cells slots pc Ls (.int (XT.cmpL u w) :: st) :=
  own_pure (fun p e below T t m c hA hx hb hr => XS.ifYes hA hx rfl rfl (hb ▸ hd) rfl (XT.ll_ne_t hc) ho hp hr) k
theorem own_il_ne_f {u w : Int64} {o : Int} (hd : decode bytes pc = .ok (.ifCond .ne o, 3)) (hc : u = w) (hp : pc + 3 = pc') (k : own_W l Z y bytes ml ret R n0 Q h cells slots pc' Ls st) : own_W l Z y bytes ml ret R n0 Q h cells slots pc Ls (.int (XT.cmpL u w) :: st) :=
  own_pure (fun p e below T t m c hA hx hb hr => by subst hp; exact XS.ifNo hA hx rfl (hb ▸ hd) rfl (XT.ll_ne_f hc) hr) k
theorem own_il_ne {u w : Int64} {o : Int} {pf : Nat} (hd : decode bytes pc = .ok (.ifCond .ne o, 3)) (ho : 0 ≤ (pc : Int) + o) (hp : ((pc : Int) + o).toNat = pc') (hq : pc + 3 = pf) (kt : ¬ u = w → own_W l Z y bytes ml ret R n0 Q h cells slots pc' Ls st) (kf : u = w → own_W l Z y bytes ml ret R n0 Q h cells slots pf Ls st) : own_W l Z y bytes ml ret R n0 Q h cells slots pc Ls (.int (XT.cmpL u w) :: st) := by
  by_cases hc : ¬ u = w
  · exact own_il_ne_t hd hc ho hp (kt hc)
  · exact own_il_ne_f hd (by first | exact hc | exact Decidable.not_not.mp hc) hq (kf (by first | exact hc | exact Decidable.not_not.mp hc))
theorem own_if_lt_t {u : Int32} {o : Int} (hd : decode bytes pc = .ok (.ifCond .lt o, 3)) (hc : u < 0) (ho : 0 ≤ (pc : Int) + o) (hp : ((pc : Int) + o).toNat = pc') (k : own_W l Z y bytes ml ret R n0 Q h cells slots pc' Ls st) : own_W l Z y bytes ml ret R n0 Q h cells slots pc Ls (.int u :: st) :=
  own_pure (fun p e below T t m c hA hx hb hr => XS.ifYes hA hx rfl rfl (hb ▸ hd) rfl (XT.i0_lt_t hc) ho hp hr) k
theorem own_if_lt_f {u : Int32} {o : Int} (hd : decode bytes pc = .ok (.ifCond .lt o, 3)) (hc : ¬ u < 0) (hp : pc + 3 = pc') (k : own_W l Z y bytes ml ret R n0 Q h cells slots pc' Ls st) : own_W l Z y bytes ml ret R n0 Q h cells slots pc Ls (.int u :: st) :=
  own_pure (fun p e below T t m c hA hx hb hr => by subst hp; exact XS.ifNo hA hx rfl (hb ▸ hd) rfl (XT.i0_lt_f hc) hr) k
theorem own_if_lt {u : Int32} {o : Int} {pf : Nat} (hd : decode bytes pc = .ok (.ifCond .lt o, 3)) (ho : 0 ≤ (pc : Int) + o) (hp : ((pc : Int) + o).toNat = pc') (hq : pc + 3 = pf) (kt : u < 0 → own_W l Z y bytes ml ret R n0 Q h cells slots pc' Ls st) (kf : ¬ u < 0 → own_W l Z y bytes ml ret R n0 Q h cells slots pf Ls st) : own_W l Z y bytes ml ret R n0 Q h cells slots pc Ls (.int u :: st) := by
  by_cases hc : u < 0
  · exact own_if_lt_t hd hc ho hp (kt hc)
  · exact own_if_lt_f hd (by first | exact hc | exact Decidable.not_not.mp hc) hq (kf (by first | exact hc | exact Decidable.not_not.mp hc))
theorem own_ic_lt_t {u w : Int32} {o : Int} (hd : decode bytes pc = .ok (.if_icmp .lt o, 3)) (hc : u < w) (ho : 0 ≤ (pc : Int) + o) (hp : ((pc : Int) + o).toNat = pc') (k : own_W l Z y bytes ml ret R n0 Q h cells slots pc' Ls st) : own_W l Z y bytes ml ret R n0 Q h cells slots pc Ls (.int w :: .int u :: st) :=
  own_pure (fun p e below T t m c hA hx hb hr => XS.icmpYes hA hx rfl rfl (hb ▸ hd) rfl (XT.ii_lt_t hc) ho hp hr) k
theorem own_ic_lt_f {u w : Int32} {o : Int} (hd : decode bytes pc = .ok (.if_icmp .lt o, 3)) (hc : ¬ u < w) (hp : pc + 3 = pc') (k : own_W l Z y bytes ml ret R n0 Q h cells slots pc' Ls st) : own_W l Z y bytes ml ret R n0 Q h cells slots pc Ls (.int w :: .int u :: st) :=
  own_pure (fun p e below T t m c hA hx hb hr => by subst hp; exact XS.icmpNo hA hx rfl (hb ▸ hd) rfl (XT.ii_lt_f hc) hr) k
theorem own_ic_lt {u w : Int32} {o : Int} {pf : Nat} (hd : decode bytes pc = .ok (.if_icmp .lt o, 3)) (ho : 0 ≤ (pc : Int) + o) (hp : ((pc : Int) + o).toNat = pc') (hq : pc + 3 = pf) (kt : u < w → own_W l Z y bytes ml ret R n0 Q h cells slots pc' Ls st) (kf : ¬ u < w → own_W l Z y bytes ml ret R n0 Q h cells slots pf Ls st) : own_W l Z y bytes ml ret R n0 Q h cells slots pc Ls (.int w :: .int u :: st) := by
  by_cases hc : u < w
  · exact own_ic_lt_t hd hc ho hp (kt hc)
  · exact own_ic_lt_f hd (by first | exact hc | exact Decidable.not_not.mp hc) hq (kf (by first | exact hc | exact Decidable.not_not.mp hc))
theorem own_il_lt_t {u w : Int64} {o : Int} (hd : decode bytes pc = .ok (.ifCond .lt o, 3)) (hc : u < w) (ho : 0 ≤ (pc : Int) + o) (hp : ((pc : Int) + o).toNat = pc') (k : own_W l Z y bytes ml ret R n0 Q h cells slots pc' Ls st) : own_W l Z y bytes ml ret R n0 Q h cells slots pc Ls (.int (XT.cmpL u w) :: st) :=
  own_pure (fun p e below T t m c hA hx hb hr => XS.ifYes hA hx rfl rfl (hb ▸ hd) rfl (XT.ll_lt_t hc) ho hp hr) k
theorem own_il_lt_f {u w : Int64} {o : Int} (hd : decode bytes pc = .ok (.ifCond .lt o, 3)) (hc : ¬ u < w) (hp : pc + 3 = pc') (k : own_W l Z y bytes ml ret R n0 Q h cells slots pc' Ls st) : own_W l Z y bytes ml ret R n0 Q h cells slots pc Ls (.int (XT.cmpL u w) :: st) :=
  own_pure (fun p e below T t m c hA hx hb hr => by subst hp; exact XS.ifNo hA hx rfl (hb ▸ hd) rfl (XT.ll_lt_f hc) hr) k
theorem own_il_lt {u w : Int64} {o : Int} {pf : Nat} (hd : decode bytes pc = .ok (.ifCond .lt o, 3)) (ho : 0 ≤ (pc : Int) + o) (hp : ((pc : Int) + o).toNat = pc') (hq : pc + 3 = pf) (kt : u < w → own_W l Z y bytes ml ret R n0 Q h cells slots pc' Ls st) (kf : ¬ u < w → own_W l Z y bytes ml ret R n0 Q h cells slots pf Ls st) : own_W l Z y bytes ml ret R n0 Q h cells slots pc Ls (.int (XT.cmpL u w) :: st) := by
  by_cases hc : u < w
  · exact own_il_lt_t hd hc ho hp (kt hc)
  · exact own_il_lt_f hd (by first | exact hc | exact Decidable.not_not.mp hc) hq (kf (by first | exact hc | exact Decidable.not_not.mp hc))
theorem own_if_ge_t {u : Int32} {o : Int} (hd : decode bytes pc = .ok (.ifCond .ge o, 3)) (hc : ¬ u < 0) (ho : 0 ≤ (pc : Int) + o) (hp : ((pc : Int) + o).toNat = pc') (k : own_W l Z y bytes ml ret R n0 Q h cells slots pc' Ls st) : own_W l Z y bytes ml ret R n0 Q h cells slots pc Ls (.int u :: st) :=
  own_pure (fun p e below T t m c hA hx hb hr => XS.ifYes hA hx rfl rfl (hb ▸ hd) rfl (XT.i0_ge_t hc) ho hp hr) k
theorem own_if_ge_f {u : Int32} {o : Int} (hd : decode bytes pc = .ok (.ifCond .ge o, 3)) (hc : u < 0) (hp : pc + 3 = pc') (k : own_W l Z y bytes ml ret R n0 Q h cells slots pc' Ls st) : own_W l Z y bytes ml ret R n0 Q h cells slots pc Ls (.int u :: st) :=
  own_pure (fun p e below T t m c hA hx hb hr => by subst hp; exact XS.ifNo hA hx rfl (hb ▸ hd) rfl (XT.i0_ge_f hc) hr) k
theorem own_if_ge {u : Int32} {o : Int} {pf : Nat} (hd : decode bytes pc = .ok (.ifCond .ge o, 3)) (ho : 0 ≤ (pc : Int) + o) (hp : ((pc : Int) + o).toNat = pc') (hq : pc + 3 = pf) (kt : ¬ u < 0 → own_W l Z y bytes ml ret R n0 Q h cells slots pc' Ls st) (kf : u < 0 → own_W l Z y bytes ml ret R n0 Q h cells slots pf Ls st) : own_W l Z y bytes ml ret R n0 Q h cells slots pc Ls (.int u :: st) := by
  by_cases hc : ¬ u < 0
  · exact own_if_ge_t hd hc ho hp (kt hc)
  · exact own_if_ge_f hd (by first | exact hc | exact Decidable.not_not.mp hc) hq (kf (by first | exact hc | exact Decidable.not_not.mp hc))
theorem own_ic_ge_t {u w : Int32} {o : Int} (hd : decode bytes pc = .ok (.if_icmp .ge o, 3)) (hc : ¬ u < w) (ho : 0 ≤ (pc : Int) + o) (hp : ((pc : Int) + o).toNat = pc') (k : own_W l Z y bytes ml ret R n0 Q h cells slots pc' Ls st) : own_W l Z y bytes ml ret R n0 Q h cells slots pc Ls (.int w :: .int u :: st) :=
  own_pure (fun p e below T t m c hA hx hb hr => XS.icmpYes hA hx rfl rfl (hb ▸ hd) rfl (XT.ii_ge_t hc) ho hp hr) k
theorem own_ic_ge_f {u w : Int32} {o : Int} (hd : decode bytes pc = .ok (.if_icmp .ge o, 3)) (hc : u < w) (hp : pc + 3 = pc') (k : own_W l Z y bytes ml ret R n0 Q h cells slots pc' Ls st) : own_W l Z y bytes ml ret R n0 Q h cells slots pc Ls (.int w :: .int u :: st) :=
  own_pure (fun p e below T t m c hA hx hb hr => by subst hp; exact XS.icmpNo hA hx rfl (hb ▸ hd) rfl (XT.ii_ge_f hc) hr) k
theorem own_ic_ge {u w : Int32} {o : Int} {pf : Nat} (hd : decode bytes pc = .ok (.if_icmp .ge o, 3)) (ho : 0 ≤ (pc : Int) + o) (hp : ((pc : Int) + o).toNat = pc') (hq : pc + 3 = pf) (kt : ¬ u < w → own_W l Z y bytes ml ret R n0 Q h cells slots pc' Ls st) (kf : u < w → own_W l Z y bytes ml ret R n0 Q h cells slots pf Ls st) : own_W l Z y bytes ml ret R n0 Q h cells slots pc Ls (.int w :: .int u :: st) := by
  by_cases hc : ¬ u < w
  · exact own_ic_ge_t hd hc ho hp (kt hc)
  · exact own_ic_ge_f hd (by first | exact hc | exact Decidable.not_not.mp hc) hq (kf (by first | exact hc | exact Decidable.not_not.mp hc))
theorem own_il_ge_t {u w : Int64} {o : Int} (hd : decode bytes pc = .ok (.ifCond .ge o, 3)) (hc : ¬ u < w) (ho : 0 ≤ (pc : Int) + o) (hp : ((pc : Int) + o).toNat = pc') (k : own_W l Z y bytes ml ret R n0 Q h cells slots pc' Ls st) : own_W l Z y bytes ml ret R n0 Q h cells slots pc Ls (.int (XT.cmpL u w) :: st) :=
  own_pure (fun p e below T t m c hA hx hb hr => XS.ifYes hA hx rfl rfl (hb ▸ hd) rfl (XT.ll_ge_t hc) ho hp hr) k
theorem own_il_ge_f {u w : Int64} {o : Int} (hd : decode bytes pc = .ok (.ifCond .ge o, 3)) (hc : u < w) (hp : pc + 3 = pc') (k : own_W l Z y bytes ml ret R n0 Q h cells slots pc' Ls st) : own_W l Z y bytes ml ret R n0 Q h cells slots pc Ls (.int (XT.cmpL u w) :: st) :=
  own_pure (fun p e below T t m c hA hx hb hr => by subst hp; exact XS.ifNo hA hx rfl (hb ▸ hd) rfl (XT.ll_ge_f hc) hr) k
theorem own_il_ge {u w : Int64} {o : Int} {pf : Nat} (hd : decode bytes pc = .ok (.ifCond .ge o, 3)) (ho : 0 ≤ (pc : Int) + o) (hp : ((pc : Int) + o).toNat = pc') (hq : pc + 3 = pf) (kt : ¬ u < w → own_W l Z y bytes ml ret R n0 Q h cells slots pc' Ls st) (kf : u < w → own_W l Z y bytes ml ret R n0 Q h cells slots pf Ls st) : own_W l Z y bytes ml ret R n0 Q h cells slots pc Ls (.int (XT.cmpL u w) :: st) := by
  by_cases hc : ¬ u < w
  · exact own_il_ge_t hd hc ho hp (kt hc)
  · exact own_il_ge_f hd (by first | exact hc | exact Decidable.not_not.mp hc) hq (kf (by first | exact hc | exact Decidable.not_not.mp hc))
theorem own_if_gt_t {u : Int32} {o : Int} (hd : decode bytes pc = .ok (.ifCond .gt o, 3)) (hc : 0 < u) (ho : 0 ≤ (pc : Int) + o) (hp : ((pc : Int) + o).toNat = pc') (k : own_W l Z y bytes ml ret R n0 Q h cells slots pc' Ls st) : own_W l Z y bytes ml ret R n0 Q h cells slots pc Ls (.int u :: st) :=
  own_pure (fun p e below T t m c hA hx hb hr => XS.ifYes hA hx rfl rfl (hb ▸ hd) rfl (XT.i0_gt_t hc) ho hp hr) k
theorem own_if_gt_f {u : Int32} {o : Int} (hd : decode bytes pc = .ok (.ifCond .gt o, 3)) (hc : ¬ 0 < u) (hp : pc + 3 = pc') (k : own_W l Z y bytes ml ret R n0 Q h cells slots pc' Ls st) : own_W l Z y bytes ml ret R n0 Q h cells slots pc Ls (.int u :: st) :=
  own_pure (fun p e below T t m c hA hx hb hr => by subst hp; exact XS.ifNo hA hx rfl (hb ▸ hd) rfl (XT.i0_gt_f hc) hr) k
theorem own_if_gt {u : Int32} {o : Int} {pf : Nat} (hd : decode bytes pc = .ok (.ifCond .gt o, 3)) (ho : 0 ≤ (pc : Int) + o) (hp : ((pc : Int) + o).toNat = pc') (hq : pc + 3 = pf) (kt : 0 < u → own_W l Z y bytes ml ret R n0 Q h cells slots pc' Ls st) (kf : ¬ 0 < u → own_W l Z y bytes ml ret R n0 Q h cells slots pf Ls st) : own_W l Z y bytes ml ret R n0 Q h cells slots pc Ls (.int u :: st) := by
  by_cases hc : 0 < u
  · exact own_if_gt_t hd hc ho hp (kt hc)
  · exact own_if_gt_f hd (by first | exact hc | exact Decidable.not_not.mp hc) hq (kf (by first | exact hc | exact Decidable.not_not.mp hc))
theorem own_ic_gt_t {u w : Int32} {o : Int} (hd : decode bytes pc = .ok (.if_icmp .gt o, 3)) (hc : w < u) (ho : 0 ≤ (pc : Int) + o) (hp : ((pc : Int) + o).toNat = pc') (k : own_W l Z y bytes ml ret R n0 Q h cells slots pc' Ls st) : own_W l Z y bytes ml ret R n0 Q h cells slots pc Ls (.int w :: .int u :: st) :=
  own_pure (fun p e below T t m c hA hx hb hr => XS.icmpYes hA hx rfl rfl (hb ▸ hd) rfl (XT.ii_gt_t hc) ho hp hr) k
theorem own_ic_gt_f {u w : Int32} {o : Int} (hd : decode bytes pc = .ok (.if_icmp .gt o, 3)) (hc : ¬ w < u) (hp : pc + 3 = pc') (k : own_W l Z y bytes ml ret R n0 Q h cells slots pc' Ls st) : own_W l Z y bytes ml ret R n0 Q h cells slots pc Ls (.int w :: .int u :: st) :=
  own_pure (fun p e below T t m c hA hx hb hr => by subst hp; exact XS.icmpNo hA hx rfl (hb ▸ hd) rfl (XT.ii_gt_f hc) hr) k
theorem own_ic_gt {u w : Int32} {o : Int} {pf : Nat} (hd : decode bytes pc = .ok (.if_icmp .gt o, 3)) (ho : 0 ≤ (pc : Int) + o) (hp : ((pc : Int) + o).toNat = pc') (hq : pc + 3 = pf) (kt : w < u → own_W l Z y bytes ml ret R n0 Q h cells slots pc' Ls st) (kf : ¬ w < u → own_W l Z y bytes ml ret R n0 Q h cells slots pf Ls st) : own_W l Z y bytes ml ret R n0 Q h cells slots pc Ls (.int w :: .int u :: st) := by
  by_cases hc : w < u
  · exact own_ic_gt_t hd hc ho hp (kt hc)
  · exact own_ic_gt_f hd (by first | exact hc | exact Decidable.not_not.mp hc) hq (kf (by first | exact hc | exact Decidable.not_not.mp hc))
theorem own_il_gt_t {u w : Int64} {o : Int} (hd : decode bytes pc = .ok (.ifCond .gt o, 3)) (hc : w < u) (ho : 0 ≤ (pc : Int) + o) (hp : ((pc : Int) + o).toNat = pc') (k : own_W l Z y bytes ml ret R n0 Q h cells slots pc' Ls st) : own_W l Z y bytes ml ret R n0 Q h cells slots pc Ls (.int (XT.cmpL u w) :: st) :=
  own_pure (fun p e below T t m c hA hx hb hr => XS.ifYes hA hx rfl rfl (hb ▸ hd) rfl (XT.ll_gt_t hc) ho hp hr) k
theorem own_il_gt_f {u w : Int64} {o : Int} (hd : decode bytes pc = .ok (.ifCond .gt o, 3)) (hc : ¬ w < u) (hp : pc + 3 = pc') (k : own_W l Z y bytes ml ret R n0 Q h cells slots pc' Ls st) : own_W l Z y bytes ml ret R n0 Q h cells slots pc Ls (.int (XT.cmpL u w) :: st) :=
  own_pure (fun p e below T t m c hA hx hb hr => by subst hp; exact XS.ifNo hA hx rfl (hb ▸ hd) rfl (XT.ll_gt_f hc) hr) k
theorem own_il_gt {u w : Int64} {o : Int} {pf : Nat} (hd : decode bytes pc = .ok (.ifCond .gt o, 3)) (ho : 0 ≤ (pc : Int) + o) (hp : ((pc : Int) + o).toNat = pc') (hq : pc + 3 = pf) (kt : w < u → own_W l Z y bytes ml ret R n0 Q h cells slots pc' Ls st) (kf : ¬ w < u → own_W l Z y bytes ml ret R n0 Q h cells slots pf Ls st) : own_W l Z y bytes ml ret R n0 Q h cells slots pc Ls (.int (XT.cmpL u w) :: st) := by
  by_cases hc : w < u
  · exact own_il_gt_t hd hc ho hp (kt hc)
  · exact own_il_gt_f hd (by first | exact hc | exact Decidable.not_not.mp hc) hq (kf (by first | exact hc | exact Decidable.not_not.mp hc))
theorem own_if_le_t {u : Int32} {o : Int} (hd : decode bytes pc = .ok (.ifCond .le o, 3)) (hc : ¬ 0 < u) (ho : 0 ≤ (pc : Int) + o) (hp : ((pc : Int) + o).toNat = pc') (k : own_W l Z y bytes ml ret R n0 Q h cells slots pc' Ls st) : own_W l Z y bytes ml ret R n0 Q h cells slots pc Ls (.int u :: st) :=
  own_pure (fun p e below T t m c hA hx hb hr => XS.ifYes hA hx rfl rfl (hb ▸ hd) rfl (XT.i0_le_t hc) ho hp hr) k
theorem own_if_le_f {u : Int32} {o : Int} (hd : decode bytes pc = .ok (.ifCond .le o, 3)) (hc : 0 < u) (hp : pc + 3 = pc') (k : own_W l Z y bytes ml ret R n0 Q h cells slots pc' Ls st) : own_W l Z y bytes ml ret R n0 Q h cells slots pc Ls (.int u :: st) :=
  own_pure (fun p e below T t m c hA hx hb hr => by subst hp; exact XS.ifNo hA hx rfl (hb ▸ hd) rfl (XT.i0_le_f hc) hr) k
theorem own_if_le {u : Int32} {o : Int} {pf : Nat} (hd : decode bytes pc = .ok (.ifCond .le o, 3)) (ho : 0 ≤ (pc : Int) + o) (hp : ((pc : Int) + o).toNat = pc') (hq : pc + 3 = pf) (kt : ¬ 0 < u → own_W l Z y bytes ml ret R n0 Q h cells slots pc' Ls st) (kf : 0 < u → own_W l Z y bytes ml ret R n0 Q h cells slots pf Ls st) : own_W l Z y bytes ml ret R n0 Q h cells slots pc Ls (.int u :: st) := by
  by_cases hc : ¬ 0 < u
  · exact own_if_le_t hd hc ho hp (kt hc)
  · exact own_if_le_f hd (by first | exact hc | exact Decidable.not_not.mp hc) hq (kf (by first | exact hc | exact Decidable.not_not.mp hc))
theorem own_ic_le_t {u w : Int32} {o : Int} (hd : decode bytes pc = .ok (.if_icmp .le o, 3)) (hc : ¬ w < u) (ho : 0 ≤ (pc : Int) + o) (hp : ((pc : Int) + o).toNat = pc') (k : own_W l Z y bytes ml ret R n0 Q h cells slots pc' Ls st) : own_W l Z y bytes ml ret R n0 Q h cells slots pc Ls (.int w :: .int u :: st) :=
  own_pure (fun p e below T t m c hA hx hb hr => XS.icmpYes hA hx rfl rfl (hb ▸ hd) rfl (XT.ii_le_t hc) ho hp hr) k
theorem own_ic_le_f {u w : Int32} {o : Int} (hd : decode bytes pc = .ok (.if_icmp .le o, 3)) (hc : w < u) (hp : pc + 3 = pc') (k : own_W l Z y bytes ml ret R n0 Q h cells slots pc' Ls st) : own_W l Z y bytes ml ret R n0 Q h cells slots pc Ls (.int w :: .int u :: st) :=
  own_pure (fun p e below T t m c hA hx hb hr => by subst hp; exact XS.icmpNo hA hx rfl (hb ▸ hd) rfl (XT.ii_le_f hc) hr) k
theorem own_ic_le {u w : Int32} {o : Int} {pf : Nat} (hd : decode bytes pc = .ok (.if_icmp .le o, 3)) (ho : 0 ≤ (pc : Int) + o) (hp : ((pc : Int) + o).toNat = pc') (hq : pc + 3 = pf) (kt : ¬ w < u → own_W l Z y bytes ml ret R n0 Q h cells slots pc' Ls st) (kf : w < u → own_W l Z y bytes ml ret R n0 Q h cells slots pf Ls st) : own_W l Z y bytes ml ret R n0 Q h cells slots pc Ls (.int w :: .int u :: st) := by
  by_cases hc : ¬ w < u
  · exact own_ic_le_t hd hc ho hp (kt hc)
  · exact own_ic_le_f hd (by first | exact hc | exact Decidable.not_not.mp hc) hq (kf (by first | exact hc | exact Decidable.not_not.mp hc))
theorem own_il_le_t {u w : Int64} {o : Int} (hd : decode bytes pc = .ok (.ifCond .le o, 3)) (hc : ¬ w < u) (ho : 0 ≤ (pc : Int) + o) (hp : ((pc : Int) + o).toNat = pc') (k : own_W l Z y bytes ml ret R n0 Q h cells slots pc' Ls st) : own_W l Z y bytes ml ret R n0 Q h cells slots pc Ls (.int (XT.cmpL u w) :: st) :=
  own_pure (fun p e below T t m c hA hx hb hr => XS.ifYes hA hx rfl rfl (hb ▸ hd) rfl (XT.ll_le_t hc) ho hp hr) k
theorem own_il_le_f {u w : Int64} {o : Int} (hd : decode bytes pc = .ok (.ifCond .le o, 3)) (hc : w < u) (hp : pc + 3 = pc') (k : own_W l Z y bytes ml ret R n0 Q h cells slots pc' Ls st) : own_W l Z y bytes ml ret R n0 Q h cells slots pc Ls (.int (XT.cmpL u w) :: st) :=
  own_pure (fun p e below T t m c hA hx hb hr => by subst hp; exact XS.ifNo hA hx rfl (hb ▸ hd) rfl (XT.ll_le_f hc) hr) k
theorem own_il_le {u w : Int64} {o : Int} {pf : Nat} (hd : decode bytes pc = .ok (.ifCond .le o, 3)) (ho : 0 ≤ (pc : Int) + o) (hp : ((pc : Int) + o).toNat = pc') (hq : pc + 3 = pf) (kt : ¬ w < u → own_W l Z y bytes ml ret R n0 Q h cells slots pc' Ls st) (kf : w < u → own_W l Z y bytes ml ret R n0 Q h cells slots pf Ls st) : own_W l Z y bytes ml ret R n0 Q h cells slots pc Ls (.int (XT.cmpL u w) :: st) := by
  by_cases hc : ¬ w < u
  · exact own_il_le_t hd hc ho hp (kt hc)
  · exact own_il_le_f hd (by first | exact hc | exact Decidable.not_not.mp hc) hq (kf (by first | exact hc | exact Decidable.not_not.mp hc))
theorem own_ifnull_f {u : Addr} {o : Int} (hd : decode bytes pc = .ok (.ifnull o, 3)) (hp : pc + 3 = pc') (k : own_W l Z y bytes ml ret R n0 Q h cells slots pc' Ls st) : own_W l Z y bytes ml ret R n0 Q h cells slots pc Ls (.ref u :: st) :=
  own_pure (fun p e below T t m c hA hx hb hr => by subst hp; exact XS.ifnullNo hA hx rfl (hb ▸ hd) rfl hr) k
theorem own_ifnonnull_t {u : Addr} {o : Int} (hd : decode bytes pc = .ok (.ifnonnull o, 3)) (ho : 0 ≤ (pc : Int) + o) (hp : ((pc : Int) + o).toNat = pc') (k : own_W l Z y bytes ml ret R n0 Q h cells slots pc' Ls st) : own_W l Z y bytes ml ret R n0 Q h cells slots pc Ls (.ref u :: st) :=
  own_pure (fun p e below T t m c hA hx hb hr => XT.ifnonnullYes hA hx rfl rfl (hb ▸ hd) rfl ho hp hr) k
theorem own_ldcI {idx : Nat} {u : Int32} (w : (Jvm.Cond.constant y.cls idx u).before a0 Z = true) (hd : decode bytes pc = .ok (.ldc idx, 2)) (hp : pc + 2 = pc') (k : own_W l Z y bytes ml ret R n0 Q h cells slots pc' Ls (.int u :: st)) : own_W l Z y bytes ml ret R n0 Q h cells slots pc Ls st := by
  intro p e s vm0 k0 m args below meth c T locs hx hZ hown hby hml hret hlk hnm hce hsl X eT N hS hk
  subst hp
  obtain ⟨s₂, o, h1, h2⟩ := k p e s vm0 k0 m args below meth c T locs hx hZ hown hby hml hret hlk hnm hce hsl X eT N hS hk
  exact ⟨s₂, o, X.ldcInt hx hown (mvT hZ w) (g := mkF m pc Ls st) rfl (hb hby hd) _ h1, h2⟩
theorem own_ldcWI {idx : Nat} {u : Int32} (w : (Jvm.Cond.constant y.cls idx u).before a0 Z = true) (hd : decode bytes pc = .ok (.ldc_w idx, 3)) (hp : pc + 3 = pc') (k : own_W l Z y bytes ml ret R n0 Q h cells slots pc' Ls (.int u :: st)) : own_W l Z y bytes ml ret R n0 Q h cells slots pc Ls st := by
  intro p e s vm0 k0 m args below meth c T locs hx hZ hown hby hml hret hlk hnm hce hsl X eT N hS hk
  subst hp
  obtain ⟨s₂, o, h1, h2⟩ := k p e s vm0 k0 m args below meth c T locs hx hZ hown hby hml hret hlk hnm hce hsl X eT N hS hk
  exact ⟨s₂, o, X.ldcWInt hx hown (mvT hZ w) (g := mkF m pc Ls st) rfl (hb hby hd) _ h1, h2⟩
theorem own_ldc2 {idx : Nat} {u : Int64} (w : (Jvm.Cond.constantLong y.cls idx u).before a0 Z = true) (hd : decode bytes pc = .ok (.ldc2_w idx, 3)) (hp : pc + 3 = pc') (k : own_W l Z y bytes ml ret R n0 Q h cells slots pc' Ls (.long u :: st)) : own_W l Z y bytes ml ret R n0 Q h cells slots pc Ls st := by
  intro p e s vm0 k0 m args below meth c T locs hx hZ hown hby hml hret hlk hnm hce hsl X eT N hS hk
  subst hp
  obtain ⟨s₂, o, h1, h2⟩ := k p e s vm0 k0 m args below meth c T locs hx hZ hown hby hml hret hlk hnm hce hsl X eT N hS hk
  exact ⟨s₂, o, X.ldc2Long hx hown (mvT hZ w) (g := mkF m pc Ls st) rfl (hb hby hd) _ h1, h2⟩
theorem own_iret {u : Int32} (hr0 : ret = some .int) (hd : decode bytes pc = .ok (.ireturn, 1)) (hq : Q (some (.int u)) h) : own_W l Z y bytes ml ret R n0 Q h cells slots pc Ls (.int u :: st) := by
  intro p e s vm0 k0 m args below meth c T locs hx hZ hown hby hml hret hlk hnm hce hsl X eT N hS hk
  subst hr0
  obtain ⟨fs, hr, hrun, hended, hRW⟩ := X.leaveW hS (by rw [eT]; exact hk) (v := some (.int u)) (fun h => by rw [hret] at h; cases h) hlk
  refine ⟨_, _, ?_, hrun, hended, _, _, rfl, ⟨?_, N⟩, hRW.1, hRW.2.1, hRW.2.2.1, hRW.2.2.2.mono hce hsl⟩
  · exact retOut X hx hret rfl (Or.inl ⟨rfl, Or.inl rfl, _, rfl⟩) (hb hby hd) hr
  · rw [show (T.setFrames fs).heap = h from eT]; exact hq
theorem own_zret {u : Int32} {t : FieldType} (hr0 : ret = some t) (ht : t = .boolean ∨ t = .byte ∨ t = .char ∨ t = .short) (hd : decode bytes pc = .ok (.ireturn, 1)) (hq : Q (some (.int (nar t u))) h) : own_W l Z y bytes ml ret R n0 Q h cells slots pc Ls (.int u :: st) := by
  intro p e s vm0 k0 m args below meth c T locs hx hZ hown hby hml hret hlk hnm hce hsl X eT N hS hk
  subst hr0
  obtain ⟨fs, hr, hrun, hended, hRW⟩ := X.leaveW hS (by rw [eT]; exact hk) (v := some (.int (nar t u))) (fun h => by rw [hret] at h; cases h) hlk
  refine ⟨_, _, ?_, hrun, hended, _, _, rfl, ⟨?_, N⟩, hRW.1, hRW.2.1, hRW.2.2.1, hRW.2.2.2.mono hce hsl⟩
  · exact retN X hx hret ht (hb hby hd) hr
  · rw [show (T.setFrames fs).heap = h from eT]; exact hq
theorem own_bret {u v : Int32} (hr0 : ret = some .boolean) (hv : u &&& 1 = v) (hd : decode bytes pc = .ok (.ireturn, 1)) (hq : Q (some (.int v)) h) : own_W l Z y bytes ml ret R n0 Q h cells slots pc Ls (.int u :: st) :=
  own_zret hr0 (Or.inl rfl) hd (by subst hv; exact hq)
theorem own_lret {u : Int64} (hr0 : ret = some .long) (hd : decode bytes pc = .ok (.lreturn, 1)) (hq : Q (some (.long u)) h) : own_W l Z y bytes ml ret R n0 Q h cells slots pc Ls (.long u :: st) := by
  intro p e s vm0 k0 m args below meth c T locs hx hZ hown hby hml hret hlk hnm hce hsl X eT N hS hk
  subst hr0
  obtain ⟨fs, hr, hrun, hended, hRW⟩ := X.leaveW hS (by rw [eT]; exact hk) (v := some (.long u)) (fun h => by rw [hret] at h; cases h) hlk
  refine ⟨_, _, ?_, hrun, hended, _, _, rfl, ⟨?_, N⟩, hRW.1, hRW.2.1, hRW.2.2.1, hRW.2.2.2.mono hce hsl⟩
  · exact retOut X hx hret rfl (Or.inr (Or.inl ⟨rfl, rfl, _, rfl⟩)) (hb hby hd) hr
  · rw [show (T.setFrames fs).heap = h from eT]; exact hq
theorem own_aret {u : Addr} {t : FieldType} (hr0 : ret = some t) (ht : t.isReference = true) (hn : narrow t (.ref u) = .ref u) (hd : decode bytes pc = .ok (.areturn, 1)) (hq : Q (some (.ref u)) h) : own_W l Z y bytes ml ret R n0 Q h cells slots pc Ls (.ref u :: st) := by
  intro p e s vm0 k0 m args below meth c T locs hx hZ hown hby hml hret hlk hnm hce hsl X eT N hS hk
  subst hr0
  obtain ⟨fs, hr, hrun, hended, hRW⟩ := X.leaveW hS (by rw [eT]; exact hk) (v := some (.ref u)) (fun h => by rw [hret] at h; cases h) hlk
  refine ⟨_, _, ?_, hrun, hended, _, _, rfl, ⟨?_, N⟩, hRW.1, hRW.2.1, hRW.2.2.1, hRW.2.2.2.mono hce hsl⟩
  · exact retOut X hx hret hn (Or.inr (Or.inr (Or.inr (Or.inr ⟨rfl, ht, rfl⟩)))) (hb hby hd) hr
  · rw [show (T.setFrames fs).heap = h from eT]; exact hq
theorem own_ret (hr0 : ret = none) (hd : decode bytes pc = .ok (.return_, 1)) (hq : Q none h) : own_W l Z y bytes ml ret R n0 Q h cells slots pc Ls [] := by
  intro p e s vm0 k0 m args below meth c T locs hx hZ hown hby hml hret hlk hnm hce hsl X eT N hS hk
  subst hr0
  obtain ⟨fs, hr, hrun, hended, hRW⟩ := X.leaveW hS (by rw [eT]; exact hk) (v := none) (fun _ => rfl) hlk
  refine ⟨_, _, ?_, hrun, hended, _, _, rfl, ⟨?_, N⟩, hRW.1, hRW.2.1, hRW.2.2.1, hRW.2.2.2.mono hce hsl⟩
  · exact X.returnOut hx hret (hb hby hd) hr
  · rw [show (T.setFrames fs).heap = h from eT]; exact hq
theorem own_getF {O n d : String} {idx : Nat} {a : Addr} {v : Value} (w : (Jvm.Cond.fieldLink y.cls idx O n d).before a0 Z = true) (F : Fld Z h a O n d v) (hd : decode bytes pc = .ok (.getfield idx, 3)) (hp : pc + 3 = pc') (k : own_W l Z y bytes ml ret R n0 Q h cells slots pc' Ls (v :: st)) : own_W l Z y bytes ml ret R n0 Q h cells slots pc Ls (.ref a :: st) := by
  intro p e s vm0 k0 m args below meth c T locs hx hZ hown hby hml hret hlk hnm hce hsl X eT N hS hk
  subst hp
  obtain ⟨T', X', e', st'⟩ := getF X hx hZ hown (host := "") (Or.inl w) Via.refl eT F (g := mkF m pc Ls (.ref a :: st)) rfl rfl (hb hby hd)
  obtain ⟨s₂, o, h1, h2⟩ := k p e s vm0 k0 m args below meth c T' locs hx hZ hown hby hml hret hlk hnm hce hsl X' e' N hS hk
  exact ⟨s₂, o, st' _ h1, h2⟩
theorem own_putF {O n d C : String} {idx kk : Nat} {a : Addr} {v old : Value} {ty : FieldType} (w : (Jvm.Cond.fieldLink y.cls idx O n d).before a0 Z = true) (F : Fld Z h a O n d old) (E : Exa Z h a C) (L : (Jvm.Cond.lays C O n d).before a0 Z = true ∨ ((Jvm.Cond.laysFinal C O n d).before a0 Z = true ∧ y.cls = O ∧ y.name = "<init>")) (wi : (Jvm.Cond.instantiable C kk).before a0 Z = true)
    (ge : n0 ≤ a) (hty : parseFieldDescriptor d = some ty) (hn : narrow ty v = v) (hf : fits ty v = true) (hd : decode bytes pc = .ok (.putfield idx, 3)) (hp : pc + 3 = pc')
    (k : ∀ h', Wr h h' a (Jvm.RoadKit.slotOf Z O n d) v → Keep h h' [a] → own_W l Z y bytes ml ret R n0 Q h' cells slots pc' Ls st) : own_W l Z y bytes ml ret R n0 Q h cells slots pc Ls (v :: .ref a :: st) := by
  intro p e s vm0 k0 m args below meth c T locs hx hZ hown hby hml hret hlk hnm hce hsl X eT N hS hk
  subst hp
  obtain ⟨T', h', X', e', W', st'⟩ := putF X hx hZ hown (host := "") (Or.inl w) Via.refl eT F E (L.imp id fun q => ⟨q.1, q.2.1, hnm.trans q.2.2⟩) wi hty hn hf (g := mkF m pc Ls (v :: .ref a :: st)) rfl rfl (hb hby hd)
  obtain ⟨s₂, o, h1, h2⟩ := k h' W' (Keep.of_wr W') p e s vm0 k0 m args below meth c T' _ hx hZ hown hby hml hret hlk hnm hce hsl X' e' (Fr.snoc X' N ge) hS (Nat.le_trans hk (Keep.of_wr W').1)
  exact ⟨s₂, o, st' _ h1, h2⟩
theorem own_new {C : String} {idx n : Nat} (w : (Jvm.Cond.classLink y.cls idx C).before a0 Z = true) (wi : (Jvm.Cond.instantiable C n).before a0 Z = true) (wz : (Jvm.Cond.initialized C).before a0 Z = true) (hd : decode bytes pc = .ok (.new idx, 3)) (hp : pc + 3 = pc') (hc : cells + 1 ≤ R.cells) (hl : slots + n ≤ R.slots)
    (k : ∀ (h' : Heap) (a : Addr), h.size ≤ a → a < h'.size → Ext h h' → Exa Z h' a C → (∀ {O nm d : String} {ty : FieldType}, Laid Z a0 C O nm d → parseFieldDescriptor d = some ty → Fld Z h' a O nm d (defaultValue ty)) → own_W l Z y bytes ml ret R n0 Q h' (cells + 1) (slots + n) pc' Ls (.ref a :: st)) : own_W l Z y bytes ml ret R n0 Q h cells slots pc Ls st := by
  intro p e s vm0 k0 m args below meth c T locs hx hZ hown hby hml hret hlk hnm hce hsl X eT N hS hk
  subst hp
  obtain ⟨T', h', X', e', E', A', D', -, st'⟩ := newO X hx hZ hown w wi wz eT (g := mkF m pc Ls st) rfl (hb hby hd) hc hl
  obtain ⟨s₂, o, h1, h2⟩ := k h' h.size (Nat.le_refl _) A'.lt E' A' D' p e s vm0 k0 m args below meth c T' _ hx hZ hown hby hml hret hlk hnm hc hl X' e' N hS (Nat.le_trans hk E'.1)
  exact ⟨s₂, o, st' _ h1, h2⟩
theorem own_initO {idx W : Nat} {a : Addr} (w1 : (Jvm.Cond.methodLink y.cls idx Lib.objectInit).before a0 Z = true) (w2 : (Jvm.Cond.instanceMethod Lib.objectInit).before a0 Z = true) (w3 : (Jvm.Cond.code Lib.objectInit ⟨#[0xb1]⟩ 1 none).before a0 Z = true) (hd : decode bytes pc = .ok (.invokespecial idx, 3)) (hp : pc + 3 = pc')
    (hsz : Ls.size = ml) (hf : 1 ≤ R.frames) (hW : (st.map fun v => v.category).sum ≤ W) (hl : W + 12 ≤ R.locals) (k : own_W l Z y bytes ml ret R n0 Q h cells slots pc' Ls st) : own_W l Z y bytes ml ret R n0 Q h cells slots pc Ls (.ref a :: st) := by
  intro p e s vm0 k0 m args below meth c T locs hx hZ hown hby hml hret hlk hnm hce hsl X eT N hS hk
  subst hp
  obtain ⟨T', X', e', st'⟩ := initO X hx hZ hown w1 w2 w3 eT (g := mkF m pc Ls (.ref a :: st)) rfl (by rw [hml]; exact hsz) rfl (hb hby hd) hf (W := W) (by show 2 * 0 + _ ≤ _; omega) hl
  obtain ⟨s₂, o, h1, h2⟩ := k p e s vm0 k0 m args below meth c T' locs hx hZ hown hby hml hret hlk hnm hce hsl X' e' N hS hk
  exact ⟨s₂, o, st' _ h1, h2⟩
/-- an array of this component type with just these components -/
def own_A (Z : State) (h : Heap) (a : Addr) (ty : FieldType) (vs : List Value) : Prop := ∃ c : Cell, Arr Z h a c ty ∧ c.slots.toList = vs ∧ vs.length < 2 ^ 31 ∧ ∀ v ∈ vs, fits ty v = true
theorem own_A.lt {a : Addr} {ty : FieldType} {vs : List Value} (A : own_A Z h a ty vs) : a < h.size := by obtain ⟨c, A, -⟩ := A; exact A.lt
theorem own_A.ext {h' : Heap} {a : Addr} {ty : FieldType} {vs : List Value} (A : own_A Z h a ty vs) (E : Ext h h') : own_A Z h' a ty vs := by obtain ⟨c, A, r⟩ := A; exact ⟨c, A.ext E, r⟩
theorem own_A.keep {h' : Heap} {a : Addr} {ty : FieldType} {vs : List Value} {ws : List Addr} (A : own_A Z h a ty vs) (K : Keep h h' ws) (q : a ∉ ws) : own_A Z h' a ty vs := by obtain ⟨c, A, r⟩ := A; exact ⟨c, ⟨K.2.1 a c A.1 q, A.2⟩, r⟩
theorem own_A.cast {a : Addr} {ty : FieldType} {vs vs' : List Value} (A : own_A Z h a ty vs) (q : vs = vs') : own_A Z h a ty vs' := q ▸ A
theorem own_size {c : Cell} {vs : List Value} (q : c.slots.toList = vs) : c.slots.size = vs.length := by rw [← q]; simp
theorem own_in {c : Cell} {vs : List Value} {j : Int32} (q : c.slots.toList = vs) (h0 : ¬ j < 0) (h1 : j.toNatClampNeg < vs.length) : ¬ (j < 0 ∨ c.slots.size ≤ j.toNatClampNeg) := by rw [own_size q]; rintro (u | u); exact h0 u; omega
theorem own_get {c : Cell} {vs : List Value} {j : Nat} {v : Value} (q : c.slots.toList = vs) (h1 : vs[j]? = some v) : c.slots[j]? = some v := by rw [← Array.getElem?_toList, q]; exact h1
theorem own_A.set {h' : Heap} {a : Addr} {ty : FieldType} {vs : List Value} {j : Nat} {v : Value} {c : Cell} (A : Arr Z h a c ty) (q : c.slots.toList = vs) (hl : vs.length < 2 ^ 31) (hft : ∀ v ∈ vs, fits ty v = true) (hv : fits ty v = true) (W : Wr h h' a j v) : own_A Z h' a ty (vs.set j v) := by
  refine ⟨_, A.same W, ?_, by simpa using hl, fun w hw => (List.mem_or_eq_of_mem_set hw).elim (hft w) fun e => e ▸ hv⟩
  rw [← q]; simp [Cell.setSlot]
theorem own_fitd (ty : FieldType) : fits ty (defaultValue ty) = true := by cases ty <;> rfl
theorem own_len {a : Addr} {ty : FieldType} {vs : List Value} {n : Int32} (A : own_A Z h a ty vs) (hn : vs.length.toInt32 = n) (hd : decode bytes pc = .ok (.arraylength, 1)) (hp : pc + 1 = pc') (k : own_W l Z y bytes ml ret R n0 Q h cells slots pc' Ls (.int n :: st)) : own_W l Z y bytes ml ret R n0 Q h cells slots pc Ls (.ref a :: st) := by
  intro p e s vm0 k0 m args below meth c T locs hx hZ hown hby hml hret hlk hnm hce hsl X eT N hS hk
  subst hp hn
  obtain ⟨cl, A, q, hl, hft⟩ := A
  obtain ⟨s₂, o, h1, h2⟩ := k p e s vm0 k0 m args below meth c T locs hx hZ hown hby hml hret hlk hnm hce hsl X eT N hS hk
  refine ⟨s₂, o, X.arraylength hx (by rw [eT]; exact A.1) (State.isArrayOf_alike hZ.alike A.2.1) (g := mkF m pc Ls (.ref a :: st)) rfl rfl (hb hby hd) _ ?_, h2⟩
  rw [own_size q]; exact h1
theorem own_iaload {a : Addr} {vs : List Value} {j : Int32} {v : Value} (A : own_A Z h a .int vs) (h0 : ¬ j < 0) (hv : vs[j.toNatClampNeg]? = some v) (hd : decode bytes pc = .ok (.iaload, 1)) (hp : pc + 1 = pc') (k : own_W l Z y bytes ml ret R n0 Q h cells slots pc' Ls (v :: st)) : own_W l Z y bytes ml ret R n0 Q h cells slots pc Ls (.int j :: .ref a :: st) := by
  intro p e s vm0 k0 m args below meth c T locs hx hZ hown hby hml hret hlk hnm hce hsl X eT N hS hk
  subst hp
  obtain ⟨cl, A, q, hl, hft⟩ := A
  obtain ⟨s₂, o, h1, h2⟩ := k p e s vm0 k0 m args below meth c T locs hx hZ hown hby hml hret hlk hnm hce hsl X eT N hS hk
  exact ⟨s₂, o, X.iaload hx (by rw [eT]; exact A.1) (State.isArrayOf_alike hZ.alike A.2.1) A.2.2 (own_in q h0 (List.getElem?_eq_some_iff.mp hv).1) (own_get q hv) (g := mkF m pc Ls (.int j :: .ref a :: st)) rfl rfl (hb hby hd) _ h1, h2⟩
theorem own_laload {a : Addr} {vs : List Value} {j : Int32} {v : Value} (A : own_A Z h a .long vs) (h0 : ¬ j < 0) (hv : vs[j.toNatClampNeg]? = some v) (hd : decode bytes pc = .ok (.laload, 1)) (hp : pc + 1 = pc') (k : own_W l Z y bytes ml ret R n0 Q h cells slots pc' Ls (v :: st)) : own_W l Z y bytes ml ret R n0 Q h cells slots pc Ls (.int j :: .ref a :: st) := by
  intro p e s vm0 k0 m args below meth c T locs hx hZ hown hby hml hret hlk hnm hce hsl X eT N hS hk
  subst hp
  obtain ⟨cl, A, q, hl, hft⟩ := A
  obtain ⟨s₂, o, h1, h2⟩ := k p e s vm0 k0 m args below meth c T locs hx hZ hown hby hml hret hlk hnm hce hsl X eT N hS hk
  exact ⟨s₂, o, X.laload hx (by rw [eT]; exact A.1) (State.isArrayOf_alike hZ.alike A.2.1) A.2.2 (own_in q h0 (List.getElem?_eq_some_iff.mp hv).1) (own_get q hv) (g := mkF m pc Ls (.int j :: .ref a :: st)) rfl rfl (hb hby hd) _ h1, h2⟩
theorem own_caload {a : Addr} {vs : List Value} {j : Int32} {v : Value} (A : own_A Z h a .char vs) (h0 : ¬ j < 0) (hv : vs[j.toNatClampNeg]? = some v) (hd : decode bytes pc = .ok (.caload, 1)) (hp : pc + 1 = pc') (k : own_W l Z y bytes ml ret R n0 Q h cells slots pc' Ls (v :: st)) : own_W l Z y bytes ml ret R n0 Q h cells slots pc Ls (.int j :: .ref a :: st) := by
  intro p e s vm0 k0 m args below meth c T locs hx hZ hown hby hml hret hlk hnm hce hsl X eT N hS hk
  subst hp
  obtain ⟨cl, A, q, hl, hft⟩ := A
  obtain ⟨s₂, o, h1, h2⟩ := k p e s vm0 k0 m args below meth c T locs hx hZ hown hby hml hret hlk hnm hce hsl X eT N hS hk
  exact ⟨s₂, o, X.caload hx (by rw [eT]; exact A.1) (State.isArrayOf_alike hZ.alike A.2.1) A.2.2 (own_in q h0 (List.getElem?_eq_some_iff.mp hv).1) (own_get q hv) (g := mkF m pc Ls (.int j :: .ref a :: st)) rfl rfl (hb hby hd) _ h1, h2⟩
theorem own_baload {a : Addr} {vs : List Value} {j : Int32} {v : Value} (A : own_A Z h a .byte vs) (h0 : ¬ j < 0) (hv : vs[j.toNatClampNeg]? = some v) (hd : decode bytes pc = .ok (.baload, 1)) (hp : pc + 1 = pc') (k : own_W l Z y bytes ml ret R n0 Q h cells slots pc' Ls (v :: st)) : own_W l Z y bytes ml ret R n0 Q h cells slots pc Ls (.int j :: .ref a :: st) := by
  intro p e s vm0 k0 m args below meth c T locs hx hZ hown hby hml hret hlk hnm hce hsl X eT N hS hk
  subst hp
  obtain ⟨cl, A, q, hl, hft⟩ := A
  obtain ⟨s₂, o, h1, h2⟩ := k p e s vm0 k0 m args below meth c T locs hx hZ hown hby hml hret hlk hnm hce hsl X eT N hS hk
  exact ⟨s₂, o, X.baloadBytes hx (by rw [eT]; exact A.1) (State.isArrayOf_alike hZ.alike A.2.1) A.2.2 (own_in q h0 (List.getElem?_eq_some_iff.mp hv).1) (own_get q hv) (g := mkF m pc Ls (.int j :: .ref a :: st)) rfl rfl (hb hby hd) _ h1, h2⟩
theorem own_zaload {a : Addr} {vs : List Value} {j : Int32} {v : Value} (A : own_A Z h a .boolean vs) (h0 : ¬ j < 0) (hv : vs[j.toNatClampNeg]? = some v) (hd : decode bytes pc = .ok (.baload, 1)) (hp : pc + 1 = pc') (k : own_W l Z y bytes ml ret R n0 Q h cells slots pc' Ls (v :: st)) : own_W l Z y bytes ml ret R n0 Q h cells slots pc Ls (.int j :: .ref a :: st) := by
  intro p e s vm0 k0 m args below meth c T locs hx hZ hown hby hml hret hlk hnm hce hsl X eT N hS hk
  subst hp
  obtain ⟨cl, A, q, hl, hft⟩ := A
  obtain ⟨s₂, o, h1, h2⟩ := k p e s vm0 k0 m args below meth c T locs hx hZ hown hby hml hret hlk hnm hce hsl X eT N hS hk
  exact ⟨s₂, o, X.baloadBooleans hx (by rw [eT]; exact A.1) (State.isArrayOf_alike hZ.alike A.2.1) A.2.2 (own_in q h0 (List.getElem?_eq_some_iff.mp hv).1) (own_get q hv) (g := mkF m pc Ls (.int j :: .ref a :: st)) rfl rfl (hb hby hd) _ h1, h2⟩
theorem own_iastore {a : Addr} {vs : List Value} {j : Int32} {u : Int32} (A : own_A Z h a .int vs) (h0 : ¬ j < 0) (h1 : j.toNatClampNeg < vs.length) (ge : n0 ≤ a) (hd : decode bytes pc = .ok (.iastore, 1)) (hp : pc + 1 = pc') (k : ∀ h', Keep h h' [a] → own_A Z h' a .int (vs.set j.toNatClampNeg (.int u)) → own_W l Z y bytes ml ret R n0 Q h' cells slots pc' Ls st) : own_W l Z y bytes ml ret R n0 Q h cells slots pc Ls (.int u :: .int j :: .ref a :: st) := by
  intro p e s vm0 k0 m args below meth c T locs hx hZ hown hby hml hret hlk hnm hce hsl X eT N hS hk
  subst hp
  obtain ⟨cl, A, q, hl, hft⟩ := A
  obtain ⟨T', h', X', e', W', st'⟩ := stI X hx hZ eT A (own_in q h0 h1) (g := mkF m pc Ls (.int u :: .int j :: .ref a :: st)) rfl rfl (hb hby hd)
  obtain ⟨s₂, o, h1, h2⟩ := k h' (Keep.of_wr W') (own_A.set A q hl hft rfl W') p e s vm0 k0 m args below meth c T' _ hx hZ hown hby hml hret hlk hnm hce hsl X' e' (Fr.snoc X' N ge) hS (Nat.le_trans hk (Keep.of_wr W').1)
  exact ⟨s₂, o, st' _ h1, h2⟩
theorem own_lastore {a : Addr} {vs : List Value} {j : Int32} {u : Int64} (A : own_A Z h a .long vs) (h0 : ¬ j < 0) (h1 : j.toNatClampNeg < vs.length) (ge : n0 ≤ a) (hd : decode bytes pc = .ok (.lastore, 1)) (hp : pc + 1 = pc') (k : ∀ h', Keep h h' [a] → own_A Z h' a .long (vs.set j.toNatClampNeg (.long u)) → own_W l Z y bytes ml ret R n0 Q h' cells slots pc' Ls st) : own_W l Z y bytes ml ret R n0 Q h cells slots pc Ls (.long u :: .int j :: .ref a :: st) := by
  intro p e s vm0 k0 m args below meth c T locs hx hZ hown hby hml hret hlk hnm hce hsl X eT N hS hk
  subst hp
  obtain ⟨cl, A, q, hl, hft⟩ := A
  obtain ⟨T', h', X', e', W', st'⟩ := stJ X hx hZ eT A (own_in q h0 h1) (g := mkF m pc Ls (.long u :: .int j :: .ref a :: st)) rfl rfl (hb hby hd)
  obtain ⟨s₂, o, h1, h2⟩ := k h' (Keep.of_wr W') (own_A.set A q hl hft rfl W') p e s vm0 k0 m args below meth c T' _ hx hZ hown hby hml hret hlk hnm hce hsl X' e' (Fr.snoc X' N ge) hS (Nat.le_trans hk (Keep.of_wr W').1)
  exact ⟨s₂, o, st' _ h1, h2⟩
theorem own_castore {a : Addr} {vs : List Value} {j : Int32} {u : Int32} (A : own_A Z h a .char vs) (h0 : ¬ j < 0) (h1 : j.toNatClampNeg < vs.length) (ge : n0 ≤ a) (hd : decode bytes pc = .ok (.castore, 1)) (hp : pc + 1 = pc') (k : ∀ h', Keep h h' [a] → own_A Z h' a .char (vs.set j.toNatClampNeg (.int (nar .char u))) → own_W l Z y bytes ml ret R n0 Q h' cells slots pc' Ls st) : own_W l Z y bytes ml ret R n0 Q h cells slots pc Ls (.int u :: .int j :: .ref a :: st) := by
  intro p e s vm0 k0 m args below meth c T locs hx hZ hown hby hml hret hlk hnm hce hsl X eT N hS hk
  subst hp
  obtain ⟨cl, A, q, hl, hft⟩ := A
  obtain ⟨T', h', X', e', W', st'⟩ := stC X hx hZ eT A (own_in q h0 h1) (g := mkF m pc Ls (.int u :: .int j :: .ref a :: st)) rfl rfl (hb hby hd)
  obtain ⟨s₂, o, h1, h2⟩ := k h' (Keep.of_wr W') (own_A.set A q hl hft (fits_nar_char u) W') p e s vm0 k0 m args below meth c T' _ hx hZ hown hby hml hret hlk hnm hce hsl X' e' (Fr.snoc X' N ge) hS (Nat.le_trans hk (Keep.of_wr W').1)
  exact ⟨s₂, o, st' _ h1, h2⟩
theorem own_bastore {a : Addr} {vs : List Value} {j : Int32} {u : Int32} (A : own_A Z h a .byte vs) (h0 : ¬ j < 0) (h1 : j.toNatClampNeg < vs.length) (ge : n0 ≤ a) (hd : decode bytes pc = .ok (.bastore, 1)) (hp : pc + 1 = pc') (k : ∀ h', Keep h h' [a] → own_A Z h' a .byte (vs.set j.toNatClampNeg (.int (nar .byte u))) → own_W l Z y bytes ml ret R n0 Q h' cells slots pc' Ls st) : own_W l Z y bytes ml ret R n0 Q h cells slots pc Ls (.int u :: .int j :: .ref a :: st) := by
  intro p e s vm0 k0 m args below meth c T locs hx hZ hown hby hml hret hlk hnm hce hsl X eT N hS hk
  subst hp
  obtain ⟨cl, A, q, hl, hft⟩ := A
  obtain ⟨T', h', X', e', W', st'⟩ := stB X hx hZ eT A (own_in q h0 h1) (g := mkF m pc Ls (.int u :: .int j :: .ref a :: st)) rfl rfl (hb hby hd)
  obtain ⟨s₂, o, h1, h2⟩ := k h' (Keep.of_wr W') (own_A.set A q hl hft (fits_nar_byte u) W') p e s vm0 k0 m args below meth c T' _ hx hZ hown hby hml hret hlk hnm hce hsl X' e' (Fr.snoc X' N ge) hS (Nat.le_trans hk (Keep.of_wr W').1)
  exact ⟨s₂, o, st' _ h1, h2⟩
theorem own_zastore {a : Addr} {vs : List Value} {j : Int32} {u : Int32} (A : own_A Z h a .boolean vs) (h0 : ¬ j < 0) (h1 : j.toNatClampNeg < vs.length) (ge : n0 ≤ a) (hd : decode bytes pc = .ok (.bastore, 1)) (hp : pc + 1 = pc') (k : ∀ h', Keep h h' [a] → own_A Z h' a .boolean (vs.set j.toNatClampNeg (.int (nar .boolean u))) → own_W l Z y bytes ml ret R n0 Q h' cells slots pc' Ls st) : own_W l Z y bytes ml ret R n0 Q h cells slots pc Ls (.int u :: .int j :: .ref a :: st) := by
  intro p e s vm0 k0 m args below meth c T locs hx hZ hown hby hml hret hlk hnm hce hsl X eT N hS hk
  subst hp
  obtain ⟨cl, A, q, hl, hft⟩ := A
  obtain ⟨T', h', X', e', W', st'⟩ := stZ X hx hZ eT A (own_in q h0 h1) (g := mkF m pc Ls (.int u :: .int j :: .ref a :: st)) rfl rfl (hb hby hd)
  obtain ⟨s₂, o, h1, h2⟩ := k h' (Keep.of_wr W') (own_A.set A q hl hft (fits_nar_bool u) W') p e s vm0 k0 m args below meth c T' _ hx hZ hown hby hml hret hlk hnm hce hsl X' e' (Fr.snoc X' N ge) hS (Nat.le_trans hk (Keep.of_wr W').1)
  exact ⟨s₂, o, st' _ h1, h2⟩
theorem own_newarrE {aty : ArrayType} {ty : FieldType} {n : Int32} {cap : Nat} (w : (Jvm.Cond.arrayClass ty).before a0 Z = true) (ht : newarray.typeOf aty = ty) (hd : decode bytes pc = .ok (.newarray aty, 2)) (hp : pc + 2 = pc') (hn : ¬ n < 0) (hcap : n.toNatClampNeg ≤ cap) (hb8 : cap * 8 ≤ 536870912) (hc : cells + 1 ≤ R.cells) (hl : slots + cap ≤ R.slots)
    (k : ∀ (h' : Heap) (a : Addr), h.size ≤ a → a < h'.size → Ext h h' → own_A Z h' a ty (List.replicate n.toNatClampNeg (defaultValue ty)) → Exa Z h' a ("[" ++ ty.toString) → own_W l Z y bytes ml ret R n0 Q h' (cells + 1) (slots + cap) pc' Ls (.ref a :: st)) : own_W l Z y bytes ml ret R n0 Q h cells slots pc Ls (.int n :: st) := by
  intro p e s vm0 k0 m args below meth c T locs hx hZ hown hby hml hret hlk hnm hce hsl X eT N hS hk
  subst hp ht
  have hcb : componentBytes (newarray.typeOf aty) ≤ 8 := by cases aty <;> decide
  obtain ⟨cA, kA, comp, g1, g2, g3, X', st'⟩ := X.newarrayPrim hx (mvA hZ w) (g := mkF m pc Ls (.int n :: st)) rfl (hb hby hd) rfl hn (Nat.le_trans (Nat.mul_le_mul hcap hcb) hb8) hc (by omega)
  rw [hZ.alike.findClass] at g1
  obtain ⟨kZ, z1, -⟩ := Vm.findClass_spec g1
  obtain ⟨k', z2, z3⟩ := hZ.alike.2.2 _ _ z1
  cases g2.symm.trans z2
  have kk : kZ.kind = .array comp (newarray.typeOf aty) := by rw [← g3, z3]
  have hN : (T.heap.push ({ cls := cA, slots := Array.replicate n.toNatClampNeg (defaultValue (newarray.typeOf aty)), vm := .none } : Cell))[T.heap.size]? = some { cls := cA, slots := Array.replicate n.toNatClampNeg (defaultValue (newarray.typeOf aty)), vm := .none } := by simp
  have E' : Ext h (T.heap.push ({ cls := cA, slots := Array.replicate n.toNatClampNeg (defaultValue (newarray.typeOf aty)), vm := .none } : Cell)) := by
    subst eT
    refine ⟨by simp, fun b cc hb' => ?_⟩
    rw [Array.getElem?_push_lt (Array.getElem?_eq_some_iff.mp hb').1]; exact (Array.getElem?_eq_getElem _).symm.trans hb'
  have A' : own_A Z (T.heap.push ({ cls := cA, slots := Array.replicate n.toNatClampNeg (defaultValue (newarray.typeOf aty)), vm := .none } : Cell)) T.heap.size (newarray.typeOf aty) (List.replicate n.toNatClampNeg (defaultValue (newarray.typeOf aty))) :=
    ⟨_, ⟨hN, ⟨by simp, kZ, z1, comp, kk⟩, by simp⟩, by simp, by simp only [List.length_replicate]; exact (back32 hn).2, fun v hv => by rw [(List.mem_replicate.mp hv).2]; exact own_fitd _⟩
  have X2 := X'.more (Nat.le_refl _) (Nat.add_le_add_left hcap slots)
  obtain ⟨s₂, o, h1, h2⟩ := k _ T.heap.size (by rw [eT]; exact Nat.le_refl _) A'.lt E' A' ⟨_, kZ, hN, g1, z1, rfl, fun q => by rw [kk] at q; cases q⟩ p e s vm0 k0 m args below meth c _ _ hx hZ hown hby hml hret hlk hnm hc hl X2 rfl N hS (Nat.le_trans hk E'.1)
  exact ⟨s₂, o, st' _ h1, h2⟩
theorem own_newarr {aty : ArrayType} {ty : FieldType} {n : Int32} {cap : Nat} (w : (Jvm.Cond.arrayClass ty).before a0 Z = true) (ht : newarray.typeOf aty = ty) (hd : decode bytes pc = .ok (.newarray aty, 2)) (hp : pc + 2 = pc') (hn : ¬ n < 0) (hcap : n.toNatClampNeg ≤ cap) (hb8 : cap * 8 ≤ 536870912) (hc : cells + 1 ≤ R.cells) (hl : slots + cap ≤ R.slots)
    (k : ∀ (h' : Heap) (a : Addr), h.size ≤ a → a < h'.size → Ext h h' → own_A Z h' a ty (List.replicate n.toNatClampNeg (defaultValue ty)) → own_W l Z y bytes ml ret R n0 Q h' (cells + 1) (slots + cap) pc' Ls (.ref a :: st)) : own_W l Z y bytes ml ret R n0 Q h cells slots pc Ls (.int n :: st) :=
  own_newarrE w ht hd hp hn hcap hb8 hc hl fun h' a q1 q2 q3 q4 _ => k h' a q1 q2 q3 q4
theorem own_cast {idx : Nat} {K : String} {a : Addr} (w : (Jvm.Cond.classLink y.cls idx K).before a0 Z = true) (F : Ins Z h a K true) (hd : decode bytes pc = .ok (.checkcast idx, 3)) (hp : pc + 3 = pc') (k : own_W l Z y bytes ml ret R n0 Q h cells slots pc' Ls (.ref a :: st)) : own_W l Z y bytes ml ret R n0 Q h cells slots pc Ls (.ref a :: st) := by
  intro p e s vm0 k0 m args below meth c T locs hx hZ hown hby hml hret hlk hnm hce hsl X eT N hS hk
  subst hp
  obtain ⟨T', X', e', st'⟩ := castY X hx hZ hown w eT F (g := mkF m pc Ls (.ref a :: st)) rfl rfl (hb hby hd)
  obtain ⟨s₂, o, h1, h2⟩ := k p e s vm0 k0 m args below meth c T' locs hx hZ hown hby hml hret hlk hnm hce hsl X' e' N hS hk
  exact ⟨s₂, o, st' _ h1, h2⟩
theorem own_clone {ad : String} {idx W cap : Nat} {a : Addr} {ty : FieldType} {vs : List Value} (w1 : (Jvm.Cond.methodLink y.cls idx ⟨ad, "clone", "()Ljava/lang/Object;"⟩).before a0 Z = true) (w2 : (Jvm.Cond.sameMethod ad "java/lang/Object" "clone" "()Ljava/lang/Object;").before a0 Z = true) (w3 : (Jvm.Cond.native ⟨"java/lang/Object", "clone", "()Ljava/lang/Object;"⟩).before a0 Z = true)
    (w4 : (Jvm.Cond.instanceMethod ⟨"java/lang/Object", "clone", "()Ljava/lang/Object;"⟩).before a0 Z = true) (w5 : (Jvm.Cond.selects ad ⟨ad, "clone", "()Ljava/lang/Object;"⟩ ⟨"java/lang/Object", "clone", "()Ljava/lang/Object;"⟩).before a0 Z = true) (w6 : (Jvm.Cond.castable ad "java/lang/Cloneable").before a0 Z = true)
    (A : own_A Z h a ty vs) (E : Exa Z h a ad) (hd : decode bytes pc = .ok (.invokevirtual idx, 3)) (hp : pc + 3 = pc') (hsz : Ls.size = ml) (hf : 1 ≤ R.frames) (hW : (st.map fun v => v.category).sum ≤ W) (hl : W + 14 ≤ R.locals) (hcap : vs.length ≤ cap) (hc : cells + 1 ≤ R.cells) (hsl' : slots + cap ≤ R.slots)
    (k : ∀ (h' : Heap) (b : Addr), h.size ≤ b → b < h'.size → Ext h h' → own_A Z h' b ty vs → Exa Z h' b ad → own_W l Z y bytes ml ret R n0 Q h' (cells + 1) (slots + cap) pc' Ls (.ref b :: st)) : own_W l Z y bytes ml ret R n0 Q h cells slots pc Ls (.ref a :: st) := by
  intro p e s vm0 k0 m args below meth c T locs hx hZ hown hby hml hret hlk hnm hce hsl X eT N hS hk
  subst hp
  obtain ⟨cl, A, q, hlen, hft⟩ := A
  have F : FitC Z cl := fun i v hv => by
    obtain ⟨-, k, hk, comp, hkind⟩ := A.2.1
    have e1 : Z.slotType? cl.cls .none i = some ty := by simp [State.slotType?, hk, hkind]
    have mem : v ∈ vs := by rw [← q]; rw [← Array.getElem?_toList] at hv; exact List.mem_of_getElem? hv
    simpa [State.fitsSlot, e1] using hft v mem
  obtain ⟨T', h', X', e', E', A', E2, st'⟩ := cloneA X hx hZ hown w1 w2 w3 w4 w5 w6 eT A E F (g := mkF m pc Ls (.ref a :: st)) rfl (by rw [hml]; exact hsz) rfl (hb hby hd) hf (W := W) (by show 2 * 0 + _ ≤ _; omega) hl (cap := cap) (by rw [own_size q]; exact hcap) hc hsl'
  obtain ⟨s₂, o, h1, h2⟩ := k h' h.size (Nat.le_refl _) A'.lt E' ⟨_, A', q, hlen, hft⟩ E2 p e s vm0 k0 m args below meth c T' locs hx hZ hown hby hml hret hlk hnm hc hsl' X' e' N hS (Nat.le_trans hk E'.1)
  exact ⟨s₂, o, st' _ h1, h2⟩
theorem own_getD {α : Type} (l : List α) (d : α) {i : Nat} (h : i < l.length) : l.getD i d = l[i] := by
  rw [List.getD_eq_getElem?_getD, List.getElem?_eq_getElem h]; rfl
theorem own_len32 {n : Nat} (h : n < 2 ^ 31) : n.toInt32.toNatClampNeg = n ∧ ¬ n.toInt32 < 0 := by
  have e := len_toInt h
  have z : (0 : Int32).toInt = 0 := rfl
  exact ⟨by rw [Int32.toNatClampNeg, e]; rfl, by rw [Int32.lt_iff_toInt_lt, e, z]; omega⟩
theorem own_A.arv {a : Addr} {ty : FieldType} {vs : List Value} (A : own_A Z h a ty vs) (d : Value) : ∃ k, Arv Z h a k ty vs.length.toInt32 vs d := by
  obtain ⟨c, A, q, hl, hft⟩ := A
  have e := own_len32 hl
  refine ⟨c.cls, c, A, rfl, by rw [e.1]; exact own_size q, e.2, fun k hk => ?_, fun k hk => ?_⟩
  · rw [own_size q] at hk
    refine own_get q ?_
    rw [own_getD _ _ hk]; exact List.getElem?_eq_getElem hk
  · rw [own_size q] at hk
    rw [own_getD _ _ hk]; exact hft _ (List.getElem_mem hk)
theorem own_A.ofArv {a : Addr} {ty : FieldType} {vs : List Value} {k : ClassId} {z : Int32} {d : Value} (A : Arv Z h a k ty z vs d) (hz : z.toNatClampNeg = vs.length) (hl : vs.length < 2 ^ 31) : own_A Z h a ty vs := by
  obtain ⟨c, A, -, hs, -, H, G⟩ := A
  have e : c.slots.toList = vs := by
    apply List.ext_getElem?
    intro i
    by_cases hi : i < vs.length
    · rw [Array.getElem?_toList, H i (by omega), own_getD _ _ hi, List.getElem?_eq_getElem hi]
    · rw [List.getElem?_eq_none (by rw [Array.length_toList]; omega), List.getElem?_eq_none (by omega)]
  refine ⟨c, A, e, hl, fun v hv => ?_⟩
  obtain ⟨i, hi, rfl⟩ := List.mem_iff_getElem.mp hv
  have := G i (by omega)
  rwa [own_getD _ _ hi] at this
theorem own_slice (vs : List Value) (d : Value) (p n : Nat) (h : p + n ≤ vs.length) : (vs.drop p).take n = (List.range n).map fun i => vs.getD (p + i) d := by
  apply List.ext_getElem
  · simp; omega
  · intro i h1 h2
    simp only [List.length_map, List.length_range] at h2
    simp [List.getD_eq_getElem?_getD, show p + i < vs.length by omega]
theorem own_acopy {idx W : Nat} {a b : Addr} {ty : FieldType} {vs vd : List Value} {sp dp nn : Int32} (w1 : (Jvm.Cond.methodLink y.cls idx Jvm.Stand.acN).before a0 Z = true) (w2 : (Jvm.Cond.native Jvm.Stand.acN).before a0 Z = true) (w3 : (Jvm.Cond.static Jvm.Stand.acN).before a0 Z = true) (w4 : (Jvm.Cond.initialized "java/lang/System").before a0 Z = true)
    (A : own_A Z h a ty vs) (B : own_A Z h b ty vd) (hty : refKind ty = false) (h1 : ¬ sp < 0) (h2 : ¬ dp < 0) (h3 : ¬ nn < 0) (h4 : sp.toNatClampNeg + nn.toNatClampNeg ≤ vs.length) (h5 : dp.toNatClampNeg + nn.toNatClampNeg ≤ vd.length) (ge : n0 ≤ b)
    (hd : decode bytes pc = .ok (.invokestatic idx, 3)) (hp : pc + 3 = pc') (hsz : Ls.size = ml) (hf : 1 ≤ R.frames) (hW : (st.map fun v => v.category).sum ≤ W) (hlo : W + (nativeFrameWords "java/lang/System" "arraycopy" 5 + 11) ≤ R.locals)
    (k : ∀ h', Keep h h' [b] → own_A Z h' b ty (vd.take dp.toNatClampNeg ++ (vs.drop sp.toNatClampNeg).take nn.toNatClampNeg ++ vd.drop (dp.toNatClampNeg + nn.toNatClampNeg)) → own_W l Z y bytes ml ret R n0 Q h' cells slots pc' Ls st) : own_W l Z y bytes ml ret R n0 Q h cells slots pc Ls (.int nn :: .int dp :: .ref b :: .int sp :: .ref a :: st) := by
  intro p e s vm0 k0 m args below meth c T locs hx hZ hown hby hml hret hlk hnm hce hsl X eT N hS hk
  subst hp
  have hlv : vs.length < 2 ^ 31 := by obtain ⟨_, _, _, q, _⟩ := A; exact q
  have hld : vd.length < 2 ^ 31 := by obtain ⟨_, _, _, q, _⟩ := B; exact q
  obtain ⟨k1, A1⟩ := A.arv .null
  obtain ⟨k2, B1⟩ := B.arv .null
  have e1 := own_len32 hlv
  have e2 := own_len32 hld
  obtain ⟨T', h', L, X', e', N', K', B', st'⟩ := cpA X hx hZ hown w1 w2 w3 w4 eT A1 B1 (Or.inl ⟨rfl, hty⟩) h1 h2 h3 (by rw [e1.1]; exact h4) (by rw [e2.1]; exact h5) (own_slice vs .null _ _ h4) h5 N ge (g := mkF m pc Ls (.int nn :: .int dp :: .ref b :: .int sp :: .ref a :: st)) rfl (by rw [hml]; exact hsz) rfl (hb hby hd) hf (W := W) (by show 2 * 0 + _ ≤ _; omega) hlo
  have hlen : (vd.take dp.toNatClampNeg ++ (vs.drop sp.toNatClampNeg).take nn.toNatClampNeg ++ vd.drop (dp.toNatClampNeg + nn.toNatClampNeg)).length = vd.length := by
    simp only [List.length_append, List.length_take, List.length_drop]; omega
  obtain ⟨s₂, o, q1, q2⟩ := k h' K' (own_A.ofArv B' (by rw [e2.1, hlen]) (by rw [hlen]; exact hld)) p e s vm0 k0 m args below meth c T' L hx hZ hown hby hml hret hlk hnm hce hsl X' e' N' hS (Nat.le_trans hk K'.1)
  exact ⟨s₂, o, st' _ q1, q2⟩
theorem own_ldcS {idx n : Nat} {text : String} (w : (Jvm.Cond.stringLink y.cls idx text).before a0 Z = true) (wS : ∀ d ∈ Bundle.stringAtoms, d.before a0 Z = true) (hd : decode bytes pc = .ok (.ldc idx, 2)) (hp : pc + 2 = pc') (hn : 4 * text.toList.length ≤ n) (hbig : n ≤ 536870912) (hc : cells + 2 ≤ R.cells) (hl : slots + (n + 4) ≤ R.slots)
    (k : ∀ (h' : Heap) (a : Addr), Ext h h' → own_W l Z y bytes ml ret R n0 Q h' (cells + 2) (slots + (n + 4)) pc' Ls (.ref a :: st)) : own_W l Z y bytes ml ret R n0 Q h cells slots pc Ls st := by
  intro p e s vm0 k0 m args below meth c T locs hx hZ hown hby hml hret hlk hnm hce hsl X eT N hS hk
  subst hp
  obtain ⟨a, T', h', k1, X', e', E', hS', hk', hZ', hown', st'⟩ := ldcS X hx hZ hown w wS eT hS hk (g := mkF m pc Ls st) rfl (hb hby hd) hn hbig hc hl
  obtain ⟨s₂, o, h1, h2⟩ := k h' a E' p e s T'.vm k1 m args below meth c T' locs hx hZ' hown' hby hml hret hlk hnm hc hl X' e' N hS' hk'
  exact ⟨s₂, o, st' _ h1, h2⟩
theorem own_met {z : MethodName} {rm : Room} {argsL : List Value} {Lc : Array Slot} (hC : own_W l Z z bytes ml ret rm n0 Q h 0 0 0 Lc []) (pn : plainFor z = true) (hent : Jvm.Sym.laidSlots argsL ++ List.replicate (ml - (Jvm.Sym.laidSlots argsL).length) .unset = Lc.toList) (ws : List Jvm.Cond) :
    MetFree l z (head1 (Jvm.Cond.code z bytes ml ret :: ws) rm) (fun a U => a = argsL.toArray ∧ Z.Warmed39 U.vm ∧ U.heap = h) (fun _ _ _ _ _ => True) (fun _ U o U' => ∃ v L, o = .returned v ∧ (Q v U'.heap ∧ Fr n0 L) ∧ ReturnedEndW U o U' L rm.cells rm.slots) := by
  refine MetFree.of_bodySF pn hisR ?_
  intro p e s m args below meth c s₁ Bd hml0 hP hK
  obtain ⟨rfl, hZ, hh⟩ := hP
  obtain ⟨s₂, o, h1, h2, h3, h4⟩ := hC p e s s.vm 0 m _ below meth c s₁ [] Bd.exec hZ (findClass_of_methodNamed Bd.named) Bd.bytes hml0 Bd.returns Bd.notSynchronized (name_of_methodNamed Bd.named Bd.method).1 (Nat.zero_le _) (Nat.zero_le _) (Stand.of_body Bd) (by rw [← hh, Bd.state]; rfl) (Fr.nil n0) ((State.WarmedH.refl s).since 0) (Nat.zero_le _)
  exact ⟨s₂, o, (XT.entry (by simpa using hent)).trans h1, h2, h3, h4⟩
theorem own_static {z : MethodName} {bytes' : ByteArray} {ml' : Nat} {ret' : Option FieldType} {rm : Room} {Qc : Option Value → Heap → Prop} {Lc : Array Slot} {argsL rest : List Value} {ps : List FieldType} {rt : Option FieldType} {idx W : Nat} (hC : own_W l Z z bytes' ml' ret' rm n0 Qc h 0 0 0 Lc []) (w1 : (Jvm.Cond.methodLink y.cls idx z).before a0 Z = true) (w2 : (Jvm.Cond.static z).before a0 Z = true) (w3 : (Jvm.Cond.initialized z.cls).before a0 Z = true) (w4 : (Jvm.Cond.code z bytes' ml' ret').before a0 Z = true) (pn : plainFor z = true) (hy : z.cls ≠ "java/lang/invoke/MethodHandle" ∧ z.cls ≠ "java/lang/invoke/VarHandle") (pd : parseMethodDescriptor z.desc = some ⟨ps, rt⟩) (hlen : argsL.length = ps.length)
    (hst : st = argsL.reverse ++ rest) (hent : Jvm.Sym.laidSlots argsL ++ List.replicate (ml' - (Jvm.Sym.laidSlots argsL).length) .unset = Lc.toList) (hW : (rest.map fun v => v.category).sum ≤ W) (hfr : rm.frames + 1 ≤ R.frames) (hlo : W + (ml' + 11) + rm.locals ≤ R.locals) (hce' : cells + rm.cells ≤ R.cells) (hsl' : slots + rm.slots ≤ R.slots) (hsz : Ls.size = ml) (hd : decode bytes pc = .ok (.invokestatic idx, 3)) (hp : pc + 3 = pc') (k : ∀ v h', Qc v h' → own_W l Z y bytes ml ret R n0 Q h' (cells + rm.cells) (slots + rm.slots) pc' Ls (v.toList ++ rest)) : own_W l Z y bytes ml ret R n0 Q h cells slots pc Ls st := by
  intro p e s vm0 k0 m args below meth c T locs hx hZ hown hby hml hret hlk hnm hce hsl X eT N hS hk
  subst hp
  obtain ⟨v, vm₁, ⟨T1, L1, k1, n1⟩, -, X1, hS1, hg1, ⟨Lc1, hQ1, l1, y1, z1⟩, st1⟩ := callSS X hx (y := z) hown (mvT hZ w1) (mvT hZ w2) (mvT hZ w3) (mvT hZ w4) hy (backOfS (W := W) (Q := fun v h L => Qc v h ∧ Fr n0 L) (own_met hC pn hent []) hZ w4 w3 hfr hlo) (g := mkF m pc Ls st) rfl (by rw [hml]; exact hsz) (argsL := argsL) (rest := rest) (lenOf pd hlen) hst (by show 2 * 0 + _ ≤ _; omega) (hb hby hd) (fun _ _ => ⟨rfl, eT, hce', hsl'⟩)
  dsimp only [Pt.U, Pt.locs, Pt.cells, Pt.slots] at X1 l1 y1 z1 st1 hQ1 hS1 hg1
  subst l1 y1 z1
  obtain ⟨X2, hS2, hZ2, hown2⟩ := rebS hS (show k0 ≤ T.heap.size by rw [eT]; exact hk) X1 hS1 hg1 hZ hown
  obtain ⟨s₂, o, h1, h2⟩ := k v T1.heap hQ1.1 p e s T1.vm T1.heap.size m args below meth c T1 _ hx hZ2 hown2 hby hml hret hlk hnm hce' hsl' X2 rfl (Fr.app N hQ1.2) hS2 (Nat.le_refl _)
  exact ⟨s₂, o, st1.trans h1, h2⟩
theorem own_special {z : MethodName} {bytes' : ByteArray} {ml' : Nat} {ret' : Option FieldType} {rm : Room} {Qc : Option Value → Heap → Prop} {Lc : Array Slot} {argsL rest : List Value} {ps : List FieldType} {rt : Option FieldType} {idx W : Nat} {a : Addr} (hC : own_W l Z z bytes' ml' none rm n0 Qc h 0 0 0 Lc []) (w1 : (Jvm.Cond.methodLink y.cls idx z).before a0 Z = true) (w2 : (Jvm.Cond.instanceMethod z).before a0 Z = true) (w3 : (Jvm.Cond.initialized z.cls).before a0 Z = true) (w4 : (Jvm.Cond.code z bytes' ml' none).before a0 Z = true) (hzn : z.name = "<init>") (pn : plainFor z = true) (hy : z.cls ≠ "java/lang/invoke/MethodHandle" ∧ z.cls ≠ "java/lang/invoke/VarHandle") (pd : parseMethodDescriptor z.desc = some ⟨ps, rt⟩) (hlen : argsL.length = ps.length)
    (hst : st = argsL.reverse ++ .ref a :: rest) (hent : Jvm.Sym.laidSlots (.ref a :: argsL) ++ List.replicate (ml' - (Jvm.Sym.laidSlots (.ref a :: argsL)).length) .unset = Lc.toList) (hW : (rest.map fun v => v.category).sum ≤ W) (hfr : rm.frames + 1 ≤ R.frames) (hlo : W + (ml' + 11) + rm.locals ≤ R.locals) (hce' : cells + rm.cells ≤ R.cells) (hsl' : slots + rm.slots ≤ R.slots) (hsz : Ls.size = ml) (hd : decode bytes pc = .ok (.invokespecial idx, 3)) (hp : pc + 3 = pc') (k : ∀ v h', Qc v h' → own_W l Z y bytes ml ret R n0 Q h' (cells + rm.cells) (slots + rm.slots) pc' Ls (v.toList ++ rest)) : own_W l Z y bytes ml ret R n0 Q h cells slots pc Ls st := by
  intro p e s vm0 k0 m args below meth c T locs hx hZ hown hby hml hret hlk hnm hce hsl X eT N hS hk
  subst hp
  obtain ⟨v, vm₁, ⟨T1, L1, k1, n1⟩, -, X1, hS1, hg1, ⟨Lc1, hQ1, l1, y1, z1⟩, st1⟩ := X.specialBackS hx (y := z) hzn hown (mvT hZ w1) (mvT hZ w2) (mvT hZ w4) hy (backOfS (W := W) (Q := fun v h L => Qc v h ∧ Fr n0 L) (own_met hC pn hent []) hZ w4 w3 hfr hlo) (g := mkF m pc Ls st) rfl (by rw [hml]; exact hsz) (Steps.refl _) (a := a) (argsL := argsL) (rest := rest) (lenOf pd hlen) hst (by show 2 * 0 + _ ≤ _; omega) (hb hby hd) (fun _ _ => ⟨rfl, eT, hce', hsl'⟩)
  dsimp only [Pt.U, Pt.locs, Pt.cells, Pt.slots] at X1 l1 y1 z1 st1 hQ1 hS1 hg1
  subst l1 y1 z1
  obtain ⟨X2, hS2, hZ2, hown2⟩ := rebS hS (show k0 ≤ T.heap.size by rw [eT]; exact hk) X1 hS1 hg1 hZ hown
  obtain ⟨s₂, o, h1, h2⟩ := k v T1.heap hQ1.1 p e s T1.vm T1.heap.size m args below meth c T1 _ hx hZ2 hown2 hby hml hret hlk hnm hce' hsl' X2 rfl (Fr.app N hQ1.2) hS2 (Nat.le_refl _)
  exact ⟨s₂, o, st1.trans h1, h2⟩
theorem own_virtual {z : MethodName} {bytes' : ByteArray} {ml' : Nat} {ret' : Option FieldType} {rm : Room} {Qc : Option Value → Heap → Prop} {Lc : Array Slot} {argsL rest : List Value} {ps : List FieldType} {rt : Option FieldType} {idx W : Nat} {a : Addr} {C : String} (hC : own_W l Z z bytes' ml' ret' rm n0 Qc h 0 0 0 Lc []) (E : Exa Z h a C) (w1 : (Jvm.Cond.methodLink y.cls idx z).before a0 Z = true) (w2 : (Jvm.Cond.declares z).before a0 Z = true) (w5 : (Jvm.Cond.selects C z z).before a0 Z = true) (w6 : (Jvm.Cond.instanceMethod z).before a0 Z = true) (w3 : (Jvm.Cond.initialized z.cls).before a0 Z = true) (w4 : (Jvm.Cond.code z bytes' ml' ret').before a0 Z = true) (pn : plainFor z = true) (hy : z.cls ≠ "java/lang/invoke/MethodHandle" ∧ z.cls ≠ "java/lang/invoke/VarHandle") (pd : parseMethodDescriptor z.desc = some ⟨ps, rt⟩) (hlen : argsL.length = ps.length)
    (hst : st = argsL.reverse ++ .ref a :: rest) (hent : Jvm.Sym.laidSlots (.ref a :: argsL) ++ List.replicate (ml' - (Jvm.Sym.laidSlots (.ref a :: argsL)).length) .unset = Lc.toList) (hW : (rest.map fun v => v.category).sum ≤ W) (hfr : rm.frames + 1 ≤ R.frames) (hlo : W + (ml' + 11) + rm.locals ≤ R.locals) (hce' : cells + rm.cells ≤ R.cells) (hsl' : slots + rm.slots ≤ R.slots) (hsz : Ls.size = ml) (hd : decode bytes pc = .ok (.invokevirtual idx, 3)) (hp : pc + 3 = pc') (k : ∀ v h', Qc v h' → own_W l Z y bytes ml ret R n0 Q h' (cells + rm.cells) (slots + rm.slots) pc' Ls (v.toList ++ rest)) : own_W l Z y bytes ml ret R n0 Q h cells slots pc Ls st := by
  intro p e s vm0 k0 m args below meth c T locs hx hZ hown hby hml hret hlk hnm hce hsl X eT N hS hk
  subst hp
  obtain ⟨cq, kq, qa, qb, qc⟩ := isOf hZ eT E
  obtain ⟨v, vm₁, ⟨T1, L1, k1, n1⟩, -, X1, hS1, hg1, ⟨Lc1, hQ1, l1, y1, z1⟩, st1⟩ := X.virtualBackS hx (y := z) (z := z) hown (mvT hZ w1) (mvT hZ w2) (notFace_of_selects (args := #[]) (mvT hZ w5)) (mvT hZ w5) (mvT hZ w6) hy (backOfS (W := W) (Q := fun v h L => Qc v h ∧ Fr n0 L) (own_met hC pn hent []) hZ w4 w3 hfr hlo) qa qc (g := mkF m pc Ls st) rfl (by rw [hml]; exact hsz) (Steps.refl _) (argsL := argsL) (rest := rest) (lenOf pd hlen) hst (by show 2 * 0 + _ ≤ _; omega) (hb hby hd) (fun _ _ => ⟨rfl, eT, hce', hsl'⟩)
  dsimp only [Pt.U, Pt.locs, Pt.cells, Pt.slots] at X1 l1 y1 z1 st1 hQ1 hS1 hg1
  subst l1 y1 z1
  obtain ⟨X2, hS2, hZ2, hown2⟩ := rebS hS (show k0 ≤ T.heap.size by rw [eT]; exact hk) X1 hS1 hg1 hZ hown
  obtain ⟨s₂, o, h1, h2⟩ := k v T1.heap hQ1.1 p e s T1.vm T1.heap.size m args below meth c T1 _ hx hZ2 hown2 hby hml hret hlk hnm hce' hsl' X2 rfl (Fr.app N hQ1.2) hS2 (Nat.le_refl _)
  exact ⟨s₂, o, st1.trans h1, h2⟩
theorem own_private {z : MethodName} {bytes' : ByteArray} {ml' : Nat} {ret' : Option FieldType} {rm : Room} {Qc : Option Value → Heap → Prop} {Lc : Array Slot} {argsL rest : List Value} {ps : List FieldType} {rt : Option FieldType} {idx W : Nat} {a : Addr} {C : String} {kk : Nat} (hC : own_W l Z z bytes' ml' ret' rm n0 Qc h 0 0 0 Lc []) (E : Exa Z h a C) (w1 : (Jvm.Cond.methodLink y.cls idx z).before a0 Z = true) (w6 : (Jvm.Cond.instanceMethod z).before a0 Z = true) (wp : (Jvm.Cond.privateMethod z).before a0 Z = true) (wi : (Jvm.Cond.instantiable z.cls kk).before a0 Z = true) (w3 : (Jvm.Cond.initialized z.cls).before a0 Z = true) (w4 : (Jvm.Cond.code z bytes' ml' ret').before a0 Z = true) (pn : plainFor z = true) (hy : z.cls ≠ "java/lang/invoke/MethodHandle" ∧ z.cls ≠ "java/lang/invoke/VarHandle") (pd : parseMethodDescriptor z.desc = some ⟨ps, rt⟩) (hlen : argsL.length = ps.length)
    (hst : st = argsL.reverse ++ .ref a :: rest) (hent : Jvm.Sym.laidSlots (.ref a :: argsL) ++ List.replicate (ml' - (Jvm.Sym.laidSlots (.ref a :: argsL)).length) .unset = Lc.toList) (hW : (rest.map fun v => v.category).sum ≤ W) (hfr : rm.frames + 1 ≤ R.frames) (hlo : W + (ml' + 11) + rm.locals ≤ R.locals) (hce' : cells + rm.cells ≤ R.cells) (hsl' : slots + rm.slots ≤ R.slots) (hsz : Ls.size = ml) (hd : decode bytes pc = .ok (.invokevirtual idx, 3)) (hp : pc + 3 = pc') (k : ∀ v h', Qc v h' → own_W l Z y bytes ml ret R n0 Q h' (cells + rm.cells) (slots + rm.slots) pc' Ls (v.toList ++ rest)) : own_W l Z y bytes ml ret R n0 Q h cells slots pc Ls st := by
  intro p e s vm0 k0 m args below meth c T locs hx hZ hown hby hml hret hlk hnm hce hsl X eT N hS hk
  subst hp
  obtain ⟨c2, k2, i1, i2, i3, i4, -⟩ := Cond.instantiable_spec (mvT (args := args) hZ wi)
  have hpr := Cond.privateMethod_at (mvP (args := #[]) hZ wp)
  have hsel := Jvm.Stand.selects_self_of_private (args := args) i1 i2 (Bool.or_eq_false_iff.mp i4).1 hpr (mvT hZ w6) hy
  obtain ⟨cell, qc, qo⟩ := E.cell
  obtain ⟨v, vm₁, ⟨T1, L1, k1, n1⟩, -, X1, hS1, hg1, ⟨Lc1, hQ1, l1, y1, z1⟩, st1⟩ := X.privateBackS hx (y := z) hown (mvT hZ w1) (mvT hZ w6) hsel hpr (mvT hZ w4) hy (backOfS (W := W) (Q := fun v h L => Qc v h ∧ Fr n0 L) (own_met hC pn hent []) hZ w4 w3 hfr hlo) (g := mkF m pc Ls st) rfl (by rw [hml]; exact hsz) (Steps.refl _) (a := a) (by rw [eT]; exact qc) qo (argsL := argsL) (rest := rest) (lenOf pd hlen) hst (by show 2 * 0 + _ ≤ _; omega) (hb hby hd) (fun _ _ => ⟨rfl, eT, hce', hsl'⟩)
  dsimp only [Pt.U, Pt.locs, Pt.cells, Pt.slots] at X1 l1 y1 z1 st1 hQ1 hS1 hg1
  subst l1 y1 z1
  obtain ⟨X2, hS2, hZ2, hown2⟩ := rebS hS (show k0 ≤ T.heap.size by rw [eT]; exact hk) X1 hS1 hg1 hZ hown
  obtain ⟨s₂, o, h1, h2⟩ := k v T1.heap hQ1.1 p e s T1.vm T1.heap.size m args below meth c T1 _ hx hZ2 hown2 hby hml hret hlk hnm hce' hsl' X2 rfl (Fr.app N hQ1.2) hS2 (Nat.le_refl _)
  exact ⟨s₂, o, st1.trans h1, h2⟩
end OwnW
-- LAYER END
theorem d1_0 : decode prog_15_method_1_code 0 = .ok (.aload_n 0, 1) := by decide +kernel
theorem d1_1 : decode prog_15_method_1_code 1 = .ok (.invokespecial 3, 3) := by decide +kernel
theorem d1_4 : decode prog_15_method_1_code 4 = .ok (.aload_n 0, 1) := by decide +kernel
theorem d1_5 : decode prog_15_method_1_code 5 = .ok (.aload_n 1, 1) := by decide +kernel
theorem d1_6 : decode prog_15_method_1_code 6 = .ok (.ldc 9, 2) := by decide +kernel
theorem d1_8 : decode prog_15_method_1_code 8 = .ok (.invokestatic 11, 3) := by decide +kernel
theorem d1_11 : decode prog_15_method_1_code 11 = .ok (.checkcast 17, 3) := by decide +kernel
theorem d1_14 : decode prog_15_method_1_code 14 = .ok (.invokevirtual 19, 3) := by decide +kernel
theorem d1_17 : decode prog_15_method_1_code 17 = .ok (.checkcast 17, 3) := by decide +kernel
theorem d1_20 : decode prog_15_method_1_code 20 = .ok (.putfield 23, 3) := by decide +kernel
theorem d1_23 : decode prog_15_method_1_code 23 = .ok (.aload_n 0, 1) := by decide +kernel
theorem d1_24 : decode prog_15_method_1_code 24 = .ok (.aload_n 2, 1) := by decide +kernel
theorem d1_25 : decode prog_15_method_1_code 25 = .ok (.ldc 27, 2) := by decide +kernel
theorem d1_27 : decode prog_15_method_1_code 27 = .ok (.invokestatic 11, 3) := by decide +kernel
theorem d1_30 : decode prog_15_method_1_code 30 = .ok (.checkcast 17, 3) := by decide +kernel
theorem d1_33 : decode prog_15_method_1_code 33 = .ok (.invokevirtual 19, 3) := by decide +kernel
theorem d1_36 : decode prog_15_method_1_code 36 = .ok (.checkcast 17, 3) := by decide +kernel
theorem d1_39 : decode prog_15_method_1_code 39 = .ok (.putfield 29, 3) := by decide +kernel
theorem d1_42 : decode prog_15_method_1_code 42 = .ok (.aload_n 0, 1) := by decide +kernel
theorem d1_43 : decode prog_15_method_1_code 43 = .ok (.aload_n 3, 1) := by decide +kernel
theorem d1_44 : decode prog_15_method_1_code 44 = .ok (.ldc 31, 2) := by decide +kernel
theorem d1_46 : decode prog_15_method_1_code 46 = .ok (.invokestatic 11, 3) := by decide +kernel
theorem d1_49 : decode prog_15_method_1_code 49 = .ok (.checkcast 17, 3) := by decide +kernel
theorem d1_52 : decode prog_15_method_1_code 52 = .ok (.invokevirtual 19, 3) := by decide +kernel
theorem d1_55 : decode prog_15_method_1_code 55 = .ok (.checkcast 17, 3) := by decide +kernel
theorem d1_58 : decode prog_15_method_1_code 58 = .ok (.putfield 33, 3) := by decide +kernel
theorem d1_61 : decode prog_15_method_1_code 61 = .ok (.aload_n 0, 1) := by decide +kernel
theorem d1_62 : decode prog_15_method_1_code 62 = .ok (.aload 4, 2) := by decide +kernel
theorem d1_64 : decode prog_15_method_1_code 64 = .ok (.ldc 35, 2) := by decide +kernel
theorem d1_66 : decode prog_15_method_1_code 66 = .ok (.invokestatic 11, 3) := by decide +kernel
theorem d1_69 : decode prog_15_method_1_code 69 = .ok (.checkcast 17, 3) := by decide +kernel
theorem d1_72 : decode prog_15_method_1_code 72 = .ok (.invokevirtual 19, 3) := by decide +kernel
theorem d1_75 : decode prog_15_method_1_code 75 = .ok (.checkcast 17, 3) := by decide +kernel
theorem d1_78 : decode prog_15_method_1_code 78 = .ok (.putfield 37, 3) := by decide +kernel
theorem d1_81 : decode prog_15_method_1_code 81 = .ok (.aload_n 0, 1) := by decide +kernel
theorem d1_82 : decode prog_15_method_1_code 82 = .ok (.getfield 23, 3) := by decide +kernel
theorem d1_85 : decode prog_15_method_1_code 85 = .ok (.aload_n 0, 1) := by decide +kernel
theorem d1_86 : decode prog_15_method_1_code 86 = .ok (.getfield 29, 3) := by decide +kernel
theorem d1_89 : decode prog_15_method_1_code 89 = .ok (.aload_n 0, 1) := by decide +kernel
theorem d1_90 : decode prog_15_method_1_code 90 = .ok (.getfield 33, 3) := by decide +kernel
theorem d1_93 : decode prog_15_method_1_code 93 = .ok (.aload_n 0, 1) := by decide +kernel
theorem d1_94 : decode prog_15_method_1_code 94 = .ok (.getfield 37, 3) := by decide +kernel
theorem d1_97 : decode prog_15_method_1_code 97 = .ok (.invokestatic 39, 3) := by decide +kernel
theorem d1_100 : decode prog_15_method_1_code 100 = .ok (.aload_n 0, 1) := by decide +kernel
theorem d1_101 : decode prog_15_method_1_code 101 = .ok (.getfield 23, 3) := by decide +kernel
theorem d1_104 : decode prog_15_method_1_code 104 = .ok (.aload_n 0, 1) := by decide +kernel
theorem d1_105 : decode prog_15_method_1_code 105 = .ok (.getfield 29, 3) := by decide +kernel
theorem d1_108 : decode prog_15_method_1_code 108 = .ok (.aload_n 0, 1) := by decide +kernel
theorem d1_109 : decode prog_15_method_1_code 109 = .ok (.getfield 33, 3) := by decide +kernel
theorem d1_112 : decode prog_15_method_1_code 112 = .ok (.aload_n 0, 1) := by decide +kernel
theorem d1_113 : decode prog_15_method_1_code 113 = .ok (.getfield 37, 3) := by decide +kernel
theorem d1_116 : decode prog_15_method_1_code 116 = .ok (.invokestatic 43, 3) := by decide +kernel
theorem d1_119 : decode prog_15_method_1_code 119 = .ok (.aload_n 0, 1) := by decide +kernel
theorem d1_120 : decode prog_15_method_1_code 120 = .ok (.aload_n 0, 1) := by decide +kernel
theorem d1_121 : decode prog_15_method_1_code 121 = .ok (.getfield 29, 3) := by decide +kernel
theorem d1_124 : decode prog_15_method_1_code 124 = .ok (.invokestatic 46, 3) := by decide +kernel
theorem d1_127 : decode prog_15_method_1_code 127 = .ok (.putfield 50, 3) := by decide +kernel
theorem d1_130 : decode prog_15_method_1_code 130 = .ok (.return_, 1) := by decide +kernel
theorem d2_0 : decode object_method_1_code 0 = .ok (.return_, 1) := by decide +kernel
theorem d3_0 : decode jdk_31_method_11_code 0 = .ok (.aload_n 0, 1) := by decide +kernel
theorem d3_1 : decode jdk_31_method_11_code 1 = .ok (.ifnonnull 12, 3) := by decide +kernel
theorem d3_4 : decode jdk_31_method_11_code 4 = .ok (.new 84, 3) := by decide +kernel
theorem d3_7 : decode jdk_31_method_11_code 7 = .ok (.dup, 1) := by decide +kernel
theorem d3_8 : decode jdk_31_method_11_code 8 = .ok (.aload_n 1, 1) := by decide +kernel
theorem d3_9 : decode jdk_31_method_11_code 9 = .ok (.invokespecial 87, 3) := by decide +kernel
theorem d3_12 : decode jdk_31_method_11_code 12 = .ok (.athrow, 1) := by decide +kernel
theorem d3_13 : decode jdk_31_method_11_code 13 = .ok (.aload_n 0, 1) := by decide +kernel
theorem d3_14 : decode jdk_31_method_11_code 14 = .ok (.areturn, 1) := by decide +kernel
theorem d4_0 : decode prog_15_method_2_code 0 = .ok (.aload_n 0, 1) := by decide +kernel
theorem d4_1 : decode prog_15_method_2_code 1 = .ok (.arraylength, 1) := by decide +kernel
theorem d4_2 : decode prog_15_method_2_code 2 = .ok (.istore 4, 2) := by decide +kernel
theorem d4_4 : decode prog_15_method_2_code 4 = .ok (.iload 4, 2) := by decide +kernel
theorem d4_6 : decode prog_15_method_2_code 6 = .ok (.ifCond .ne 13, 3) := by decide +kernel
theorem d4_9 : decode prog_15_method_2_code 9 = .ok (.ldc 54, 2) := by decide +kernel
theorem d4_11 : decode prog_15_method_2_code 11 = .ok (.iconst 0, 1) := by decide +kernel
theorem d4_12 : decode prog_15_method_2_code 12 = .ok (.anewarray 4, 3) := by decide +kernel
theorem d4_15 : decode prog_15_method_2_code 15 = .ok (.invokestatic 56, 3) := by decide +kernel
theorem d4_18 : decode prog_15_method_2_code 18 = .ok (.athrow, 1) := by decide +kernel
theorem d4_19 : decode prog_15_method_2_code 19 = .ok (.aload_n 1, 1) := by decide +kernel
theorem d4_20 : decode prog_15_method_2_code 20 = .ok (.arraylength, 1) := by decide +kernel
theorem d4_21 : decode prog_15_method_2_code 21 = .ok (.iload 4, 2) := by decide +kernel
theorem d4_23 : decode prog_15_method_2_code 23 = .ok (.if_icmp .eq 29, 3) := by decide +kernel
theorem d4_26 : decode prog_15_method_2_code 26 = .ok (.ldc 60, 2) := by decide +kernel
theorem d4_28 : decode prog_15_method_2_code 28 = .ok (.iconst 2, 1) := by decide +kernel
theorem d4_29 : decode prog_15_method_2_code 29 = .ok (.anewarray 4, 3) := by decide +kernel
theorem d4_32 : decode prog_15_method_2_code 32 = .ok (.dup, 1) := by decide +kernel
theorem d4_33 : decode prog_15_method_2_code 33 = .ok (.iconst 0, 1) := by decide +kernel
theorem d4_34 : decode prog_15_method_2_code 34 = .ok (.iload 4, 2) := by decide +kernel
theorem d4_36 : decode prog_15_method_2_code 36 = .ok (.invokestatic 62, 3) := by decide +kernel
theorem d4_39 : decode prog_15_method_2_code 39 = .ok (.aastore, 1) := by decide +kernel
theorem d4_40 : decode prog_15_method_2_code 40 = .ok (.dup, 1) := by decide +kernel
theorem d4_41 : decode prog_15_method_2_code 41 = .ok (.iconst 1, 1) := by decide +kernel
theorem d4_42 : decode prog_15_method_2_code 42 = .ok (.aload_n 1, 1) := by decide +kernel
theorem d4_43 : decode prog_15_method_2_code 43 = .ok (.arraylength, 1) := by decide +kernel
theorem d4_44 : decode prog_15_method_2_code 44 = .ok (.invokestatic 62, 3) := by decide +kernel
theorem d4_47 : decode prog_15_method_2_code 47 = .ok (.aastore, 1) := by decide +kernel
theorem d4_48 : decode prog_15_method_2_code 48 = .ok (.invokestatic 56, 3) := by decide +kernel
theorem d4_51 : decode prog_15_method_2_code 51 = .ok (.athrow, 1) := by decide +kernel
theorem d4_52 : decode prog_15_method_2_code 52 = .ok (.aload_n 2, 1) := by decide +kernel
theorem d4_53 : decode prog_15_method_2_code 53 = .ok (.arraylength, 1) := by decide +kernel
theorem d4_54 : decode prog_15_method_2_code 54 = .ok (.iload 4, 2) := by decide +kernel
theorem d4_56 : decode prog_15_method_2_code 56 = .ok (.iconst 1, 1) := by decide +kernel
theorem d4_57 : decode prog_15_method_2_code 57 = .ok (.iadd, 1) := by decide +kernel
theorem d4_58 : decode prog_15_method_2_code 58 = .ok (.if_icmp .eq 31, 3) := by decide +kernel
theorem d4_61 : decode prog_15_method_2_code 61 = .ok (.ldc 66, 2) := by decide +kernel
theorem d4_63 : decode prog_15_method_2_code 63 = .ok (.iconst 2, 1) := by decide +kernel
theorem d4_64 : decode prog_15_method_2_code 64 = .ok (.anewarray 4, 3) := by decide +kernel
theorem d4_67 : decode prog_15_method_2_code 67 = .ok (.dup, 1) := by decide +kernel
theorem d4_68 : decode prog_15_method_2_code 68 = .ok (.iconst 0, 1) := by decide +kernel
theorem d4_69 : decode prog_15_method_2_code 69 = .ok (.aload_n 2, 1) := by decide +kernel
theorem d4_70 : decode prog_15_method_2_code 70 = .ok (.arraylength, 1) := by decide +kernel
theorem d4_71 : decode prog_15_method_2_code 71 = .ok (.invokestatic 62, 3) := by decide +kernel
theorem d4_74 : decode prog_15_method_2_code 74 = .ok (.aastore, 1) := by decide +kernel
theorem d4_75 : decode prog_15_method_2_code 75 = .ok (.dup, 1) := by decide +kernel
theorem d4_76 : decode prog_15_method_2_code 76 = .ok (.iconst 1, 1) := by decide +kernel
theorem d4_77 : decode prog_15_method_2_code 77 = .ok (.iload 4, 2) := by decide +kernel
theorem d4_79 : decode prog_15_method_2_code 79 = .ok (.iconst 1, 1) := by decide +kernel
theorem d4_80 : decode prog_15_method_2_code 80 = .ok (.iadd, 1) := by decide +kernel
theorem d4_81 : decode prog_15_method_2_code 81 = .ok (.invokestatic 62, 3) := by decide +kernel
theorem d4_84 : decode prog_15_method_2_code 84 = .ok (.aastore, 1) := by decide +kernel
theorem d4_85 : decode prog_15_method_2_code 85 = .ok (.invokestatic 56, 3) := by decide +kernel
theorem d4_88 : decode prog_15_method_2_code 88 = .ok (.athrow, 1) := by decide +kernel
theorem d4_89 : decode prog_15_method_2_code 89 = .ok (.aload_n 2, 1) := by decide +kernel
theorem d4_90 : decode prog_15_method_2_code 90 = .ok (.iconst 0, 1) := by decide +kernel
theorem d4_91 : decode prog_15_method_2_code 91 = .ok (.iaload, 1) := by decide +kernel
theorem d4_92 : decode prog_15_method_2_code 92 = .ok (.ifCond .ne 12, 3) := by decide +kernel
theorem d4_95 : decode prog_15_method_2_code 95 = .ok (.aload_n 2, 1) := by decide +kernel
theorem d4_96 : decode prog_15_method_2_code 96 = .ok (.iload 4, 2) := by decide +kernel
theorem d4_98 : decode prog_15_method_2_code 98 = .ok (.iaload, 1) := by decide +kernel
theorem d4_99 : decode prog_15_method_2_code 99 = .ok (.aload_n 3, 1) := by decide +kernel
theorem d4_100 : decode prog_15_method_2_code 100 = .ok (.arraylength, 1) := by decide +kernel
theorem d4_101 : decode prog_15_method_2_code 101 = .ok (.if_icmp .eq 40, 3) := by decide +kernel
theorem d4_104 : decode prog_15_method_2_code 104 = .ok (.ldc 68, 2) := by decide +kernel
theorem d4_106 : decode prog_15_method_2_code 106 = .ok (.iconst 3, 1) := by decide +kernel
theorem d4_107 : decode prog_15_method_2_code 107 = .ok (.anewarray 4, 3) := by decide +kernel
theorem d4_110 : decode prog_15_method_2_code 110 = .ok (.dup, 1) := by decide +kernel
theorem d4_111 : decode prog_15_method_2_code 111 = .ok (.iconst 0, 1) := by decide +kernel
theorem d4_112 : decode prog_15_method_2_code 112 = .ok (.aload_n 2, 1) := by decide +kernel
theorem d4_113 : decode prog_15_method_2_code 113 = .ok (.iconst 0, 1) := by decide +kernel
theorem d4_114 : decode prog_15_method_2_code 114 = .ok (.iaload, 1) := by decide +kernel
theorem d4_115 : decode prog_15_method_2_code 115 = .ok (.invokestatic 62, 3) := by decide +kernel
theorem d4_118 : decode prog_15_method_2_code 118 = .ok (.aastore, 1) := by decide +kernel
theorem d4_119 : decode prog_15_method_2_code 119 = .ok (.dup, 1) := by decide +kernel
theorem d4_120 : decode prog_15_method_2_code 120 = .ok (.iconst 1, 1) := by decide +kernel
theorem d4_121 : decode prog_15_method_2_code 121 = .ok (.aload_n 2, 1) := by decide +kernel
theorem d4_122 : decode prog_15_method_2_code 122 = .ok (.iload 4, 2) := by decide +kernel
theorem d4_124 : decode prog_15_method_2_code 124 = .ok (.iaload, 1) := by decide +kernel
theorem d4_125 : decode prog_15_method_2_code 125 = .ok (.invokestatic 62, 3) := by decide +kernel
theorem d4_128 : decode prog_15_method_2_code 128 = .ok (.aastore, 1) := by decide +kernel
theorem d4_129 : decode prog_15_method_2_code 129 = .ok (.dup, 1) := by decide +kernel
theorem d4_130 : decode prog_15_method_2_code 130 = .ok (.iconst 2, 1) := by decide +kernel
theorem d4_131 : decode prog_15_method_2_code 131 = .ok (.aload_n 3, 1) := by decide +kernel
theorem d4_132 : decode prog_15_method_2_code 132 = .ok (.arraylength, 1) := by decide +kernel
theorem d4_133 : decode prog_15_method_2_code 133 = .ok (.invokestatic 62, 3) := by decide +kernel
theorem d4_136 : decode prog_15_method_2_code 136 = .ok (.aastore, 1) := by decide +kernel
theorem d4_137 : decode prog_15_method_2_code 137 = .ok (.invokestatic 56, 3) := by decide +kernel
theorem d4_140 : decode prog_15_method_2_code 140 = .ok (.athrow, 1) := by decide +kernel
theorem d4_141 : decode prog_15_method_2_code 141 = .ok (.iconst 0, 1) := by decide +kernel
theorem d4_142 : decode prog_15_method_2_code 142 = .ok (.istore 5, 2) := by decide +kernel
theorem d4_144 : decode prog_15_method_2_code 144 = .ok (.iload 5, 2) := by decide +kernel
theorem d4_146 : decode prog_15_method_2_code 146 = .ok (.iload 4, 2) := by decide +kernel
theorem d4_148 : decode prog_15_method_2_code 148 = .ok (.if_icmp .ge 50, 3) := by decide +kernel
theorem d4_151 : decode prog_15_method_2_code 151 = .ok (.aload_n 2, 1) := by decide +kernel
theorem d4_152 : decode prog_15_method_2_code 152 = .ok (.iload 5, 2) := by decide +kernel
theorem d4_154 : decode prog_15_method_2_code 154 = .ok (.iconst 1, 1) := by decide +kernel
theorem d4_155 : decode prog_15_method_2_code 155 = .ok (.iadd, 1) := by decide +kernel
theorem d4_156 : decode prog_15_method_2_code 156 = .ok (.iaload, 1) := by decide +kernel
theorem d4_157 : decode prog_15_method_2_code 157 = .ok (.aload_n 2, 1) := by decide +kernel
theorem d4_158 : decode prog_15_method_2_code 158 = .ok (.iload 5, 2) := by decide +kernel
theorem d4_160 : decode prog_15_method_2_code 160 = .ok (.iaload, 1) := by decide +kernel
theorem d4_161 : decode prog_15_method_2_code 161 = .ok (.if_icmp .ge 31, 3) := by decide +kernel
theorem d4_164 : decode prog_15_method_2_code 164 = .ok (.ldc 70, 2) := by decide +kernel
theorem d4_166 : decode prog_15_method_2_code 166 = .ok (.iconst 2, 1) := by decide +kernel
theorem d4_167 : decode prog_15_method_2_code 167 = .ok (.anewarray 4, 3) := by decide +kernel
theorem d4_170 : decode prog_15_method_2_code 170 = .ok (.dup, 1) := by decide +kernel
theorem d4_171 : decode prog_15_method_2_code 171 = .ok (.iconst 0, 1) := by decide +kernel
theorem d4_172 : decode prog_15_method_2_code 172 = .ok (.iload 5, 2) := by decide +kernel
theorem d4_174 : decode prog_15_method_2_code 174 = .ok (.iconst 1, 1) := by decide +kernel
theorem d4_175 : decode prog_15_method_2_code 175 = .ok (.iadd, 1) := by decide +kernel
theorem d4_176 : decode prog_15_method_2_code 176 = .ok (.invokestatic 62, 3) := by decide +kernel
theorem d4_179 : decode prog_15_method_2_code 179 = .ok (.aastore, 1) := by decide +kernel
theorem d4_180 : decode prog_15_method_2_code 180 = .ok (.dup, 1) := by decide +kernel
theorem d4_181 : decode prog_15_method_2_code 181 = .ok (.iconst 1, 1) := by decide +kernel
theorem d4_182 : decode prog_15_method_2_code 182 = .ok (.iload 5, 2) := by decide +kernel
theorem d4_184 : decode prog_15_method_2_code 184 = .ok (.invokestatic 62, 3) := by decide +kernel
theorem d4_187 : decode prog_15_method_2_code 187 = .ok (.aastore, 1) := by decide +kernel
theorem d4_188 : decode prog_15_method_2_code 188 = .ok (.invokestatic 56, 3) := by decide +kernel
theorem d4_191 : decode prog_15_method_2_code 191 = .ok (.athrow, 1) := by decide +kernel
theorem d4_192 : decode prog_15_method_2_code 192 = .ok (.iinc 5 1, 3) := by decide +kernel
theorem d4_195 : decode prog_15_method_2_code 195 = .ok (.goto (-51), 3) := by decide +kernel
theorem d4_198 : decode prog_15_method_2_code 198 = .ok (.return_, 1) := by decide +kernel
theorem d5_0 : decode prog_15_method_3_code 0 = .ok (.iconst 0, 1) := by decide +kernel
theorem d5_1 : decode prog_15_method_3_code 1 = .ok (.istore 4, 2) := by decide +kernel
theorem d5_3 : decode prog_15_method_3_code 3 = .ok (.iload 4, 2) := by decide +kernel
theorem d5_5 : decode prog_15_method_3_code 5 = .ok (.aload_n 0, 1) := by decide +kernel
theorem d5_6 : decode prog_15_method_3_code 6 = .ok (.arraylength, 1) := by decide +kernel
theorem d5_7 : decode prog_15_method_3_code 7 = .ok (.if_icmp .ge 35, 3) := by decide +kernel
theorem d5_10 : decode prog_15_method_3_code 10 = .ok (.iload 4, 2) := by decide +kernel
theorem d5_12 : decode prog_15_method_3_code 12 = .ok (.aload_n 0, 1) := by decide +kernel
theorem d5_13 : decode prog_15_method_3_code 13 = .ok (.iload 4, 2) := by decide +kernel
theorem d5_15 : decode prog_15_method_3_code 15 = .ok (.iaload, 1) := by decide +kernel
theorem d5_16 : decode prog_15_method_3_code 16 = .ok (.aload_n 1, 1) := by decide +kernel
theorem d5_17 : decode prog_15_method_3_code 17 = .ok (.iload 4, 2) := by decide +kernel
theorem d5_19 : decode prog_15_method_3_code 19 = .ok (.iaload, 1) := by decide +kernel
theorem d5_20 : decode prog_15_method_3_code 20 = .ok (.aload_n 3, 1) := by decide +kernel
theorem d5_21 : decode prog_15_method_3_code 21 = .ok (.aload_n 2, 1) := by decide +kernel
theorem d5_22 : decode prog_15_method_3_code 22 = .ok (.iload 4, 2) := by decide +kernel
theorem d5_24 : decode prog_15_method_3_code 24 = .ok (.iaload, 1) := by decide +kernel
theorem d5_25 : decode prog_15_method_3_code 25 = .ok (.aload_n 2, 1) := by decide +kernel
theorem d5_26 : decode prog_15_method_3_code 26 = .ok (.iload 4, 2) := by decide +kernel
theorem d5_28 : decode prog_15_method_3_code 28 = .ok (.iconst 1, 1) := by decide +kernel
theorem d5_29 : decode prog_15_method_3_code 29 = .ok (.iadd, 1) := by decide +kernel
theorem d5_30 : decode prog_15_method_3_code 30 = .ok (.iaload, 1) := by decide +kernel
theorem d5_31 : decode prog_15_method_3_code 31 = .ok (.aload_n 0, 1) := by decide +kernel
theorem d5_32 : decode prog_15_method_3_code 32 = .ok (.arraylength, 1) := by decide +kernel
theorem d5_33 : decode prog_15_method_3_code 33 = .ok (.invokestatic 72, 3) := by decide +kernel
theorem d5_36 : decode prog_15_method_3_code 36 = .ok (.iinc 4 1, 3) := by decide +kernel
theorem d5_39 : decode prog_15_method_3_code 39 = .ok (.goto (-36), 3) := by decide +kernel
theorem d5_42 : decode prog_15_method_3_code 42 = .ok (.return_, 1) := by decide +kernel
theorem d6_0 : decode prog_15_method_4_code 0 = .ok (.iload_n 1, 1) := by decide +kernel
theorem d6_1 : decode prog_15_method_4_code 1 = .ok (.ifCond .eq 32, 3) := by decide +kernel
theorem d6_4 : decode prog_15_method_4_code 4 = .ok (.iload_n 1, 1) := by decide +kernel
theorem d6_5 : decode prog_15_method_4_code 5 = .ok (.iconst 1, 1) := by decide +kernel
theorem d6_6 : decode prog_15_method_4_code 6 = .ok (.if_icmp .eq 27, 3) := by decide +kernel
theorem d6_9 : decode prog_15_method_4_code 9 = .ok (.ldc 76, 2) := by decide +kernel
theorem d6_11 : decode prog_15_method_4_code 11 = .ok (.iconst 2, 1) := by decide +kernel
theorem d6_12 : decode prog_15_method_4_code 12 = .ok (.anewarray 4, 3) := by decide +kernel
theorem d6_15 : decode prog_15_method_4_code 15 = .ok (.dup, 1) := by decide +kernel
theorem d6_16 : decode prog_15_method_4_code 16 = .ok (.iconst 0, 1) := by decide +kernel
theorem d6_17 : decode prog_15_method_4_code 17 = .ok (.iload_n 0, 1) := by decide +kernel
theorem d6_18 : decode prog_15_method_4_code 18 = .ok (.invokestatic 62, 3) := by decide +kernel
theorem d6_21 : decode prog_15_method_4_code 21 = .ok (.aastore, 1) := by decide +kernel
theorem d6_22 : decode prog_15_method_4_code 22 = .ok (.dup, 1) := by decide +kernel
theorem d6_23 : decode prog_15_method_4_code 23 = .ok (.iconst 1, 1) := by decide +kernel
theorem d6_24 : decode prog_15_method_4_code 24 = .ok (.iload_n 1, 1) := by decide +kernel
theorem d6_25 : decode prog_15_method_4_code 25 = .ok (.invokestatic 62, 3) := by decide +kernel
theorem d6_28 : decode prog_15_method_4_code 28 = .ok (.aastore, 1) := by decide +kernel
theorem d6_29 : decode prog_15_method_4_code 29 = .ok (.invokestatic 56, 3) := by decide +kernel
theorem d6_32 : decode prog_15_method_4_code 32 = .ok (.athrow, 1) := by decide +kernel
theorem d6_33 : decode prog_15_method_4_code 33 = .ok (.iload_n 2, 1) := by decide +kernel
theorem d6_34 : decode prog_15_method_4_code 34 = .ok (.ifCond .ge 27, 3) := by decide +kernel
theorem d6_37 : decode prog_15_method_4_code 37 = .ok (.ldc 78, 2) := by decide +kernel
theorem d6_39 : decode prog_15_method_4_code 39 = .ok (.iconst 2, 1) := by decide +kernel
theorem d6_40 : decode prog_15_method_4_code 40 = .ok (.anewarray 4, 3) := by decide +kernel
theorem d6_43 : decode prog_15_method_4_code 43 = .ok (.dup, 1) := by decide +kernel
theorem d6_44 : decode prog_15_method_4_code 44 = .ok (.iconst 0, 1) := by decide +kernel
theorem d6_45 : decode prog_15_method_4_code 45 = .ok (.iload_n 0, 1) := by decide +kernel
theorem d6_46 : decode prog_15_method_4_code 46 = .ok (.invokestatic 62, 3) := by decide +kernel
theorem d6_49 : decode prog_15_method_4_code 49 = .ok (.aastore, 1) := by decide +kernel
theorem d6_50 : decode prog_15_method_4_code 50 = .ok (.dup, 1) := by decide +kernel
theorem d6_51 : decode prog_15_method_4_code 51 = .ok (.iconst 1, 1) := by decide +kernel
theorem d6_52 : decode prog_15_method_4_code 52 = .ok (.iload_n 2, 1) := by decide +kernel
theorem d6_53 : decode prog_15_method_4_code 53 = .ok (.invokestatic 62, 3) := by decide +kernel
theorem d6_56 : decode prog_15_method_4_code 56 = .ok (.aastore, 1) := by decide +kernel
theorem d6_57 : decode prog_15_method_4_code 57 = .ok (.invokestatic 56, 3) := by decide +kernel
theorem d6_60 : decode prog_15_method_4_code 60 = .ok (.athrow, 1) := by decide +kernel
theorem d6_61 : decode prog_15_method_4_code 61 = .ok (.iload 5, 2) := by decide +kernel
theorem d6_63 : decode prog_15_method_4_code 63 = .ok (.iload 4, 2) := by decide +kernel
theorem d6_65 : decode prog_15_method_4_code 65 = .ok (.if_icmp .ne 20, 3) := by decide +kernel
theorem d6_68 : decode prog_15_method_4_code 68 = .ok (.ldc 80, 2) := by decide +kernel
theorem d6_70 : decode prog_15_method_4_code 70 = .ok (.iconst 1, 1) := by decide +kernel
theorem d6_71 : decode prog_15_method_4_code 71 = .ok (.anewarray 4, 3) := by decide +kernel
theorem d6_74 : decode prog_15_method_4_code 74 = .ok (.dup, 1) := by decide +kernel
theorem d6_75 : decode prog_15_method_4_code 75 = .ok (.iconst 0, 1) := by decide +kernel
theorem d6_76 : decode prog_15_method_4_code 76 = .ok (.iload_n 0, 1) := by decide +kernel
theorem d6_77 : decode prog_15_method_4_code 77 = .ok (.invokestatic 62, 3) := by decide +kernel
theorem d6_80 : decode prog_15_method_4_code 80 = .ok (.aastore, 1) := by decide +kernel
theorem d6_81 : decode prog_15_method_4_code 81 = .ok (.invokestatic 56, 3) := by decide +kernel
theorem d6_84 : decode prog_15_method_4_code 84 = .ok (.athrow, 1) := by decide +kernel
theorem d6_85 : decode prog_15_method_4_code 85 = .ok (.iload 4, 2) := by decide +kernel
theorem d6_87 : decode prog_15_method_4_code 87 = .ok (.istore 7, 2) := by decide +kernel
theorem d6_89 : decode prog_15_method_4_code 89 = .ok (.iload 7, 2) := by decide +kernel
theorem d6_91 : decode prog_15_method_4_code 91 = .ok (.iload 5, 2) := by decide +kernel
theorem d6_93 : decode prog_15_method_4_code 93 = .ok (.if_icmp .ge 62, 3) := by decide +kernel
theorem d6_96 : decode prog_15_method_4_code 96 = .ok (.aload_n 3, 1) := by decide +kernel
theorem d6_97 : decode prog_15_method_4_code 97 = .ok (.iload 7, 2) := by decide +kernel
theorem d6_99 : decode prog_15_method_4_code 99 = .ok (.iaload, 1) := by decide +kernel
theorem d6_100 : decode prog_15_method_4_code 100 = .ok (.istore 8, 2) := by decide +kernel
theorem d6_102 : decode prog_15_method_4_code 102 = .ok (.iload 8, 2) := by decide +kernel
theorem d6_104 : decode prog_15_method_4_code 104 = .ok (.ifCond .lt 10, 3) := by decide +kernel
theorem d6_107 : decode prog_15_method_4_code 107 = .ok (.iload 8, 2) := by decide +kernel
theorem d6_109 : decode prog_15_method_4_code 109 = .ok (.iload 6, 2) := by decide +kernel
theorem d6_111 : decode prog_15_method_4_code 111 = .ok (.if_icmp .lt 38, 3) := by decide +kernel
theorem d6_114 : decode prog_15_method_4_code 114 = .ok (.ldc 82, 2) := by decide +kernel
theorem d6_116 : decode prog_15_method_4_code 116 = .ok (.iconst 3, 1) := by decide +kernel
theorem d6_117 : decode prog_15_method_4_code 117 = .ok (.anewarray 4, 3) := by decide +kernel
theorem d6_120 : decode prog_15_method_4_code 120 = .ok (.dup, 1) := by decide +kernel
theorem d6_121 : decode prog_15_method_4_code 121 = .ok (.iconst 0, 1) := by decide +kernel
theorem d6_122 : decode prog_15_method_4_code 122 = .ok (.iload_n 0, 1) := by decide +kernel
theorem d6_123 : decode prog_15_method_4_code 123 = .ok (.invokestatic 62, 3) := by decide +kernel
theorem d6_126 : decode prog_15_method_4_code 126 = .ok (.aastore, 1) := by decide +kernel
theorem d6_127 : decode prog_15_method_4_code 127 = .ok (.dup, 1) := by decide +kernel
theorem d6_128 : decode prog_15_method_4_code 128 = .ok (.iconst 1, 1) := by decide +kernel
theorem d6_129 : decode prog_15_method_4_code 129 = .ok (.iload 8, 2) := by decide +kernel
theorem d6_131 : decode prog_15_method_4_code 131 = .ok (.invokestatic 62, 3) := by decide +kernel
theorem d6_134 : decode prog_15_method_4_code 134 = .ok (.aastore, 1) := by decide +kernel
theorem d6_135 : decode prog_15_method_4_code 135 = .ok (.dup, 1) := by decide +kernel
theorem d6_136 : decode prog_15_method_4_code 136 = .ok (.iconst 2, 1) := by decide +kernel
theorem d6_137 : decode prog_15_method_4_code 137 = .ok (.iload 6, 2) := by decide +kernel
theorem d6_139 : decode prog_15_method_4_code 139 = .ok (.iconst 1, 1) := by decide +kernel
theorem d6_140 : decode prog_15_method_4_code 140 = .ok (.isub, 1) := by decide +kernel
theorem d6_141 : decode prog_15_method_4_code 141 = .ok (.invokestatic 62, 3) := by decide +kernel
theorem d6_144 : decode prog_15_method_4_code 144 = .ok (.aastore, 1) := by decide +kernel
theorem d6_145 : decode prog_15_method_4_code 145 = .ok (.invokestatic 56, 3) := by decide +kernel
theorem d6_148 : decode prog_15_method_4_code 148 = .ok (.athrow, 1) := by decide +kernel
theorem d6_149 : decode prog_15_method_4_code 149 = .ok (.iinc 7 1, 3) := by decide +kernel
theorem d6_152 : decode prog_15_method_4_code 152 = .ok (.goto (-63), 3) := by decide +kernel
theorem d6_155 : decode prog_15_method_4_code 155 = .ok (.return_, 1) := by decide +kernel
theorem d7_0 : decode prog_15_method_6_code 0 = .ok (.aload_n 0, 1) := by decide +kernel
theorem d7_1 : decode prog_15_method_6_code 1 = .ok (.iconst 0, 1) := by decide +kernel
theorem d7_2 : decode prog_15_method_6_code 2 = .ok (.iaload, 1) := by decide +kernel
theorem d7_3 : decode prog_15_method_6_code 3 = .ok (.istore_n 1, 1) := by decide +kernel
theorem d7_4 : decode prog_15_method_6_code 4 = .ok (.aload_n 0, 1) := by decide +kernel
theorem d7_5 : decode prog_15_method_6_code 5 = .ok (.astore_n 2, 1) := by decide +kernel
theorem d7_6 : decode prog_15_method_6_code 6 = .ok (.aload_n 2, 1) := by decide +kernel
theorem d7_7 : decode prog_15_method_6_code 7 = .ok (.arraylength, 1) := by decide +kernel
theorem d7_8 : decode prog_15_method_6_code 8 = .ok (.istore_n 3, 1) := by decide +kernel
theorem d7_9 : decode prog_15_method_6_code 9 = .ok (.iconst 0, 1) := by decide +kernel
theorem d7_10 : decode prog_15_method_6_code 10 = .ok (.istore 4, 2) := by decide +kernel
theorem d7_12 : decode prog_15_method_6_code 12 = .ok (.iload 4, 2) := by decide +kernel
theorem d7_14 : decode prog_15_method_6_code 14 = .ok (.iload_n 3, 1) := by decide +kernel
theorem d7_15 : decode prog_15_method_6_code 15 = .ok (.if_icmp .ge 22, 3) := by decide +kernel
theorem d7_18 : decode prog_15_method_6_code 18 = .ok (.aload_n 2, 1) := by decide +kernel
theorem d7_19 : decode prog_15_method_6_code 19 = .ok (.iload 4, 2) := by decide +kernel
theorem d7_21 : decode prog_15_method_6_code 21 = .ok (.iaload, 1) := by decide +kernel
theorem d7_22 : decode prog_15_method_6_code 22 = .ok (.istore 5, 2) := by decide +kernel
theorem d7_24 : decode prog_15_method_6_code 24 = .ok (.iload_n 1, 1) := by decide +kernel
theorem d7_25 : decode prog_15_method_6_code 25 = .ok (.iload 5, 2) := by decide +kernel
theorem d7_27 : decode prog_15_method_6_code 27 = .ok (.invokestatic 101, 3) := by decide +kernel
theorem d7_30 : decode prog_15_method_6_code 30 = .ok (.istore_n 1, 1) := by decide +kernel
theorem d7_31 : decode prog_15_method_6_code 31 = .ok (.iinc 4 1, 3) := by decide +kernel
theorem d7_34 : decode prog_15_method_6_code 34 = .ok (.goto (-22), 3) := by decide +kernel
theorem d7_37 : decode prog_15_method_6_code 37 = .ok (.iload_n 1, 1) := by decide +kernel
theorem d7_38 : decode prog_15_method_6_code 38 = .ok (.ireturn, 1) := by decide +kernel
theorem d8_0 : decode jdk_29_method_65_code 0 = .ok (.iload_n 0, 1) := by decide +kernel
theorem d8_1 : decode jdk_29_method_65_code 1 = .ok (.iload_n 1, 1) := by decide +kernel
theorem d8_2 : decode jdk_29_method_65_code 2 = .ok (.if_icmp .lt 7, 3) := by decide +kernel
theorem d8_5 : decode jdk_29_method_65_code 5 = .ok (.iload_n 0, 1) := by decide +kernel
theorem d8_6 : decode jdk_29_method_65_code 6 = .ok (.goto 4, 3) := by decide +kernel
theorem d8_9 : decode jdk_29_method_65_code 9 = .ok (.iload_n 1, 1) := by decide +kernel
theorem d8_10 : decode jdk_29_method_65_code 10 = .ok (.ireturn, 1) := by decide +kernel
theorem d9_0 : decode prog_15_method_12_code 0 = .ok (.aload_n 0, 1) := by decide +kernel
theorem d9_1 : decode prog_15_method_12_code 1 = .ok (.getfield 33, 3) := by decide +kernel
theorem d9_4 : decode prog_15_method_12_code 4 = .ok (.iload_n 1, 1) := by decide +kernel
theorem d9_5 : decode prog_15_method_12_code 5 = .ok (.iconst 1, 1) := by decide +kernel
theorem d9_6 : decode prog_15_method_12_code 6 = .ok (.iadd, 1) := by decide +kernel
theorem d9_7 : decode prog_15_method_12_code 7 = .ok (.iaload, 1) := by decide +kernel
theorem d9_8 : decode prog_15_method_12_code 8 = .ok (.aload_n 0, 1) := by decide +kernel
theorem d9_9 : decode prog_15_method_12_code 9 = .ok (.getfield 33, 3) := by decide +kernel
theorem d9_12 : decode prog_15_method_12_code 12 = .ok (.iload_n 1, 1) := by decide +kernel
theorem d9_13 : decode prog_15_method_12_code 13 = .ok (.iaload, 1) := by decide +kernel
theorem d9_14 : decode prog_15_method_12_code 14 = .ok (.isub, 1) := by decide +kernel
theorem d9_15 : decode prog_15_method_12_code 15 = .ok (.ireturn, 1) := by decide +kernel
theorem d10_0 : decode prog_15_method_13_code 0 = .ok (.aload_n 0, 1) := by decide +kernel
theorem d10_1 : decode prog_15_method_13_code 1 = .ok (.getfield 33, 3) := by decide +kernel
theorem d10_4 : decode prog_15_method_13_code 4 = .ok (.iload_n 1, 1) := by decide +kernel
theorem d10_5 : decode prog_15_method_13_code 5 = .ok (.iaload, 1) := by decide +kernel
theorem d10_6 : decode prog_15_method_13_code 6 = .ok (.istore_n 3, 1) := by decide +kernel
theorem d10_7 : decode prog_15_method_13_code 7 = .ok (.iload_n 2, 1) := by decide +kernel
theorem d10_8 : decode prog_15_method_13_code 8 = .ok (.aload_n 0, 1) := by decide +kernel
theorem d10_9 : decode prog_15_method_13_code 9 = .ok (.getfield 33, 3) := by decide +kernel
theorem d10_12 : decode prog_15_method_13_code 12 = .ok (.iload_n 1, 1) := by decide +kernel
theorem d10_13 : decode prog_15_method_13_code 13 = .ok (.iconst 1, 1) := by decide +kernel
theorem d10_14 : decode prog_15_method_13_code 14 = .ok (.iadd, 1) := by decide +kernel
theorem d10_15 : decode prog_15_method_13_code 15 = .ok (.iaload, 1) := by decide +kernel
theorem d10_16 : decode prog_15_method_13_code 16 = .ok (.iload_n 3, 1) := by decide +kernel
theorem d10_17 : decode prog_15_method_13_code 17 = .ok (.isub, 1) := by decide +kernel
theorem d10_18 : decode prog_15_method_13_code 18 = .ok (.invokestatic 107, 3) := by decide +kernel
theorem d10_21 : decode prog_15_method_13_code 21 = .ok (.pop, 1) := by decide +kernel
theorem d10_22 : decode prog_15_method_13_code 22 = .ok (.aload_n 0, 1) := by decide +kernel
theorem d10_23 : decode prog_15_method_13_code 23 = .ok (.getfield 37, 3) := by decide +kernel
theorem d10_26 : decode prog_15_method_13_code 26 = .ok (.iload_n 3, 1) := by decide +kernel
theorem d10_27 : decode prog_15_method_13_code 27 = .ok (.iload_n 2, 1) := by decide +kernel
theorem d10_28 : decode prog_15_method_13_code 28 = .ok (.iadd, 1) := by decide +kernel
theorem d10_29 : decode prog_15_method_13_code 29 = .ok (.iaload, 1) := by decide +kernel
theorem d10_30 : decode prog_15_method_13_code 30 = .ok (.ireturn, 1) := by decide +kernel
theorem d11_0 : decode jdk_31_method_17_code 0 = .ok (.iload_n 0, 1) := by decide +kernel
theorem d11_1 : decode jdk_31_method_17_code 1 = .ok (.iload_n 1, 1) := by decide +kernel
theorem d11_2 : decode jdk_31_method_17_code 2 = .ok (.aconst_null, 1) := by decide +kernel
theorem d11_3 : decode jdk_31_method_17_code 3 = .ok (.invokestatic 105, 3) := by decide +kernel
theorem d11_6 : decode jdk_31_method_17_code 6 = .ok (.ireturn, 1) := by decide +kernel
theorem d12_0 : decode jdk_41_method_11_code 0 = .ok (.iload_n 0, 1) := by decide +kernel
theorem d12_1 : decode jdk_41_method_11_code 1 = .ok (.ifCond .lt 8, 3) := by decide +kernel
theorem d12_4 : decode jdk_41_method_11_code 4 = .ok (.iload_n 0, 1) := by decide +kernel
theorem d12_5 : decode jdk_41_method_11_code 5 = .ok (.iload_n 1, 1) := by decide +kernel
theorem d12_6 : decode jdk_41_method_11_code 6 = .ok (.if_icmp .lt 10, 3) := by decide +kernel
theorem d12_9 : decode jdk_41_method_11_code 9 = .ok (.aload_n 2, 1) := by decide +kernel
theorem d12_10 : decode jdk_41_method_11_code 10 = .ok (.iload_n 0, 1) := by decide +kernel
theorem d12_11 : decode jdk_41_method_11_code 11 = .ok (.iload_n 1, 1) := by decide +kernel
theorem d12_12 : decode jdk_41_method_11_code 12 = .ok (.invokestatic 95, 3) := by decide +kernel
theorem d12_15 : decode jdk_41_method_11_code 15 = .ok (.athrow, 1) := by decide +kernel
theorem d12_16 : decode jdk_41_method_11_code 16 = .ok (.iload_n 0, 1) := by decide +kernel
theorem d12_17 : decode jdk_41_method_11_code 17 = .ok (.ireturn, 1) := by decide +kernel
theorem own_wS (Z : State) (a0 : Array Value) (hw : ∀ d ∈ tables_1, d.before a0 Z = true) : ∀ d ∈ Bundle.stringAtoms, d.before a0 Z = true := by
  intro d hd
  simp only [Bundle.stringAtoms, List.mem_cons, List.not_mem_nil, or_false] at hd
  rcases hd with rfl | rfl | rfl | rfl | rfl | rfl | rfl
  all_goals first | exact (hw _ (List.mem_of_getElem? (i := 15) rfl)) | exact (hw _ (List.mem_of_getElem? (i := 16) rfl)) | exact (hw _ (List.mem_of_getElem? (i := 17) rfl)) | exact (hw _ (List.mem_of_getElem? (i := 18) rfl)) | exact (hw _ (List.mem_of_getElem? (i := 19) rfl)) | exact (hw _ (List.mem_of_getElem? (i := 20) rfl)) | exact (hw _ (List.mem_of_getElem? (i := 21) rfl))
theorem own_pn0 : plainName "com/example/cycles_to_winners/cyclestowinners/model/GameSuccessorCountPinLaw" = true := by decide +kernel
theorem own_pn1 : plainName "com/example/cycles_to_winners/cyclestowinners/model/Game" = true := by decide +kernel
theorem own_pn3 : plainName "java/util/Objects" = true := by decide +kernel
theorem own_pn5 : plainName "jdk/internal/util/Preconditions" = true := by decide +kernel
theorem own_pd0 : parseMethodDescriptor "(IIJIII)Z" = some ⟨[.int, .int, .long, .int, .int, .int], (some .boolean)⟩ := by decide +kernel
theorem own_pd1 : parseMethodDescriptor "([I[I[I[I)V" = some ⟨[(.array .int), (.array .int), (.array .int), (.array .int)], none⟩ := by decide +kernel
theorem own_pd2 : parseMethodDescriptor "()V" = some ⟨[], none⟩ := by decide +kernel
theorem own_pd3 : parseMethodDescriptor "(Ljava/lang/Object;Ljava/lang/String;)Ljava/lang/Object;" = some ⟨[(.object "java/lang/Object"), (.object "java/lang/String")], (some (.object "java/lang/Object"))⟩ := by decide +kernel
theorem own_pd4 : parseMethodDescriptor "(III[IIII)V" = some ⟨[.int, .int, .int, (.array .int), .int, .int, .int], none⟩ := by decide +kernel
theorem own_pd5 : parseMethodDescriptor "([I)I" = some ⟨[(.array .int)], (some .int)⟩ := by decide +kernel
theorem own_pd6 : parseMethodDescriptor "(II)I" = some ⟨[.int, .int], (some .int)⟩ := by decide +kernel
theorem own_pd7 : parseMethodDescriptor "(I)I" = some ⟨[.int], (some .int)⟩ := by decide +kernel
theorem own_pd8 : parseMethodDescriptor "(IILjava/util/function/BiFunction;)I" = some ⟨[.int, .int, (.object "java/util/function/BiFunction")], (some .int)⟩ := by decide +kernel
def own_at (xs : List Int32) (p : Int32) : Int32 := xs.getD p.toNatClampNeg 0
def own_max (f g : Int32) : Int32 := if f < g then g else f
def own_ok3 (xs : List Int32) : Prop := xs.length = 6 ∧ ∀ x ∈ xs, ¬ x < 0 ∧ x < 3
theorem own_get6 (xs : List Int32) (p : Int32) (hl : xs.length = 6) (h0 : 0 ≤ p.toInt) (h : p.toInt < 6) : (xs.map Value.int)[p.toNatClampNeg]? = some (.int (own_at xs p)) := by
  have q : p.toNatClampNeg < xs.length := by rw [Int32.toNatClampNeg]; omega
  unfold own_at
  simp [q]
theorem own_at3 (xs : List Int32) (p : Int32) (hx : own_ok3 xs) (h0 : 0 ≤ p.toInt) (h : p.toInt < 6) : ¬ own_at xs p < 0 ∧ own_at xs p < 3 := by
  have q : p.toNatClampNeg < xs.length := by rw [Int32.toNatClampNeg, hx.1]; omega
  unfold own_at
  rw [own_getD _ _ q]
  exact hx.2 _ (List.getElem_mem q)
theorem own_z0 : (0 : Int32).toInt = 0 := rfl
theorem own_nlt {p : Int32} (h : 0 ≤ p.toInt) : ¬ p < 0 := by rw [Int32.lt_iff_toInt_lt, own_z0]; omega
theorem own_m3 (u : Int64) : 0 ≤ ((u &&& 255) % 3).toInt32.toInt ∧ ((u &&& 255) % 3).toInt32.toInt < 3 := by
  have a := c_maskL u 255 8 (by decide) (by decide)
  have b : ((u &&& 255) % 3).toInt = (u &&& 255).toInt.tmod 3 := by rw [Int64.toInt_mod]; rfl
  have c := (tr (u &&& 255).toInt 3).1 (by omega)
  have d := c_l2i ((u &&& 255) % 3)
  have e := rng32 ((u &&& 255) % 3).toInt32
  omega
theorem own_b1 (u : Int32) : u &&& 1 = 0 ∨ u &&& 1 = 1 := and_one u
set_option maxRecDepth 65536 in
set_option maxHeartbeats 40000000 in
theorem own_rnn (l : Launch) (Z : State) (a0 : Array Value) (hw : ∀ d ∈ tables_1, d.before a0 Z = true) (s u : Addr) (h0 : Heap) (n0 : Nat) (hn0 : n0 ≤ h0.size) :
    own_W l Z (⟨"java/util/Objects", "requireNonNull", "(Ljava/lang/Object;Ljava/lang/String;)Ljava/lang/Object;"⟩ : MethodName) jdk_31_method_11_code 2 (some (.object "java/lang/Object")) ({ frames := 0, cells := 0, slots := 0, locals := 0 } : Room) n0 (fun v h => v = some (.ref s) ∧ h0 = h) h0 0 0 0 #[.val (.ref s), .val (.ref u)] [] := by
  refine own_aloadN (pc' := 1) d3_0 rfl rfl ?_
  refine own_ifnonnull_t (pc' := 13) d3_1 (by decide) (by decide) ?_
  refine own_aloadN (pc' := 14) d3_13 rfl rfl ?_
  exact own_aret rfl rfl rfl d3_14 ⟨rfl, rfl⟩
set_option maxRecDepth 65536 in
set_option maxHeartbeats 40000000 in
theorem own_maxW (l : Launch) (Z : State) (a0 : Array Value) (hw : ∀ d ∈ tables_1, d.before a0 Z = true) (f g : Int32) (h0 : Heap) (n0 : Nat) (hn0 : n0 ≤ h0.size) :
    own_W l Z (⟨"java/lang/Math", "max", "(II)I"⟩ : MethodName) jdk_29_method_65_code 2 (some .int) ({ frames := 0, cells := 0, slots := 0, locals := 0 } : Room) n0 (fun v h => v = some (.int (own_max f g)) ∧ h0 = h) h0 0 0 0 #[.val (.int f), .val (.int g)] [] := by
  refine own_iloadN (pc' := 1) d8_0 rfl rfl ?_
  refine own_iloadN (pc' := 2) d8_1 rfl rfl ?_
  refine own_ic_lt (pc' := 9) (pf := 5) d8_2 (by decide) (by decide) rfl (fun h_2 => ?_) (fun h_2 => ?_)
  · refine own_iloadN (pc' := 10) d8_9 rfl rfl ?_
    exact own_iret rfl d8_10 ⟨by first | contradiction | (simp only [own_max, *, ↓reduceIte]; done) | (simp [own_max, *]; done) | (simp_all [own_max]; done), rfl⟩
  · refine own_iloadN (pc' := 6) d8_5 rfl rfl ?_
    refine own_goto (pc' := 10) d8_6 (by decide) (by decide) ?_
    exact own_iret rfl d8_10 ⟨by first | contradiction | (simp only [own_max, *, ↓reduceIte]; done) | (simp [own_max, *]; done) | (simp_all [own_max]; done), rfl⟩
set_option maxRecDepth 65536 in
set_option maxHeartbeats 40000000 in
theorem own_shape (l : Launch) (Z : State) (a0 : Array Value) (hw : ∀ d ∈ tables_1, d.before a0 Z = true) (p q s u : Addr) (o0 o1 o2 p0 p1 p2 c d : Int32) (us : List Value) (h0 : Heap) (n0 : Nat) (hn0 : n0 ≤ h0.size) (hc : ¬ c < 0) (hd : ¬ d < c) (he : ¬ 6 < d) (A_p : own_A Z h0 p .int [.int o0, .int o1, .int o2]) (A_q : own_A Z h0 q .int [.int p0, .int p1, .int p2]) (A_s : own_A Z h0 s .int [.int (0 : Int32), .int c, .int d, .int (6 : Int32)]) (A_u : own_A Z h0 u .int us) (hu : us.length.toInt32 = 6) :
    own_W l Z (⟨"com/example/cycles_to_winners/cyclestowinners/model/Game", "checkShape", "([I[I[I[I)V"⟩ : MethodName) prog_15_method_2_code 6 none ({ frames := 0, cells := 0, slots := 0, locals := 0 } : Room) n0 (fun v h => v = none ∧ h0 = h) h0 0 0 0 #[.val (.ref p), .val (.ref q), .val (.ref s), .val (.ref u), .unset, .unset] [] := by
  refine own_aloadN (pc' := 1) d4_0 rfl rfl ?_
  refine own_len (pc' := 2) (n := (3 : Int32)) A_p rfl d4_1 rfl ?_
  refine own_istore (pc' := 4) (Ls' := #[.val (.ref p), .val (.ref q), .val (.ref s), .val (.ref u), .val (.int (3 : Int32)), .unset]) d4_2 rfl rfl ?_
  refine own_iload (pc' := 6) d4_4 rfl rfl ?_
  refine own_if_ne_t (pc' := 19) d4_6 (by decide) (by decide) (by decide) ?_
  refine own_aloadN (pc' := 20) d4_19 rfl rfl ?_
  refine own_len (pc' := 21) (n := (3 : Int32)) A_q rfl d4_20 rfl ?_
  refine own_iload (pc' := 23) d4_21 rfl rfl ?_
  refine own_ic_eq_t (pc' := 52) d4_23 rfl (by decide) (by decide) ?_
  refine own_aloadN (pc' := 53) d4_52 rfl rfl ?_
  refine own_len (pc' := 54) (n := (4 : Int32)) A_s rfl d4_53 rfl ?_
  refine own_iload (pc' := 56) d4_54 rfl rfl ?_
  refine own_iconst (1 : Int32) (pc' := 57) d4_56 rfl rfl ?_
  refine own_iadd (pc' := 58) d4_57 rfl ?_
  rw [show ((3 : Int32) + (1 : Int32)) = (4 : Int32) from (by decide)]
  refine own_ic_eq_t (pc' := 89) d4_58 rfl (by decide) (by decide) ?_
  refine own_aloadN (pc' := 90) d4_89 rfl rfl ?_
  refine own_iconst (0 : Int32) (pc' := 91) d4_90 rfl rfl ?_
  refine own_iaload (pc' := 92) (v := .int (0 : Int32)) A_s (by decide) rfl d4_91 rfl ?_
  refine own_if_ne_f (pc' := 95) d4_92 rfl rfl ?_
  refine own_aloadN (pc' := 96) d4_95 rfl rfl ?_
  refine own_iload (pc' := 98) d4_96 rfl rfl ?_
  refine own_iaload (pc' := 99) (v := .int (6 : Int32)) A_s (by decide) rfl d4_98 rfl ?_
  refine own_aloadN (pc' := 100) d4_99 rfl rfl ?_
  refine own_len (pc' := 101) (n := (6 : Int32)) A_u hu d4_100 rfl ?_
  refine own_ic_eq_t (pc' := 141) d4_101 rfl (by decide) (by decide) ?_
  refine own_iconst (0 : Int32) (pc' := 142) d4_141 rfl rfl ?_
  refine own_istore (pc' := 144) (Ls' := #[.val (.ref p), .val (.ref q), .val (.ref s), .val (.ref u), .val (.int (3 : Int32)), .val (.int (0 : Int32))]) d4_142 rfl rfl ?_
  refine own_iload (pc' := 146) d4_144 rfl rfl ?_
  refine own_iload (pc' := 148) d4_146 rfl rfl ?_
  refine own_ic_ge_f (pc' := 151) d4_148 (by decide) rfl ?_
  refine own_aloadN (pc' := 152) d4_151 rfl rfl ?_
  refine own_iload (pc' := 154) d4_152 rfl rfl ?_
  refine own_iconst (1 : Int32) (pc' := 155) d4_154 rfl rfl ?_
  refine own_iadd (pc' := 156) d4_155 rfl ?_
  rw [show ((0 : Int32) + (1 : Int32)) = (1 : Int32) from (by decide)]
  refine own_iaload (pc' := 157) (v := .int c) A_s (by decide) rfl d4_156 rfl ?_
  refine own_aloadN (pc' := 158) d4_157 rfl rfl ?_
  refine own_iload (pc' := 160) d4_158 rfl rfl ?_
  refine own_iaload (pc' := 161) (v := .int (0 : Int32)) A_s (by decide) rfl d4_160 rfl ?_
  refine own_ic_ge_t (pc' := 192) d4_161 hc (by decide) (by decide) ?_
  refine own_iinc (pc' := 195) (w := (1 : Int32)) (Ls' := #[.val (.ref p), .val (.ref q), .val (.ref s), .val (.ref u), .val (.int (3 : Int32)), .val (.int ((0 : Int32) + (1 : Int32)))]) d4_192 rfl rfl rfl rfl ?_
  rw [show ((0 : Int32) + (1 : Int32)) = (1 : Int32) from (by decide)]
  refine own_goto (pc' := 144) d4_195 (by decide) (by decide) ?_
  refine own_iload (pc' := 146) d4_144 rfl rfl ?_
  refine own_iload (pc' := 148) d4_146 rfl rfl ?_
  refine own_ic_ge_f (pc' := 151) d4_148 (by decide) rfl ?_
  refine own_aloadN (pc' := 152) d4_151 rfl rfl ?_
  refine own_iload (pc' := 154) d4_152 rfl rfl ?_
  refine own_iconst (1 : Int32) (pc' := 155) d4_154 rfl rfl ?_
  refine own_iadd (pc' := 156) d4_155 rfl ?_
  rw [show ((1 : Int32) + (1 : Int32)) = (2 : Int32) from (by decide)]
  refine own_iaload (pc' := 157) (v := .int d) A_s (by decide) rfl d4_156 rfl ?_
  refine own_aloadN (pc' := 158) d4_157 rfl rfl ?_
  refine own_iload (pc' := 160) d4_158 rfl rfl ?_
  refine own_iaload (pc' := 161) (v := .int c) A_s (by decide) rfl d4_160 rfl ?_
  refine own_ic_ge_t (pc' := 192) d4_161 hd (by decide) (by decide) ?_
  refine own_iinc (pc' := 195) (w := (1 : Int32)) (Ls' := #[.val (.ref p), .val (.ref q), .val (.ref s), .val (.ref u), .val (.int (3 : Int32)), .val (.int ((1 : Int32) + (1 : Int32)))]) d4_192 rfl rfl rfl rfl ?_
  rw [show ((1 : Int32) + (1 : Int32)) = (2 : Int32) from (by decide)]
  refine own_goto (pc' := 144) d4_195 (by decide) (by decide) ?_
  refine own_iload (pc' := 146) d4_144 rfl rfl ?_
  refine own_iload (pc' := 148) d4_146 rfl rfl ?_
  refine own_ic_ge_f (pc' := 151) d4_148 (by decide) rfl ?_
  refine own_aloadN (pc' := 152) d4_151 rfl rfl ?_
  refine own_iload (pc' := 154) d4_152 rfl rfl ?_
  refine own_iconst (1 : Int32) (pc' := 155) d4_154 rfl rfl ?_
  refine own_iadd (pc' := 156) d4_155 rfl ?_
  rw [show ((2 : Int32) + (1 : Int32)) = (3 : Int32) from (by decide)]
  refine own_iaload (pc' := 157) (v := .int (6 : Int32)) A_s (by decide) rfl d4_156 rfl ?_
  refine own_aloadN (pc' := 158) d4_157 rfl rfl ?_
  refine own_iload (pc' := 160) d4_158 rfl rfl ?_
  refine own_iaload (pc' := 161) (v := .int d) A_s (by decide) rfl d4_160 rfl ?_
  refine own_ic_ge_t (pc' := 192) d4_161 he (by decide) (by decide) ?_
  refine own_iinc (pc' := 195) (w := (1 : Int32)) (Ls' := #[.val (.ref p), .val (.ref q), .val (.ref s), .val (.ref u), .val (.int (3 : Int32)), .val (.int ((2 : Int32) + (1 : Int32)))]) d4_192 rfl rfl rfl rfl ?_
  rw [show ((2 : Int32) + (1 : Int32)) = (3 : Int32) from (by decide)]
  refine own_goto (pc' := 144) d4_195 (by decide) (by decide) ?_
  refine own_iload (pc' := 146) d4_144 rfl rfl ?_
  refine own_iload (pc' := 148) d4_146 rfl rfl ?_
  refine own_ic_ge_t (pc' := 198) d4_148 (by decide) (by decide) (by decide) ?_
  exact own_ret rfl d4_198 ⟨rfl, rfl⟩
set_option maxRecDepth 65536 in
set_option maxHeartbeats 40000000 in
theorem own_cvL (l : Launch) (Z : State) (a0 : Array Value) (hw : ∀ d ∈ tables_1, d.before a0 Z = true) (u : Addr) (v ow pr st en : Int32) (xs : List Int32) (h0 : Heap) (n0 : Nat) (hx : own_ok3 xs) (hen : en.toInt ≤ 6) (A_u : own_A Z h0 u .int (xs.map Value.int)) : ∀ (j : Nat) (i w : Int32), 0 ≤ i.toInt → i.toInt + j = en.toInt →
    own_W l Z (⟨"com/example/cycles_to_winners/cyclestowinners/model/Game", "checkVertex", "(III[IIII)V"⟩ : MethodName) prog_15_method_4_code 9 none ({ frames := 0, cells := 0, slots := 0, locals := 0 } : Room) n0 (fun r h => r = none ∧ h0 = h) h0 0 0 89 #[.val (.int v), .val (.int ow), .val (.int pr), .val (.ref u), .val (.int st), .val (.int en), .val (.int (3 : Int32)), .val (.int i), .val (.int w)] [] := by
  intro j
  induction j with
  | zero =>
    intro i w hi hj
    refine own_iload (pc' := 91) d6_89 rfl rfl ?_
    refine own_iload (pc' := 93) d6_91 rfl rfl ?_
    refine own_ic_ge_t (pc' := 155) d6_93 (by rw [Int32.lt_iff_toInt_lt]; omega) (by decide) (by decide) ?_
    exact own_ret rfl d6_155 ⟨rfl, rfl⟩
  | succ j ih =>
    intro i w hi hj
    have h3 := own_at3 xs i hx hi (by omega)
    have e1 : (1 : Int32).toInt = 1 := rfl
    have a1 := c_iadd i 1
    have a2 := rng32 (i + 1)
    refine own_iload (pc' := 91) d6_89 rfl rfl ?_
    refine own_iload (pc' := 93) d6_91 rfl rfl ?_
    refine own_ic_ge_f (pc' := 96) d6_93 (by rw [Int32.lt_iff_toInt_lt]; omega) rfl ?_
    refine own_aloadN (pc' := 97) d6_96 rfl rfl ?_
    refine own_iload (pc' := 99) d6_97 rfl rfl ?_
    refine own_iaload (pc' := 100) (v := .int (own_at xs i)) A_u (own_nlt hi) (own_get6 xs i hx.1 hi (by omega)) d6_99 rfl ?_
    refine own_istore (pc' := 102) (Ls' := #[.val (.int v), .val (.int ow), .val (.int pr), .val (.ref u), .val (.int st), .val (.int en), .val (.int (3 : Int32)), .val (.int i), .val (.int (own_at xs i))]) d6_100 rfl rfl ?_
    refine own_iload (pc' := 104) d6_102 rfl rfl ?_
    refine own_if_lt_f (pc' := 107) d6_104 h3.1 rfl ?_
    refine own_iload (pc' := 109) d6_107 rfl rfl ?_
    refine own_iload (pc' := 111) d6_109 rfl rfl ?_
    refine own_ic_lt_t (pc' := 149) d6_111 h3.2 (by decide) (by decide) ?_
    refine own_iinc (pc' := 152) (w := (1 : Int32)) (Ls' := #[.val (.int v), .val (.int ow), .val (.int pr), .val (.ref u), .val (.int st), .val (.int en), .val (.int (3 : Int32)), .val (.int (i + (1 : Int32))), .val (.int (own_at xs i))]) d6_149 rfl rfl rfl rfl ?_
    refine own_goto (pc' := 89) d6_152 (by decide) (by decide) ?_
    exact ih (i + 1) _ (by omega) (by omega)
set_option maxRecDepth 65536 in
set_option maxHeartbeats 40000000 in
theorem own_cv (l : Launch) (Z : State) (a0 : Array Value) (hw : ∀ d ∈ tables_1, d.before a0 Z = true) (u : Addr) (v ow pr i en : Int32) (xs : List Int32) (h0 : Heap) (n0 : Nat) (hn0 : n0 ≤ h0.size) (hx : own_ok3 xs) (how : ow = 0 ∨ ow = 1) (hpr : ¬ pr < 0) (hi : 0 ≤ i.toInt) (hlt : i.toInt < en.toInt) (hen : en.toInt ≤ 6) (A_u : own_A Z h0 u .int (xs.map Value.int)) :
    own_W l Z (⟨"com/example/cycles_to_winners/cyclestowinners/model/Game", "checkVertex", "(III[IIII)V"⟩ : MethodName) prog_15_method_4_code 9 none ({ frames := 0, cells := 0, slots := 0, locals := 0 } : Room) n0 (fun r h => r = none ∧ h0 = h) h0 0 0 0 #[.val (.int v), .val (.int ow), .val (.int pr), .val (.ref u), .val (.int i), .val (.int en), .val (.int (3 : Int32)), .unset, .unset] [] := by
  have h3 := own_at3 xs i hx hi (by omega)
  have e1 : (1 : Int32).toInt = 1 := rfl
  have a1 := c_iadd i 1
  have a2 := rng32 (i + 1)
  have K33 : own_W l Z (⟨"com/example/cycles_to_winners/cyclestowinners/model/Game", "checkVertex", "(III[IIII)V"⟩ : MethodName) prog_15_method_4_code 9 none ({ frames := 0, cells := 0, slots := 0, locals := 0 } : Room) n0 (fun r h => r = none ∧ h0 = h) h0 0 0 33 #[.val (.int v), .val (.int ow), .val (.int pr), .val (.ref u), .val (.int i), .val (.int en), .val (.int (3 : Int32)), .unset, .unset] [] := by
    refine own_iloadN (pc' := 34) d6_33 rfl rfl ?_
    refine own_if_ge_t (pc' := 61) d6_34 hpr (by decide) (by decide) ?_
    refine own_iload (pc' := 63) d6_61 rfl rfl ?_
    refine own_iload (pc' := 65) d6_63 rfl rfl ?_
    refine own_ic_ne_t (pc' := 85) d6_65 (by rw [← Int32.toInt_inj]; omega) (by decide) (by decide) ?_
    refine own_iload (pc' := 87) d6_85 rfl rfl ?_
    refine own_istore (pc' := 89) (Ls' := #[.val (.int v), .val (.int ow), .val (.int pr), .val (.ref u), .val (.int i), .val (.int en), .val (.int (3 : Int32)), .val (.int i), .unset]) d6_87 rfl rfl ?_
    refine own_iload (pc' := 91) d6_89 rfl rfl ?_
    refine own_iload (pc' := 93) d6_91 rfl rfl ?_
    refine own_ic_ge_f (pc' := 96) d6_93 (by rw [Int32.lt_iff_toInt_lt]; omega) rfl ?_
    refine own_aloadN (pc' := 97) d6_96 rfl rfl ?_
    refine own_iload (pc' := 99) d6_97 rfl rfl ?_
    refine own_iaload (pc' := 100) (v := .int (own_at xs i)) A_u (own_nlt hi) (own_get6 xs i hx.1 hi (by omega)) d6_99 rfl ?_
    refine own_istore (pc' := 102) (Ls' := #[.val (.int v), .val (.int ow), .val (.int pr), .val (.ref u), .val (.int i), .val (.int en), .val (.int (3 : Int32)), .val (.int i), .val (.int (own_at xs i))]) d6_100 rfl rfl ?_
    refine own_iload (pc' := 104) d6_102 rfl rfl ?_
    refine own_if_lt_f (pc' := 107) d6_104 h3.1 rfl ?_
    refine own_iload (pc' := 109) d6_107 rfl rfl ?_
    refine own_iload (pc' := 111) d6_109 rfl rfl ?_
    refine own_ic_lt_t (pc' := 149) d6_111 h3.2 (by decide) (by decide) ?_
    refine own_iinc (pc' := 152) (w := (1 : Int32)) (Ls' := #[.val (.int v), .val (.int ow), .val (.int pr), .val (.ref u), .val (.int i), .val (.int en), .val (.int (3 : Int32)), .val (.int (i + (1 : Int32))), .val (.int (own_at xs i))]) d6_149 rfl rfl rfl rfl ?_
    refine own_goto (pc' := 89) d6_152 (by decide) (by decide) ?_
    exact own_cvL l Z a0 hw u v ow pr i en xs h0 n0 hx hen A_u (en.toInt - (i + 1).toInt).toNat (i + 1) _ (by omega) (by omega)
  refine own_iloadN (pc' := 1) d6_0 rfl rfl ?_
  refine own_if_eq (pc' := 33) (pf := 4) d6_1 (by decide) (by decide) rfl (fun h_1 => ?_) (fun h_1 => ?_)
  · exact K33
  · refine own_iloadN (pc' := 5) d6_4 rfl rfl ?_
    refine own_iconst (1 : Int32) (pc' := 6) d6_5 rfl rfl ?_
    refine own_ic_eq_t (pc' := 33) d6_6 (how.resolve_left h_1) (by decide) (by decide) ?_
    exact K33
set_option maxRecDepth 65536 in
set_option maxHeartbeats 40000000 in
theorem own_cvs (l : Launch) (Z : State) (a0 : Array Value) (hw : ∀ d ∈ tables_1, d.before a0 Z = true) (p q s u : Addr) (o0 o1 o2 p0 p1 p2 c d : Int32) (xs : List Int32) (h0 : Heap) (n0 : Nat) (hn0 : n0 ≤ h0.size) (hx : own_ok3 xs) (ho0 : o0 = 0 ∨ o0 = 1) (hp0 : ¬ p0 < 0) (ho1 : o1 = 0 ∨ o1 = 1) (hp1 : ¬ p1 < 0) (ho2 : o2 = 0 ∨ o2 = 1) (hp2 : ¬ p2 < 0) (hc : 0 < c.toInt) (hd : c.toInt < d.toInt) (he : d.toInt < 6) (A_p : own_A Z h0 p .int [.int o0, .int o1, .int o2]) (A_q : own_A Z h0 q .int [.int p0, .int p1, .int p2]) (A_s : own_A Z h0 s .int [.int (0 : Int32), .int c, .int d, .int (6 : Int32)]) (A_u : own_A Z h0 u .int (xs.map Value.int)) :
    own_W l Z (⟨"com/example/cycles_to_winners/cyclestowinners/model/Game", "checkVertices", "([I[I[I[I)V"⟩ : MethodName) prog_15_method_3_code 5 none ({ frames := 1, cells := 0, slots := 0, locals := 20 } : Room) n0 (fun v h => v = none ∧ h0 = h) h0 0 0 0 #[.val (.ref p), .val (.ref q), .val (.ref s), .val (.ref u), .unset] [] := by
  have c6 : (6 : Int32).toInt = 6 := rfl
  have c0 : (0 : Int32).toInt = 0 := rfl
  refine own_iconst (0 : Int32) (pc' := 1) d5_0 rfl rfl ?_
  refine own_istore (pc' := 3) (Ls' := #[.val (.ref p), .val (.ref q), .val (.ref s), .val (.ref u), .val (.int (0 : Int32))]) d5_1 rfl rfl ?_
  refine own_iload (pc' := 5) d5_3 rfl rfl ?_
  refine own_aloadN (pc' := 6) d5_5 rfl rfl ?_
  refine own_len (pc' := 7) (n := (3 : Int32)) A_p rfl d5_6 rfl ?_
  refine own_ic_ge_f (pc' := 10) d5_7 (by decide) rfl ?_
  refine own_iload (pc' := 12) d5_10 rfl rfl ?_
  refine own_aloadN (pc' := 13) d5_12 rfl rfl ?_
  refine own_iload (pc' := 15) d5_13 rfl rfl ?_
  refine own_iaload (pc' := 16) (v := .int o0) A_p (by decide) rfl d5_15 rfl ?_
  refine own_aloadN (pc' := 17) d5_16 rfl rfl ?_
  refine own_iload (pc' := 19) d5_17 rfl rfl ?_
  refine own_iaload (pc' := 20) (v := .int p0) A_q (by decide) rfl d5_19 rfl ?_
  refine own_aloadN (pc' := 21) d5_20 rfl rfl ?_
  refine own_aloadN (pc' := 22) d5_21 rfl rfl ?_
  refine own_iload (pc' := 24) d5_22 rfl rfl ?_
  refine own_iaload (pc' := 25) (v := .int (0 : Int32)) A_s (by decide) rfl d5_24 rfl ?_
  refine own_aloadN (pc' := 26) d5_25 rfl rfl ?_
  refine own_iload (pc' := 28) d5_26 rfl rfl ?_
  refine own_iconst (1 : Int32) (pc' := 29) d5_28 rfl rfl ?_
  refine own_iadd (pc' := 30) d5_29 rfl ?_
  rw [show ((0 : Int32) + (1 : Int32)) = (1 : Int32) from (by decide)]
  refine own_iaload (pc' := 31) (v := .int c) A_s (by decide) rfl d5_30 rfl ?_
  refine own_aloadN (pc' := 32) d5_31 rfl rfl ?_
  refine own_len (pc' := 33) (n := (3 : Int32)) A_p rfl d5_32 rfl ?_
  refine own_static (own_cv l Z a0 hw u (0 : Int32) o0 p0 (0 : Int32) c xs h0 n0 hn0 hx ho0 hp0 (by omega) (by omega) (by omega) A_u) (hw _ (List.mem_of_getElem? (i := 52) rfl)) (hw _ (List.mem_of_getElem? (i := 53) rfl)) (hw _ (List.mem_of_getElem? (i := 7) rfl)) (hw _ (List.mem_of_getElem? (i := 54) rfl)) (plainFor_of_name own_pn1) (by decide) own_pd4 rfl (argsL := [.int (0 : Int32), .int o0, .int p0, .ref u, .int (0 : Int32), .int c, .int (3 : Int32)]) (rest := []) rfl rfl (W := 0) (Nat.le_refl _) (by decide) (by decide) (by decide) (by decide) rfl d5_33 (pc' := 36) rfl (fun v_ h1 hq => ?_)
  obtain ⟨rfl, rfl⟩ := hq
  show own_W l Z (⟨"com/example/cycles_to_winners/cyclestowinners/model/Game", "checkVertices", "([I[I[I[I)V"⟩ : MethodName) prog_15_method_3_code 5 none ({ frames := 1, cells := 0, slots := 0, locals := 20 } : Room) n0 (fun v h => v = none ∧ h0 = h) h0 0 0 36 #[.val (.ref p), .val (.ref q), .val (.ref s), .val (.ref u), .val (.int (0 : Int32))] []
  refine own_iinc (pc' := 39) (w := (1 : Int32)) (Ls' := #[.val (.ref p), .val (.ref q), .val (.ref s), .val (.ref u), .val (.int ((0 : Int32) + (1 : Int32)))]) d5_36 rfl rfl rfl rfl ?_
  rw [show ((0 : Int32) + (1 : Int32)) = (1 : Int32) from (by decide)]
  refine own_goto (pc' := 3) d5_39 (by decide) (by decide) ?_
  refine own_iload (pc' := 5) d5_3 rfl rfl ?_
  refine own_aloadN (pc' := 6) d5_5 rfl rfl ?_
  refine own_len (pc' := 7) (n := (3 : Int32)) A_p rfl d5_6 rfl ?_
  refine own_ic_ge_f (pc' := 10) d5_7 (by decide) rfl ?_
  refine own_iload (pc' := 12) d5_10 rfl rfl ?_
  refine own_aloadN (pc' := 13) d5_12 rfl rfl ?_
  refine own_iload (pc' := 15) d5_13 rfl rfl ?_
  refine own_iaload (pc' := 16) (v := .int o1) A_p (by decide) rfl d5_15 rfl ?_
  refine own_aloadN (pc' := 17) d5_16 rfl rfl ?_
  refine own_iload (pc' := 19) d5_17 rfl rfl ?_
  refine own_iaload (pc' := 20) (v := .int p1) A_q (by decide) rfl d5_19 rfl ?_
  refine own_aloadN (pc' := 21) d5_20 rfl rfl ?_
  refine own_aloadN (pc' := 22) d5_21 rfl rfl ?_
  refine own_iload (pc' := 24) d5_22 rfl rfl ?_
  refine own_iaload (pc' := 25) (v := .int c) A_s (by decide) rfl d5_24 rfl ?_
  refine own_aloadN (pc' := 26) d5_25 rfl rfl ?_
  refine own_iload (pc' := 28) d5_26 rfl rfl ?_
  refine own_iconst (1 : Int32) (pc' := 29) d5_28 rfl rfl ?_
  refine own_iadd (pc' := 30) d5_29 rfl ?_
  rw [show ((1 : Int32) + (1 : Int32)) = (2 : Int32) from (by decide)]
  refine own_iaload (pc' := 31) (v := .int d) A_s (by decide) rfl d5_30 rfl ?_
  refine own_aloadN (pc' := 32) d5_31 rfl rfl ?_
  refine own_len (pc' := 33) (n := (3 : Int32)) A_p rfl d5_32 rfl ?_
  refine own_static (own_cv l Z a0 hw u (1 : Int32) o1 p1 c d xs h0 n0 hn0 hx ho1 hp1 (by omega) (by omega) (by omega) A_u) (hw _ (List.mem_of_getElem? (i := 52) rfl)) (hw _ (List.mem_of_getElem? (i := 53) rfl)) (hw _ (List.mem_of_getElem? (i := 7) rfl)) (hw _ (List.mem_of_getElem? (i := 54) rfl)) (plainFor_of_name own_pn1) (by decide) own_pd4 rfl (argsL := [.int (1 : Int32), .int o1, .int p1, .ref u, .int c, .int d, .int (3 : Int32)]) (rest := []) rfl rfl (W := 0) (Nat.le_refl _) (by decide) (by decide) (by decide) (by decide) rfl d5_33 (pc' := 36) rfl (fun v_ h2 hq => ?_)
  obtain ⟨rfl, rfl⟩ := hq
  show own_W l Z (⟨"com/example/cycles_to_winners/cyclestowinners/model/Game", "checkVertices", "([I[I[I[I)V"⟩ : MethodName) prog_15_method_3_code 5 none ({ frames := 1, cells := 0, slots := 0, locals := 20 } : Room) n0 (fun v h => v = none ∧ h0 = h) h0 0 0 36 #[.val (.ref p), .val (.ref q), .val (.ref s), .val (.ref u), .val (.int (1 : Int32))] []
  refine own_iinc (pc' := 39) (w := (1 : Int32)) (Ls' := #[.val (.ref p), .val (.ref q), .val (.ref s), .val (.ref u), .val (.int ((1 : Int32) + (1 : Int32)))]) d5_36 rfl rfl rfl rfl ?_
  rw [show ((1 : Int32) + (1 : Int32)) = (2 : Int32) from (by decide)]
  refine own_goto (pc' := 3) d5_39 (by decide) (by decide) ?_
  refine own_iload (pc' := 5) d5_3 rfl rfl ?_
  refine own_aloadN (pc' := 6) d5_5 rfl rfl ?_
  refine own_len (pc' := 7) (n := (3 : Int32)) A_p rfl d5_6 rfl ?_
  refine own_ic_ge_f (pc' := 10) d5_7 (by decide) rfl ?_
  refine own_iload (pc' := 12) d5_10 rfl rfl ?_
  refine own_aloadN (pc' := 13) d5_12 rfl rfl ?_
  refine own_iload (pc' := 15) d5_13 rfl rfl ?_
  refine own_iaload (pc' := 16) (v := .int o2) A_p (by decide) rfl d5_15 rfl ?_
  refine own_aloadN (pc' := 17) d5_16 rfl rfl ?_
  refine own_iload (pc' := 19) d5_17 rfl rfl ?_
  refine own_iaload (pc' := 20) (v := .int p2) A_q (by decide) rfl d5_19 rfl ?_
  refine own_aloadN (pc' := 21) d5_20 rfl rfl ?_
  refine own_aloadN (pc' := 22) d5_21 rfl rfl ?_
  refine own_iload (pc' := 24) d5_22 rfl rfl ?_
  refine own_iaload (pc' := 25) (v := .int d) A_s (by decide) rfl d5_24 rfl ?_
  refine own_aloadN (pc' := 26) d5_25 rfl rfl ?_
  refine own_iload (pc' := 28) d5_26 rfl rfl ?_
  refine own_iconst (1 : Int32) (pc' := 29) d5_28 rfl rfl ?_
  refine own_iadd (pc' := 30) d5_29 rfl ?_
  rw [show ((2 : Int32) + (1 : Int32)) = (3 : Int32) from (by decide)]
  refine own_iaload (pc' := 31) (v := .int (6 : Int32)) A_s (by decide) rfl d5_30 rfl ?_
  refine own_aloadN (pc' := 32) d5_31 rfl rfl ?_
  refine own_len (pc' := 33) (n := (3 : Int32)) A_p rfl d5_32 rfl ?_
  refine own_static (own_cv l Z a0 hw u (2 : Int32) o2 p2 d (6 : Int32) xs h0 n0 hn0 hx ho2 hp2 (by omega) (by omega) (by omega) A_u) (hw _ (List.mem_of_getElem? (i := 52) rfl)) (hw _ (List.mem_of_getElem? (i := 53) rfl)) (hw _ (List.mem_of_getElem? (i := 7) rfl)) (hw _ (List.mem_of_getElem? (i := 54) rfl)) (plainFor_of_name own_pn1) (by decide) own_pd4 rfl (argsL := [.int (2 : Int32), .int o2, .int p2, .ref u, .int d, .int (6 : Int32), .int (3 : Int32)]) (rest := []) rfl rfl (W := 0) (Nat.le_refl _) (by decide) (by decide) (by decide) (by decide) rfl d5_33 (pc' := 36) rfl (fun v_ h3 hq => ?_)
  obtain ⟨rfl, rfl⟩ := hq
  show own_W l Z (⟨"com/example/cycles_to_winners/cyclestowinners/model/Game", "checkVertices", "([I[I[I[I)V"⟩ : MethodName) prog_15_method_3_code 5 none ({ frames := 1, cells := 0, slots := 0, locals := 20 } : Room) n0 (fun v h => v = none ∧ h0 = h) h0 0 0 36 #[.val (.ref p), .val (.ref q), .val (.ref s), .val (.ref u), .val (.int (2 : Int32))] []
  refine own_iinc (pc' := 39) (w := (1 : Int32)) (Ls' := #[.val (.ref p), .val (.ref q), .val (.ref s), .val (.ref u), .val (.int ((2 : Int32) + (1 : Int32)))]) d5_36 rfl rfl rfl rfl ?_
  rw [show ((2 : Int32) + (1 : Int32)) = (3 : Int32) from (by decide)]
  refine own_goto (pc' := 3) d5_39 (by decide) (by decide) ?_
  refine own_iload (pc' := 5) d5_3 rfl rfl ?_
  refine own_aloadN (pc' := 6) d5_5 rfl rfl ?_
  refine own_len (pc' := 7) (n := (3 : Int32)) A_p rfl d5_6 rfl ?_
  refine own_ic_ge_t (pc' := 42) d5_7 (by decide) (by decide) (by decide) ?_
  exact own_ret rfl d5_42 ⟨rfl, rfl⟩
set_option maxRecDepth 65536 in
set_option maxHeartbeats 40000000 in
theorem own_hi (l : Launch) (Z : State) (a0 : Array Value) (hw : ∀ d ∈ tables_1, d.before a0 Z = true) (q : Addr) (p0 p1 p2 : Int32) (h0 : Heap) (n0 : Nat) (hn0 : n0 ≤ h0.size) (A_q : own_A Z h0 q .int [.int p0, .int p1, .int p2]) :
    own_W l Z (⟨"com/example/cycles_to_winners/cyclestowinners/model/Game", "highest", "([I)I"⟩ : MethodName) prog_15_method_6_code 6 (some .int) ({ frames := 1, cells := 0, slots := 0, locals := 13 } : Room) n0 (fun v h => ∃ k : Int32, v = some (.int k) ∧ h0 = h) h0 0 0 0 #[.val (.ref q), .unset, .unset, .unset, .unset, .unset] [] := by
  refine own_aloadN (pc' := 1) d7_0 rfl rfl ?_
  refine own_iconst (0 : Int32) (pc' := 2) d7_1 rfl rfl ?_
  refine own_iaload (pc' := 3) (v := .int p0) A_q (by decide) rfl d7_2 rfl ?_
  refine own_istoreN (pc' := 4) (Ls' := #[.val (.ref q), .val (.int p0), .unset, .unset, .unset, .unset]) d7_3 rfl rfl ?_
  refine own_aloadN (pc' := 5) d7_4 rfl rfl ?_
  refine own_astoreN (pc' := 6) (Ls' := #[.val (.ref q), .val (.int p0), .val (.ref q), .unset, .unset, .unset]) d7_5 rfl rfl ?_
  refine own_aloadN (pc' := 7) d7_6 rfl rfl ?_
  refine own_len (pc' := 8) (n := (3 : Int32)) A_q rfl d7_7 rfl ?_
  refine own_istoreN (pc' := 9) (Ls' := #[.val (.ref q), .val (.int p0), .val (.ref q), .val (.int (3 : Int32)), .unset, .unset]) d7_8 rfl rfl ?_
  refine own_iconst (0 : Int32) (pc' := 10) d7_9 rfl rfl ?_
  refine own_istore (pc' := 12) (Ls' := #[.val (.ref q), .val (.int p0), .val (.ref q), .val (.int (3 : Int32)), .val (.int (0 : Int32)), .unset]) d7_10 rfl rfl ?_
  refine own_iload (pc' := 14) d7_12 rfl rfl ?_
  refine own_iloadN (pc' := 15) d7_14 rfl rfl ?_
  refine own_ic_ge_f (pc' := 18) d7_15 (by decide) rfl ?_
  refine own_aloadN (pc' := 19) d7_18 rfl rfl ?_
  refine own_iload (pc' := 21) d7_19 rfl rfl ?_
  refine own_iaload (pc' := 22) (v := .int p0) A_q (by decide) rfl d7_21 rfl ?_
  refine own_istore (pc' := 24) (Ls' := #[.val (.ref q), .val (.int p0), .val (.ref q), .val (.int (3 : Int32)), .val (.int (0 : Int32)), .val (.int p0)]) d7_22 rfl rfl ?_
  refine own_iloadN (pc' := 25) d7_24 rfl rfl ?_
  refine own_iload (pc' := 27) d7_25 rfl rfl ?_
  refine own_static (own_maxW l Z a0 hw p0 p0 h0 n0 hn0) (hw _ (List.mem_of_getElem? (i := 58) rfl)) (hw _ (List.mem_of_getElem? (i := 59) rfl)) (hw _ (List.mem_of_getElem? (i := 60) rfl)) (hw _ (List.mem_of_getElem? (i := 61) rfl)) (Jvm.Free.JP.mathPlain rfl (by decide)) (by decide) own_pd6 rfl (argsL := [.int p0, .int p0]) (rest := []) rfl rfl (W := 0) (Nat.le_refl _) (by decide) (by decide) (by decide) (by decide) rfl d7_27 (pc' := 30) rfl (fun v_ h4 hq => ?_)
  obtain ⟨rfl, rfl⟩ := hq
  show own_W l Z (⟨"com/example/cycles_to_winners/cyclestowinners/model/Game", "highest", "([I)I"⟩ : MethodName) prog_15_method_6_code 6 (some .int) ({ frames := 1, cells := 0, slots := 0, locals := 13 } : Room) n0 (fun v h => ∃ k : Int32, v = some (.int k) ∧ h0 = h) h0 0 0 30 #[.val (.ref q), .val (.int p0), .val (.ref q), .val (.int (3 : Int32)), .val (.int (0 : Int32)), .val (.int p0)] [.int (own_max p0 p0)]
  refine own_istoreN (pc' := 31) (Ls' := #[.val (.ref q), .val (.int (own_max p0 p0)), .val (.ref q), .val (.int (3 : Int32)), .val (.int (0 : Int32)), .val (.int p0)]) d7_30 rfl rfl ?_
  refine own_iinc (pc' := 34) (w := (1 : Int32)) (Ls' := #[.val (.ref q), .val (.int (own_max p0 p0)), .val (.ref q), .val (.int (3 : Int32)), .val (.int ((0 : Int32) + (1 : Int32))), .val (.int p0)]) d7_31 rfl rfl rfl rfl ?_
  rw [show ((0 : Int32) + (1 : Int32)) = (1 : Int32) from (by decide)]
  refine own_goto (pc' := 12) d7_34 (by decide) (by decide) ?_
  refine own_iload (pc' := 14) d7_12 rfl rfl ?_
  refine own_iloadN (pc' := 15) d7_14 rfl rfl ?_
  refine own_ic_ge_f (pc' := 18) d7_15 (by decide) rfl ?_
  refine own_aloadN (pc' := 19) d7_18 rfl rfl ?_
  refine own_iload (pc' := 21) d7_19 rfl rfl ?_
  refine own_iaload (pc' := 22) (v := .int p1) A_q (by decide) rfl d7_21 rfl ?_
  refine own_istore (pc' := 24) (Ls' := #[.val (.ref q), .val (.int (own_max p0 p0)), .val (.ref q), .val (.int (3 : Int32)), .val (.int (1 : Int32)), .val (.int p1)]) d7_22 rfl rfl ?_
  refine own_iloadN (pc' := 25) d7_24 rfl rfl ?_
  refine own_iload (pc' := 27) d7_25 rfl rfl ?_
  refine own_static (own_maxW l Z a0 hw (own_max p0 p0) p1 h0 n0 hn0) (hw _ (List.mem_of_getElem? (i := 58) rfl)) (hw _ (List.mem_of_getElem? (i := 59) rfl)) (hw _ (List.mem_of_getElem? (i := 60) rfl)) (hw _ (List.mem_of_getElem? (i := 61) rfl)) (Jvm.Free.JP.mathPlain rfl (by decide)) (by decide) own_pd6 rfl (argsL := [.int (own_max p0 p0), .int p1]) (rest := []) rfl rfl (W := 0) (Nat.le_refl _) (by decide) (by decide) (by decide) (by decide) rfl d7_27 (pc' := 30) rfl (fun v_ h5 hq => ?_)
  obtain ⟨rfl, rfl⟩ := hq
  show own_W l Z (⟨"com/example/cycles_to_winners/cyclestowinners/model/Game", "highest", "([I)I"⟩ : MethodName) prog_15_method_6_code 6 (some .int) ({ frames := 1, cells := 0, slots := 0, locals := 13 } : Room) n0 (fun v h => ∃ k : Int32, v = some (.int k) ∧ h0 = h) h0 0 0 30 #[.val (.ref q), .val (.int (own_max p0 p0)), .val (.ref q), .val (.int (3 : Int32)), .val (.int (1 : Int32)), .val (.int p1)] [.int (own_max (own_max p0 p0) p1)]
  refine own_istoreN (pc' := 31) (Ls' := #[.val (.ref q), .val (.int (own_max (own_max p0 p0) p1)), .val (.ref q), .val (.int (3 : Int32)), .val (.int (1 : Int32)), .val (.int p1)]) d7_30 rfl rfl ?_
  refine own_iinc (pc' := 34) (w := (1 : Int32)) (Ls' := #[.val (.ref q), .val (.int (own_max (own_max p0 p0) p1)), .val (.ref q), .val (.int (3 : Int32)), .val (.int ((1 : Int32) + (1 : Int32))), .val (.int p1)]) d7_31 rfl rfl rfl rfl ?_
  rw [show ((1 : Int32) + (1 : Int32)) = (2 : Int32) from (by decide)]
  refine own_goto (pc' := 12) d7_34 (by decide) (by decide) ?_
  refine own_iload (pc' := 14) d7_12 rfl rfl ?_
  refine own_iloadN (pc' := 15) d7_14 rfl rfl ?_
  refine own_ic_ge_f (pc' := 18) d7_15 (by decide) rfl ?_
  refine own_aloadN (pc' := 19) d7_18 rfl rfl ?_
  refine own_iload (pc' := 21) d7_19 rfl rfl ?_
  refine own_iaload (pc' := 22) (v := .int p2) A_q (by decide) rfl d7_21 rfl ?_
  refine own_istore (pc' := 24) (Ls' := #[.val (.ref q), .val (.int (own_max (own_max p0 p0) p1)), .val (.ref q), .val (.int (3 : Int32)), .val (.int (2 : Int32)), .val (.int p2)]) d7_22 rfl rfl ?_
  refine own_iloadN (pc' := 25) d7_24 rfl rfl ?_
  refine own_iload (pc' := 27) d7_25 rfl rfl ?_
  refine own_static (own_maxW l Z a0 hw (own_max (own_max p0 p0) p1) p2 h0 n0 hn0) (hw _ (List.mem_of_getElem? (i := 58) rfl)) (hw _ (List.mem_of_getElem? (i := 59) rfl)) (hw _ (List.mem_of_getElem? (i := 60) rfl)) (hw _ (List.mem_of_getElem? (i := 61) rfl)) (Jvm.Free.JP.mathPlain rfl (by decide)) (by decide) own_pd6 rfl (argsL := [.int (own_max (own_max p0 p0) p1), .int p2]) (rest := []) rfl rfl (W := 0) (Nat.le_refl _) (by decide) (by decide) (by decide) (by decide) rfl d7_27 (pc' := 30) rfl (fun v_ h6 hq => ?_)
  obtain ⟨rfl, rfl⟩ := hq
  show own_W l Z (⟨"com/example/cycles_to_winners/cyclestowinners/model/Game", "highest", "([I)I"⟩ : MethodName) prog_15_method_6_code 6 (some .int) ({ frames := 1, cells := 0, slots := 0, locals := 13 } : Room) n0 (fun v h => ∃ k : Int32, v = some (.int k) ∧ h0 = h) h0 0 0 30 #[.val (.ref q), .val (.int (own_max (own_max p0 p0) p1)), .val (.ref q), .val (.int (3 : Int32)), .val (.int (2 : Int32)), .val (.int p2)] [.int (own_max (own_max (own_max p0 p0) p1) p2)]
  refine own_istoreN (pc' := 31) (Ls' := #[.val (.ref q), .val (.int (own_max (own_max (own_max p0 p0) p1) p2)), .val (.ref q), .val (.int (3 : Int32)), .val (.int (2 : Int32)), .val (.int p2)]) d7_30 rfl rfl ?_
  refine own_iinc (pc' := 34) (w := (1 : Int32)) (Ls' := #[.val (.ref q), .val (.int (own_max (own_max (own_max p0 p0) p1) p2)), .val (.ref q), .val (.int (3 : Int32)), .val (.int ((2 : Int32) + (1 : Int32))), .val (.int p2)]) d7_31 rfl rfl rfl rfl ?_
  rw [show ((2 : Int32) + (1 : Int32)) = (3 : Int32) from (by decide)]
  refine own_goto (pc' := 12) d7_34 (by decide) (by decide) ?_
  refine own_iload (pc' := 14) d7_12 rfl rfl ?_
  refine own_iloadN (pc' := 15) d7_14 rfl rfl ?_
  refine own_ic_ge_t (pc' := 37) d7_15 (by decide) (by decide) (by decide) ?_
  refine own_iloadN (pc' := 38) d7_37 rfl rfl ?_
  exact own_iret rfl d7_38 ⟨_, rfl, rfl⟩
set_option maxRecDepth 65536 in
set_option maxHeartbeats 40000000 in
theorem own_mk (l : Launch) (Z : State) (a0 : Array Value) (hw : ∀ d ∈ tables_1, d.before a0 Z = true) (o p q s u : Addr) (o0 o1 o2 p0 p1 p2 c d : Int32) (xs : List Int32) (h0 : Heap) (n0 : Nat) (hn0 : n0 ≤ h0.size) (hx : own_ok3 xs) (ho0 : o0 = 0 ∨ o0 = 1) (hp0 : ¬ p0 < 0) (ho1 : o1 = 0 ∨ o1 = 1) (hp1 : ¬ p1 < 0) (ho2 : o2 = 0 ∨ o2 = 1) (hp2 : ¬ p2 < 0) (hc : 0 < c.toInt) (hd : c.toInt < d.toInt) (he : d.toInt < 6) (ge_o : n0 ≤ o) (A_p : own_A Z h0 p .int [.int o0, .int o1, .int o2]) (A_q : own_A Z h0 q .int [.int p0, .int p1, .int p2]) (A_s : own_A Z h0 s .int [.int (0 : Int32), .int c, .int d, .int (6 : Int32)]) (A_u : own_A Z h0 u .int (xs.map Value.int)) (E_p : Exa Z h0 p "[I") (ne_p_o : p ≠ o) (E_q : Exa Z h0 q "[I") (ne_q_o : q ≠ o) (E_s : Exa Z h0 s "[I") (ne_s_o : s ≠ o) (E_u : Exa Z h0 u "[I") (ne_u_o : u ≠ o) (E_o : Exa Z h0 o "com/example/cycles_to_winners/cyclestowinners/model/Game") (F_o_owners : Fld Z h0 o "com/example/cycles_to_winners/cyclestowinners/model/Game" "owners" "[I" (.null)) (F_o_priorities : Fld Z h0 o "com/example/cycles_to_winners/cyclestowinners/model/Game" "priorities" "[I" (.null)) (F_o_successorStart : Fld Z h0 o "com/example/cycles_to_winners/cyclestowinners/model/Game" "successorStart" "[I" (.null)) (F_o_successors : Fld Z h0 o "com/example/cycles_to_winners/cyclestowinners/model/Game" "successors" "[I" (.null)) (F_o_maxPriority : Fld Z h0 o "com/example/cycles_to_winners/cyclestowinners/model/Game" "maxPriority" "I" (.int 0)) :
    own_W l Z (⟨"com/example/cycles_to_winners/cyclestowinners/model/Game", "<init>", "([I[I[I[I)V"⟩ : MethodName) prog_15_method_1_code 5 none ({ frames := 2, cells := 12, slots := 192, locals := 36 } : Room) n0 (fun v h => v = none ∧ ∃ ow2 s2 u2 : Addr, h0.size ≤ ow2 ∧ h0.size ≤ s2 ∧ h0.size ≤ u2 ∧ Keep h0 h [o] ∧ Exa Z h o "com/example/cycles_to_winners/cyclestowinners/model/Game" ∧ Fld Z h o "com/example/cycles_to_winners/cyclestowinners/model/Game" "owners" "[I" (.ref ow2) ∧ Fld Z h o "com/example/cycles_to_winners/cyclestowinners/model/Game" "successorStart" "[I" (.ref s2) ∧ Fld Z h o "com/example/cycles_to_winners/cyclestowinners/model/Game" "successors" "[I" (.ref u2) ∧ own_A Z h ow2 .int [.int o0, .int o1, .int o2] ∧ own_A Z h s2 .int [.int (0 : Int32), .int c, .int d, .int (6 : Int32)] ∧ own_A Z h u2 .int (xs.map Value.int)) h0 0 0 0 #[.val (.ref o), .val (.ref p), .val (.ref q), .val (.ref s), .val (.ref u)] [] := by
  have c6 : (6 : Int32).toInt = 6 := rfl
  have c0 : (0 : Int32).toInt = 0 := rfl
  have kk0 : h0.size ≤ h0.size := Nat.le_refl _
  refine own_aloadN (pc' := 1) d1_0 rfl rfl ?_
  refine own_initO (pc' := 4) (W := 0) (hw _ (List.mem_of_getElem? (i := 11) rfl)) (hw _ (List.mem_of_getElem? (i := 12) rfl)) (hw _ (List.mem_of_getElem? (i := 13) rfl)) d1_1 rfl rfl (by decide) (Nat.le_refl _) (by decide) ?_
  refine own_aloadN (pc' := 5) d1_4 rfl rfl ?_
  refine own_aloadN (pc' := 6) d1_5 rfl rfl ?_
  refine own_ldcS (pc' := 8) (n := 24) (hw _ (List.mem_of_getElem? (i := 14) rfl)) (own_wS Z a0 hw) d1_6 rfl (by decide) (by decide) (by decide) (by decide) (fun h7 a8 E9 => ?_)
  replace A_p := A_p.ext E9
  replace A_q := A_q.ext E9
  replace A_s := A_s.ext E9
  replace A_u := A_u.ext E9
  replace E_p := E_p.ext E9
  replace E_q := E_q.ext E9
  replace E_s := E_s.ext E9
  replace E_u := E_u.ext E9
  replace E_o := E_o.ext E9
  replace F_o_owners := F_o_owners.ext E9
  replace F_o_priorities := F_o_priorities.ext E9
  replace F_o_successorStart := F_o_successorStart.ext E9
  replace F_o_successors := F_o_successors.ext E9
  replace F_o_maxPriority := F_o_maxPriority.ext E9
  replace hn0 : n0 ≤ h7.size := Nat.le_trans hn0 E9.1
  refine own_static (own_rnn l Z a0 hw p a8 h7 n0 hn0) (hw _ (List.mem_of_getElem? (i := 22) rfl)) (hw _ (List.mem_of_getElem? (i := 23) rfl)) (hw _ (List.mem_of_getElem? (i := 24) rfl)) (hw _ (List.mem_of_getElem? (i := 25) rfl)) (plainFor_of_name own_pn3) (by decide) own_pd3 rfl (argsL := [.ref p, .ref a8]) (rest := [.ref o]) rfl rfl (W := 1) (Nat.le_refl _) (by decide) (by decide) (by decide) (by decide) rfl d1_8 (pc' := 11) rfl (fun v_ h10 hq => ?_)
  obtain ⟨rfl, rfl⟩ := hq
  show own_W l Z (⟨"com/example/cycles_to_winners/cyclestowinners/model/Game", "<init>", "([I[I[I[I)V"⟩ : MethodName) prog_15_method_1_code 5 none ({ frames := 2, cells := 12, slots := 192, locals := 36 } : Room) n0 (fun v h => v = none ∧ ∃ ow2 s2 u2 : Addr, h0.size ≤ ow2 ∧ h0.size ≤ s2 ∧ h0.size ≤ u2 ∧ Keep h0 h [o] ∧ Exa Z h o "com/example/cycles_to_winners/cyclestowinners/model/Game" ∧ Fld Z h o "com/example/cycles_to_winners/cyclestowinners/model/Game" "owners" "[I" (.ref ow2) ∧ Fld Z h o "com/example/cycles_to_winners/cyclestowinners/model/Game" "successorStart" "[I" (.ref s2) ∧ Fld Z h o "com/example/cycles_to_winners/cyclestowinners/model/Game" "successors" "[I" (.ref u2) ∧ own_A Z h ow2 .int [.int o0, .int o1, .int o2] ∧ own_A Z h s2 .int [.int (0 : Int32), .int c, .int d, .int (6 : Int32)] ∧ own_A Z h u2 .int (xs.map Value.int)) h7 2 28 11 #[.val (.ref o), .val (.ref p), .val (.ref q), .val (.ref s), .val (.ref u)] [.ref p, .ref o]
  refine own_cast (pc' := 14) (hw _ (List.mem_of_getElem? (i := 26) rfl)) (Ins.self E_p) d1_11 rfl ?_
  refine own_clone (pc' := 17) (W := 1) (cap := 3) (hw _ (List.mem_of_getElem? (i := 28) rfl)) (hw _ (List.mem_of_getElem? (i := 29) rfl)) (hw _ (List.mem_of_getElem? (i := 33) rfl)) (hw _ (List.mem_of_getElem? (i := 31) rfl)) (hw _ (List.mem_of_getElem? (i := 32) rfl)) (hw _ (List.mem_of_getElem? (i := 34) rfl)) A_p E_p d1_14 rfl rfl (by decide) (Nat.le_refl _) (by decide) (by first | decide | exact Nat.le_refl _) (by decide) (by decide) (fun h11 p2_ gt_p2_ lt_p2_ E12 A_p2_ E_p2_ => ?_)
  have ge_p2_ : n0 ≤ p2_ := Nat.le_trans hn0 gt_p2_
  have ne_o_p2_ : o ≠ p2_ := Nat.ne_of_lt (by first | exact Nat.lt_of_lt_of_le E_o.lt gt_p2_ | (have q := Nat.lt_of_lt_of_le E_o.lt (Nat.le_refl _); omega))
  have ne_p_p2_ : p ≠ p2_ := Nat.ne_of_lt (by first | exact Nat.lt_of_lt_of_le A_p.lt gt_p2_ | (have q := Nat.lt_of_lt_of_le A_p.lt (Nat.le_refl _); omega))
  have ne_q_p2_ : q ≠ p2_ := Nat.ne_of_lt (by first | exact Nat.lt_of_lt_of_le A_q.lt gt_p2_ | (have q := Nat.lt_of_lt_of_le A_q.lt (Nat.le_refl _); omega))
  have ne_s_p2_ : s ≠ p2_ := Nat.ne_of_lt (by first | exact Nat.lt_of_lt_of_le A_s.lt gt_p2_ | (have q := Nat.lt_of_lt_of_le A_s.lt (Nat.le_refl _); omega))
  have ne_u_p2_ : u ≠ p2_ := Nat.ne_of_lt (by first | exact Nat.lt_of_lt_of_le A_u.lt gt_p2_ | (have q := Nat.lt_of_lt_of_le A_u.lt (Nat.le_refl _); omega))
  replace A_p := A_p.ext E12
  replace A_q := A_q.ext E12
  replace A_s := A_s.ext E12
  replace A_u := A_u.ext E12
  replace E_p := E_p.ext E12
  replace E_q := E_q.ext E12
  replace E_s := E_s.ext E12
  replace E_u := E_u.ext E12
  replace E_o := E_o.ext E12
  replace F_o_owners := F_o_owners.ext E12
  replace F_o_priorities := F_o_priorities.ext E12
  replace F_o_successorStart := F_o_successorStart.ext E12
  replace F_o_successors := F_o_successors.ext E12
  replace F_o_maxPriority := F_o_maxPriority.ext E12
  replace hn0 : n0 ≤ h11.size := Nat.le_trans hn0 E12.1
  have gg_p2_ : h0.size ≤ p2_ := Nat.le_trans ((Keep.refl h0 [o]).ext E9).1 gt_p2_
  refine own_cast (pc' := 20) (hw _ (List.mem_of_getElem? (i := 26) rfl)) (Ins.self E_p2_) d1_17 rfl ?_
  refine own_putF (pc' := 23) (hw _ (List.mem_of_getElem? (i := 35) rfl)) F_o_owners E_o (Or.inr ⟨(hw _ (List.mem_of_getElem? (i := 36) rfl)), rfl, rfl⟩) (hw _ (List.mem_of_getElem? (i := 6) rfl)) ge_o (ty := (.array .int)) (by decide) rfl rfl d1_20 rfl (fun h13 Wr14 K15 => ?_)
  replace A_p := A_p.keep K15 (ninS ne_p_o nin0)
  replace A_q := A_q.keep K15 (ninS ne_q_o nin0)
  replace A_s := A_s.keep K15 (ninS ne_s_o nin0)
  replace A_u := A_u.keep K15 (ninS ne_u_o nin0)
  replace E_p := E_p.wr Wr14
  replace E_q := E_q.wr Wr14
  replace E_s := E_s.wr Wr14
  replace E_u := E_u.wr Wr14
  replace E_o := E_o.wr Wr14
  replace F_o_owners := F_o_owners.same Wr14
  replace F_o_priorities := F_o_priorities.other Wr14 (Or.inr (slot_ne (a0 := a0) (Or.inr (hw _ (List.mem_of_getElem? (i := 39) rfl))) (Or.inr (hw _ (List.mem_of_getElem? (i := 36) rfl))) (by decide) (t := (.array .int)) (by decide) (t' := (.array .int)) (by decide)))
  replace F_o_successorStart := F_o_successorStart.other Wr14 (Or.inr (slot_ne (a0 := a0) (Or.inr (hw _ (List.mem_of_getElem? (i := 42) rfl))) (Or.inr (hw _ (List.mem_of_getElem? (i := 36) rfl))) (by decide) (t := (.array .int)) (by decide) (t' := (.array .int)) (by decide)))
  replace F_o_successors := F_o_successors.other Wr14 (Or.inr (slot_ne (a0 := a0) (Or.inr (hw _ (List.mem_of_getElem? (i := 45) rfl))) (Or.inr (hw _ (List.mem_of_getElem? (i := 36) rfl))) (by decide) (t := (.array .int)) (by decide) (t' := (.array .int)) (by decide)))
  replace F_o_maxPriority := F_o_maxPriority.other Wr14 (Or.inr (slot_ne (a0 := a0) (Or.inr (hw _ (List.mem_of_getElem? (i := 63) rfl))) (Or.inr (hw _ (List.mem_of_getElem? (i := 36) rfl))) (by decide) (t := .int) (by decide) (t' := (.array .int)) (by decide)))
  replace A_p2_ := A_p2_.keep K15 (ninS (Ne.symm ne_o_p2_) nin0)
  replace E_p2_ := E_p2_.wr Wr14
  replace hn0 : n0 ≤ h13.size := Nat.le_trans hn0 K15.1
  refine own_aloadN (pc' := 24) d1_23 rfl rfl ?_
  refine own_aloadN (pc' := 25) d1_24 rfl rfl ?_
  refine own_ldcS (pc' := 27) (n := 40) (hw _ (List.mem_of_getElem? (i := 37) rfl)) (own_wS Z a0 hw) d1_25 rfl (by decide) (by decide) (by decide) (by decide) (fun h16 a17 E18 => ?_)
  replace A_p := A_p.ext E18
  replace A_q := A_q.ext E18
  replace A_s := A_s.ext E18
  replace A_u := A_u.ext E18
  replace E_p := E_p.ext E18
  replace E_q := E_q.ext E18
  replace E_s := E_s.ext E18
  replace E_u := E_u.ext E18
  replace E_o := E_o.ext E18
  replace F_o_owners := F_o_owners.ext E18
  replace F_o_priorities := F_o_priorities.ext E18
  replace F_o_successorStart := F_o_successorStart.ext E18
  replace F_o_successors := F_o_successors.ext E18
  replace F_o_maxPriority := F_o_maxPriority.ext E18
  replace A_p2_ := A_p2_.ext E18
  replace E_p2_ := E_p2_.ext E18
  replace hn0 : n0 ≤ h16.size := Nat.le_trans hn0 E18.1
  refine own_static (own_rnn l Z a0 hw q a17 h16 n0 hn0) (hw _ (List.mem_of_getElem? (i := 22) rfl)) (hw _ (List.mem_of_getElem? (i := 23) rfl)) (hw _ (List.mem_of_getElem? (i := 24) rfl)) (hw _ (List.mem_of_getElem? (i := 25) rfl)) (plainFor_of_name own_pn3) (by decide) own_pd3 rfl (argsL := [.ref q, .ref a17]) (rest := [.ref o]) rfl rfl (W := 1) (Nat.le_refl _) (by decide) (by decide) (by decide) (by decide) rfl d1_27 (pc' := 30) rfl (fun v_ h19 hq => ?_)
  obtain ⟨rfl, rfl⟩ := hq
  show own_W l Z (⟨"com/example/cycles_to_winners/cyclestowinners/model/Game", "<init>", "([I[I[I[I)V"⟩ : MethodName) prog_15_method_1_code 5 none ({ frames := 2, cells := 12, slots := 192, locals := 36 } : Room) n0 (fun v h => v = none ∧ ∃ ow2 s2 u2 : Addr, h0.size ≤ ow2 ∧ h0.size ≤ s2 ∧ h0.size ≤ u2 ∧ Keep h0 h [o] ∧ Exa Z h o "com/example/cycles_to_winners/cyclestowinners/model/Game" ∧ Fld Z h o "com/example/cycles_to_winners/cyclestowinners/model/Game" "owners" "[I" (.ref ow2) ∧ Fld Z h o "com/example/cycles_to_winners/cyclestowinners/model/Game" "successorStart" "[I" (.ref s2) ∧ Fld Z h o "com/example/cycles_to_winners/cyclestowinners/model/Game" "successors" "[I" (.ref u2) ∧ own_A Z h ow2 .int [.int o0, .int o1, .int o2] ∧ own_A Z h s2 .int [.int (0 : Int32), .int c, .int d, .int (6 : Int32)] ∧ own_A Z h u2 .int (xs.map Value.int)) h16 5 75 30 #[.val (.ref o), .val (.ref p), .val (.ref q), .val (.ref s), .val (.ref u)] [.ref q, .ref o]
  refine own_cast (pc' := 33) (hw _ (List.mem_of_getElem? (i := 26) rfl)) (Ins.self E_q) d1_30 rfl ?_
  refine own_clone (pc' := 36) (W := 1) (cap := 3) (hw _ (List.mem_of_getElem? (i := 28) rfl)) (hw _ (List.mem_of_getElem? (i := 29) rfl)) (hw _ (List.mem_of_getElem? (i := 33) rfl)) (hw _ (List.mem_of_getElem? (i := 31) rfl)) (hw _ (List.mem_of_getElem? (i := 32) rfl)) (hw _ (List.mem_of_getElem? (i := 34) rfl)) A_q E_q d1_33 rfl rfl (by decide) (Nat.le_refl _) (by decide) (by first | decide | exact Nat.le_refl _) (by decide) (by decide) (fun h20 q2_ gt_q2_ lt_q2_ E21 A_q2_ E_q2_ => ?_)
  have ge_q2_ : n0 ≤ q2_ := Nat.le_trans hn0 gt_q2_
  have ne_o_q2_ : o ≠ q2_ := Nat.ne_of_lt (by first | exact Nat.lt_of_lt_of_le E_o.lt gt_q2_ | (have q := Nat.lt_of_lt_of_le E_o.lt (Nat.le_refl _); omega))
  have ne_p_q2_ : p ≠ q2_ := Nat.ne_of_lt (by first | exact Nat.lt_of_lt_of_le A_p.lt gt_q2_ | (have q := Nat.lt_of_lt_of_le A_p.lt (Nat.le_refl _); omega))
  have ne_p2__q2_ : p2_ ≠ q2_ := Nat.ne_of_lt (by first | exact Nat.lt_of_lt_of_le A_p2_.lt gt_q2_ | (have q := Nat.lt_of_lt_of_le A_p2_.lt (Nat.le_refl _); omega))
  have ne_q_q2_ : q ≠ q2_ := Nat.ne_of_lt (by first | exact Nat.lt_of_lt_of_le A_q.lt gt_q2_ | (have q := Nat.lt_of_lt_of_le A_q.lt (Nat.le_refl _); omega))
  have ne_s_q2_ : s ≠ q2_ := Nat.ne_of_lt (by first | exact Nat.lt_of_lt_of_le A_s.lt gt_q2_ | (have q := Nat.lt_of_lt_of_le A_s.lt (Nat.le_refl _); omega))
  have ne_u_q2_ : u ≠ q2_ := Nat.ne_of_lt (by first | exact Nat.lt_of_lt_of_le A_u.lt gt_q2_ | (have q := Nat.lt_of_lt_of_le A_u.lt (Nat.le_refl _); omega))
  replace A_p := A_p.ext E21
  replace A_q := A_q.ext E21
  replace A_s := A_s.ext E21
  replace A_u := A_u.ext E21
  replace E_p := E_p.ext E21
  replace E_q := E_q.ext E21
  replace E_s := E_s.ext E21
  replace E_u := E_u.ext E21
  replace E_o := E_o.ext E21
  replace F_o_owners := F_o_owners.ext E21
  replace F_o_priorities := F_o_priorities.ext E21
  replace F_o_successorStart := F_o_successorStart.ext E21
  replace F_o_successors := F_o_successors.ext E21
  replace F_o_maxPriority := F_o_maxPriority.ext E21
  replace A_p2_ := A_p2_.ext E21
  replace E_p2_ := E_p2_.ext E21
  replace hn0 : n0 ≤ h20.size := Nat.le_trans hn0 E21.1
  have gg_q2_ : h0.size ≤ q2_ := Nat.le_trans (((((Keep.refl h0 [o]).ext E9).ext E12).trans K15 (fun x hx => Or.inl hx)).ext E18).1 gt_q2_
  refine own_cast (pc' := 39) (hw _ (List.mem_of_getElem? (i := 26) rfl)) (Ins.self E_q2_) d1_36 rfl ?_
  refine own_putF (pc' := 42) (hw _ (List.mem_of_getElem? (i := 38) rfl)) F_o_priorities E_o (Or.inr ⟨(hw _ (List.mem_of_getElem? (i := 39) rfl)), rfl, rfl⟩) (hw _ (List.mem_of_getElem? (i := 6) rfl)) ge_o (ty := (.array .int)) (by decide) rfl rfl d1_39 rfl (fun h22 Wr23 K24 => ?_)
  replace A_p := A_p.keep K24 (ninS ne_p_o nin0)
  replace A_q := A_q.keep K24 (ninS ne_q_o nin0)
  replace A_s := A_s.keep K24 (ninS ne_s_o nin0)
  replace A_u := A_u.keep K24 (ninS ne_u_o nin0)
  replace E_p := E_p.wr Wr23
  replace E_q := E_q.wr Wr23
  replace E_s := E_s.wr Wr23
  replace E_u := E_u.wr Wr23
  replace E_o := E_o.wr Wr23
  replace F_o_owners := F_o_owners.other Wr23 (Or.inr (slot_ne (a0 := a0) (Or.inr (hw _ (List.mem_of_getElem? (i := 36) rfl))) (Or.inr (hw _ (List.mem_of_getElem? (i := 39) rfl))) (by decide) (t := (.array .int)) (by decide) (t' := (.array .int)) (by decide)))
  replace F_o_priorities := F_o_priorities.same Wr23
  replace F_o_successorStart := F_o_successorStart.other Wr23 (Or.inr (slot_ne (a0 := a0) (Or.inr (hw _ (List.mem_of_getElem? (i := 42) rfl))) (Or.inr (hw _ (List.mem_of_getElem? (i := 39) rfl))) (by decide) (t := (.array .int)) (by decide) (t' := (.array .int)) (by decide)))
  replace F_o_successors := F_o_successors.other Wr23 (Or.inr (slot_ne (a0 := a0) (Or.inr (hw _ (List.mem_of_getElem? (i := 45) rfl))) (Or.inr (hw _ (List.mem_of_getElem? (i := 39) rfl))) (by decide) (t := (.array .int)) (by decide) (t' := (.array .int)) (by decide)))
  replace F_o_maxPriority := F_o_maxPriority.other Wr23 (Or.inr (slot_ne (a0 := a0) (Or.inr (hw _ (List.mem_of_getElem? (i := 63) rfl))) (Or.inr (hw _ (List.mem_of_getElem? (i := 39) rfl))) (by decide) (t := .int) (by decide) (t' := (.array .int)) (by decide)))
  replace A_p2_ := A_p2_.keep K24 (ninS (Ne.symm ne_o_p2_) nin0)
  replace E_p2_ := E_p2_.wr Wr23
  replace A_q2_ := A_q2_.keep K24 (ninS (Ne.symm ne_o_q2_) nin0)
  replace E_q2_ := E_q2_.wr Wr23
  replace hn0 : n0 ≤ h22.size := Nat.le_trans hn0 K24.1
  refine own_aloadN (pc' := 43) d1_42 rfl rfl ?_
  refine own_aloadN (pc' := 44) d1_43 rfl rfl ?_
  refine own_ldcS (pc' := 46) (n := 56) (hw _ (List.mem_of_getElem? (i := 40) rfl)) (own_wS Z a0 hw) d1_44 rfl (by decide) (by decide) (by decide) (by decide) (fun h25 a26 E27 => ?_)
  replace A_p := A_p.ext E27
  replace A_q := A_q.ext E27
  replace A_s := A_s.ext E27
  replace A_u := A_u.ext E27
  replace E_p := E_p.ext E27
  replace E_q := E_q.ext E27
  replace E_s := E_s.ext E27
  replace E_u := E_u.ext E27
  replace E_o := E_o.ext E27
  replace F_o_owners := F_o_owners.ext E27
  replace F_o_priorities := F_o_priorities.ext E27
  replace F_o_successorStart := F_o_successorStart.ext E27
  replace F_o_successors := F_o_successors.ext E27
  replace F_o_maxPriority := F_o_maxPriority.ext E27
  replace A_p2_ := A_p2_.ext E27
  replace E_p2_ := E_p2_.ext E27
  replace A_q2_ := A_q2_.ext E27
  replace E_q2_ := E_q2_.ext E27
  replace hn0 : n0 ≤ h25.size := Nat.le_trans hn0 E27.1
  refine own_static (own_rnn l Z a0 hw s a26 h25 n0 hn0) (hw _ (List.mem_of_getElem? (i := 22) rfl)) (hw _ (List.mem_of_getElem? (i := 23) rfl)) (hw _ (List.mem_of_getElem? (i := 24) rfl)) (hw _ (List.mem_of_getElem? (i := 25) rfl)) (plainFor_of_name own_pn3) (by decide) own_pd3 rfl (argsL := [.ref s, .ref a26]) (rest := [.ref o]) rfl rfl (W := 1) (Nat.le_refl _) (by decide) (by decide) (by decide) (by decide) rfl d1_46 (pc' := 49) rfl (fun v_ h28 hq => ?_)
  obtain ⟨rfl, rfl⟩ := hq
  show own_W l Z (⟨"com/example/cycles_to_winners/cyclestowinners/model/Game", "<init>", "([I[I[I[I)V"⟩ : MethodName) prog_15_method_1_code 5 none ({ frames := 2, cells := 12, slots := 192, locals := 36 } : Room) n0 (fun v h => v = none ∧ ∃ ow2 s2 u2 : Addr, h0.size ≤ ow2 ∧ h0.size ≤ s2 ∧ h0.size ≤ u2 ∧ Keep h0 h [o] ∧ Exa Z h o "com/example/cycles_to_winners/cyclestowinners/model/Game" ∧ Fld Z h o "com/example/cycles_to_winners/cyclestowinners/model/Game" "owners" "[I" (.ref ow2) ∧ Fld Z h o "com/example/cycles_to_winners/cyclestowinners/model/Game" "successorStart" "[I" (.ref s2) ∧ Fld Z h o "com/example/cycles_to_winners/cyclestowinners/model/Game" "successors" "[I" (.ref u2) ∧ own_A Z h ow2 .int [.int o0, .int o1, .int o2] ∧ own_A Z h s2 .int [.int (0 : Int32), .int c, .int d, .int (6 : Int32)] ∧ own_A Z h u2 .int (xs.map Value.int)) h25 8 138 49 #[.val (.ref o), .val (.ref p), .val (.ref q), .val (.ref s), .val (.ref u)] [.ref s, .ref o]
  refine own_cast (pc' := 52) (hw _ (List.mem_of_getElem? (i := 26) rfl)) (Ins.self E_s) d1_49 rfl ?_
  refine own_clone (pc' := 55) (W := 1) (cap := 4) (hw _ (List.mem_of_getElem? (i := 28) rfl)) (hw _ (List.mem_of_getElem? (i := 29) rfl)) (hw _ (List.mem_of_getElem? (i := 33) rfl)) (hw _ (List.mem_of_getElem? (i := 31) rfl)) (hw _ (List.mem_of_getElem? (i := 32) rfl)) (hw _ (List.mem_of_getElem? (i := 34) rfl)) A_s E_s d1_52 rfl rfl (by decide) (Nat.le_refl _) (by decide) (by first | decide | exact Nat.le_refl _) (by decide) (by decide) (fun h29 s2 gt_s2 lt_s2 E30 A_s2 E_s2 => ?_)
  have ge_s2 : n0 ≤ s2 := Nat.le_trans hn0 gt_s2
  have ne_o_s2 : o ≠ s2 := Nat.ne_of_lt (by first | exact Nat.lt_of_lt_of_le E_o.lt gt_s2 | (have q := Nat.lt_of_lt_of_le E_o.lt (Nat.le_refl _); omega))
  have ne_p_s2 : p ≠ s2 := Nat.ne_of_lt (by first | exact Nat.lt_of_lt_of_le A_p.lt gt_s2 | (have q := Nat.lt_of_lt_of_le A_p.lt (Nat.le_refl _); omega))
  have ne_p2__s2 : p2_ ≠ s2 := Nat.ne_of_lt (by first | exact Nat.lt_of_lt_of_le A_p2_.lt gt_s2 | (have q := Nat.lt_of_lt_of_le A_p2_.lt (Nat.le_refl _); omega))
  have ne_q_s2 : q ≠ s2 := Nat.ne_of_lt (by first | exact Nat.lt_of_lt_of_le A_q.lt gt_s2 | (have q := Nat.lt_of_lt_of_le A_q.lt (Nat.le_refl _); omega))
  have ne_q2__s2 : q2_ ≠ s2 := Nat.ne_of_lt (by first | exact Nat.lt_of_lt_of_le A_q2_.lt gt_s2 | (have q := Nat.lt_of_lt_of_le A_q2_.lt (Nat.le_refl _); omega))
  have ne_s_s2 : s ≠ s2 := Nat.ne_of_lt (by first | exact Nat.lt_of_lt_of_le A_s.lt gt_s2 | (have q := Nat.lt_of_lt_of_le A_s.lt (Nat.le_refl _); omega))
  have ne_u_s2 : u ≠ s2 := Nat.ne_of_lt (by first | exact Nat.lt_of_lt_of_le A_u.lt gt_s2 | (have q := Nat.lt_of_lt_of_le A_u.lt (Nat.le_refl _); omega))
  replace A_p := A_p.ext E30
  replace A_q := A_q.ext E30
  replace A_s := A_s.ext E30
  replace A_u := A_u.ext E30
  replace E_p := E_p.ext E30
  replace E_q := E_q.ext E30
  replace E_s := E_s.ext E30
  replace E_u := E_u.ext E30
  replace E_o := E_o.ext E30
  replace F_o_owners := F_o_owners.ext E30
  replace F_o_priorities := F_o_priorities.ext E30
  replace F_o_successorStart := F_o_successorStart.ext E30
  replace F_o_successors := F_o_successors.ext E30
  replace F_o_maxPriority := F_o_maxPriority.ext E30
  replace A_p2_ := A_p2_.ext E30
  replace E_p2_ := E_p2_.ext E30
  replace A_q2_ := A_q2_.ext E30
  replace E_q2_ := E_q2_.ext E30
  replace hn0 : n0 ≤ h29.size := Nat.le_trans hn0 E30.1
  have gg_s2 : h0.size ≤ s2 := Nat.le_trans ((((((((Keep.refl h0 [o]).ext E9).ext E12).trans K15 (fun x hx => Or.inl hx)).ext E18).ext E21).trans K24 (fun x hx => Or.inl hx)).ext E27).1 gt_s2
  refine own_cast (pc' := 58) (hw _ (List.mem_of_getElem? (i := 26) rfl)) (Ins.self E_s2) d1_55 rfl ?_
  refine own_putF (pc' := 61) (hw _ (List.mem_of_getElem? (i := 41) rfl)) F_o_successorStart E_o (Or.inr ⟨(hw _ (List.mem_of_getElem? (i := 42) rfl)), rfl, rfl⟩) (hw _ (List.mem_of_getElem? (i := 6) rfl)) ge_o (ty := (.array .int)) (by decide) rfl rfl d1_58 rfl (fun h31 Wr32 K33 => ?_)
  replace A_p := A_p.keep K33 (ninS ne_p_o nin0)
  replace A_q := A_q.keep K33 (ninS ne_q_o nin0)
  replace A_s := A_s.keep K33 (ninS ne_s_o nin0)
  replace A_u := A_u.keep K33 (ninS ne_u_o nin0)
  replace E_p := E_p.wr Wr32
  replace E_q := E_q.wr Wr32
  replace E_s := E_s.wr Wr32
  replace E_u := E_u.wr Wr32
  replace E_o := E_o.wr Wr32
  replace F_o_owners := F_o_owners.other Wr32 (Or.inr (slot_ne (a0 := a0) (Or.inr (hw _ (List.mem_of_getElem? (i := 36) rfl))) (Or.inr (hw _ (List.mem_of_getElem? (i := 42) rfl))) (by decide) (t := (.array .int)) (by decide) (t' := (.array .int)) (by decide)))
  replace F_o_priorities := F_o_priorities.other Wr32 (Or.inr (slot_ne (a0 := a0) (Or.inr (hw _ (List.mem_of_getElem? (i := 39) rfl))) (Or.inr (hw _ (List.mem_of_getElem? (i := 42) rfl))) (by decide) (t := (.array .int)) (by decide) (t' := (.array .int)) (by decide)))
  replace F_o_successorStart := F_o_successorStart.same Wr32
  replace F_o_successors := F_o_successors.other Wr32 (Or.inr (slot_ne (a0 := a0) (Or.inr (hw _ (List.mem_of_getElem? (i := 45) rfl))) (Or.inr (hw _ (List.mem_of_getElem? (i := 42) rfl))) (by decide) (t := (.array .int)) (by decide) (t' := (.array .int)) (by decide)))
  replace F_o_maxPriority := F_o_maxPriority.other Wr32 (Or.inr (slot_ne (a0 := a0) (Or.inr (hw _ (List.mem_of_getElem? (i := 63) rfl))) (Or.inr (hw _ (List.mem_of_getElem? (i := 42) rfl))) (by decide) (t := .int) (by decide) (t' := (.array .int)) (by decide)))
  replace A_p2_ := A_p2_.keep K33 (ninS (Ne.symm ne_o_p2_) nin0)
  replace E_p2_ := E_p2_.wr Wr32
  replace A_q2_ := A_q2_.keep K33 (ninS (Ne.symm ne_o_q2_) nin0)
  replace E_q2_ := E_q2_.wr Wr32
  replace A_s2 := A_s2.keep K33 (ninS (Ne.symm ne_o_s2) nin0)
  replace E_s2 := E_s2.wr Wr32
  replace hn0 : n0 ≤ h31.size := Nat.le_trans hn0 K33.1
  refine own_aloadN (pc' := 62) d1_61 rfl rfl ?_
  refine own_aload (pc' := 64) d1_62 rfl rfl ?_
  refine own_ldcS (pc' := 66) (n := 40) (hw _ (List.mem_of_getElem? (i := 43) rfl)) (own_wS Z a0 hw) d1_64 rfl (by decide) (by decide) (by decide) (by decide) (fun h34 a35 E36 => ?_)
  replace A_p := A_p.ext E36
  replace A_q := A_q.ext E36
  replace A_s := A_s.ext E36
  replace A_u := A_u.ext E36
  replace E_p := E_p.ext E36
  replace E_q := E_q.ext E36
  replace E_s := E_s.ext E36
  replace E_u := E_u.ext E36
  replace E_o := E_o.ext E36
  replace F_o_owners := F_o_owners.ext E36
  replace F_o_priorities := F_o_priorities.ext E36
  replace F_o_successorStart := F_o_successorStart.ext E36
  replace F_o_successors := F_o_successors.ext E36
  replace F_o_maxPriority := F_o_maxPriority.ext E36
  replace A_p2_ := A_p2_.ext E36
  replace E_p2_ := E_p2_.ext E36
  replace A_q2_ := A_q2_.ext E36
  replace E_q2_ := E_q2_.ext E36
  replace A_s2 := A_s2.ext E36
  replace E_s2 := E_s2.ext E36
  replace hn0 : n0 ≤ h34.size := Nat.le_trans hn0 E36.1
  refine own_static (own_rnn l Z a0 hw u a35 h34 n0 hn0) (hw _ (List.mem_of_getElem? (i := 22) rfl)) (hw _ (List.mem_of_getElem? (i := 23) rfl)) (hw _ (List.mem_of_getElem? (i := 24) rfl)) (hw _ (List.mem_of_getElem? (i := 25) rfl)) (plainFor_of_name own_pn3) (by decide) own_pd3 rfl (argsL := [.ref u, .ref a35]) (rest := [.ref o]) rfl rfl (W := 1) (Nat.le_refl _) (by decide) (by decide) (by decide) (by decide) rfl d1_66 (pc' := 69) rfl (fun v_ h37 hq => ?_)
  obtain ⟨rfl, rfl⟩ := hq
  show own_W l Z (⟨"com/example/cycles_to_winners/cyclestowinners/model/Game", "<init>", "([I[I[I[I)V"⟩ : MethodName) prog_15_method_1_code 5 none ({ frames := 2, cells := 12, slots := 192, locals := 36 } : Room) n0 (fun v h => v = none ∧ ∃ ow2 s2 u2 : Addr, h0.size ≤ ow2 ∧ h0.size ≤ s2 ∧ h0.size ≤ u2 ∧ Keep h0 h [o] ∧ Exa Z h o "com/example/cycles_to_winners/cyclestowinners/model/Game" ∧ Fld Z h o "com/example/cycles_to_winners/cyclestowinners/model/Game" "owners" "[I" (.ref ow2) ∧ Fld Z h o "com/example/cycles_to_winners/cyclestowinners/model/Game" "successorStart" "[I" (.ref s2) ∧ Fld Z h o "com/example/cycles_to_winners/cyclestowinners/model/Game" "successors" "[I" (.ref u2) ∧ own_A Z h ow2 .int [.int o0, .int o1, .int o2] ∧ own_A Z h s2 .int [.int (0 : Int32), .int c, .int d, .int (6 : Int32)] ∧ own_A Z h u2 .int (xs.map Value.int)) h34 11 186 69 #[.val (.ref o), .val (.ref p), .val (.ref q), .val (.ref s), .val (.ref u)] [.ref u, .ref o]
  refine own_cast (pc' := 72) (hw _ (List.mem_of_getElem? (i := 26) rfl)) (Ins.self E_u) d1_69 rfl ?_
  refine own_clone (pc' := 75) (W := 1) (cap := 6) (hw _ (List.mem_of_getElem? (i := 28) rfl)) (hw _ (List.mem_of_getElem? (i := 29) rfl)) (hw _ (List.mem_of_getElem? (i := 33) rfl)) (hw _ (List.mem_of_getElem? (i := 31) rfl)) (hw _ (List.mem_of_getElem? (i := 32) rfl)) (hw _ (List.mem_of_getElem? (i := 34) rfl)) A_u E_u d1_72 rfl rfl (by decide) (Nat.le_refl _) (by decide) (by rw [List.length_map, hx.1]; decide) (by decide) (by decide) (fun h38 u2 gt_u2 lt_u2 E39 A_u2 E_u2 => ?_)
  have ge_u2 : n0 ≤ u2 := Nat.le_trans hn0 gt_u2
  have ne_o_u2 : o ≠ u2 := Nat.ne_of_lt (by first | exact Nat.lt_of_lt_of_le E_o.lt gt_u2 | (have q := Nat.lt_of_lt_of_le E_o.lt (Nat.le_refl _); omega))
  have ne_p_u2 : p ≠ u2 := Nat.ne_of_lt (by first | exact Nat.lt_of_lt_of_le A_p.lt gt_u2 | (have q := Nat.lt_of_lt_of_le A_p.lt (Nat.le_refl _); omega))
  have ne_p2__u2 : p2_ ≠ u2 := Nat.ne_of_lt (by first | exact Nat.lt_of_lt_of_le A_p2_.lt gt_u2 | (have q := Nat.lt_of_lt_of_le A_p2_.lt (Nat.le_refl _); omega))
  have ne_q_u2 : q ≠ u2 := Nat.ne_of_lt (by first | exact Nat.lt_of_lt_of_le A_q.lt gt_u2 | (have q := Nat.lt_of_lt_of_le A_q.lt (Nat.le_refl _); omega))
  have ne_q2__u2 : q2_ ≠ u2 := Nat.ne_of_lt (by first | exact Nat.lt_of_lt_of_le A_q2_.lt gt_u2 | (have q := Nat.lt_of_lt_of_le A_q2_.lt (Nat.le_refl _); omega))
  have ne_s_u2 : s ≠ u2 := Nat.ne_of_lt (by first | exact Nat.lt_of_lt_of_le A_s.lt gt_u2 | (have q := Nat.lt_of_lt_of_le A_s.lt (Nat.le_refl _); omega))
  have ne_s2_u2 : s2 ≠ u2 := Nat.ne_of_lt (by first | exact Nat.lt_of_lt_of_le A_s2.lt gt_u2 | (have q := Nat.lt_of_lt_of_le A_s2.lt (Nat.le_refl _); omega))
  have ne_u_u2 : u ≠ u2 := Nat.ne_of_lt (by first | exact Nat.lt_of_lt_of_le A_u.lt gt_u2 | (have q := Nat.lt_of_lt_of_le A_u.lt (Nat.le_refl _); omega))
  replace A_p := A_p.ext E39
  replace A_q := A_q.ext E39
  replace A_s := A_s.ext E39
  replace A_u := A_u.ext E39
  replace E_p := E_p.ext E39
  replace E_q := E_q.ext E39
  replace E_s := E_s.ext E39
  replace E_u := E_u.ext E39
  replace E_o := E_o.ext E39
  replace F_o_owners := F_o_owners.ext E39
  replace F_o_priorities := F_o_priorities.ext E39
  replace F_o_successorStart := F_o_successorStart.ext E39
  replace F_o_successors := F_o_successors.ext E39
  replace F_o_maxPriority := F_o_maxPriority.ext E39
  replace A_p2_ := A_p2_.ext E39
  replace E_p2_ := E_p2_.ext E39
  replace A_q2_ := A_q2_.ext E39
  replace E_q2_ := E_q2_.ext E39
  replace A_s2 := A_s2.ext E39
  replace E_s2 := E_s2.ext E39
  replace hn0 : n0 ≤ h38.size := Nat.le_trans hn0 E39.1
  have gg_u2 : h0.size ≤ u2 := Nat.le_trans (((((((((((Keep.refl h0 [o]).ext E9).ext E12).trans K15 (fun x hx => Or.inl hx)).ext E18).ext E21).trans K24 (fun x hx => Or.inl hx)).ext E27).ext E30).trans K33 (fun x hx => Or.inl hx)).ext E36).1 gt_u2
  refine own_cast (pc' := 78) (hw _ (List.mem_of_getElem? (i := 26) rfl)) (Ins.self E_u2) d1_75 rfl ?_
  refine own_putF (pc' := 81) (hw _ (List.mem_of_getElem? (i := 44) rfl)) F_o_successors E_o (Or.inr ⟨(hw _ (List.mem_of_getElem? (i := 45) rfl)), rfl, rfl⟩) (hw _ (List.mem_of_getElem? (i := 6) rfl)) ge_o (ty := (.array .int)) (by decide) rfl rfl d1_78 rfl (fun h40 Wr41 K42 => ?_)
  replace A_p := A_p.keep K42 (ninS ne_p_o nin0)
  replace A_q := A_q.keep K42 (ninS ne_q_o nin0)
  replace A_s := A_s.keep K42 (ninS ne_s_o nin0)
  replace A_u := A_u.keep K42 (ninS ne_u_o nin0)
  replace E_p := E_p.wr Wr41
  replace E_q := E_q.wr Wr41
  replace E_s := E_s.wr Wr41
  replace E_u := E_u.wr Wr41
  replace E_o := E_o.wr Wr41
  replace F_o_owners := F_o_owners.other Wr41 (Or.inr (slot_ne (a0 := a0) (Or.inr (hw _ (List.mem_of_getElem? (i := 36) rfl))) (Or.inr (hw _ (List.mem_of_getElem? (i := 45) rfl))) (by decide) (t := (.array .int)) (by decide) (t' := (.array .int)) (by decide)))
  replace F_o_priorities := F_o_priorities.other Wr41 (Or.inr (slot_ne (a0 := a0) (Or.inr (hw _ (List.mem_of_getElem? (i := 39) rfl))) (Or.inr (hw _ (List.mem_of_getElem? (i := 45) rfl))) (by decide) (t := (.array .int)) (by decide) (t' := (.array .int)) (by decide)))
  replace F_o_successorStart := F_o_successorStart.other Wr41 (Or.inr (slot_ne (a0 := a0) (Or.inr (hw _ (List.mem_of_getElem? (i := 42) rfl))) (Or.inr (hw _ (List.mem_of_getElem? (i := 45) rfl))) (by decide) (t := (.array .int)) (by decide) (t' := (.array .int)) (by decide)))
  replace F_o_successors := F_o_successors.same Wr41
  replace F_o_maxPriority := F_o_maxPriority.other Wr41 (Or.inr (slot_ne (a0 := a0) (Or.inr (hw _ (List.mem_of_getElem? (i := 63) rfl))) (Or.inr (hw _ (List.mem_of_getElem? (i := 45) rfl))) (by decide) (t := .int) (by decide) (t' := (.array .int)) (by decide)))
  replace A_p2_ := A_p2_.keep K42 (ninS (Ne.symm ne_o_p2_) nin0)
  replace E_p2_ := E_p2_.wr Wr41
  replace A_q2_ := A_q2_.keep K42 (ninS (Ne.symm ne_o_q2_) nin0)
  replace E_q2_ := E_q2_.wr Wr41
  replace A_s2 := A_s2.keep K42 (ninS (Ne.symm ne_o_s2) nin0)
  replace E_s2 := E_s2.wr Wr41
  replace A_u2 := A_u2.keep K42 (ninS (Ne.symm ne_o_u2) nin0)
  replace E_u2 := E_u2.wr Wr41
  replace hn0 : n0 ≤ h40.size := Nat.le_trans hn0 K42.1
  refine own_aloadN (pc' := 82) d1_81 rfl rfl ?_
  refine own_getF (pc' := 85) (hw _ (List.mem_of_getElem? (i := 35) rfl)) F_o_owners d1_82 rfl ?_
  refine own_aloadN (pc' := 86) d1_85 rfl rfl ?_
  refine own_getF (pc' := 89) (hw _ (List.mem_of_getElem? (i := 38) rfl)) F_o_priorities d1_86 rfl ?_
  refine own_aloadN (pc' := 90) d1_89 rfl rfl ?_
  refine own_getF (pc' := 93) (hw _ (List.mem_of_getElem? (i := 41) rfl)) F_o_successorStart d1_90 rfl ?_
  refine own_aloadN (pc' := 94) d1_93 rfl rfl ?_
  refine own_getF (pc' := 97) (hw _ (List.mem_of_getElem? (i := 44) rfl)) F_o_successors d1_94 rfl ?_
  refine own_static (own_shape l Z a0 hw p2_ q2_ s2 u2 o0 o1 o2 p0 p1 p2 c d _ h40 n0 hn0 (by rw [Int32.lt_iff_toInt_lt, c0]; omega) (by rw [Int32.lt_iff_toInt_lt]; omega) (by rw [Int32.lt_iff_toInt_lt, c6]; omega) A_p2_ A_q2_ A_s2 A_u2 (by rw [List.length_map, hx.1]; rfl)) (hw _ (List.mem_of_getElem? (i := 46) rfl)) (hw _ (List.mem_of_getElem? (i := 47) rfl)) (hw _ (List.mem_of_getElem? (i := 7) rfl)) (hw _ (List.mem_of_getElem? (i := 48) rfl)) (plainFor_of_name own_pn1) (by decide) own_pd1 rfl (argsL := [.ref p2_, .ref q2_, .ref s2, .ref u2]) (rest := []) rfl rfl (W := 0) (Nat.le_refl _) (by decide) (by decide) (by decide) (by decide) rfl d1_97 (pc' := 100) rfl (fun v_ h43 hq => ?_)
  obtain ⟨rfl, rfl⟩ := hq
  show own_W l Z (⟨"com/example/cycles_to_winners/cyclestowinners/model/Game", "<init>", "([I[I[I[I)V"⟩ : MethodName) prog_15_method_1_code 5 none ({ frames := 2, cells := 12, slots := 192, locals := 36 } : Room) n0 (fun v h => v = none ∧ ∃ ow2 s2 u2 : Addr, h0.size ≤ ow2 ∧ h0.size ≤ s2 ∧ h0.size ≤ u2 ∧ Keep h0 h [o] ∧ Exa Z h o "com/example/cycles_to_winners/cyclestowinners/model/Game" ∧ Fld Z h o "com/example/cycles_to_winners/cyclestowinners/model/Game" "owners" "[I" (.ref ow2) ∧ Fld Z h o "com/example/cycles_to_winners/cyclestowinners/model/Game" "successorStart" "[I" (.ref s2) ∧ Fld Z h o "com/example/cycles_to_winners/cyclestowinners/model/Game" "successors" "[I" (.ref u2) ∧ own_A Z h ow2 .int [.int o0, .int o1, .int o2] ∧ own_A Z h s2 .int [.int (0 : Int32), .int c, .int d, .int (6 : Int32)] ∧ own_A Z h u2 .int (xs.map Value.int)) h40 12 192 100 #[.val (.ref o), .val (.ref p), .val (.ref q), .val (.ref s), .val (.ref u)] []
  refine own_aloadN (pc' := 101) d1_100 rfl rfl ?_
  refine own_getF (pc' := 104) (hw _ (List.mem_of_getElem? (i := 35) rfl)) F_o_owners d1_101 rfl ?_
  refine own_aloadN (pc' := 105) d1_104 rfl rfl ?_
  refine own_getF (pc' := 108) (hw _ (List.mem_of_getElem? (i := 38) rfl)) F_o_priorities d1_105 rfl ?_
  refine own_aloadN (pc' := 109) d1_108 rfl rfl ?_
  refine own_getF (pc' := 112) (hw _ (List.mem_of_getElem? (i := 41) rfl)) F_o_successorStart d1_109 rfl ?_
  refine own_aloadN (pc' := 113) d1_112 rfl rfl ?_
  refine own_getF (pc' := 116) (hw _ (List.mem_of_getElem? (i := 44) rfl)) F_o_successors d1_113 rfl ?_
  refine own_static (own_cvs l Z a0 hw p2_ q2_ s2 u2 o0 o1 o2 p0 p1 p2 c d xs h40 n0 hn0 hx ho0 hp0 ho1 hp1 ho2 hp2 hc hd he A_p2_ A_q2_ A_s2 A_u2) (hw _ (List.mem_of_getElem? (i := 49) rfl)) (hw _ (List.mem_of_getElem? (i := 50) rfl)) (hw _ (List.mem_of_getElem? (i := 7) rfl)) (hw _ (List.mem_of_getElem? (i := 51) rfl)) (plainFor_of_name own_pn1) (by decide) own_pd1 rfl (argsL := [.ref p2_, .ref q2_, .ref s2, .ref u2]) (rest := []) rfl rfl (W := 0) (Nat.le_refl _) (by decide) (by decide) (by decide) (by decide) rfl d1_116 (pc' := 119) rfl (fun v_ h44 hq => ?_)
  obtain ⟨rfl, rfl⟩ := hq
  show own_W l Z (⟨"com/example/cycles_to_winners/cyclestowinners/model/Game", "<init>", "([I[I[I[I)V"⟩ : MethodName) prog_15_method_1_code 5 none ({ frames := 2, cells := 12, slots := 192, locals := 36 } : Room) n0 (fun v h => v = none ∧ ∃ ow2 s2 u2 : Addr, h0.size ≤ ow2 ∧ h0.size ≤ s2 ∧ h0.size ≤ u2 ∧ Keep h0 h [o] ∧ Exa Z h o "com/example/cycles_to_winners/cyclestowinners/model/Game" ∧ Fld Z h o "com/example/cycles_to_winners/cyclestowinners/model/Game" "owners" "[I" (.ref ow2) ∧ Fld Z h o "com/example/cycles_to_winners/cyclestowinners/model/Game" "successorStart" "[I" (.ref s2) ∧ Fld Z h o "com/example/cycles_to_winners/cyclestowinners/model/Game" "successors" "[I" (.ref u2) ∧ own_A Z h ow2 .int [.int o0, .int o1, .int o2] ∧ own_A Z h s2 .int [.int (0 : Int32), .int c, .int d, .int (6 : Int32)] ∧ own_A Z h u2 .int (xs.map Value.int)) h40 12 192 119 #[.val (.ref o), .val (.ref p), .val (.ref q), .val (.ref s), .val (.ref u)] []
  refine own_aloadN (pc' := 120) d1_119 rfl rfl ?_
  refine own_aloadN (pc' := 121) d1_120 rfl rfl ?_
  refine own_getF (pc' := 124) (hw _ (List.mem_of_getElem? (i := 38) rfl)) F_o_priorities d1_121 rfl ?_
  refine own_static (own_hi l Z a0 hw q2_ p0 p1 p2 h40 n0 hn0 A_q2_) (hw _ (List.mem_of_getElem? (i := 55) rfl)) (hw _ (List.mem_of_getElem? (i := 56) rfl)) (hw _ (List.mem_of_getElem? (i := 7) rfl)) (hw _ (List.mem_of_getElem? (i := 57) rfl)) (plainFor_of_name own_pn1) (by decide) own_pd5 rfl (argsL := [.ref q2_]) (rest := [.ref o]) rfl rfl (W := 1) (Nat.le_refl _) (by decide) (by decide) (by decide) (by decide) rfl d1_124 (pc' := 127) rfl (fun v_ h45 hq => ?_)
  obtain ⟨mm, rfl, rfl⟩ := hq
  show own_W l Z (⟨"com/example/cycles_to_winners/cyclestowinners/model/Game", "<init>", "([I[I[I[I)V"⟩ : MethodName) prog_15_method_1_code 5 none ({ frames := 2, cells := 12, slots := 192, locals := 36 } : Room) n0 (fun v h => v = none ∧ ∃ ow2 s2 u2 : Addr, h0.size ≤ ow2 ∧ h0.size ≤ s2 ∧ h0.size ≤ u2 ∧ Keep h0 h [o] ∧ Exa Z h o "com/example/cycles_to_winners/cyclestowinners/model/Game" ∧ Fld Z h o "com/example/cycles_to_winners/cyclestowinners/model/Game" "owners" "[I" (.ref ow2) ∧ Fld Z h o "com/example/cycles_to_winners/cyclestowinners/model/Game" "successorStart" "[I" (.ref s2) ∧ Fld Z h o "com/example/cycles_to_winners/cyclestowinners/model/Game" "successors" "[I" (.ref u2) ∧ own_A Z h ow2 .int [.int o0, .int o1, .int o2] ∧ own_A Z h s2 .int [.int (0 : Int32), .int c, .int d, .int (6 : Int32)] ∧ own_A Z h u2 .int (xs.map Value.int)) h40 12 192 127 #[.val (.ref o), .val (.ref p), .val (.ref q), .val (.ref s), .val (.ref u)] [.int mm, .ref o]
  refine own_putF (pc' := 130) (hw _ (List.mem_of_getElem? (i := 62) rfl)) F_o_maxPriority E_o (Or.inr ⟨(hw _ (List.mem_of_getElem? (i := 63) rfl)), rfl, rfl⟩) (hw _ (List.mem_of_getElem? (i := 6) rfl)) ge_o (ty := .int) (by decide) rfl rfl d1_127 rfl (fun h46 Wr47 K48 => ?_)
  replace A_p := A_p.keep K48 (ninS ne_p_o nin0)
  replace A_q := A_q.keep K48 (ninS ne_q_o nin0)
  replace A_s := A_s.keep K48 (ninS ne_s_o nin0)
  replace A_u := A_u.keep K48 (ninS ne_u_o nin0)
  replace E_p := E_p.wr Wr47
  replace E_q := E_q.wr Wr47
  replace E_s := E_s.wr Wr47
  replace E_u := E_u.wr Wr47
  replace E_o := E_o.wr Wr47
  replace F_o_owners := F_o_owners.other Wr47 (Or.inr (slot_ne (a0 := a0) (Or.inr (hw _ (List.mem_of_getElem? (i := 36) rfl))) (Or.inr (hw _ (List.mem_of_getElem? (i := 63) rfl))) (by decide) (t := (.array .int)) (by decide) (t' := .int) (by decide)))
  replace F_o_priorities := F_o_priorities.other Wr47 (Or.inr (slot_ne (a0 := a0) (Or.inr (hw _ (List.mem_of_getElem? (i := 39) rfl))) (Or.inr (hw _ (List.mem_of_getElem? (i := 63) rfl))) (by decide) (t := (.array .int)) (by decide) (t' := .int) (by decide)))
  replace F_o_successorStart := F_o_successorStart.other Wr47 (Or.inr (slot_ne (a0 := a0) (Or.inr (hw _ (List.mem_of_getElem? (i := 42) rfl))) (Or.inr (hw _ (List.mem_of_getElem? (i := 63) rfl))) (by decide) (t := (.array .int)) (by decide) (t' := .int) (by decide)))
  replace F_o_successors := F_o_successors.other Wr47 (Or.inr (slot_ne (a0 := a0) (Or.inr (hw _ (List.mem_of_getElem? (i := 45) rfl))) (Or.inr (hw _ (List.mem_of_getElem? (i := 63) rfl))) (by decide) (t := (.array .int)) (by decide) (t' := .int) (by decide)))
  replace F_o_maxPriority := F_o_maxPriority.same Wr47
  replace A_p2_ := A_p2_.keep K48 (ninS (Ne.symm ne_o_p2_) nin0)
  replace E_p2_ := E_p2_.wr Wr47
  replace A_q2_ := A_q2_.keep K48 (ninS (Ne.symm ne_o_q2_) nin0)
  replace E_q2_ := E_q2_.wr Wr47
  replace A_s2 := A_s2.keep K48 (ninS (Ne.symm ne_o_s2) nin0)
  replace E_s2 := E_s2.wr Wr47
  replace A_u2 := A_u2.keep K48 (ninS (Ne.symm ne_o_u2) nin0)
  replace E_u2 := E_u2.wr Wr47
  replace hn0 : n0 ≤ h46.size := Nat.le_trans hn0 K48.1
  exact own_ret rfl d1_130 ⟨rfl, p2_, s2, u2, gg_p2_, gg_s2, gg_u2, ((((((((((((((Keep.refl h0 [o]).ext E9).ext E12).trans K15 (fun x hx => Or.inl hx)).ext E18).ext E21).trans K24 (fun x hx => Or.inl hx)).ext E27).ext E30).trans K33 (fun x hx => Or.inl hx)).ext E36).ext E39).trans K42 (fun x hx => Or.inl hx)).trans K48 (fun x hx => Or.inl hx)), E_o, F_o_owners, F_o_successorStart, F_o_successors, A_p2_, A_s2, A_u2⟩
set_option maxRecDepth 65536 in
set_option maxHeartbeats 40000000 in
theorem own_scW (l : Launch) (Z : State) (a0 : Array Value) (hw : ∀ d ∈ tables_1, d.before a0 Z = true) (o s2 : Addr) (vs : List Value) (j p q : Int32) (h0 : Heap) (n0 : Nat) (hn0 : n0 ≤ h0.size) (hj : ¬ j < 0) (hj1 : ¬ (j + 1) < 0) (hp : vs[(j + 1).toNatClampNeg]? = some (.int p)) (hq : vs[j.toNatClampNeg]? = some (.int q)) (F_s : Fld Z h0 o "com/example/cycles_to_winners/cyclestowinners/model/Game" "successorStart" "[I" (.ref s2)) (A_s2 : own_A Z h0 s2 .int vs) :
    own_W l Z (⟨"com/example/cycles_to_winners/cyclestowinners/model/Game", "successorCount", "(I)I"⟩ : MethodName) prog_15_method_12_code 2 (some .int) ({ frames := 0, cells := 0, slots := 0, locals := 0 } : Room) n0 (fun v h => v = some (.int (p - q)) ∧ h0 = h) h0 0 0 0 #[.val (.ref o), .val (.int j)] [] := by
  refine own_aloadN (pc' := 1) d9_0 rfl rfl ?_
  refine own_getF (pc' := 4) (hw _ (List.mem_of_getElem? (i := 41) rfl)) F_s d9_1 rfl ?_
  refine own_iloadN (pc' := 5) d9_4 rfl rfl ?_
  refine own_iconst (1 : Int32) (pc' := 6) d9_5 rfl rfl ?_
  refine own_iadd (pc' := 7) d9_6 rfl ?_
  refine own_iaload (pc' := 8) (v := .int p) A_s2 hj1 hp d9_7 rfl ?_
  refine own_aloadN (pc' := 9) d9_8 rfl rfl ?_
  refine own_getF (pc' := 12) (hw _ (List.mem_of_getElem? (i := 41) rfl)) F_s d9_9 rfl ?_
  refine own_iloadN (pc' := 13) d9_12 rfl rfl ?_
  refine own_iaload (pc' := 14) (v := .int q) A_s2 hj hq d9_13 rfl ?_
  refine own_isub (pc' := 15) d9_14 rfl ?_
  exact own_iret rfl d9_15 ⟨rfl, rfl⟩
set_option maxRecDepth 65536 in
set_option maxHeartbeats 40000000 in
theorem own_ci0 (l : Launch) (Z : State) (a0 : Array Value) (hw : ∀ d ∈ tables_1, d.before a0 Z = true) (i n : Int32) (h0 : Heap) (n0 : Nat) (hn0 : n0 ≤ h0.size) (hi : ¬ i < 0) (hn : i < n) :
    own_W l Z (⟨"jdk/internal/util/Preconditions", "checkIndex", "(IILjava/util/function/BiFunction;)I"⟩ : MethodName) jdk_41_method_11_code 3 (some .int) ({ frames := 0, cells := 0, slots := 0, locals := 0 } : Room) n0 (fun v h => v = some (.int i) ∧ h0 = h) h0 0 0 0 #[.val (.int i), .val (.int n), .val (.null)] [] := by
  refine own_iloadN (pc' := 1) d12_0 rfl rfl ?_
  refine own_if_lt_f (pc' := 4) d12_1 hi rfl ?_
  refine own_iloadN (pc' := 5) d12_4 rfl rfl ?_
  refine own_iloadN (pc' := 6) d12_5 rfl rfl ?_
  refine own_ic_lt_t (pc' := 16) d12_6 hn (by decide) (by decide) ?_
  refine own_iloadN (pc' := 17) d12_16 rfl rfl ?_
  exact own_iret rfl d12_17 ⟨rfl, rfl⟩
set_option maxRecDepth 65536 in
set_option maxHeartbeats 40000000 in
theorem own_ci (l : Launch) (Z : State) (a0 : Array Value) (hw : ∀ d ∈ tables_1, d.before a0 Z = true) (i n : Int32) (h0 : Heap) (n0 : Nat) (hn0 : n0 ≤ h0.size) (hi : ¬ i < 0) (hn : i < n) :
    own_W l Z (⟨"java/util/Objects", "checkIndex", "(II)I"⟩ : MethodName) jdk_31_method_17_code 2 (some .int) ({ frames := 1, cells := 0, slots := 0, locals := 14 } : Room) n0 (fun v h => v = some (.int i) ∧ h0 = h) h0 0 0 0 #[.val (.int i), .val (.int n)] [] := by
  refine own_iloadN (pc' := 1) d11_0 rfl rfl ?_
  refine own_iloadN (pc' := 2) d11_1 rfl rfl ?_
  refine own_aconstNull (pc' := 3) d11_2 rfl ?_
  refine own_static (own_ci0 l Z a0 hw i n h0 n0 hn0 hi hn) (hw _ (List.mem_of_getElem? (i := 77) rfl)) (hw _ (List.mem_of_getElem? (i := 78) rfl)) (hw _ (List.mem_of_getElem? (i := 79) rfl)) (hw _ (List.mem_of_getElem? (i := 80) rfl)) (plainFor_of_name own_pn5) (by decide) own_pd8 rfl (argsL := [.int i, .int n, .null]) (rest := []) rfl rfl (W := 0) (Nat.le_refl _) (by decide) (by decide) (by decide) (by decide) rfl d11_3 (pc' := 6) rfl (fun v_ h49 hq => ?_)
  obtain ⟨rfl, rfl⟩ := hq
  show own_W l Z (⟨"java/util/Objects", "checkIndex", "(II)I"⟩ : MethodName) jdk_31_method_17_code 2 (some .int) ({ frames := 1, cells := 0, slots := 0, locals := 14 } : Room) n0 (fun v h => v = some (.int i) ∧ h0 = h) h0 0 0 6 #[.val (.int i), .val (.int n)] [.int i]
  exact own_iret rfl d11_6 ⟨rfl, rfl⟩
set_option maxRecDepth 65536 in
set_option maxHeartbeats 40000000 in
theorem own_sucW (l : Launch) (Z : State) (a0 : Array Value) (hw : ∀ d ∈ tables_1, d.before a0 Z = true) (o s2 u2 : Addr) (vs us : List Value) (j k p q w : Int32) (h0 : Heap) (n0 : Nat) (hn0 : n0 ≤ h0.size) (hj : ¬ j < 0) (hj1 : ¬ (j + 1) < 0) (hp : vs[(j + 1).toNatClampNeg]? = some (.int p)) (hq : vs[j.toNatClampNeg]? = some (.int q)) (hk : ¬ k < 0) (hkn : k < p - q) (hi : ¬ (q + k) < 0) (hv : us[(q + k).toNatClampNeg]? = some (.int w)) (F_s : Fld Z h0 o "com/example/cycles_to_winners/cyclestowinners/model/Game" "successorStart" "[I" (.ref s2)) (F_u : Fld Z h0 o "com/example/cycles_to_winners/cyclestowinners/model/Game" "successors" "[I" (.ref u2)) (A_s2 : own_A Z h0 s2 .int vs) (A_u2 : own_A Z h0 u2 .int us) :
    own_W l Z (⟨"com/example/cycles_to_winners/cyclestowinners/model/Game", "successor", "(II)I"⟩ : MethodName) prog_15_method_13_code 4 (some .int) ({ frames := 2, cells := 0, slots := 0, locals := 27 } : Room) n0 (fun v h => v = some (.int w) ∧ h0 = h) h0 0 0 0 #[.val (.ref o), .val (.int j), .val (.int k), .unset] [] := by
  refine own_aloadN (pc' := 1) d10_0 rfl rfl ?_
  refine own_getF (pc' := 4) (hw _ (List.mem_of_getElem? (i := 41) rfl)) F_s d10_1 rfl ?_
  refine own_iloadN (pc' := 5) d10_4 rfl rfl ?_
  refine own_iaload (pc' := 6) (v := .int q) A_s2 hj hq d10_5 rfl ?_
  refine own_istoreN (pc' := 7) (Ls' := #[.val (.ref o), .val (.int j), .val (.int k), .val (.int q)]) d10_6 rfl rfl ?_
  refine own_iloadN (pc' := 8) d10_7 rfl rfl ?_
  refine own_aloadN (pc' := 9) d10_8 rfl rfl ?_
  refine own_getF (pc' := 12) (hw _ (List.mem_of_getElem? (i := 41) rfl)) F_s d10_9 rfl ?_
  refine own_iloadN (pc' := 13) d10_12 rfl rfl ?_
  refine own_iconst (1 : Int32) (pc' := 14) d10_13 rfl rfl ?_
  refine own_iadd (pc' := 15) d10_14 rfl ?_
  refine own_iaload (pc' := 16) (v := .int p) A_s2 hj1 hp d10_15 rfl ?_
  refine own_iloadN (pc' := 17) d10_16 rfl rfl ?_
  refine own_isub (pc' := 18) d10_17 rfl ?_
  refine own_static (own_ci l Z a0 hw k (p - q) h0 n0 hn0 hk hkn) (hw _ (List.mem_of_getElem? (i := 74) rfl)) (hw _ (List.mem_of_getElem? (i := 75) rfl)) (hw _ (List.mem_of_getElem? (i := 24) rfl)) (hw _ (List.mem_of_getElem? (i := 76) rfl)) (plainFor_of_name own_pn3) (by decide) own_pd6 rfl (argsL := [.int k, .int (p - q)]) (rest := []) rfl rfl (W := 0) (Nat.le_refl _) (by decide) (by decide) (by decide) (by decide) rfl d10_18 (pc' := 21) rfl (fun v_ h50 hq => ?_)
  obtain ⟨rfl, rfl⟩ := hq
  show own_W l Z (⟨"com/example/cycles_to_winners/cyclestowinners/model/Game", "successor", "(II)I"⟩ : MethodName) prog_15_method_13_code 4 (some .int) ({ frames := 2, cells := 0, slots := 0, locals := 27 } : Room) n0 (fun v h => v = some (.int w) ∧ h0 = h) h0 0 0 21 #[.val (.ref o), .val (.int j), .val (.int k), .val (.int q)] [.int k]
  refine own_pop (pc' := 22) d10_21 rfl rfl ?_
  refine own_aloadN (pc' := 23) d10_22 rfl rfl ?_
  refine own_getF (pc' := 26) (hw _ (List.mem_of_getElem? (i := 44) rfl)) F_u d10_23 rfl ?_
  refine own_iloadN (pc' := 27) d10_26 rfl rfl ?_
  refine own_iloadN (pc' := 28) d10_27 rfl rfl ?_
  refine own_iadd (pc' := 29) d10_28 rfl ?_
  refine own_iaload (pc' := 30) (v := .int w) A_u2 hi hv d10_29 rfl ?_
  exact own_iret rfl d10_30 ⟨rfl, rfl⟩
theorem own_addI (a b : Int32) (h : -2147483648 ≤ a.toInt + b.toInt ∧ a.toInt + b.toInt < 2147483648) : (a + b).toInt = a.toInt + b.toInt := by
  have p := c_iadd a b
  have q := rng32 (a + b)
  omega
theorem own_subI (a b : Int32) (h : -2147483648 ≤ a.toInt - b.toInt ∧ a.toInt - b.toInt < 2147483648) : (a - b).toInt = a.toInt - b.toInt := by
  have p := c_isub a b
  have q := rng32 (a - b)
  omega
theorem own_gk (q k w : Int32) (c s : Int) (hq : q.toInt = c) (hk : k.toInt = s - 1) (hw : w.toInt = s) (h : 0 ≤ c ∧ 1 ≤ s ∧ c + s ≤ 6) : ¬ k < 0 ∧ k < w ∧ (0 ≤ (q + k).toInt ∧ (q + k).toInt < 6) ∧ (q + k).toInt = c + s - 1 := by
  have e := own_addI q k (by rw [hq, hk]; omega)
  rw [hq, hk] at e
  rw [Int32.lt_iff_toInt_lt, Int32.lt_iff_toInt_lt, hk, hw, e]
  have z : (0 : Int32).toInt = 0 := rfl
  rw [z]
  clear e hq hk hw z
  omega
theorem own_G (c0 c1 c2 : Int32) (h1 : 1 ≤ c0.toInt ∧ 1 ≤ c1.toInt ∧ c0.toInt + c1.toInt ≤ 5) (h2 : c2.toInt = 6 - c0.toInt - c1.toInt) :
    (0 < c0.toInt ∧ c0.toInt < (c0 + c1).toInt ∧ (c0 + c1).toInt < 6) ∧ (c0 - 0 = c0 ∧ c0 + c1 - c0 = c1 ∧ 6 - (c0 + c1) = c2) ∧
    (¬ (c0 - 1) < 0 ∧ (c0 - 1) < (c0 - 0) ∧ (0 ≤ (0 + (c0 - 1)).toInt ∧ (0 + (c0 - 1)).toInt < 6)) ∧ ((0 ≤ (c0 - 1).toInt ∧ (c0 - 1).toInt < 6) ∧ 0 + (c0 - 1) = c0 - 1) ∧
    (¬ (c1 - 1) < 0 ∧ (c1 - 1) < (c0 + c1 - c0) ∧ (0 ≤ (c0 + (c1 - 1)).toInt ∧ (c0 + (c1 - 1)).toInt < 6)) ∧ ((0 ≤ (c0 + c1 - 1).toInt ∧ (c0 + c1 - 1).toInt < 6) ∧ c0 + (c1 - 1) = c0 + c1 - 1) ∧
    (¬ (c2 - 1) < 0 ∧ (c2 - 1) < (6 - (c0 + c1)) ∧ (0 ≤ (c0 + c1 + (c2 - 1)).toInt ∧ (c0 + c1 + (c2 - 1)).toInt < 6)) ∧ c0 + c1 + (c2 - 1) = 5 := by
  have z0 : (0 : Int32).toInt = 0 := rfl
  have z1 : (1 : Int32).toInt = 1 := rfl
  have z5 : (5 : Int32).toInt = 5 := rfl
  have z6 : (6 : Int32).toInt = 6 := rfl
  have s := own_addI c0 c1 (by omega)
  have d0 := own_subI c0 1 (by rw [z1]; omega)
  have d1 := own_subI c1 1 (by rw [z1]; omega)
  have d2 := own_subI c2 1 (by rw [z1]; omega)
  have e0 := own_subI c0 0 (by rw [z0]; omega)
  have e1 := own_subI (c0 + c1) c0 (by rw [s]; omega)
  have e2 := own_subI 6 (c0 + c1) (by rw [z6, s]; omega)
  have f := own_subI (c0 + c1) 1 (by rw [z1, s]; omega)
  rw [z1] at d0 d1 d2 f
  rw [z0] at e0
  rw [s] at e1 f
  rw [z6, s] at e2
  have g0 := own_gk 0 (c0 - 1) (c0 - 0) 0 c0.toInt z0 d0 (by rw [e0]; exact Int.sub_zero _) (by omega)
  have g1 := own_gk c0 (c1 - 1) (c0 + c1 - c0) c0.toInt c1.toInt rfl d1 (by rw [e1]; omega) (by omega)
  have g2 := own_gk (c0 + c1) (c2 - 1) (6 - (c0 + c1)) (c0.toInt + c1.toInt) c2.toInt s d2 (by rw [e2]; omega) (by omega)
  refine ⟨⟨by omega, by rw [s]; omega, by rw [s]; omega⟩, ⟨?_, ?_, ?_⟩, ⟨g0.1, g0.2.1, g0.2.2.1⟩, ⟨⟨by rw [d0]; omega, by rw [d0]; omega⟩, ?_⟩, ⟨g1.1, g1.2.1, g1.2.2.1⟩, ⟨⟨by rw [f]; omega, by rw [f]; omega⟩, ?_⟩, ⟨g2.1, g2.2.1, g2.2.2.1⟩, ?_⟩
  · rw [← Int32.toInt_inj, e0]; exact Int.sub_zero _
  · rw [← Int32.toInt_inj, e1]; generalize c0.toInt = A; generalize c1.toInt = B; omega
  · rw [← Int32.toInt_inj, e2, h2]; generalize c0.toInt = A; generalize c1.toInt = B; omega
  · rw [← Int32.toInt_inj, g0.2.2.2, d0]; generalize c0.toInt = A; omega
  · rw [← Int32.toInt_inj, g1.2.2.2, f]
  · rw [← Int32.toInt_inj, g2.2.2.2, h2, z5]; generalize c0.toInt = A; generalize c1.toInt = B; omega
theorem own_gc0 (u : Int32) : 1 ≤ (1 + (u &&& 3)).toInt ∧ (1 + (u &&& 3)).toInt ≤ 4 := by
  have g := c_and u 3 (by decide)
  rw [show (3 : Int32).toInt = 3 from rfl] at g
  generalize u &&& 3 = w at *
  have z1 : (1 : Int32).toInt = 1 := rfl
  have e := own_addI 1 w (by rw [z1]; omega)
  rw [e, z1]
  omega
theorem own_gd (c0 : Int32) (h : 1 ≤ c0.toInt ∧ c0.toInt ≤ 4) : (5 - c0).toInt = 5 - c0.toInt := by
  have z5 : (5 : Int32).toInt = 5 := rfl
  have e := own_subI 5 c0 (by rw [z5]; omega)
  rw [z5] at e; exact e
theorem own_gc1 (c0 d u : Int32) (h : 1 ≤ c0.toInt ∧ c0.toInt ≤ 4) (hd : d.toInt = 5 - c0.toInt) : ¬ d = 0 ∧ 1 ≤ (1 + ((u &&& 2147483647) % d)).toInt ∧ c0.toInt + (1 + ((u &&& 2147483647) % d)).toInt ≤ 5 := by
  have i1 := (c_and u 2147483647 (by decide)).1
  generalize u &&& 2147483647 = w at *
  have i2 := (c_iremV w d).1 i1 (by omega)
  generalize w % d = r at *
  have z1 : (1 : Int32).toInt = 1 := rfl
  have e := own_addI 1 r (by rw [z1]; omega)
  rw [e, z1]
  refine ⟨fun q => ?_, by omega, by omega⟩
  rw [q, show (0 : Int32).toInt = 0 from rfl] at hd
  omega
theorem own_gc2 (c0 c1 : Int32) (h : 1 ≤ c0.toInt ∧ 1 ≤ c1.toInt ∧ c0.toInt + c1.toInt ≤ 5) : (6 - c0 - c1).toInt = 6 - c0.toInt - c1.toInt := by
  have z6 : (6 : Int32).toInt = 6 := rfl
  have e := own_subI 6 c0 (by rw [z6]; omega)
  rw [z6] at e
  have f := own_subI (6 - c0) c1 (by rw [e]; omega)
  rw [f, e]
theorem own_key (y : Int64) : ¬ ((y &&& 255) % 3).toInt32 < 0 ∧ ((y &&& 255) % 3).toInt32 < 3 := by
  have := own_m3 y
  rw [Int32.lt_iff_toInt_lt, Int32.lt_iff_toInt_lt, own_z0, show (3 : Int32).toInt = 3 from rfl]
  omega
set_option maxRecDepth 65536 in
set_option maxHeartbeats 40000000 in
theorem own_law2 (l : Launch) (Z : State) (a0 : Array Value) (hw : ∀ d ∈ tables_1, d.before a0 Z = true) (x0 x1 : Int32) (x2 : Int64) (x4 x5 x6 c0 c1 c2 o0 o1 o2 p0 p1 p2 : Int32) (xs : List Int32) (p q s u : Addr) (h0 : Heap) (n0 : Nat) (hn0 : n0 ≤ h0.size) (hx : own_ok3 xs) (ho0 : o0 = 0 ∨ o0 = 1) (hp0 : ¬ p0 < 0) (ho1 : o1 = 0 ∨ o1 = 1) (hp1 : ¬ p1 < 0) (ho2 : o2 = 0 ∨ o2 = 1) (hp2 : ¬ p2 < 0) (h1 : 1 ≤ c0.toInt ∧ 1 ≤ c1.toInt ∧ c0.toInt + c1.toInt ≤ 5) (h2 : c2.toInt = 6 - c0.toInt - c1.toInt) (ge_s : n0 ≤ s) (ne_s_u : s ≠ u) (A_p : own_A Z h0 p .int [.int o0, .int o1, .int o2]) (A_q : own_A Z h0 q .int [.int p0, .int p1, .int p2]) (A_s : own_A Z h0 s .int [.int (0 : Int32), .int c0, .int (c0 + c1), .int (6 : Int32)]) (A_u : own_A Z h0 u .int (xs.map Value.int)) (E_p : Exa Z h0 p "[I") (E_q : Exa Z h0 q "[I") (E_s : Exa Z h0 s "[I") (E_u : Exa Z h0 u "[I") :
    own_W l Z x code maxLocals ret room_1 n0 (fun v h => v = some (.int 1)) h0 4 16 223 #[.val (.int x0), .val (.int x1), .val (.long x2), .second, .val (.int x4), .val (.int x5), .val (.int x6), .val (.int c0), .val (.int c1), .val (.int c2), .val (.ref p), .val (.ref q), .val (.ref s), .val (.ref u), .unset, .unset, .unset] [] := by
  obtain ⟨⟨G1, G2, G3⟩, ⟨Gq0, Gq1, Gq2⟩, ⟨Gk0, Gl0, Gb0⟩, ⟨Gm0, Ge0⟩, ⟨Gk1, Gl1, Gb1⟩, ⟨Gm1, Ge1⟩, ⟨Gk2, Gl2, Gb2⟩, Ge2⟩ := own_G c0 c1 c2 h1 h2
  refine own_new (pc' := 226) (hw _ (List.mem_of_getElem? (i := 5) rfl)) (hw _ (List.mem_of_getElem? (i := 6) rfl)) (hw _ (List.mem_of_getElem? (i := 7) rfl)) at_223 rfl (by decide) (by decide) (fun h51 o gt_o lt_o E52 E_o D_o => ?_)
  have ge_o : n0 ≤ o := Nat.le_trans hn0 gt_o
  have ne_p_o : p ≠ o := Nat.ne_of_lt (by first | exact Nat.lt_of_lt_of_le A_p.lt gt_o | (have q := Nat.lt_of_lt_of_le A_p.lt (Nat.le_refl _); omega))
  have ne_q_o : q ≠ o := Nat.ne_of_lt (by first | exact Nat.lt_of_lt_of_le A_q.lt gt_o | (have q := Nat.lt_of_lt_of_le A_q.lt (Nat.le_refl _); omega))
  have ne_s_o : s ≠ o := Nat.ne_of_lt (by first | exact Nat.lt_of_lt_of_le A_s.lt gt_o | (have q := Nat.lt_of_lt_of_le A_s.lt (Nat.le_refl _); omega))
  have ne_u_o : u ≠ o := Nat.ne_of_lt (by first | exact Nat.lt_of_lt_of_le A_u.lt gt_o | (have q := Nat.lt_of_lt_of_le A_u.lt (Nat.le_refl _); omega))
  replace A_p := A_p.ext E52
  replace A_q := A_q.ext E52
  replace A_s := A_s.ext E52
  replace A_u := A_u.ext E52
  replace E_p := E_p.ext E52
  replace E_q := E_q.ext E52
  replace E_s := E_s.ext E52
  replace E_u := E_u.ext E52
  replace hn0 : n0 ≤ h51.size := Nat.le_trans hn0 E52.1
  have F_o_owners : Fld Z h51 o "com/example/cycles_to_winners/cyclestowinners/model/Game" "owners" "[I" (.null) := D_o (Or.inr (hw _ (List.mem_of_getElem? (i := 36) rfl))) (ty := (.array .int)) (by decide)
  have F_o_priorities : Fld Z h51 o "com/example/cycles_to_winners/cyclestowinners/model/Game" "priorities" "[I" (.null) := D_o (Or.inr (hw _ (List.mem_of_getElem? (i := 39) rfl))) (ty := (.array .int)) (by decide)
  have F_o_successorStart : Fld Z h51 o "com/example/cycles_to_winners/cyclestowinners/model/Game" "successorStart" "[I" (.null) := D_o (Or.inr (hw _ (List.mem_of_getElem? (i := 42) rfl))) (ty := (.array .int)) (by decide)
  have F_o_successors : Fld Z h51 o "com/example/cycles_to_winners/cyclestowinners/model/Game" "successors" "[I" (.null) := D_o (Or.inr (hw _ (List.mem_of_getElem? (i := 45) rfl))) (ty := (.array .int)) (by decide)
  have F_o_maxPriority : Fld Z h51 o "com/example/cycles_to_winners/cyclestowinners/model/Game" "maxPriority" "I" (.int (0 : Int32)) := D_o (Or.inr (hw _ (List.mem_of_getElem? (i := 63) rfl))) (ty := .int) (by decide)
  refine own_dup (pc' := 227) at_226 rfl rfl ?_
  refine own_aload (pc' := 229) at_227 rfl rfl ?_
  refine own_aload (pc' := 231) at_229 rfl rfl ?_
  refine own_aload (pc' := 233) at_231 rfl rfl ?_
  refine own_aload (pc' := 235) at_233 rfl rfl ?_
  refine own_special (ret' := none) (own_mk l Z a0 hw o p q s u o0 o1 o2 p0 p1 p2 c0 (c0 + c1) xs h51 n0 hn0 hx ho0 hp0 ho1 hp1 ho2 hp2 G1 G2 G3 ge_o A_p A_q A_s A_u E_p ne_p_o E_q ne_q_o E_s ne_s_o E_u ne_u_o E_o F_o_owners F_o_priorities F_o_successorStart F_o_successors F_o_maxPriority) (hw _ (List.mem_of_getElem? (i := 8) rfl)) (hw _ (List.mem_of_getElem? (i := 9) rfl)) (hw _ (List.mem_of_getElem? (i := 7) rfl)) (hw _ (List.mem_of_getElem? (i := 10) rfl)) rfl (plainFor_of_name own_pn1) (by decide) own_pd1 rfl (argsL := [.ref p, .ref q, .ref s, .ref u]) (rest := [.ref o]) rfl rfl (W := 1) (Nat.le_refl _) (by decide) (by decide) (by decide) (by decide) rfl at_235 (pc' := 238) rfl (fun v_ h53 hq => ?_)
  obtain ⟨rfl, ow2, s2, u2, gg_w, gg_s, gg_u, K_1, E_1, F_0, F_1, F_2, A_w2, A_s2, A_u2⟩ := hq
  show own_W l Z x code maxLocals ret room_1 n0 (fun v h => v = some (.int 1)) h53 17 213 238 #[.val (.int x0), .val (.int x1), .val (.long x2), .second, .val (.int x4), .val (.int x5), .val (.int x6), .val (.int c0), .val (.int c1), .val (.int c2), .val (.ref p), .val (.ref q), .val (.ref s), .val (.ref u), .unset, .unset, .unset] [.ref o]
  have ne_s_s2 : s ≠ s2 := Nat.ne_of_lt (Nat.lt_of_lt_of_le A_s.lt gg_s)
  have ne_s_u2 : s ≠ u2 := Nat.ne_of_lt (Nat.lt_of_lt_of_le A_s.lt gg_u)
  have ne_s_o_ := ne_s_o
  clear F_o_owners
  clear F_o_priorities
  clear F_o_successorStart
  clear F_o_successors
  clear F_o_maxPriority
  replace A_p := A_p.keep K_1 (ninS ne_p_o nin0)
  replace A_q := A_q.keep K_1 (ninS ne_q_o nin0)
  replace A_s := A_s.keep K_1 (ninS ne_s_o nin0)
  replace A_u := A_u.keep K_1 (ninS ne_u_o nin0)
  replace E_p := E_p.keep K_1
  replace E_q := E_q.keep K_1
  replace E_s := E_s.keep K_1
  replace E_u := E_u.keep K_1
  replace E_o := E_1
  replace hn0 : n0 ≤ h53.size := Nat.le_trans hn0 K_1.1
  clear A_p A_q
  refine own_astore (pc' := 240) (Ls' := #[.val (.int x0), .val (.int x1), .val (.long x2), .second, .val (.int x4), .val (.int x5), .val (.int x6), .val (.int c0), .val (.int c1), .val (.int c2), .val (.ref p), .val (.ref q), .val (.ref s), .val (.ref u), .val (.ref o), .unset, .unset]) at_238 rfl rfl ?_
  refine own_aload (pc' := 242) at_240 rfl rfl ?_
  refine own_iconst (1 : Int32) (pc' := 243) at_242 rfl rfl ?_
  refine own_iconst (0 : Int32) (pc' := 244) at_243 rfl rfl ?_
  refine own_iastore (pc' := 245) A_s (by decide) (by first | decide | (simp only [List.length_cons, List.length_nil, List.length_set, List.length_replicate]; decide)) ge_s at_244 rfl (fun h54 K55 A_new => ?_)
  replace A_u := A_u.keep K55 (ninS (Ne.symm ne_s_u) nin0)
  replace E_p := E_p.keep K55
  replace E_q := E_q.keep K55
  replace E_s := E_s.keep K55
  replace E_u := E_u.keep K55
  replace E_o := E_o.keep K55
  replace A_s2 := A_s2.keep K55 (ninS (Ne.symm ne_s_s2) nin0)
  replace A_u2 := A_u2.keep K55 (ninS (Ne.symm ne_s_u2) nin0)
  replace F_1 := F_1.keep K55 (ninS (Ne.symm ne_s_o) nin0)
  replace F_2 := F_2.keep K55 (ninS (Ne.symm ne_s_o) nin0)
  replace hn0 : n0 ≤ h54.size := Nat.le_trans hn0 K55.1
  replace A_s : own_A Z h54 s .int [.int (0 : Int32), .int (0 : Int32), .int (c0 + c1), .int (6 : Int32)] := A_new.cast rfl
  refine own_aload (pc' := 247) at_245 rfl rfl ?_
  refine own_iconst (2 : Int32) (pc' := 248) at_247 rfl rfl ?_
  refine own_iconst (0 : Int32) (pc' := 249) at_248 rfl rfl ?_
  refine own_iastore (pc' := 250) A_s (by decide) (by first | decide | (simp only [List.length_cons, List.length_nil, List.length_set, List.length_replicate]; decide)) ge_s at_249 rfl (fun h56 K57 A_new => ?_)
  replace A_u := A_u.keep K57 (ninS (Ne.symm ne_s_u) nin0)
  replace E_p := E_p.keep K57
  replace E_q := E_q.keep K57
  replace E_s := E_s.keep K57
  replace E_u := E_u.keep K57
  replace E_o := E_o.keep K57
  replace A_s2 := A_s2.keep K57 (ninS (Ne.symm ne_s_s2) nin0)
  replace A_u2 := A_u2.keep K57 (ninS (Ne.symm ne_s_u2) nin0)
  replace F_1 := F_1.keep K57 (ninS (Ne.symm ne_s_o) nin0)
  replace F_2 := F_2.keep K57 (ninS (Ne.symm ne_s_o) nin0)
  replace hn0 : n0 ≤ h56.size := Nat.le_trans hn0 K57.1
  replace A_s : own_A Z h56 s .int [.int (0 : Int32), .int (0 : Int32), .int (0 : Int32), .int (6 : Int32)] := A_new.cast rfl
  refine own_aload (pc' := 252) at_250 rfl rfl ?_
  refine own_iconst (3 : Int32) (pc' := 253) at_252 rfl rfl ?_
  refine own_iconst (0 : Int32) (pc' := 254) at_253 rfl rfl ?_
  refine own_iastore (pc' := 255) A_s (by decide) (by first | decide | (simp only [List.length_cons, List.length_nil, List.length_set, List.length_replicate]; decide)) ge_s at_254 rfl (fun h58 K59 A_new => ?_)
  replace A_u := A_u.keep K59 (ninS (Ne.symm ne_s_u) nin0)
  replace E_p := E_p.keep K59
  replace E_q := E_q.keep K59
  replace E_s := E_s.keep K59
  replace E_u := E_u.keep K59
  replace E_o := E_o.keep K59
  replace A_s2 := A_s2.keep K59 (ninS (Ne.symm ne_s_s2) nin0)
  replace A_u2 := A_u2.keep K59 (ninS (Ne.symm ne_s_u2) nin0)
  replace F_1 := F_1.keep K59 (ninS (Ne.symm ne_s_o) nin0)
  replace F_2 := F_2.keep K59 (ninS (Ne.symm ne_s_o) nin0)
  replace hn0 : n0 ≤ h58.size := Nat.le_trans hn0 K59.1
  replace A_s : own_A Z h58 s .int [.int (0 : Int32), .int (0 : Int32), .int (0 : Int32), .int (0 : Int32)] := A_new.cast rfl
  refine own_aload (pc' := 257) at_255 rfl rfl ?_
  refine own_iconst (0 : Int32) (pc' := 258) at_257 rfl rfl ?_
  refine own_virtual (own_scW l Z a0 hw o s2 _ (0 : Int32) c0 (0 : Int32) h58 n0 hn0 (by decide) (by decide) rfl rfl F_1 A_s2) E_o (hw _ (List.mem_of_getElem? (i := 64) rfl)) (hw _ (List.mem_of_getElem? (i := 65) rfl)) (hw _ (List.mem_of_getElem? (i := 67) rfl)) (hw _ (List.mem_of_getElem? (i := 66) rfl)) (hw _ (List.mem_of_getElem? (i := 7) rfl)) (hw _ (List.mem_of_getElem? (i := 68) rfl)) (plainFor_of_name own_pn1) (by decide) own_pd7 rfl (argsL := [.int (0 : Int32)]) (rest := []) rfl rfl (W := 0) (Nat.le_refl _) (by decide) (by decide) (by decide) (by decide) rfl at_258 (pc' := 261) rfl (fun v_ h60 hq => ?_)
  obtain ⟨rfl, rfl⟩ := hq
  show own_W l Z x code maxLocals ret room_1 n0 (fun v h => v = some (.int 1)) h58 17 213 261 #[.val (.int x0), .val (.int x1), .val (.long x2), .second, .val (.int x4), .val (.int x5), .val (.int x6), .val (.int c0), .val (.int c1), .val (.int c2), .val (.ref p), .val (.ref q), .val (.ref s), .val (.ref u), .val (.ref o), .unset, .unset] [.int (c0 - (0 : Int32))]
  refine own_iload (pc' := 263) at_261 rfl rfl ?_
  refine own_ic_ne_f (pc' := 266) at_263 (by first | exact Gq0 | exact Gq0.symm) rfl ?_
  refine own_aload (pc' := 268) at_266 rfl rfl ?_
  refine own_iconst (1 : Int32) (pc' := 269) at_268 rfl rfl ?_
  refine own_virtual (own_scW l Z a0 hw o s2 _ (1 : Int32) (c0 + c1) c0 h58 n0 hn0 (by decide) (by decide) rfl rfl F_1 A_s2) E_o (hw _ (List.mem_of_getElem? (i := 64) rfl)) (hw _ (List.mem_of_getElem? (i := 65) rfl)) (hw _ (List.mem_of_getElem? (i := 67) rfl)) (hw _ (List.mem_of_getElem? (i := 66) rfl)) (hw _ (List.mem_of_getElem? (i := 7) rfl)) (hw _ (List.mem_of_getElem? (i := 68) rfl)) (plainFor_of_name own_pn1) (by decide) own_pd7 rfl (argsL := [.int (1 : Int32)]) (rest := []) rfl rfl (W := 0) (Nat.le_refl _) (by decide) (by decide) (by decide) (by decide) rfl at_269 (pc' := 272) rfl (fun v_ h61 hq => ?_)
  obtain ⟨rfl, rfl⟩ := hq
  show own_W l Z x code maxLocals ret room_1 n0 (fun v h => v = some (.int 1)) h58 17 213 272 #[.val (.int x0), .val (.int x1), .val (.long x2), .second, .val (.int x4), .val (.int x5), .val (.int x6), .val (.int c0), .val (.int c1), .val (.int c2), .val (.ref p), .val (.ref q), .val (.ref s), .val (.ref u), .val (.ref o), .unset, .unset] [.int ((c0 + c1) - c0)]
  refine own_iload (pc' := 274) at_272 rfl rfl ?_
  refine own_ic_ne_f (pc' := 277) at_274 (by first | exact Gq1 | exact Gq1.symm) rfl ?_
  refine own_aload (pc' := 279) at_277 rfl rfl ?_
  refine own_iconst (2 : Int32) (pc' := 280) at_279 rfl rfl ?_
  refine own_virtual (own_scW l Z a0 hw o s2 _ (2 : Int32) (6 : Int32) (c0 + c1) h58 n0 hn0 (by decide) (by decide) rfl rfl F_1 A_s2) E_o (hw _ (List.mem_of_getElem? (i := 64) rfl)) (hw _ (List.mem_of_getElem? (i := 65) rfl)) (hw _ (List.mem_of_getElem? (i := 67) rfl)) (hw _ (List.mem_of_getElem? (i := 66) rfl)) (hw _ (List.mem_of_getElem? (i := 7) rfl)) (hw _ (List.mem_of_getElem? (i := 68) rfl)) (plainFor_of_name own_pn1) (by decide) own_pd7 rfl (argsL := [.int (2 : Int32)]) (rest := []) rfl rfl (W := 0) (Nat.le_refl _) (by decide) (by decide) (by decide) (by decide) rfl at_280 (pc' := 283) rfl (fun v_ h62 hq => ?_)
  obtain ⟨rfl, rfl⟩ := hq
  show own_W l Z x code maxLocals ret room_1 n0 (fun v h => v = some (.int 1)) h58 17 213 283 #[.val (.int x0), .val (.int x1), .val (.long x2), .second, .val (.int x4), .val (.int x5), .val (.int x6), .val (.int c0), .val (.int c1), .val (.int c2), .val (.ref p), .val (.ref q), .val (.ref s), .val (.ref u), .val (.ref o), .unset, .unset] [.int ((6 : Int32) - (c0 + c1))]
  refine own_iload (pc' := 285) at_283 rfl rfl ?_
  refine own_ic_ne_f (pc' := 288) at_285 (by first | exact Gq2 | exact Gq2.symm) rfl ?_
  refine own_iconst (1 : Int32) (pc' := 289) at_288 rfl rfl ?_
  refine own_goto (pc' := 293) at_289 (by decide) (by decide) ?_
  refine own_istore (pc' := 295) (Ls' := #[.val (.int x0), .val (.int x1), .val (.long x2), .second, .val (.int x4), .val (.int x5), .val (.int x6), .val (.int c0), .val (.int c1), .val (.int c2), .val (.ref p), .val (.ref q), .val (.ref s), .val (.ref u), .val (.ref o), .val (.int (1 : Int32)), .unset]) at_293 rfl rfl ?_
  refine own_aload (pc' := 297) at_295 rfl rfl ?_
  refine own_iconst (0 : Int32) (pc' := 298) at_297 rfl rfl ?_
  refine own_iload (pc' := 300) at_298 rfl rfl ?_
  refine own_iconst (1 : Int32) (pc' := 301) at_300 rfl rfl ?_
  refine own_isub (pc' := 302) at_301 rfl ?_
  refine own_virtual (own_sucW l Z a0 hw o s2 u2 _ _ (0 : Int32) (c0 - (1 : Int32)) c0 (0 : Int32) (own_at xs ((0 : Int32) + (c0 - (1 : Int32)))) h58 n0 hn0 (by decide) (by decide) rfl rfl Gk0 Gl0 (own_nlt Gb0.1) (own_get6 xs _ hx.1 Gb0.1 Gb0.2) F_1 F_2 A_s2 A_u2) E_o (hw _ (List.mem_of_getElem? (i := 69) rfl)) (hw _ (List.mem_of_getElem? (i := 70) rfl)) (hw _ (List.mem_of_getElem? (i := 72) rfl)) (hw _ (List.mem_of_getElem? (i := 71) rfl)) (hw _ (List.mem_of_getElem? (i := 7) rfl)) (hw _ (List.mem_of_getElem? (i := 73) rfl)) (plainFor_of_name own_pn1) (by decide) own_pd6 rfl (argsL := [.int (0 : Int32), .int (c0 - (1 : Int32))]) (rest := []) rfl rfl (W := 0) (Nat.le_refl _) (by decide) (by decide) (by decide) (by decide) rfl at_302 (pc' := 305) rfl (fun v_ h63 hq => ?_)
  obtain ⟨rfl, rfl⟩ := hq
  show own_W l Z x code maxLocals ret room_1 n0 (fun v h => v = some (.int 1)) h58 17 213 305 #[.val (.int x0), .val (.int x1), .val (.long x2), .second, .val (.int x4), .val (.int x5), .val (.int x6), .val (.int c0), .val (.int c1), .val (.int c2), .val (.ref p), .val (.ref q), .val (.ref s), .val (.ref u), .val (.ref o), .val (.int (1 : Int32)), .unset] [.int (own_at xs ((0 : Int32) + (c0 - (1 : Int32))))]
  refine own_aload (pc' := 307) at_305 rfl rfl ?_
  refine own_iload (pc' := 309) at_307 rfl rfl ?_
  refine own_iconst (1 : Int32) (pc' := 310) at_309 rfl rfl ?_
  refine own_isub (pc' := 311) at_310 rfl ?_
  refine own_iaload (pc' := 312) (v := .int (own_at xs (c0 - (1 : Int32)))) A_u (own_nlt Gm0.1) (own_get6 xs _ hx.1 Gm0.1 Gm0.2) at_311 rfl ?_
  refine own_ic_ne_f (pc' := 315) at_312 (congrArg (own_at xs) (by first | exact Ge0 | exact Ge0.symm)) rfl ?_
  refine own_aload (pc' := 317) at_315 rfl rfl ?_
  refine own_iconst (1 : Int32) (pc' := 318) at_317 rfl rfl ?_
  refine own_iload (pc' := 320) at_318 rfl rfl ?_
  refine own_iconst (1 : Int32) (pc' := 321) at_320 rfl rfl ?_
  refine own_isub (pc' := 322) at_321 rfl ?_
  refine own_virtual (own_sucW l Z a0 hw o s2 u2 _ _ (1 : Int32) (c1 - (1 : Int32)) (c0 + c1) c0 (own_at xs (c0 + (c1 - (1 : Int32)))) h58 n0 hn0 (by decide) (by decide) rfl rfl Gk1 Gl1 (own_nlt Gb1.1) (own_get6 xs _ hx.1 Gb1.1 Gb1.2) F_1 F_2 A_s2 A_u2) E_o (hw _ (List.mem_of_getElem? (i := 69) rfl)) (hw _ (List.mem_of_getElem? (i := 70) rfl)) (hw _ (List.mem_of_getElem? (i := 72) rfl)) (hw _ (List.mem_of_getElem? (i := 71) rfl)) (hw _ (List.mem_of_getElem? (i := 7) rfl)) (hw _ (List.mem_of_getElem? (i := 73) rfl)) (plainFor_of_name own_pn1) (by decide) own_pd6 rfl (argsL := [.int (1 : Int32), .int (c1 - (1 : Int32))]) (rest := []) rfl rfl (W := 0) (Nat.le_refl _) (by decide) (by decide) (by decide) (by decide) rfl at_322 (pc' := 325) rfl (fun v_ h64 hq => ?_)
  obtain ⟨rfl, rfl⟩ := hq
  show own_W l Z x code maxLocals ret room_1 n0 (fun v h => v = some (.int 1)) h58 17 213 325 #[.val (.int x0), .val (.int x1), .val (.long x2), .second, .val (.int x4), .val (.int x5), .val (.int x6), .val (.int c0), .val (.int c1), .val (.int c2), .val (.ref p), .val (.ref q), .val (.ref s), .val (.ref u), .val (.ref o), .val (.int (1 : Int32)), .unset] [.int (own_at xs (c0 + (c1 - (1 : Int32))))]
  refine own_aload (pc' := 327) at_325 rfl rfl ?_
  refine own_iload (pc' := 329) at_327 rfl rfl ?_
  refine own_iload (pc' := 331) at_329 rfl rfl ?_
  refine own_iadd (pc' := 332) at_331 rfl ?_
  refine own_iconst (1 : Int32) (pc' := 333) at_332 rfl rfl ?_
  refine own_isub (pc' := 334) at_333 rfl ?_
  refine own_iaload (pc' := 335) (v := .int (own_at xs ((c0 + c1) - (1 : Int32)))) A_u (own_nlt Gm1.1) (own_get6 xs _ hx.1 Gm1.1 Gm1.2) at_334 rfl ?_
  refine own_ic_ne_f (pc' := 338) at_335 (congrArg (own_at xs) (by first | exact Ge1 | exact Ge1.symm)) rfl ?_
  refine own_aload (pc' := 340) at_338 rfl rfl ?_
  refine own_iconst (2 : Int32) (pc' := 341) at_340 rfl rfl ?_
  refine own_iload (pc' := 343) at_341 rfl rfl ?_
  refine own_iconst (1 : Int32) (pc' := 344) at_343 rfl rfl ?_
  refine own_isub (pc' := 345) at_344 rfl ?_
  refine own_virtual (own_sucW l Z a0 hw o s2 u2 _ _ (2 : Int32) (c2 - (1 : Int32)) (6 : Int32) (c0 + c1) (own_at xs ((c0 + c1) + (c2 - (1 : Int32)))) h58 n0 hn0 (by decide) (by decide) rfl rfl Gk2 Gl2 (own_nlt Gb2.1) (own_get6 xs _ hx.1 Gb2.1 Gb2.2) F_1 F_2 A_s2 A_u2) E_o (hw _ (List.mem_of_getElem? (i := 69) rfl)) (hw _ (List.mem_of_getElem? (i := 70) rfl)) (hw _ (List.mem_of_getElem? (i := 72) rfl)) (hw _ (List.mem_of_getElem? (i := 71) rfl)) (hw _ (List.mem_of_getElem? (i := 7) rfl)) (hw _ (List.mem_of_getElem? (i := 73) rfl)) (plainFor_of_name own_pn1) (by decide) own_pd6 rfl (argsL := [.int (2 : Int32), .int (c2 - (1 : Int32))]) (rest := []) rfl rfl (W := 0) (Nat.le_refl _) (by decide) (by decide) (by decide) (by decide) rfl at_345 (pc' := 348) rfl (fun v_ h65 hq => ?_)
  obtain ⟨rfl, rfl⟩ := hq
  show own_W l Z x code maxLocals ret room_1 n0 (fun v h => v = some (.int 1)) h58 17 213 348 #[.val (.int x0), .val (.int x1), .val (.long x2), .second, .val (.int x4), .val (.int x5), .val (.int x6), .val (.int c0), .val (.int c1), .val (.int c2), .val (.ref p), .val (.ref q), .val (.ref s), .val (.ref u), .val (.ref o), .val (.int (1 : Int32)), .unset] [.int (own_at xs ((c0 + c1) + (c2 - (1 : Int32))))]
  refine own_aload (pc' := 350) at_348 rfl rfl ?_
  refine own_iconst (5 : Int32) (pc' := 351) at_350 rfl rfl ?_
  refine own_iaload (pc' := 352) (v := .int (own_at xs (5 : Int32))) A_u (by decide) (own_get6 xs 5 hx.1 (by decide) (by decide)) at_351 rfl ?_
  refine own_ic_ne_f (pc' := 355) at_352 (congrArg (own_at xs) (by first | exact Ge2 | exact Ge2.symm)) rfl ?_
  refine own_iconst (1 : Int32) (pc' := 356) at_355 rfl rfl ?_
  refine own_goto (pc' := 360) at_356 (by decide) (by decide) ?_
  refine own_istore (pc' := 362) (Ls' := #[.val (.int x0), .val (.int x1), .val (.long x2), .second, .val (.int x4), .val (.int x5), .val (.int x6), .val (.int c0), .val (.int c1), .val (.int c2), .val (.ref p), .val (.ref q), .val (.ref s), .val (.ref u), .val (.ref o), .val (.int (1 : Int32)), .val (.int (1 : Int32))]) at_360 rfl rfl ?_
  refine own_iload (pc' := 364) at_362 rfl rfl ?_
  refine own_if_eq_f (pc' := 367) at_364 (by decide) rfl ?_
  refine own_iload (pc' := 369) at_367 rfl rfl ?_
  refine own_if_eq_f (pc' := 372) at_369 (by decide) rfl ?_
  refine own_iconst (1 : Int32) (pc' := 373) at_372 rfl rfl ?_
  refine own_goto (pc' := 377) at_373 (by decide) (by decide) ?_
  exact own_bret (v := (1 : Int32)) rfl (by first | rfl | decide | assumption) at_377 rfl
set_option maxRecDepth 65536 in
set_option maxHeartbeats 40000000 in
theorem own_law (l : Launch) (Z : State) (a0 : Array Value) (hw : ∀ d ∈ tables_1, d.before a0 Z = true) (x0 x1 : Int32) (x2 : Int64) (x4 x5 x6 : Int32) (h0 : Heap) (n0 : Nat) (hn0 : n0 ≤ h0.size) :
    own_W l Z x code maxLocals ret room_1 n0 (fun v h => v = some (.int 1)) h0 0 0 0 #[.val (.int x0), .val (.int x1), .val (.long x2), .second, .val (.int x4), .val (.int x5), .val (.int x6), .unset, .unset, .unset, .unset, .unset, .unset, .unset, .unset, .unset, .unset] [] := by
  refine own_iconst (1 : Int32) (pc' := 1) at_0 rfl rfl ?_
  refine own_iloadN (pc' := 2) at_1 rfl rfl ?_
  refine own_iconst (3 : Int32) (pc' := 3) at_2 rfl rfl ?_
  refine own_iand (pc' := 4) at_3 rfl ?_
  refine own_iadd (pc' := 5) at_4 rfl ?_
  have hc0 := own_gc0 x0
  generalize hc0_ : ((1 : Int32) + (x0 &&& (3 : Int32))) = c0
  rw [hc0_] at hc0
  have hgd := own_gd c0 hc0
  have hg1 := own_gc1 c0 (5 - c0) x1 hc0 hgd
  refine own_istore (pc' := 7) (Ls' := #[.val (.int x0), .val (.int x1), .val (.long x2), .second, .val (.int x4), .val (.int x5), .val (.int x6), .val (.int c0), .unset, .unset, .unset, .unset, .unset, .unset, .unset, .unset, .unset]) at_5 rfl rfl ?_
  refine own_iconst (1 : Int32) (pc' := 8) at_7 rfl rfl ?_
  refine own_iloadN (pc' := 9) at_8 rfl rfl ?_
  refine own_ldcI (pc' := 11) (u := (2147483647 : Int32)) (hw _ (List.mem_of_getElem? (i := 0) rfl)) at_9 rfl ?_
  refine own_iand (pc' := 12) at_11 rfl ?_
  refine own_iconst (5 : Int32) (pc' := 13) at_12 rfl rfl ?_
  refine own_iload (pc' := 15) at_13 rfl rfl ?_
  refine own_isub (pc' := 16) at_15 rfl ?_
  refine own_irem (pc' := 17) at_16 rfl hg1.1 ?_
  refine own_iadd (pc' := 18) at_17 rfl ?_
  generalize hc1_ : ((1 : Int32) + ((x1 &&& (2147483647 : Int32)) % ((5 : Int32) - c0))) = c1
  rw [hc1_] at hg1
  have hc1 := hg1.2
  clear hg1 hgd
  refine own_istore (pc' := 20) (Ls' := #[.val (.int x0), .val (.int x1), .val (.long x2), .second, .val (.int x4), .val (.int x5), .val (.int x6), .val (.int c0), .val (.int c1), .unset, .unset, .unset, .unset, .unset, .unset, .unset, .unset]) at_18 rfl rfl ?_
  refine own_bipush (6 : Int32) (pc' := 22) at_20 rfl rfl ?_
  refine own_iload (pc' := 24) at_22 rfl rfl ?_
  refine own_isub (pc' := 25) at_24 rfl ?_
  refine own_iload (pc' := 27) at_25 rfl rfl ?_
  refine own_isub (pc' := 28) at_27 rfl ?_
  have hc2 := own_gc2 c0 c1 ⟨hc0.1, hc1.1, hc1.2⟩
  generalize hc2_ : (((6 : Int32) - c0) - c1) = c2
  rw [hc2_] at hc2
  refine own_istore (pc' := 30) (Ls' := #[.val (.int x0), .val (.int x1), .val (.long x2), .second, .val (.int x4), .val (.int x5), .val (.int x6), .val (.int c0), .val (.int c1), .val (.int c2), .unset, .unset, .unset, .unset, .unset, .unset, .unset]) at_28 rfl rfl ?_
  refine own_iconst (3 : Int32) (pc' := 31) at_30 rfl rfl ?_
  refine own_newarrE (pc' := 33) (ty := .int) (cap := 3) (hw _ (List.mem_of_getElem? (i := 1) rfl)) rfl at_31 rfl (by decide) (by decide) (by decide) (by decide) (by decide) (fun h66 p gt_p lt_p E67 A_p E_p => ?_)
  replace E_p : Exa Z h66 p "[I" := (show ("[" ++ FieldType.toString .int) = "[I" from by decide) ▸ E_p
  have ge_p : n0 ≤ p := Nat.le_trans hn0 gt_p
  replace hn0 : n0 ≤ h66.size := Nat.le_trans hn0 E67.1
  replace A_p : own_A Z h66 p .int [.int (0 : Int32), .int (0 : Int32), .int (0 : Int32)] := A_p.cast rfl
  refine own_dup (pc' := 34) at_33 rfl rfl ?_
  refine own_iconst (0 : Int32) (pc' := 35) at_34 rfl rfl ?_
  refine own_iload (pc' := 37) at_35 rfl rfl ?_
  refine own_iconst (1 : Int32) (pc' := 38) at_37 rfl rfl ?_
  refine own_iand (pc' := 39) at_38 rfl ?_
  refine own_iastore (pc' := 40) A_p (by decide) (by first | decide | (simp only [List.length_cons, List.length_nil, List.length_set, List.length_replicate]; decide)) ge_p at_39 rfl (fun h68 K69 A_new => ?_)
  replace E_p := E_p.keep K69
  replace hn0 : n0 ≤ h68.size := Nat.le_trans hn0 K69.1
  replace A_p : own_A Z h68 p .int [.int (x6 &&& (1 : Int32)), .int (0 : Int32), .int (0 : Int32)] := A_new.cast rfl
  refine own_dup (pc' := 41) at_40 rfl rfl ?_
  refine own_iconst (1 : Int32) (pc' := 42) at_41 rfl rfl ?_
  refine own_iload (pc' := 44) at_42 rfl rfl ?_
  refine own_iconst (1 : Int32) (pc' := 45) at_44 rfl rfl ?_
  refine own_iushr (pc' := 46) at_45 rfl ?_
  refine own_iconst (1 : Int32) (pc' := 47) at_46 rfl rfl ?_
  refine own_iand (pc' := 48) at_47 rfl ?_
  refine own_iastore (pc' := 49) A_p (by decide) (by first | decide | (simp only [List.length_cons, List.length_nil, List.length_set, List.length_replicate]; decide)) ge_p at_48 rfl (fun h70 K71 A_new => ?_)
  replace E_p := E_p.keep K71
  replace hn0 : n0 ≤ h70.size := Nat.le_trans hn0 K71.1
  replace A_p : own_A Z h70 p .int [.int (x6 &&& (1 : Int32)), .int ((XT.ushr x6 (1 : Int32)) &&& (1 : Int32)), .int (0 : Int32)] := A_new.cast rfl
  refine own_dup (pc' := 50) at_49 rfl rfl ?_
  refine own_iconst (2 : Int32) (pc' := 51) at_50 rfl rfl ?_
  refine own_iload (pc' := 53) at_51 rfl rfl ?_
  refine own_iconst (2 : Int32) (pc' := 54) at_53 rfl rfl ?_
  refine own_iushr (pc' := 55) at_54 rfl ?_
  refine own_iconst (1 : Int32) (pc' := 56) at_55 rfl rfl ?_
  refine own_iand (pc' := 57) at_56 rfl ?_
  refine own_iastore (pc' := 58) A_p (by decide) (by first | decide | (simp only [List.length_cons, List.length_nil, List.length_set, List.length_replicate]; decide)) ge_p at_57 rfl (fun h72 K73 A_new => ?_)
  replace E_p := E_p.keep K73
  replace hn0 : n0 ≤ h72.size := Nat.le_trans hn0 K73.1
  replace A_p : own_A Z h72 p .int [.int (x6 &&& (1 : Int32)), .int ((XT.ushr x6 (1 : Int32)) &&& (1 : Int32)), .int ((XT.ushr x6 (2 : Int32)) &&& (1 : Int32))] := A_new.cast rfl
  refine own_astore (pc' := 60) (Ls' := #[.val (.int x0), .val (.int x1), .val (.long x2), .second, .val (.int x4), .val (.int x5), .val (.int x6), .val (.int c0), .val (.int c1), .val (.int c2), .val (.ref p), .unset, .unset, .unset, .unset, .unset, .unset]) at_58 rfl rfl ?_
  refine own_iconst (3 : Int32) (pc' := 61) at_60 rfl rfl ?_
  refine own_newarrE (pc' := 63) (ty := .int) (cap := 3) (hw _ (List.mem_of_getElem? (i := 1) rfl)) rfl at_61 rfl (by decide) (by decide) (by decide) (by decide) (by decide) (fun h74 q gt_q lt_q E75 A_q E_q => ?_)
  replace E_q : Exa Z h74 q "[I" := (show ("[" ++ FieldType.toString .int) = "[I" from by decide) ▸ E_q
  have ge_q : n0 ≤ q := Nat.le_trans hn0 gt_q
  have ne_p_q : p ≠ q := Nat.ne_of_lt (by first | exact Nat.lt_of_lt_of_le A_p.lt gt_q | (have q := Nat.lt_of_lt_of_le A_p.lt (Nat.le_refl _); omega))
  replace A_p := A_p.ext E75
  replace E_p := E_p.ext E75
  replace hn0 : n0 ≤ h74.size := Nat.le_trans hn0 E75.1
  replace A_q : own_A Z h74 q .int [.int (0 : Int32), .int (0 : Int32), .int (0 : Int32)] := A_q.cast rfl
  refine own_dup (pc' := 64) at_63 rfl rfl ?_
  refine own_iconst (0 : Int32) (pc' := 65) at_64 rfl rfl ?_
  refine own_iload (pc' := 67) at_65 rfl rfl ?_
  refine own_ldcI (pc' := 69) (u := (2147483647 : Int32)) (hw _ (List.mem_of_getElem? (i := 0) rfl)) at_67 rfl ?_
  refine own_iand (pc' := 70) at_69 rfl ?_
  refine own_iastore (pc' := 71) A_q (by decide) (by first | decide | (simp only [List.length_cons, List.length_nil, List.length_set, List.length_replicate]; decide)) ge_q at_70 rfl (fun h76 K77 A_new => ?_)
  replace A_p := A_p.keep K77 (ninS ne_p_q nin0)
  replace E_p := E_p.keep K77
  replace E_q := E_q.keep K77
  replace hn0 : n0 ≤ h76.size := Nat.le_trans hn0 K77.1
  replace A_q : own_A Z h76 q .int [.int (x4 &&& (2147483647 : Int32)), .int (0 : Int32), .int (0 : Int32)] := A_new.cast rfl
  refine own_dup (pc' := 72) at_71 rfl rfl ?_
  refine own_iconst (1 : Int32) (pc' := 73) at_72 rfl rfl ?_
  refine own_iload (pc' := 75) at_73 rfl rfl ?_
  refine own_ldcI (pc' := 77) (u := (2147483647 : Int32)) (hw _ (List.mem_of_getElem? (i := 0) rfl)) at_75 rfl ?_
  refine own_iand (pc' := 78) at_77 rfl ?_
  refine own_iastore (pc' := 79) A_q (by decide) (by first | decide | (simp only [List.length_cons, List.length_nil, List.length_set, List.length_replicate]; decide)) ge_q at_78 rfl (fun h78 K79 A_new => ?_)
  replace A_p := A_p.keep K79 (ninS ne_p_q nin0)
  replace E_p := E_p.keep K79
  replace E_q := E_q.keep K79
  replace hn0 : n0 ≤ h78.size := Nat.le_trans hn0 K79.1
  replace A_q : own_A Z h78 q .int [.int (x4 &&& (2147483647 : Int32)), .int (x5 &&& (2147483647 : Int32)), .int (0 : Int32)] := A_new.cast rfl
  refine own_dup (pc' := 80) at_79 rfl rfl ?_
  refine own_iconst (2 : Int32) (pc' := 81) at_80 rfl rfl ?_
  refine own_iload (pc' := 83) at_81 rfl rfl ?_
  refine own_iconst (3 : Int32) (pc' := 84) at_83 rfl rfl ?_
  refine own_iushr (pc' := 85) at_84 rfl ?_
  refine own_ldcI (pc' := 87) (u := (65535 : Int32)) (hw _ (List.mem_of_getElem? (i := 2) rfl)) at_85 rfl ?_
  refine own_iand (pc' := 88) at_87 rfl ?_
  refine own_iastore (pc' := 89) A_q (by decide) (by first | decide | (simp only [List.length_cons, List.length_nil, List.length_set, List.length_replicate]; decide)) ge_q at_88 rfl (fun h80 K81 A_new => ?_)
  replace A_p := A_p.keep K81 (ninS ne_p_q nin0)
  replace E_p := E_p.keep K81
  replace E_q := E_q.keep K81
  replace hn0 : n0 ≤ h80.size := Nat.le_trans hn0 K81.1
  replace A_q : own_A Z h80 q .int [.int (x4 &&& (2147483647 : Int32)), .int (x5 &&& (2147483647 : Int32)), .int ((XT.ushr x6 (3 : Int32)) &&& (65535 : Int32))] := A_new.cast rfl
  refine own_astore (pc' := 91) (Ls' := #[.val (.int x0), .val (.int x1), .val (.long x2), .second, .val (.int x4), .val (.int x5), .val (.int x6), .val (.int c0), .val (.int c1), .val (.int c2), .val (.ref p), .val (.ref q), .unset, .unset, .unset, .unset, .unset]) at_89 rfl rfl ?_
  refine own_iconst (4 : Int32) (pc' := 92) at_91 rfl rfl ?_
  refine own_newarrE (pc' := 94) (ty := .int) (cap := 4) (hw _ (List.mem_of_getElem? (i := 1) rfl)) rfl at_92 rfl (by decide) (by decide) (by decide) (by decide) (by decide) (fun h82 s gt_s lt_s E83 A_s E_s => ?_)
  replace E_s : Exa Z h82 s "[I" := (show ("[" ++ FieldType.toString .int) = "[I" from by decide) ▸ E_s
  have ge_s : n0 ≤ s := Nat.le_trans hn0 gt_s
  have ne_p_s : p ≠ s := Nat.ne_of_lt (by first | exact Nat.lt_of_lt_of_le A_p.lt gt_s | (have q := Nat.lt_of_lt_of_le A_p.lt (Nat.le_refl _); omega))
  have ne_q_s : q ≠ s := Nat.ne_of_lt (by first | exact Nat.lt_of_lt_of_le A_q.lt gt_s | (have q := Nat.lt_of_lt_of_le A_q.lt (Nat.le_refl _); omega))
  replace A_p := A_p.ext E83
  replace E_p := E_p.ext E83
  replace A_q := A_q.ext E83
  replace E_q := E_q.ext E83
  replace hn0 : n0 ≤ h82.size := Nat.le_trans hn0 E83.1
  replace A_s : own_A Z h82 s .int [.int (0 : Int32), .int (0 : Int32), .int (0 : Int32), .int (0 : Int32)] := A_s.cast rfl
  refine own_dup (pc' := 95) at_94 rfl rfl ?_
  refine own_iconst (0 : Int32) (pc' := 96) at_95 rfl rfl ?_
  refine own_iconst (0 : Int32) (pc' := 97) at_96 rfl rfl ?_
  refine own_iastore (pc' := 98) A_s (by decide) (by first | decide | (simp only [List.length_cons, List.length_nil, List.length_set, List.length_replicate]; decide)) ge_s at_97 rfl (fun h84 K85 A_new => ?_)
  replace A_p := A_p.keep K85 (ninS ne_p_s nin0)
  replace E_p := E_p.keep K85
  replace A_q := A_q.keep K85 (ninS ne_q_s nin0)
  replace E_q := E_q.keep K85
  replace E_s := E_s.keep K85
  replace hn0 : n0 ≤ h84.size := Nat.le_trans hn0 K85.1
  replace A_s : own_A Z h84 s .int [.int (0 : Int32), .int (0 : Int32), .int (0 : Int32), .int (0 : Int32)] := A_new.cast rfl
  refine own_dup (pc' := 99) at_98 rfl rfl ?_
  refine own_iconst (1 : Int32) (pc' := 100) at_99 rfl rfl ?_
  refine own_iload (pc' := 102) at_100 rfl rfl ?_
  refine own_iastore (pc' := 103) A_s (by decide) (by first | decide | (simp only [List.length_cons, List.length_nil, List.length_set, List.length_replicate]; decide)) ge_s at_102 rfl (fun h86 K87 A_new => ?_)
  replace A_p := A_p.keep K87 (ninS ne_p_s nin0)
  replace E_p := E_p.keep K87
  replace A_q := A_q.keep K87 (ninS ne_q_s nin0)
  replace E_q := E_q.keep K87
  replace E_s := E_s.keep K87
  replace hn0 : n0 ≤ h86.size := Nat.le_trans hn0 K87.1
  replace A_s : own_A Z h86 s .int [.int (0 : Int32), .int c0, .int (0 : Int32), .int (0 : Int32)] := A_new.cast rfl
  refine own_dup (pc' := 104) at_103 rfl rfl ?_
  refine own_iconst (2 : Int32) (pc' := 105) at_104 rfl rfl ?_
  refine own_iload (pc' := 107) at_105 rfl rfl ?_
  refine own_iload (pc' := 109) at_107 rfl rfl ?_
  refine own_iadd (pc' := 110) at_109 rfl ?_
  refine own_iastore (pc' := 111) A_s (by decide) (by first | decide | (simp only [List.length_cons, List.length_nil, List.length_set, List.length_replicate]; decide)) ge_s at_110 rfl (fun h88 K89 A_new => ?_)
  replace A_p := A_p.keep K89 (ninS ne_p_s nin0)
  replace E_p := E_p.keep K89
  replace A_q := A_q.keep K89 (ninS ne_q_s nin0)
  replace E_q := E_q.keep K89
  replace E_s := E_s.keep K89
  replace hn0 : n0 ≤ h88.size := Nat.le_trans hn0 K89.1
  replace A_s : own_A Z h88 s .int [.int (0 : Int32), .int c0, .int (c0 + c1), .int (0 : Int32)] := A_new.cast rfl
  refine own_dup (pc' := 112) at_111 rfl rfl ?_
  refine own_iconst (3 : Int32) (pc' := 113) at_112 rfl rfl ?_
  refine own_bipush (6 : Int32) (pc' := 115) at_113 rfl rfl ?_
  refine own_iastore (pc' := 116) A_s (by decide) (by first | decide | (simp only [List.length_cons, List.length_nil, List.length_set, List.length_replicate]; decide)) ge_s at_115 rfl (fun h90 K91 A_new => ?_)
  replace A_p := A_p.keep K91 (ninS ne_p_s nin0)
  replace E_p := E_p.keep K91
  replace A_q := A_q.keep K91 (ninS ne_q_s nin0)
  replace E_q := E_q.keep K91
  replace E_s := E_s.keep K91
  replace hn0 : n0 ≤ h90.size := Nat.le_trans hn0 K91.1
  replace A_s : own_A Z h90 s .int [.int (0 : Int32), .int c0, .int (c0 + c1), .int (6 : Int32)] := A_new.cast rfl
  refine own_astore (pc' := 118) (Ls' := #[.val (.int x0), .val (.int x1), .val (.long x2), .second, .val (.int x4), .val (.int x5), .val (.int x6), .val (.int c0), .val (.int c1), .val (.int c2), .val (.ref p), .val (.ref q), .val (.ref s), .unset, .unset, .unset, .unset]) at_116 rfl rfl ?_
  refine own_bipush (6 : Int32) (pc' := 120) at_118 rfl rfl ?_
  refine own_newarrE (pc' := 122) (ty := .int) (cap := 6) (hw _ (List.mem_of_getElem? (i := 1) rfl)) rfl at_120 rfl (by decide) (by decide) (by decide) (by decide) (by decide) (fun h92 u gt_u lt_u E93 A_u E_u => ?_)
  replace E_u : Exa Z h92 u "[I" := (show ("[" ++ FieldType.toString .int) = "[I" from by decide) ▸ E_u
  have ge_u : n0 ≤ u := Nat.le_trans hn0 gt_u
  have ne_p_u : p ≠ u := Nat.ne_of_lt (by first | exact Nat.lt_of_lt_of_le A_p.lt gt_u | (have q := Nat.lt_of_lt_of_le A_p.lt (Nat.le_refl _); omega))
  have ne_q_u : q ≠ u := Nat.ne_of_lt (by first | exact Nat.lt_of_lt_of_le A_q.lt gt_u | (have q := Nat.lt_of_lt_of_le A_q.lt (Nat.le_refl _); omega))
  have ne_s_u : s ≠ u := Nat.ne_of_lt (by first | exact Nat.lt_of_lt_of_le A_s.lt gt_u | (have q := Nat.lt_of_lt_of_le A_s.lt (Nat.le_refl _); omega))
  replace A_p := A_p.ext E93
  replace E_p := E_p.ext E93
  replace A_q := A_q.ext E93
  replace E_q := E_q.ext E93
  replace A_s := A_s.ext E93
  replace E_s := E_s.ext E93
  replace hn0 : n0 ≤ h92.size := Nat.le_trans hn0 E93.1
  replace A_u : own_A Z h92 u .int [.int (0 : Int32), .int (0 : Int32), .int (0 : Int32), .int (0 : Int32), .int (0 : Int32), .int (0 : Int32)] := A_u.cast rfl
  refine own_astore (pc' := 124) (Ls' := #[.val (.int x0), .val (.int x1), .val (.long x2), .second, .val (.int x4), .val (.int x5), .val (.int x6), .val (.int c0), .val (.int c1), .val (.int c2), .val (.ref p), .val (.ref q), .val (.ref s), .val (.ref u), .unset, .unset, .unset]) at_122 rfl rfl ?_
  refine own_aload (pc' := 126) at_124 rfl rfl ?_
  refine own_iconst (0 : Int32) (pc' := 127) at_126 rfl rfl ?_
  refine own_lloadN (pc' := 128) at_127 rfl rfl ?_
  refine own_ldc2 (pc' := 131) (u := (255 : Int64)) (hw _ (List.mem_of_getElem? (i := 3) rfl)) at_128 rfl ?_
  refine own_land (pc' := 132) at_131 rfl ?_
  refine own_ldc2 (pc' := 135) (u := (3 : Int64)) (hw _ (List.mem_of_getElem? (i := 4) rfl)) at_132 rfl ?_
  refine own_lrem (pc' := 136) at_135 rfl (by decide) ?_
  refine own_l2i (pc' := 137) at_136 rfl ?_
  refine own_iastore (pc' := 138) A_u (by decide) (by first | decide | (simp only [List.length_cons, List.length_nil, List.length_set, List.length_replicate]; decide)) ge_u at_137 rfl (fun h94 K95 A_new => ?_)
  replace A_p := A_p.keep K95 (ninS ne_p_u nin0)
  replace E_p := E_p.keep K95
  replace A_q := A_q.keep K95 (ninS ne_q_u nin0)
  replace E_q := E_q.keep K95
  replace A_s := A_s.keep K95 (ninS ne_s_u nin0)
  replace E_s := E_s.keep K95
  replace E_u := E_u.keep K95
  replace hn0 : n0 ≤ h94.size := Nat.le_trans hn0 K95.1
  replace A_u : own_A Z h94 u .int [.int (((x2 &&& (255 : Int64)) % (3 : Int64)).toInt32), .int (0 : Int32), .int (0 : Int32), .int (0 : Int32), .int (0 : Int32), .int (0 : Int32)] := A_new.cast rfl
  refine own_aload (pc' := 140) at_138 rfl rfl ?_
  refine own_iconst (1 : Int32) (pc' := 141) at_140 rfl rfl ?_
  refine own_lloadN (pc' := 142) at_141 rfl rfl ?_
  refine own_bipush (8 : Int32) (pc' := 144) at_142 rfl rfl ?_
  refine own_lushr (pc' := 145) at_144 rfl ?_
  refine own_ldc2 (pc' := 148) (u := (255 : Int64)) (hw _ (List.mem_of_getElem? (i := 3) rfl)) at_145 rfl ?_
  refine own_land (pc' := 149) at_148 rfl ?_
  refine own_ldc2 (pc' := 152) (u := (3 : Int64)) (hw _ (List.mem_of_getElem? (i := 4) rfl)) at_149 rfl ?_
  refine own_lrem (pc' := 153) at_152 rfl (by decide) ?_
  refine own_l2i (pc' := 154) at_153 rfl ?_
  refine own_iastore (pc' := 155) A_u (by decide) (by first | decide | (simp only [List.length_cons, List.length_nil, List.length_set, List.length_replicate]; decide)) ge_u at_154 rfl (fun h96 K97 A_new => ?_)
  replace A_p := A_p.keep K97 (ninS ne_p_u nin0)
  replace E_p := E_p.keep K97
  replace A_q := A_q.keep K97 (ninS ne_q_u nin0)
  replace E_q := E_q.keep K97
  replace A_s := A_s.keep K97 (ninS ne_s_u nin0)
  replace E_s := E_s.keep K97
  replace E_u := E_u.keep K97
  replace hn0 : n0 ≤ h96.size := Nat.le_trans hn0 K97.1
  replace A_u : own_A Z h96 u .int [.int (((x2 &&& (255 : Int64)) % (3 : Int64)).toInt32), .int ((((XT.ushrL x2 (8 : Int32)) &&& (255 : Int64)) % (3 : Int64)).toInt32), .int (0 : Int32), .int (0 : Int32), .int (0 : Int32), .int (0 : Int32)] := A_new.cast rfl
  refine own_aload (pc' := 157) at_155 rfl rfl ?_
  refine own_iconst (2 : Int32) (pc' := 158) at_157 rfl rfl ?_
  refine own_lloadN (pc' := 159) at_158 rfl rfl ?_
  refine own_bipush (16 : Int32) (pc' := 161) at_159 rfl rfl ?_
  refine own_lushr (pc' := 162) at_161 rfl ?_
  refine own_ldc2 (pc' := 165) (u := (255 : Int64)) (hw _ (List.mem_of_getElem? (i := 3) rfl)) at_162 rfl ?_
  refine own_land (pc' := 166) at_165 rfl ?_
  refine own_ldc2 (pc' := 169) (u := (3 : Int64)) (hw _ (List.mem_of_getElem? (i := 4) rfl)) at_166 rfl ?_
  refine own_lrem (pc' := 170) at_169 rfl (by decide) ?_
  refine own_l2i (pc' := 171) at_170 rfl ?_
  refine own_iastore (pc' := 172) A_u (by decide) (by first | decide | (simp only [List.length_cons, List.length_nil, List.length_set, List.length_replicate]; decide)) ge_u at_171 rfl (fun h98 K99 A_new => ?_)
  replace A_p := A_p.keep K99 (ninS ne_p_u nin0)
  replace E_p := E_p.keep K99
  replace A_q := A_q.keep K99 (ninS ne_q_u nin0)
  replace E_q := E_q.keep K99
  replace A_s := A_s.keep K99 (ninS ne_s_u nin0)
  replace E_s := E_s.keep K99
  replace E_u := E_u.keep K99
  replace hn0 : n0 ≤ h98.size := Nat.le_trans hn0 K99.1
  replace A_u : own_A Z h98 u .int [.int (((x2 &&& (255 : Int64)) % (3 : Int64)).toInt32), .int ((((XT.ushrL x2 (8 : Int32)) &&& (255 : Int64)) % (3 : Int64)).toInt32), .int ((((XT.ushrL x2 (16 : Int32)) &&& (255 : Int64)) % (3 : Int64)).toInt32), .int (0 : Int32), .int (0 : Int32), .int (0 : Int32)] := A_new.cast rfl
  refine own_aload (pc' := 174) at_172 rfl rfl ?_
  refine own_iconst (3 : Int32) (pc' := 175) at_174 rfl rfl ?_
  refine own_lloadN (pc' := 176) at_175 rfl rfl ?_
  refine own_bipush (24 : Int32) (pc' := 178) at_176 rfl rfl ?_
  refine own_lushr (pc' := 179) at_178 rfl ?_
  refine own_ldc2 (pc' := 182) (u := (255 : Int64)) (hw _ (List.mem_of_getElem? (i := 3) rfl)) at_179 rfl ?_
  refine own_land (pc' := 183) at_182 rfl ?_
  refine own_ldc2 (pc' := 186) (u := (3 : Int64)) (hw _ (List.mem_of_getElem? (i := 4) rfl)) at_183 rfl ?_
  refine own_lrem (pc' := 187) at_186 rfl (by decide) ?_
  refine own_l2i (pc' := 188) at_187 rfl ?_
  refine own_iastore (pc' := 189) A_u (by decide) (by first | decide | (simp only [List.length_cons, List.length_nil, List.length_set, List.length_replicate]; decide)) ge_u at_188 rfl (fun h100 K101 A_new => ?_)
  replace A_p := A_p.keep K101 (ninS ne_p_u nin0)
  replace E_p := E_p.keep K101
  replace A_q := A_q.keep K101 (ninS ne_q_u nin0)
  replace E_q := E_q.keep K101
  replace A_s := A_s.keep K101 (ninS ne_s_u nin0)
  replace E_s := E_s.keep K101
  replace E_u := E_u.keep K101
  replace hn0 : n0 ≤ h100.size := Nat.le_trans hn0 K101.1
  replace A_u : own_A Z h100 u .int [.int (((x2 &&& (255 : Int64)) % (3 : Int64)).toInt32), .int ((((XT.ushrL x2 (8 : Int32)) &&& (255 : Int64)) % (3 : Int64)).toInt32), .int ((((XT.ushrL x2 (16 : Int32)) &&& (255 : Int64)) % (3 : Int64)).toInt32), .int ((((XT.ushrL x2 (24 : Int32)) &&& (255 : Int64)) % (3 : Int64)).toInt32), .int (0 : Int32), .int (0 : Int32)] := A_new.cast rfl
  refine own_aload (pc' := 191) at_189 rfl rfl ?_
  refine own_iconst (4 : Int32) (pc' := 192) at_191 rfl rfl ?_
  refine own_lloadN (pc' := 193) at_192 rfl rfl ?_
  refine own_bipush (32 : Int32) (pc' := 195) at_193 rfl rfl ?_
  refine own_lushr (pc' := 196) at_195 rfl ?_
  refine own_ldc2 (pc' := 199) (u := (255 : Int64)) (hw _ (List.mem_of_getElem? (i := 3) rfl)) at_196 rfl ?_
  refine own_land (pc' := 200) at_199 rfl ?_
  refine own_ldc2 (pc' := 203) (u := (3 : Int64)) (hw _ (List.mem_of_getElem? (i := 4) rfl)) at_200 rfl ?_
  refine own_lrem (pc' := 204) at_203 rfl (by decide) ?_
  refine own_l2i (pc' := 205) at_204 rfl ?_
  refine own_iastore (pc' := 206) A_u (by decide) (by first | decide | (simp only [List.length_cons, List.length_nil, List.length_set, List.length_replicate]; decide)) ge_u at_205 rfl (fun h102 K103 A_new => ?_)
  replace A_p := A_p.keep K103 (ninS ne_p_u nin0)
  replace E_p := E_p.keep K103
  replace A_q := A_q.keep K103 (ninS ne_q_u nin0)
  replace E_q := E_q.keep K103
  replace A_s := A_s.keep K103 (ninS ne_s_u nin0)
  replace E_s := E_s.keep K103
  replace E_u := E_u.keep K103
  replace hn0 : n0 ≤ h102.size := Nat.le_trans hn0 K103.1
  replace A_u : own_A Z h102 u .int [.int (((x2 &&& (255 : Int64)) % (3 : Int64)).toInt32), .int ((((XT.ushrL x2 (8 : Int32)) &&& (255 : Int64)) % (3 : Int64)).toInt32), .int ((((XT.ushrL x2 (16 : Int32)) &&& (255 : Int64)) % (3 : Int64)).toInt32), .int ((((XT.ushrL x2 (24 : Int32)) &&& (255 : Int64)) % (3 : Int64)).toInt32), .int ((((XT.ushrL x2 (32 : Int32)) &&& (255 : Int64)) % (3 : Int64)).toInt32), .int (0 : Int32)] := A_new.cast rfl
  refine own_aload (pc' := 208) at_206 rfl rfl ?_
  refine own_iconst (5 : Int32) (pc' := 209) at_208 rfl rfl ?_
  refine own_lloadN (pc' := 210) at_209 rfl rfl ?_
  refine own_bipush (40 : Int32) (pc' := 212) at_210 rfl rfl ?_
  refine own_lushr (pc' := 213) at_212 rfl ?_
  refine own_ldc2 (pc' := 216) (u := (255 : Int64)) (hw _ (List.mem_of_getElem? (i := 3) rfl)) at_213 rfl ?_
  refine own_land (pc' := 217) at_216 rfl ?_
  refine own_ldc2 (pc' := 220) (u := (3 : Int64)) (hw _ (List.mem_of_getElem? (i := 4) rfl)) at_217 rfl ?_
  refine own_lrem (pc' := 221) at_220 rfl (by decide) ?_
  refine own_l2i (pc' := 222) at_221 rfl ?_
  refine own_iastore (pc' := 223) A_u (by decide) (by first | decide | (simp only [List.length_cons, List.length_nil, List.length_set, List.length_replicate]; decide)) ge_u at_222 rfl (fun h104 K105 A_new => ?_)
  replace A_p := A_p.keep K105 (ninS ne_p_u nin0)
  replace E_p := E_p.keep K105
  replace A_q := A_q.keep K105 (ninS ne_q_u nin0)
  replace E_q := E_q.keep K105
  replace A_s := A_s.keep K105 (ninS ne_s_u nin0)
  replace E_s := E_s.keep K105
  replace E_u := E_u.keep K105
  replace hn0 : n0 ≤ h104.size := Nat.le_trans hn0 K105.1
  replace A_u : own_A Z h104 u .int [.int (((x2 &&& (255 : Int64)) % (3 : Int64)).toInt32), .int ((((XT.ushrL x2 (8 : Int32)) &&& (255 : Int64)) % (3 : Int64)).toInt32), .int ((((XT.ushrL x2 (16 : Int32)) &&& (255 : Int64)) % (3 : Int64)).toInt32), .int ((((XT.ushrL x2 (24 : Int32)) &&& (255 : Int64)) % (3 : Int64)).toInt32), .int ((((XT.ushrL x2 (32 : Int32)) &&& (255 : Int64)) % (3 : Int64)).toInt32), .int ((((XT.ushrL x2 (40 : Int32)) &&& (255 : Int64)) % (3 : Int64)).toInt32)] := A_new.cast rfl
  have hx : own_ok3 [(((x2 &&& (255 : Int64)) % (3 : Int64)).toInt32), ((((XT.ushrL x2 (8 : Int32)) &&& (255 : Int64)) % (3 : Int64)).toInt32), ((((XT.ushrL x2 (16 : Int32)) &&& (255 : Int64)) % (3 : Int64)).toInt32), ((((XT.ushrL x2 (24 : Int32)) &&& (255 : Int64)) % (3 : Int64)).toInt32), ((((XT.ushrL x2 (32 : Int32)) &&& (255 : Int64)) % (3 : Int64)).toInt32), ((((XT.ushrL x2 (40 : Int32)) &&& (255 : Int64)) % (3 : Int64)).toInt32)] := by
    refine ⟨rfl, fun w hw_ => ?_⟩
    simp only [List.mem_cons, List.not_mem_nil, or_false] at hw_
    rcases hw_ with rfl | rfl | rfl | rfl | rfl | rfl <;> exact own_key _
  have kp : ∀ y : Int32, ¬ (y &&& 2147483647) < 0 := fun y => own_nlt (c_and y 2147483647 (by decide)).1
  have kq : ¬ ((XT.ushr x6 3) &&& 65535) < 0 := own_nlt (c_and _ 65535 (by decide)).1
  exact own_law2 l Z a0 hw x0 x1 x2 x4 x5 x6 c0 c1 c2 _ _ _ _ _ _ [(((x2 &&& (255 : Int64)) % (3 : Int64)).toInt32), ((((XT.ushrL x2 (8 : Int32)) &&& (255 : Int64)) % (3 : Int64)).toInt32), ((((XT.ushrL x2 (16 : Int32)) &&& (255 : Int64)) % (3 : Int64)).toInt32), ((((XT.ushrL x2 (24 : Int32)) &&& (255 : Int64)) % (3 : Int64)).toInt32), ((((XT.ushrL x2 (32 : Int32)) &&& (255 : Int64)) % (3 : Int64)).toInt32), ((((XT.ushrL x2 (40 : Int32)) &&& (255 : Int64)) % (3 : Int64)).toInt32)] p q s u h104 n0 hn0 hx (own_b1 _) (kp _) (own_b1 _) (kp _) (own_b1 _) kq ⟨hc0.1, hc1.1, hc1.2⟩ hc2 ge_s ne_s_u A_p A_q A_s A_u E_p E_q E_s E_u
set_option maxRecDepth 65536 in
set_option maxHeartbeats 40000000 in
theorem comes_1 {Post : Tables → Env → Array Value → State → Outcome → State → Prop} (hpost : ∀ tb e args s v u, (limb_1_1.after args s (.returned v) u = true ∧ limb_1_2.after args s (.returned v) u = true ∧ True) → ReturnedEndW s (.returned v) u (Jvm.fieldLocs frame_1_writes args s ++ Jvm.arrayLocs frame_1_arrays args s ++ Jvm.staticLocs frame_1_statics s) 40 4288 → Post tb e args s (.returned v) u) :
    ArmFor flags0 classFile x code maxLocals ret World_1 tables_1 room_1 Calls_1 rest_1 Pre_1 Post := by
  intro l hfl _ _ p e ha hc hk s m args below hf hA hF happ hP
  obtain ⟨hcalls, hrest, hpre⟩ := hP
  obtain ⟨-, -, -, hnamed, -, -, -, hat⟩ := (Spec.applies_iff hf).mp happ
  obtain ⟨hg, hn⟩ := and_e (Cond.before_iff.mp (show (Jvm.Cond.and given_1 narrow_1).before args s = true from hpre))
  obtain ⟨hcount, hg0⟩ := and_e hg
  obtain ⟨w0, w1, w2, w3, w4, w5, rfl⟩ : ∃ w0 w1 w2 w3 w4 w5 : Value, args = #[w0, w1, w2, w3, w4, w5] := by
    have hs : args.size = 6 := by simpa [Cond.value, given_1] using hcount
    obtain ⟨L⟩ := args
    match L, hs with
    | [w0, w1, w2, w3, w4, w5], _ => exact ⟨w0, w1, w2, w3, w4, w5, rfl⟩
  have hw := fun d (hd : d ∈ tables_1) => atoms_spec (ws := Jvm.Cond.code x code maxLocals ret :: tables_1) hat d (List.mem_cons_of_mem _ hd)
  obtain ⟨hg0v, hg1⟩ := and_e hg0
  obtain ⟨x0, e0⟩ := is_v hg0v
  obtain rfl : w0 = (.int x0) := Option.some.inj e0
  obtain ⟨hg1v, hg2⟩ := and_e hg1
  obtain ⟨x1, e1⟩ := is_v hg1v
  obtain rfl : w1 = (.int x1) := Option.some.inj e1
  obtain ⟨hg2v, hg3⟩ := and_e hg2
  obtain ⟨x2, e2⟩ := isL_v hg2v
  obtain rfl : w2 = (.long x2) := Option.some.inj e2
  obtain ⟨hg3v, hg4⟩ := and_e hg3
  obtain ⟨x4, e3⟩ := is_v hg3v
  obtain rfl : w3 = (.int x4) := Option.some.inj e3
  obtain ⟨hg4v, hg5⟩ := and_e hg4
  obtain ⟨x5, e4⟩ := is_v hg4v
  obtain rfl : w4 = (.int x5) := Option.some.inj e4
  obtain ⟨x6, e5⟩ := is_v hg5
  obtain rfl : w5 = (.int x6) := Option.some.inj e5
  obtain ⟨n, o, h1, h2, h3, _, L, rfl, ⟨hq1, N⟩, hq⟩ := own_met (argsL := [.int x0, .int x1, .long x2, .int x4, .int x5, .int x6]) (own_law l s _ hw x0 x1 x2 x4 x5 x6 s.heap s.heap.size (Nat.le_refl _)) (plainFor_of_name own_pn0) rfl tables_1 p e ha hc hk s m _ below hf ((Spec.applies_iff_loose hf).mp happ).1 ⟨rfl, State.Warmed39.refl s, rfl⟩ trivial
  subst hq1
  refine ⟨n, _, h1, h2, h3, hpost _ _ _ _ _ _ ⟨Cond.after_iff.mpr rfl, Cond.after_iff.mpr (eq_i res_at (Term.int_eval (1)) rfl), trivial⟩ ⟨hq.1, hq.2.1, hq.2.2.1, (hq.2.2.2.sift fun y hy => Or.inr (N y hy)).mono (by decide) (by decide)⟩⟩
theorem main_1_1 : Claimed_1_1 := comes_1 fun _ _ _ _ _ _ h hF => ⟨h.1, hF⟩
theorem main_1_2 : Claimed_1_2 := comes_1 fun _ _ _ _ _ _ h hF => ⟨h.2.1, hF⟩
end Jvm.Pilot.@@N@@
namespace Jvm.Pilot.@@N@@
open Jvm Jvm.ClassFile Sem Op Lib Jvm.Free Jvm.Stand Jvm.Pilot.@@N@@.Jvm.D
/-! MADE BY PROGRAM (witnessworld.py) out of the Statement's table words and the real class files: 17 classes; the members and pool entries that the words name. The judged class is class 1, her method 1. -/
namespace start1
open Jvm.ClassFile
def u (s : String) : CpInfo := .utf8 (stringToUtf16 s)
/-- a pool by its gaps: so many unusable entries, then the entry; so many at the end -/
def gap : Nat → List CpInfo → List CpInfo
  | 0, r => r
  | n + 1, r => .unusable :: gap n r
def poolList (es : List (Nat × CpInfo)) (last : Nat) : List CpInfo := es.foldr (fun e r => gap e.1 (e.2 :: r)) (gap last [])
def pool (es : List (Nat × CpInfo)) (last : Nat) : Array CpInfo := ⟨poolList es last⟩
def fileOf (pool : Array CpInfo) (this : Nat) (attrs : Array Attribute := #[]) (ms : Array MethodInfo := #[]) (fl : Nat := 33) (sup : Nat := 0) (ifs : Array Nat := #[]) (fds : Array FieldInfo := #[]) : ClassFile where
  minorVersion := 0
  majorVersion := 65
  constantPool := pool
  accessFlags := fl
  thisClass := this
  superClass := sup
  interfaces := ifs
  fields := fds
  methods := ms
  attributes := attrs
def plain (name : String) (sup : Option ClassId) : Class where
  name := name
  kind := .ordinary
  loader := none
  accessFlags := 33
  super := sup
  interfaces := #[]
  cf := none
  fields := #[]
  methods := #[]
  instanceTypes := #[]
  staticTypes := #[]
  resolved := #[]
  callSites := []
  init := .initialized
  statics := none
  mirror := none

def pool0 : Array CpInfo := pool [(5, u "<init>"), (0, u "()V"), (1, .class_ 10), (1, u "java/lang/Object"), (85, u "clone"), (0, u "()Ljava/lang/Object;")] 26

def k0c0 : Code := { maxStack := 0, maxLocals := 1, code := object_method_1_code, exceptionTable := #[], attributes := #[] }
def k0m0 : Method := { name := "<init>", desc := "()V", sig := { parameters := [], returnType := none }, accessFlags := 1, code := some k0c0 }
def k0m1 : Method := { name := "clone", desc := "()Ljava/lang/Object;", sig := { parameters := [], returnType := some (.object "java/lang/Object") }, accessFlags := 260, code := none }
/-- java/lang/Object -/
def k0 : Class := { plain "java/lang/Object" none with
  accessFlags := 33
  interfaces := #[]
  cf := some (fileOf pool0 8 #[] #[{ accessFlags := 1, nameIndex := 5, descriptorIndex := 6, attributes := #[] }, { accessFlags := 260, nameIndex := 96, descriptorIndex := 97, attributes := #[] }] 33 0 #[] #[])
  fields := #[]
  methods := #[k0m0, k0m1]
  instanceTypes := #[]
  staticTypes := #[]
  resolved := Array.replicate 124 none
  statics := none }

def pool1 : Array CpInfo := pool [(2, .class_ 4), (1, u "java/lang/Object"), (0, u "<init>"), (0, u "()V"), (0, .integer 2147483647), (0, .integer 65535), (0, .long 255), (1, .long 3), (1, .class_ 14), (0, u "com/example/cycles_to_winners/cyclestowinners/model/Game"), (0, .methodref 13 16), (0, .nameAndType 5 17), (0, u "([I[I[I[I)V"), (0, .methodref 13 19), (0, .nameAndType 20 21), (0, u "successorCount"), (0, u "(I)I"), (0, .methodref 13 23), (0, .nameAndType 24 25), (0, u "successor"), (0, u "(II)I"), (0, .class_ 27), (0, u "com/example/cycles_to_winners/cyclestowinners/model/GameSuccessorCountPinLaw"), (2, u "law"), (0, u "(IIJIII)Z")] 5

def k1m0 : Method := { name := "<init>", desc := "()V", sig := { parameters := [], returnType := none }, accessFlags := 1, code := none }
def k1c1 : Code := { maxStack := 6, maxLocals := 17, code := code, exceptionTable := #[], attributes := #[] }
def k1m1 : Method := { name := "law", desc := "(IIJIII)Z", sig := { parameters := [.int, .int, .long, .int, .int, .int], returnType := some .boolean }, accessFlags := 9, code := some k1c1 }
/-- com/example/cycles_to_winners/cyclestowinners/model/GameSuccessorCountPinLaw -/
def k1 : Class := { plain "com/example/cycles_to_winners/cyclestowinners/model/GameSuccessorCountPinLaw" (some 0) with
  accessFlags := 49
  interfaces := #[]
  cf := some (fileOf pool1 26 #[] #[{ accessFlags := 1, nameIndex := 5, descriptorIndex := 6, attributes := #[] }, { accessFlags := 9, nameIndex := 30, descriptorIndex := 31, attributes := #[] }] 49 2 #[] #[])
  fields := #[]
  methods := #[k1m0, k1m1]
  instanceTypes := #[]
  staticTypes := #[]
  resolved := Array.replicate 37 none
  statics := none }

def pool2 : Array CpInfo := pool [(3, .methodref 4 5), (0, .class_ 6), (0, .nameAndType 7 8), (0, u "java/lang/Object"), (0, u "<init>"), (0, u "()V"), (0, .string 10), (0, u "owners"), (0, .methodref 12 13), (0, .class_ 14), (0, .nameAndType 15 16), (0, u "java/util/Objects"), (0, u "requireNonNull"), (0, u "(Ljava/lang/Object;Ljava/lang/String;)Ljava/lang/Object;"), (0, .class_ 18), (0, u "[I"), (0, .methodref 17 20), (0, .nameAndType 21 22), (0, u "clone"), (0, u "()Ljava/lang/Object;"), (0, .fieldref 24 25), (0, .class_ 26), (0, .nameAndType 10 18), (0, u "com/example/cycles_to_winners/cyclestowinners/model/Game"), (0, .string 28), (0, u "priorities"), (0, .fieldref 24 30), (0, .nameAndType 28 18), (0, .string 32), (0, u "successorStart"), (0, .fieldref 24 34), (0, .nameAndType 32 18), (0, .string 36), (0, u "successors"), (0, .fieldref 24 38), (0, .nameAndType 36 18), (0, .methodref 24 40), (0, .nameAndType 41 42), (0, u "checkShape"), (0, u "([I[I[I[I)V"), (0, .methodref 24 44), (0, .nameAndType 45 42), (0, u "checkVertices"), (0, .methodref 24 47), (0, .nameAndType 48 49), (0, u "highest"), (0, u "([I)I"), (0, .fieldref 24 51), (0, .nameAndType 52 53), (0, u "maxPriority"), (0, u "I"), (18, .methodref 24 73), (0, .nameAndType 74 75), (0, u "checkVertex"), (0, u "(III[IIII)V"), (25, .methodref 102 103), (0, .class_ 104), (0, .nameAndType 105 106), (0, u "java/lang/Math"), (0, u "max"), (0, u "(II)I"), (0, .methodref 12 108), (0, .nameAndType 109 106), (0, u "checkIndex"), (13, u "MAX_EDGES"), (9, u "(I)I"), (1, u "successorCount"), (0, u "successor")] 3

def k2c0 : Code := { maxStack := 4, maxLocals := 5, code := prog_15_method_1_code, exceptionTable := #[], attributes := #[] }
def k2m0 : Method := { name := "<init>", desc := "([I[I[I[I)V", sig := { parameters := [(.array .int), (.array .int), (.array .int), (.array .int)], returnType := none }, accessFlags := 1, code := some k2c0 }
def k2c1 : Code := { maxStack := 6, maxLocals := 6, code := prog_15_method_2_code, exceptionTable := #[], attributes := #[] }
def k2m1 : Method := { name := "checkShape", desc := "([I[I[I[I)V", sig := { parameters := [(.array .int), (.array .int), (.array .int), (.array .int)], returnType := none }, accessFlags := 10, code := some k2c1 }
def k2c2 : Code := { maxStack := 8, maxLocals := 5, code := prog_15_method_3_code, exceptionTable := #[], attributes := #[] }
def k2m2 : Method := { name := "checkVertices", desc := "([I[I[I[I)V", sig := { parameters := [(.array .int), (.array .int), (.array .int), (.array .int)], returnType := none }, accessFlags := 10, code := some k2c2 }
def k2c3 : Code := { maxStack := 6, maxLocals := 9, code := prog_15_method_4_code, exceptionTable := #[], attributes := #[] }
def k2m3 : Method := { name := "checkVertex", desc := "(III[IIII)V", sig := { parameters := [.int, .int, .int, (.array .int), .int, .int, .int], returnType := none }, accessFlags := 8, code := some k2c3 }
def k2c4 : Code := { maxStack := 2, maxLocals := 6, code := prog_15_method_6_code, exceptionTable := #[], attributes := #[] }
def k2m4 : Method := { name := "highest", desc := "([I)I", sig := { parameters := [(.array .int)], returnType := some .int }, accessFlags := 10, code := some k2c4 }
def k2c5 : Code := { maxStack := 3, maxLocals := 2, code := prog_15_method_12_code, exceptionTable := #[], attributes := #[] }
def k2m5 : Method := { name := "successorCount", desc := "(I)I", sig := { parameters := [.int], returnType := some .int }, accessFlags := 1, code := some k2c5 }
def k2c6 : Code := { maxStack := 4, maxLocals := 4, code := prog_15_method_13_code, exceptionTable := #[], attributes := #[] }
def k2m6 : Method := { name := "successor", desc := "(II)I", sig := { parameters := [.int, .int], returnType := some .int }, accessFlags := 1, code := some k2c6 }
/-- com/example/cycles_to_winners/cyclestowinners/model/Game -/
def k2 : Class := { plain "com/example/cycles_to_winners/cyclestowinners/model/Game" (some 0) with
  accessFlags := 33
  interfaces := #[]
  cf := some (fileOf pool2 24 #[] #[{ accessFlags := 1, nameIndex := 7, descriptorIndex := 42, attributes := #[] }, { accessFlags := 10, nameIndex := 41, descriptorIndex := 42, attributes := #[] }, { accessFlags := 10, nameIndex := 45, descriptorIndex := 42, attributes := #[] }, { accessFlags := 8, nameIndex := 74, descriptorIndex := 75, attributes := #[] }, { accessFlags := 10, nameIndex := 48, descriptorIndex := 49, attributes := #[] }, { accessFlags := 1, nameIndex := 135, descriptorIndex := 133, attributes := #[] }, { accessFlags := 1, nameIndex := 136, descriptorIndex := 106, attributes := #[] }] 33 4 #[] #[{ accessFlags := 25, nameIndex := 123, descriptorIndex := 53, attributes := #[] }, { accessFlags := 18, nameIndex := 10, descriptorIndex := 18, attributes := #[] }, { accessFlags := 18, nameIndex := 28, descriptorIndex := 18, attributes := #[] }, { accessFlags := 18, nameIndex := 32, descriptorIndex := 18, attributes := #[] }, { accessFlags := 18, nameIndex := 36, descriptorIndex := 18, attributes := #[] }, { accessFlags := 18, nameIndex := 52, descriptorIndex := 53, attributes := #[] }])
  fields := #[{ name := "MAX_EDGES", type := .int, accessFlags := 25, slot := 0, constantValue := 0 }, { name := "owners", type := (.array .int), accessFlags := 18, slot := 0, constantValue := 0 }, { name := "priorities", type := (.array .int), accessFlags := 18, slot := 1, constantValue := 0 }, { name := "successorStart", type := (.array .int), accessFlags := 18, slot := 2, constantValue := 0 }, { name := "successors", type := (.array .int), accessFlags := 18, slot := 3, constantValue := 0 }, { name := "maxPriority", type := .int, accessFlags := 18, slot := 4, constantValue := 0 }]
  methods := #[k2m0, k2m1, k2m2, k2m3, k2m4, k2m5, k2m6]
  instanceTypes := #[(.array .int), (.array .int), (.array .int), (.array .int), .int]
  staticTypes := #[.int]
  resolved := Array.replicate 140 none
  statics := none }

def pool3 : Array CpInfo := pool [(1, .class_ 2), (0, u "java/io/Serializable"), (0, .class_ 4), (0, u "java/lang/Object")] 2

/-- java/io/Serializable -/
def k3 : Class := { plain "java/io/Serializable" (some 0) with
  accessFlags := 1537
  interfaces := #[]
  cf := some (fileOf pool3 1 #[] #[] 1537 3 #[] #[])
  fields := #[]
  methods := #[]
  instanceTypes := #[]
  staticTypes := #[]
  resolved := Array.replicate 7 none
  statics := none }

def pool4 : Array CpInfo := pool [(1, .class_ 2), (0, u "java/lang/Comparable"), (0, .class_ 4), (0, u "java/lang/Object")] 7

/-- java/lang/Comparable -/
def k4 : Class := { plain "java/lang/Comparable" (some 0) with
  accessFlags := 1537
  interfaces := #[]
  cf := some (fileOf pool4 1 #[] #[] 1537 3 #[] #[])
  fields := #[]
  methods := #[]
  instanceTypes := #[]
  staticTypes := #[]
  resolved := Array.replicate 12 none
  statics := none }

def pool5 : Array CpInfo := pool [(2, .class_ 4), (1, u "java/lang/CharSequence"), (42, .class_ 48), (0, u "java/lang/CharSequence$1CodePointIterator"), (10, .class_ 60), (0, u "java/lang/CharSequence$1CharIterator"), (5, .class_ 67), (0, u "java/lang/Object")] 63

/-- java/lang/CharSequence -/
def k5 : Class := { plain "java/lang/CharSequence" (some 0) with
  accessFlags := 1537
  interfaces := #[]
  cf := some (fileOf pool5 2 #[.nestMembers #[47, 59]] #[] 1537 66 #[] #[])
  fields := #[]
  methods := #[]
  instanceTypes := #[]
  staticTypes := #[]
  resolved := Array.replicate 131 none
  statics := none }

def pool6 : Array CpInfo := pool [(1, .class_ 2), (0, u "java/lang/constant/Constable"), (0, .class_ 4), (0, u "java/lang/Object")] 6

/-- java/lang/constant/Constable -/
def k6 : Class := { plain "java/lang/constant/Constable" (some 0) with
  accessFlags := 1537
  interfaces := #[]
  cf := some (fileOf pool6 1 #[] #[] 1537 3 #[] #[])
  fields := #[]
  methods := #[]
  instanceTypes := #[]
  staticTypes := #[]
  resolved := Array.replicate 11 none
  statics := none }

def pool7 : Array CpInfo := pool [(1, .class_ 2), (0, u "java/lang/constant/ConstantDesc"), (0, .class_ 4), (0, u "java/lang/Object")] 32

/-- java/lang/constant/ConstantDesc -/
def k7 : Class := { plain "java/lang/constant/ConstantDesc" (some 0) with
  accessFlags := 1537
  interfaces := #[]
  cf := some (fileOf pool7 1 #[] #[] 1537 3 #[] #[])
  fields := #[]
  methods := #[]
  instanceTypes := #[]
  staticTypes := #[]
  resolved := Array.replicate 37 none
  statics := none }

def pool8 : Array CpInfo := pool [(2, .class_ 4), (1, u "java/lang/Object"), (0, u "<init>"), (0, u "()V"), (3, .class_ 12), (1, u "java/lang/String"), (0, u "value"), (0, u "[B"), (2, u "coder"), (0, u "B"), (2, u "hash"), (0, u "I"), (2, u "hashIsZero"), (0, u "Z"), (13, u "COMPACT_STRINGS"), (534, .class_ 576), (0, u "java/lang/CharSequence"), (22, u "CASE_INSENSITIVE_ORDER"), (0, u "Ljava/util/Comparator;"), (500, u "serialPersistentFields"), (0, u "[Ljava/io/ObjectStreamField;"), (0, .class_ 1104), (0, u "java/lang/String$CaseInsensitiveComparator"), (1, .class_ 1107), (0, u "java/io/Serializable"), (0, .class_ 1109), (0, u "java/lang/Comparable"), (0, .class_ 1111), (0, u "java/lang/constant/Constable"), (0, .class_ 1113), (0, u "java/lang/constant/ConstantDesc"), (2, u "serialVersionUID"), (0, u "J"), (3, u "REPL"), (0, u "C"), (2, u "LATIN1"), (1, u "UTF16")] 323

def k8m0 : Method := { name := "<init>", desc := "()V", sig := { parameters := [], returnType := none }, accessFlags := 1, code := none }
/-- java/lang/String -/
def k8 : Class := { plain "java/lang/String" (some 0) with
  accessFlags := 49
  interfaces := #[3, 4, 5, 6, 7]
  cf := some (fileOf pool8 10 #[.nestMembers #[1103]] #[{ accessFlags := 1, nameIndex := 5, descriptorIndex := 6, attributes := #[] }] 49 2 #[1106, 1108, 575, 1110, 1112] #[{ accessFlags := 18, nameIndex := 13, descriptorIndex := 14, attributes := #[] }, { accessFlags := 18, nameIndex := 17, descriptorIndex := 18, attributes := #[] }, { accessFlags := 2, nameIndex := 21, descriptorIndex := 22, attributes := #[] }, { accessFlags := 2, nameIndex := 25, descriptorIndex := 26, attributes := #[] }, { accessFlags := 26, nameIndex := 1116, descriptorIndex := 1117, attributes := #[] }, { accessFlags := 24, nameIndex := 40, descriptorIndex := 26, attributes := #[] }, { accessFlags := 26, nameIndex := 1101, descriptorIndex := 1102, attributes := #[] }, { accessFlags := 26, nameIndex := 1121, descriptorIndex := 1122, attributes := #[] }, { accessFlags := 25, nameIndex := 599, descriptorIndex := 600, attributes := #[] }, { accessFlags := 24, nameIndex := 1125, descriptorIndex := 18, attributes := #[] }, { accessFlags := 24, nameIndex := 1127, descriptorIndex := 18, attributes := #[] }])
  fields := #[{ name := "value", type := (.array .byte), accessFlags := 18, slot := 0, constantValue := 0 }, { name := "coder", type := .byte, accessFlags := 18, slot := 1, constantValue := 0 }, { name := "hash", type := .int, accessFlags := 2, slot := 2, constantValue := 0 }, { name := "hashIsZero", type := .boolean, accessFlags := 2, slot := 3, constantValue := 0 }, { name := "serialVersionUID", type := .long, accessFlags := 26, slot := 0, constantValue := 0 }, { name := "COMPACT_STRINGS", type := .boolean, accessFlags := 24, slot := 1, constantValue := 0 }, { name := "serialPersistentFields", type := (.array (.object "java/io/ObjectStreamField")), accessFlags := 26, slot := 2, constantValue := 0 }, { name := "REPL", type := .char, accessFlags := 26, slot := 3, constantValue := 0 }, { name := "CASE_INSENSITIVE_ORDER", type := (.object "java/util/Comparator"), accessFlags := 25, slot := 4, constantValue := 0 }, { name := "LATIN1", type := .byte, accessFlags := 24, slot := 5, constantValue := 0 }, { name := "UTF16", type := .byte, accessFlags := 24, slot := 6, constantValue := 0 }]
  methods := #[k8m0]
  instanceTypes := #[(.array .byte), .byte, .int, .boolean]
  staticTypes := #[.long, .boolean, (.array (.object "java/io/ObjectStreamField")), .char, (.object "java/util/Comparator"), .byte, .byte]
  resolved := Array.replicate 1451 none
  statics := none }

def pool9 : Array CpInfo := pool [(2, .class_ 4), (1, u "java/lang/Object"), (0, u "<init>"), (0, u "()V"), (35, .class_ 44), (1, u "java/util/Objects"), (0, u "requireNonNull"), (48, u "(Ljava/lang/Object;Ljava/lang/String;)Ljava/lang/Object;"), (10, .methodref 106 107), (0, .class_ 108), (0, .nameAndType 109 110), (0, u "jdk/internal/util/Preconditions"), (0, u "checkIndex"), (0, u "(IILjava/util/function/BiFunction;)I"), (60, u "(II)I")] 12

def k9m0 : Method := { name := "<init>", desc := "()V", sig := { parameters := [], returnType := none }, accessFlags := 2, code := none }
def k9c1 : Code := { maxStack := 3, maxLocals := 2, code := jdk_31_method_11_code, exceptionTable := #[], attributes := #[] }
def k9m1 : Method := { name := "requireNonNull", desc := "(Ljava/lang/Object;Ljava/lang/String;)Ljava/lang/Object;", sig := { parameters := [(.object "java/lang/Object"), (.object "java/lang/String")], returnType := some (.object "java/lang/Object") }, accessFlags := 9, code := some k9c1 }
def k9c2 : Code := { maxStack := 3, maxLocals := 2, code := jdk_31_method_17_code, exceptionTable := #[], attributes := #[] }
def k9m2 : Method := { name := "checkIndex", desc := "(II)I", sig := { parameters := [.int, .int], returnType := some .int }, accessFlags := 9, code := some k9c2 }
/-- java/util/Objects -/
def k9 : Class := { plain "java/util/Objects" (some 0) with
  accessFlags := 49
  interfaces := #[]
  cf := some (fileOf pool9 42 #[] #[{ accessFlags := 2, nameIndex := 5, descriptorIndex := 6, attributes := #[] }, { accessFlags := 9, nameIndex := 45, descriptorIndex := 94, attributes := #[] }, { accessFlags := 9, nameIndex := 109, descriptorIndex := 171, attributes := #[] }] 49 2 #[] #[])
  fields := #[]
  methods := #[k9m0, k9m1, k9m2]
  instanceTypes := #[]
  staticTypes := #[]
  resolved := Array.replicate 184 none
  statics := none }

def pool10 : Array CpInfo := pool [(1, .class_ 2), (0, u "java/lang/Cloneable"), (0, .class_ 4), (0, u "java/lang/Object")] 2

/-- java/lang/Cloneable -/
def k10 : Class := { plain "java/lang/Cloneable" (some 0) with
  accessFlags := 1537
  interfaces := #[]
  cf := some (fileOf pool10 1 #[] #[] 1537 3 #[] #[])
  fields := #[]
  methods := #[]
  instanceTypes := #[]
  staticTypes := #[]
  resolved := Array.replicate 7 none
  statics := none }

def pool11 : Array CpInfo := pool [(1, .class_ 2), (0, u "java/lang/Math"), (1, .class_ 6), (1, u "java/lang/Object"), (0, u "<init>"), (0, u "()V"), (89, .class_ 100), (1, u "java/lang/Math$RandomNumberGeneratorHolder"), (71, u "negativeZeroFloatBits"), (0, u "J"), (2, u "negativeZeroDoubleBits"), (21, u "max"), (46, u "$assertionsDisabled"), (0, u "Z"), (88, u "(II)I"), (2, u "twoToTheDoubleScaleDown"), (0, u "D"), (4, u "twoToTheDoubleScaleUp"), (9, u "E"), (3, u "PI"), (2, u "TAU"), (2, u "DEGREES_TO_RADIANS"), (0, u "RADIANS_TO_DEGREES")] 94

def k11m0 : Method := { name := "<init>", desc := "()V", sig := { parameters := [], returnType := none }, accessFlags := 2, code := none }
def k11c1 : Code := { maxStack := 2, maxLocals := 2, code := jdk_29_method_65_code, exceptionTable := #[], attributes := #[] }
def k11m1 : Method := { name := "max", desc := "(II)I", sig := { parameters := [.int, .int], returnType := some .int }, accessFlags := 9, code := some k11c1 }
/-- java/lang/Math -/
def k11 : Class := { plain "java/lang/Math" (some 0) with
  accessFlags := 49
  interfaces := #[]
  cf := some (fileOf pool11 1 #[.nestMembers #[98]] #[{ accessFlags := 2, nameIndex := 7, descriptorIndex := 8, attributes := #[] }, { accessFlags := 9, nameIndex := 198, descriptorIndex := 335, attributes := #[] }] 49 4 #[] #[{ accessFlags := 25, nameIndex := 354, descriptorIndex := 339, attributes := #[] }, { accessFlags := 25, nameIndex := 358, descriptorIndex := 339, attributes := #[] }, { accessFlags := 25, nameIndex := 361, descriptorIndex := 339, attributes := #[] }, { accessFlags := 26, nameIndex := 364, descriptorIndex := 339, attributes := #[] }, { accessFlags := 26, nameIndex := 365, descriptorIndex := 339, attributes := #[] }, { accessFlags := 26, nameIndex := 172, descriptorIndex := 173, attributes := #[] }, { accessFlags := 26, nameIndex := 176, descriptorIndex := 173, attributes := #[] }, { accessFlags := 8, nameIndex := 344, descriptorIndex := 339, attributes := #[] }, { accessFlags := 8, nameIndex := 338, descriptorIndex := 339, attributes := #[] }, { accessFlags := 4120, nameIndex := 245, descriptorIndex := 246, attributes := #[] }])
  fields := #[{ name := "E", type := .double, accessFlags := 25, slot := 0, constantValue := 0 }, { name := "PI", type := .double, accessFlags := 25, slot := 1, constantValue := 0 }, { name := "TAU", type := .double, accessFlags := 25, slot := 2, constantValue := 0 }, { name := "DEGREES_TO_RADIANS", type := .double, accessFlags := 26, slot := 3, constantValue := 0 }, { name := "RADIANS_TO_DEGREES", type := .double, accessFlags := 26, slot := 4, constantValue := 0 }, { name := "negativeZeroFloatBits", type := .long, accessFlags := 26, slot := 5, constantValue := 0 }, { name := "negativeZeroDoubleBits", type := .long, accessFlags := 26, slot := 6, constantValue := 0 }, { name := "twoToTheDoubleScaleUp", type := .double, accessFlags := 8, slot := 7, constantValue := 0 }, { name := "twoToTheDoubleScaleDown", type := .double, accessFlags := 8, slot := 8, constantValue := 0 }, { name := "$assertionsDisabled", type := .boolean, accessFlags := 4120, slot := 9, constantValue := 0 }]
  methods := #[k11m0, k11m1]
  instanceTypes := #[]
  staticTypes := #[.double, .double, .double, .double, .double, .long, .long, .double, .double, .boolean]
  resolved := Array.replicate 460 none
  statics := none }

def pool12 : Array CpInfo := pool [(2, .class_ 4), (1, u "java/lang/Object"), (0, u "<init>"), (0, u "()V"), (17, .class_ 26), (1, u "jdk/internal/util/Preconditions"), (6, u "checkIndex"), (21, .class_ 56), (0, u "jdk/internal/util/Preconditions$4"), (57, .class_ 115), (0, u "jdk/internal/util/Preconditions$1"), (7, u "SIOOBE_FORMATTER"), (0, u "Ljava/util/function/BiFunction;"), (0, .class_ 126), (0, u "jdk/internal/util/Preconditions$2"), (3, u "AIOOBE_FORMATTER"), (0, .class_ 132), (0, u "jdk/internal/util/Preconditions$3"), (3, u "IOOBE_FORMATTER"), (41, u "(IILjava/util/function/BiFunction;)I")] 15

def k12m0 : Method := { name := "<init>", desc := "()V", sig := { parameters := [], returnType := none }, accessFlags := 1, code := none }
def k12c1 : Code := { maxStack := 3, maxLocals := 3, code := jdk_41_method_11_code, exceptionTable := #[], attributes := #[] }
def k12m1 : Method := { name := "checkIndex", desc := "(IILjava/util/function/BiFunction;)I", sig := { parameters := [.int, .int, (.object "java/util/function/BiFunction")], returnType := some .int }, accessFlags := 9, code := some k12c1 }
/-- jdk/internal/util/Preconditions -/
def k12 : Class := { plain "jdk/internal/util/Preconditions" (some 0) with
  accessFlags := 33
  interfaces := #[]
  cf := some (fileOf pool12 24 #[.nestMembers #[55, 131, 125, 114]] #[{ accessFlags := 1, nameIndex := 5, descriptorIndex := 6, attributes := #[] }, { accessFlags := 9, nameIndex := 33, descriptorIndex := 178, attributes := #[] }] 33 2 #[] #[{ accessFlags := 25, nameIndex := 123, descriptorIndex := 124, attributes := #[] }, { accessFlags := 25, nameIndex := 130, descriptorIndex := 124, attributes := #[] }, { accessFlags := 25, nameIndex := 136, descriptorIndex := 124, attributes := #[] }])
  fields := #[{ name := "SIOOBE_FORMATTER", type := (.object "java/util/function/BiFunction"), accessFlags := 25, slot := 0, constantValue := 0 }, { name := "AIOOBE_FORMATTER", type := (.object "java/util/function/BiFunction"), accessFlags := 25, slot := 1, constantValue := 0 }, { name := "IOOBE_FORMATTER", type := (.object "java/util/function/BiFunction"), accessFlags := 25, slot := 2, constantValue := 0 }]
  methods := #[k12m0, k12m1]
  instanceTypes := #[]
  staticTypes := #[(.object "java/util/function/BiFunction"), (.object "java/util/function/BiFunction"), (.object "java/util/function/BiFunction")]
  resolved := Array.replicate 194 none
  statics := none }

/-- the primitive byte -/
def k13 : Class := { plain "byte" none with kind := .primitive 'B', accessFlags := 0x411 }
/-- [B -/
def k14 : Class := { plain "[B" (some 0) with kind := .array 13 .byte, interfaces := #[10, 3], accessFlags := 1041 }

/-- the primitive int -/
def k15 : Class := { plain "int" none with kind := .primitive 'I', accessFlags := 0x411 }
/-- [I -/
def k16 : Class := { plain "[I" (some 0) with kind := .array 15 .int, interfaces := #[10, 3], accessFlags := 1041 }

def heap : Heap := #[]
def classes : Array Class := #[k0, k1, k2, k3, k4, k5, k6, k7, k8, k9, k10, k11, k12, k13, k14, k15, k16]
def interned : List (Array UInt16 × Addr) := []
def slotsUsed : Nat := 0
def theMethod : MethodId := ⟨1, 1⟩
def args0 : Array Value := #[.int 5, .int 7, .long 9, .int 3, .int 4, .int 1]
def aboutOver (below : List Frame) : State where
  vm := { classes := classes, interned := interned.toArray }
  heap := heap
  slotsUsed := slotsUsed
  threads := #[{ frames := .invoking theMethod args0 :: below }]
def below0 : List Frame := [.native { method := ⟨0, 0⟩, args := #[] }]
def about1 : State := aboutOver below0
def p0 : Program := .bare "" "" ""
def e0 : Env := launch0.env 0 0 0
theorem w_frames : about1.frames = Frame.invoking theMethod args0 :: below0 := rfl
set_option maxRecDepth 65536 in
theorem w_args : argsFit about1.vm theMethod args0 = true := by decide +kernel
set_option maxRecDepth 65536 in
theorem w_heap : heapFits about1 = true := by decide +kernel
set_option maxRecDepth 65536 in
theorem w_runnable : about1.curStatus? = some .runnable := by decide +kernel
set_option maxRecDepth 65536 in
theorem w_alone : about1.alone = true := by decide +kernel
set_option maxRecDepth 65536 in
theorem w_named : about1.methodNamed? x = some theMethod := by decide +kernel
set_option maxRecDepth 65536 in
theorem w_hears : about1.hears theMethod below0 = true := by decide +kernel
set_option maxRecDepth 65536 in
theorem w_ripe : about1.ripe theMethod args0 below0 = true := by decide +kernel
theorem w_running : about1.status = .running := rfl
set_option maxRecDepth 65536 in
theorem w_room : about1.hasRoom e0.platform room_1 = true :=
  launch0.hasRoom_least _ room_1 (by decide +kernel) (by decide +kernel) (by decide +kernel) (by decide +kernel) (by decide +kernel) (by decide +kernel)
theorem allAtoms_all (ts : List Jvm.Cond) (a : Array Jvm.Value) (st : Jvm.State) : (allAtoms ts).before a st = ts.all (fun c => c.before a st) := by
  induction ts with
  | nil => rfl
  | cons c t ih =>
    show (Jvm.Cond.and c (allAtoms t)).before a st = _
    rw [Jvm.Cond.before_and, ih, List.all_cons]
def words1 : List Jvm.Cond := Jvm.Cond.code x code maxLocals ret :: tables_1
/-- a 'code' word, met by the world's own term for the bytes: nothing is compared byte by byte -/
theorem code_word {y : MethodName} {bytes : ByteArray} {mx : Nat} {rt : Option FieldType} {a : Array Value} {s : State} {m : MethodId} {meth : Method} {c : Code} (h1 : s.methodNamed? y = some m) (h2 : s.vm.method? m = some meth) (h3 : meth.code = some c) (h4 : c.code = bytes)
    (h5 : (c.maxLocals == mx && c.exceptionTable.isEmpty && decide (c.maxStack ≤ mostOperands) && decide (meth.sig.returnType = rt) && !meth.locks && decide (parseMethodDescriptor y.desc = some meth.sig)) = true) : (Jvm.Cond.code y bytes mx rt).before a s = true := by
  simp only [Bool.and_eq_true, beq_iff_eq, Bool.not_eq_true', decide_eq_true_eq] at h5
  obtain ⟨⟨⟨⟨⟨g1, g2⟩, g3⟩, g4⟩, g5⟩, g6⟩ := h5
  simp [Cond.before, Cond.holds, Cond.value, h1, h2, h3, h4, g1, g2, g3, g4, g5, g6]
def isCode : Jvm.Cond → Bool
  | .code _ _ _ _ => true
  | _ => false
theorem all_split {L : List Jvm.Cond} {P : Jvm.Cond → Bool} (h1 : L.all (fun c => isCode c || P c) = true) (h2 : ∀ c ∈ L.filter isCode, P c = true) : L.all P = true := by
  refine List.all_eq_true.mpr fun c hc => ?_
  have h := List.all_eq_true.mp h1 c hc
  rcases Bool.eq_false_or_eq_true (isCode c) with hi | hi
  · exact h2 c (List.mem_filter.mpr ⟨hc, hi⟩)
  · simpa [hi] using h
set_option maxRecDepth 65536 in
theorem w_c0 : (Jvm.Cond.code x code maxLocals ret).before args0 about1 = true := code_word (m := ⟨1, 1⟩) (meth := k1m1) (c := k1c1) (by decide +kernel) rfl rfl rfl (by decide +kernel)
set_option maxRecDepth 65536 in
theorem w_c1 : (Jvm.Cond.code ({ cls := "com/example/cycles_to_winners/cyclestowinners/model/Game", name := "<init>", desc := "([I[I[I[I)V" } : Jvm.MethodName) prog_15_method_1_code (5 : Nat) (Option.none : Option Jvm.ClassFile.FieldType)).before args0 about1 = true := code_word (m := ⟨2, 0⟩) (meth := k2m0) (c := k2c0) (by decide +kernel) rfl rfl rfl (by decide +kernel)
set_option maxRecDepth 65536 in
theorem w_c2 : (Jvm.Cond.code ({ cls := "java/lang/Object", name := "<init>", desc := "()V" } : Jvm.MethodName) object_method_1_code (1 : Nat) (Option.none : Option Jvm.ClassFile.FieldType)).before args0 about1 = true := code_word (m := ⟨0, 0⟩) (meth := k0m0) (c := k0c0) (by decide +kernel) rfl rfl rfl (by decide +kernel)
set_option maxRecDepth 65536 in
theorem w_c3 : (Jvm.Cond.code ({ cls := "java/util/Objects", name := "requireNonNull", desc := "(Ljava/lang/Object;Ljava/lang/String;)Ljava/lang/Object;" } : Jvm.MethodName) jdk_31_method_11_code (2 : Nat) (Option.some (Jvm.ClassFile.FieldType.object "java/lang/Object"))).before args0 about1 = true := code_word (m := ⟨9, 1⟩) (meth := k9m1) (c := k9c1) (by decide +kernel) rfl rfl rfl (by decide +kernel)
set_option maxRecDepth 65536 in
theorem w_c4 : (Jvm.Cond.code ({ cls := "com/example/cycles_to_winners/cyclestowinners/model/Game", name := "checkShape", desc := "([I[I[I[I)V" } : Jvm.MethodName) prog_15_method_2_code (6 : Nat) (Option.none : Option Jvm.ClassFile.FieldType)).before args0 about1 = true := code_word (m := ⟨2, 1⟩) (meth := k2m1) (c := k2c1) (by decide +kernel) rfl rfl rfl (by decide +kernel)
set_option maxRecDepth 65536 in
theorem w_c5 : (Jvm.Cond.code ({ cls := "com/example/cycles_to_winners/cyclestowinners/model/Game", name := "checkVertices", desc := "([I[I[I[I)V" } : Jvm.MethodName) prog_15_method_3_code (5 : Nat) (Option.none : Option Jvm.ClassFile.FieldType)).before args0 about1 = true := code_word (m := ⟨2, 2⟩) (meth := k2m2) (c := k2c2) (by decide +kernel) rfl rfl rfl (by decide +kernel)
set_option maxRecDepth 65536 in
theorem w_c6 : (Jvm.Cond.code ({ cls := "com/example/cycles_to_winners/cyclestowinners/model/Game", name := "checkVertex", desc := "(III[IIII)V" } : Jvm.MethodName) prog_15_method_4_code (9 : Nat) (Option.none : Option Jvm.ClassFile.FieldType)).before args0 about1 = true := code_word (m := ⟨2, 3⟩) (meth := k2m3) (c := k2c3) (by decide +kernel) rfl rfl rfl (by decide +kernel)
set_option maxRecDepth 65536 in
theorem w_c7 : (Jvm.Cond.code ({ cls := "com/example/cycles_to_winners/cyclestowinners/model/Game", name := "highest", desc := "([I)I" } : Jvm.MethodName) prog_15_method_6_code (6 : Nat) (Option.some Jvm.ClassFile.FieldType.int)).before args0 about1 = true := code_word (m := ⟨2, 4⟩) (meth := k2m4) (c := k2c4) (by decide +kernel) rfl rfl rfl (by decide +kernel)
set_option maxRecDepth 65536 in
theorem w_c8 : (Jvm.Cond.code ({ cls := "java/lang/Math", name := "max", desc := "(II)I" } : Jvm.MethodName) jdk_29_method_65_code (2 : Nat) (Option.some Jvm.ClassFile.FieldType.int)).before args0 about1 = true := code_word (m := ⟨11, 1⟩) (meth := k11m1) (c := k11c1) (by decide +kernel) rfl rfl rfl (by decide +kernel)
set_option maxRecDepth 65536 in
theorem w_c9 : (Jvm.Cond.code ({ cls := "com/example/cycles_to_winners/cyclestowinners/model/Game", name := "successorCount", desc := "(I)I" } : Jvm.MethodName) prog_15_method_12_code (2 : Nat) (Option.some Jvm.ClassFile.FieldType.int)).before args0 about1 = true := code_word (m := ⟨2, 5⟩) (meth := k2m5) (c := k2c5) (by decide +kernel) rfl rfl rfl (by decide +kernel)
set_option maxRecDepth 65536 in
theorem w_c10 : (Jvm.Cond.code ({ cls := "com/example/cycles_to_winners/cyclestowinners/model/Game", name := "successor", desc := "(II)I" } : Jvm.MethodName) prog_15_method_13_code (4 : Nat) (Option.some Jvm.ClassFile.FieldType.int)).before args0 about1 = true := code_word (m := ⟨2, 6⟩) (meth := k2m6) (c := k2c6) (by decide +kernel) rfl rfl rfl (by decide +kernel)
set_option maxRecDepth 65536 in
theorem w_c11 : (Jvm.Cond.code ({ cls := "java/util/Objects", name := "checkIndex", desc := "(II)I" } : Jvm.MethodName) jdk_31_method_17_code (2 : Nat) (Option.some Jvm.ClassFile.FieldType.int)).before args0 about1 = true := code_word (m := ⟨9, 2⟩) (meth := k9m2) (c := k9c2) (by decide +kernel) rfl rfl rfl (by decide +kernel)
set_option maxRecDepth 65536 in
theorem w_c12 : (Jvm.Cond.code ({ cls := "jdk/internal/util/Preconditions", name := "checkIndex", desc := "(IILjava/util/function/BiFunction;)I" } : Jvm.MethodName) jdk_41_method_11_code (3 : Nat) (Option.some Jvm.ClassFile.FieldType.int)).before args0 about1 = true := code_word (m := ⟨12, 1⟩) (meth := k12m1) (c := k12c1) (by decide +kernel) rfl rfl rfl (by decide +kernel)
def codes1 : List Jvm.Cond := [Jvm.Cond.code x code maxLocals ret, Jvm.Cond.code ({ cls := "com/example/cycles_to_winners/cyclestowinners/model/Game", name := "<init>", desc := "([I[I[I[I)V" } : Jvm.MethodName) prog_15_method_1_code (5 : Nat) (Option.none : Option Jvm.ClassFile.FieldType), Jvm.Cond.code ({ cls := "java/lang/Object", name := "<init>", desc := "()V" } : Jvm.MethodName) object_method_1_code (1 : Nat) (Option.none : Option Jvm.ClassFile.FieldType), Jvm.Cond.code ({ cls := "java/util/Objects", name := "requireNonNull", desc := "(Ljava/lang/Object;Ljava/lang/String;)Ljava/lang/Object;" } : Jvm.MethodName) jdk_31_method_11_code (2 : Nat) (Option.some (Jvm.ClassFile.FieldType.object "java/lang/Object")), Jvm.Cond.code ({ cls := "com/example/cycles_to_winners/cyclestowinners/model/Game", name := "checkShape", desc := "([I[I[I[I)V" } : Jvm.MethodName) prog_15_method_2_code (6 : Nat) (Option.none : Option Jvm.ClassFile.FieldType), Jvm.Cond.code ({ cls := "com/example/cycles_to_winners/cyclestowinners/model/Game", name := "checkVertices", desc := "([I[I[I[I)V" } : Jvm.MethodName) prog_15_method_3_code (5 : Nat) (Option.none : Option Jvm.ClassFile.FieldType), Jvm.Cond.code ({ cls := "com/example/cycles_to_winners/cyclestowinners/model/Game", name := "checkVertex", desc := "(III[IIII)V" } : Jvm.MethodName) prog_15_method_4_code (9 : Nat) (Option.none : Option Jvm.ClassFile.FieldType), Jvm.Cond.code ({ cls := "com/example/cycles_to_winners/cyclestowinners/model/Game", name := "highest", desc := "([I)I" } : Jvm.MethodName) prog_15_method_6_code (6 : Nat) (Option.some Jvm.ClassFile.FieldType.int), Jvm.Cond.code ({ cls := "java/lang/Math", name := "max", desc := "(II)I" } : Jvm.MethodName) jdk_29_method_65_code (2 : Nat) (Option.some Jvm.ClassFile.FieldType.int), Jvm.Cond.code ({ cls := "com/example/cycles_to_winners/cyclestowinners/model/Game", name := "successorCount", desc := "(I)I" } : Jvm.MethodName) prog_15_method_12_code (2 : Nat) (Option.some Jvm.ClassFile.FieldType.int), Jvm.Cond.code ({ cls := "com/example/cycles_to_winners/cyclestowinners/model/Game", name := "successor", desc := "(II)I" } : Jvm.MethodName) prog_15_method_13_code (4 : Nat) (Option.some Jvm.ClassFile.FieldType.int), Jvm.Cond.code ({ cls := "java/util/Objects", name := "checkIndex", desc := "(II)I" } : Jvm.MethodName) jdk_31_method_17_code (2 : Nat) (Option.some Jvm.ClassFile.FieldType.int), Jvm.Cond.code ({ cls := "jdk/internal/util/Preconditions", name := "checkIndex", desc := "(IILjava/util/function/BiFunction;)I" } : Jvm.MethodName) jdk_41_method_11_code (3 : Nat) (Option.some Jvm.ClassFile.FieldType.int)]
set_option maxRecDepth 65536 in
theorem codes_eq : words1.filter isCode = codes1 := rfl
theorem w_codes : ∀ c ∈ words1.filter isCode, c.before args0 about1 = true := by
  rw [codes_eq]
  intro c hc
  simp only [codes1, List.mem_cons, List.not_mem_nil, or_false] at hc
  rcases hc with rfl | rfl | rfl | rfl | rfl | rfl | rfl | rfl | rfl | rfl | rfl | rfl | rfl
  · exact w_c0
  · exact w_c1
  · exact w_c2
  · exact w_c3
  · exact w_c4
  · exact w_c5
  · exact w_c6
  · exact w_c7
  · exact w_c8
  · exact w_c9
  · exact w_c10
  · exact w_c11
  · exact w_c12
set_option maxRecDepth 65536 in
theorem w_t1 : (words1.take 24).all (fun c => isCode c || c.before args0 about1) = true := by decide +kernel
set_option maxRecDepth 65536 in
theorem w_t2 : ((words1.drop 24).take 24).all (fun c => isCode c || c.before args0 about1) = true := by decide +kernel
set_option maxRecDepth 65536 in
theorem w_t3 : (((words1.drop 24).drop 24).take 24).all (fun c => isCode c || c.before args0 about1) = true := by decide +kernel
set_option maxRecDepth 65536 in
theorem w_t4 : (((words1.drop 24).drop 24).drop 24).all (fun c => isCode c || c.before args0 about1) = true := by decide +kernel
theorem w_tables : (allAtoms (Jvm.Cond.code x code maxLocals ret :: tables_1)).before args0 about1 = true := by
  rw [allAtoms_all]
  show words1.all (fun c => c.before args0 about1) = true
  refine all_split ?_ w_codes
  rw [← List.take_append_drop 24 words1, List.all_append, w_t1, ← List.take_append_drop 24 (words1.drop 24), List.all_append, w_t2, ← List.take_append_drop 24 ((words1.drop 24).drop 24), List.all_append, w_t3, w_t4]
  rfl
set_option maxRecDepth 65536 in
theorem w_case : (Jvm.Cond.and given_1 narrow_1).before args0 about1 = true := by decide +kernel
theorem w_applies : (headSpec (Jvm.Cond.code x code maxLocals ret :: tables_1) room_1).applies x e0.platform about1 = true :=
  (Spec.applies_iff w_frames).mpr ⟨w_running, w_runnable, w_alone, w_named, w_hears, w_ripe, w_room, w_tables⟩
theorem atStart : AtStart classFile x code maxLocals ret World_1 tables_1 room_1 Calls_1 rest_1 Pre_1 launch0 p0 e0 about1 theMethod args0 below0 :=
  ⟨lists_1, trivial, launch0.admits_env _ _ _, launch0.least_env, fairChoices_fair.cas, fairChoices_fair.clock, w_frames, w_args, w_heap, w_applies, trivial, trivial, w_case⟩
end start1
theorem witness_1 : WitnessClaimed_1 := ⟨start1.p0, start1.e0, start1.about1, start1.theMethod, start1.args0, start1.below0, start1.atStart⟩
end Jvm.Pilot.@@N@@

import JvmDerived
import JvmDerived.Pilot.@@N@@Statement
import JvmDerived.Pilot.@@N@@Code
set_option linter.unusedVariables false
set_option linter.unusedSimpArgs false
namespace Jvm.Pilot.@@N@@
open Jvm Jvm.ClassFile Sem Op Lib Jvm.Free Jvm.Stand Jvm.LawKit Jvm.RoadKit Bundle Jvm.Pilot.@@N@@.Jvm.D
-- LAYER BEGIN
section OwnW
variable {l : Launch} {Z : State} {y : MethodName} {bytes : ByteArray} {ml : Nat} {ret : Option FieldType} {R : Room} {n0 : Nat} {Q : Option Value → Heap → Prop} {h : Heap} {cells slots pc pc' : Nat} {Ls Ls' : Array Slot} {st st' : List Value} {a0 : Array Value}
/-- from this point of the body (heap h, so many cells and slots made, at pc with these locals and this stack) every run returns; Q holds of the value and the heap; all that was written lies at or above n0 -/
def own_W (l : Launch) (Z : State) (y : MethodName) (bytes : ByteArray) (ml : Nat) (ret : Option FieldType) (R : Room) (n0 : Nat) (Q : Option Value → Heap → Prop) (h : Heap) (cells slots pc : Nat) (Ls : Array Slot) (st : List Value) : Prop :=
  ∀ (p : Program) (e : Env) (s : State) (vm0 : Vm) (k0 : Nat) (m : MethodId) (args : Array Value) (below : List Frame) (meth : Method) (c : Code) (T : State) (locs : List Loc),
    p.tables.exec = Jvm.exec → Z.Warmed39 (s.setVm vm0).vm → (s.setVm vm0).vm.findClass y.cls = some m.cls → c.code = bytes → c.maxLocals = ml → meth.sig.returnType = ret → meth.locks = false → meth.name = y.name → cells ≤ R.cells → slots ≤ R.slots →
    Stand p l e R (s.setVm vm0) m args below meth c T locs cells slots → T.heap = h → Fr n0 locs → s.Since vm0 k0 → k0 ≤ h.size →
    ∃ s₂ o, Steps p.tables e below (T.setTop (mkF m pc Ls st)) s₂ ∧ s₂.status = .running ∧ Ended s₂ below o ∧ ∃ v L, o = .returned v ∧ (Q v s₂.heap ∧ Fr n0 L) ∧ ReturnedEndW s o s₂ L R.cells R.slots
theorem own_pure (hs : ∀ (p : Program) (e : Env) (below : List Frame) (T target : State) (m : MethodId) (c : Code), At T m c below → p.tables.exec = Jvm.exec → c.code = bytes → Steps p.tables e below (T.setTop (mkF m pc' Ls' st')) target → Steps p.tables e below (T.setTop (mkF m pc Ls st)) target)
    (k : own_W l Z y bytes ml ret R n0 Q h cells slots pc' Ls' st') : own_W l Z y bytes ml ret R n0 Q h cells slots pc Ls st := by
  intro p e s vm0 k0 m args below meth c T locs hx hZ hown hby hml hret hlk hnm hce hsl X eT N hS hk
  obtain ⟨s₂, o, h1, h2⟩ := k p e s vm0 k0 m args below meth c T locs hx hZ hown hby hml hret hlk hnm hce hsl X eT N hS hk
  exact ⟨s₂, o, hs p e below T s₂ m c X.here hx hby h1, h2⟩
theorem own_more {cells' slots' : Nat} (hc : cells ≤ cells') (hs : slots ≤ slots') (hc' : cells' ≤ R.cells) (hs' : slots' ≤ R.slots) (k : own_W l Z y bytes ml ret R n0 Q h cells' slots' pc Ls st) : own_W l Z y bytes ml ret R n0 Q h cells slots pc Ls st := by
  intro p e s vm0 k0 m args below meth c T locs hx hZ hown hby hml hret hlk hnm hce hsl X eT N hS hk
  exact k p e s vm0 k0 m args below meth c T locs hx hZ hown hby hml hret hlk hnm hc' hs' (X.more hc hs) eT N hS hk
theorem own_weak {Q' : Option Value → Heap → Prop} (hq : ∀ v h, Q' v h → Q v h) (k : own_W l Z y bytes ml ret R n0 Q' h cells slots pc Ls st) : own_W l Z y bytes ml ret R n0 Q h cells slots pc Ls st := by
  intro p e s vm0 k0 m args below meth c T locs hx hZ hown hby hml hret hlk hnm hce hsl X eT N hS hk
  obtain ⟨s₂, o, h1, h2, h3, v, L, h4, ⟨h5, h6⟩, h7⟩ := k p e s vm0 k0 m args below meth c T locs hx hZ hown hby hml hret hlk hnm hce hsl X eT N hS hk
  exact ⟨s₂, o, h1, h2, h3, v, L, h4, ⟨hq _ _ h5, h6⟩, h7⟩
theorem own_iloadN {i : Fin 4} {u : Int32} (hd : decode bytes pc = .ok (.iload_n i, 1)) (hp : pc + 1 = pc') (hl : Ls[i.val]? = some (.val (.int u))) (k : own_W l Z y bytes ml ret R n0 Q h cells slots pc' Ls (.int u :: st)) : own_W l Z y bytes ml ret R n0 Q h cells slots pc Ls (st) :=
  own_pure (fun p e below T t m c hA hx hb hr => by subst hp; exact XS.iloadN hA hx rfl (hb ▸ hd) hl hr) k
theorem own_iload {i : Nat} {u : Int32} (hd : decode bytes pc = .ok (.iload i, 2)) (hp : pc + 2 = pc') (hl : Ls[i]? = some (.val (.int u))) (k : own_W l Z y bytes ml ret R n0 Q h cells slots pc' Ls (.int u :: st)) : own_W l Z y bytes ml ret R n0 Q h cells slots pc Ls (st) :=
  own_pure (fun p e below T t m c hA hx hb hr => by subst hp; exact XS.iload hA hx rfl (hb ▸ hd) hl hr) k
theorem own_lloadN {i : Fin 4} {u : Int64} (hd : decode bytes pc = .ok (.lload_n i, 1)) (hp : pc + 1 = pc') (hl : Ls[i.val]? = some (.val (.long u))) (k : own_W l Z y bytes ml ret R n0 Q h cells slots pc' Ls (.long u :: st)) : own_W l Z y bytes ml ret R n0 Q h cells slots pc Ls (st) :=
  own_pure (fun p e below T t m c hA hx hb hr => by subst hp; exact XT.lloadN hA hx rfl (hb ▸ hd) hl hr) k
theorem own_lload {i : Nat} {u : Int64} (hd : decode bytes pc = .ok (.lload i, 2)) (hp : pc + 2 = pc') (hl : Ls[i]? = some (.val (.long u))) (k : own_W l Z y bytes ml ret R n0 Q h cells slots pc' Ls (.long u :: st)) : own_W l Z y bytes ml ret R n0 Q h cells slots pc Ls (st) :=
  own_pure (fun p e below T t m c hA hx hb hr => by subst hp; exact XT.lload hA hx rfl (hb ▸ hd) hl hr) k
theorem own_aloadN {i : Fin 4} {u : Addr} (hd : decode bytes pc = .ok (.aload_n i, 1)) (hp : pc + 1 = pc') (hl : Ls[i.val]? = some (.val (.ref u))) (k : own_W l Z y bytes ml ret R n0 Q h cells slots pc' Ls (.ref u :: st)) : own_W l Z y bytes ml ret R n0 Q h cells slots pc Ls (st) :=
  own_pure (fun p e below T t m c hA hx hb hr => by subst hp; exact XS.aloadN hA hx rfl (hb ▸ hd) hl rfl hr) k
theorem own_aload {i : Nat} {u : Addr} (hd : decode bytes pc = .ok (.aload i, 2)) (hp : pc + 2 = pc') (hl : Ls[i]? = some (.val (.ref u))) (k : own_W l Z y bytes ml ret R n0 Q h cells slots pc' Ls (.ref u :: st)) : own_W l Z y bytes ml ret R n0 Q h cells slots pc Ls (st) :=
  own_pure (fun p e below T t m c hA hx hb hr => by subst hp; exact XS.aload hA hx rfl (hb ▸ hd) hl rfl hr) k
theorem own_istoreN {i : Fin 4} {u : Int32} (hd : decode bytes pc = .ok (.istore_n i, 1)) (hp : pc + 1 = pc') (hl : storeLocals Ls i.val (.int u) = some Ls') (k : own_W l Z y bytes ml ret R n0 Q h cells slots pc' Ls' (st)) : own_W l Z y bytes ml ret R n0 Q h cells slots pc Ls (.int u :: st) :=
  own_pure (fun p e below T t m c hA hx hb hr => by subst hp; exact XS.istoreN hA hx rfl (hb ▸ hd) rfl hl hr) k
theorem own_istore {i : Nat} {u : Int32} (hd : decode bytes pc = .ok (.istore i, 2)) (hp : pc + 2 = pc') (hl : storeLocals Ls i (.int u) = some Ls') (k : own_W l Z y bytes ml ret R n0 Q h cells slots pc' Ls' (st)) : own_W l Z y bytes ml ret R n0 Q h cells slots pc Ls (.int u :: st) :=
  own_pure (fun p e below T t m c hA hx hb hr => by subst hp; exact XS.istore hA hx rfl (hb ▸ hd) rfl hl hr) k
theorem own_lstoreN {i : Fin 4} {u : Int64} (hd : decode bytes pc = .ok (.lstore_n i, 1)) (hp : pc + 1 = pc') (hl : storeLocals Ls i.val (.long u) = some Ls') (k : own_W l Z y bytes ml ret R n0 Q h cells slots pc' Ls' (st)) : own_W l Z y bytes ml ret R n0 Q h cells slots pc Ls (.long u :: st) :=
  own_pure (fun p e below T t m c hA hx hb hr => by subst hp; exact XT.lstoreN hA hx rfl (hb ▸ hd) rfl hl hr) k
theorem own_lstore {i : Nat} {u : Int64} (hd : decode bytes pc = .ok (.lstore i, 2)) (hp : pc + 2 = pc') (hl : storeLocals Ls i (.long u) = some Ls') (k : own_W l Z y bytes ml ret R n0 Q h cells slots pc' Ls' (st)) : own_W l Z y bytes ml ret R n0 Q h cells slots pc Ls (.long u :: st) :=
  own_pure (fun p e below T t m c hA hx hb hr => by subst hp; exact XT.lstore hA hx rfl (hb ▸ hd) rfl hl hr) k
theorem own_astoreN {i : Fin 4} {u : Addr} (hd : decode bytes pc = .ok (.astore_n i, 1)) (hp : pc + 1 = pc') (hl : storeLocals Ls i.val (.ref u) = some Ls') (k : own_W l Z y bytes ml ret R n0 Q h cells slots pc' Ls' (st)) : own_W l Z y bytes ml ret R n0 Q h cells slots pc Ls (.ref u :: st) :=
  own_pure (fun p e below T t m c hA hx hb hr => by subst hp; exact XS.astoreN hA hx rfl (hb ▸ hd) rfl rfl hl hr) k
theorem own_astore {i : Nat} {u : Addr} (hd : decode bytes pc = .ok (.astore i, 2)) (hp : pc + 2 = pc') (hl : storeLocals Ls i (.ref u) = some Ls') (k : own_W l Z y bytes ml ret R n0 Q h cells slots pc' Ls' (st)) : own_W l Z y bytes ml ret R n0 Q h cells slots pc Ls (.ref u :: st) :=
  own_pure (fun p e below T t m c hA hx hb hr => by subst hp; exact XS.astore hA hx rfl (hb ▸ hd) rfl rfl hl hr) k
theorem own_iinc {i : Nat} {cst : Int} {u w : Int32} (hd : decode bytes pc = .ok (.iinc i cst, 3)) (hp : pc + 3 = pc') (hv : Int32.ofInt cst = w) (hl : Ls[i]? = some (.val (.int u))) (hl' : storeLocals Ls i (.int (u + w)) = some Ls') (k : own_W l Z y bytes ml ret R n0 Q h cells slots pc' Ls' st) : own_W l Z y bytes ml ret R n0 Q h cells slots pc Ls st :=
  own_pure (fun p e below T t m c hA hx hb hr => by subst hp; exact XT.iincV hA hx rfl w (hb ▸ hd) hv hl hl' hr) k
theorem own_iconst {i : Int} (u : Int32) (hd : decode bytes pc = .ok (.iconst i, 1)) (hp : pc + 1 = pc') (hv : Int32.ofInt i = u) (k : own_W l Z y bytes ml ret R n0 Q h cells slots pc' Ls (.int u :: st)) : own_W l Z y bytes ml ret R n0 Q h cells slots pc Ls st :=
  own_pure (fun p e below T t m c hA hx hb hr => by subst hp; exact XT.iconstV hA hx rfl u (hb ▸ hd) hv hr) k
theorem own_bipush {i : Int} (u : Int32) (hd : decode bytes pc = .ok (.bipush i, 2)) (hp : pc + 2 = pc') (hv : (Int8.ofInt i).toInt32 = u) (k : own_W l Z y bytes ml ret R n0 Q h cells slots pc' Ls (.int u :: st)) : own_W l Z y bytes ml ret R n0 Q h cells slots pc Ls st :=
  own_pure (fun p e below T t m c hA hx hb hr => by subst hp; exact XT.bipushV hA hx rfl u (hb ▸ hd) hv hr) k
theorem own_sipush {i : Int} (u : Int32) (hd : decode bytes pc = .ok (.sipush i, 3)) (hp : pc + 3 = pc') (hv : (Int16.ofInt i).toInt32 = u) (k : own_W l Z y bytes ml ret R n0 Q h cells slots pc' Ls (.int u :: st)) : own_W l Z y bytes ml ret R n0 Q h cells slots pc Ls st :=
  own_pure (fun p e below T t m c hA hx hb hr => by subst hp; exact XT.sipushV hA hx rfl u (hb ▸ hd) hv hr) k
theorem own_lconst {i : Fin 2} (u : Int64) (hd : decode bytes pc = .ok (.lconst i, 1)) (hp : pc + 1 = pc') (hv : Int64.ofNat i = u) (k : own_W l Z y bytes ml ret R n0 Q h cells slots pc' Ls (.long u :: st)) : own_W l Z y bytes ml ret R n0 Q h cells slots pc Ls st :=
  own_pure (fun p e below T t m c hA hx hb hr => by subst hp; exact XT.lconstV hA hx rfl u (hb ▸ hd) hv hr) k
theorem own_aconstNull (hd : decode bytes pc = .ok (.aconst_null, 1)) (hp : pc + 1 = pc') (k : own_W l Z y bytes ml ret R n0 Q h cells slots pc' Ls (.null :: st)) : own_W l Z y bytes ml ret R n0 Q h cells slots pc Ls (st) :=
  own_pure (fun p e below T t m c hA hx hb hr => by subst hp; exact XS.aconstNull hA hx rfl (hb ▸ hd)  hr) k
theorem own_iadd {u w : Int32} (hd : decode bytes pc = .ok (.iadd, 1)) (hp : pc + 1 = pc') (k : own_W l Z y bytes ml ret R n0 Q h cells slots pc' Ls (.int (u + w) :: st)) : own_W l Z y bytes ml ret R n0 Q h cells slots pc Ls (.int w :: .int u :: st) :=
  own_pure (fun p e below T t m c hA hx hb hr => by subst hp; exact XS.iadd hA hx rfl (hb ▸ hd) rfl hr) k
theorem own_isub {u w : Int32} (hd : decode bytes pc = .ok (.isub, 1)) (hp : pc + 1 = pc') (k : own_W l Z y bytes ml ret R n0 Q h cells slots pc' Ls (.int (u - w) :: st)) : own_W l Z y bytes ml ret R n0 Q h cells slots pc Ls (.int w :: .int u :: st) :=
  own_pure (fun p e below T t m c hA hx hb hr => by subst hp; exact XS.isub hA hx rfl (hb ▸ hd) rfl hr) k
theorem own_imul {u w : Int32} (hd : decode bytes pc = .ok (.imul, 1)) (hp : pc + 1 = pc') (k : own_W l Z y bytes ml ret R n0 Q h cells slots pc' Ls (.int (u * w) :: st)) : own_W l Z y bytes ml ret R n0 Q h cells slots pc Ls (.int w :: .int u :: st) :=
  own_pure (fun p e below T t m c hA hx hb hr => by subst hp; exact XS.imul hA hx rfl (hb ▸ hd) rfl hr) k
theorem own_iand {u w : Int32} (hd : decode bytes pc = .ok (.iand, 1)) (hp : pc + 1 = pc') (k : own_W l Z y bytes ml ret R n0 Q h cells slots pc' Ls (.int (u &&& w) :: st)) : own_W l Z y bytes ml ret R n0 Q h cells slots pc Ls (.int w :: .int u :: st) :=
  own_pure (fun p e below T t m c hA hx hb hr => by subst hp; exact XS.iand hA hx rfl (hb ▸ hd) rfl hr) k
theorem own_ior {u w : Int32} (hd : decode bytes pc = .ok (.ior, 1)) (hp : pc + 1 = pc') (k : own_W l Z y bytes ml ret R n0 Q h cells slots pc' Ls (.int (u ||| w) :: st)) : own_W l Z y bytes ml ret R n0 Q h cells slots pc Ls (.int w :: .int u :: st) :=
  own_pure (fun p e below T t m c hA hx hb hr => by subst hp; exact XT.ior hA hx rfl (hb ▸ hd) rfl hr) k
theorem own_ixor {u w : Int32} (hd : decode bytes pc = .ok (.ixor, 1)) (hp : pc + 1 = pc') (k : own_W l Z y bytes ml ret R n0 Q h cells slots pc' Ls (.int (u ^^^ w) :: st)) : own_W l Z y bytes ml ret R n0 Q h cells slots pc Ls (.int w :: .int u :: st) :=
  own_pure (fun p e below T t m c hA hx hb hr => by subst hp; exact XT.ixor hA hx rfl (hb ▸ hd) rfl hr) k
theorem own_ishl {u w : Int32} (hd : decode bytes pc = .ok (.ishl, 1)) (hp : pc + 1 = pc') (k : own_W l Z y bytes ml ret R n0 Q h cells slots pc' Ls (.int (u <<< (w &&& 31)) :: st)) : own_W l Z y bytes ml ret R n0 Q h cells slots pc Ls (.int w :: .int u :: st) :=
  own_pure (fun p e below T t m c hA hx hb hr => by subst hp; exact XT.ishl hA hx rfl (hb ▸ hd) rfl hr) k
theorem own_ishr {u w : Int32} (hd : decode bytes pc = .ok (.ishr, 1)) (hp : pc + 1 = pc') (k : own_W l Z y bytes ml ret R n0 Q h cells slots pc' Ls (.int (u >>> (w &&& 31)) :: st)) : own_W l Z y bytes ml ret R n0 Q h cells slots pc Ls (.int w :: .int u :: st) :=
  own_pure (fun p e below T t m c hA hx hb hr => by subst hp; exact XT.ishr hA hx rfl (hb ▸ hd) rfl hr) k
theorem own_iushr {u w : Int32} (hd : decode bytes pc = .ok (.iushr, 1)) (hp : pc + 1 = pc') (k : own_W l Z y bytes ml ret R n0 Q h cells slots pc' Ls (.int (XT.ushr u w) :: st)) : own_W l Z y bytes ml ret R n0 Q h cells slots pc Ls (.int w :: .int u :: st) :=
  own_pure (fun p e below T t m c hA hx hb hr => by subst hp; exact XT.iushr hA hx rfl (hb ▸ hd) rfl hr) k
theorem own_idiv {u w : Int32} (hd : decode bytes pc = .ok (.idiv, 1)) (hp : pc + 1 = pc') (hw : w ≠ 0) (k : own_W l Z y bytes ml ret R n0 Q h cells slots pc' Ls (.int (u / w) :: st)) : own_W l Z y bytes ml ret R n0 Q h cells slots pc Ls (.int w :: .int u :: st) :=
  own_pure (fun p e below T t m c hA hx hb hr => by subst hp; exact XS.idiv hA hx rfl (hb ▸ hd) rfl hw hr) k
theorem own_irem {u w : Int32} (hd : decode bytes pc = .ok (.irem, 1)) (hp : pc + 1 = pc') (hw : w ≠ 0) (k : own_W l Z y bytes ml ret R n0 Q h cells slots pc' Ls (.int (u % w) :: st)) : own_W l Z y bytes ml ret R n0 Q h cells slots pc Ls (.int w :: .int u :: st) :=
  own_pure (fun p e below T t m c hA hx hb hr => by subst hp; exact XS.irem hA hx rfl (hb ▸ hd) rfl hw (by rw [irem_eq_mod u w]; exact hr)) k
theorem own_ineg {u : Int32} (hd : decode bytes pc = .ok (.ineg, 1)) (hp : pc + 1 = pc') (k : own_W l Z y bytes ml ret R n0 Q h cells slots pc' Ls (.int (-u) :: st)) : own_W l Z y bytes ml ret R n0 Q h cells slots pc Ls (.int u :: st) :=
  own_pure (fun p e below T t m c hA hx hb hr => by subst hp; exact XS.ineg hA hx rfl (hb ▸ hd) rfl hr) k
theorem own_ladd {u w : Int64} (hd : decode bytes pc = .ok (.ladd, 1)) (hp : pc + 1 = pc') (k : own_W l Z y bytes ml ret R n0 Q h cells slots pc' Ls (.long (u + w) :: st)) : own_W l Z y bytes ml ret R n0 Q h cells slots pc Ls (.long w :: .long u :: st) :=
  own_pure (fun p e below T t m c hA hx hb hr => by subst hp; exact XT.ladd hA hx rfl (hb ▸ hd) rfl hr) k
theorem own_lsub {u w : Int64} (hd : decode bytes pc = .ok (.lsub, 1)) (hp : pc + 1 = pc') (k : own_W l Z y bytes ml ret R n0 Q h cells slots pc' Ls (.long (u - w) :: st)) : own_W l Z y bytes ml ret R n0 Q h cells slots pc Ls (.long w :: .long u :: st) :=
  own_pure (fun p e below T t m c hA hx hb hr => by subst hp; exact XT.lsub hA hx rfl (hb ▸ hd) rfl hr) k
theorem own_lmul {u w : Int64} (hd : decode bytes pc = .ok (.lmul, 1)) (hp : pc + 1 = pc') (k : own_W l Z y bytes ml ret R n0 Q h cells slots pc' Ls (.long (u * w) :: st)) : own_W l Z y bytes ml ret R n0 Q h cells slots pc Ls (.long w :: .long u :: st) :=
  own_pure (fun p e below T t m c hA hx hb hr => by subst hp; exact XT.lmul hA hx rfl (hb ▸ hd) rfl hr) k
theorem own_land {u w : Int64} (hd : decode bytes pc = .ok (.land, 1)) (hp : pc + 1 = pc') (k : own_W l Z y bytes ml ret R n0 Q h cells slots pc' Ls (.long (u &&& w) :: st)) : own_W l Z y bytes ml ret R n0 Q h cells slots pc Ls (.long w :: .long u :: st) :=
  own_pure (fun p e below T t m c hA hx hb hr => by subst hp; exact XT.land hA hx rfl (hb ▸ hd) rfl hr) k
theorem own_lor {u w : Int64} (hd : decode bytes pc = .ok (.lor, 1)) (hp : pc + 1 = pc') (k : own_W l Z y bytes ml ret R n0 Q h cells slots pc' Ls (.long (u ||| w) :: st)) : own_W l Z y bytes ml ret R n0 Q h cells slots pc Ls (.long w :: .long u :: st) :=
  own_pure (fun p e below T t m c hA hx hb hr => by subst hp; exact XT.lor hA hx rfl (hb ▸ hd) rfl hr) k
theorem own_lxor {u w : Int64} (hd : decode bytes pc = .ok (.lxor, 1)) (hp : pc + 1 = pc') (k : own_W l Z y bytes ml ret R n0 Q h cells slots pc' Ls (.long (u ^^^ w) :: st)) : own_W l Z y bytes ml ret R n0 Q h cells slots pc Ls (.long w :: .long u :: st) :=
  own_pure (fun p e below T t m c hA hx hb hr => by subst hp; exact XT.lxor hA hx rfl (hb ▸ hd) rfl hr) k
theorem own_lrem {u w : Int64} (hd : decode bytes pc = .ok (.lrem, 1)) (hp : pc + 1 = pc') (hw : w ≠ 0) (k : own_W l Z y bytes ml ret R n0 Q h cells slots pc' Ls (.long (u % w) :: st)) : own_W l Z y bytes ml ret R n0 Q h cells slots pc Ls (.long w :: .long u :: st) :=
  own_pure (fun p e below T t m c hA hx hb hr => by subst hp; exact XT.lrem hA hx rfl (hb ▸ hd) rfl hw (by rw [lrem_mod u w]; exact hr)) k
theorem own_lshl {u : Int64} {w : Int32} (hd : decode bytes pc = .ok (.lshl, 1)) (hp : pc + 1 = pc') (k : own_W l Z y bytes ml ret R n0 Q h cells slots pc' Ls (.long (u <<< (w.toInt64 &&& 63)) :: st)) : own_W l Z y bytes ml ret R n0 Q h cells slots pc Ls (.int w :: .long u :: st) :=
  own_pure (fun p e below T t m c hA hx hb hr => by subst hp; exact XT.lshl hA hx rfl (hb ▸ hd) rfl hr) k
theorem own_lshr {u : Int64} {w : Int32} (hd : decode bytes pc = .ok (.lshr, 1)) (hp : pc + 1 = pc') (k : own_W l Z y bytes ml ret R n0 Q h cells slots pc' Ls (.long (u >>> (w.toInt64 &&& 63)) :: st)) : own_W l Z y bytes ml ret R n0 Q h cells slots pc Ls (.int w :: .long u :: st) :=
  own_pure (fun p e below T t m c hA hx hb hr => by subst hp; exact XT.lshr hA hx rfl (hb ▸ hd) rfl hr) k
theorem own_lushr {u : Int64} {w : Int32} (hd : decode bytes pc = .ok (.lushr, 1)) (hp : pc + 1 = pc') (k : own_W l Z y bytes ml ret R n0 Q h cells slots pc' Ls (.long (XT.ushrL u w) :: st)) : own_W l Z y bytes ml ret R n0 Q h cells slots pc Ls (.int w :: .long u :: st) :=
  own_pure (fun p e below T t m c hA hx hb hr => by subst hp; exact XT.lushr hA hx rfl (hb ▸ hd) rfl hr) k
theorem own_i2l {u : Int32} (hd : decode bytes pc = .ok (.i2l, 1)) (hp : pc + 1 = pc') (k : own_W l Z y bytes ml ret R n0 Q h cells slots pc' Ls (.long u.toInt64 :: st)) : own_W l Z y bytes ml ret R n0 Q h cells slots pc Ls (.int u :: st) :=
  own_pure (fun p e below T t m c hA hx hb hr => by subst hp; exact XT.i2l hA hx rfl (hb ▸ hd) rfl hr) k
theorem own_l2i {u : Int64} (hd : decode bytes pc = .ok (.l2i, 1)) (hp : pc + 1 = pc') (k : own_W l Z y bytes ml ret R n0 Q h cells slots pc' Ls (.int u.toInt32 :: st)) : own_W l Z y bytes ml ret R n0 Q h cells slots pc Ls (.long u :: st) :=
  own_pure (fun p e below T t m c hA hx hb hr => by subst hp; exact XT.l2i hA hx rfl (hb ▸ hd) rfl hr) k
theorem own_i2b {u : Int32} (hd : decode bytes pc = .ok (.i2b, 1)) (hp : pc + 1 = pc') (k : own_W l Z y bytes ml ret R n0 Q h cells slots pc' Ls (.int u.toInt8.toInt32 :: st)) : own_W l Z y bytes ml ret R n0 Q h cells slots pc Ls (.int u :: st) :=
  own_pure (fun p e below T t m c hA hx hb hr => by subst hp; exact XT.i2b hA hx rfl (hb ▸ hd) rfl hr) k
theorem own_i2c {u : Int32} (hd : decode bytes pc = .ok (.i2c, 1)) (hp : pc + 1 = pc') (k : own_W l Z y bytes ml ret R n0 Q h cells slots pc' Ls (.int u.toUInt32.toUInt16.toUInt32.toInt32 :: st)) : own_W l Z y bytes ml ret R n0 Q h cells slots pc Ls (.int u :: st) :=
  own_pure (fun p e below T t m c hA hx hb hr => by subst hp; exact XT.i2c hA hx rfl (hb ▸ hd) rfl hr) k
theorem own_lcmp {u w : Int64} (hd : decode bytes pc = .ok (.lcmp, 1)) (hp : pc + 1 = pc') (k : own_W l Z y bytes ml ret R n0 Q h cells slots pc' Ls (.int (XT.cmpL u w) :: st)) : own_W l Z y bytes ml ret R n0 Q h cells slots pc Ls (.long w :: .long u :: st) :=
  own_pure (fun p e below T t m c hA hx hb hr => by subst hp; exact XT.lcmp hA hx rfl (hb ▸ hd) rfl hr) k
theorem own_dup {u : Value} (hd : decode bytes pc = .ok (.dup, 1)) (hp : pc + 1 = pc') (hc : u.category = 1) (k : own_W l Z y bytes ml ret R n0 Q h cells slots pc' Ls (u :: u :: st)) : own_W l Z y bytes ml ret R n0 Q h cells slots pc Ls (u :: st) :=
  own_pure (fun p e below T t m c hA hx hb hr => by subst hp; exact XS.dup hA hx rfl (hb ▸ hd) rfl hc hr) k
theorem own_pop {u : Value} (hd : decode bytes pc = .ok (.pop, 1)) (hp : pc + 1 = pc') (hc : u.category = 1) (k : own_W l Z y bytes ml ret R n0 Q h cells slots pc' Ls (st)) : own_W l Z y bytes ml ret R n0 Q h cells slots pc Ls (u :: st) :=
  own_pure (fun p e below T t m c hA hx hb hr => by subst hp; exact XT.pop hA hx rfl (hb ▸ hd) rfl hc hr) k
theorem own_dupX1 {u w : Value} (hd : decode bytes pc = .ok (.dup_x1, 1)) (hp : pc + 1 = pc') (hc : u.category = 1) (hc' : w.category = 1) (k : own_W l Z y bytes ml ret R n0 Q h cells slots pc' Ls (u :: w :: u :: st)) : own_W l Z y bytes ml ret R n0 Q h cells slots pc Ls (u :: w :: st) :=
  own_pure (fun p e below T t m c hA hx hb hr => by subst hp; exact XT.dupX1 hA hx rfl (hb ▸ hd) rfl hc hc' hr) k
theorem own_dup2 {u w : Value} (hd : decode bytes pc = .ok (.dup2, 1)) (hp : pc + 1 = pc') (hc : u.category = 1) (hc' : w.category = 1) (k : own_W l Z y bytes ml ret R n0 Q h cells slots pc' Ls (u :: w :: u :: w :: st)) : own_W l Z y bytes ml ret R n0 Q h cells slots pc Ls (u :: w :: st) :=
  own_pure (fun p e below T t m c hA hx hb hr => by subst hp; exact XT.dup2 hA hx rfl (hb ▸ hd) rfl hc hc' hr) k
theorem own_dup2L {u : Int64} (hd : decode bytes pc = .ok (.dup2, 1)) (hp : pc + 1 = pc') (k : own_W l Z y bytes ml ret R n0 Q h cells slots pc' Ls (.long u :: .long u :: st)) : own_W l Z y bytes ml ret R n0 Q h cells slots pc Ls (.long u :: st) :=
  own_pure (fun p e below T t m c hA hx hb hr => by subst hp; exact XT.dup2L hA hx rfl (hb ▸ hd) rfl hr) k
theorem own_pop2step {tb : Tables} [Ours tb] {e : Env} {below : List Frame} {T target : State} {m : MethodId} {c : Code} {g : JFrame} (h : At T m c below) (hx : tb.exec = Jvm.exec) (hg : g.method = m) {u : Int64} {rest : List Value} (hd : decode c.code g.pc = .ok (.pop2, 1)) (hs : g.stack = .long u :: rest)
    (hr : Steps tb e below (T.setTop { g with pc := g.pc + 1, stack := rest }) target) : Steps tb e below (T.setTop g) target := by
  subst hg
  jvm_step h [h.top, hx, hd, hs, pop2.wp_sem, Value.category]
  exact hr
theorem own_pop2L {u : Int64} (hd : decode bytes pc = .ok (.pop2, 1)) (hp : pc + 1 = pc') (k : own_W l Z y bytes ml ret R n0 Q h cells slots pc' Ls (st)) : own_W l Z y bytes ml ret R n0 Q h cells slots pc Ls (.long u :: st) :=
  own_pure (fun p e below T t m c hA hx hb hr => by subst hp; exact own_pop2step hA hx rfl (hb ▸ hd) rfl hr) k
theorem own_dupX2step {tb : Tables} [Ours tb] {e : Env} {below : List Frame} {T target : State} {m : MethodId} {c : Code} {g : JFrame} (h : At T m c below) (hx : tb.exec = Jvm.exec) (hg : g.method = m) {x y z : Value} {rest : List Value} (hd : decode c.code g.pc = .ok (.dup_x2, 1)) (hs : g.stack = x :: y :: z :: rest) (hc : x.category = 1) (hc' : y.category = 1) (hc'' : z.category = 1)
    (hr : Steps tb e below (T.setTop { g with pc := g.pc + 1, stack := x :: y :: z :: x :: rest }) target) : Steps tb e below (T.setTop g) target := by
  subst hg
  jvm_step h [h.top, hx, hd, hs, dup_x2.wp_sem, hc, hc', hc'']
  exact hr
theorem own_dupX2 {u w x : Value} (hd : decode bytes pc = .ok (.dup_x2, 1)) (hp : pc + 1 = pc') (hc : u.category = 1) (hc' : w.category = 1) (hc'' : x.category = 1) (k : own_W l Z y bytes ml ret R n0 Q h cells slots pc' Ls (u :: w :: x :: u :: st)) : own_W l Z y bytes ml ret R n0 Q h cells slots pc Ls (u :: w :: x :: st) :=
  own_pure (fun p e below T t m c hA hx hb hr => by subst hp; exact own_dupX2step hA hx rfl (hb ▸ hd) rfl hc hc' hc'' hr) k
theorem own_goto {o : Int} (hd : decode bytes pc = .ok (.goto o, 3)) (ho : 0 ≤ (pc : Int) + o) (hp : ((pc : Int) + o).toNat = pc') (k : own_W l Z y bytes ml ret R n0 Q h cells slots pc' Ls st) : own_W l Z y bytes ml ret R n0 Q h cells slots pc Ls st :=
  own_pure (fun p e below T t m c hA hx hb hr => XS.goto hA hx rfl rfl (hb ▸ hd) ho hp hr) k
theorem own_if_eq_t {u : Int32} {o : Int} (hd : decode bytes pc = .ok (.ifCond .eq o, 3)) (hc : u = 0) (ho : 0 ≤ (pc : Int) + o) (hp : ((pc : Int) + o).toNat = pc') (k : own_W l Z y bytes ml ret R n0 Q h cells slots pc' Ls st) : own_W l Z y bytes ml ret R n0 Q h cells slots pc Ls (.int u :: st) :=
  own_pure (fun p e below T t m c hA hx hb hr => XS.ifYes hA hx rfl rfl (hb ▸ hd) rfl (XT.i0_eq_t hc) ho hp hr) k
theorem own_if_eq_f {u : Int32} {o : Int} (hd : decode bytes pc = .ok (.ifCond .eq o, 3)) (hc : ¬ u = 0) (hp : pc + 3 = pc') (k : own_W l Z y bytes ml ret R n0 Q h cells slots pc' Ls st) : own_W l Z y bytes ml ret R n0 Q h cells slots pc Ls (.int u :: st) :=
  own_pure (fun p e below T t m c hA hx hb hr => by subst hp; exact XS.ifNo hA hx rfl (hb ▸ hd) rfl (XT.i0_eq_f hc) hr) k
theorem own_if_eq {u : Int32} {o : Int} {pf : Nat} (hd : decode bytes pc = .ok (.ifCond .eq o, 3)) (ho : 0 ≤ (pc : Int) + o) (hp : ((pc : Int) + o).toNat = pc') (hq : pc + 3 = pf) (kt : u = 0 → own_W l Z y bytes ml ret R n0 Q h cells slots pc' Ls st) (kf : ¬ u = 0 → own_W l Z y bytes ml ret R n0 Q h cells slots pf Ls st) : own_W l Z y bytes ml ret R n0 Q h cells slots pc Ls (.int u :: st) := by
  by_cases hc : u = 0
  · exact own_if_eq_t hd hc ho hp (kt hc)
  · exact own_if_eq_f hd (by first | exact hc | exact Decidable.not_not.mp hc) hq (kf (by first | exact hc | exact Decidable.not_not.mp hc))
theorem own_ic_eq_t {u w : Int32} {o : Int} (hd : decode bytes pc = .ok (.if_icmp .eq o, 3)) (hc : u = w) (ho : 0 ≤ (pc : Int) + o) (hp : ((pc : Int) + o).toNat = pc') (k : own_W l Z y bytes ml ret R n0 Q h cells slots pc' Ls st) : own_W l Z y bytes ml ret R n0 Q h cells slots pc Ls (.int w :: .int u :: st) :=
  own_pure (fun p e below T t m c hA hx hb hr => XS.icmpYes hA hx rfl rfl (hb ▸ hd) rfl (XT.ii_eq_t hc) ho hp hr) k
theorem own_ic_eq_f {u w : Int32} {o : Int} (hd : decode bytes pc = .ok (.if_icmp .eq o, 3)) (hc : ¬ u = w) (hp : pc + 3 = pc') (k : own_W l Z y bytes ml ret R n0 Q h cells slots pc' Ls st) : own_W l Z y bytes ml ret R n0 Q h cells slots pc Ls (.int w :: .int u :: st) :=
  own_pure (fun p e below T t m c hA hx hb hr => by subst hp; exact XS.icmpNo hA hx rfl (hb ▸ hd) rfl (XT.ii_eq_f hc) hr) k
theorem own_ic_eq {u w : Int32} {o : Int} {pf : Nat} (hd : decode bytes pc = .ok (.if_icmp .eq o, 3)) (ho : 0 ≤ (pc : Int) + o) (hp : ((pc : Int) + o).toNat = pc') (hq : pc + 3 = pf) (kt : u = w → own_W l Z y bytes ml ret R n0 Q h cells slots pc' Ls st) (kf : ¬ u = w → own_W l Z y bytes ml ret R n0 Q h cells slots pf Ls st) : own_W l Z y bytes ml ret R n0 Q h cells slots pc Ls (.int w :: .int u :: st) := by
  by_cases hc : u = w
  · exact own_ic_eq_t hd hc ho hp (kt hc)
  · exact own_ic_eq_f hd (by first | exact hc | exact Decidable.not_not.mp hc) hq (kf (by first | exact hc | exact Decidable.not_not.mp hc))
theorem own_il_eq_t {u w : Int64} {o : Int} (hd : decode bytes pc = .ok (.ifCond .eq o, 3)) (hc : u = w) (ho : 0 ≤ (pc : Int) + o) (hp : ((pc : Int) + o).toNat = pc') (k : own_W l Z y bytes ml ret R n0 Q h cells slots pc' Ls st) : own_W l Z y bytes ml ret R n0 Q h cells slots pc Ls (.int (XT.cmpL u w) :: st) :=
  own_pure (fun p e below T t m c hA hx hb hr => XS.ifYes hA hx rfl rfl (hb ▸ hd) rfl (XT.ll_eq_t hc) ho hp hr) k
theorem own_il_eq_f {u w : Int64} {o : Int} (hd : decode bytes pc = .ok (.ifCond .eq o, 3)) (hc : ¬ u = w) (hp : pc + 3 = pc') (k : own_W l Z y bytes ml ret R n0 Q h cells slots pc' Ls st) : own_W l Z y bytes ml ret R n0 Q h cells slots pc Ls (.int (XT.cmpL u w) :: st) :=
  own_pure (fun p e below T t m c hA hx hb hr => by subst hp; exact XS.ifNo hA hx rfl (hb ▸ hd) rfl (XT.ll_eq_f hc) hr) k
theorem own_il_eq {u w : Int64} {o : Int} {pf : Nat} (hd : decode bytes pc = .ok (.ifCond .eq o, 3)) (ho : 0 ≤ (pc : Int) + o) (hp : ((pc : Int) + o).toNat = pc') (hq : pc + 3 = pf) (kt : u = w → own_W l Z y bytes ml ret R n0 Q h cells slots pc' Ls st) (kf : ¬ u = w → own_W l Z y bytes ml ret R n0 Q h cells slots pf Ls st) : own_W l Z y bytes ml ret R n0 Q h cells slots pc Ls (.int (XT.cmpL u w) :: st) := by
  by_cases hc : u = w
  · exact own_il_eq_t hd hc ho hp (kt hc)
  · exact own_il_eq_f hd (by first | exact hc | exact Decidable.not_not.mp hc) hq (kf (by first | exact hc | exact Decidable.not_not.mp hc))
theorem own_if_ne_t {u : Int32} {o : Int} (hd : decode bytes pc = .ok (.ifCond .ne o, 3)) (hc : ¬ u = 0) (ho : 0 ≤ (pc : Int) + o) (hp : ((pc : Int) + o).toNat = pc') (k : own_W l Z y bytes ml ret R n0 Q h cells slots pc' Ls st) : own_W l Z y bytes ml ret R n0 Q h cells slots pc Ls (.int u :: st) :=
  own_pure (fun p e below T t m c hA hx hb hr => XS.ifYes hA hx rfl rfl (hb ▸ hd) rfl (XT.i0_ne_t hc) ho hp hr) k
theorem own_if_ne_f {u : Int32} {o : Int} (hd : decode bytes pc = .ok (.ifCond .ne o, 3)) (hc : u = 0) (hp : pc + 3 = pc') (k : own_W l Z y bytes ml ret R n0 Q h cells slots pc' Ls st) : own_W l Z y bytes ml ret R n0 Q h cells slots pc Ls (.int u :: st) :=
  own_pure (fun p e below T t m c hA hx hb hr => by subst hp; exact XS.ifNo hA hx rfl (hb ▸ hd) rfl (XT.i0_ne_f hc) hr) k
theorem own_if_ne {u : Int32} {o : Int} {pf : Nat} (hd : decode bytes pc = .ok (.ifCond .ne o, 3)) (ho : 0 ≤ (pc : Int) + o) (hp : ((pc : Int) + o).toNat = pc') (hq : pc + 3 = pf) (kt : ¬ u = 0 → own_W l Z y bytes ml ret R n0 Q h cells slots pc' Ls st) (kf : u = 0 → own_W l Z y bytes ml ret R n0 Q h cells slots pf Ls st) : own_W l Z y bytes ml ret R n0 Q h cells slots pc Ls (.int u :: st) := by
  by_cases hc : ¬ u = 0
  · exact own_if_ne_t hd hc ho hp (kt hc)
  · exact own_if_ne_f hd (by first | exact hc | exact Decidable.not_not.mp hc) hq (kf (by first | exact hc | exact Decidable.not_not.mp hc))
theorem own_ic_ne_t {u w : Int32} {o : Int} (hd : decode bytes pc = .ok (.if_icmp .ne o, 3)) (hc : ¬ u = w) (ho : 0 ≤ (pc : Int) + o) (hp : ((pc : Int) + o).toNat = pc') (k : own_W l Z y bytes ml ret R n0 Q h cells slots pc' Ls st) : own_W l Z y bytes ml ret R n0 Q h cells slots pc Ls (.int w :: .int u :: st) :=
  own_pure (fun p e below T t m c hA hx hb hr => XS.icmpYes hA hx rfl rfl (hb ▸ hd) rfl (XT.ii_ne_t hc) ho hp hr) k
theorem own_ic_ne_f {u w : Int32} {o : Int} (hd : decode bytes pc = .ok (.if_icmp .ne o, 3)) (hc : u = w) (hp : pc + 3 = pc') (k : own_W l Z y bytes ml ret R n0 Q h cells slots pc' Ls st) : own_W l Z y bytes ml ret R n0 Q h cells slots pc Ls (.int w :: .int u :: st) :=
  own_pure (fun p e below T t m c hA hx hb hr => by subst hp; exact XS.icmpNo hA hx rfl (hb ▸ hd) rfl (XT.ii_ne_f hc) hr) k
theorem own_ic_ne {u w : Int32} {o : Int} {pf : Nat} (hd : decode bytes pc = .ok (.if_icmp .ne o, 3)) (ho : 0 ≤ (pc : Int) + o) (hp : ((pc : Int) + o).toNat = pc') (hq : pc + 3 = pf) (kt : ¬ u = w → own_W l Z y bytes ml ret R n0 Q h cells slots pc' Ls st) (kf : u = w → own_W l Z y bytes ml ret R n0 Q h cells slots pf Ls st) : own_W l Z y bytes ml ret R n0 Q h cells slots pc Ls (.int w :: .int u :: st) := by
  by_cases hc : ¬ u = w
  · exact own_ic_ne_t hd hc ho hp (kt hc)
  · exact own_ic_ne_f hd (by first | exact hc | exact Decidable.not_not.mp hc) hq (kf (by first | exact hc | exact Decidable.not_not.mp hc))
theorem own_il_ne_t {u w : Int64} {o : Int} (hd : decode bytes pc = .ok (.ifCond .ne o, 3)) (hc : ¬ u = w) (ho : 0 ≤ (pc : Int) + o) (hp : ((pc : Int) + o).toNat = pc') (k : own_W l Z y bytes ml ret R n0 Q h cells slots pc' Ls st) : own_W l Z y bytes ml ret R n0 Q h cells slots pc Ls (.int (XT.cmpL u w) :: st) :=
  own_pure (fun p e below T t m c hA hx hb hr => XS.ifYes hA hx rfl rfl (hb ▸ hd) rfl (XT.ll_ne_t hc) ho hp hr) k
theorem own_il_ne_f {u w : Int64} {o : Int} (hd : decode bytes pc = .ok (.ifCond .ne o, 3)) (hc : u = w) (hp : pc + 3 = pc') (k : own_W l Z y bytes ml ret R n0 Q h cells slots pc' Ls st) : own_W l Z y bytes ml ret R n0 Q h cells slots pc Ls (.int (XT.cmpL u w) :: st) :=
  own_pure (fun p e below T t m c hA hx hb hr => by subst hp; exact XS.ifNo hA hx rfl (hb ▸ hd) rfl (XT.ll_ne_f hc) hr) k
theorem own_il_ne {u w : Int64} {o : Int} {pf : Nat} (hd : decode bytes pc = .ok (.ifCond .ne o, 3)) (ho : 0 ≤ (pc : Int) + o) (hp : ((pc : Int) + o).toNat = pc') (hq : pc + 3 = pf) (kt : ¬ u = w → own_W l Z y bytes ml ret R n0 Q h cells slots pc' Ls st) (kf : u = w → own_W l Z y bytes ml ret R n0 Q h cells slots pf Ls st) : own_W l Z y bytes ml ret R n0 Q h cells slots pc Ls (.int (XT.cmpL u w) :: st) := by
  by_cases hc : ¬ u = w
  · exact own_il_ne_t hd hc ho hp (kt hc)
  · exact own_il_ne_f hd (by first | exact hc | exact Decidable.not_not.mp hc) hq (kf (by first | exact hc | exact Decidable.not_not.mp hc))
theorem own_if_lt_t {u : Int32} {o : Int} (hd : decode bytes pc = .ok (.ifCond .lt o, 3)) (hc : u < 0) (ho : 0 ≤ (pc : Int) + o) (hp : ((pc : Int) + o).toNat = pc') (k : own_W l Z y bytes ml ret R n0 Q h cells slots pc' Ls st) : own_W l Z y bytes ml ret R n0 Q h cells slots pc Ls (.int u :: st) :=
  own_pure (fun p e below T t m c hA hx hb hr => XS.ifYes hA hx rfl rfl (hb ▸ hd) rfl (XT.i0_lt_t hc) ho hp hr) k
theorem own_if_lt_f {u : Int32} {o : Int} (hd : decode bytes pc = .ok (.ifCond .lt o, 3)) (hc : ¬ u < 0) (hp : pc + 3 = pc') (k : own_W l Z y bytes ml ret R n0 Q h cells slots pc' Ls st) : own_W l Z y bytes ml ret R n0 Q h cells slots pc Ls (.int u :: st) :=
  own_pure (fun p e below T t m c hA hx hb hr => by subst hp; exact XS.ifNo hA hx rfl (hb ▸ hd) rfl (XT.i0_lt_f hc) hr) k
theorem own_if_lt {u : Int32} {o : Int} {pf : Nat} (hd : decode bytes pc = .ok (.ifCond .lt o, 3)) (ho : 0 ≤ (pc : Int) + o) (hp : ((pc : Int) + o).toNat = pc') (hq : pc + 3 = pf) (kt : u < 0 → own_W l Z y bytes ml ret R n0 Q h cells slots pc' Ls st) (kf : ¬ u < 0 → own_W l Z y bytes ml ret R n0 Q h cells slots pf Ls st) : own_W l Z y bytes ml ret R n0 Q h cells slots pc Ls (.int u :: st) := by
  by_cases hc : u < 0
  · exact own_if_lt_t hd hc ho hp (kt hc)
  · exact own_if_lt_f hd (by first | exact hc | exact Decidable.not_not.mp hc) hq (kf (by first | exact hc | exact Decidable.not_not.mp hc))
theorem own_ic_lt_t {u w : Int32} {o : Int} (hd : decode bytes pc = .ok (.if_icmp .lt o, 3)) (hc : u < w) (ho : 0 ≤ (pc : Int) + o) (hp : ((pc : Int) + o).toNat = pc') (k : own_W l Z y bytes ml ret R n0 Q h cells slots pc' Ls st) : own_W l Z y bytes ml ret R n0 Q h cells slots pc Ls (.int w :: .int u :: st) :=
  own_pure (fun p e below T t m c hA hx hb hr => XS.icmpYes hA hx rfl rfl (hb ▸ hd) rfl (XT.ii_lt_t hc) ho hp hr) k
theorem own_ic_lt_f {u w : Int32} {o : Int} (hd : decode bytes pc = .ok (.if_icmp .lt o, 3)) (hc : ¬ u < w) (hp : pc + 3 = pc') (k : own_W l Z y bytes ml ret R n0 Q h cells slots pc' Ls st) : own_W l Z y bytes ml ret R n0 Q h cells slots pc Ls (.int w :: .int u :: st) :=
  own_pure (fun p e below T t m c hA hx hb hr => by subst hp; exact XS.icmpNo hA hx rfl (hb ▸ hd) rfl (XT.ii_lt_f hc) hr) k
theorem own_ic_lt {u w : Int32} {o : Int} {pf : Nat} (hd : decode bytes pc = .ok (.if_icmp .lt o, 3)) (ho : 0 ≤ (pc : Int) + o) (hp : ((pc : Int) + o).toNat = pc') (hq : pc + 3 = pf) (kt : u < w → own_W l Z y bytes ml ret R n0 Q h cells slots pc' Ls st) (kf : ¬ u < w → own_W l Z y bytes ml ret R n0 Q h cells slots pf Ls st) : own_W l Z y bytes ml ret R n0 Q h cells slots pc Ls (.int w :: .int u :: st) := by
  by_cases hc : u < w
  · exact own_ic_lt_t hd hc ho hp (kt hc)
  · exact own_ic_lt_f hd (by first | exact hc | exact Decidable.not_not.mp hc) hq (kf (by first | exact hc | exact Decidable.not_not.mp hc))
theorem own_il_lt_t {u w : Int64} {o : Int} (hd : decode bytes pc = .ok (.ifCond .lt o, 3)) (hc : u < w) (ho : 0 ≤ (pc : Int) + o) (hp : ((pc : Int) + o).toNat = pc') (k : own_W l Z y bytes ml ret R n0 Q h cells slots pc' Ls st) : own_W l Z y bytes ml ret R n0 Q h cells slots pc Ls (.int (XT.cmpL u w) :: st) :=
  own_pure (fun p e below T t m c hA hx hb hr => XS.ifYes hA hx rfl rfl (hb ▸ hd) rfl (XT.ll_lt_t hc) ho hp hr) k
theorem own_il_lt_f {u w : Int64} {o : Int} (hd : decode bytes pc = .ok (.ifCond .lt o, 3)) (hc : ¬ u < w) (hp : pc + 3 = pc') (k : own_W l Z y bytes ml ret R n0 Q h cells slots pc' Ls st) : own_W l Z y bytes ml ret R n0 Q h cells slots pc Ls (.int (XT.cmpL u w) :: st) :=
  own_pure (fun p e below T t m c hA hx hb hr => by subst hp; exact XS.ifNo hA hx rfl (hb ▸ hd) rfl (XT.ll_lt_f hc) hr) k
theorem own_il_lt {u w : Int64} {o : Int} {pf : Nat} (hd : decode bytes pc = .ok (.ifCond .lt o, 3)) (ho : 0 ≤ (pc : Int) + o) (hp : ((pc : Int) + o).toNat = pc') (hq : pc + 3 = pf) (kt : u < w → own_W l Z y bytes ml ret R n0 Q h cells slots pc' Ls st) (kf : ¬ u < w → own_W l Z y bytes ml ret R n0 Q h cells slots pf Ls st) : own_W l Z y bytes ml ret R n0 Q h cells slots pc Ls (.int (XT.cmpL u w) :: st) := by
  by_cases hc : u < w
  · exact own_il_lt_t hd hc ho hp (kt hc)
  · exact own_il_lt_f hd (by first | exact hc | exact Decidable.not_not.mp hc) hq (kf (by first | exact hc | exact Decidable.not_not.mp hc))
theorem own_if_ge_t {u : Int32} {o : Int} (hd : decode bytes pc = .ok (.ifCond .ge o, 3)) (hc : ¬ u < 0) (ho : 0 ≤ (pc : Int) + o) (hp : ((pc : Int) + o).toNat = pc') (k : own_W l Z y bytes ml ret R n0 Q h cells slots pc' Ls st) : own_W l Z y bytes ml ret R n0 Q h cells slots pc Ls (.int u :: st) :=
  own_pure (fun p e below T t m c hA hx hb hr => XS.ifYes hA hx rfl rfl (hb ▸ hd) rfl (XT.i0_ge_t hc) ho hp hr) k
theorem own_if_ge_f {u : Int32} {o : Int} (hd : decode bytes pc = .ok (.ifCond .ge o, 3)) (hc : u < 0) (hp : pc + 3 = pc') (k : own_W l Z y bytes ml ret R n0 Q h cells slots pc' Ls st) : own_W l Z y bytes ml ret R n0 Q h cells slots pc Ls (.int u :: st) :=
  own_pure (fun p e below T t m c hA hx hb hr => by subst hp; exact XS.ifNo hA hx rfl (hb ▸ hd) rfl (XT.i0_ge_f hc) hr) k
theorem own_if_ge {u : Int32} {o : Int} {pf : Nat} (hd : decode bytes pc = .ok (.ifCond .ge o, 3)) (ho : 0 ≤ (pc : Int) + o) (hp : ((pc : Int) + o).toNat = pc') (hq : pc + 3 = pf) (kt : ¬ u < 0 → own_W l Z y bytes ml ret R n0 Q h cells slots pc' Ls st) (kf : u < 0 → own_W l Z y bytes ml ret R n0 Q h cells slots pf Ls st) : own_W l Z y bytes ml ret R n0 Q h cells slots pc Ls (.int u :: st) := by
  by_cases hc : ¬ u < 0
  · exact own_if_ge_t hd hc ho hp (kt hc)
  · exact own_if_ge_f hd (by first | exact hc | exact Decidable.not_not.mp hc) hq (kf (by first | exact hc | exact Decidable.not_not.mp hc))
theorem own_ic_ge_t {u w : Int32} {o : Int} (hd : decode bytes pc = .ok (.if_icmp .ge o, 3)) (hc : ¬ u < w) (ho : 0 ≤ (pc : Int) + o) (hp : ((pc : Int) + o).toNat = pc') (k : own_W l Z y bytes ml ret R n0 Q h cells slots pc' Ls st) : own_W l Z y bytes ml ret R n0 Q h cells slots pc Ls (.int w :: .int u :: st) :=
  own_pure (fun p e below T t m c hA hx hb hr => XS.icmpYes hA hx rfl rfl (hb ▸ hd) rfl (XT.ii_ge_t hc) ho hp hr) k
theorem own_ic_ge_f {u w : Int32} {o : Int} (hd : decode bytes pc = .ok (.if_icmp .ge o, 3)) (hc : u < w) (hp : pc + 3 = pc') (k : own_W l Z y bytes ml ret R n0 Q h cells slots pc' Ls st) : own_W l Z y bytes ml ret R n0 Q h cells slots pc Ls (.int w :: .int u :: st) :=
  own_pure (fun p e below T t m c hA hx hb hr => by subst hp; exact XS.icmpNo hA hx rfl (hb ▸ hd) rfl (XT.ii_ge_f hc) hr) k
theorem own_ic_ge {u w : Int32} {o : Int} {pf : Nat} (hd : decode bytes pc = .ok (.if_icmp .ge o, 3)) (ho : 0 ≤ (pc : Int) + o) (hp : ((pc : Int) + o).toNat = pc') (hq : pc + 3 = pf) (kt : ¬ u < w → own_W l Z y bytes ml ret R n0 Q h cells slots pc' Ls st) (kf : u < w → own_W l Z y bytes ml ret R n0 Q h cells slots pf Ls st) : own_W l Z y bytes ml ret R n0 Q h cells slots pc Ls (.int w :: .int u :: st) := by
  by_cases hc : ¬ u < w
  · exact own_ic_ge_t hd hc ho hp (kt hc)
  · exact own_ic_ge_f hd (by first | exact hc | exact Decidable.not_not.mp hc) hq (kf (by first | exact hc | exact Decidable.not_not.mp hc))
theorem own_il_ge_t {u w : Int64} {o : Int} (hd : decode bytes pc = .ok (.ifCond .ge o, 3)) (hc : ¬ u < w) (ho : 0 ≤ (pc : Int) + o) (hp : ((pc : Int) + o).toNat = pc') (k : own_W l Z y bytes ml ret R n0 Q h cells slots pc' Ls st) : own_W l Z y bytes ml ret R n0 Q h cells slots pc Ls (.int (XT.cmpL u w) :: st) :=
  own_pure (fun p e below T t m c hA hx hb hr => XS.ifYes hA hx rfl rfl (hb ▸ hd) rfl (XT.ll_ge_t hc) ho hp hr) k
theorem own_il_ge_f {u w : Int64} {o : Int} (hd : decode bytes pc = .ok (.ifCond .ge o, 3)) (hc : u < w) (hp : pc + 3 = pc') (k : own_W l Z y bytes ml ret R n0 Q h cells slots pc' Ls st) : own_W l Z y bytes ml ret R n0 Q h cells slots pc Ls (.int (XT.cmpL u w) :: st) :=
  own_pure (fun p e below T t m c hA hx hb hr => by subst hp; exact XS.ifNo hA hx rfl (hb ▸ hd) rfl (XT.ll_ge_f hc) hr) k
theorem own_il_ge {u w : Int64} {o : Int} {pf : Nat} (hd : decode bytes pc = .ok (.ifCond .ge o, 3)) (ho : 0 ≤ (pc : Int) + o) (hp : ((pc : Int) + o).toNat = pc') (hq : pc + 3 = pf) (kt : ¬ u < w → own_W l Z y bytes ml ret R n0 Q h cells slots pc' Ls st) (kf : u < w → own_W l Z y bytes ml ret R n0 Q h cells slots pf Ls st) : own_W l Z y bytes ml ret R n0 Q h cells slots pc Ls (.int (XT.cmpL u w) :: st) := by
  by_cases hc : ¬ u < w
  · exact own_il_ge_t hd hc ho hp (kt hc)
  · exact own_il_ge_f hd (by first | exact hc | exact Decidable.not_not.mp hc) hq (kf (by first | exact hc | exact Decidable.not_not.mp hc))
theorem own_if_gt_t {u : Int32} {o : Int} (hd : decode bytes pc = .ok (.ifCond .gt o, 3)) (hc : 0 < u) (ho : 0 ≤ (pc : Int) + o) (hp : ((pc : Int) + o).toNat = pc') (k : own_W l Z y bytes ml ret R n0 Q h cells slots pc' Ls st) : own_W l Z y bytes ml ret R n0 Q h cells slots pc Ls (.int u :: st) :=
  own_pure (fun p e below T t m c hA hx hb hr => XS.ifYes hA hx rfl rfl (hb ▸ hd) rfl (XT.i0_gt_t hc) ho hp hr) k
theorem own_if_gt_f {u : Int32} {o : Int} (hd : decode bytes pc = .ok (.ifCond .gt o, 3)) (hc : ¬ 0 < u) (hp : pc + 3 = pc') (k : own_W l Z y bytes ml ret R n0 Q h cells slots pc' Ls st) : own_W l Z y bytes ml ret R n0 Q h cells slots pc Ls (.int u :: st) :=
  own_pure (fun p e below T t m c hA hx hb hr => by subst hp; exact XS.ifNo hA hx rfl (hb ▸ hd) rfl (XT.i0_gt_f hc) hr) k
theorem own_if_gt {u : Int32} {o : Int} {pf : Nat} (hd : decode bytes pc = .ok (.ifCond .gt o, 3)) (ho : 0 ≤ (pc : Int) + o) (hp : ((pc : Int) + o).toNat = pc') (hq : pc + 3 = pf) (kt : 0 < u → own_W l Z y bytes ml ret R n0 Q h cells slots pc' Ls st) (kf : ¬ 0 < u → own_W l Z y bytes ml ret R n0 Q h cells slots pf Ls st) : own_W l Z y bytes ml ret R n0 Q h cells slots pc Ls (.int u :: st) := by
  by_cases hc : 0 < u
  · exact own_if_gt_t hd hc ho hp (kt hc)
  · exact own_if_gt_f hd (by first | exact hc | exact Decidable.not_not.mp hc) hq (kf (by first | exact hc | exact Decidable.not_not.mp hc))
theorem own_ic_gt_t {u w : Int32} {o : Int} (hd : decode bytes pc = .ok (.if_icmp .gt o, 3)) (hc : w < u) (ho : 0 ≤ (pc : Int) + o) (hp : ((pc : Int) + o).toNat = pc') (k : own_W l Z y bytes ml ret R n0 Q h cells slots pc' Ls st) : own_W l Z y bytes ml ret R n0 Q h cells slots pc Ls (.int w :: .int u :: st) :=
  own_pure (fun p e below T t m c hA hx hb hr => XS.icmpYes hA hx rfl rfl (hb ▸ hd) rfl (XT.ii_gt_t hc) ho hp hr) k
theorem own_ic_gt_f {u w : Int32} {o : Int} (hd : decode bytes pc = .ok (.if_icmp .gt o, 3)) (hc : ¬ w < u) (hp : pc + 3 = pc') (k : own_W l Z y bytes ml ret R n0 Q h cells slots pc' Ls st) : own_W l Z y bytes ml ret R n0 Q h cells slots pc Ls (.int w :: .int u :: st) :=
  own_pure (fun p e below T t m c hA hx hb hr => by subst hp; exact XS.icmpNo hA hx rfl (hb ▸ hd) rfl (XT.ii_gt_f hc) hr) k
theorem own_ic_gt {u w : Int32} {o : Int} {pf : Nat} (hd : decode bytes pc = .ok (.if_icmp .gt o, 3)) (ho : 0 ≤ (pc : Int) + o) (hp : ((pc : Int) + o).toNat = pc') (hq : pc + 3 = pf) (kt : w < u → own_W l Z y bytes ml ret R n0 Q h cells slots pc' Ls st) (kf : ¬ w < u → own_W l Z y bytes ml ret R n0 Q h cells slots pf Ls st) : own_W l Z y bytes ml ret R n0 Q h cells slots pc Ls (.int w :: .int u :: st) := by
  by_cases hc : w < u
  · exact own_ic_gt_t hd hc ho hp (kt hc)
  · exact own_ic_gt_f hd (by first | exact hc | exact Decidable.not_not.mp hc) hq (kf (by first | exact hc | exact Decidable.not_not.mp hc))
theorem own_il_gt_t {u w : Int64} {o : Int} (hd : decode bytes pc = .ok (.ifCond .gt o, 3)) (hc : w < u) (ho : 0 ≤ (pc : Int) + o) (hp : ((pc : Int) + o).toNat = pc') (k : own_W l Z y bytes ml ret R n0 Q h cells slots pc' Ls st) : own_W l Z y bytes ml ret R n0 Q h cells slots pc Ls (.int (XT.cmpL u w) :: st) :=
  own_pure (fun p e below T t m c hA hx hb hr => XS.ifYes hA hx rfl rfl (hb ▸ hd) rfl (XT.ll_gt_t hc) ho hp hr) k
theorem own_il_gt_f {u w : Int64} {o : Int} (hd : decode bytes pc = .ok (.ifCond .gt o, 3)) (hc : ¬ w < u) (hp : pc + 3 = pc') (k : own_W l Z y bytes ml ret R n0 Q h cells slots pc' Ls st) : own_W l Z y bytes ml ret R n0 Q h cells slots pc Ls (.int (XT.cmpL u w) :: st) :=
  own_pure (fun p e below T t m c hA hx hb hr => by subst hp; exact XS.ifNo hA hx rfl (hb ▸ hd) rfl (XT.ll_gt_f hc) hr) k
theorem own_il_gt {u w : Int64} {o : Int} {pf : Nat} (hd : decode bytes pc = .ok (.ifCond .gt o, 3)) (ho : 0 ≤ (pc : Int) + o) (hp : ((pc : Int) + o).toNat = pc') (hq : pc + 3 = pf) (kt : w < u → own_W l Z y bytes ml ret R n0 Q h cells slots pc' Ls st) (kf : ¬ w < u → own_W l Z y bytes ml ret R n0 Q h cells slots pf Ls st) : own_W l Z y bytes ml ret R n0 Q h cells slots pc Ls (.int (XT.cmpL u w) :: st) := by
  by_cases hc : w < u
  · exact own_il_gt_t hd hc ho hp (kt hc)
  · exact own_il_gt_f hd (by first | exact hc | exact Decidable.not_not.mp hc) hq (kf (by first | exact hc | exact Decidable.not_not.mp hc))
theorem own_if_le_t {u : Int32} {o : Int} (hd : decode bytes pc = .ok (.ifCond .le o, 3)) (hc : ¬ 0 < u) (ho : 0 ≤ (pc : Int) + o) (hp : ((pc : Int) + o).toNat = pc') (k : own_W l Z y bytes ml ret R n0 Q h cells slots pc' Ls st) : own_W l Z y bytes ml ret R n0 Q h cells slots pc Ls (.int u :: st) :=
  own_pure (fun p e below T t m c hA hx hb hr => XS.ifYes hA hx rfl rfl (hb ▸ hd) rfl (XT.i0_le_t hc) ho hp hr) k
theorem own_if_le_f {u : Int32} {o : Int} (hd : decode bytes pc = .ok (.ifCond .le o, 3)) (hc : 0 < u) (hp : pc + 3 = pc') (k : own_W l Z y bytes ml ret R n0 Q h cells slots pc' Ls st) : own_W l Z y bytes ml ret R n0 Q h cells slots pc Ls (.int u :: st) :=
  own_pure (fun p e below T t m c hA hx hb hr => by subst hp; exact XS.ifNo hA hx rfl (hb ▸ hd) rfl (XT.i0_le_f hc) hr) k
theorem own_if_le {u : Int32} {o : Int} {pf : Nat} (hd : decode bytes pc = .ok (.ifCond .le o, 3)) (ho : 0 ≤ (pc : Int) + o) (hp : ((pc : Int) + o).toNat = pc') (hq : pc + 3 = pf) (kt : ¬ 0 < u → own_W l Z y bytes ml ret R n0 Q h cells slots pc' Ls st) (kf : 0 < u → own_W l Z y bytes ml ret R n0 Q h cells slots pf Ls st) : own_W l Z y bytes ml ret R n0 Q h cells slots pc Ls (.int u :: st) := by
  by_cases hc : ¬ 0 < u
  · exact own_if_le_t hd hc ho hp (kt hc)
  · exact own_if_le_f hd (by first | exact hc | exact Decidable.not_not.mp hc) hq (kf (by first | exact hc | exact Decidable.not_not.mp hc))
theorem own_ic_le_t {u w : Int32} {o : Int} (hd : decode bytes pc = .ok (.if_icmp .le o, 3)) (hc : ¬ w < u) (ho : 0 ≤ (pc : Int) + o) (hp : ((pc : Int) + o).toNat = pc') (k : own_W l Z y bytes ml ret R n0 Q h cells slots pc' Ls st) : own_W l Z y bytes ml ret R n0 Q h cells slots pc Ls (.int w :: .int u :: st) :=
  own_pure (fun p e below T t m c hA hx hb hr => XS.icmpYes hA hx rfl rfl (hb ▸ hd) rfl (XT.ii_le_t hc) ho hp hr) k
theorem own_ic_le_f {u w : Int32} {o : Int} (hd : decode bytes pc = .ok (.if_icmp .le o, 3)) (hc : w < u) (hp : pc + 3 = pc') (k : own_W l Z y bytes ml ret R n0 Q h cells slots pc' Ls st) : own_W l Z y bytes ml ret R n0 Q h cells slots pc Ls (.int w :: .int u :: st) :=
  own_pure (fun p e below T t m c hA hx hb hr => by subst hp; exact XS.icmpNo hA hx rfl (hb ▸ hd) rfl (XT.ii_le_f hc) hr) k
theorem own_ic_le {u w : Int32} {o : Int} {pf : Nat} (hd : decode bytes pc = .ok (.if_icmp .le o, 3)) (ho : 0 ≤ (pc : Int) + o) (hp : ((pc : Int) + o).toNat = pc') (hq : pc + 3 = pf) (kt : ¬ w < u → own_W l Z y bytes ml ret R n0 Q h cells slots pc' Ls st) (kf : w < u → own_W l Z y bytes ml ret R n0 Q h cells slots pf Ls st) : own_W l Z y bytes ml ret R n0 Q h cells slots pc Ls (.int w :: .int u :: st) := by
  by_cases hc : ¬ w < u
  · exact own_ic_le_t hd hc ho hp (kt hc)
  · exact own_ic_le_f hd (by first | exact hc | exact Decidable.not_not.mp hc) hq (kf (by first | exact hc | exact Decidable.not_not.mp hc))
theorem own_il_le_t {u w : Int64} {o : Int} (hd : decode bytes pc = .ok (.ifCond .le o, 3)) (hc : ¬ w < u) (ho : 0 ≤ (pc : Int) + o) (hp : ((pc : Int) + o).toNat = pc') (k : own_W l Z y bytes ml ret R n0 Q h cells slots pc' Ls st) : own_W l Z y bytes ml ret R n0 Q h cells slots pc Ls (.int (XT.cmpL u w) :: st) :=
  own_pure (fun p e below T t m c hA hx hb hr => XS.ifYes hA hx rfl rfl (hb ▸ hd) rfl (XT.ll_le_t hc) ho hp hr) k
theorem own_il_le_f {u w : Int64} {o : Int} (hd : decode bytes pc = .ok (.ifCond .le o, 3)) (hc : w < u) (hp : pc + 3 = pc') (k : own_W l Z y bytes ml ret R n0 Q h cells slots pc' Ls st) : own_W l Z y bytes ml ret R n0 Q h cells slots pc Ls (.int (XT.cmpL u w) :: st) :=
  own_pure (fun p e below T t m c hA hx hb hr => by subst hp; exact XS.ifNo hA hx rfl (hb ▸ hd) rfl (XT.ll_le_f hc) hr) k
theorem own_il_le {u w : Int64} {o : Int} {pf : Nat} (hd : decode bytes pc = .ok (.ifCond .le o, 3)) (ho : 0 ≤ (pc : Int) + o) (hp : ((pc : Int) + o).toNat = pc') (hq : pc + 3 = pf) (kt : ¬ w < u → own_W l Z y bytes ml ret R n0 Q h cells slots pc' Ls st) (kf : w < u → own_W l Z y bytes ml ret R n0 Q h cells slots pf Ls st) : own_W l Z y bytes ml ret R n0 Q h cells slots pc Ls (.int (XT.cmpL u w) :: st) := by
  by_cases hc : ¬ w < u
  · exact own_il_le_t hd hc ho hp (kt hc)
  · exact own_il_le_f hd (by first | exact hc | exact Decidable.not_not.mp hc) hq (kf (by first | exact hc | exact Decidable.not_not.mp hc))
theorem own_ifnull_f {u : Addr} {o : Int} (hd : decode bytes pc = .ok (.ifnull o, 3)) (hp : pc + 3 = pc') (k : own_W l Z y bytes ml ret R n0 Q h cells slots pc' Ls st) : own_W l Z y bytes ml ret R n0 Q h cells slots pc Ls (.ref u :: st) :=
  own_pure (fun p e below T t m c hA hx hb hr => by subst hp; exact XS.ifnullNo hA hx rfl (hb ▸ hd) rfl hr) k
theorem own_ifnonnull_t {u : Addr} {o : Int} (hd : decode bytes pc = .ok (.ifnonnull o, 3)) (ho : 0 ≤ (pc : Int) + o) (hp : ((pc : Int) + o).toNat = pc') (k : own_W l Z y bytes ml ret R n0 Q h cells slots pc' Ls st) : own_W l Z y bytes ml ret R n0 Q h cells slots pc Ls (.ref u :: st) :=
  own_pure (fun p e below T t m c hA hx hb hr => XT.ifnonnullYes hA hx rfl rfl (hb ▸ hd) rfl ho hp hr) k
theorem own_ldcI {idx : Nat} {u : Int32} (w : (Jvm.Cond.constant y.cls idx u).before a0 Z = true) (hd : decode bytes pc = .ok (.ldc idx, 2)) (hp : pc + 2 = pc') (k : own_W l Z y bytes ml ret R n0 Q h cells slots pc' Ls (.int u :: st)) : own_W l Z y bytes ml ret R n0 Q h cells slots pc Ls st := by
  intro p e s vm0 k0 m args below meth c T locs hx hZ hown hby hml hret hlk hnm hce hsl X eT N hS hk
  subst hp
  obtain ⟨s₂, o, h1, h2⟩ := k p e s vm0 k0 m args below meth c T locs hx hZ hown hby hml hret hlk hnm hce hsl X eT N hS hk
  exact ⟨s₂, o, X.ldcInt hx hown (mvT hZ w) (g := mkF m pc Ls st) rfl (hb hby hd) _ h1, h2⟩
theorem own_ldcWI {idx : Nat} {u : Int32} (w : (Jvm.Cond.constant y.cls idx u).before a0 Z = true) (hd : decode bytes pc = .ok (.ldc_w idx, 3)) (hp : pc + 3 = pc') (k : own_W l Z y bytes ml ret R n0 Q h cells slots pc' Ls (.int u :: st)) : own_W l Z y bytes ml ret R n0 Q h cells slots pc Ls st := by
  intro p e s vm0 k0 m args below meth c T locs hx hZ hown hby hml hret hlk hnm hce hsl X eT N hS hk
  subst hp
  obtain ⟨s₂, o, h1, h2⟩ := k p e s vm0 k0 m args below meth c T locs hx hZ hown hby hml hret hlk hnm hce hsl X eT N hS hk
  exact ⟨s₂, o, X.ldcWInt hx hown (mvT hZ w) (g := mkF m pc Ls st) rfl (hb hby hd) _ h1, h2⟩
theorem own_ldc2 {idx : Nat} {u : Int64} (w : (Jvm.Cond.constantLong y.cls idx u).before a0 Z = true) (hd : decode bytes pc = .ok (.ldc2_w idx, 3)) (hp : pc + 3 = pc') (k : own_W l Z y bytes ml ret R n0 Q h cells slots pc' Ls (.long u :: st)) : own_W l Z y bytes ml ret R n0 Q h cells slots pc Ls st := by
  intro p e s vm0 k0 m args below meth c T locs hx hZ hown hby hml hret hlk hnm hce hsl X eT N hS hk
  subst hp
  obtain ⟨s₂, o, h1, h2⟩ := k p e s vm0 k0 m args below meth c T locs hx hZ hown hby hml hret hlk hnm hce hsl X eT N hS hk
  exact ⟨s₂, o, X.ldc2Long hx hown (mvT hZ w) (g := mkF m pc Ls st) rfl (hb hby hd) _ h1, h2⟩
theorem own_iret {u : Int32} (hr0 : ret = some .int) (hd : decode bytes pc = .ok (.ireturn, 1)) (hq : Q (some (.int u)) h) : own_W l Z y bytes ml ret R n0 Q h cells slots pc Ls (.int u :: st) := by
  intro p e s vm0 k0 m args below meth c T locs hx hZ hown hby hml hret hlk hnm hce hsl X eT N hS hk
  subst hr0
  obtain ⟨fs, hr, hrun, hended, hRW⟩ := X.leaveW hS (by rw [eT]; exact hk) (v := some (.int u)) (fun h => by rw [hret] at h; cases h) hlk
  refine ⟨_, _, ?_, hrun, hended, _, _, rfl, ⟨?_, N⟩, hRW.1, hRW.2.1, hRW.2.2.1, hRW.2.2.2.mono hce hsl⟩
  · exact retOut X hx hret rfl (Or.inl ⟨rfl, Or.inl rfl, _, rfl⟩) (hb hby hd) hr
  · rw [show (T.setFrames fs).heap = h from eT]; exact hq
theorem own_zret {u : Int32} {t : FieldType} (hr0 : ret = some t) (ht : t = .boolean ∨ t = .byte ∨ t = .char ∨ t = .short) (hd : decode bytes pc = .ok (.ireturn, 1)) (hq : Q (some (.int (nar t u))) h) : own_W l Z y bytes ml ret R n0 Q h cells slots pc Ls (.int u :: st) := by
  intro p e s vm0 k0 m args below meth c T locs hx hZ hown hby hml hret hlk hnm hce hsl X eT N hS hk
  subst hr0
  obtain ⟨fs, hr, hrun, hended, hRW⟩ := X.leaveW hS (by rw [eT]; exact hk) (v := some (.int (nar t u))) (fun h => by rw [hret] at h; cases h) hlk
  refine ⟨_, _, ?_, hrun, hended, _, _, rfl, ⟨?_, N⟩, hRW.1, hRW.2.1, hRW.2.2.1, hRW.2.2.2.mono hce hsl⟩
  · exact retN X hx hret ht (hb hby hd) hr
  · rw [show (T.setFrames fs).heap = h from eT]; exact hq
theorem own_bret {u v : Int32} (hr0 : ret = some .boolean) (hv : u &&& 1 = v) (hd : decode bytes pc = .ok (.ireturn, 1)) (hq : Q (some (.int v)) h) : own_W l Z y bytes ml ret R n0 Q h cells slots pc Ls (.int u :: st) :=
  own_zret hr0 (Or.inl rfl) hd (by subst hv; exact hq)
theorem own_lret {u : Int64} (hr0 : ret = some .long) (hd : decode bytes pc = .ok (.lreturn, 1)) (hq : Q (some (.long u)) h) : own_W l Z y bytes ml ret R n0 Q h cells slots pc Ls (.long u :: st) := by
  intro p e s vm0 k0 m args below meth c T locs hx hZ hown hby hml hret hlk hnm hce hsl X eT N hS hk
  subst hr0
  obtain ⟨fs, hr, hrun, hended, hRW⟩ := X.leaveW hS (by rw [eT]; exact hk) (v := some (.long u)) (fun h => by rw [hret] at h; cases h) hlk
  refine ⟨_, _, ?_, hrun, hended, _, _, rfl, ⟨?_, N⟩, hRW.1, hRW.2.1, hRW.2.2.1, hRW.2.2.2.mono hce hsl⟩
  · exact retOut X hx hret rfl (Or.inr (Or.inl ⟨rfl, rfl, _, rfl⟩)) (hb hby hd) hr
  · rw [show (T.setFrames fs).heap = h from eT]; exact hq
theorem own_aret {u : Addr} {t : FieldType} (hr0 : ret = some t) (ht : t.isReference = true) (hn : narrow t (.ref u) = .ref u) (hd : decode bytes pc = .ok (.areturn, 1)) (hq : Q (some (.ref u)) h) : own_W l Z y bytes ml ret R n0 Q h cells slots pc Ls (.ref u :: st) := by
  intro p e s vm0 k0 m args below meth c T locs hx hZ hown hby hml hret hlk hnm hce hsl X eT N hS hk
  subst hr0
  obtain ⟨fs, hr, hrun, hended, hRW⟩ := X.leaveW hS (by rw [eT]; exact hk) (v := some (.ref u)) (fun h => by rw [hret] at h; cases h) hlk
  refine ⟨_, _, ?_, hrun, hended, _, _, rfl, ⟨?_, N⟩, hRW.1, hRW.2.1, hRW.2.2.1, hRW.2.2.2.mono hce hsl⟩
  · exact retOut X hx hret hn (Or.inr (Or.inr (Or.inr (Or.inr ⟨rfl, ht, rfl⟩)))) (hb hby hd) hr
  · rw [show (T.setFrames fs).heap = h from eT]; exact hq
theorem own_ret (hr0 : ret = none) (hd : decode bytes pc = .ok (.return_, 1)) (hq : Q none h) : own_W l Z y bytes ml ret R n0 Q h cells slots pc Ls [] := by
  intro p e s vm0 k0 m args below meth c T locs hx hZ hown hby hml hret hlk hnm hce hsl X eT N hS hk
  subst hr0
  obtain ⟨fs, hr, hrun, hended, hRW⟩ := X.leaveW hS (by rw [eT]; exact hk) (v := none) (fun _ => rfl) hlk
  refine ⟨_, _, ?_, hrun, hended, _, _, rfl, ⟨?_, N⟩, hRW.1, hRW.2.1, hRW.2.2.1, hRW.2.2.2.mono hce hsl⟩
  · exact X.returnOut hx hret (hb hby hd) hr
  · rw [show (T.setFrames fs).heap = h from eT]; exact hq
theorem own_getF {O n d : String} {idx : Nat} {a : Addr} {v : Value} (w : (Jvm.Cond.fieldLink y.cls idx O n d).before a0 Z = true) (F : Fld Z h a O n d v) (hd : decode bytes pc = .ok (.getfield idx, 3)) (hp : pc + 3 = pc') (k : own_W l Z y bytes ml ret R n0 Q h cells slots pc' Ls (v :: st)) : own_W l Z y bytes ml ret R n0 Q h cells slots pc Ls (.ref a :: st) := by
  intro p e s vm0 k0 m args below meth c T locs hx hZ hown hby hml hret hlk hnm hce hsl X eT N hS hk
  subst hp
  obtain ⟨T', X', e', st'⟩ := getF X hx hZ hown (host := "") (Or.inl w) Via.refl eT F (g := mkF m pc Ls (.ref a :: st)) rfl rfl (hb hby hd)
  obtain ⟨s₂, o, h1, h2⟩ := k p e s vm0 k0 m args below meth c T' locs hx hZ hown hby hml hret hlk hnm hce hsl X' e' N hS hk
  exact ⟨s₂, o, st' _ h1, h2⟩
theorem own_putF {O n d C : String} {idx kk : Nat} {a : Addr} {v old : Value} {ty : FieldType} (w : (Jvm.Cond.fieldLink y.cls idx O n d).before a0 Z = true) (F : Fld Z h a O n d old) (E : Exa Z h a C) (L : (Jvm.Cond.lays C O n d).before a0 Z = true ∨ ((Jvm.Cond.laysFinal C O n d).before a0 Z = true ∧ y.cls = O ∧ y.name = "<init>")) (wi : (Jvm.Cond.instantiable C kk).before a0 Z = true)
    (ge : n0 ≤ a) (hty : parseFieldDescriptor d = some ty) (hn : narrow ty v = v) (hf : fits ty v = true) (hd : decode bytes pc = .ok (.putfield idx, 3)) (hp : pc + 3 = pc')
    (k : ∀ h', Wr h h' a (Jvm.RoadKit.slotOf Z O n d) v → Keep h h' [a] → own_W l Z y bytes ml ret R n0 Q h' cells slots pc' Ls st) : own_W l Z y bytes ml ret R n0 Q h cells slots pc Ls (v :: .ref a :: st) := by
  intro p e s vm0 k0 m args below meth c T locs hx hZ hown hby hml hret hlk hnm hce hsl X eT N hS hk
  subst hp
  obtain ⟨T', h', X', e', W', st'⟩ := putF X hx hZ hown (host := "") (Or.inl w) Via.refl eT F E (L.imp id fun q => ⟨q.1, q.2.1, hnm.trans q.2.2⟩) wi hty hn hf (g := mkF m pc Ls (v :: .ref a :: st)) rfl rfl (hb hby hd)
  obtain ⟨s₂, o, h1, h2⟩ := k h' W' (Keep.of_wr W') p e s vm0 k0 m args below meth c T' _ hx hZ hown hby hml hret hlk hnm hce hsl X' e' (Fr.snoc X' N ge) hS (Nat.le_trans hk (Keep.of_wr W').1)
  exact ⟨s₂, o, st' _ h1, h2⟩
theorem own_new {C : String} {idx n : Nat} (w : (Jvm.Cond.classLink y.cls idx C).before a0 Z = true) (wi : (Jvm.Cond.instantiable C n).before a0 Z = true) (wz : (Jvm.Cond.initialized C).before a0 Z = true) (hd : decode bytes pc = .ok (.new idx, 3)) (hp : pc + 3 = pc') (hc : cells + 1 ≤ R.cells) (hl : slots + n ≤ R.slots)
    (k : ∀ (h' : Heap) (a : Addr), h.size ≤ a → a < h'.size → Ext h h' → Exa Z h' a C → (∀ {O nm d : String} {ty : FieldType}, Laid Z a0 C O nm d → parseFieldDescriptor d = some ty → Fld Z h' a O nm d (defaultValue ty)) → own_W l Z y bytes ml ret R n0 Q h' (cells + 1) (slots + n) pc' Ls (.ref a :: st)) : own_W l Z y bytes ml ret R n0 Q h cells slots pc Ls st := by
  intro p e s vm0 k0 m args below meth c T locs hx hZ hown hby hml hret hlk hnm hce hsl X eT N hS hk
  subst hp
  obtain ⟨T', h', X', e', E', A', D', -, st'⟩ := newO X hx hZ hown w wi wz eT (g := mkF m pc Ls st) rfl (hb hby hd) hc hl
  obtain ⟨s₂, o, h1, h2⟩ := k h' h.size (Nat.le_refl _) A'.lt E' A' D' p e s vm0 k0 m args below meth c T' _ hx hZ hown hby hml hret hlk hnm hc hl X' e' N hS (Nat.le_trans hk E'.1)
  exact ⟨s₂, o, st' _ h1, h2⟩
theorem own_initO {idx W : Nat} {a : Addr} (w1 : (Jvm.Cond.methodLink y.cls idx Lib.objectInit).before a0 Z = true) (w2 : (Jvm.Cond.instanceMethod Lib.objectInit).before a0 Z = true) (w3 : (Jvm.Cond.code Lib.objectInit ⟨#[0xb1]⟩ 1 none).before a0 Z = true) (hd : decode bytes pc = .ok (.invokespecial idx, 3)) (hp : pc + 3 = pc')
    (hsz : Ls.size = ml) (hf : 1 ≤ R.frames) (hW : (st.map fun v => v.category).sum ≤ W) (hl : W + 12 ≤ R.locals) (k : own_W l Z y bytes ml ret R n0 Q h cells slots pc' Ls st) : own_W l Z y bytes ml ret R n0 Q h cells slots pc Ls (.ref a :: st) := by
  intro p e s vm0 k0 m args below meth c T locs hx hZ hown hby hml hret hlk hnm hce hsl X eT N hS hk
  subst hp
  obtain ⟨T', X', e', st'⟩ := initO X hx hZ hown w1 w2 w3 eT (g := mkF m pc Ls (.ref a :: st)) rfl (by rw [hml]; exact hsz) rfl (hb hby hd) hf (W := W) (by show 2 * 0 + _ ≤ _; omega) hl
  obtain ⟨s₂, o, h1, h2⟩ := k p e s vm0 k0 m args below meth c T' locs hx hZ hown hby hml hret hlk hnm hce hsl X' e' N hS hk
  exact ⟨s₂, o, st' _ h1, h2⟩
/-- an array of this component type with just these components -/
def own_A (Z : State) (h : Heap) (a : Addr) (ty : FieldType) (vs : List Value) : Prop := ∃ c : Cell, Arr Z h a c ty ∧ c.slots.toList = vs ∧ vs.length < 2 ^ 31 ∧ ∀ v ∈ vs, fits ty v = true
theorem own_A.lt {a : Addr} {ty : FieldType} {vs : List Value} (A : own_A Z h a ty vs) : a < h.size := by obtain ⟨c, A, -⟩ := A; exact A.lt
theorem own_A.ext {h' : Heap} {a : Addr} {ty : FieldType} {vs : List Value} (A : own_A Z h a ty vs) (E : Ext h h') : own_A Z h' a ty vs := by obtain ⟨c, A, r⟩ := A; exact ⟨c, A.ext E, r⟩
theorem own_A.keep {h' : Heap} {a : Addr} {ty : FieldType} {vs : List Value} {ws : List Addr} (A : own_A Z h a ty vs) (K : Keep h h' ws) (q : a ∉ ws) : own_A Z h' a ty vs := by obtain ⟨c, A, r⟩ := A; exact ⟨c, ⟨K.2.1 a c A.1 q, A.2⟩, r⟩
theorem own_A.cast {a : Addr} {ty : FieldType} {vs vs' : List Value} (A : own_A Z h a ty vs) (q : vs = vs') : own_A Z h a ty vs' := q ▸ A
theorem own_size {c : Cell} {vs : List Value} (q : c.slots.toList = vs) : c.slots.size = vs.length := by rw [← q]; simp
theorem own_in {c : Cell} {vs : List Value} {j : Int32} (q : c.slots.toList = vs) (h0 : ¬ j < 0) (h1 : j.toNatClampNeg < vs.length) : ¬ (j < 0 ∨ c.slots.size ≤ j.toNatClampNeg) := by rw [own_size q]; rintro (u | u); exact h0 u; omega
theorem own_get {c : Cell} {vs : List Value} {j : Nat} {v : Value} (q : c.slots.toList = vs) (h1 : vs[j]? = some v) : c.slots[j]? = some v := by rw [← Array.getElem?_toList, q]; exact h1
theorem own_A.set {h' : Heap} {a : Addr} {ty : FieldType} {vs : List Value} {j : Nat} {v : Value} {c : Cell} (A : Arr Z h a c ty) (q : c.slots.toList = vs) (hl : vs.length < 2 ^ 31) (hft : ∀ v ∈ vs, fits ty v = true) (hv : fits ty v = true) (W : Wr h h' a j v) : own_A Z h' a ty (vs.set j v) := by
  refine ⟨_, A.same W, ?_, by simpa using hl, fun w hw => (List.mem_or_eq_of_mem_set hw).elim (hft w) fun e => e ▸ hv⟩
  rw [← q]; simp [Cell.setSlot]
theorem own_fitd (ty : FieldType) : fits ty (defaultValue ty) = true := by cases ty <;> rfl
theorem own_len {a : Addr} {ty : FieldType} {vs : List Value} {n : Int32} (A : own_A Z h a ty vs) (hn : vs.length.toInt32 = n) (hd : decode bytes pc = .ok (.arraylength, 1)) (hp : pc + 1 = pc') (k : own_W l Z y bytes ml ret R n0 Q h cells slots pc' Ls (.int n :: st)) : own_W l Z y bytes ml ret R n0 Q h cells slots pc Ls (.ref a :: st) := by
  intro p e s vm0 k0 m args below meth c T locs hx hZ hown hby hml hret hlk hnm hce hsl X eT N hS hk
  subst hp hn
  obtain ⟨cl, A, q, hl, hft⟩ := A
  obtain ⟨s₂, o, h1, h2⟩ := k p e s vm0 k0 m args below meth c T locs hx hZ hown hby hml hret hlk hnm hce hsl X eT N hS hk
  refine ⟨s₂, o, X.arraylength hx (by rw [eT]; exact A.1) (State.isArrayOf_alike hZ.alike A.2.1) (g := mkF m pc Ls (.ref a :: st)) rfl rfl (hb hby hd) _ ?_, h2⟩
  rw [own_size q]; exact h1
theorem own_iaload {a : Addr} {vs : List Value} {j : Int32} {v : Value} (A : own_A Z h a .int vs) (h0 : ¬ j < 0) (hv : vs[j.toNatClampNeg]? = some v) (hd : decode bytes pc = .ok (.iaload, 1)) (hp : pc + 1 = pc') (k : own_W l Z y bytes ml ret R n0 Q h cells slots pc' Ls (v :: st)) : own_W l Z y bytes ml ret R n0 Q h cells slots pc Ls (.int j :: .ref a :: st) := by
  intro p e s vm0 k0 m args below meth c T locs hx hZ hown hby hml hret hlk hnm hce hsl X eT N hS hk
  subst hp
  obtain ⟨cl, A, q, hl, hft⟩ := A
  obtain ⟨s₂, o, h1, h2⟩ := k p e s vm0 k0 m args below meth c T locs hx hZ hown hby hml hret hlk hnm hce hsl X eT N hS hk
  exact ⟨s₂, o, X.iaload hx (by rw [eT]; exact A.1) (State.isArrayOf_alike hZ.alike A.2.1) A.2.2 (own_in q h0 (List.getElem?_eq_some_iff.mp hv).1) (own_get q hv) (g := mkF m pc Ls (.int j :: .ref a :: st)) rfl rfl (hb hby hd) _ h1, h2⟩
theorem own_laload {a : Addr} {vs : List Value} {j : Int32} {v : Value} (A : own_A Z h a .long vs) (h0 : ¬ j < 0) (hv : vs[j.toNatClampNeg]? = some v) (hd : decode bytes pc = .ok (.laload, 1)) (hp : pc + 1 = pc') (k : own_W l Z y bytes ml ret R n0 Q h cells slots pc' Ls (v :: st)) : own_W l Z y bytes ml ret R n0 Q h cells slots pc Ls (.int j :: .ref a :: st) := by
  intro p e s vm0 k0 m args below meth c T locs hx hZ hown hby hml hret hlk hnm hce hsl X eT N hS hk
  subst hp
  obtain ⟨cl, A, q, hl, hft⟩ := A
  obtain ⟨s₂, o, h1, h2⟩ := k p e s vm0 k0 m args below meth c T locs hx hZ hown hby hml hret hlk hnm hce hsl X eT N hS hk
  exact ⟨s₂, o, X.laload hx (by rw [eT]; exact A.1) (State.isArrayOf_alike hZ.alike A.2.1) A.2.2 (own_in q h0 (List.getElem?_eq_some_iff.mp hv).1) (own_get q hv) (g := mkF m pc Ls (.int j :: .ref a :: st)) rfl rfl (hb hby hd) _ h1, h2⟩
theorem own_caload {a : Addr} {vs : List Value} {j : Int32} {v : Value} (A : own_A Z h a .char vs) (h0 : ¬ j < 0) (hv : vs[j.toNatClampNeg]? = some v) (hd : decode bytes pc = .ok (.caload, 1)) (hp : pc + 1 = pc') (k : own_W l Z y bytes ml ret R n0 Q h cells slots pc' Ls (v :: st)) : own_W l Z y bytes ml ret R n0 Q h cells slots pc Ls (.int j :: .ref a :: st) := by
  intro p e s vm0 k0 m args below meth c T locs hx hZ hown hby hml hret hlk hnm hce hsl X eT N hS hk
  subst hp
  obtain ⟨cl, A, q, hl, hft⟩ := A
  obtain ⟨s₂, o, h1, h2⟩ := k p e s vm0 k0 m args below meth c T locs hx hZ hown hby hml hret hlk hnm hce hsl X eT N hS hk
  exact ⟨s₂, o, X.caload hx (by rw [eT]; exact A.1) (State.isArrayOf_alike hZ.alike A.2.1) A.2.2 (own_in q h0 (List.getElem?_eq_some_iff.mp hv).1) (own_get q hv) (g := mkF m pc Ls (.int j :: .ref a :: st)) rfl rfl (hb hby hd) _ h1, h2⟩
theorem own_baload {a : Addr} {vs : List Value} {j : Int32} {v : Value} (A : own_A Z h a .byte vs) (h0 : ¬ j < 0) (hv : vs[j.toNatClampNeg]? = some v) (hd : decode bytes pc = .ok (.baload, 1)) (hp : pc + 1 = pc') (k : own_W l Z y bytes ml ret R n0 Q h cells slots pc' Ls (v :: st)) : own_W l Z y bytes ml ret R n0 Q h cells slots pc Ls (.int j :: .ref a :: st) := by
  intro p e s vm0 k0 m args below meth c T locs hx hZ hown hby hml hret hlk hnm hce hsl X eT N hS hk
  subst hp
  obtain ⟨cl, A, q, hl, hft⟩ := A
  obtain ⟨s₂, o, h1, h2⟩ := k p e s vm0 k0 m args below meth c T locs hx hZ hown hby hml hret hlk hnm hce hsl X eT N hS hk
  exact ⟨s₂, o, X.baloadBytes hx (by rw [eT]; exact A.1) (State.isArrayOf_alike hZ.alike A.2.1) A.2.2 (own_in q h0 (List.getElem?_eq_some_iff.mp hv).1) (own_get q hv) (g := mkF m pc Ls (.int j :: .ref a :: st)) rfl rfl (hb hby hd) _ h1, h2⟩
theorem own_zaload {a : Addr} {vs : List Value} {j : Int32} {v : Value} (A : own_A Z h a .boolean vs) (h0 : ¬ j < 0) (hv : vs[j.toNatClampNeg]? = some v) (hd : decode bytes pc = .ok (.baload, 1)) (hp : pc + 1 = pc') (k : own_W l Z y bytes ml ret R n0 Q h cells slots pc' Ls (v :: st)) : own_W l Z y bytes ml ret R n0 Q h cells slots pc Ls (.int j :: .ref a :: st) := by
  intro p e s vm0 k0 m args below meth c T locs hx hZ hown hby hml hret hlk hnm hce hsl X eT N hS hk
  subst hp
  obtain ⟨cl, A, q, hl, hft⟩ := A
  obtain ⟨s₂, o, h1, h2⟩ := k p e s vm0 k0 m args below meth c T locs hx hZ hown hby hml hret hlk hnm hce hsl X eT N hS hk
  exact ⟨s₂, o, X.baloadBooleans hx (by rw [eT]; exact A.1) (State.isArrayOf_alike hZ.alike A.2.1) A.2.2 (own_in q h0 (List.getElem?_eq_some_iff.mp hv).1) (own_get q hv) (g := mkF m pc Ls (.int j :: .ref a :: st)) rfl rfl (hb hby hd) _ h1, h2⟩
theorem own_iastore {a : Addr} {vs : List Value} {j : Int32} {u : Int32} (A : own_A Z h a .int vs) (h0 : ¬ j < 0) (h1 : j.toNatClampNeg < vs.length) (ge : n0 ≤ a) (hd : decode bytes pc = .ok (.iastore, 1)) (hp : pc + 1 = pc') (k : ∀ h', Keep h h' [a] → own_A Z h' a .int (vs.set j.toNatClampNeg (.int u)) → own_W l Z y bytes ml ret R n0 Q h' cells slots pc' Ls st) : own_W l Z y bytes ml ret R n0 Q h cells slots pc Ls (.int u :: .int j :: .ref a :: st) := by
  intro p e s vm0 k0 m args below meth c T locs hx hZ hown hby hml hret hlk hnm hce hsl X eT N hS hk
  subst hp
  obtain ⟨cl, A, q, hl, hft⟩ := A
  obtain ⟨T', h', X', e', W', st'⟩ := stI X hx hZ eT A (own_in q h0 h1) (g := mkF m pc Ls (.int u :: .int j :: .ref a :: st)) rfl rfl (hb hby hd)
  obtain ⟨s₂, o, h1, h2⟩ := k h' (Keep.of_wr W') (own_A.set A q hl hft rfl W') p e s vm0 k0 m args below meth c T' _ hx hZ hown hby hml hret hlk hnm hce hsl X' e' (Fr.snoc X' N ge) hS (Nat.le_trans hk (Keep.of_wr W').1)
  exact ⟨s₂, o, st' _ h1, h2⟩
theorem own_lastore {a : Addr} {vs : List Value} {j : Int32} {u : Int64} (A : own_A Z h a .long vs) (h0 : ¬ j < 0) (h1 : j.toNatClampNeg < vs.length) (ge : n0 ≤ a) (hd : decode bytes pc = .ok (.lastore, 1)) (hp : pc + 1 = pc') (k : ∀ h', Keep h h' [a] → own_A Z h' a .long (vs.set j.toNatClampNeg (.long u)) → own_W l Z y bytes ml ret R n0 Q h' cells slots pc' Ls st) : own_W l Z y bytes ml ret R n0 Q h cells slots pc Ls (.long u :: .int j :: .ref a :: st) := by
  intro p e s vm0 k0 m args below meth c T locs hx hZ hown hby hml hret hlk hnm hce hsl X eT N hS hk
  subst hp
  obtain ⟨cl, A, q, hl, hft⟩ := A
  obtain ⟨T', h', X', e', W', st'⟩ := stJ X hx hZ eT A (own_in q h0 h1) (g := mkF m pc Ls (.long u :: .int j :: .ref a :: st)) rfl rfl (hb hby hd)
  obtain ⟨s₂, o, h1, h2⟩ := k h' (Keep.of_wr W') (own_A.set A q hl hft rfl W') p e s vm0 k0 m args below meth c T' _ hx hZ hown hby hml hret hlk hnm hce hsl X' e' (Fr.snoc X' N ge) hS (Nat.le_trans hk (Keep.of_wr W').1)
  exact ⟨s₂, o, st' _ h1, h2⟩
theorem own_castore {a : Addr} {vs : List Value} {j : Int32} {u : Int32} (A : own_A Z h a .char vs) (h0 : ¬ j < 0) (h1 : j.toNatClampNeg < vs.length) (ge : n0 ≤ a) (hd : decode bytes pc = .ok (.castore, 1)) (hp : pc + 1 = pc') (k : ∀ h', Keep h h' [a] → own_A Z h' a .char (vs.set j.toNatClampNeg (.int (nar .char u))) → own_W l Z y bytes ml ret R n0 Q h' cells slots pc' Ls st) : own_W l Z y bytes ml ret R n0 Q h cells slots pc Ls (.int u :: .int j :: .ref a :: st) := by
  intro p e s vm0 k0 m args below meth c T locs hx hZ hown hby hml hret hlk hnm hce hsl X eT N hS hk
  subst hp
  obtain ⟨cl, A, q, hl, hft⟩ := A
  obtain ⟨T', h', X', e', W', st'⟩ := stC X hx hZ eT A (own_in q h0 h1) (g := mkF m pc Ls (.int u :: .int j :: .ref a :: st)) rfl rfl (hb hby hd)
  obtain ⟨s₂, o, h1, h2⟩ := k h' (Keep.of_wr W') (own_A.set A q hl hft (fits_nar_char u) W') p e s vm0 k0 m args below meth c T' _ hx hZ hown hby hml hret hlk hnm hce hsl X' e' (Fr.snoc X' N ge) hS (Nat.le_trans hk (Keep.of_wr W').1)
  exact ⟨s₂, o, st' _ h1, h2⟩
theorem own_bastore {a : Addr} {vs : List Value} {j : Int32} {u : Int32} (A : own_A Z h a .byte vs) (h0 : ¬ j < 0) (h1 : j.toNatClampNeg < vs.length) (ge : n0 ≤ a) (hd : decode bytes pc = .ok (.bastore, 1)) (hp : pc + 1 = pc') (k : ∀ h', Keep h h' [a] → own_A Z h' a .byte (vs.set j.toNatClampNeg (.int (nar .byte u))) → own_W l Z y bytes ml ret R n0 Q h' cells slots pc' Ls st) : own_W l Z y bytes ml ret R n0 Q h cells slots pc Ls (.int u :: .int j :: .ref a :: st) := by
  intro p e s vm0 k0 m args below meth c T locs hx hZ hown hby hml hret hlk hnm hce hsl X eT N hS hk
  subst hp
  obtain ⟨cl, A, q, hl, hft⟩ := A
  obtain ⟨T', h', X', e', W', st'⟩ := stB X hx hZ eT A (own_in q h0 h1) (g := mkF m pc Ls (.int u :: .int j :: .ref a :: st)) rfl rfl (hb hby hd)
  obtain ⟨s₂, o, h1, h2⟩ := k h' (Keep.of_wr W') (own_A.set A q hl hft (fits_nar_byte u) W') p e s vm0 k0 m args below meth c T' _ hx hZ hown hby hml hret hlk hnm hce hsl X' e' (Fr.snoc X' N ge) hS (Nat.le_trans hk (Keep.of_wr W').1)
  exact ⟨s₂, o, st' _ h1, h2⟩
theorem own_zastore {a : Addr} {vs : List Value} {j : Int32} {u : Int32} (A : own_A Z h a .boolean vs) (h0 : ¬ j < 0) (h1 : j.toNatClampNeg < vs.length) (ge : n0 ≤ a) (hd : decode bytes pc = .ok (.bastore, 1)) (hp : pc + 1 = pc') (k : ∀ h', Keep h h' [a] → own_A Z h' a .boolean (vs.set j.toNatClampNeg (.int (nar .boolean u))) → own_W l Z y bytes ml ret R n0 Q h' cells slots pc' Ls st) : own_W l Z y bytes ml ret R n0 Q h cells slots pc Ls (.int u :: .int j :: .ref a :: st) := by
  intro p e s vm0 k0 m args below meth c T locs hx hZ hown hby hml hret hlk hnm hce hsl X eT N hS hk
  subst hp
  obtain ⟨cl, A, q, hl, hft⟩ := A
  obtain ⟨T', h', X', e', W', st'⟩ := stZ X hx hZ eT A (own_in q h0 h1) (g := mkF m pc Ls (.int u :: .int j :: .ref a :: st)) rfl rfl (hb hby hd)
  obtain ⟨s₂, o, h1, h2⟩ := k h' (Keep.of_wr W') (own_A.set A q hl hft (fits_nar_bool u) W') p e s vm0 k0 m args below meth c T' _ hx hZ hown hby hml hret hlk hnm hce hsl X' e' (Fr.snoc X' N ge) hS (Nat.le_trans hk (Keep.of_wr W').1)
  exact ⟨s₂, o, st' _ h1, h2⟩
theorem own_newarrE {aty : ArrayType} {ty : FieldType} {n : Int32} {cap : Nat} (w : (Jvm.Cond.arrayClass ty).before a0 Z = true) (ht : newarray.typeOf aty = ty) (hd : decode bytes pc = .ok (.newarray aty, 2)) (hp : pc + 2 = pc') (hn : ¬ n < 0) (hcap : n.toNatClampNeg ≤ cap) (hb8 : cap * 8 ≤ 536870912) (hc : cells + 1 ≤ R.cells) (hl : slots + cap ≤ R.slots)
    (k : ∀ (h' : Heap) (a : Addr), h.size ≤ a → a < h'.size → Ext h h' → own_A Z h' a ty (List.replicate n.toNatClampNeg (defaultValue ty)) → Exa Z h' a ("[" ++ ty.toString) → own_W l Z y bytes ml ret R n0 Q h' (cells + 1) (slots + cap) pc' Ls (.ref a :: st)) : own_W l Z y bytes ml ret R n0 Q h cells slots pc Ls (.int n :: st) := by
  intro p e s vm0 k0 m args below meth c T locs hx hZ hown hby hml hret hlk hnm hce hsl X eT N hS hk
  subst hp ht
  have hcb : componentBytes (newarray.typeOf aty) ≤ 8 := by cases aty <;> decide
  obtain ⟨cA, kA, comp, g1, g2, g3, X', st'⟩ := X.newarrayPrim hx (mvA hZ w) (g := mkF m pc Ls (.int n :: st)) rfl (hb hby hd) rfl hn (Nat.le_trans (Nat.mul_le_mul hcap hcb) hb8) hc (by omega)
  rw [hZ.alike.findClass] at g1
  obtain ⟨kZ, z1, -⟩ := Vm.findClass_spec g1
  obtain ⟨k', z2, z3⟩ := hZ.alike.2.2 _ _ z1
  cases g2.symm.trans z2
  have kk : kZ.kind = .array comp (newarray.typeOf aty) := by rw [← g3, z3]
  have hN : (T.heap.push ({ cls := cA, slots := Array.replicate n.toNatClampNeg (defaultValue (newarray.typeOf aty)), vm := .none } : Cell))[T.heap.size]? = some { cls := cA, slots := Array.replicate n.toNatClampNeg (defaultValue (newarray.typeOf aty)), vm := .none } := by simp
  have E' : Ext h (T.heap.push ({ cls := cA, slots := Array.replicate n.toNatClampNeg (defaultValue (newarray.typeOf aty)), vm := .none } : Cell)) := by
    subst eT
    refine ⟨by simp, fun b cc hb' => ?_⟩
    rw [Array.getElem?_push_lt (Array.getElem?_eq_some_iff.mp hb').1]; exact (Array.getElem?_eq_getElem _).symm.trans hb'
  have A' : own_A Z (T.heap.push ({ cls := cA, slots := Array.replicate n.toNatClampNeg (defaultValue (newarray.typeOf aty)), vm := .none } : Cell)) T.heap.size (newarray.typeOf aty) (List.replicate n.toNatClampNeg (defaultValue (newarray.typeOf aty))) :=
    ⟨_, ⟨hN, ⟨by simp, kZ, z1, comp, kk⟩, by simp⟩, by simp, by simp only [List.length_replicate]; exact (back32 hn).2, fun v hv => by rw [(List.mem_replicate.mp hv).2]; exact own_fitd _⟩
  have X2 := X'.more (Nat.le_refl _) (Nat.add_le_add_left hcap slots)
  obtain ⟨s₂, o, h1, h2⟩ := k _ T.heap.size (by rw [eT]; exact Nat.le_refl _) A'.lt E' A' ⟨_, kZ, hN, g1, z1, rfl, fun q => by rw [kk] at q; cases q⟩ p e s vm0 k0 m args below meth c _ _ hx hZ hown hby hml hret hlk hnm hc hl X2 rfl N hS (Nat.le_trans hk E'.1)
  exact ⟨s₂, o, st' _ h1, h2⟩
theorem own_newarr {aty : ArrayType} {ty : FieldType} {n : Int32} {cap : Nat} (w : (Jvm.Cond.arrayClass ty).before a0 Z = true) (ht : newarray.typeOf aty = ty) (hd : decode bytes pc = .ok (.newarray aty, 2)) (hp : pc + 2 = pc') (hn : ¬ n < 0) (hcap : n.toNatClampNeg ≤ cap) (hb8 : cap * 8 ≤ 536870912) (hc : cells + 1 ≤ R.cells) (hl : slots + cap ≤ R.slots)
    (k : ∀ (h' : Heap) (a : Addr), h.size ≤ a → a < h'.size → Ext h h' → own_A Z h' a ty (List.replicate n.toNatClampNeg (defaultValue ty)) → own_W l Z y bytes ml ret R n0 Q h' (cells + 1) (slots + cap) pc' Ls (.ref a :: st)) : own_W l Z y bytes ml ret R n0 Q h cells slots pc Ls (.int n :: st) :=
  own_newarrE w ht hd hp hn hcap hb8 hc hl fun h' a q1 q2 q3 q4 _ => k h' a q1 q2 q3 q4
theorem own_cast {idx : Nat} {K : String} {a : Addr} (w : (Jvm.Cond.classLink y.cls idx K).before a0 Z = true) (F : Ins Z h a K true) (hd : decode bytes pc = .ok (.checkcast idx, 3)) (hp : pc + 3 = pc') (k : own_W l Z y bytes ml ret R n0 Q h cells slots pc' Ls (.ref a :: st)) : own_W l Z y bytes ml ret R n0 Q h cells slots pc Ls (.ref a :: st) := by
  intro p e s vm0 k0 m args below meth c T locs hx hZ hown hby hml hret hlk hnm hce hsl X eT N hS hk
  subst hp
  obtain ⟨T', X', e', st'⟩ := castY X hx hZ hown w eT F (g := mkF m pc Ls (.ref a :: st)) rfl rfl (hb hby hd)
  obtain ⟨s₂, o, h1, h2⟩ := k p e s vm0 k0 m args below meth c T' locs hx hZ hown hby hml hret hlk hnm hce hsl X' e' N hS hk
  exact ⟨s₂, o, st' _ h1, h2⟩
theorem own_clone {ad : String} {idx W cap : Nat} {a : Addr} {ty : FieldType} {vs : List Value} (w1 : (Jvm.Cond.methodLink y.cls idx ⟨ad, "clone", "()Ljava/lang/Object;"⟩).before a0 Z = true) (w2 : (Jvm.Cond.sameMethod ad "java/lang/Object" "clone" "()Ljava/lang/Object;").before a0 Z = true) (w3 : (Jvm.Cond.native ⟨"java/lang/Object", "clone", "()Ljava/lang/Object;"⟩).before a0 Z = true)
    (w4 : (Jvm.Cond.instanceMethod ⟨"java/lang/Object", "clone", "()Ljava/lang/Object;"⟩).before a0 Z = true) (w5 : (Jvm.Cond.selects ad ⟨ad, "clone", "()Ljava/lang/Object;"⟩ ⟨"java/lang/Object", "clone", "()Ljava/lang/Object;"⟩).before a0 Z = true) (w6 : (Jvm.Cond.castable ad "java/lang/Cloneable").before a0 Z = true)
    (A : own_A Z h a ty vs) (E : Exa Z h a ad) (hd : decode bytes pc = .ok (.invokevirtual idx, 3)) (hp : pc + 3 = pc') (hsz : Ls.size = ml) (hf : 1 ≤ R.frames) (hW : (st.map fun v => v.category).sum ≤ W) (hl : W + 14 ≤ R.locals) (hcap : vs.length ≤ cap) (hc : cells + 1 ≤ R.cells) (hsl' : slots + cap ≤ R.slots)
    (k : ∀ (h' : Heap) (b : Addr), h.size ≤ b → b < h'.size → Ext h h' → own_A Z h' b ty vs → Exa Z h' b ad → own_W l Z y bytes ml ret R n0 Q h' (cells + 1) (slots + cap) pc' Ls (.ref b :: st)) : own_W l Z y bytes ml ret R n0 Q h cells slots pc Ls (.ref a :: st) := by
  intro p e s vm0 k0 m args below meth c T locs hx hZ hown hby hml hret hlk hnm hce hsl X eT N hS hk
  subst hp
  obtain ⟨cl, A, q, hlen, hft⟩ := A
  have F : FitC Z cl := fun i v hv => by
    obtain ⟨-, k, hk, comp, hkind⟩ := A.2.1
    have e1 : Z.slotType? cl.cls .none i = some ty := by simp [State.slotType?, hk, hkind]
    have mem : v ∈ vs := by rw [← q]; rw [← Array.getElem?_toList] at hv; exact List.mem_of_getElem? hv
    simpa [State.fitsSlot, e1] using hft v mem
  obtain ⟨T', h', X', e', E', A', E2, st'⟩ := cloneA X hx hZ hown w1 w2 w3 w4 w5 w6 eT A E F (g := mkF m pc Ls (.ref a :: st)) rfl (by rw [hml]; exact hsz) rfl (hb hby hd) hf (W := W) (by show 2 * 0 + _ ≤ _; omega) hl (cap := cap) (by rw [own_size q]; exact hcap) hc hsl'
  obtain ⟨s₂, o, h1, h2⟩ := k h' h.size (Nat.le_refl _) A'.lt E' ⟨_, A', q, hlen, hft⟩ E2 p e s vm0 k0 m args below meth c T' locs hx hZ hown hby hml hret hlk hnm hc hsl' X' e' N hS (Nat.le_trans hk E'.1)
  exact ⟨s₂, o, st' _ h1, h2⟩
theorem own_getD {α : Type} (l : List α) (d : α) {i : Nat} (h : i < l.length) : l.getD i d = l[i] := by
  rw [List.getD_eq_getElem?_getD, List.getElem?_eq_getElem h]; rfl
theorem own_len32 {n : Nat} (h : n < 2 ^ 31) : n.toInt32.toNatClampNeg = n ∧ ¬ n.toInt32 < 0 := by
  have e := len_toInt h
  have z : (0 : Int32).toInt = 0 := rfl
  exact ⟨by rw [Int32.toNatClampNeg, e]; rfl, by rw [Int32.lt_iff_toInt_lt, e, z]; omega⟩
theorem own_A.arv {a : Addr} {ty : FieldType} {vs : List Value} (A : own_A Z h a ty vs) (d : Value) : ∃ k, Arv Z h a k ty vs.length.toInt32 vs d := by
  obtain ⟨c, A, q, hl, hft⟩ := A
  have e := own_len32 hl
  refine ⟨c.cls, c, A, rfl, by rw [e.1]; exact own_size q, e.2, fun k hk => ?_, fun k hk => ?_⟩
  · rw [own_size q] at hk
    refine own_get q ?_
    rw [own_getD _ _ hk]; exact List.getElem?_eq_getElem hk
  · rw [own_size q] at hk
    rw [own_getD _ _ hk]; exact hft _ (List.getElem_mem hk)
theorem own_A.ofArv {a : Addr} {ty : FieldType} {vs : List Value} {k : ClassId} {z : Int32} {d : Value} (A : Arv Z h a k ty z vs d) (hz : z.toNatClampNeg = vs.length) (hl : vs.length < 2 ^ 31) : own_A Z h a ty vs := by
  obtain ⟨c, A, -, hs, -, H, G⟩ := A
  have e : c.slots.toList = vs := by
    apply List.ext_getElem?
    intro i
    by_cases hi : i < vs.length
    · rw [Array.getElem?_toList, H i (by omega), own_getD _ _ hi, List.getElem?_eq_getElem hi]
    · rw [List.getElem?_eq_none (by rw [Array.length_toList]; omega), List.getElem?_eq_none (by omega)]
  refine ⟨c, A, e, hl, fun v hv => ?_⟩
  obtain ⟨i, hi, rfl⟩ := List.mem_iff_getElem.mp hv
  have := G i (by omega)
  rwa [own_getD _ _ hi] at this
theorem own_slice (vs : List Value) (d : Value) (p n : Nat) (h : p + n ≤ vs.length) : (vs.drop p).take n = (List.range n).map fun i => vs.getD (p + i) d := by
  apply List.ext_getElem
  · simp; omega
  · intro i h1 h2
    simp only [List.length_map, List.length_range] at h2
    simp [List.getD_eq_getElem?_getD, show p + i < vs.length by omega]
theorem own_acopy {idx W : Nat} {a b : Addr} {ty : FieldType} {vs vd : List Value} {sp dp nn : Int32} (w1 : (Jvm.Cond.methodLink y.cls idx Jvm.Stand.acN).before a0 Z = true) (w2 : (Jvm.Cond.native Jvm.Stand.acN).before a0 Z = true) (w3 : (Jvm.Cond.static Jvm.Stand.acN).before a0 Z = true) (w4 : (Jvm.Cond.initialized "java/lang/System").before a0 Z = true)
    (A : own_A Z h a ty vs) (B : own_A Z h b ty vd) (hty : refKind ty = false) (h1 : ¬ sp < 0) (h2 : ¬ dp < 0) (h3 : ¬ nn < 0) (h4 : sp.toNatClampNeg + nn.toNatClampNeg ≤ vs.length) (h5 : dp.toNatClampNeg + nn.toNatClampNeg ≤ vd.length) (ge : n0 ≤ b)
    (hd : decode bytes pc = .ok (.invokestatic idx, 3)) (hp : pc + 3 = pc') (hsz : Ls.size = ml) (hf : 1 ≤ R.frames) (hW : (st.map fun v => v.category).sum ≤ W) (hlo : W + (nativeFrameWords "java/lang/System" "arraycopy" 5 + 11) ≤ R.locals)
    (k : ∀ h', Keep h h' [b] → own_A Z h' b ty (vd.take dp.toNatClampNeg ++ (vs.drop sp.toNatClampNeg).take nn.toNatClampNeg ++ vd.drop (dp.toNatClampNeg + nn.toNatClampNeg)) → own_W l Z y bytes ml ret R n0 Q h' cells slots pc' Ls st) : own_W l Z y bytes ml ret R n0 Q h cells slots pc Ls (.int nn :: .int dp :: .ref b :: .int sp :: .ref a :: st) := by
  intro p e s vm0 k0 m args below meth c T locs hx hZ hown hby hml hret hlk hnm hce hsl X eT N hS hk
  subst hp
  have hlv : vs.length < 2 ^ 31 := by obtain ⟨_, _, _, q, _⟩ := A; exact q
  have hld : vd.length < 2 ^ 31 := by obtain ⟨_, _, _, q, _⟩ := B; exact q
  obtain ⟨k1, A1⟩ := A.arv .null
  obtain ⟨k2, B1⟩ := B.arv .null
  have e1 := own_len32 hlv
  have e2 := own_len32 hld
  obtain ⟨T', h', L, X', e', N', K', B', st'⟩ := cpA X hx hZ hown w1 w2 w3 w4 eT A1 B1 (Or.inl ⟨rfl, hty⟩) h1 h2 h3 (by rw [e1.1]; exact h4) (by rw [e2.1]; exact h5) (own_slice vs .null _ _ h4) h5 N ge (g := mkF m pc Ls (.int nn :: .int dp :: .ref b :: .int sp :: .ref a :: st)) rfl (by rw [hml]; exact hsz) rfl (hb hby hd) hf (W := W) (by show 2 * 0 + _ ≤ _; omega) hlo
  have hlen : (vd.take dp.toNatClampNeg ++ (vs.drop sp.toNatClampNeg).take nn.toNatClampNeg ++ vd.drop (dp.toNatClampNeg + nn.toNatClampNeg)).length = vd.length := by
    simp only [List.length_append, List.length_take, List.length_drop]; omega
  obtain ⟨s₂, o, q1, q2⟩ := k h' K' (own_A.ofArv B' (by rw [e2.1, hlen]) (by rw [hlen]; exact hld)) p e s vm0 k0 m args below meth c T' L hx hZ hown hby hml hret hlk hnm hce hsl X' e' N' hS (Nat.le_trans hk K'.1)
  exact ⟨s₂, o, st' _ q1, q2⟩
theorem own_ldcS {idx n : Nat} {text : String} (w : (Jvm.Cond.stringLink y.cls idx text).before a0 Z = true) (wS : ∀ d ∈ Bundle.stringAtoms, d.before a0 Z = true) (hd : decode bytes pc = .ok (.ldc idx, 2)) (hp : pc + 2 = pc') (hn : 4 * text.toList.length ≤ n) (hbig : n ≤ 536870912) (hc : cells + 2 ≤ R.cells) (hl : slots + (n + 4) ≤ R.slots)
    (k : ∀ (h' : Heap) (a : Addr), Ext h h' → own_W l Z y bytes ml ret R n0 Q h' (cells + 2) (slots + (n + 4)) pc' Ls (.ref a :: st)) : own_W l Z y bytes ml ret R n0 Q h cells slots pc Ls st := by
  intro p e s vm0 k0 m args below meth c T locs hx hZ hown hby hml hret hlk hnm hce hsl X eT N hS hk
  subst hp
  obtain ⟨a, T', h', k1, X', e', E', hS', hk', hZ', hown', st'⟩ := ldcS X hx hZ hown w wS eT hS hk (g := mkF m pc Ls st) rfl (hb hby hd) hn hbig hc hl
  obtain ⟨s₂, o, h1, h2⟩ := k h' a E' p e s T'.vm k1 m args below meth c T' locs hx hZ' hown' hby hml hret hlk hnm hc hl X' e' N hS' hk'
  exact ⟨s₂, o, st' _ h1, h2⟩
theorem own_met {z : MethodName} {rm : Room} {argsL : List Value} {Lc : Array Slot} (hC : own_W l Z z bytes ml ret rm n0 Q h 0 0 0 Lc []) (pn : plainFor z = true) (hent : Jvm.Sym.laidSlots argsL ++ List.replicate (ml - (Jvm.Sym.laidSlots argsL).length) .unset = Lc.toList) (ws : List Jvm.Cond) :
    MetFree l z (head1 (Jvm.Cond.code z bytes ml ret :: ws) rm) (fun a U => a = argsL.toArray ∧ Z.Warmed39 U.vm ∧ U.heap = h) (fun _ _ _ _ _ => True) (fun _ U o U' => ∃ v L, o = .returned v ∧ (Q v U'.heap ∧ Fr n0 L) ∧ ReturnedEndW U o U' L rm.cells rm.slots) := by
  refine MetFree.of_bodySF pn hisR ?_
  intro p e s m args below meth c s₁ Bd hml0 hP hK
  obtain ⟨rfl, hZ, hh⟩ := hP
  obtain ⟨s₂, o, h1, h2, h3, h4⟩ := hC p e s s.vm 0 m _ below meth c s₁ [] Bd.exec hZ (findClass_of_methodNamed Bd.named) Bd.bytes hml0 Bd.returns Bd.notSynchronized (name_of_methodNamed Bd.named Bd.method).1 (Nat.zero_le _) (Nat.zero_le _) (Stand.of_body Bd) (by rw [← hh, Bd.state]; rfl) (Fr.nil n0) ((State.WarmedH.refl s).since 0) (Nat.zero_le _)
  exact ⟨s₂, o, (XT.entry (by simpa using hent)).trans h1, h2, h3, h4⟩
theorem own_static {z : MethodName} {bytes' : ByteArray} {ml' : Nat} {ret' : Option FieldType} {rm : Room} {Qc : Option Value → Heap → Prop} {Lc : Array Slot} {argsL rest : List Value} {ps : List FieldType} {rt : Option FieldType} {idx W : Nat} (hC : own_W l Z z bytes' ml' ret' rm n0 Qc h 0 0 0 Lc []) (w1 : (Jvm.Cond.methodLink y.cls idx z).before a0 Z = true) (w2 : (Jvm.Cond.static z).before a0 Z = true) (w3 : (Jvm.Cond.initialized z.cls).before a0 Z = true) (w4 : (Jvm.Cond.code z bytes' ml' ret').before a0 Z = true) (pn : plainFor z = true) (hy : z.cls ≠ "java/lang/invoke/MethodHandle" ∧ z.cls ≠ "java/lang/invoke/VarHandle") (pd : parseMethodDescriptor z.desc = some ⟨ps, rt⟩) (hlen : argsL.length = ps.length)
    (hst : st = argsL.reverse ++ rest) (hent : Jvm.Sym.laidSlots argsL ++ List.replicate (ml' - (Jvm.Sym.laidSlots argsL).length) .unset = Lc.toList) (hW : (rest.map fun v => v.category).sum ≤ W) (hfr : rm.frames + 1 ≤ R.frames) (hlo : W + (ml' + 11) + rm.locals ≤ R.locals) (hce' : cells + rm.cells ≤ R.cells) (hsl' : slots + rm.slots ≤ R.slots) (hsz : Ls.size = ml) (hd : decode bytes pc = .ok (.invokestatic idx, 3)) (hp : pc + 3 = pc') (k : ∀ v h', Qc v h' → own_W l Z y bytes ml ret R n0 Q h' (cells + rm.cells) (slots + rm.slots) pc' Ls (v.toList ++ rest)) : own_W l Z y bytes ml ret R n0 Q h cells slots pc Ls st := by
  intro p e s vm0 k0 m args below meth c T locs hx hZ hown hby hml hret hlk hnm hce hsl X eT N hS hk
  subst hp
  obtain ⟨v, vm₁, ⟨T1, L1, k1, n1⟩, -, X1, hS1, hg1, ⟨Lc1, hQ1, l1, y1, z1⟩, st1⟩ := callSS X hx (y := z) hown (mvT hZ w1) (mvT hZ w2) (mvT hZ w3) (mvT hZ w4) hy (backOfS (W := W) (Q := fun v h L => Qc v h ∧ Fr n0 L) (own_met hC pn hent []) hZ w4 w3 hfr hlo) (g := mkF m pc Ls st) rfl (by rw [hml]; exact hsz) (argsL := argsL) (rest := rest) (lenOf pd hlen) hst (by show 2 * 0 + _ ≤ _; omega) (hb hby hd) (fun _ _ => ⟨rfl, eT, hce', hsl'⟩)
  dsimp only [Pt.U, Pt.locs, Pt.cells, Pt.slots] at X1 l1 y1 z1 st1 hQ1 hS1 hg1
  subst l1 y1 z1
  obtain ⟨X2, hS2, hZ2, hown2⟩ := rebS hS (show k0 ≤ T.heap.size by rw [eT]; exact hk) X1 hS1 hg1 hZ hown
  obtain ⟨s₂, o, h1, h2⟩ := k v T1.heap hQ1.1 p e s T1.vm T1.heap.size m args below meth c T1 _ hx hZ2 hown2 hby hml hret hlk hnm hce' hsl' X2 rfl (Fr.app N hQ1.2) hS2 (Nat.le_refl _)
  exact ⟨s₂, o, st1.trans h1, h2⟩
theorem own_special {z : MethodName} {bytes' : ByteArray} {ml' : Nat} {ret' : Option FieldType} {rm : Room} {Qc : Option Value → Heap → Prop} {Lc : Array Slot} {argsL rest : List Value} {ps : List FieldType} {rt : Option FieldType} {idx W : Nat} {a : Addr} (hC : own_W l Z z bytes' ml' none rm n0 Qc h 0 0 0 Lc []) (w1 : (Jvm.Cond.methodLink y.cls idx z).before a0 Z = true) (w2 : (Jvm.Cond.instanceMethod z).before a0 Z = true) (w3 : (Jvm.Cond.initialized z.cls).before a0 Z = true) (w4 : (Jvm.Cond.code z bytes' ml' none).before a0 Z = true) (hzn : z.name = "<init>") (pn : plainFor z = true) (hy : z.cls ≠ "java/lang/invoke/MethodHandle" ∧ z.cls ≠ "java/lang/invoke/VarHandle") (pd : parseMethodDescriptor z.desc = some ⟨ps, rt⟩) (hlen : argsL.length = ps.length)
    (hst : st = argsL.reverse ++ .ref a :: rest) (hent : Jvm.Sym.laidSlots (.ref a :: argsL) ++ List.replicate (ml' - (Jvm.Sym.laidSlots (.ref a :: argsL)).length) .unset = Lc.toList) (hW : (rest.map fun v => v.category).sum ≤ W) (hfr : rm.frames + 1 ≤ R.frames) (hlo : W + (ml' + 11) + rm.locals ≤ R.locals) (hce' : cells + rm.cells ≤ R.cells) (hsl' : slots + rm.slots ≤ R.slots) (hsz : Ls.size = ml) (hd : decode bytes pc = .ok (.invokespecial idx, 3)) (hp : pc + 3 = pc') (k : ∀ v h', Qc v h' → own_W l Z y bytes ml ret R n0 Q h' (cells + rm.cells) (slots + rm.slots) pc' Ls (v.toList ++ rest)) : own_W l Z y bytes ml ret R n0 Q h cells slots pc Ls st := by
  intro p e s vm0 k0 m args below meth c T locs hx hZ hown hby hml hret hlk hnm hce hsl X eT N hS hk
  subst hp
  obtain ⟨v, vm₁, ⟨T1, L1, k1, n1⟩, -, X1, hS1, hg1, ⟨Lc1, hQ1, l1, y1, z1⟩, st1⟩ := X.specialBackS hx (y := z) hzn hown (mvT hZ w1) (mvT hZ w2) (mvT hZ w4) hy (backOfS (W := W) (Q := fun v h L => Qc v h ∧ Fr n0 L) (own_met hC pn hent []) hZ w4 w3 hfr hlo) (g := mkF m pc Ls st) rfl (by rw [hml]; exact hsz) (Steps.refl _) (a := a) (argsL := argsL) (rest := rest) (lenOf pd hlen) hst (by show 2 * 0 + _ ≤ _; omega) (hb hby hd) (fun _ _ => ⟨rfl, eT, hce', hsl'⟩)
  dsimp only [Pt.U, Pt.locs, Pt.cells, Pt.slots] at X1 l1 y1 z1 st1 hQ1 hS1 hg1
  subst l1 y1 z1
  obtain ⟨X2, hS2, hZ2, hown2⟩ := rebS hS (show k0 ≤ T.heap.size by rw [eT]; exact hk) X1 hS1 hg1 hZ hown
  obtain ⟨s₂, o, h1, h2⟩ := k v T1.heap hQ1.1 p e s T1.vm T1.heap.size m args below meth c T1 _ hx hZ2 hown2 hby hml hret hlk hnm hce' hsl' X2 rfl (Fr.app N hQ1.2) hS2 (Nat.le_refl _)
  exact ⟨s₂, o, st1.trans h1, h2⟩
theorem own_virtual {z : MethodName} {bytes' : ByteArray} {ml' : Nat} {ret' : Option FieldType} {rm : Room} {Qc : Option Value → Heap → Prop} {Lc : Array Slot} {argsL rest : List Value} {ps : List FieldType} {rt : Option FieldType} {idx W : Nat} {a : Addr} {C : String} (hC : own_W l Z z bytes' ml' ret' rm n0 Qc h 0 0 0 Lc []) (E : Exa Z h a C) (w1 : (Jvm.Cond.methodLink y.cls idx z).before a0 Z = true) (w2 : (Jvm.Cond.declares z).before a0 Z = true) (w5 : (Jvm.Cond.selects C z z).before a0 Z = true) (w6 : (Jvm.Cond.instanceMethod z).before a0 Z = true) (w3 : (Jvm.Cond.initialized z.cls).before a0 Z = true) (w4 : (Jvm.Cond.code z bytes' ml' ret').before a0 Z = true) (pn : plainFor z = true) (hy : z.cls ≠ "java/lang/invoke/MethodHandle" ∧ z.cls ≠ "java/lang/invoke/VarHandle") (pd : parseMethodDescriptor z.desc = some ⟨ps, rt⟩) (hlen : argsL.length = ps.length)
    (hst : st = argsL.reverse ++ .ref a :: rest) (hent : Jvm.Sym.laidSlots (.ref a :: argsL) ++ List.replicate (ml' - (Jvm.Sym.laidSlots (.ref a :: argsL)).length) .unset = Lc.toList) (hW : (rest.map fun v => v.category).sum ≤ W) (hfr : rm.frames + 1 ≤ R.frames) (hlo : W + (ml' + 11) + rm.locals ≤ R.locals) (hce' : cells + rm.cells ≤ R.cells) (hsl' : slots + rm.slots ≤ R.slots) (hsz : Ls.size = ml) (hd : decode bytes pc = .ok (.invokevirtual idx, 3)) (hp : pc + 3 = pc') (k : ∀ v h', Qc v h' → own_W l Z y bytes ml ret R n0 Q h' (cells + rm.cells) (slots + rm.slots) pc' Ls (v.toList ++ rest)) : own_W l Z y bytes ml ret R n0 Q h cells slots pc Ls st := by
  intro p e s vm0 k0 m args below meth c T locs hx hZ hown hby hml hret hlk hnm hce hsl X eT N hS hk
  subst hp
  obtain ⟨cq, kq, qa, qb, qc⟩ := isOf hZ eT E
  obtain ⟨v, vm₁, ⟨T1, L1, k1, n1⟩, -, X1, hS1, hg1, ⟨Lc1, hQ1, l1, y1, z1⟩, st1⟩ := X.virtualBackS hx (y := z) (z := z) hown (mvT hZ w1) (mvT hZ w2) (notFace_of_selects (args := #[]) (mvT hZ w5)) (mvT hZ w5) (mvT hZ w6) hy (backOfS (W := W) (Q := fun v h L => Qc v h ∧ Fr n0 L) (own_met hC pn hent []) hZ w4 w3 hfr hlo) qa qc (g := mkF m pc Ls st) rfl (by rw [hml]; exact hsz) (Steps.refl _) (argsL := argsL) (rest := rest) (lenOf pd hlen) hst (by show 2 * 0 + _ ≤ _; omega) (hb hby hd) (fun _ _ => ⟨rfl, eT, hce', hsl'⟩)
  dsimp only [Pt.U, Pt.locs, Pt.cells, Pt.slots] at X1 l1 y1 z1 st1 hQ1 hS1 hg1
  subst l1 y1 z1
  obtain ⟨X2, hS2, hZ2, hown2⟩ := rebS hS (show k0 ≤ T.heap.size by rw [eT]; exact hk) X1 hS1 hg1 hZ hown
  obtain ⟨s₂, o, h1, h2⟩ := k v T1.heap hQ1.1 p e s T1.vm T1.heap.size m args below meth c T1 _ hx hZ2 hown2 hby hml hret hlk hnm hce' hsl' X2 rfl (Fr.app N hQ1.2) hS2 (Nat.le_refl _)
  exact ⟨s₂, o, st1.trans h1, h2⟩
theorem own_private {z : MethodName} {bytes' : ByteArray} {ml' : Nat} {ret' : Option FieldType} {rm : Room} {Qc : Option Value → Heap → Prop} {Lc : Array Slot} {argsL rest : List Value} {ps : List FieldType} {rt : Option FieldType} {idx W : Nat} {a : Addr} {C : String} {kk : Nat} (hC : own_W l Z z bytes' ml' ret' rm n0 Qc h 0 0 0 Lc []) (E : Exa Z h a C) (w1 : (Jvm.Cond.methodLink y.cls idx z).before a0 Z = true) (w6 : (Jvm.Cond.instanceMethod z).before a0 Z = true) (wp : (Jvm.Cond.privateMethod z).before a0 Z = true) (wi : (Jvm.Cond.instantiable z.cls kk).before a0 Z = true) (w3 : (Jvm.Cond.initialized z.cls).before a0 Z = true) (w4 : (Jvm.Cond.code z bytes' ml' ret').before a0 Z = true) (pn : plainFor z = true) (hy : z.cls ≠ "java/lang/invoke/MethodHandle" ∧ z.cls ≠ "java/lang/invoke/VarHandle") (pd : parseMethodDescriptor z.desc = some ⟨ps, rt⟩) (hlen : argsL.length = ps.length)
    (hst : st = argsL.reverse ++ .ref a :: rest) (hent : Jvm.Sym.laidSlots (.ref a :: argsL) ++ List.replicate (ml' - (Jvm.Sym.laidSlots (.ref a :: argsL)).length) .unset = Lc.toList) (hW : (rest.map fun v => v.category).sum ≤ W) (hfr : rm.frames + 1 ≤ R.frames) (hlo : W + (ml' + 11) + rm.locals ≤ R.locals) (hce' : cells + rm.cells ≤ R.cells) (hsl' : slots + rm.slots ≤ R.slots) (hsz : Ls.size = ml) (hd : decode bytes pc = .ok (.invokevirtual idx, 3)) (hp : pc + 3 = pc') (k : ∀ v h', Qc v h' → own_W l Z y bytes ml ret R n0 Q h' (cells + rm.cells) (slots + rm.slots) pc' Ls (v.toList ++ rest)) : own_W l Z y bytes ml ret R n0 Q h cells slots pc Ls st := by
  intro p e s vm0 k0 m args below meth c T locs hx hZ hown hby hml hret hlk hnm hce hsl X eT N hS hk
  subst hp
  obtain ⟨c2, k2, i1, i2, i3, i4, -⟩ := Cond.instantiable_spec (mvT (args := args) hZ wi)
  have hpr := Cond.privateMethod_at (mvP (args := #[]) hZ wp)
  have hsel := Jvm.Stand.selects_self_of_private (args := args) i1 i2 (Bool.or_eq_false_iff.mp i4).1 hpr (mvT hZ w6) hy
  obtain ⟨cell, qc, qo⟩ := E.cell
  obtain ⟨v, vm₁, ⟨T1, L1, k1, n1⟩, -, X1, hS1, hg1, ⟨Lc1, hQ1, l1, y1, z1⟩, st1⟩ := X.privateBackS hx (y := z) hown (mvT hZ w1) (mvT hZ w6) hsel hpr (mvT hZ w4) hy (backOfS (W := W) (Q := fun v h L => Qc v h ∧ Fr n0 L) (own_met hC pn hent []) hZ w4 w3 hfr hlo) (g := mkF m pc Ls st) rfl (by rw [hml]; exact hsz) (Steps.refl _) (a := a) (by rw [eT]; exact qc) qo (argsL := argsL) (rest := rest) (lenOf pd hlen) hst (by show 2 * 0 + _ ≤ _; omega) (hb hby hd) (fun _ _ => ⟨rfl, eT, hce', hsl'⟩)
  dsimp only [Pt.U, Pt.locs, Pt.cells, Pt.slots] at X1 l1 y1 z1 st1 hQ1 hS1 hg1
  subst l1 y1 z1
  obtain ⟨X2, hS2, hZ2, hown2⟩ := rebS hS (show k0 ≤ T.heap.size by rw [eT]; exact hk) X1 hS1 hg1 hZ hown
  obtain ⟨s₂, o, h1, h2⟩ := k v T1.heap hQ1.1 p e s T1.vm T1.heap.size m args below meth c T1 _ hx hZ2 hown2 hby hml hret hlk hnm hce' hsl' X2 rfl (Fr.app N hQ1.2) hS2 (Nat.le_refl _)
  exact ⟨s₂, o, st1.trans h1, h2⟩
end OwnW
-- LAYER END
theorem d1_0 : decode jdk_29_method_69_code 0 = .ok (.iload_n 0, 1) := by decide +kernel
theorem d1_1 : decode jdk_29_method_69_code 1 = .ok (.iload_n 1, 1) := by decide +kernel
theorem d1_2 : decode jdk_29_method_69_code 2 = .ok (.if_icmp .gt 7, 3) := by decide +kernel
theorem d1_5 : decode jdk_29_method_69_code 5 = .ok (.iload_n 0, 1) := by decide +kernel
theorem d1_6 : decode jdk_29_method_69_code 6 = .ok (.goto 4, 3) := by decide +kernel
theorem d1_9 : decode jdk_29_method_69_code 9 = .ok (.iload_n 1, 1) := by decide +kernel
theorem d1_10 : decode jdk_29_method_69_code 10 = .ok (.ireturn, 1) := by decide +kernel
theorem d2_0 : decode prog_2_method_2_code 0 = .ok (.aload_n 0, 1) := by decide +kernel
theorem d2_1 : decode prog_2_method_2_code 1 = .ok (.invokespecial 17, 3) := by decide +kernel
theorem d2_4 : decode prog_2_method_2_code 4 = .ok (.aload_n 0, 1) := by decide +kernel
theorem d2_5 : decode prog_2_method_2_code 5 = .ok (.aload_n 1, 1) := by decide +kernel
theorem d2_6 : decode prog_2_method_2_code 6 = .ok (.ldc 1, 2) := by decide +kernel
theorem d2_8 : decode prog_2_method_2_code 8 = .ok (.invokestatic 3, 3) := by decide +kernel
theorem d2_11 : decode prog_2_method_2_code 11 = .ok (.checkcast 9, 3) := by decide +kernel
theorem d2_14 : decode prog_2_method_2_code 14 = .ok (.putfield 22, 3) := by decide +kernel
theorem d2_17 : decode prog_2_method_2_code 17 = .ok (.iload_n 2, 1) := by decide +kernel
theorem d2_18 : decode prog_2_method_2_code 18 = .ok (.ifCond .lt 9, 3) := by decide +kernel
theorem d2_21 : decode prog_2_method_2_code 21 = .ok (.iload_n 2, 1) := by decide +kernel
theorem d2_22 : decode prog_2_method_2_code 22 = .ok (.aload_n 1, 1) := by decide +kernel
theorem d2_23 : decode prog_2_method_2_code 23 = .ok (.arraylength, 1) := by decide +kernel
theorem d2_24 : decode prog_2_method_2_code 24 = .ok (.if_icmp .le 19, 3) := by decide +kernel
theorem d2_27 : decode prog_2_method_2_code 27 = .ok (.new 24, 3) := by decide +kernel
theorem d2_30 : decode prog_2_method_2_code 30 = .ok (.dup, 1) := by decide +kernel
theorem d2_31 : decode prog_2_method_2_code 31 = .ok (.aload_n 1, 1) := by decide +kernel
theorem d2_32 : decode prog_2_method_2_code 32 = .ok (.arraylength, 1) := by decide +kernel
theorem d2_33 : decode prog_2_method_2_code 33 = .ok (.iload_n 2, 1) := by decide +kernel
theorem d2_34 : decode prog_2_method_2_code 34 = .ok (.invokedynamic 26, 5) := by decide +kernel
theorem d2_39 : decode prog_2_method_2_code 39 = .ok (.invokespecial 30, 3) := by decide +kernel
theorem d2_42 : decode prog_2_method_2_code 42 = .ok (.athrow, 1) := by decide +kernel
theorem d2_43 : decode prog_2_method_2_code 43 = .ok (.iload_n 3, 1) := by decide +kernel
theorem d2_44 : decode prog_2_method_2_code 44 = .ok (.ifCond .ge 17, 3) := by decide +kernel
theorem d2_47 : decode prog_2_method_2_code 47 = .ok (.new 24, 3) := by decide +kernel
theorem d2_50 : decode prog_2_method_2_code 50 = .ok (.dup, 1) := by decide +kernel
theorem d2_51 : decode prog_2_method_2_code 51 = .ok (.iload_n 3, 1) := by decide +kernel
theorem d2_52 : decode prog_2_method_2_code 52 = .ok (.invokedynamic 33, 5) := by decide +kernel
theorem d2_57 : decode prog_2_method_2_code 57 = .ok (.invokespecial 30, 3) := by decide +kernel
theorem d2_60 : decode prog_2_method_2_code 60 = .ok (.athrow, 1) := by decide +kernel
theorem d2_61 : decode prog_2_method_2_code 61 = .ok (.iload_n 2, 1) := by decide +kernel
theorem d2_62 : decode prog_2_method_2_code 62 = .ok (.iload_n 3, 1) := by decide +kernel
theorem d2_63 : decode prog_2_method_2_code 63 = .ok (.iadd, 1) := by decide +kernel
theorem d2_64 : decode prog_2_method_2_code 64 = .ok (.ifCond .ge 18, 3) := by decide +kernel
theorem d2_67 : decode prog_2_method_2_code 67 = .ok (.new 24, 3) := by decide +kernel
theorem d2_70 : decode prog_2_method_2_code 70 = .ok (.dup, 1) := by decide +kernel
theorem d2_71 : decode prog_2_method_2_code 71 = .ok (.iload_n 2, 1) := by decide +kernel
theorem d2_72 : decode prog_2_method_2_code 72 = .ok (.iload_n 3, 1) := by decide +kernel
theorem d2_73 : decode prog_2_method_2_code 73 = .ok (.invokedynamic 36, 5) := by decide +kernel
theorem d2_78 : decode prog_2_method_2_code 78 = .ok (.invokespecial 30, 3) := by decide +kernel
theorem d2_81 : decode prog_2_method_2_code 81 = .ok (.athrow, 1) := by decide +kernel
theorem d2_82 : decode prog_2_method_2_code 82 = .ok (.aload_n 0, 1) := by decide +kernel
theorem d2_83 : decode prog_2_method_2_code 83 = .ok (.iload_n 2, 1) := by decide +kernel
theorem d2_84 : decode prog_2_method_2_code 84 = .ok (.putfield 37, 3) := by decide +kernel
theorem d2_87 : decode prog_2_method_2_code 87 = .ok (.aload_n 0, 1) := by decide +kernel
theorem d2_88 : decode prog_2_method_2_code 88 = .ok (.iload_n 2, 1) := by decide +kernel
theorem d2_89 : decode prog_2_method_2_code 89 = .ok (.iload_n 3, 1) := by decide +kernel
theorem d2_90 : decode prog_2_method_2_code 90 = .ok (.iadd, 1) := by decide +kernel
theorem d2_91 : decode prog_2_method_2_code 91 = .ok (.aload_n 1, 1) := by decide +kernel
theorem d2_92 : decode prog_2_method_2_code 92 = .ok (.arraylength, 1) := by decide +kernel
theorem d2_93 : decode prog_2_method_2_code 93 = .ok (.invokestatic 41, 3) := by decide +kernel
theorem d2_96 : decode prog_2_method_2_code 96 = .ok (.putfield 47, 3) := by decide +kernel
theorem d2_99 : decode prog_2_method_2_code 99 = .ok (.aload_n 0, 1) := by decide +kernel
theorem d2_100 : decode prog_2_method_2_code 100 = .ok (.iload_n 2, 1) := by decide +kernel
theorem d2_101 : decode prog_2_method_2_code 101 = .ok (.putfield 50, 3) := by decide +kernel
theorem d2_104 : decode prog_2_method_2_code 104 = .ok (.return_, 1) := by decide +kernel
theorem d3_0 : decode jdk_2043_method_2_code 0 = .ok (.aload_n 0, 1) := by decide +kernel
theorem d3_1 : decode jdk_2043_method_2_code 1 = .ok (.invokespecial 7, 3) := by decide +kernel
theorem d3_4 : decode jdk_2043_method_2_code 4 = .ok (.aload_n 0, 1) := by decide +kernel
theorem d3_5 : decode jdk_2043_method_2_code 5 = .ok (.aconst_null, 1) := by decide +kernel
theorem d3_6 : decode jdk_2043_method_2_code 6 = .ok (.putfield 10, 3) := by decide +kernel
theorem d3_9 : decode jdk_2043_method_2_code 9 = .ok (.aload_n 0, 1) := by decide +kernel
theorem d3_10 : decode jdk_2043_method_2_code 10 = .ok (.aload_n 0, 1) := by decide +kernel
theorem d3_11 : decode jdk_2043_method_2_code 11 = .ok (.putfield 16, 3) := by decide +kernel
theorem d3_14 : decode jdk_2043_method_2_code 14 = .ok (.return_, 1) := by decide +kernel
theorem d4_0 : decode object_method_1_code 0 = .ok (.return_, 1) := by decide +kernel
theorem d5_0 : decode jdk_31_method_11_code 0 = .ok (.aload_n 0, 1) := by decide +kernel
theorem d5_1 : decode jdk_31_method_11_code 1 = .ok (.ifnonnull 12, 3) := by decide +kernel
theorem d5_4 : decode jdk_31_method_11_code 4 = .ok (.new 84, 3) := by decide +kernel
theorem d5_7 : decode jdk_31_method_11_code 7 = .ok (.dup, 1) := by decide +kernel
theorem d5_8 : decode jdk_31_method_11_code 8 = .ok (.aload_n 1, 1) := by decide +kernel
theorem d5_9 : decode jdk_31_method_11_code 9 = .ok (.invokespecial 87, 3) := by decide +kernel
theorem d5_12 : decode jdk_31_method_11_code 12 = .ok (.athrow, 1) := by decide +kernel
theorem d5_13 : decode jdk_31_method_11_code 13 = .ok (.aload_n 0, 1) := by decide +kernel
theorem d5_14 : decode jdk_31_method_11_code 14 = .ok (.areturn, 1) := by decide +kernel
theorem d6_0 : decode prog_2_method_3_code 0 = .ok (.aload_n 0, 1) := by decide +kernel
theorem d6_1 : decode prog_2_method_3_code 1 = .ok (.invokevirtual 53, 3) := by decide +kernel
theorem d6_4 : decode prog_2_method_3_code 4 = .ok (.aload_n 0, 1) := by decide +kernel
theorem d6_5 : decode prog_2_method_3_code 5 = .ok (.getfield 37, 3) := by decide +kernel
theorem d6_8 : decode prog_2_method_3_code 8 = .ok (.aload_n 0, 1) := by decide +kernel
theorem d6_9 : decode prog_2_method_3_code 9 = .ok (.getfield 47, 3) := by decide +kernel
theorem d6_12 : decode prog_2_method_3_code 12 = .ok (.if_icmp .ge 22, 3) := by decide +kernel
theorem d6_15 : decode prog_2_method_3_code 15 = .ok (.aload_n 0, 1) := by decide +kernel
theorem d6_16 : decode prog_2_method_3_code 16 = .ok (.getfield 22, 3) := by decide +kernel
theorem d6_19 : decode prog_2_method_3_code 19 = .ok (.aload_n 0, 1) := by decide +kernel
theorem d6_20 : decode prog_2_method_3_code 20 = .ok (.dup, 1) := by decide +kernel
theorem d6_21 : decode prog_2_method_3_code 21 = .ok (.getfield 37, 3) := by decide +kernel
theorem d6_24 : decode prog_2_method_3_code 24 = .ok (.dup_x1, 1) := by decide +kernel
theorem d6_25 : decode prog_2_method_3_code 25 = .ok (.iconst 1, 1) := by decide +kernel
theorem d6_26 : decode prog_2_method_3_code 26 = .ok (.iadd, 1) := by decide +kernel
theorem d6_27 : decode prog_2_method_3_code 27 = .ok (.putfield 37, 3) := by decide +kernel
theorem d6_30 : decode prog_2_method_3_code 30 = .ok (.caload, 1) := by decide +kernel
theorem d6_31 : decode prog_2_method_3_code 31 = .ok (.goto 4, 3) := by decide +kernel
theorem d6_34 : decode prog_2_method_3_code 34 = .ok (.iconst (-1), 1) := by decide +kernel
theorem d6_35 : decode prog_2_method_3_code 35 = .ok (.ireturn, 1) := by decide +kernel
theorem d7_0 : decode prog_2_method_11_code 0 = .ok (.aload_n 0, 1) := by decide +kernel
theorem d7_1 : decode prog_2_method_11_code 1 = .ok (.getfield 22, 3) := by decide +kernel
theorem d7_4 : decode prog_2_method_11_code 4 = .ok (.ifnonnull 13, 3) := by decide +kernel
theorem d7_7 : decode prog_2_method_11_code 7 = .ok (.new 72, 3) := by decide +kernel
theorem d7_10 : decode prog_2_method_11_code 10 = .ok (.dup, 1) := by decide +kernel
theorem d7_11 : decode prog_2_method_11_code 11 = .ok (.ldc 74, 2) := by decide +kernel
theorem d7_13 : decode prog_2_method_11_code 13 = .ok (.invokespecial 76, 3) := by decide +kernel
theorem d7_16 : decode prog_2_method_11_code 16 = .ok (.athrow, 1) := by decide +kernel
theorem d7_17 : decode prog_2_method_11_code 17 = .ok (.return_, 1) := by decide +kernel
theorem d8_0 : decode method_3_code 0 = .ok (.iload_n 0, 1) := by decide +kernel
theorem d8_1 : decode method_3_code 1 = .ok (.iload_n 1, 1) := by decide +kernel
theorem d8_2 : decode method_3_code 2 = .ok (.if_icmp .lt 5, 3) := by decide +kernel
theorem d8_5 : decode method_3_code 5 = .ok (.iconst (-1), 1) := by decide +kernel
theorem d8_6 : decode method_3_code 6 = .ok (.ireturn, 1) := by decide +kernel
theorem d8_7 : decode method_3_code 7 = .ok (.iload_n 0, 1) := by decide +kernel
theorem d8_8 : decode method_3_code 8 = .ok (.ifCond .ne 5, 3) := by decide +kernel
theorem d8_11 : decode method_3_code 11 = .ok (.iload_n 2, 1) := by decide +kernel
theorem d8_12 : decode method_3_code 12 = .ok (.ireturn, 1) := by decide +kernel
theorem d8_13 : decode method_3_code 13 = .ok (.iload_n 0, 1) := by decide +kernel
theorem d8_14 : decode method_3_code 14 = .ok (.iconst 1, 1) := by decide +kernel
theorem d8_15 : decode method_3_code 15 = .ok (.if_icmp .ne 5, 3) := by decide +kernel
theorem d8_18 : decode method_3_code 18 = .ok (.iload_n 3, 1) := by decide +kernel
theorem d8_19 : decode method_3_code 19 = .ok (.ireturn, 1) := by decide +kernel
theorem d8_20 : decode method_3_code 20 = .ok (.iload 4, 2) := by decide +kernel
theorem d8_22 : decode method_3_code 22 = .ok (.ireturn, 1) := by decide +kernel
theorem own_wS (Z : State) (a0 : Array Value) (hw : ∀ d ∈ tables_1, d.before a0 Z = true) : ∀ d ∈ Bundle.stringAtoms, d.before a0 Z = true := by
  intro d hd
  simp only [Bundle.stringAtoms, List.mem_cons, List.not_mem_nil, or_false] at hd
  rcases hd with rfl | rfl | rfl | rfl | rfl | rfl | rfl
  all_goals first | exact (hw _ (List.mem_of_getElem? (i := 25) rfl)) | exact (hw _ (List.mem_of_getElem? (i := 26) rfl)) | exact (hw _ (List.mem_of_getElem? (i := 27) rfl)) | exact (hw _ (List.mem_of_getElem? (i := 28) rfl)) | exact (hw _ (List.mem_of_getElem? (i := 29) rfl)) | exact (hw _ (List.mem_of_getElem? (i := 30) rfl)) | exact (hw _ (List.mem_of_getElem? (i := 31) rfl))
theorem own_pn0 : plainName "charwell/array/ArrayCharReaderReadPinLaw" = true := by decide +kernel
theorem own_pn2 : plainName "charwell/array/ArrayCharReader" = true := by decide +kernel
theorem own_pn3 : plainName "java/io/Reader" = true := by decide +kernel
theorem own_pn5 : plainName "java/util/Objects" = true := by decide +kernel
theorem own_pd0 : parseMethodDescriptor "(IIIII)Z" = some ⟨[.int, .int, .int, .int, .int], (some .boolean)⟩ := by decide +kernel
theorem own_pd1 : parseMethodDescriptor "(II)I" = some ⟨[.int, .int], (some .int)⟩ := by decide +kernel
theorem own_pd2 : parseMethodDescriptor "([CII)V" = some ⟨[(.array .char), .int, .int], none⟩ := by decide +kernel
theorem own_pd3 : parseMethodDescriptor "()V" = some ⟨[], none⟩ := by decide +kernel
theorem own_pd4 : parseMethodDescriptor "(Ljava/lang/Object;Ljava/lang/String;)Ljava/lang/Object;" = some ⟨[(.object "java/lang/Object"), (.object "java/lang/String")], (some (.object "java/lang/Object"))⟩ := by decide +kernel
theorem own_pd5 : parseMethodDescriptor "()I" = some ⟨[], (some .int)⟩ := by decide +kernel
theorem own_pd6 : parseMethodDescriptor "(IICCC)I" = some ⟨[.int, .int, .char, .char, .char], (some .int)⟩ := by decide +kernel
def own_min (f g : Int32) : Int32 := if g < f then g else f
def own_at (xs : List Int32) (p : Int32) : Int32 := xs.getD p.toNatClampNeg 0
def own_rd (xs : List Int32) (p e : Int32) : Int32 := if ¬ p < e then -1 else own_at xs p
def own_np (p e : Int32) : Int32 := if ¬ p < e then p else p + 1
theorem own_get1 (xs : List Int32) (p e : Int32) (he : e.toInt ≤ xs.length) (h0 : ¬ p < 0) (h : p < e) : (xs.map Value.int)[p.toNatClampNeg]? = some (.int (own_at xs p)) := by
  rw [Int32.lt_iff_toInt_lt] at h h0
  have z : (0 : Int32).toInt = 0 := rfl
  have q : p.toNatClampNeg < xs.length := by rw [Int32.toNatClampNeg]; omega
  unfold own_at
  simp [q]
def own_ex (i e v0 v1 v2 : Int32) : Int32 := if ¬ i < e then -1 else if ¬ i = 0 then (if ¬ i = 1 then v2 else v1) else v0
theorem own_pin (i : Int32) (p e v0 v1 v2 : Int32) (hp : (i.toInt < e.toInt → p = i) ∧ (e.toInt ≤ i.toInt → e.toInt ≤ p.toInt)) (he : e.toInt ≤ 3) (hi : 0 ≤ i.toInt) : own_rd [v0, v1, v2] p e = own_ex i e v0 v1 v2 := by
  unfold own_rd own_ex
  by_cases h : i < e
  · have h' := h
    rw [Int32.lt_iff_toInt_lt] at h'
    have e1 := hp.1 h'
    subst e1
    rw [if_neg (fun q => q h), if_neg (fun q => q h)]
    have hc : p = 0 ∨ p = 1 ∨ p = 2 := by simp only [← Int32.toInt_inj, Int32.reduceToInt]; omega
    rcases hc with rfl | rfl | rfl <;> rfl
  · have h' := h
    rw [Int32.lt_iff_toInt_lt] at h'
    have q : ¬ p < e := by rw [Int32.lt_iff_toInt_lt]; have := hp.2 (by omega); omega
    rw [if_pos q, if_pos h]
theorem own_pstep (i j p e : Int32) (hp : (i.toInt < e.toInt → p = i) ∧ (e.toInt ≤ i.toInt → e.toInt ≤ p.toInt)) (hj : j.toInt = i.toInt + 1) (hi : 0 ≤ i.toInt) : (j.toInt < e.toInt → own_np p e = j) ∧ (e.toInt ≤ j.toInt → e.toInt ≤ (own_np p e).toInt) := by
  unfold own_np
  have o : (1 : Int32).toInt = 1 := rfl
  by_cases h : p < e
  · rw [if_neg (fun q => q h)]
    rw [Int32.lt_iff_toInt_lt] at h
    have a := c_iadd p 1; have b := rng32 (p + 1); have c := rng32 p; have d := rng32 e
    have q : i.toInt < e.toInt := by
      rcases Int.lt_or_le i.toInt e.toInt with u | u
      · exact u
      · have := hp.2 u; omega
    have e1 := hp.1 q
    subst e1
    refine ⟨fun _ => ?_, fun _ => ?_⟩
    · rw [← Int32.toInt_inj]; omega
    · omega
  · rw [if_pos h]
    rw [Int32.lt_iff_toInt_lt] at h
    refine ⟨fun u => ?_, fun _ => by omega⟩
    have := hp.1 (by omega)
    subst this
    omega
theorem own_npok (p e : Int32) (h : ¬ p < 0) (he : e.toInt ≤ 3) : ¬ own_np p e < 0 := by
  unfold own_np
  split
  · exact h
  · rename_i q
    rw [Int32.lt_iff_toInt_lt] at *
    have a := c_iadd p 1; have b := rng32 (p + 1); have c := rng32 p
    have o : (1 : Int32).toInt = 1 := rfl
    have z : (0 : Int32).toInt = 0 := rfl
    have q' : p.toInt < e.toInt := by rcases Int.lt_or_le p.toInt e.toInt with u | u; exact u; exact absurd (fun w => by omega) q
    omega
theorem own_minle (f g : Int32) : (own_min f g).toInt ≤ g.toInt ∧ (own_min f g).toInt ≤ f.toInt := by
  unfold own_min
  split
  · rename_i h; rw [Int32.lt_iff_toInt_lt] at h; omega
  · rename_i h; rw [Int32.lt_iff_toInt_lt] at h; omega
set_option maxRecDepth 65536 in
set_option maxHeartbeats 40000000 in
theorem own_minW (l : Launch) (Z : State) (a0 : Array Value) (hw : ∀ d ∈ tables_1, d.before a0 Z = true) (f g : Int32) (h0 : Heap) (n0 : Nat) (hn0 : n0 ≤ h0.size) :
    own_W l Z (⟨"java/lang/Math", "min", "(II)I"⟩ : MethodName) jdk_29_method_69_code 2 (some .int) ({ frames := 0, cells := 0, slots := 0, locals := 0 } : Room) n0 (fun v h => v = some (.int (own_min f g)) ∧ h0 = h) h0 0 0 0 #[.val (.int f), .val (.int g)] [] := by
  refine own_iloadN (pc' := 1) d1_0 rfl rfl ?_
  refine own_iloadN (pc' := 2) d1_1 rfl rfl ?_
  refine own_ic_gt (pc' := 9) (pf := 5) d1_2 (by decide) (by decide) rfl (fun h_2 => ?_) (fun h_2 => ?_)
  · refine own_iloadN (pc' := 10) d1_9 rfl rfl ?_
    exact own_iret rfl d1_10 ⟨by first | contradiction | (simp only [own_min, *, ↓reduceIte]; done) | (simp [own_min, *]; done) | (simp_all [own_min]; done), rfl⟩
  · refine own_iloadN (pc' := 6) d1_5 rfl rfl ?_
    refine own_goto (pc' := 10) d1_6 (by decide) (by decide) ?_
    exact own_iret rfl d1_10 ⟨by first | contradiction | (simp only [own_min, *, ↓reduceIte]; done) | (simp [own_min, *]; done) | (simp_all [own_min]; done), rfl⟩
set_option maxRecDepth 65536 in
set_option maxHeartbeats 40000000 in
theorem own_rnn (l : Launch) (Z : State) (a0 : Array Value) (hw : ∀ d ∈ tables_1, d.before a0 Z = true) (s u : Addr) (h0 : Heap) (n0 : Nat) (hn0 : n0 ≤ h0.size) :
    own_W l Z (⟨"java/util/Objects", "requireNonNull", "(Ljava/lang/Object;Ljava/lang/String;)Ljava/lang/Object;"⟩ : MethodName) jdk_31_method_11_code 2 (some (.object "java/lang/Object")) ({ frames := 0, cells := 0, slots := 0, locals := 0 } : Room) n0 (fun v h => v = some (.ref s) ∧ h0 = h) h0 0 0 0 #[.val (.ref s), .val (.ref u)] [] := by
  refine own_aloadN (pc' := 1) d5_0 rfl rfl ?_
  refine own_ifnonnull_t (pc' := 13) d5_1 (by decide) (by decide) ?_
  refine own_aloadN (pc' := 14) d5_13 rfl rfl ?_
  exact own_aret rfl rfl rfl d5_14 ⟨rfl, rfl⟩
set_option maxRecDepth 65536 in
set_option maxHeartbeats 40000000 in
theorem own_reader (l : Launch) (Z : State) (a0 : Array Value) (hw : ∀ d ∈ tables_1, d.before a0 Z = true) (o : Addr) (h0 : Heap) (n0 : Nat) (hn0 : n0 ≤ h0.size) (ge_o : n0 ≤ o) (E_o : Exa Z h0 o "charwell/array/ArrayCharReader") (F_o_skipBuffer : Fld Z h0 o "java/io/Reader" "skipBuffer" "[C" (.null)) (F_o_lock : Fld Z h0 o "java/io/Reader" "lock" "Ljava/lang/Object;" (.null)) (F_o_buf : Fld Z h0 o "charwell/array/ArrayCharReader" "buf" "[C" (.null)) (F_o_pos : Fld Z h0 o "charwell/array/ArrayCharReader" "pos" "I" (.int 0)) (F_o_end : Fld Z h0 o "charwell/array/ArrayCharReader" "end" "I" (.int 0)) (F_o_markedPos : Fld Z h0 o "charwell/array/ArrayCharReader" "markedPos" "I" (.int 0)) :
    own_W l Z (⟨"java/io/Reader", "<init>", "()V"⟩ : MethodName) jdk_2043_method_2_code 1 none ({ frames := 1, cells := 0, slots := 0, locals := 12 } : Room) n0 (fun v h => v = none ∧ Keep h0 h [o] ∧ Exa Z h o "charwell/array/ArrayCharReader" ∧ Fld Z h o "java/io/Reader" "skipBuffer" "[C" (.null) ∧ Fld Z h o "java/io/Reader" "lock" "Ljava/lang/Object;" (.ref o) ∧ Fld Z h o "charwell/array/ArrayCharReader" "buf" "[C" (.null) ∧ Fld Z h o "charwell/array/ArrayCharReader" "pos" "I" (.int 0) ∧ Fld Z h o "charwell/array/ArrayCharReader" "end" "I" (.int 0) ∧ Fld Z h o "charwell/array/ArrayCharReader" "markedPos" "I" (.int 0)) h0 0 0 0 #[.val (.ref o)] [] := by
  refine own_aloadN (pc' := 1) d3_0 rfl rfl ?_
  refine own_initO (pc' := 4) (W := 0) (hw _ (List.mem_of_getElem? (i := 17) rfl)) (hw _ (List.mem_of_getElem? (i := 18) rfl)) (hw _ (List.mem_of_getElem? (i := 19) rfl)) d3_1 rfl rfl (by decide) (Nat.le_refl _) (by decide) ?_
  refine own_aloadN (pc' := 5) d3_4 rfl rfl ?_
  refine own_aconstNull (pc' := 6) d3_5 rfl ?_
  refine own_putF (pc' := 9) (hw _ (List.mem_of_getElem? (i := 20) rfl)) F_o_skipBuffer E_o (Or.inl (hw _ (List.mem_of_getElem? (i := 21) rfl))) (hw _ (List.mem_of_getElem? (i := 7) rfl)) ge_o (ty := (.array .char)) (by decide) rfl rfl d3_6 rfl (fun h1 Wr2 K3 => ?_)
  replace E_o := E_o.wr Wr2
  replace F_o_skipBuffer := F_o_skipBuffer.same Wr2
  replace F_o_lock := F_o_lock.other Wr2 (Or.inr (slot_ne (a0 := a0) (Or.inl (hw _ (List.mem_of_getElem? (i := 23) rfl))) (Or.inl (hw _ (List.mem_of_getElem? (i := 21) rfl))) (by decide) (t := (.object "java/lang/Object")) (by decide) (t' := (.array .char)) (by decide)))
  replace F_o_buf := F_o_buf.other Wr2 (Or.inr (slot_ne (a0 := a0) (Or.inl (hw _ (List.mem_of_getElem? (i := 39) rfl))) (Or.inl (hw _ (List.mem_of_getElem? (i := 21) rfl))) (by decide) (t := (.array .char)) (by decide) (t' := (.array .char)) (by decide)))
  replace F_o_pos := F_o_pos.other Wr2 (Or.inr (slot_ne (a0 := a0) (Or.inl (hw _ (List.mem_of_getElem? (i := 41) rfl))) (Or.inl (hw _ (List.mem_of_getElem? (i := 21) rfl))) (by decide) (t := .int) (by decide) (t' := (.array .char)) (by decide)))
  replace F_o_end := F_o_end.other Wr2 (Or.inr (slot_ne (a0 := a0) (Or.inr (hw _ (List.mem_of_getElem? (i := 44) rfl))) (Or.inl (hw _ (List.mem_of_getElem? (i := 21) rfl))) (by decide) (t := .int) (by decide) (t' := (.array .char)) (by decide)))
  replace F_o_markedPos := F_o_markedPos.other Wr2 (Or.inr (slot_ne (a0 := a0) (Or.inl (hw _ (List.mem_of_getElem? (i := 46) rfl))) (Or.inl (hw _ (List.mem_of_getElem? (i := 21) rfl))) (by decide) (t := .int) (by decide) (t' := (.array .char)) (by decide)))
  replace hn0 : n0 ≤ h1.size := Nat.le_trans hn0 K3.1
  refine own_aloadN (pc' := 10) d3_9 rfl rfl ?_
  refine own_aloadN (pc' := 11) d3_10 rfl rfl ?_
  refine own_putF (pc' := 14) (hw _ (List.mem_of_getElem? (i := 22) rfl)) F_o_lock E_o (Or.inl (hw _ (List.mem_of_getElem? (i := 23) rfl))) (hw _ (List.mem_of_getElem? (i := 7) rfl)) ge_o (ty := (.object "java/lang/Object")) (by decide) rfl rfl d3_11 rfl (fun h4 Wr5 K6 => ?_)
  replace E_o := E_o.wr Wr5
  replace F_o_skipBuffer := F_o_skipBuffer.other Wr5 (Or.inr (slot_ne (a0 := a0) (Or.inl (hw _ (List.mem_of_getElem? (i := 21) rfl))) (Or.inl (hw _ (List.mem_of_getElem? (i := 23) rfl))) (by decide) (t := (.array .char)) (by decide) (t' := (.object "java/lang/Object")) (by decide)))
  replace F_o_lock := F_o_lock.same Wr5
  replace F_o_buf := F_o_buf.other Wr5 (Or.inr (slot_ne (a0 := a0) (Or.inl (hw _ (List.mem_of_getElem? (i := 39) rfl))) (Or.inl (hw _ (List.mem_of_getElem? (i := 23) rfl))) (by decide) (t := (.array .char)) (by decide) (t' := (.object "java/lang/Object")) (by decide)))
  replace F_o_pos := F_o_pos.other Wr5 (Or.inr (slot_ne (a0 := a0) (Or.inl (hw _ (List.mem_of_getElem? (i := 41) rfl))) (Or.inl (hw _ (List.mem_of_getElem? (i := 23) rfl))) (by decide) (t := .int) (by decide) (t' := (.object "java/lang/Object")) (by decide)))
  replace F_o_end := F_o_end.other Wr5 (Or.inr (slot_ne (a0 := a0) (Or.inr (hw _ (List.mem_of_getElem? (i := 44) rfl))) (Or.inl (hw _ (List.mem_of_getElem? (i := 23) rfl))) (by decide) (t := .int) (by decide) (t' := (.object "java/lang/Object")) (by decide)))
  replace F_o_markedPos := F_o_markedPos.other Wr5 (Or.inr (slot_ne (a0 := a0) (Or.inl (hw _ (List.mem_of_getElem? (i := 46) rfl))) (Or.inl (hw _ (List.mem_of_getElem? (i := 23) rfl))) (by decide) (t := .int) (by decide) (t' := (.object "java/lang/Object")) (by decide)))
  replace hn0 : n0 ≤ h4.size := Nat.le_trans hn0 K6.1
  exact own_ret rfl d3_14 ⟨rfl, (((Keep.refl h0 [o]).trans K3 (fun x hx => Or.inl hx)).trans K6 (fun x hx => Or.inl hx)), E_o, F_o_skipBuffer, F_o_lock, F_o_buf, F_o_pos, F_o_end, F_o_markedPos⟩
set_option maxRecDepth 65536 in
set_option maxHeartbeats 40000000 in
theorem own_mk (l : Launch) (Z : State) (a0 : Array Value) (hw : ∀ d ∈ tables_1, d.before a0 Z = true) (o s : Addr) (vs : List Value) (off len n : Int32) (h0 : Heap) (n0 : Nat) (hn0 : n0 ≤ h0.size) (hlen : vs.length.toInt32 = n) (h1 : ¬ off < 0) (h2 : ¬ n < off) (h3 : ¬ len < 0) (h4 : ¬ (off + len) < 0) (ge_o : n0 ≤ o) (ne_o_s : o ≠ s) (A_s : own_A Z h0 s .char vs) (E_s : Exa Z h0 s "[C") (E_o : Exa Z h0 o "charwell/array/ArrayCharReader") (F_o_skipBuffer : Fld Z h0 o "java/io/Reader" "skipBuffer" "[C" (.null)) (F_o_lock : Fld Z h0 o "java/io/Reader" "lock" "Ljava/lang/Object;" (.null)) (F_o_buf : Fld Z h0 o "charwell/array/ArrayCharReader" "buf" "[C" (.null)) (F_o_pos : Fld Z h0 o "charwell/array/ArrayCharReader" "pos" "I" (.int 0)) (F_o_end : Fld Z h0 o "charwell/array/ArrayCharReader" "end" "I" (.int 0)) (F_o_markedPos : Fld Z h0 o "charwell/array/ArrayCharReader" "markedPos" "I" (.int 0)) :
    own_W l Z (⟨"charwell/array/ArrayCharReader", "<init>", "([CII)V"⟩ : MethodName) prog_2_method_2_code 4 none ({ frames := 2, cells := 2, slots := 16, locals := 24 } : Room) n0 (fun v h => v = none ∧ Keep h0 h [o] ∧ Exa Z h o "charwell/array/ArrayCharReader" ∧ Fld Z h o "charwell/array/ArrayCharReader" "buf" "[C" (.ref s) ∧ Fld Z h o "charwell/array/ArrayCharReader" "pos" "I" (.int off) ∧ Fld Z h o "charwell/array/ArrayCharReader" "end" "I" (.int (own_min (off + len) n)) ∧ Fld Z h o "charwell/array/ArrayCharReader" "markedPos" "I" (.int off)) h0 0 0 0 #[.val (.ref o), .val (.ref s), .val (.int off), .val (.int len)] [] := by
  refine own_aloadN (pc' := 1) d2_0 rfl rfl ?_
  refine own_special (ret' := none) (own_reader l Z a0 hw o h0 n0 hn0 ge_o E_o F_o_skipBuffer F_o_lock F_o_buf F_o_pos F_o_end F_o_markedPos) (hw _ (List.mem_of_getElem? (i := 12) rfl)) (hw _ (List.mem_of_getElem? (i := 13) rfl)) (hw _ (List.mem_of_getElem? (i := 15) rfl)) (hw _ (List.mem_of_getElem? (i := 16) rfl)) rfl (plainFor_of_name own_pn3) (by decide) own_pd3 rfl (argsL := []) (rest := []) rfl rfl (W := 0) (Nat.le_refl _) (by decide) (by decide) (by decide) (by decide) rfl d2_1 (pc' := 4) rfl (fun v_ h7 hq => ?_)
  obtain ⟨rfl, K_r, E_r, G_skipBuffer, G_lock, G_buf, G_pos, G_end, G_markedPos⟩ := hq
  show own_W l Z (⟨"charwell/array/ArrayCharReader", "<init>", "([CII)V"⟩ : MethodName) prog_2_method_2_code 4 none ({ frames := 2, cells := 2, slots := 16, locals := 24 } : Room) n0 (fun v h => v = none ∧ Keep h0 h [o] ∧ Exa Z h o "charwell/array/ArrayCharReader" ∧ Fld Z h o "charwell/array/ArrayCharReader" "buf" "[C" (.ref s) ∧ Fld Z h o "charwell/array/ArrayCharReader" "pos" "I" (.int off) ∧ Fld Z h o "charwell/array/ArrayCharReader" "end" "I" (.int (own_min (off + len) n)) ∧ Fld Z h o "charwell/array/ArrayCharReader" "markedPos" "I" (.int off)) h7 0 0 4 #[.val (.ref o), .val (.ref s), .val (.int off), .val (.int len)] []
  replace E_o := E_r
  replace F_o_skipBuffer := G_skipBuffer
  replace F_o_lock := G_lock
  replace F_o_buf := G_buf
  replace F_o_pos := G_pos
  replace F_o_end := G_end
  replace F_o_markedPos := G_markedPos
  replace A_s := A_s.keep K_r (ninS (Ne.symm ne_o_s) nin0)
  replace E_s := E_s.keep K_r
  replace hn0 : n0 ≤ h7.size := Nat.le_trans hn0 K_r.1
  refine own_aloadN (pc' := 5) d2_4 rfl rfl ?_
  refine own_aloadN (pc' := 6) d2_5 rfl rfl ?_
  refine own_ldcS (pc' := 8) (n := 12) (hw _ (List.mem_of_getElem? (i := 24) rfl)) (own_wS Z a0 hw) d2_6 rfl (by decide) (by decide) (by decide) (by decide) (fun h8 u E9 => ?_)
  replace E_o := E_o.ext E9
  replace F_o_skipBuffer := F_o_skipBuffer.ext E9
  replace F_o_lock := F_o_lock.ext E9
  replace F_o_buf := F_o_buf.ext E9
  replace F_o_pos := F_o_pos.ext E9
  replace F_o_end := F_o_end.ext E9
  replace F_o_markedPos := F_o_markedPos.ext E9
  replace A_s := A_s.ext E9
  replace E_s := E_s.ext E9
  replace hn0 : n0 ≤ h8.size := Nat.le_trans hn0 E9.1
  refine own_static (own_rnn l Z a0 hw s u h8 n0 hn0) (hw _ (List.mem_of_getElem? (i := 32) rfl)) (hw _ (List.mem_of_getElem? (i := 33) rfl)) (hw _ (List.mem_of_getElem? (i := 34) rfl)) (hw _ (List.mem_of_getElem? (i := 35) rfl)) (plainFor_of_name own_pn5) (by decide) own_pd4 rfl (argsL := [.ref s, .ref u]) (rest := [.ref o]) rfl rfl (W := 1) (Nat.le_refl _) (by decide) (by decide) (by decide) (by decide) rfl d2_8 (pc' := 11) rfl (fun v_ h10 hq => ?_)
  obtain ⟨rfl, rfl⟩ := hq
  show own_W l Z (⟨"charwell/array/ArrayCharReader", "<init>", "([CII)V"⟩ : MethodName) prog_2_method_2_code 4 none ({ frames := 2, cells := 2, slots := 16, locals := 24 } : Room) n0 (fun v h => v = none ∧ Keep h0 h [o] ∧ Exa Z h o "charwell/array/ArrayCharReader" ∧ Fld Z h o "charwell/array/ArrayCharReader" "buf" "[C" (.ref s) ∧ Fld Z h o "charwell/array/ArrayCharReader" "pos" "I" (.int off) ∧ Fld Z h o "charwell/array/ArrayCharReader" "end" "I" (.int (own_min (off + len) n)) ∧ Fld Z h o "charwell/array/ArrayCharReader" "markedPos" "I" (.int off)) h8 2 16 11 #[.val (.ref o), .val (.ref s), .val (.int off), .val (.int len)] [.ref s, .ref o]
  refine own_cast (pc' := 14) (hw _ (List.mem_of_getElem? (i := 36) rfl)) (Ins.self E_s) d2_11 rfl ?_
  refine own_putF (pc' := 17) (hw _ (List.mem_of_getElem? (i := 38) rfl)) F_o_buf E_o (Or.inl (hw _ (List.mem_of_getElem? (i := 39) rfl))) (hw _ (List.mem_of_getElem? (i := 7) rfl)) ge_o (ty := (.array .char)) (by decide) rfl rfl d2_14 rfl (fun h11 Wr12 K13 => ?_)
  replace E_o := E_o.wr Wr12
  replace F_o_skipBuffer := F_o_skipBuffer.other Wr12 (Or.inr (slot_ne (a0 := a0) (Or.inl (hw _ (List.mem_of_getElem? (i := 21) rfl))) (Or.inl (hw _ (List.mem_of_getElem? (i := 39) rfl))) (by decide) (t := (.array .char)) (by decide) (t' := (.array .char)) (by decide)))
  replace F_o_lock := F_o_lock.other Wr12 (Or.inr (slot_ne (a0 := a0) (Or.inl (hw _ (List.mem_of_getElem? (i := 23) rfl))) (Or.inl (hw _ (List.mem_of_getElem? (i := 39) rfl))) (by decide) (t := (.object "java/lang/Object")) (by decide) (t' := (.array .char)) (by decide)))
  replace F_o_buf := F_o_buf.same Wr12
  replace F_o_pos := F_o_pos.other Wr12 (Or.inr (slot_ne (a0 := a0) (Or.inl (hw _ (List.mem_of_getElem? (i := 41) rfl))) (Or.inl (hw _ (List.mem_of_getElem? (i := 39) rfl))) (by decide) (t := .int) (by decide) (t' := (.array .char)) (by decide)))
  replace F_o_end := F_o_end.other Wr12 (Or.inr (slot_ne (a0 := a0) (Or.inr (hw _ (List.mem_of_getElem? (i := 44) rfl))) (Or.inl (hw _ (List.mem_of_getElem? (i := 39) rfl))) (by decide) (t := .int) (by decide) (t' := (.array .char)) (by decide)))
  replace F_o_markedPos := F_o_markedPos.other Wr12 (Or.inr (slot_ne (a0 := a0) (Or.inl (hw _ (List.mem_of_getElem? (i := 46) rfl))) (Or.inl (hw _ (List.mem_of_getElem? (i := 39) rfl))) (by decide) (t := .int) (by decide) (t' := (.array .char)) (by decide)))
  replace A_s := A_s.keep K13 (ninS (Ne.symm ne_o_s) nin0)
  replace E_s := E_s.wr Wr12
  replace hn0 : n0 ≤ h11.size := Nat.le_trans hn0 K13.1
  refine own_iloadN (pc' := 18) d2_17 rfl rfl ?_
  refine own_if_lt_f (pc' := 21) d2_18 h1 rfl ?_
  refine own_iloadN (pc' := 22) d2_21 rfl rfl ?_
  refine own_aloadN (pc' := 23) d2_22 rfl rfl ?_
  refine own_len (pc' := 24) (n := n) A_s hlen d2_23 rfl ?_
  refine own_ic_le_t (pc' := 43) d2_24 h2 (by decide) (by decide) ?_
  refine own_iloadN (pc' := 44) d2_43 rfl rfl ?_
  refine own_if_ge_t (pc' := 61) d2_44 h3 (by decide) (by decide) ?_
  refine own_iloadN (pc' := 62) d2_61 rfl rfl ?_
  refine own_iloadN (pc' := 63) d2_62 rfl rfl ?_
  refine own_iadd (pc' := 64) d2_63 rfl ?_
  refine own_if_ge_t (pc' := 82) d2_64 h4 (by decide) (by decide) ?_
  refine own_aloadN (pc' := 83) d2_82 rfl rfl ?_
  refine own_iloadN (pc' := 84) d2_83 rfl rfl ?_
  refine own_putF (pc' := 87) (hw _ (List.mem_of_getElem? (i := 40) rfl)) F_o_pos E_o (Or.inl (hw _ (List.mem_of_getElem? (i := 41) rfl))) (hw _ (List.mem_of_getElem? (i := 7) rfl)) ge_o (ty := .int) (by decide) rfl rfl d2_84 rfl (fun h14 Wr15 K16 => ?_)
  replace E_o := E_o.wr Wr15
  replace F_o_skipBuffer := F_o_skipBuffer.other Wr15 (Or.inr (slot_ne (a0 := a0) (Or.inl (hw _ (List.mem_of_getElem? (i := 21) rfl))) (Or.inl (hw _ (List.mem_of_getElem? (i := 41) rfl))) (by decide) (t := (.array .char)) (by decide) (t' := .int) (by decide)))
  replace F_o_lock := F_o_lock.other Wr15 (Or.inr (slot_ne (a0 := a0) (Or.inl (hw _ (List.mem_of_getElem? (i := 23) rfl))) (Or.inl (hw _ (List.mem_of_getElem? (i := 41) rfl))) (by decide) (t := (.object "java/lang/Object")) (by decide) (t' := .int) (by decide)))
  replace F_o_buf := F_o_buf.other Wr15 (Or.inr (slot_ne (a0 := a0) (Or.inl (hw _ (List.mem_of_getElem? (i := 39) rfl))) (Or.inl (hw _ (List.mem_of_getElem? (i := 41) rfl))) (by decide) (t := (.array .char)) (by decide) (t' := .int) (by decide)))
  replace F_o_pos := F_o_pos.same Wr15
  replace F_o_end := F_o_end.other Wr15 (Or.inr (slot_ne (a0 := a0) (Or.inr (hw _ (List.mem_of_getElem? (i := 44) rfl))) (Or.inl (hw _ (List.mem_of_getElem? (i := 41) rfl))) (by decide) (t := .int) (by decide) (t' := .int) (by decide)))
  replace F_o_markedPos := F_o_markedPos.other Wr15 (Or.inr (slot_ne (a0 := a0) (Or.inl (hw _ (List.mem_of_getElem? (i := 46) rfl))) (Or.inl (hw _ (List.mem_of_getElem? (i := 41) rfl))) (by decide) (t := .int) (by decide) (t' := .int) (by decide)))
  replace A_s := A_s.keep K16 (ninS (Ne.symm ne_o_s) nin0)
  replace E_s := E_s.wr Wr15
  replace hn0 : n0 ≤ h14.size := Nat.le_trans hn0 K16.1
  refine own_aloadN (pc' := 88) d2_87 rfl rfl ?_
  refine own_iloadN (pc' := 89) d2_88 rfl rfl ?_
  refine own_iloadN (pc' := 90) d2_89 rfl rfl ?_
  refine own_iadd (pc' := 91) d2_90 rfl ?_
  refine own_aloadN (pc' := 92) d2_91 rfl rfl ?_
  refine own_len (pc' := 93) (n := n) A_s hlen d2_92 rfl ?_
  refine own_static (own_minW l Z a0 hw (off + len) n h14 n0 hn0) (hw _ (List.mem_of_getElem? (i := 42) rfl)) (hw _ (List.mem_of_getElem? (i := 3) rfl)) (hw _ (List.mem_of_getElem? (i := 4) rfl)) (hw _ (List.mem_of_getElem? (i := 5) rfl)) (Jvm.Free.JP.mathPlain rfl (by decide)) (by decide) own_pd1 rfl (argsL := [.int (off + len), .int n]) (rest := [.ref o]) rfl rfl (W := 1) (Nat.le_refl _) (by decide) (by decide) (by decide) (by decide) rfl d2_93 (pc' := 96) rfl (fun v_ h17 hq => ?_)
  obtain ⟨rfl, rfl⟩ := hq
  show own_W l Z (⟨"charwell/array/ArrayCharReader", "<init>", "([CII)V"⟩ : MethodName) prog_2_method_2_code 4 none ({ frames := 2, cells := 2, slots := 16, locals := 24 } : Room) n0 (fun v h => v = none ∧ Keep h0 h [o] ∧ Exa Z h o "charwell/array/ArrayCharReader" ∧ Fld Z h o "charwell/array/ArrayCharReader" "buf" "[C" (.ref s) ∧ Fld Z h o "charwell/array/ArrayCharReader" "pos" "I" (.int off) ∧ Fld Z h o "charwell/array/ArrayCharReader" "end" "I" (.int (own_min (off + len) n)) ∧ Fld Z h o "charwell/array/ArrayCharReader" "markedPos" "I" (.int off)) h14 2 16 96 #[.val (.ref o), .val (.ref s), .val (.int off), .val (.int len)] [.int (own_min (off + len) n), .ref o]
  refine own_putF (pc' := 99) (hw _ (List.mem_of_getElem? (i := 43) rfl)) F_o_end E_o (Or.inr ⟨(hw _ (List.mem_of_getElem? (i := 44) rfl)), rfl, rfl⟩) (hw _ (List.mem_of_getElem? (i := 7) rfl)) ge_o (ty := .int) (by decide) rfl rfl d2_96 rfl (fun h18 Wr19 K20 => ?_)
  replace E_o := E_o.wr Wr19
  replace F_o_skipBuffer := F_o_skipBuffer.other Wr19 (Or.inr (slot_ne (a0 := a0) (Or.inl (hw _ (List.mem_of_getElem? (i := 21) rfl))) (Or.inr (hw _ (List.mem_of_getElem? (i := 44) rfl))) (by decide) (t := (.array .char)) (by decide) (t' := .int) (by decide)))
  replace F_o_lock := F_o_lock.other Wr19 (Or.inr (slot_ne (a0 := a0) (Or.inl (hw _ (List.mem_of_getElem? (i := 23) rfl))) (Or.inr (hw _ (List.mem_of_getElem? (i := 44) rfl))) (by decide) (t := (.object "java/lang/Object")) (by decide) (t' := .int) (by decide)))
  replace F_o_buf := F_o_buf.other Wr19 (Or.inr (slot_ne (a0 := a0) (Or.inl (hw _ (List.mem_of_getElem? (i := 39) rfl))) (Or.inr (hw _ (List.mem_of_getElem? (i := 44) rfl))) (by decide) (t := (.array .char)) (by decide) (t' := .int) (by decide)))
  replace F_o_pos := F_o_pos.other Wr19 (Or.inr (slot_ne (a0 := a0) (Or.inl (hw _ (List.mem_of_getElem? (i := 41) rfl))) (Or.inr (hw _ (List.mem_of_getElem? (i := 44) rfl))) (by decide) (t := .int) (by decide) (t' := .int) (by decide)))
  replace F_o_end := F_o_end.same Wr19
  replace F_o_markedPos := F_o_markedPos.other Wr19 (Or.inr (slot_ne (a0 := a0) (Or.inl (hw _ (List.mem_of_getElem? (i := 46) rfl))) (Or.inr (hw _ (List.mem_of_getElem? (i := 44) rfl))) (by decide) (t := .int) (by decide) (t' := .int) (by decide)))
  replace A_s := A_s.keep K20 (ninS (Ne.symm ne_o_s) nin0)
  replace E_s := E_s.wr Wr19
  replace hn0 : n0 ≤ h18.size := Nat.le_trans hn0 K20.1
  refine own_aloadN (pc' := 100) d2_99 rfl rfl ?_
  refine own_iloadN (pc' := 101) d2_100 rfl rfl ?_
  refine own_putF (pc' := 104) (hw _ (List.mem_of_getElem? (i := 45) rfl)) F_o_markedPos E_o (Or.inl (hw _ (List.mem_of_getElem? (i := 46) rfl))) (hw _ (List.mem_of_getElem? (i := 7) rfl)) ge_o (ty := .int) (by decide) rfl rfl d2_101 rfl (fun h21 Wr22 K23 => ?_)
  replace E_o := E_o.wr Wr22
  replace F_o_skipBuffer := F_o_skipBuffer.other Wr22 (Or.inr (slot_ne (a0 := a0) (Or.inl (hw _ (List.mem_of_getElem? (i := 21) rfl))) (Or.inl (hw _ (List.mem_of_getElem? (i := 46) rfl))) (by decide) (t := (.array .char)) (by decide) (t' := .int) (by decide)))
  replace F_o_lock := F_o_lock.other Wr22 (Or.inr (slot_ne (a0 := a0) (Or.inl (hw _ (List.mem_of_getElem? (i := 23) rfl))) (Or.inl (hw _ (List.mem_of_getElem? (i := 46) rfl))) (by decide) (t := (.object "java/lang/Object")) (by decide) (t' := .int) (by decide)))
  replace F_o_buf := F_o_buf.other Wr22 (Or.inr (slot_ne (a0 := a0) (Or.inl (hw _ (List.mem_of_getElem? (i := 39) rfl))) (Or.inl (hw _ (List.mem_of_getElem? (i := 46) rfl))) (by decide) (t := (.array .char)) (by decide) (t' := .int) (by decide)))
  replace F_o_pos := F_o_pos.other Wr22 (Or.inr (slot_ne (a0 := a0) (Or.inl (hw _ (List.mem_of_getElem? (i := 41) rfl))) (Or.inl (hw _ (List.mem_of_getElem? (i := 46) rfl))) (by decide) (t := .int) (by decide) (t' := .int) (by decide)))
  replace F_o_end := F_o_end.other Wr22 (Or.inr (slot_ne (a0 := a0) (Or.inr (hw _ (List.mem_of_getElem? (i := 44) rfl))) (Or.inl (hw _ (List.mem_of_getElem? (i := 46) rfl))) (by decide) (t := .int) (by decide) (t' := .int) (by decide)))
  replace F_o_markedPos := F_o_markedPos.same Wr22
  replace A_s := A_s.keep K23 (ninS (Ne.symm ne_o_s) nin0)
  replace E_s := E_s.wr Wr22
  replace hn0 : n0 ≤ h21.size := Nat.le_trans hn0 K23.1
  exact own_ret rfl d2_104 ⟨rfl, (((((K_r.ext E9).trans K13 (fun x hx => Or.inl hx)).trans K16 (fun x hx => Or.inl hx)).trans K20 (fun x hx => Or.inl hx)).trans K23 (fun x hx => Or.inl hx)), E_o, F_o_buf, F_o_pos, F_o_end, F_o_markedPos⟩
set_option maxRecDepth 65536 in
set_option maxHeartbeats 40000000 in
theorem own_openW (l : Launch) (Z : State) (a0 : Array Value) (hw : ∀ d ∈ tables_1, d.before a0 Z = true) (o s : Addr) (h0 : Heap) (n0 : Nat) (hn0 : n0 ≤ h0.size) (F_o_buf : Fld Z h0 o "charwell/array/ArrayCharReader" "buf" "[C" (.ref s)) :
    own_W l Z (⟨"charwell/array/ArrayCharReader", "ensureOpen", "()V"⟩ : MethodName) prog_2_method_11_code 1 none ({ frames := 0, cells := 0, slots := 0, locals := 0 } : Room) n0 (fun v h => v = none ∧ h0 = h) h0 0 0 0 #[.val (.ref o)] [] := by
  refine own_aloadN (pc' := 1) d7_0 rfl rfl ?_
  refine own_getF (pc' := 4) (hw _ (List.mem_of_getElem? (i := 38) rfl)) F_o_buf d7_1 rfl ?_
  refine own_ifnonnull_t (pc' := 17) d7_4 (by decide) (by decide) ?_
  exact own_ret rfl d7_17 ⟨rfl, rfl⟩
set_option maxRecDepth 65536 in
set_option maxHeartbeats 40000000 in
theorem own_rdW (l : Launch) (Z : State) (a0 : Array Value) (hw : ∀ d ∈ tables_1, d.before a0 Z = true) (o s : Addr) (xs : List Int32) (p e k : Int32) (h0 : Heap) (n0 : Nat) (hn0 : n0 ≤ h0.size) (he : e.toInt ≤ xs.length) (hp : ¬ p < 0) (ge_o : n0 ≤ o) (ne_o_s : o ≠ s) (A_s : own_A Z h0 s .char (xs.map Value.int)) (E_o : Exa Z h0 o "charwell/array/ArrayCharReader") (F_o_buf : Fld Z h0 o "charwell/array/ArrayCharReader" "buf" "[C" (.ref s)) (F_o_pos : Fld Z h0 o "charwell/array/ArrayCharReader" "pos" "I" (.int p)) (F_o_end : Fld Z h0 o "charwell/array/ArrayCharReader" "end" "I" (.int e)) (F_o_markedPos : Fld Z h0 o "charwell/array/ArrayCharReader" "markedPos" "I" (.int k)) :
    own_W l Z (⟨"charwell/array/ArrayCharReader", "read", "()I"⟩ : MethodName) prog_2_method_3_code 1 (some .int) ({ frames := 1, cells := 0, slots := 0, locals := 12 } : Room) n0 (fun v h => v = some (.int (own_rd xs p e)) ∧ Keep h0 h [o] ∧ Exa Z h o "charwell/array/ArrayCharReader" ∧ Fld Z h o "charwell/array/ArrayCharReader" "buf" "[C" (.ref s) ∧ Fld Z h o "charwell/array/ArrayCharReader" "pos" "I" (.int (own_np p e)) ∧ Fld Z h o "charwell/array/ArrayCharReader" "end" "I" (.int e) ∧ Fld Z h o "charwell/array/ArrayCharReader" "markedPos" "I" (.int k)) h0 0 0 0 #[.val (.ref o)] [] := by
  refine own_aloadN (pc' := 1) d6_0 rfl rfl ?_
  refine own_private (own_openW l Z a0 hw o s h0 n0 hn0 F_o_buf) E_o (hw _ (List.mem_of_getElem? (i := 52) rfl)) (hw _ (List.mem_of_getElem? (i := 53) rfl)) (hw _ (List.mem_of_getElem? (i := 54) rfl)) (hw _ (List.mem_of_getElem? (i := 7) rfl)) (hw _ (List.mem_of_getElem? (i := 8) rfl)) (hw _ (List.mem_of_getElem? (i := 55) rfl)) (plainFor_of_name own_pn2) (by decide) own_pd3 rfl (argsL := []) (rest := []) rfl rfl (W := 0) (Nat.le_refl _) (by decide) (by decide) (by decide) (by decide) rfl d6_1 (pc' := 4) rfl (fun v_ h24 hq => ?_)
  obtain ⟨rfl, rfl⟩ := hq
  show own_W l Z (⟨"charwell/array/ArrayCharReader", "read", "()I"⟩ : MethodName) prog_2_method_3_code 1 (some .int) ({ frames := 1, cells := 0, slots := 0, locals := 12 } : Room) n0 (fun v h => v = some (.int (own_rd xs p e)) ∧ Keep h0 h [o] ∧ Exa Z h o "charwell/array/ArrayCharReader" ∧ Fld Z h o "charwell/array/ArrayCharReader" "buf" "[C" (.ref s) ∧ Fld Z h o "charwell/array/ArrayCharReader" "pos" "I" (.int (own_np p e)) ∧ Fld Z h o "charwell/array/ArrayCharReader" "end" "I" (.int e) ∧ Fld Z h o "charwell/array/ArrayCharReader" "markedPos" "I" (.int k)) h0 0 0 4 #[.val (.ref o)] []
  refine own_aloadN (pc' := 5) d6_4 rfl rfl ?_
  refine own_getF (pc' := 8) (hw _ (List.mem_of_getElem? (i := 40) rfl)) F_o_pos d6_5 rfl ?_
  refine own_aloadN (pc' := 9) d6_8 rfl rfl ?_
  refine own_getF (pc' := 12) (hw _ (List.mem_of_getElem? (i := 43) rfl)) F_o_end d6_9 rfl ?_
  refine own_ic_ge (pc' := 34) (pf := 15) d6_12 (by decide) (by decide) rfl (fun h_12 => ?_) (fun h_12 => ?_)
  · have e1 : own_rd xs p e = -1 := if_pos h_12
    have e2 : own_np p e = p := if_pos h_12
    rw [e1, e2]
    refine own_iconst (-1 : Int32) (pc' := 35) d6_34 rfl rfl ?_
    exact own_iret rfl d6_35 ⟨rfl, Keep.refl h0 [o], E_o, F_o_buf, F_o_pos, F_o_end, F_o_markedPos⟩
  · have e1 : own_rd xs p e = own_at xs p := if_neg (fun q => q h_12)
    have e2 : own_np p e = p + 1 := if_neg (fun q => q h_12)
    rw [e1, e2]
    refine own_aloadN (pc' := 16) d6_15 rfl rfl ?_
    refine own_getF (pc' := 19) (hw _ (List.mem_of_getElem? (i := 38) rfl)) F_o_buf d6_16 rfl ?_
    refine own_aloadN (pc' := 20) d6_19 rfl rfl ?_
    refine own_dup (pc' := 21) d6_20 rfl rfl ?_
    refine own_getF (pc' := 24) (hw _ (List.mem_of_getElem? (i := 40) rfl)) F_o_pos d6_21 rfl ?_
    refine own_dupX1 (pc' := 25) d6_24 rfl rfl rfl ?_
    refine own_iconst (1 : Int32) (pc' := 26) d6_25 rfl rfl ?_
    refine own_iadd (pc' := 27) d6_26 rfl ?_
    refine own_putF (pc' := 30) (hw _ (List.mem_of_getElem? (i := 40) rfl)) F_o_pos E_o (Or.inl (hw _ (List.mem_of_getElem? (i := 41) rfl))) (hw _ (List.mem_of_getElem? (i := 7) rfl)) ge_o (ty := .int) (by decide) rfl rfl d6_27 rfl (fun h25 Wr26 K27 => ?_)
    replace A_s := A_s.keep K27 (ninS (Ne.symm ne_o_s) nin0)
    replace E_o := E_o.wr Wr26
    replace F_o_buf := F_o_buf.other Wr26 (Or.inr (slot_ne (a0 := a0) (Or.inl (hw _ (List.mem_of_getElem? (i := 39) rfl))) (Or.inl (hw _ (List.mem_of_getElem? (i := 41) rfl))) (by decide) (t := (.array .char)) (by decide) (t' := .int) (by decide)))
    replace F_o_pos := F_o_pos.same Wr26
    replace F_o_end := F_o_end.other Wr26 (Or.inr (slot_ne (a0 := a0) (Or.inr (hw _ (List.mem_of_getElem? (i := 44) rfl))) (Or.inl (hw _ (List.mem_of_getElem? (i := 41) rfl))) (by decide) (t := .int) (by decide) (t' := .int) (by decide)))
    replace F_o_markedPos := F_o_markedPos.other Wr26 (Or.inr (slot_ne (a0 := a0) (Or.inl (hw _ (List.mem_of_getElem? (i := 46) rfl))) (Or.inl (hw _ (List.mem_of_getElem? (i := 41) rfl))) (by decide) (t := .int) (by decide) (t' := .int) (by decide)))
    replace hn0 : n0 ≤ h25.size := Nat.le_trans hn0 K27.1
    refine own_caload (pc' := 31) (v := .int (own_at xs p)) A_s hp (own_get1 xs p e he hp h_12) d6_30 rfl ?_
    refine own_goto (pc' := 35) d6_31 (by decide) (by decide) ?_
    exact own_iret rfl d6_35 ⟨rfl, K27, E_o, F_o_buf, F_o_pos, F_o_end, F_o_markedPos⟩
set_option maxRecDepth 65536 in
set_option maxHeartbeats 40000000 in
theorem own_exW (l : Launch) (Z : State) (a0 : Array Value) (hw : ∀ d ∈ tables_1, d.before a0 Z = true) (i e v0 v1 v2 : Int32) (h0 : Heap) (n0 : Nat) (hn0 : n0 ≤ h0.size) :
    own_W l Z (⟨"charwell/array/ArrayCharReaderReadPinLaw", "expect", "(IICCC)I"⟩ : MethodName) method_3_code 5 (some .int) ({ frames := 0, cells := 0, slots := 0, locals := 0 } : Room) n0 (fun v h => v = some (.int (own_ex i e v0 v1 v2)) ∧ h0 = h) h0 0 0 0 #[.val (.int i), .val (.int e), .val (.int v0), .val (.int v1), .val (.int v2)] [] := by
  refine own_iloadN (pc' := 1) d8_0 rfl rfl ?_
  refine own_iloadN (pc' := 2) d8_1 rfl rfl ?_
  refine own_ic_lt (pc' := 7) (pf := 5) d8_2 (by decide) (by decide) rfl (fun h_2 => ?_) (fun h_2 => ?_)
  · refine own_iloadN (pc' := 8) d8_7 rfl rfl ?_
    refine own_if_ne (pc' := 13) (pf := 11) d8_8 (by decide) (by decide) rfl (fun h_8 => ?_) (fun h_8 => ?_)
    · refine own_iloadN (pc' := 14) d8_13 rfl rfl ?_
      refine own_iconst (1 : Int32) (pc' := 15) d8_14 rfl rfl ?_
      refine own_ic_ne (pc' := 20) (pf := 18) d8_15 (by decide) (by decide) rfl (fun h_15 => ?_) (fun h_15 => ?_)
      · refine own_iload (pc' := 22) d8_20 rfl rfl ?_
        exact own_iret rfl d8_22 ⟨by first | contradiction | (simp only [own_ex, *, ↓reduceIte]; done) | (simp [own_ex, *]; done) | (simp_all [own_ex]; done), rfl⟩
      · refine own_iloadN (pc' := 19) d8_18 rfl rfl ?_
        exact own_iret rfl d8_19 ⟨by first | contradiction | (simp only [own_ex, *, ↓reduceIte]; done) | (simp [own_ex, *]; done) | (simp_all [own_ex]; done), rfl⟩
    · refine own_iloadN (pc' := 12) d8_11 rfl rfl ?_
      exact own_iret rfl d8_12 ⟨by first | contradiction | (simp only [own_ex, *, ↓reduceIte]; done) | (simp [own_ex, *]; done) | (simp_all [own_ex]; done), rfl⟩
  · refine own_iconst (-1 : Int32) (pc' := 6) d8_5 rfl rfl ?_
    exact own_iret rfl d8_6 ⟨by first | contradiction | (simp only [own_ex, *, ↓reduceIte]; done) | (simp [own_ex, *]; done) | (simp_all [own_ex]; done), rfl⟩
set_option maxRecDepth 65536 in
set_option maxHeartbeats 40000000 in
theorem own_law2 (l : Launch) (Z : State) (a0 : Array Value) (hw : ∀ d ∈ tables_1, d.before a0 Z = true) (x0 x1 x2 x3 x4 c0 c1 c2 n2 off len v0 v1 v2 : Int32) (s : Addr) (h0 : Heap) (n0 : Nat) (hn0 : n0 ≤ h0.size) (ho : 0 ≤ off.toInt ∧ off.toInt ≤ 3) (hl : 0 ≤ len.toInt ∧ len.toInt < 268435456) (e0 : v0 = c0) (e1 : v1 = c1) (e2 : v2 = c2) (e3 : nar .char n2 = n2) (ge_s : n0 ≤ s) (A_s : own_A Z h0 s .char [.int v0, .int v1, .int v2]) (E_s : Exa Z h0 s "[C") :
    own_W l Z x code maxLocals ret room_1 n0 (fun v h => v = some (.int 1)) h0 1 3 66 #[.val (.int x0), .val (.int x1), .val (.int x2), .val (.int x3), .val (.int x4), .val (.int c0), .val (.int c1), .val (.int c2), .val (.int n2), .val (.ref s), .val (.int off), .unset, .unset, .unset, .unset, .unset, .unset, .unset, .unset] [.int len] := by
  subst e0 e1 e2
  have c3 : (3 : Int32).toInt = 3 := rfl
  have z0 : (0 : Int32).toInt = 0 := rfl
  have a1 := c_iadd off len
  have a2 := rng32 (off + len)
  refine own_istore (pc' := 68) (Ls' := #[.val (.int x0), .val (.int x1), .val (.int x2), .val (.int x3), .val (.int x4), .val (.int v0), .val (.int v1), .val (.int v2), .val (.int n2), .val (.ref s), .val (.int off), .val (.int len), .unset, .unset, .unset, .unset, .unset, .unset, .unset]) at_66 rfl rfl ?_
  refine own_iload (pc' := 70) at_68 rfl rfl ?_
  refine own_iload (pc' := 72) at_70 rfl rfl ?_
  refine own_iadd (pc' := 73) at_72 rfl ?_
  refine own_iconst (3 : Int32) (pc' := 74) at_73 rfl rfl ?_
  refine own_static (own_minW l Z a0 hw (off + len) 3 h0 n0 hn0) (hw _ (List.mem_of_getElem? (i := 2) rfl)) (hw _ (List.mem_of_getElem? (i := 3) rfl)) (hw _ (List.mem_of_getElem? (i := 4) rfl)) (hw _ (List.mem_of_getElem? (i := 5) rfl)) (Jvm.Free.JP.mathPlain rfl (by decide)) (by decide) own_pd1 rfl (argsL := [.int (off + len), .int (3 : Int32)]) (rest := []) rfl rfl (W := 0) (Nat.le_refl _) (by decide) (by decide) (by decide) (by decide) rfl at_74 (pc' := 77) rfl (fun v_ h28 hq => ?_)
  obtain ⟨rfl, rfl⟩ := hq
  show own_W l Z x code maxLocals ret room_1 n0 (fun v h => v = some (.int 1)) h0 1 3 77 #[.val (.int x0), .val (.int x1), .val (.int x2), .val (.int x3), .val (.int x4), .val (.int v0), .val (.int v1), .val (.int v2), .val (.int n2), .val (.ref s), .val (.int off), .val (.int len), .unset, .unset, .unset, .unset, .unset, .unset, .unset] [.int (own_min (off + len) (3 : Int32))]
  refine own_istore (pc' := 79) (Ls' := #[.val (.int x0), .val (.int x1), .val (.int x2), .val (.int x3), .val (.int x4), .val (.int v0), .val (.int v1), .val (.int v2), .val (.int n2), .val (.ref s), .val (.int off), .val (.int len), .val (.int (own_min (off + len) (3 : Int32))), .unset, .unset, .unset, .unset, .unset, .unset]) at_77 rfl rfl ?_
  refine own_new (pc' := 82) (hw _ (List.mem_of_getElem? (i := 6) rfl)) (hw _ (List.mem_of_getElem? (i := 7) rfl)) (hw _ (List.mem_of_getElem? (i := 8) rfl)) at_79 rfl (by decide) (by decide) (fun h29 o gt_o lt_o E30 E_o D_o => ?_)
  have ge_o : n0 ≤ o := Nat.le_trans hn0 gt_o
  have ne_s_o : s ≠ o := Nat.ne_of_lt (by have q := Nat.lt_of_lt_of_le A_s.lt (Nat.le_refl _); omega)
  replace A_s := A_s.ext E30
  replace E_s := E_s.ext E30
  replace hn0 : n0 ≤ h29.size := Nat.le_trans hn0 E30.1
  have F_o_skipBuffer : Fld Z h29 o "java/io/Reader" "skipBuffer" "[C" (.null) := D_o (Or.inl (hw _ (List.mem_of_getElem? (i := 21) rfl))) (ty := (.array .char)) (by decide)
  have F_o_lock : Fld Z h29 o "java/io/Reader" "lock" "Ljava/lang/Object;" (.null) := D_o (Or.inl (hw _ (List.mem_of_getElem? (i := 23) rfl))) (ty := (.object "java/lang/Object")) (by decide)
  have F_o_buf : Fld Z h29 o "charwell/array/ArrayCharReader" "buf" "[C" (.null) := D_o (Or.inl (hw _ (List.mem_of_getElem? (i := 39) rfl))) (ty := (.array .char)) (by decide)
  have F_o_pos : Fld Z h29 o "charwell/array/ArrayCharReader" "pos" "I" (.int (0 : Int32)) := D_o (Or.inl (hw _ (List.mem_of_getElem? (i := 41) rfl))) (ty := .int) (by decide)
  have F_o_end : Fld Z h29 o "charwell/array/ArrayCharReader" "end" "I" (.int (0 : Int32)) := D_o (Or.inr (hw _ (List.mem_of_getElem? (i := 44) rfl))) (ty := .int) (by decide)
  have F_o_markedPos : Fld Z h29 o "charwell/array/ArrayCharReader" "markedPos" "I" (.int (0 : Int32)) := D_o (Or.inl (hw _ (List.mem_of_getElem? (i := 46) rfl))) (ty := .int) (by decide)
  have ne_o_s : o ≠ s := Ne.symm ne_s_o
  refine own_dup (pc' := 83) at_82 rfl rfl ?_
  refine own_aload (pc' := 85) at_83 rfl rfl ?_
  refine own_iload (pc' := 87) at_85 rfl rfl ?_
  refine own_iload (pc' := 89) at_87 rfl rfl ?_
  refine own_special (ret' := none) (own_mk l Z a0 hw o s _ off len 3 h29 n0 hn0 rfl (by rw [Int32.lt_iff_toInt_lt, z0]; omega) (by rw [Int32.lt_iff_toInt_lt, c3]; omega) (by rw [Int32.lt_iff_toInt_lt, z0]; omega) (by rw [Int32.lt_iff_toInt_lt, z0]; omega) ge_o ne_o_s A_s E_s E_o F_o_skipBuffer F_o_lock F_o_buf F_o_pos F_o_end F_o_markedPos) (hw _ (List.mem_of_getElem? (i := 9) rfl)) (hw _ (List.mem_of_getElem? (i := 10) rfl)) (hw _ (List.mem_of_getElem? (i := 8) rfl)) (hw _ (List.mem_of_getElem? (i := 11) rfl)) rfl (plainFor_of_name own_pn2) (by decide) own_pd2 rfl (argsL := [.ref s, .int off, .int len]) (rest := [.ref o]) rfl rfl (W := 1) (Nat.le_refl _) (by decide) (by decide) (by decide) (by decide) rfl at_89 (pc' := 92) rfl (fun v_ h31 hq => ?_)
  obtain ⟨rfl, K_m, E_m, Fa_m, Fb_m, Fc_m, Fd_m⟩ := hq
  show own_W l Z x code maxLocals ret room_1 n0 (fun v h => v = some (.int 1)) h31 4 25 92 #[.val (.int x0), .val (.int x1), .val (.int x2), .val (.int x3), .val (.int x4), .val (.int v0), .val (.int v1), .val (.int v2), .val (.int n2), .val (.ref s), .val (.int off), .val (.int len), .val (.int (own_min (off + len) (3 : Int32))), .unset, .unset, .unset, .unset, .unset, .unset] [.ref o]
  replace A_s := A_s.keep K_m (ninS ne_s_o nin0)
  replace E_s := E_s.keep K_m
  replace E_o := E_m
  clear F_o_skipBuffer
  clear F_o_lock
  replace F_o_buf := Fa_m
  replace F_o_pos := Fb_m
  replace F_o_end := Fc_m
  replace F_o_markedPos := Fd_m
  replace hn0 : n0 ≤ h31.size := Nat.le_trans hn0 K_m.1
  have he := own_minle (off + len) 3
  rw [c3] at he
  generalize he_ : (own_min (off + len) (3 : Int32)) = e
  rw [he_] at he F_o_end
  have p0 : (off.toInt < e.toInt → off = off) ∧ (e.toInt ≤ off.toInt → e.toInt ≤ off.toInt) := ⟨fun _ => rfl, fun q => q⟩
  have k0 : ¬ off < 0 := by rw [Int32.lt_iff_toInt_lt, z0]; omega
  have j1 : (off + 1).toInt = off.toInt + 1 := by have := c_iadd off 1; have := rng32 (off + 1); have q : (1 : Int32).toInt = 1 := rfl; omega
  have j2 : (off + 2).toInt = off.toInt + 2 := by have := c_iadd off 2; have := rng32 (off + 2); have q : (2 : Int32).toInt = 2 := rfl; omega
  have j3 : (off + 3).toInt = off.toInt + 3 := by have := c_iadd off 3; have := rng32 (off + 3); have q : (3 : Int32).toInt = 3 := rfl; omega
  have j4 : (off + 4).toInt = off.toInt + 4 := by have := c_iadd off 4; have := rng32 (off + 4); have q : (4 : Int32).toInt = 4 := rfl; omega
  refine own_astore (pc' := 94) (Ls' := #[.val (.int x0), .val (.int x1), .val (.int x2), .val (.int x3), .val (.int x4), .val (.int v0), .val (.int v1), .val (.int v2), .val (.int n2), .val (.ref s), .val (.int off), .val (.int len), .val (.int e), .val (.ref o), .unset, .unset, .unset, .unset, .unset]) at_92 rfl rfl ?_
  refine own_aload (pc' := 96) at_94 rfl rfl ?_
  refine own_virtual (own_rdW l Z a0 hw o s [v0, v1, v2] off e off h31 n0 hn0 he.1 k0 ge_o ne_o_s A_s E_o F_o_buf F_o_pos F_o_end F_o_markedPos) E_o (hw _ (List.mem_of_getElem? (i := 47) rfl)) (hw _ (List.mem_of_getElem? (i := 48) rfl)) (hw _ (List.mem_of_getElem? (i := 50) rfl)) (hw _ (List.mem_of_getElem? (i := 49) rfl)) (hw _ (List.mem_of_getElem? (i := 8) rfl)) (hw _ (List.mem_of_getElem? (i := 51) rfl)) (plainFor_of_name own_pn2) (by decide) own_pd5 rfl (argsL := []) (rest := []) rfl rfl (W := 0) (Nat.le_refl _) (by decide) (by decide) (by decide) (by decide) rfl at_96 (pc' := 99) rfl (fun v_ h32 hq => ?_)
  obtain ⟨rfl, K_r0, E_r0, Fa_r0, Fb_r0, Fc_r0, Fd_r0⟩ := hq
  show own_W l Z x code maxLocals ret room_1 n0 (fun v h => v = some (.int 1)) h32 4 25 99 #[.val (.int x0), .val (.int x1), .val (.int x2), .val (.int x3), .val (.int x4), .val (.int v0), .val (.int v1), .val (.int v2), .val (.int n2), .val (.ref s), .val (.int off), .val (.int len), .val (.int e), .val (.ref o), .unset, .unset, .unset, .unset, .unset] [.int (own_rd [v0, v1, v2] off e)]
  replace A_s := A_s.keep K_r0 (ninS ne_s_o nin0)
  replace E_s := E_s.keep K_r0
  replace E_o := E_r0
  replace F_o_buf := Fa_r0
  replace F_o_pos := Fb_r0
  replace F_o_end := Fc_r0
  replace F_o_markedPos := Fd_r0
  replace hn0 : n0 ≤ h32.size := Nat.le_trans hn0 K_r0.1
  have p1 := own_pstep off (off + 1) off e p0 (by omega) (by omega)
  have k1 := own_npok off e k0 he.1
  refine own_istore (pc' := 101) (Ls' := #[.val (.int x0), .val (.int x1), .val (.int x2), .val (.int x3), .val (.int x4), .val (.int v0), .val (.int v1), .val (.int v2), .val (.int n2), .val (.ref s), .val (.int off), .val (.int len), .val (.int e), .val (.ref o), .val (.int (own_rd [v0, v1, v2] off e)), .unset, .unset, .unset, .unset]) at_99 rfl rfl ?_
  refine own_aload (pc' := 103) at_101 rfl rfl ?_
  refine own_iconst (2 : Int32) (pc' := 104) at_103 rfl rfl ?_
  refine own_iload (pc' := 106) at_104 rfl rfl ?_
  refine own_castore (pc' := 107) A_s (by decide) (by first | decide | (simp only [List.length_cons, List.length_nil, List.length_set, List.length_replicate]; decide)) ge_s at_106 rfl (fun h33 K34 A_new => ?_)
  replace E_s := E_s.keep K34
  replace E_o := E_o.keep K34
  replace F_o_buf := F_o_buf.keep K34 (ninS (Ne.symm ne_s_o) nin0)
  replace F_o_pos := F_o_pos.keep K34 (ninS (Ne.symm ne_s_o) nin0)
  replace F_o_end := F_o_end.keep K34 (ninS (Ne.symm ne_s_o) nin0)
  replace F_o_markedPos := F_o_markedPos.keep K34 (ninS (Ne.symm ne_s_o) nin0)
  replace hn0 : n0 ≤ h33.size := Nat.le_trans hn0 K34.1
  replace A_s : own_A Z h33 s .char [.int v0, .int v1, .int n2] := A_new.cast (by rw [e3]; rfl)
  refine own_aload (pc' := 109) at_107 rfl rfl ?_
  refine own_virtual (own_rdW l Z a0 hw o s [v0, v1, n2] (own_np off e) e off h33 n0 hn0 he.1 k1 ge_o ne_o_s A_s E_o F_o_buf F_o_pos F_o_end F_o_markedPos) E_o (hw _ (List.mem_of_getElem? (i := 47) rfl)) (hw _ (List.mem_of_getElem? (i := 48) rfl)) (hw _ (List.mem_of_getElem? (i := 50) rfl)) (hw _ (List.mem_of_getElem? (i := 49) rfl)) (hw _ (List.mem_of_getElem? (i := 8) rfl)) (hw _ (List.mem_of_getElem? (i := 51) rfl)) (plainFor_of_name own_pn2) (by decide) own_pd5 rfl (argsL := []) (rest := []) rfl rfl (W := 0) (Nat.le_refl _) (by decide) (by decide) (by decide) (by decide) rfl at_109 (pc' := 112) rfl (fun v_ h35 hq => ?_)
  obtain ⟨rfl, K_r1, E_r1, Fa_r1, Fb_r1, Fc_r1, Fd_r1⟩ := hq
  show own_W l Z x code maxLocals ret room_1 n0 (fun v h => v = some (.int 1)) h35 4 25 112 #[.val (.int x0), .val (.int x1), .val (.int x2), .val (.int x3), .val (.int x4), .val (.int v0), .val (.int v1), .val (.int v2), .val (.int n2), .val (.ref s), .val (.int off), .val (.int len), .val (.int e), .val (.ref o), .val (.int (own_rd [v0, v1, v2] off e)), .unset, .unset, .unset, .unset] [.int (own_rd [v0, v1, n2] (own_np off e) e)]
  replace A_s := A_s.keep K_r1 (ninS ne_s_o nin0)
  replace E_s := E_s.keep K_r1
  replace E_o := E_r1
  replace F_o_buf := Fa_r1
  replace F_o_pos := Fb_r1
  replace F_o_end := Fc_r1
  replace F_o_markedPos := Fd_r1
  replace hn0 : n0 ≤ h35.size := Nat.le_trans hn0 K_r1.1
  have p2 := own_pstep (off + 1) (off + 2) (own_np off e) e p1 (by omega) (by omega)
  have k2 := own_npok (own_np off e) e k1 he.1
  refine own_istore (pc' := 114) (Ls' := #[.val (.int x0), .val (.int x1), .val (.int x2), .val (.int x3), .val (.int x4), .val (.int v0), .val (.int v1), .val (.int v2), .val (.int n2), .val (.ref s), .val (.int off), .val (.int len), .val (.int e), .val (.ref o), .val (.int (own_rd [v0, v1, v2] off e)), .val (.int (own_rd [v0, v1, n2] (own_np off e) e)), .unset, .unset, .unset]) at_112 rfl rfl ?_
  refine own_aload (pc' := 116) at_114 rfl rfl ?_
  refine own_virtual (own_rdW l Z a0 hw o s [v0, v1, n2] (own_np (own_np off e) e) e off h35 n0 hn0 he.1 k2 ge_o ne_o_s A_s E_o F_o_buf F_o_pos F_o_end F_o_markedPos) E_o (hw _ (List.mem_of_getElem? (i := 47) rfl)) (hw _ (List.mem_of_getElem? (i := 48) rfl)) (hw _ (List.mem_of_getElem? (i := 50) rfl)) (hw _ (List.mem_of_getElem? (i := 49) rfl)) (hw _ (List.mem_of_getElem? (i := 8) rfl)) (hw _ (List.mem_of_getElem? (i := 51) rfl)) (plainFor_of_name own_pn2) (by decide) own_pd5 rfl (argsL := []) (rest := []) rfl rfl (W := 0) (Nat.le_refl _) (by decide) (by decide) (by decide) (by decide) rfl at_116 (pc' := 119) rfl (fun v_ h36 hq => ?_)
  obtain ⟨rfl, K_r2, E_r2, Fa_r2, Fb_r2, Fc_r2, Fd_r2⟩ := hq
  show own_W l Z x code maxLocals ret room_1 n0 (fun v h => v = some (.int 1)) h36 4 25 119 #[.val (.int x0), .val (.int x1), .val (.int x2), .val (.int x3), .val (.int x4), .val (.int v0), .val (.int v1), .val (.int v2), .val (.int n2), .val (.ref s), .val (.int off), .val (.int len), .val (.int e), .val (.ref o), .val (.int (own_rd [v0, v1, v2] off e)), .val (.int (own_rd [v0, v1, n2] (own_np off e) e)), .unset, .unset, .unset] [.int (own_rd [v0, v1, n2] (own_np (own_np off e) e) e)]
  replace A_s := A_s.keep K_r2 (ninS ne_s_o nin0)
  replace E_s := E_s.keep K_r2
  replace E_o := E_r2
  replace F_o_buf := Fa_r2
  replace F_o_pos := Fb_r2
  replace F_o_end := Fc_r2
  replace F_o_markedPos := Fd_r2
  replace hn0 : n0 ≤ h36.size := Nat.le_trans hn0 K_r2.1
  have p3 := own_pstep (off + 2) (off + 3) (own_np (own_np off e) e) e p2 (by omega) (by omega)
  have k3 := own_npok (own_np (own_np off e) e) e k2 he.1
  refine own_istore (pc' := 121) (Ls' := #[.val (.int x0), .val (.int x1), .val (.int x2), .val (.int x3), .val (.int x4), .val (.int v0), .val (.int v1), .val (.int v2), .val (.int n2), .val (.ref s), .val (.int off), .val (.int len), .val (.int e), .val (.ref o), .val (.int (own_rd [v0, v1, v2] off e)), .val (.int (own_rd [v0, v1, n2] (own_np off e) e)), .val (.int (own_rd [v0, v1, n2] (own_np (own_np off e) e) e)), .unset, .unset]) at_119 rfl rfl ?_
  refine own_aload (pc' := 123) at_121 rfl rfl ?_
  refine own_virtual (own_rdW l Z a0 hw o s [v0, v1, n2] (own_np (own_np (own_np off e) e) e) e off h36 n0 hn0 he.1 k3 ge_o ne_o_s A_s E_o F_o_buf F_o_pos F_o_end F_o_markedPos) E_o (hw _ (List.mem_of_getElem? (i := 47) rfl)) (hw _ (List.mem_of_getElem? (i := 48) rfl)) (hw _ (List.mem_of_getElem? (i := 50) rfl)) (hw _ (List.mem_of_getElem? (i := 49) rfl)) (hw _ (List.mem_of_getElem? (i := 8) rfl)) (hw _ (List.mem_of_getElem? (i := 51) rfl)) (plainFor_of_name own_pn2) (by decide) own_pd5 rfl (argsL := []) (rest := []) rfl rfl (W := 0) (Nat.le_refl _) (by decide) (by decide) (by decide) (by decide) rfl at_123 (pc' := 126) rfl (fun v_ h37 hq => ?_)
  obtain ⟨rfl, K_r3, E_r3, Fa_r3, Fb_r3, Fc_r3, Fd_r3⟩ := hq
  show own_W l Z x code maxLocals ret room_1 n0 (fun v h => v = some (.int 1)) h37 4 25 126 #[.val (.int x0), .val (.int x1), .val (.int x2), .val (.int x3), .val (.int x4), .val (.int v0), .val (.int v1), .val (.int v2), .val (.int n2), .val (.ref s), .val (.int off), .val (.int len), .val (.int e), .val (.ref o), .val (.int (own_rd [v0, v1, v2] off e)), .val (.int (own_rd [v0, v1, n2] (own_np off e) e)), .val (.int (own_rd [v0, v1, n2] (own_np (own_np off e) e) e)), .unset, .unset] [.int (own_rd [v0, v1, n2] (own_np (own_np (own_np off e) e) e) e)]
  replace A_s := A_s.keep K_r3 (ninS ne_s_o nin0)
  replace E_s := E_s.keep K_r3
  replace E_o := E_r3
  replace F_o_buf := Fa_r3
  replace F_o_pos := Fb_r3
  replace F_o_end := Fc_r3
  replace F_o_markedPos := Fd_r3
  replace hn0 : n0 ≤ h37.size := Nat.le_trans hn0 K_r3.1
  have p4 := own_pstep (off + 3) (off + 4) (own_np (own_np (own_np off e) e) e) e p3 (by omega) (by omega)
  have k4 := own_npok (own_np (own_np (own_np off e) e) e) e k3 he.1
  refine own_istore (pc' := 128) (Ls' := #[.val (.int x0), .val (.int x1), .val (.int x2), .val (.int x3), .val (.int x4), .val (.int v0), .val (.int v1), .val (.int v2), .val (.int n2), .val (.ref s), .val (.int off), .val (.int len), .val (.int e), .val (.ref o), .val (.int (own_rd [v0, v1, v2] off e)), .val (.int (own_rd [v0, v1, n2] (own_np off e) e)), .val (.int (own_rd [v0, v1, n2] (own_np (own_np off e) e) e)), .val (.int (own_rd [v0, v1, n2] (own_np (own_np (own_np off e) e) e) e)), .unset]) at_126 rfl rfl ?_
  refine own_aload (pc' := 130) at_128 rfl rfl ?_
  refine own_virtual (own_rdW l Z a0 hw o s [v0, v1, n2] (own_np (own_np (own_np (own_np off e) e) e) e) e off h37 n0 hn0 he.1 k4 ge_o ne_o_s A_s E_o F_o_buf F_o_pos F_o_end F_o_markedPos) E_o (hw _ (List.mem_of_getElem? (i := 47) rfl)) (hw _ (List.mem_of_getElem? (i := 48) rfl)) (hw _ (List.mem_of_getElem? (i := 50) rfl)) (hw _ (List.mem_of_getElem? (i := 49) rfl)) (hw _ (List.mem_of_getElem? (i := 8) rfl)) (hw _ (List.mem_of_getElem? (i := 51) rfl)) (plainFor_of_name own_pn2) (by decide) own_pd5 rfl (argsL := []) (rest := []) rfl rfl (W := 0) (Nat.le_refl _) (by decide) (by decide) (by decide) (by decide) rfl at_130 (pc' := 133) rfl (fun v_ h38 hq => ?_)
  obtain ⟨rfl, K_r4, E_r4, Fa_r4, Fb_r4, Fc_r4, Fd_r4⟩ := hq
  show own_W l Z x code maxLocals ret room_1 n0 (fun v h => v = some (.int 1)) h38 4 25 133 #[.val (.int x0), .val (.int x1), .val (.int x2), .val (.int x3), .val (.int x4), .val (.int v0), .val (.int v1), .val (.int v2), .val (.int n2), .val (.ref s), .val (.int off), .val (.int len), .val (.int e), .val (.ref o), .val (.int (own_rd [v0, v1, v2] off e)), .val (.int (own_rd [v0, v1, n2] (own_np off e) e)), .val (.int (own_rd [v0, v1, n2] (own_np (own_np off e) e) e)), .val (.int (own_rd [v0, v1, n2] (own_np (own_np (own_np off e) e) e) e)), .unset] [.int (own_rd [v0, v1, n2] (own_np (own_np (own_np (own_np off e) e) e) e) e)]
  replace A_s := A_s.keep K_r4 (ninS ne_s_o nin0)
  replace E_s := E_s.keep K_r4
  replace E_o := E_r4
  replace F_o_buf := Fa_r4
  replace F_o_pos := Fb_r4
  replace F_o_end := Fc_r4
  replace F_o_markedPos := Fd_r4
  replace hn0 : n0 ≤ h38.size := Nat.le_trans hn0 K_r4.1
  refine own_istore (pc' := 135) (Ls' := #[.val (.int x0), .val (.int x1), .val (.int x2), .val (.int x3), .val (.int x4), .val (.int v0), .val (.int v1), .val (.int v2), .val (.int n2), .val (.ref s), .val (.int off), .val (.int len), .val (.int e), .val (.ref o), .val (.int (own_rd [v0, v1, v2] off e)), .val (.int (own_rd [v0, v1, n2] (own_np off e) e)), .val (.int (own_rd [v0, v1, n2] (own_np (own_np off e) e) e)), .val (.int (own_rd [v0, v1, n2] (own_np (own_np (own_np off e) e) e) e)), .val (.int (own_rd [v0, v1, n2] (own_np (own_np (own_np (own_np off e) e) e) e) e))]) at_133 rfl rfl ?_
  refine own_iload (pc' := 137) at_135 rfl rfl ?_
  refine own_iload (pc' := 139) at_137 rfl rfl ?_
  refine own_iload (pc' := 141) at_139 rfl rfl ?_
  refine own_iload (pc' := 143) at_141 rfl rfl ?_
  refine own_iload (pc' := 145) at_143 rfl rfl ?_
  refine own_iload (pc' := 147) at_145 rfl rfl ?_
  refine own_static (own_exW l Z a0 hw off e v0 v1 v2 h38 n0 hn0) (hw _ (List.mem_of_getElem? (i := 56) rfl)) (hw _ (List.mem_of_getElem? (i := 57) rfl)) (hw _ (List.mem_of_getElem? (i := 58) rfl)) (hw _ (List.mem_of_getElem? (i := 59) rfl)) (plainFor_of_name own_pn0) (by decide) own_pd6 rfl (argsL := [.int off, .int e, .int v0, .int v1, .int v2]) (rest := [.int (own_rd [v0, v1, v2] off e)]) rfl rfl (W := 1) (Nat.le_refl _) (by decide) (by decide) (by decide) (by decide) rfl at_147 (pc' := 150) rfl (fun v_ h39 hq => ?_)
  obtain ⟨rfl, rfl⟩ := hq
  show own_W l Z x code maxLocals ret room_1 n0 (fun v h => v = some (.int 1)) h38 4 25 150 #[.val (.int x0), .val (.int x1), .val (.int x2), .val (.int x3), .val (.int x4), .val (.int v0), .val (.int v1), .val (.int v2), .val (.int n2), .val (.ref s), .val (.int off), .val (.int len), .val (.int e), .val (.ref o), .val (.int (own_rd [v0, v1, v2] off e)), .val (.int (own_rd [v0, v1, n2] (own_np off e) e)), .val (.int (own_rd [v0, v1, n2] (own_np (own_np off e) e) e)), .val (.int (own_rd [v0, v1, n2] (own_np (own_np (own_np off e) e) e) e)), .val (.int (own_rd [v0, v1, n2] (own_np (own_np (own_np (own_np off e) e) e) e) e))] [.int (own_ex off e v0 v1 v2), .int (own_rd [v0, v1, v2] off e)]
  refine own_ic_ne_f (pc' := 153) at_150 (own_pin off off e v0 v1 v2 p0 he.1 (by omega)) rfl ?_
  refine own_iload (pc' := 155) at_153 rfl rfl ?_
  refine own_iload (pc' := 157) at_155 rfl rfl ?_
  refine own_iconst (1 : Int32) (pc' := 158) at_157 rfl rfl ?_
  refine own_iadd (pc' := 159) at_158 rfl ?_
  refine own_iload (pc' := 161) at_159 rfl rfl ?_
  refine own_iload (pc' := 163) at_161 rfl rfl ?_
  refine own_iload (pc' := 165) at_163 rfl rfl ?_
  refine own_iload (pc' := 167) at_165 rfl rfl ?_
  refine own_static (own_exW l Z a0 hw (off + (1 : Int32)) e v0 v1 n2 h38 n0 hn0) (hw _ (List.mem_of_getElem? (i := 56) rfl)) (hw _ (List.mem_of_getElem? (i := 57) rfl)) (hw _ (List.mem_of_getElem? (i := 58) rfl)) (hw _ (List.mem_of_getElem? (i := 59) rfl)) (plainFor_of_name own_pn0) (by decide) own_pd6 rfl (argsL := [.int (off + (1 : Int32)), .int e, .int v0, .int v1, .int n2]) (rest := [.int (own_rd [v0, v1, n2] (own_np off e) e)]) rfl rfl (W := 1) (Nat.le_refl _) (by decide) (by decide) (by decide) (by decide) rfl at_167 (pc' := 170) rfl (fun v_ h40 hq => ?_)
  obtain ⟨rfl, rfl⟩ := hq
  show own_W l Z x code maxLocals ret room_1 n0 (fun v h => v = some (.int 1)) h38 4 25 170 #[.val (.int x0), .val (.int x1), .val (.int x2), .val (.int x3), .val (.int x4), .val (.int v0), .val (.int v1), .val (.int v2), .val (.int n2), .val (.ref s), .val (.int off), .val (.int len), .val (.int e), .val (.ref o), .val (.int (own_rd [v0, v1, v2] off e)), .val (.int (own_rd [v0, v1, n2] (own_np off e) e)), .val (.int (own_rd [v0, v1, n2] (own_np (own_np off e) e) e)), .val (.int (own_rd [v0, v1, n2] (own_np (own_np (own_np off e) e) e) e)), .val (.int (own_rd [v0, v1, n2] (own_np (own_np (own_np (own_np off e) e) e) e) e))] [.int (own_ex (off + (1 : Int32)) e v0 v1 n2), .int (own_rd [v0, v1, n2] (own_np off e) e)]
  refine own_ic_ne_f (pc' := 173) at_170 (own_pin (off + (1 : Int32)) (own_np off e) e v0 v1 n2 p1 he.1 (by omega)) rfl ?_
  refine own_iload (pc' := 175) at_173 rfl rfl ?_
  refine own_iload (pc' := 177) at_175 rfl rfl ?_
  refine own_iconst (2 : Int32) (pc' := 178) at_177 rfl rfl ?_
  refine own_iadd (pc' := 179) at_178 rfl ?_
  refine own_iload (pc' := 181) at_179 rfl rfl ?_
  refine own_iload (pc' := 183) at_181 rfl rfl ?_
  refine own_iload (pc' := 185) at_183 rfl rfl ?_
  refine own_iload (pc' := 187) at_185 rfl rfl ?_
  refine own_static (own_exW l Z a0 hw (off + (2 : Int32)) e v0 v1 n2 h38 n0 hn0) (hw _ (List.mem_of_getElem? (i := 56) rfl)) (hw _ (List.mem_of_getElem? (i := 57) rfl)) (hw _ (List.mem_of_getElem? (i := 58) rfl)) (hw _ (List.mem_of_getElem? (i := 59) rfl)) (plainFor_of_name own_pn0) (by decide) own_pd6 rfl (argsL := [.int (off + (2 : Int32)), .int e, .int v0, .int v1, .int n2]) (rest := [.int (own_rd [v0, v1, n2] (own_np (own_np off e) e) e)]) rfl rfl (W := 1) (Nat.le_refl _) (by decide) (by decide) (by decide) (by decide) rfl at_187 (pc' := 190) rfl (fun v_ h41 hq => ?_)
  obtain ⟨rfl, rfl⟩ := hq
  show own_W l Z x code maxLocals ret room_1 n0 (fun v h => v = some (.int 1)) h38 4 25 190 #[.val (.int x0), .val (.int x1), .val (.int x2), .val (.int x3), .val (.int x4), .val (.int v0), .val (.int v1), .val (.int v2), .val (.int n2), .val (.ref s), .val (.int off), .val (.int len), .val (.int e), .val (.ref o), .val (.int (own_rd [v0, v1, v2] off e)), .val (.int (own_rd [v0, v1, n2] (own_np off e) e)), .val (.int (own_rd [v0, v1, n2] (own_np (own_np off e) e) e)), .val (.int (own_rd [v0, v1, n2] (own_np (own_np (own_np off e) e) e) e)), .val (.int (own_rd [v0, v1, n2] (own_np (own_np (own_np (own_np off e) e) e) e) e))] [.int (own_ex (off + (2 : Int32)) e v0 v1 n2), .int (own_rd [v0, v1, n2] (own_np (own_np off e) e) e)]
  refine own_ic_ne_f (pc' := 193) at_190 (own_pin (off + (2 : Int32)) (own_np (own_np off e) e) e v0 v1 n2 p2 he.1 (by omega)) rfl ?_
  refine own_iload (pc' := 195) at_193 rfl rfl ?_
  refine own_iload (pc' := 197) at_195 rfl rfl ?_
  refine own_iconst (3 : Int32) (pc' := 198) at_197 rfl rfl ?_
  refine own_iadd (pc' := 199) at_198 rfl ?_
  refine own_iload (pc' := 201) at_199 rfl rfl ?_
  refine own_iload (pc' := 203) at_201 rfl rfl ?_
  refine own_iload (pc' := 205) at_203 rfl rfl ?_
  refine own_iload (pc' := 207) at_205 rfl rfl ?_
  refine own_static (own_exW l Z a0 hw (off + (3 : Int32)) e v0 v1 n2 h38 n0 hn0) (hw _ (List.mem_of_getElem? (i := 56) rfl)) (hw _ (List.mem_of_getElem? (i := 57) rfl)) (hw _ (List.mem_of_getElem? (i := 58) rfl)) (hw _ (List.mem_of_getElem? (i := 59) rfl)) (plainFor_of_name own_pn0) (by decide) own_pd6 rfl (argsL := [.int (off + (3 : Int32)), .int e, .int v0, .int v1, .int n2]) (rest := [.int (own_rd [v0, v1, n2] (own_np (own_np (own_np off e) e) e) e)]) rfl rfl (W := 1) (Nat.le_refl _) (by decide) (by decide) (by decide) (by decide) rfl at_207 (pc' := 210) rfl (fun v_ h42 hq => ?_)
  obtain ⟨rfl, rfl⟩ := hq
  show own_W l Z x code maxLocals ret room_1 n0 (fun v h => v = some (.int 1)) h38 4 25 210 #[.val (.int x0), .val (.int x1), .val (.int x2), .val (.int x3), .val (.int x4), .val (.int v0), .val (.int v1), .val (.int v2), .val (.int n2), .val (.ref s), .val (.int off), .val (.int len), .val (.int e), .val (.ref o), .val (.int (own_rd [v0, v1, v2] off e)), .val (.int (own_rd [v0, v1, n2] (own_np off e) e)), .val (.int (own_rd [v0, v1, n2] (own_np (own_np off e) e) e)), .val (.int (own_rd [v0, v1, n2] (own_np (own_np (own_np off e) e) e) e)), .val (.int (own_rd [v0, v1, n2] (own_np (own_np (own_np (own_np off e) e) e) e) e))] [.int (own_ex (off + (3 : Int32)) e v0 v1 n2), .int (own_rd [v0, v1, n2] (own_np (own_np (own_np off e) e) e) e)]
  refine own_ic_ne_f (pc' := 213) at_210 (own_pin (off + (3 : Int32)) (own_np (own_np (own_np off e) e) e) e v0 v1 n2 p3 he.1 (by omega)) rfl ?_
  refine own_iload (pc' := 215) at_213 rfl rfl ?_
  refine own_iload (pc' := 217) at_215 rfl rfl ?_
  refine own_iconst (4 : Int32) (pc' := 218) at_217 rfl rfl ?_
  refine own_iadd (pc' := 219) at_218 rfl ?_
  refine own_iload (pc' := 221) at_219 rfl rfl ?_
  refine own_iload (pc' := 223) at_221 rfl rfl ?_
  refine own_iload (pc' := 225) at_223 rfl rfl ?_
  refine own_iload (pc' := 227) at_225 rfl rfl ?_
  refine own_static (own_exW l Z a0 hw (off + (4 : Int32)) e v0 v1 n2 h38 n0 hn0) (hw _ (List.mem_of_getElem? (i := 56) rfl)) (hw _ (List.mem_of_getElem? (i := 57) rfl)) (hw _ (List.mem_of_getElem? (i := 58) rfl)) (hw _ (List.mem_of_getElem? (i := 59) rfl)) (plainFor_of_name own_pn0) (by decide) own_pd6 rfl (argsL := [.int (off + (4 : Int32)), .int e, .int v0, .int v1, .int n2]) (rest := [.int (own_rd [v0, v1, n2] (own_np (own_np (own_np (own_np off e) e) e) e) e)]) rfl rfl (W := 1) (Nat.le_refl _) (by decide) (by decide) (by decide) (by decide) rfl at_227 (pc' := 230) rfl (fun v_ h43 hq => ?_)
  obtain ⟨rfl, rfl⟩ := hq
  show own_W l Z x code maxLocals ret room_1 n0 (fun v h => v = some (.int 1)) h38 4 25 230 #[.val (.int x0), .val (.int x1), .val (.int x2), .val (.int x3), .val (.int x4), .val (.int v0), .val (.int v1), .val (.int v2), .val (.int n2), .val (.ref s), .val (.int off), .val (.int len), .val (.int e), .val (.ref o), .val (.int (own_rd [v0, v1, v2] off e)), .val (.int (own_rd [v0, v1, n2] (own_np off e) e)), .val (.int (own_rd [v0, v1, n2] (own_np (own_np off e) e) e)), .val (.int (own_rd [v0, v1, n2] (own_np (own_np (own_np off e) e) e) e)), .val (.int (own_rd [v0, v1, n2] (own_np (own_np (own_np (own_np off e) e) e) e) e))] [.int (own_ex (off + (4 : Int32)) e v0 v1 n2), .int (own_rd [v0, v1, n2] (own_np (own_np (own_np (own_np off e) e) e) e) e)]
  refine own_ic_ne_f (pc' := 233) at_230 (own_pin (off + (4 : Int32)) (own_np (own_np (own_np (own_np off e) e) e) e) e v0 v1 n2 p4 he.1 (by omega)) rfl ?_
  refine own_iconst (1 : Int32) (pc' := 234) at_233 rfl rfl ?_
  refine own_goto (pc' := 238) at_234 (by decide) (by decide) ?_
  exact own_bret (v := (1 : Int32)) rfl (by first | rfl | decide | assumption) at_238 rfl
set_option maxRecDepth 65536 in
set_option maxHeartbeats 40000000 in
theorem own_law (l : Launch) (Z : State) (a0 : Array Value) (hw : ∀ d ∈ tables_1, d.before a0 Z = true) (x0 x1 x2 x3 x4 : Int32) (h0 : Heap) (n0 : Nat) (hn0 : n0 ≤ h0.size) :
    own_W l Z x code maxLocals ret room_1 n0 (fun v h => v = some (.int 1)) h0 0 0 0 #[.val (.int x0), .val (.int x1), .val (.int x2), .val (.int x3), .val (.int x4), .unset, .unset, .unset, .unset, .unset, .unset, .unset, .unset, .unset, .unset, .unset, .unset, .unset, .unset] [] := by
  refine own_iloadN (pc' := 1) at_0 rfl rfl ?_
  refine own_i2c (pc' := 2) at_1 rfl ?_
  refine own_istore (pc' := 4) (Ls' := #[.val (.int x0), .val (.int x1), .val (.int x2), .val (.int x3), .val (.int x4), .val (.int (x0.toUInt32.toUInt16.toUInt32.toInt32)), .unset, .unset, .unset, .unset, .unset, .unset, .unset, .unset, .unset, .unset, .unset, .unset, .unset]) at_2 rfl rfl ?_
  refine own_iloadN (pc' := 5) at_4 rfl rfl ?_
  refine own_i2c (pc' := 6) at_5 rfl ?_
  refine own_istore (pc' := 8) (Ls' := #[.val (.int x0), .val (.int x1), .val (.int x2), .val (.int x3), .val (.int x4), .val (.int (x0.toUInt32.toUInt16.toUInt32.toInt32)), .val (.int (x1.toUInt32.toUInt16.toUInt32.toInt32)), .unset, .unset, .unset, .unset, .unset, .unset, .unset, .unset, .unset, .unset, .unset, .unset]) at_6 rfl rfl ?_
  refine own_iloadN (pc' := 9) at_8 rfl rfl ?_
  refine own_i2c (pc' := 10) at_9 rfl ?_
  refine own_istore (pc' := 12) (Ls' := #[.val (.int x0), .val (.int x1), .val (.int x2), .val (.int x3), .val (.int x4), .val (.int (x0.toUInt32.toUInt16.toUInt32.toInt32)), .val (.int (x1.toUInt32.toUInt16.toUInt32.toInt32)), .val (.int (x2.toUInt32.toUInt16.toUInt32.toInt32)), .unset, .unset, .unset, .unset, .unset, .unset, .unset, .unset, .unset, .unset, .unset]) at_10 rfl rfl ?_
  refine own_iloadN (pc' := 13) at_12 rfl rfl ?_
  refine own_bipush (8 : Int32) (pc' := 15) at_13 rfl rfl ?_
  refine own_iushr (pc' := 16) at_15 rfl ?_
  refine own_i2c (pc' := 17) at_16 rfl ?_
  refine own_istore (pc' := 19) (Ls' := #[.val (.int x0), .val (.int x1), .val (.int x2), .val (.int x3), .val (.int x4), .val (.int (x0.toUInt32.toUInt16.toUInt32.toInt32)), .val (.int (x1.toUInt32.toUInt16.toUInt32.toInt32)), .val (.int (x2.toUInt32.toUInt16.toUInt32.toInt32)), .val (.int ((XT.ushr x3 (8 : Int32)).toUInt32.toUInt16.toUInt32.toInt32)), .unset, .unset, .unset, .unset, .unset, .unset, .unset, .unset, .unset, .unset]) at_17 rfl rfl ?_
  refine own_iconst (3 : Int32) (pc' := 20) at_19 rfl rfl ?_
  refine own_newarrE (pc' := 22) (ty := .char) (cap := 3) (hw _ (List.mem_of_getElem? (i := 0) rfl)) rfl at_20 rfl (by decide) (by decide) (by decide) (by decide) (by decide) (fun h44 s gt_s lt_s E45 A_s E_s => ?_)
  replace E_s : Exa Z h44 s "[C" := (show ("[" ++ FieldType.toString .char) = "[C" from by decide) ▸ E_s
  have ge_s : n0 ≤ s := Nat.le_trans hn0 gt_s
  replace hn0 : n0 ≤ h44.size := Nat.le_trans hn0 E45.1
  replace A_s : own_A Z h44 s .char [.int (0 : Int32), .int (0 : Int32), .int (0 : Int32)] := A_s.cast rfl
  refine own_astore (pc' := 24) (Ls' := #[.val (.int x0), .val (.int x1), .val (.int x2), .val (.int x3), .val (.int x4), .val (.int (x0.toUInt32.toUInt16.toUInt32.toInt32)), .val (.int (x1.toUInt32.toUInt16.toUInt32.toInt32)), .val (.int (x2.toUInt32.toUInt16.toUInt32.toInt32)), .val (.int ((XT.ushr x3 (8 : Int32)).toUInt32.toUInt16.toUInt32.toInt32)), .val (.ref s), .unset, .unset, .unset, .unset, .unset, .unset, .unset, .unset, .unset]) at_22 rfl rfl ?_
  refine own_aload (pc' := 26) at_24 rfl rfl ?_
  refine own_iconst (0 : Int32) (pc' := 27) at_26 rfl rfl ?_
  refine own_iload (pc' := 29) at_27 rfl rfl ?_
  refine own_castore (pc' := 30) A_s (by decide) (by first | decide | (simp only [List.length_cons, List.length_nil, List.length_set, List.length_replicate]; decide)) ge_s at_29 rfl (fun h46 K47 A_new => ?_)
  replace E_s := E_s.keep K47
  replace hn0 : n0 ≤ h46.size := Nat.le_trans hn0 K47.1
  replace A_s : own_A Z h46 s .char [.int (nar .char (x0.toUInt32.toUInt16.toUInt32.toInt32)), .int (0 : Int32), .int (0 : Int32)] := A_new.cast rfl
  refine own_aload (pc' := 32) at_30 rfl rfl ?_
  refine own_iconst (1 : Int32) (pc' := 33) at_32 rfl rfl ?_
  refine own_iload (pc' := 35) at_33 rfl rfl ?_
  refine own_castore (pc' := 36) A_s (by decide) (by first | decide | (simp only [List.length_cons, List.length_nil, List.length_set, List.length_replicate]; decide)) ge_s at_35 rfl (fun h48 K49 A_new => ?_)
  replace E_s := E_s.keep K49
  replace hn0 : n0 ≤ h48.size := Nat.le_trans hn0 K49.1
  replace A_s : own_A Z h48 s .char [.int (nar .char (x0.toUInt32.toUInt16.toUInt32.toInt32)), .int (nar .char (x1.toUInt32.toUInt16.toUInt32.toInt32)), .int (0 : Int32)] := A_new.cast rfl
  refine own_aload (pc' := 38) at_36 rfl rfl ?_
  refine own_iconst (2 : Int32) (pc' := 39) at_38 rfl rfl ?_
  refine own_iload (pc' := 41) at_39 rfl rfl ?_
  refine own_castore (pc' := 42) A_s (by decide) (by first | decide | (simp only [List.length_cons, List.length_nil, List.length_set, List.length_replicate]; decide)) ge_s at_41 rfl (fun h50 K51 A_new => ?_)
  replace E_s := E_s.keep K51
  replace hn0 : n0 ≤ h50.size := Nat.le_trans hn0 K51.1
  replace A_s : own_A Z h50 s .char [.int (nar .char (x0.toUInt32.toUInt16.toUInt32.toInt32)), .int (nar .char (x1.toUInt32.toUInt16.toUInt32.toInt32)), .int (nar .char (x2.toUInt32.toUInt16.toUInt32.toInt32))] := A_new.cast rfl
  refine own_iloadN (pc' := 43) at_42 rfl rfl ?_
  refine own_iconst (3 : Int32) (pc' := 44) at_43 rfl rfl ?_
  refine own_iand (pc' := 45) at_44 rfl ?_
  have ho := c_and x3 3 (by decide)
  have c3 : (3 : Int32).toInt = 3 := rfl
  rw [c3] at ho
  have hch : ∀ u : Int32, nar .char u.toUInt32.toUInt16.toUInt32.toInt32 = u.toUInt32.toUInt16.toUInt32.toInt32 := by
    intro u
    show u.toUInt32.toUInt16.toUInt32.toInt32.toUInt32.toUInt16.toUInt32.toInt32 = _
    rw [UInt32.toUInt32_toInt32, UInt16.toUInt16_toUInt32]
  refine own_istore (pc' := 47) (Ls' := #[.val (.int x0), .val (.int x1), .val (.int x2), .val (.int x3), .val (.int x4), .val (.int (x0.toUInt32.toUInt16.toUInt32.toInt32)), .val (.int (x1.toUInt32.toUInt16.toUInt32.toInt32)), .val (.int (x2.toUInt32.toUInt16.toUInt32.toInt32)), .val (.int ((XT.ushr x3 (8 : Int32)).toUInt32.toUInt16.toUInt32.toInt32)), .val (.ref s), .val (.int (x3 &&& (3 : Int32))), .unset, .unset, .unset, .unset, .unset, .unset, .unset, .unset]) at_45 rfl rfl ?_
  refine own_iloadN (pc' := 48) at_47 rfl rfl ?_
  refine own_iconst (4 : Int32) (pc' := 49) at_48 rfl rfl ?_
  refine own_iand (pc' := 50) at_49 rfl ?_
  refine own_if_eq (pc' := 61) (pf := 53) at_50 (by decide) (by decide) rfl (fun h_50 => ?_) (fun h_50 => ?_)
  · refine own_iload (pc' := 63) at_61 rfl rfl ?_
    refine own_ldcI (pc' := 65) (u := (268435455 : Int32)) (hw _ (List.mem_of_getElem? (i := 1) rfl)) at_63 rfl ?_
    refine own_iand (pc' := 66) at_65 rfl ?_
    have hl := c_and x4 268435455 (by decide)
    have ch : (268435455 : Int32).toInt = 268435455 := rfl
    rw [ch] at hl
    exact own_law2 l Z a0 hw x0 x1 x2 x3 x4 _ _ _ _ _ _ _ _ _ s h50 n0 hn0 ⟨ho.1, ho.2⟩ ⟨hl.1, by omega⟩ (hch _) (hch _) (hch _) (hch _) ge_s A_s E_s
  · refine own_iload (pc' := 55) at_53 rfl rfl ?_
    refine own_bipush (7 : Int32) (pc' := 57) at_55 rfl rfl ?_
    refine own_iand (pc' := 58) at_57 rfl ?_
    refine own_goto (pc' := 66) at_58 (by decide) (by decide) ?_
    have hl := c_and x4 7 (by decide)
    have ch : (7 : Int32).toInt = 7 := rfl
    rw [ch] at hl
    exact own_law2 l Z a0 hw x0 x1 x2 x3 x4 _ _ _ _ _ _ _ _ _ s h50 n0 hn0 ⟨ho.1, ho.2⟩ ⟨hl.1, by omega⟩ (hch _) (hch _) (hch _) (hch _) ge_s A_s E_s
set_option maxRecDepth 65536 in
set_option maxHeartbeats 40000000 in
theorem comes_1 {Post : Tables → Env → Array Value → State → Outcome → State → Prop} (hpost : ∀ tb e args s v u, (limb_1_1.after args s (.returned v) u = true ∧ limb_1_2.after args s (.returned v) u = true ∧ True) → ReturnedEndW s (.returned v) u (Jvm.fieldLocs frame_1_writes args s ++ Jvm.arrayLocs frame_1_arrays args s ++ Jvm.staticLocs frame_1_statics s) 16 1152 → Post tb e args s (.returned v) u) :
    ArmFor flags0 classFile x code maxLocals ret World_1 tables_1 room_1 Calls_1 rest_1 Pre_1 Post := by
  intro l hfl _ _ p e ha hc hk s m args below hf hA hF happ hP
  obtain ⟨hcalls, hrest, hpre⟩ := hP
  obtain ⟨-, -, -, hnamed, -, -, -, hat⟩ := (Spec.applies_iff hf).mp happ
  obtain ⟨hg, hn⟩ := and_e (Cond.before_iff.mp (show (Jvm.Cond.and given_1 narrow_1).before args s = true from hpre))
  obtain ⟨hcount, hg0⟩ := and_e hg
  obtain ⟨w0, w1, w2, w3, w4, rfl⟩ : ∃ w0 w1 w2 w3 w4 : Value, args = #[w0, w1, w2, w3, w4] := by
    have hs : args.size = 5 := by simpa [Cond.value, given_1] using hcount
    obtain ⟨L⟩ := args
    match L, hs with
    | [w0, w1, w2, w3, w4], _ => exact ⟨w0, w1, w2, w3, w4, rfl⟩
  have hw := fun d (hd : d ∈ tables_1) => atoms_spec (ws := Jvm.Cond.code x code maxLocals ret :: tables_1) hat d (List.mem_cons_of_mem _ hd)
  obtain ⟨hg0v, hg1⟩ := and_e hg0
  obtain ⟨x0, e0⟩ := is_v hg0v
  obtain rfl : w0 = (.int x0) := Option.some.inj e0
  obtain ⟨hg1v, hg2⟩ := and_e hg1
  obtain ⟨x1, e1⟩ := is_v hg1v
  obtain rfl : w1 = (.int x1) := Option.some.inj e1
  obtain ⟨hg2v, hg3⟩ := and_e hg2
  obtain ⟨x2, e2⟩ := is_v hg2v
  obtain rfl : w2 = (.int x2) := Option.some.inj e2
  obtain ⟨hg3v, hg4⟩ := and_e hg3
  obtain ⟨x3, e3⟩ := is_v hg3v
  obtain rfl : w3 = (.int x3) := Option.some.inj e3
  obtain ⟨x4, e4⟩ := is_v hg4
  obtain rfl : w4 = (.int x4) := Option.some.inj e4
  obtain ⟨n, o, h1, h2, h3, _, L, rfl, ⟨hq1, N⟩, hq⟩ := own_met (argsL := [.int x0, .int x1, .int x2, .int x3, .int x4]) (own_law l s _ hw x0 x1 x2 x3 x4 s.heap s.heap.size (Nat.le_refl _)) (plainFor_of_name own_pn0) rfl tables_1 p e ha hc hk s m _ below hf ((Spec.applies_iff_loose hf).mp happ).1 ⟨rfl, State.Warmed39.refl s, rfl⟩ trivial
  subst hq1
  refine ⟨n, _, h1, h2, h3, hpost _ _ _ _ _ _ ⟨Cond.after_iff.mpr rfl, Cond.after_iff.mpr (eq_i res_at (Term.int_eval (1)) rfl), trivial⟩ ⟨hq.1, hq.2.1, hq.2.2.1, (hq.2.2.2.sift fun y hy => Or.inr (N y hy)).mono (by decide) (by decide)⟩⟩
theorem main_1_1 : Claimed_1_1 := comes_1 fun _ _ _ _ _ _ h hF => ⟨h.1, hF⟩
theorem main_1_2 : Claimed_1_2 := comes_1 fun _ _ _ _ _ _ h hF => ⟨h.2.1, hF⟩
end Jvm.Pilot.@@N@@
namespace Jvm.Pilot.@@N@@
open Jvm Jvm.ClassFile Sem Op Lib Jvm.Free Jvm.Stand Jvm.Pilot.@@N@@.Jvm.D
/-! MADE BY PROGRAM (witnessworld.py) out of the Statement's table words and the real class files: 22 classes; the members and pool entries that the words name. The judged class is class 1, her method 1. -/
namespace start1
open Jvm.ClassFile
def u (s : String) : CpInfo := .utf8 (stringToUtf16 s)
/-- a pool by its gaps: so many unusable entries, then the entry; so many at the end -/
def gap : Nat → List CpInfo → List CpInfo
  | 0, r => r
  | n + 1, r => .unusable :: gap n r
def poolList (es : List (Nat × CpInfo)) (last : Nat) : List CpInfo := es.foldr (fun e r => gap e.1 (e.2 :: r)) (gap last [])
def pool (es : List (Nat × CpInfo)) (last : Nat) : Array CpInfo := ⟨poolList es last⟩
def fileOf (pool : Array CpInfo) (this : Nat) (attrs : Array Attribute := #[]) (ms : Array MethodInfo := #[]) (fl : Nat := 33) (sup : Nat := 0) (ifs : Array Nat := #[]) (fds : Array FieldInfo := #[]) : ClassFile where
  minorVersion := 0
  majorVersion := 65
  constantPool := pool
  accessFlags := fl
  thisClass := this
  superClass := sup
  interfaces := ifs
  fields := fds
  methods := ms
  attributes := attrs
def plain (name : String) (sup : Option ClassId) : Class where
  name := name
  kind := .ordinary
  loader := none
  accessFlags := 33
  super := sup
  interfaces := #[]
  cf := none
  fields := #[]
  methods := #[]
  instanceTypes := #[]
  staticTypes := #[]
  resolved := #[]
  callSites := []
  init := .initialized
  statics := none
  mirror := none

def pool0 : Array CpInfo := pool [(5, u "<init>"), (0, u "()V"), (1, .class_ 10), (1, u "java/lang/Object")] 113

def k0c0 : Code := { maxStack := 0, maxLocals := 1, code := object_method_1_code, exceptionTable := #[], attributes := #[] }
def k0m0 : Method := { name := "<init>", desc := "()V", sig := { parameters := [], returnType := none }, accessFlags := 1, code := some k0c0 }
/-- java/lang/Object -/
def k0 : Class := { plain "java/lang/Object" none with
  accessFlags := 33
  interfaces := #[]
  cf := some (fileOf pool0 8 #[] #[{ accessFlags := 1, nameIndex := 5, descriptorIndex := 6, attributes := #[] }] 33 0 #[] #[])
  fields := #[]
  methods := #[k0m0]
  instanceTypes := #[]
  staticTypes := #[]
  resolved := Array.replicate 124 none
  statics := none }

def pool1 : Array CpInfo := pool [(2, .class_ 4), (1, u "java/lang/Object"), (0, u "<init>"), (0, u "()V"), (0, .integer 268435455), (0, .methodref 9 10), (0, .class_ 11), (0, .nameAndType 12 13), (0, u "java/lang/Math"), (0, u "min"), (0, u "(II)I"), (0, .class_ 15), (0, u "charwell/array/ArrayCharReader"), (0, .methodref 14 17), (0, .nameAndType 5 18), (0, u "([CII)V"), (0, .methodref 14 20), (0, .nameAndType 21 22), (0, u "read"), (0, u "()I"), (0, .methodref 24 25), (0, .class_ 26), (0, .nameAndType 27 28), (0, u "charwell/array/ArrayCharReaderReadPinLaw"), (0, u "expect"), (0, u "(IICCC)I"), (2, u "law"), (0, u "(IIIII)Z")] 8

def k1m0 : Method := { name := "<init>", desc := "()V", sig := { parameters := [], returnType := none }, accessFlags := 1, code := none }
def k1c1 : Code := { maxStack := 6, maxLocals := 19, code := code, exceptionTable := #[], attributes := #[] }
def k1m1 : Method := { name := "law", desc := "(IIIII)Z", sig := { parameters := [.int, .int, .int, .int, .int], returnType := some .boolean }, accessFlags := 9, code := some k1c1 }
def k1c2 : Code := { maxStack := 2, maxLocals := 5, code := method_3_code, exceptionTable := #[], attributes := #[] }
def k1m2 : Method := { name := "expect", desc := "(IICCC)I", sig := { parameters := [.int, .int, .char, .char, .char], returnType := some .int }, accessFlags := 10, code := some k1c2 }
/-- charwell/array/ArrayCharReaderReadPinLaw -/
def k1 : Class := { plain "charwell/array/ArrayCharReaderReadPinLaw" (some 0) with
  accessFlags := 49
  interfaces := #[]
  cf := some (fileOf pool1 24 #[] #[{ accessFlags := 1, nameIndex := 5, descriptorIndex := 6, attributes := #[] }, { accessFlags := 9, nameIndex := 31, descriptorIndex := 32, attributes := #[] }, { accessFlags := 10, nameIndex := 27, descriptorIndex := 28, attributes := #[] }] 49 2 #[] #[])
  fields := #[]
  methods := #[k1m0, k1m1, k1m2]
  instanceTypes := #[]
  staticTypes := #[]
  resolved := Array.replicate 41 none
  statics := none }

def pool2 : Array CpInfo := pool [(1, .class_ 2), (0, u "java/lang/Math"), (1, .class_ 6), (1, u "java/lang/Object"), (0, u "<init>"), (0, u "()V"), (89, .class_ 100), (1, u "java/lang/Math$RandomNumberGeneratorHolder"), (71, u "negativeZeroFloatBits"), (0, u "J"), (2, u "negativeZeroDoubleBits"), (24, u "min"), (43, u "$assertionsDisabled"), (0, u "Z"), (88, u "(II)I"), (2, u "twoToTheDoubleScaleDown"), (0, u "D"), (4, u "twoToTheDoubleScaleUp"), (9, u "E"), (3, u "PI"), (2, u "TAU"), (2, u "DEGREES_TO_RADIANS"), (0, u "RADIANS_TO_DEGREES")] 94

def k2m0 : Method := { name := "<init>", desc := "()V", sig := { parameters := [], returnType := none }, accessFlags := 2, code := none }
def k2c1 : Code := { maxStack := 2, maxLocals := 2, code := jdk_29_method_69_code, exceptionTable := #[], attributes := #[] }
def k2m1 : Method := { name := "min", desc := "(II)I", sig := { parameters := [.int, .int], returnType := some .int }, accessFlags := 9, code := some k2c1 }
/-- java/lang/Math -/
def k2 : Class := { plain "java/lang/Math" (some 0) with
  accessFlags := 49
  interfaces := #[]
  cf := some (fileOf pool2 1 #[.nestMembers #[98]] #[{ accessFlags := 2, nameIndex := 7, descriptorIndex := 8, attributes := #[] }, { accessFlags := 9, nameIndex := 201, descriptorIndex := 335, attributes := #[] }] 49 4 #[] #[{ accessFlags := 25, nameIndex := 354, descriptorIndex := 339, attributes := #[] }, { accessFlags := 25, nameIndex := 358, descriptorIndex := 339, attributes := #[] }, { accessFlags := 25, nameIndex := 361, descriptorIndex := 339, attributes := #[] }, { accessFlags := 26, nameIndex := 364, descriptorIndex := 339, attributes := #[] }, { accessFlags := 26, nameIndex := 365, descriptorIndex := 339, attributes := #[] }, { accessFlags := 26, nameIndex := 172, descriptorIndex := 173, attributes := #[] }, { accessFlags := 26, nameIndex := 176, descriptorIndex := 173, attributes := #[] }, { accessFlags := 8, nameIndex := 344, descriptorIndex := 339, attributes := #[] }, { accessFlags := 8, nameIndex := 338, descriptorIndex := 339, attributes := #[] }, { accessFlags := 4120, nameIndex := 245, descriptorIndex := 246, attributes := #[] }])
  fields := #[{ name := "E", type := .double, accessFlags := 25, slot := 0, constantValue := 0 }, { name := "PI", type := .double, accessFlags := 25, slot := 1, constantValue := 0 }, { name := "TAU", type := .double, accessFlags := 25, slot := 2, constantValue := 0 }, { name := "DEGREES_TO_RADIANS", type := .double, accessFlags := 26, slot := 3, constantValue := 0 }, { name := "RADIANS_TO_DEGREES", type := .double, accessFlags := 26, slot := 4, constantValue := 0 }, { name := "negativeZeroFloatBits", type := .long, accessFlags := 26, slot := 5, constantValue := 0 }, { name := "negativeZeroDoubleBits", type := .long, accessFlags := 26, slot := 6, constantValue := 0 }, { name := "twoToTheDoubleScaleUp", type := .double, accessFlags := 8, slot := 7, constantValue := 0 }, { name := "twoToTheDoubleScaleDown", type := .double, accessFlags := 8, slot := 8, constantValue := 0 }, { name := "$assertionsDisabled", type := .boolean, accessFlags := 4120, slot := 9, constantValue := 0 }]
  methods := #[k2m0, k2m1]
  instanceTypes := #[]
  staticTypes := #[.double, .double, .double, .double, .double, .long, .long, .double, .double, .boolean]
  resolved := Array.replicate 460 none
  statics := none }

def pool3 : Array CpInfo := pool [(1, .class_ 2), (0, u "java/lang/Readable"), (0, .class_ 4), (0, u "java/lang/Object")] 7

/-- java/lang/Readable -/
def k3 : Class := { plain "java/lang/Readable" (some 0) with
  accessFlags := 1537
  interfaces := #[]
  cf := some (fileOf pool3 1 #[] #[] 1537 3 #[] #[])
  fields := #[]
  methods := #[]
  instanceTypes := #[]
  staticTypes := #[]
  resolved := Array.replicate 12 none
  statics := none }

def pool4 : Array CpInfo := pool [(1, .class_ 2), (0, u "java/lang/AutoCloseable"), (0, .class_ 4), (0, u "java/lang/Object")] 7

/-- java/lang/AutoCloseable -/
def k4 : Class := { plain "java/lang/AutoCloseable" (some 0) with
  accessFlags := 1537
  interfaces := #[]
  cf := some (fileOf pool4 1 #[] #[] 1537 3 #[] #[])
  fields := #[]
  methods := #[]
  instanceTypes := #[]
  staticTypes := #[]
  resolved := Array.replicate 12 none
  statics := none }

def pool5 : Array CpInfo := pool [(1, .class_ 2), (0, u "java/io/Closeable"), (0, .class_ 4), (0, u "java/lang/Object"), (0, .class_ 6), (0, u "java/lang/AutoCloseable")] 7

/-- java/io/Closeable -/
def k5 : Class := { plain "java/io/Closeable" (some 0) with
  accessFlags := 1537
  interfaces := #[4]
  cf := some (fileOf pool5 1 #[] #[] 1537 3 #[5] #[])
  fields := #[]
  methods := #[]
  instanceTypes := #[]
  staticTypes := #[]
  resolved := Array.replicate 14 none
  statics := none }

def pool6 : Array CpInfo := pool [(1, .class_ 2), (0, u "java/io/Reader$1"), (1, .nameAndType 5 6), (0, u "<init>"), (0, u "()V"), (0, .methodref 8 4), (0, .class_ 9), (0, u "java/lang/Object"), (0, .fieldref 11 12), (0, .class_ 13), (0, .nameAndType 14 15), (0, u "java/io/Reader"), (0, u "skipBuffer"), (0, u "[C"), (0, .fieldref 11 17), (0, .nameAndType 18 19), (0, u "lock"), (0, u "Ljava/lang/Object;"), (117, .class_ 138), (0, u "java/lang/Readable"), (0, .class_ 140), (0, u "java/io/Closeable"), (0, u "TRANSFER_BUFFER_SIZE"), (0, u "I"), (2, u "maxSkipBufferSize")] 59

def k6c0 : Code := { maxStack := 2, maxLocals := 1, code := jdk_2043_method_2_code, exceptionTable := #[], attributes := #[] }
def k6m0 : Method := { name := "<init>", desc := "()V", sig := { parameters := [], returnType := none }, accessFlags := 4, code := some k6c0 }
/-- java/io/Reader -/
def k6 : Class := { plain "java/io/Reader" (some 0) with
  accessFlags := 1057
  interfaces := #[3, 5]
  cf := some (fileOf pool6 11 #[.nestMembers #[1]] #[{ accessFlags := 4, nameIndex := 5, descriptorIndex := 6, attributes := #[] }] 1057 8 #[137, 139] #[{ accessFlags := 26, nameIndex := 141, descriptorIndex := 142, attributes := #[] }, { accessFlags := 4, nameIndex := 18, descriptorIndex := 19, attributes := #[] }, { accessFlags := 26, nameIndex := 145, descriptorIndex := 142, attributes := #[] }, { accessFlags := 2, nameIndex := 14, descriptorIndex := 15, attributes := #[] }])
  fields := #[{ name := "TRANSFER_BUFFER_SIZE", type := .int, accessFlags := 26, slot := 0, constantValue := 0 }, { name := "lock", type := (.object "java/lang/Object"), accessFlags := 4, slot := 0, constantValue := 0 }, { name := "maxSkipBufferSize", type := .int, accessFlags := 26, slot := 1, constantValue := 0 }, { name := "skipBuffer", type := (.array .char), accessFlags := 2, slot := 1, constantValue := 0 }]
  methods := #[k6m0]
  instanceTypes := #[(.object "java/lang/Object"), (.array .char)]
  staticTypes := #[.int, .int]
  resolved := Array.replicate 205 none
  statics := none }

def pool7 : Array CpInfo := pool [(1, .string 2), (0, u "buf"), (0, .methodref 4 5), (0, .class_ 6), (0, .nameAndType 7 8), (0, u "java/util/Objects"), (0, u "requireNonNull"), (0, u "(Ljava/lang/Object;Ljava/lang/String;)Ljava/lang/Object;"), (0, .class_ 10), (0, u "[C"), (1, .class_ 14), (1, u "charwell/array/ArrayCharReader"), (0, u "<init>"), (0, u "([CII)V"), (0, .methodref 18 19), (0, .class_ 20), (0, .nameAndType 15 21), (0, u "java/io/Reader"), (0, u "()V"), (0, .fieldref 12 23), (0, .nameAndType 2 10), (13, .fieldref 12 38), (0, .nameAndType 39 40), (0, u "pos"), (0, u "I"), (0, .methodref 42 43), (0, .class_ 44), (0, .nameAndType 45 46), (0, u "java/lang/Math"), (0, u "min"), (0, u "(II)I"), (0, .fieldref 12 48), (0, .nameAndType 49 40), (0, u "end"), (0, .fieldref 12 51), (0, .nameAndType 52 40), (0, u "markedPos"), (0, .methodref 12 54), (0, .nameAndType 55 21), (0, u "ensureOpen"), (25, u "read"), (0, u "()I")] 32

def k7c0 : Code := { maxStack := 4, maxLocals := 4, code := prog_2_method_2_code, exceptionTable := #[], attributes := #[] }
def k7m0 : Method := { name := "<init>", desc := "([CII)V", sig := { parameters := [(.array .char), .int, .int], returnType := none }, accessFlags := 1, code := some k7c0 }
def k7c1 : Code := { maxStack := 5, maxLocals := 1, code := prog_2_method_3_code, exceptionTable := #[], attributes := #[] }
def k7m1 : Method := { name := "read", desc := "()I", sig := { parameters := [], returnType := some .int }, accessFlags := 1, code := some k7c1 }
def k7c2 : Code := { maxStack := 3, maxLocals := 1, code := prog_2_method_11_code, exceptionTable := #[], attributes := #[] }
def k7m2 : Method := { name := "ensureOpen", desc := "()V", sig := { parameters := [], returnType := none }, accessFlags := 2, code := some k7c2 }
/-- charwell/array/ArrayCharReader -/
def k7 : Class := { plain "charwell/array/ArrayCharReader" (some 6) with
  accessFlags := 33
  interfaces := #[]
  cf := some (fileOf pool7 12 #[] #[{ accessFlags := 1, nameIndex := 15, descriptorIndex := 16, attributes := #[] }, { accessFlags := 1, nameIndex := 81, descriptorIndex := 82, attributes := #[] }, { accessFlags := 2, nameIndex := 55, descriptorIndex := 21, attributes := #[] }] 33 18 #[] #[{ accessFlags := 2, nameIndex := 2, descriptorIndex := 10, attributes := #[] }, { accessFlags := 2, nameIndex := 39, descriptorIndex := 40, attributes := #[] }, { accessFlags := 18, nameIndex := 49, descriptorIndex := 40, attributes := #[] }, { accessFlags := 2, nameIndex := 52, descriptorIndex := 40, attributes := #[] }])
  fields := #[{ name := "buf", type := (.array .char), accessFlags := 2, slot := 2, constantValue := 0 }, { name := "pos", type := .int, accessFlags := 2, slot := 3, constantValue := 0 }, { name := "end", type := .int, accessFlags := 18, slot := 4, constantValue := 0 }, { name := "markedPos", type := .int, accessFlags := 2, slot := 5, constantValue := 0 }]
  methods := #[k7m0, k7m1, k7m2]
  instanceTypes := #[(.object "java/lang/Object"), (.array .char), (.array .char), .int, .int, .int]
  staticTypes := #[]
  resolved := Array.replicate 115 none
  statics := none }

def pool8 : Array CpInfo := pool [(1, .class_ 2), (0, u "java/io/Serializable"), (0, .class_ 4), (0, u "java/lang/Object")] 2

/-- java/io/Serializable -/
def k8 : Class := { plain "java/io/Serializable" (some 0) with
  accessFlags := 1537
  interfaces := #[]
  cf := some (fileOf pool8 1 #[] #[] 1537 3 #[] #[])
  fields := #[]
  methods := #[]
  instanceTypes := #[]
  staticTypes := #[]
  resolved := Array.replicate 7 none
  statics := none }

def pool9 : Array CpInfo := pool [(1, .class_ 2), (0, u "java/lang/Comparable"), (0, .class_ 4), (0, u "java/lang/Object")] 7

/-- java/lang/Comparable -/
def k9 : Class := { plain "java/lang/Comparable" (some 0) with
  accessFlags := 1537
  interfaces := #[]
  cf := some (fileOf pool9 1 #[] #[] 1537 3 #[] #[])
  fields := #[]
  methods := #[]
  instanceTypes := #[]
  staticTypes := #[]
  resolved := Array.replicate 12 none
  statics := none }

def pool10 : Array CpInfo := pool [(2, .class_ 4), (1, u "java/lang/CharSequence"), (42, .class_ 48), (0, u "java/lang/CharSequence$1CodePointIterator"), (10, .class_ 60), (0, u "java/lang/CharSequence$1CharIterator"), (5, .class_ 67), (0, u "java/lang/Object")] 63

/-- java/lang/CharSequence -/
def k10 : Class := { plain "java/lang/CharSequence" (some 0) with
  accessFlags := 1537
  interfaces := #[]
  cf := some (fileOf pool10 2 #[.nestMembers #[47, 59]] #[] 1537 66 #[] #[])
  fields := #[]
  methods := #[]
  instanceTypes := #[]
  staticTypes := #[]
  resolved := Array.replicate 131 none
  statics := none }

def pool11 : Array CpInfo := pool [(1, .class_ 2), (0, u "java/lang/constant/Constable"), (0, .class_ 4), (0, u "java/lang/Object")] 6

/-- java/lang/constant/Constable -/
def k11 : Class := { plain "java/lang/constant/Constable" (some 0) with
  accessFlags := 1537
  interfaces := #[]
  cf := some (fileOf pool11 1 #[] #[] 1537 3 #[] #[])
  fields := #[]
  methods := #[]
  instanceTypes := #[]
  staticTypes := #[]
  resolved := Array.replicate 11 none
  statics := none }

def pool12 : Array CpInfo := pool [(1, .class_ 2), (0, u "java/lang/constant/ConstantDesc"), (0, .class_ 4), (0, u "java/lang/Object")] 32

/-- java/lang/constant/ConstantDesc -/
def k12 : Class := { plain "java/lang/constant/ConstantDesc" (some 0) with
  accessFlags := 1537
  interfaces := #[]
  cf := some (fileOf pool12 1 #[] #[] 1537 3 #[] #[])
  fields := #[]
  methods := #[]
  instanceTypes := #[]
  staticTypes := #[]
  resolved := Array.replicate 37 none
  statics := none }

def pool13 : Array CpInfo := pool [(2, .class_ 4), (1, u "java/lang/Object"), (0, u "<init>"), (0, u "()V"), (3, .class_ 12), (1, u "java/lang/String"), (0, u "value"), (0, u "[B"), (2, u "coder"), (0, u "B"), (2, u "hash"), (0, u "I"), (2, u "hashIsZero"), (0, u "Z"), (13, u "COMPACT_STRINGS"), (534, .class_ 576), (0, u "java/lang/CharSequence"), (22, u "CASE_INSENSITIVE_ORDER"), (0, u "Ljava/util/Comparator;"), (500, u "serialPersistentFields"), (0, u "[Ljava/io/ObjectStreamField;"), (0, .class_ 1104), (0, u "java/lang/String$CaseInsensitiveComparator"), (1, .class_ 1107), (0, u "java/io/Serializable"), (0, .class_ 1109), (0, u "java/lang/Comparable"), (0, .class_ 1111), (0, u "java/lang/constant/Constable"), (0, .class_ 1113), (0, u "java/lang/constant/ConstantDesc"), (2, u "serialVersionUID"), (0, u "J"), (3, u "REPL"), (0, u "C"), (2, u "LATIN1"), (1, u "UTF16")] 323

def k13m0 : Method := { name := "<init>", desc := "()V", sig := { parameters := [], returnType := none }, accessFlags := 1, code := none }
/-- java/lang/String -/
def k13 : Class := { plain "java/lang/String" (some 0) with
  accessFlags := 49
  interfaces := #[8, 9, 10, 11, 12]
  cf := some (fileOf pool13 10 #[.nestMembers #[1103]] #[{ accessFlags := 1, nameIndex := 5, descriptorIndex := 6, attributes := #[] }] 49 2 #[1106, 1108, 575, 1110, 1112] #[{ accessFlags := 18, nameIndex := 13, descriptorIndex := 14, attributes := #[] }, { accessFlags := 18, nameIndex := 17, descriptorIndex := 18, attributes := #[] }, { accessFlags := 2, nameIndex := 21, descriptorIndex := 22, attributes := #[] }, { accessFlags := 2, nameIndex := 25, descriptorIndex := 26, attributes := #[] }, { accessFlags := 26, nameIndex := 1116, descriptorIndex := 1117, attributes := #[] }, { accessFlags := 24, nameIndex := 40, descriptorIndex := 26, attributes := #[] }, { accessFlags := 26, nameIndex := 1101, descriptorIndex := 1102, attributes := #[] }, { accessFlags := 26, nameIndex := 1121, descriptorIndex := 1122, attributes := #[] }, { accessFlags := 25, nameIndex := 599, descriptorIndex := 600, attributes := #[] }, { accessFlags := 24, nameIndex := 1125, descriptorIndex := 18, attributes := #[] }, { accessFlags := 24, nameIndex := 1127, descriptorIndex := 18, attributes := #[] }])
  fields := #[{ name := "value", type := (.array .byte), accessFlags := 18, slot := 0, constantValue := 0 }, { name := "coder", type := .byte, accessFlags := 18, slot := 1, constantValue := 0 }, { name := "hash", type := .int, accessFlags := 2, slot := 2, constantValue := 0 }, { name := "hashIsZero", type := .boolean, accessFlags := 2, slot := 3, constantValue := 0 }, { name := "serialVersionUID", type := .long, accessFlags := 26, slot := 0, constantValue := 0 }, { name := "COMPACT_STRINGS", type := .boolean, accessFlags := 24, slot := 1, constantValue := 0 }, { name := "serialPersistentFields", type := (.array (.object "java/io/ObjectStreamField")), accessFlags := 26, slot := 2, constantValue := 0 }, { name := "REPL", type := .char, accessFlags := 26, slot := 3, constantValue := 0 }, { name := "CASE_INSENSITIVE_ORDER", type := (.object "java/util/Comparator"), accessFlags := 25, slot := 4, constantValue := 0 }, { name := "LATIN1", type := .byte, accessFlags := 24, slot := 5, constantValue := 0 }, { name := "UTF16", type := .byte, accessFlags := 24, slot := 6, constantValue := 0 }]
  methods := #[k13m0]
  instanceTypes := #[(.array .byte), .byte, .int, .boolean]
  staticTypes := #[.long, .boolean, (.array (.object "java/io/ObjectStreamField")), .char, (.object "java/util/Comparator"), .byte, .byte]
  resolved := Array.replicate 1451 none
  statics := none }

def pool14 : Array CpInfo := pool [(2, .class_ 4), (1, u "java/lang/Object"), (0, u "<init>"), (0, u "()V"), (35, .class_ 44), (1, u "java/util/Objects"), (0, u "requireNonNull"), (48, u "(Ljava/lang/Object;Ljava/lang/String;)Ljava/lang/Object;")] 89

def k14m0 : Method := { name := "<init>", desc := "()V", sig := { parameters := [], returnType := none }, accessFlags := 2, code := none }
def k14c1 : Code := { maxStack := 3, maxLocals := 2, code := jdk_31_method_11_code, exceptionTable := #[], attributes := #[] }
def k14m1 : Method := { name := "requireNonNull", desc := "(Ljava/lang/Object;Ljava/lang/String;)Ljava/lang/Object;", sig := { parameters := [(.object "java/lang/Object"), (.object "java/lang/String")], returnType := some (.object "java/lang/Object") }, accessFlags := 9, code := some k14c1 }
/-- java/util/Objects -/
def k14 : Class := { plain "java/util/Objects" (some 0) with
  accessFlags := 49
  interfaces := #[]
  cf := some (fileOf pool14 42 #[] #[{ accessFlags := 2, nameIndex := 5, descriptorIndex := 6, attributes := #[] }, { accessFlags := 9, nameIndex := 45, descriptorIndex := 94, attributes := #[] }] 49 2 #[] #[])
  fields := #[]
  methods := #[k14m0, k14m1]
  instanceTypes := #[]
  staticTypes := #[]
  resolved := Array.replicate 184 none
  statics := none }

def pool15 : Array CpInfo := pool [(1, u "java/lang/Cloneable"), (0, .class_ 1), (0, u "java/lang/Object"), (0, .class_ 3)] 3

/-- java/lang/Cloneable -/
def k15 : Class := { plain "java/lang/Cloneable" (some 0) with
  accessFlags := 1537
  interfaces := #[]
  cf := some (fileOf pool15 2 #[] #[] 1537 4 #[] #[])
  fields := #[]
  methods := #[]
  instanceTypes := #[]
  staticTypes := #[]
  resolved := Array.replicate 8 none
  statics := none }

/-- the primitive byte -/
def k16 : Class := { plain "byte" none with kind := .primitive 'B', accessFlags := 0x411 }
/-- [B -/
def k17 : Class := { plain "[B" (some 0) with kind := .array 16 .byte, interfaces := #[15, 8], accessFlags := 1041 }

/-- the primitive char -/
def k18 : Class := { plain "char" none with kind := .primitive 'C', accessFlags := 0x411 }
/-- [C -/
def k19 : Class := { plain "[C" (some 0) with kind := .array 18 .char, interfaces := #[15, 8], accessFlags := 1041 }

/-- the primitive int -/
def k20 : Class := { plain "int" none with kind := .primitive 'I', accessFlags := 0x411 }
/-- [I -/
def k21 : Class := { plain "[I" (some 0) with kind := .array 20 .int, interfaces := #[15, 8], accessFlags := 1041 }

def heap : Heap := #[]
def classes : Array Class := #[k0, k1, k2, k3, k4, k5, k6, k7, k8, k9, k10, k11, k12, k13, k14, k15, k16, k17, k18, k19, k20, k21]
def interned : List (Array UInt16 × Addr) := []
def slotsUsed : Nat := 0
def theMethod : MethodId := ⟨1, 1⟩
def args0 : Array Value := #[.int 5, .int 5, .int 5, .int 5, .int 5]
def aboutOver (below : List Frame) : State where
  vm := { classes := classes, interned := interned.toArray }
  heap := heap
  slotsUsed := slotsUsed
  threads := #[{ frames := .invoking theMethod args0 :: below }]
def below0 : List Frame := [.native { method := ⟨0, 0⟩, args := #[] }]
def about1 : State := aboutOver below0
def p0 : Program := .bare "" "" ""
def e0 : Env := launch0.env 0 0 0
theorem w_frames : about1.frames = Frame.invoking theMethod args0 :: below0 := rfl
set_option maxRecDepth 65536 in
theorem w_args : argsFit about1.vm theMethod args0 = true := by decide +kernel
set_option maxRecDepth 65536 in
theorem w_heap : heapFits about1 = true := by decide +kernel
set_option maxRecDepth 65536 in
theorem w_runnable : about1.curStatus? = some .runnable := by decide +kernel
set_option maxRecDepth 65536 in
theorem w_alone : about1.alone = true := by decide +kernel
set_option maxRecDepth 65536 in
theorem w_named : about1.methodNamed? x = some theMethod := by decide +kernel
set_option maxRecDepth 65536 in
theorem w_hears : about1.hears theMethod below0 = true := by decide +kernel
set_option maxRecDepth 65536 in
theorem w_ripe : about1.ripe theMethod args0 below0 = true := by decide +kernel
theorem w_running : about1.status = .running := rfl
set_option maxRecDepth 65536 in
theorem w_room : about1.hasRoom e0.platform room_1 = true :=
  launch0.hasRoom_least _ room_1 (by decide +kernel) (by decide +kernel) (by decide +kernel) (by decide +kernel) (by decide +kernel) (by decide +kernel)
theorem allAtoms_all (ts : List Jvm.Cond) (a : Array Jvm.Value) (st : Jvm.State) : (allAtoms ts).before a st = ts.all (fun c => c.before a st) := by
  induction ts with
  | nil => rfl
  | cons c t ih =>
    show (Jvm.Cond.and c (allAtoms t)).before a st = _
    rw [Jvm.Cond.before_and, ih, List.all_cons]
def words1 : List Jvm.Cond := Jvm.Cond.code x code maxLocals ret :: tables_1
/-- a 'code' word, met by the world's own term for the bytes: nothing is compared byte by byte -/
theorem code_word {y : MethodName} {bytes : ByteArray} {mx : Nat} {rt : Option FieldType} {a : Array Value} {s : State} {m : MethodId} {meth : Method} {c : Code} (h1 : s.methodNamed? y = some m) (h2 : s.vm.method? m = some meth) (h3 : meth.code = some c) (h4 : c.code = bytes)
    (h5 : (c.maxLocals == mx && c.exceptionTable.isEmpty && decide (c.maxStack ≤ mostOperands) && decide (meth.sig.returnType = rt) && !meth.locks && decide (parseMethodDescriptor y.desc = some meth.sig)) = true) : (Jvm.Cond.code y bytes mx rt).before a s = true := by
  simp only [Bool.and_eq_true, beq_iff_eq, Bool.not_eq_true', decide_eq_true_eq] at h5
  obtain ⟨⟨⟨⟨⟨g1, g2⟩, g3⟩, g4⟩, g5⟩, g6⟩ := h5
  simp [Cond.before, Cond.holds, Cond.value, h1, h2, h3, h4, g1, g2, g3, g4, g5, g6]
def isCode : Jvm.Cond → Bool
  | .code _ _ _ _ => true
  | _ => false
theorem all_split {L : List Jvm.Cond} {P : Jvm.Cond → Bool} (h1 : L.all (fun c => isCode c || P c) = true) (h2 : ∀ c ∈ L.filter isCode, P c = true) : L.all P = true := by
  refine List.all_eq_true.mpr fun c hc => ?_
  have h := List.all_eq_true.mp h1 c hc
  rcases Bool.eq_false_or_eq_true (isCode c) with hi | hi
  · exact h2 c (List.mem_filter.mpr ⟨hc, hi⟩)
  · simpa [hi] using h
set_option maxRecDepth 65536 in
theorem w_c0 : (Jvm.Cond.code x code maxLocals ret).before args0 about1 = true := code_word (m := ⟨1, 1⟩) (meth := k1m1) (c := k1c1) (by decide +kernel) rfl rfl rfl (by decide +kernel)
set_option maxRecDepth 65536 in
theorem w_c1 : (Jvm.Cond.code ({ cls := "java/lang/Math", name := "min", desc := "(II)I" } : Jvm.MethodName) jdk_29_method_69_code (2 : Nat) (Option.some Jvm.ClassFile.FieldType.int)).before args0 about1 = true := code_word (m := ⟨2, 1⟩) (meth := k2m1) (c := k2c1) (by decide +kernel) rfl rfl rfl (by decide +kernel)
set_option maxRecDepth 65536 in
theorem w_c2 : (Jvm.Cond.code ({ cls := "charwell/array/ArrayCharReader", name := "<init>", desc := "([CII)V" } : Jvm.MethodName) prog_2_method_2_code (4 : Nat) (Option.none : Option Jvm.ClassFile.FieldType)).before args0 about1 = true := code_word (m := ⟨7, 0⟩) (meth := k7m0) (c := k7c0) (by decide +kernel) rfl rfl rfl (by decide +kernel)
set_option maxRecDepth 65536 in
theorem w_c3 : (Jvm.Cond.code ({ cls := "java/io/Reader", name := "<init>", desc := "()V" } : Jvm.MethodName) jdk_2043_method_2_code (1 : Nat) (Option.none : Option Jvm.ClassFile.FieldType)).before args0 about1 = true := code_word (m := ⟨6, 0⟩) (meth := k6m0) (c := k6c0) (by decide +kernel) rfl rfl rfl (by decide +kernel)
set_option maxRecDepth 65536 in
theorem w_c4 : (Jvm.Cond.code ({ cls := "java/lang/Object", name := "<init>", desc := "()V" } : Jvm.MethodName) object_method_1_code (1 : Nat) (Option.none : Option Jvm.ClassFile.FieldType)).before args0 about1 = true := code_word (m := ⟨0, 0⟩) (meth := k0m0) (c := k0c0) (by decide +kernel) rfl rfl rfl (by decide +kernel)
set_option maxRecDepth 65536 in
theorem w_c5 : (Jvm.Cond.code ({ cls := "java/util/Objects", name := "requireNonNull", desc := "(Ljava/lang/Object;Ljava/lang/String;)Ljava/lang/Object;" } : Jvm.MethodName) jdk_31_method_11_code (2 : Nat) (Option.some (Jvm.ClassFile.FieldType.object "java/lang/Object"))).before args0 about1 = true := code_word (m := ⟨14, 1⟩) (meth := k14m1) (c := k14c1) (by decide +kernel) rfl rfl rfl (by decide +kernel)
set_option maxRecDepth 65536 in
theorem w_c6 : (Jvm.Cond.code ({ cls := "charwell/array/ArrayCharReader", name := "read", desc := "()I" } : Jvm.MethodName) prog_2_method_3_code (1 : Nat) (Option.some Jvm.ClassFile.FieldType.int)).before args0 about1 = true := code_word (m := ⟨7, 1⟩) (meth := k7m1) (c := k7c1) (by decide +kernel) rfl rfl rfl (by decide +kernel)
set_option maxRecDepth 65536 in
theorem w_c7 : (Jvm.Cond.code ({ cls := "charwell/array/ArrayCharReader", name := "ensureOpen", desc := "()V" } : Jvm.MethodName) prog_2_method_11_code (1 : Nat) (Option.none : Option Jvm.ClassFile.FieldType)).before args0 about1 = true := code_word (m := ⟨7, 2⟩) (meth := k7m2) (c := k7c2) (by decide +kernel) rfl rfl rfl (by decide +kernel)
set_option maxRecDepth 65536 in
theorem w_c8 : (Jvm.Cond.code ({ cls := "charwell/array/ArrayCharReaderReadPinLaw", name := "expect", desc := "(IICCC)I" } : Jvm.MethodName) method_3_code (5 : Nat) (Option.some Jvm.ClassFile.FieldType.int)).before args0 about1 = true := code_word (m := ⟨1, 2⟩) (meth := k1m2) (c := k1c2) (by decide +kernel) rfl rfl rfl (by decide +kernel)
def codes1 : List Jvm.Cond := [Jvm.Cond.code x code maxLocals ret, Jvm.Cond.code ({ cls := "java/lang/Math", name := "min", desc := "(II)I" } : Jvm.MethodName) jdk_29_method_69_code (2 : Nat) (Option.some Jvm.ClassFile.FieldType.int), Jvm.Cond.code ({ cls := "charwell/array/ArrayCharReader", name := "<init>", desc := "([CII)V" } : Jvm.MethodName) prog_2_method_2_code (4 : Nat) (Option.none : Option Jvm.ClassFile.FieldType), Jvm.Cond.code ({ cls := "java/io/Reader", name := "<init>", desc := "()V" } : Jvm.MethodName) jdk_2043_method_2_code (1 : Nat) (Option.none : Option Jvm.ClassFile.FieldType), Jvm.Cond.code ({ cls := "java/lang/Object", name := "<init>", desc := "()V" } : Jvm.MethodName) object_method_1_code (1 : Nat) (Option.none : Option Jvm.ClassFile.FieldType), Jvm.Cond.code ({ cls := "java/util/Objects", name := "requireNonNull", desc := "(Ljava/lang/Object;Ljava/lang/String;)Ljava/lang/Object;" } : Jvm.MethodName) jdk_31_method_11_code (2 : Nat) (Option.some (Jvm.ClassFile.FieldType.object "java/lang/Object")), Jvm.Cond.code ({ cls := "charwell/array/ArrayCharReader", name := "read", desc := "()I" } : Jvm.MethodName) prog_2_method_3_code (1 : Nat) (Option.some Jvm.ClassFile.FieldType.int), Jvm.Cond.code ({ cls := "charwell/array/ArrayCharReader", name := "ensureOpen", desc := "()V" } : Jvm.MethodName) prog_2_method_11_code (1 : Nat) (Option.none : Option Jvm.ClassFile.FieldType), Jvm.Cond.code ({ cls := "charwell/array/ArrayCharReaderReadPinLaw", name := "expect", desc := "(IICCC)I" } : Jvm.MethodName) method_3_code (5 : Nat) (Option.some Jvm.ClassFile.FieldType.int)]
set_option maxRecDepth 65536 in
theorem codes_eq : words1.filter isCode = codes1 := rfl
theorem w_codes : ∀ c ∈ words1.filter isCode, c.before args0 about1 = true := by
  rw [codes_eq]
  intro c hc
  simp only [codes1, List.mem_cons, List.not_mem_nil, or_false] at hc
  rcases hc with rfl | rfl | rfl | rfl | rfl | rfl | rfl | rfl | rfl
  · exact w_c0
  · exact w_c1
  · exact w_c2
  · exact w_c3
  · exact w_c4
  · exact w_c5
  · exact w_c6
  · exact w_c7
  · exact w_c8
set_option maxRecDepth 65536 in
theorem w_t1 : (words1.take 24).all (fun c => isCode c || c.before args0 about1) = true := by decide +kernel
set_option maxRecDepth 65536 in
theorem w_t2 : ((words1.drop 24).take 24).all (fun c => isCode c || c.before args0 about1) = true := by decide +kernel
set_option maxRecDepth 65536 in
theorem w_t3 : ((words1.drop 24).drop 24).all (fun c => isCode c || c.before args0 about1) = true := by decide +kernel
theorem w_tables : (allAtoms (Jvm.Cond.code x code maxLocals ret :: tables_1)).before args0 about1 = true := by
  rw [allAtoms_all]
  show words1.all (fun c => c.before args0 about1) = true
  refine all_split ?_ w_codes
  rw [← List.take_append_drop 24 words1, List.all_append, w_t1, ← List.take_append_drop 24 (words1.drop 24), List.all_append, w_t2, w_t3]
  rfl
set_option maxRecDepth 65536 in
theorem w_case : (Jvm.Cond.and given_1 narrow_1).before args0 about1 = true := by decide +kernel
theorem w_applies : (headSpec (Jvm.Cond.code x code maxLocals ret :: tables_1) room_1).applies x e0.platform about1 = true :=
  (Spec.applies_iff w_frames).mpr ⟨w_running, w_runnable, w_alone, w_named, w_hears, w_ripe, w_room, w_tables⟩
theorem atStart : AtStart classFile x code maxLocals ret World_1 tables_1 room_1 Calls_1 rest_1 Pre_1 launch0 p0 e0 about1 theMethod args0 below0 :=
  ⟨lists_1, trivial, launch0.admits_env _ _ _, launch0.least_env, fairChoices_fair.cas, fairChoices_fair.clock, w_frames, w_args, w_heap, w_applies, trivial, trivial, w_case⟩
end start1
theorem witness_1 : WitnessClaimed_1 := ⟨start1.p0, start1.e0, start1.about1, start1.theMethod, start1.args0, start1.below0, start1.atStart⟩
end Jvm.Pilot.@@N@@

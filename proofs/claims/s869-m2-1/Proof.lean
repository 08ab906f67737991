import JvmDerived
import JvmDerived.Pilot.@@N@@Statement
import JvmDerived.Pilot.@@N@@Code
set_option linter.unusedVariables false
set_option linter.unusedSimpArgs false
namespace Jvm.Pilot.@@N@@
open Jvm Jvm.ClassFile Sem Op Lib Jvm.Free Jvm.Stand Jvm.LawKit Jvm.RoadKit Bundle Jvm.Pilot.@@N@@.Jvm.D
-- LAYER BEGIN
section OwnW
variable {l : Launch} {Z : State} {y : MethodName} {bytes : ByteArray} {ml : Nat} {ret : Option FieldType} {R : Room} {n0 : Nat} {Q : Option Value → Heap → Prop} {h : Heap} {cells slots pc pc' : Nat} {Ls Ls' : Array Slot} {st st' : List Value} {a0 : Array Value}
/-- from this point of the body (heap h, so many cells and slots made, at pc with these locals and this stack) every run returns; Q holds of the value and the heap; all that was written lies at or above n0 -/
def own_W (l : Launch) (Z : State) (y : MethodName) (bytes : ByteArray) (ml : Nat) (ret : Option FieldType) (R : Room) (n0 : Nat) (Q : Option Value → Heap → Prop) (h : Heap) (cells slots pc : Nat) (Ls : Array Slot) (st : List Value) : Prop :=
  ∀ (p : Program) (e : Env) (s : State) (vm0 : Vm) (k0 : Nat) (m : MethodId) (args : Array Value) (below : List Frame) (meth : Method) (c : Code) (T : State) (locs : List Loc),
    p.tables.exec = Jvm.exec → Z.Warmed39 (s.setVm vm0).vm → (s.setVm vm0).vm.findClass y.cls = some m.cls → c.code = bytes → c.maxLocals = ml → meth.sig.returnType = ret → meth.locks = false → meth.name = y.name → cells ≤ R.cells → slots ≤ R.slots →
    Stand p l e R (s.setVm vm0) m args below meth c T locs cells slots → T.heap = h → Fr n0 locs → s.Since vm0 k0 → k0 ≤ h.size →
    ∃ s₂ o, Steps p.tables e below (T.setTop (mkF m pc Ls st)) s₂ ∧ s₂.status = .running ∧ Ended s₂ below o ∧ ∃ v L, o = .returned v ∧ (Q v s₂.heap ∧ Fr n0 L) ∧ ReturnedEndW s o s₂ L R.cells R.slots
theorem own_pure (hs : ∀ (p : Program) (e : Env) (below : List Frame) (T target : State) (m : MethodId) (c : Code), At T m c below → p.tables.exec = Jvm.exec → c.code = bytes → Steps p.tables e below (T.setTop (mkF m pc' Ls' st')) target → Steps p.tables e below (T.setTop (mkF m pc Ls st)) target)
    (k : own_W l Z y bytes ml ret R n0 Q h cells slots pc' Ls' st') : own_W l Z y bytes ml ret R n0 Q h cells slots pc Ls st := by
  intro p e s vm0 k0 m args below meth c T locs hx hZ hown hby hml hret hlk hnm hce hsl X eT N hS hk
  obtain ⟨s₂, o, h1, h2⟩ := k p e s vm0 k0 m args below meth c T locs hx hZ hown hby hml hret hlk hnm hce hsl X eT N hS hk
  exact ⟨s₂, o, hs p e below T s₂ m c X.here hx hby h1, h2⟩
theorem own_more {cells' slots' : Nat} (hc : cells ≤ cells') (hs : slots ≤ slots') (hc' : cells' ≤ R.cells) (hs' : slots' ≤ R.slots) (k : own_W l Z y bytes ml ret R n0 Q h cells' slots' pc Ls st) : own_W l Z y bytes ml ret R n0 Q h cells slots pc Ls st := by
  intro p e s vm0 k0 m args below meth c T locs hx hZ hown hby hml hret hlk hnm hce hsl X eT N hS hk
  exact k p e s vm0 k0 m args below meth c T locs hx hZ hown hby hml hret hlk hnm hc' hs' (X.more hc hs) eT N hS hk
theorem own_weak {Q' : Option Value → Heap → Prop} (hq : ∀ v h, Q' v h → Q v h) (k : own_W l Z y bytes ml ret R n0 Q' h cells slots pc Ls st) : own_W l Z y bytes ml ret R n0 Q h cells slots pc Ls st := by
  intro p e s vm0 k0 m args below meth c T locs hx hZ hown hby hml hret hlk hnm hce hsl X eT N hS hk
  obtain ⟨s₂, o, h1, h2, h3, v, L, h4, ⟨h5, h6⟩, h7⟩ := k p e s vm0 k0 m args below meth c T locs hx hZ hown hby hml hret hlk hnm hce hsl X eT N hS hk
  exact ⟨s₂, o, h1, h2, h3, v, L, h4, ⟨hq _ _ h5, h6⟩, h7⟩
theorem own_iloadN {i : Fin 4} {u : Int32} (hd : decode bytes pc = .ok (.iload_n i, 1)) (hp : pc + 1 = pc') (hl : Ls[i.val]? = some (.val (.int u))) (k : own_W l Z y bytes ml ret R n0 Q h cells slots pc' Ls (.int u :: st)) : own_W l Z y bytes ml ret R n0 Q h cells slots pc Ls (st) :=
  own_pure (fun p e below T t m c hA hx hb hr => by subst hp; exact XS.iloadN hA hx rfl (hb ▸ hd) hl hr) k
theorem own_iload {i : Nat} {u : Int32} (hd : decode bytes pc = .ok (.iload i, 2)) (hp : pc + 2 = pc') (hl : Ls[i]? = some (.val (.int u))) (k : own_W l Z y bytes ml ret R n0 Q h cells slots pc' Ls (.int u :: st)) : own_W l Z y bytes ml ret R n0 Q h cells slots pc Ls (st) :=
  own_pure (fun p e below T t m c hA hx hb hr => by subst hp; exact XS.iload hA hx rfl (hb ▸ hd) hl hr) k
theorem own_lloadN {i : Fin 4} {u : Int64} (hd : decode bytes pc = .ok (.lload_n i, 1)) (hp : pc + 1 = pc') (hl : Ls[i.val]? = some (.val (.long u))) (k : own_W l Z y bytes ml ret R n0 Q h cells slots pc' Ls (.long u :: st)) : own_W l Z y bytes ml ret R n0 Q h cells slots pc Ls (st) :=
  own_pure (fun p e below T t m c hA hx hb hr => by subst hp; exact XT.lloadN hA hx rfl (hb ▸ hd) hl hr) k
theorem own_lload {i : Nat} {u : Int64} (hd : decode bytes pc = .ok (.lload i, 2)) (hp : pc + 2 = pc') (hl : Ls[i]? = some (.val (.long u))) (k : own_W l Z y bytes ml ret R n0 Q h cells slots pc' Ls (.long u :: st)) : own_W l Z y bytes ml ret R n0 Q h cells slots pc Ls (st) :=
  own_pure (fun p e below T t m c hA hx hb hr => by subst hp; exact XT.lload hA hx rfl (hb ▸ hd) hl hr) k
theorem own_aloadN {i : Fin 4} {u : Addr} (hd : decode bytes pc = .ok (.aload_n i, 1)) (hp : pc + 1 = pc') (hl : Ls[i.val]? = some (.val (.ref u))) (k : own_W l Z y bytes ml ret R n0 Q h cells slots pc' Ls (.ref u :: st)) : own_W l Z y bytes ml ret R n0 Q h cells slots pc Ls (st) :=
  own_pure (fun p e below T t m c hA hx hb hr => by subst hp; exact XS.aloadN hA hx rfl (hb ▸ hd) hl rfl hr) k
theorem own_aload {i : Nat} {u : Addr} (hd : decode bytes pc = .ok (.aload i, 2)) (hp : pc + 2 = pc') (hl : Ls[i]? = some (.val (.ref u))) (k : own_W l Z y bytes ml ret R n0 Q h cells slots pc' Ls (.ref u :: st)) : own_W l Z y bytes ml ret R n0 Q h cells slots pc Ls (st) :=
  own_pure (fun p e below T t m c hA hx hb hr => by subst hp; exact XS.aload hA hx rfl (hb ▸ hd) hl rfl hr) k
theorem own_istoreN {i : Fin 4} {u : Int32} (hd : decode bytes pc = .ok (.istore_n i, 1)) (hp : pc + 1 = pc') (hl : storeLocals Ls i.val (.int u) = some Ls') (k : own_W l Z y bytes ml ret R n0 Q h cells slots pc' Ls' (st)) : own_W l Z y bytes ml ret R n0 Q h cells slots pc Ls (.int u :: st) :=
  own_pure (fun p e below T t m c hA hx hb hr => by subst hp; exact XS.istoreN hA hx rfl (hb ▸ hd) rfl hl hr) k
theorem own_istore {i : Nat} {u : Int32} (hd : decode bytes pc = .ok (.istore i, 2)) (hp : pc + 2 = pc') (hl : storeLocals Ls i (.int u) = some Ls') (k : own_W l Z y bytes ml ret R n0 Q h cells slots pc' Ls' (st)) : own_W l Z y bytes ml ret R n0 Q h cells slots pc Ls (.int u :: st) :=
  own_pure (fun p e below T t m c hA hx hb hr => by subst hp; exact XS.istore hA hx rfl (hb ▸ hd) rfl hl hr) k
theorem own_lstoreN {i : Fin 4} {u : Int64} (hd : decode bytes pc = .ok (.lstore_n i, 1)) (hp : pc + 1 = pc') (hl : storeLocals Ls i.val (.long u) = some Ls') (k : own_W l Z y bytes ml ret R n0 Q h cells slots pc' Ls' (st)) : own_W l Z y bytes ml ret R n0 Q h cells slots pc Ls (.long u :: st) :=
  own_pure (fun p e below T t m c hA hx hb hr => by subst hp; exact XT.lstoreN hA hx rfl (hb ▸ hd) rfl hl hr) k
theorem own_lstore {i : Nat} {u : Int64} (hd : decode bytes pc = .ok (.lstore i, 2)) (hp : pc + 2 = pc') (hl : storeLocals Ls i (.long u) = some Ls') (k : own_W l Z y bytes ml ret R n0 Q h cells slots pc' Ls' (st)) : own_W l Z y bytes ml ret R n0 Q h cells slots pc Ls (.long u :: st) :=
  own_pure (fun p e below T t m c hA hx hb hr => by subst hp; exact XT.lstore hA hx rfl (hb ▸ hd) rfl hl hr) k
theorem own_astoreN {i : Fin 4} {u : Addr} (hd : decode bytes pc = .ok (.astore_n i, 1)) (hp : pc + 1 = pc') (hl : storeLocals Ls i.val (.ref u) = some Ls') (k : own_W l Z y bytes ml ret R n0 Q h cells slots pc' Ls' (st)) : own_W l Z y bytes ml ret R n0 Q h cells slots pc Ls (.ref u :: st) :=
  own_pure (fun p e below T t m c hA hx hb hr => by subst hp; exact XS.astoreN hA hx rfl (hb ▸ hd) rfl rfl hl hr) k
theorem own_astore {i : Nat} {u : Addr} (hd : decode bytes pc = .ok (.astore i, 2)) (hp : pc + 2 = pc') (hl : storeLocals Ls i (.ref u) = some Ls') (k : own_W l Z y bytes ml ret R n0 Q h cells slots pc' Ls' (st)) : own_W l Z y bytes ml ret R n0 Q h cells slots pc Ls (.ref u :: st) :=
  own_pure (fun p e below T t m c hA hx hb hr => by subst hp; exact XS.astore hA hx rfl (hb ▸ hd) rfl rfl hl hr) k
theorem own_iinc {i : Nat} {cst : Int} {u w : Int32} (hd : decode bytes pc = .ok (.iinc i cst, 3)) (hp : pc + 3 = pc') (hv : Int32.ofInt cst = w) (hl : Ls[i]? = some (.val (.int u))) (hl' : storeLocals Ls i (.int (u + w)) = some Ls') (k : own_W l Z y bytes ml ret R n0 Q h cells slots pc' Ls' st) : own_W l Z y bytes ml ret R n0 Q h cells slots pc Ls st :=
  own_pure (fun p e below T t m c hA hx hb hr => by subst hp; exact XT.iincV hA hx rfl w (hb ▸ hd) hv hl hl' hr) k
theorem own_iconst {i : Int} (u : Int32) (hd : decode bytes pc = .ok (.iconst i, 1)) (hp : pc + 1 = pc') (hv : Int32.ofInt i = u) (k : own_W l Z y bytes ml ret R n0 Q h cells slots pc' Ls (.int u :: st)) : own_W l Z y bytes ml ret R n0 Q h cells slots pc Ls st :=
  own_pure (fun p e below T t m c hA hx hb hr => by subst hp; exact XT.iconstV hA hx rfl u (hb ▸ hd) hv hr) k
theorem own_bipush {i : Int} (u : Int32) (hd : decode bytes pc = .ok (.bipush i, 2)) (hp : pc + 2 = pc') (hv : (Int8.ofInt i).toInt32 = u) (k : own_W l Z y bytes ml ret R n0 Q h cells slots pc' Ls (.int u :: st)) : own_W l Z y bytes ml ret R n0 Q h cells slots pc Ls st :=
  own_pure (fun p e below T t m c hA hx hb hr => by subst hp; exact XT.bipushV hA hx rfl u (hb ▸ hd) hv hr) k
theorem own_sipush {i : Int} (u : Int32) (hd : decode bytes pc = .ok (.sipush i, 3)) (hp : pc + 3 = pc') (hv : (Int16.ofInt i).toInt32 = u) (k : own_W l Z y bytes ml ret R n0 Q h cells slots pc' Ls (.int u :: st)) : own_W l Z y bytes ml ret R n0 Q h cells slots pc Ls st :=
  own_pure (fun p e below T t m c hA hx hb hr => by subst hp; exact XT.sipushV hA hx rfl u (hb ▸ hd) hv hr) k
theorem own_lconst {i : Fin 2} (u : Int64) (hd : decode bytes pc = .ok (.lconst i, 1)) (hp : pc + 1 = pc') (hv : Int64.ofNat i = u) (k : own_W l Z y bytes ml ret R n0 Q h cells slots pc' Ls (.long u :: st)) : own_W l Z y bytes ml ret R n0 Q h cells slots pc Ls st :=
  own_pure (fun p e below T t m c hA hx hb hr => by subst hp; exact XT.lconstV hA hx rfl u (hb ▸ hd) hv hr) k
theorem own_aconstNull (hd : decode bytes pc = .ok (.aconst_null, 1)) (hp : pc + 1 = pc') (k : own_W l Z y bytes ml ret R n0 Q h cells slots pc' Ls (.null :: st)) : own_W l Z y bytes ml ret R n0 Q h cells slots pc Ls (st) :=
  own_pure (fun p e below T t m c hA hx hb hr => by subst hp; exact XS.aconstNull hA hx rfl (hb ▸ hd)  hr) k
theorem own_iadd {u w : Int32} (hd : decode bytes pc = .ok (.iadd, 1)) (hp : pc + 1 = pc') (k : own_W l Z y bytes ml ret R n0 Q h cells slots pc' Ls (.int (u + w) :: st)) : own_W l Z y bytes ml ret R n0 Q h cells slots pc Ls (.int w :: .int u :: st) :=
  own_pure (fun p e below T t m c hA hx hb hr => by subst hp; exact XS.iadd hA hx rfl (hb ▸ hd) rfl hr) k
theorem own_isub {u w : Int32} (hd : decode bytes pc = .ok (.isub, 1)) (hp : pc + 1 = pc') (k : own_W l Z y bytes ml ret R n0 Q h cells slots pc' Ls (.int (u - w) :: st)) : own_W l Z y bytes ml ret R n0 Q h cells slots pc Ls (.int w :: .int u :: st) :=
  own_pure (fun p e below T t m c hA hx hb hr => by subst hp; exact XS.isub hA hx rfl (hb ▸ hd) rfl hr) k
theorem own_imul {u w : Int32} (hd : decode bytes pc = .ok (.imul, 1)) (hp : pc + 1 = pc') (k : own_W l Z y bytes ml ret R n0 Q h cells slots pc' Ls (.int (u * w) :: st)) : own_W l Z y bytes ml ret R n0 Q h cells slots pc Ls (.int w :: .int u :: st) :=
  own_pure (fun p e below T t m c hA hx hb hr => by subst hp; exact XS.imul hA hx rfl (hb ▸ hd) rfl hr) k
theorem own_iand {u w : Int32} (hd : decode bytes pc = .ok (.iand, 1)) (hp : pc + 1 = pc') (k : own_W l Z y bytes ml ret R n0 Q h cells slots pc' Ls (.int (u &&& w) :: st)) : own_W l Z y bytes ml ret R n0 Q h cells slots pc Ls (.int w :: .int u :: st) :=
  own_pure (fun p e below T t m c hA hx hb hr => by subst hp; exact XS.iand hA hx rfl (hb ▸ hd) rfl hr) k
theorem own_ior {u w : Int32} (hd : decode bytes pc = .ok (.ior, 1)) (hp : pc + 1 = pc') (k : own_W l Z y bytes ml ret R n0 Q h cells slots pc' Ls (.int (u ||| w) :: st)) : own_W l Z y bytes ml ret R n0 Q h cells slots pc Ls (.int w :: .int u :: st) :=
  own_pure (fun p e below T t m c hA hx hb hr => by subst hp; exact XT.ior hA hx rfl (hb ▸ hd) rfl hr) k
theorem own_ixor {u w : Int32} (hd : decode bytes pc = .ok (.ixor, 1)) (hp : pc + 1 = pc') (k : own_W l Z y bytes ml ret R n0 Q h cells slots pc' Ls (.int (u ^^^ w) :: st)) : own_W l Z y bytes ml ret R n0 Q h cells slots pc Ls (.int w :: .int u :: st) :=
  own_pure (fun p e below T t m c hA hx hb hr => by subst hp; exact XT.ixor hA hx rfl (hb ▸ hd) rfl hr) k
theorem own_ishl {u w : Int32} (hd : decode bytes pc = .ok (.ishl, 1)) (hp : pc + 1 = pc') (k : own_W l Z y bytes ml ret R n0 Q h cells slots pc' Ls (.int (u <<< (w &&& 31)) :: st)) : own_W l Z y bytes ml ret R n0 Q h cells slots pc Ls (.int w :: .int u :: st) :=
  own_pure (fun p e below T t m c hA hx hb hr => by subst hp; exact XT.ishl hA hx rfl (hb ▸ hd) rfl hr) k
theorem own_ishr {u w : Int32} (hd : decode bytes pc = .ok (.ishr, 1)) (hp : pc + 1 = pc') (k : own_W l Z y bytes ml ret R n0 Q h cells slots pc' Ls (.int (u >>> (w &&& 31)) :: st)) : own_W l Z y bytes ml ret R n0 Q h cells slots pc Ls (.int w :: .int u :: st) :=
  own_pure (fun p e below T t m c hA hx hb hr => by subst hp; exact XT.ishr hA hx rfl (hb ▸ hd) rfl hr) k
theorem own_iushr {u w : Int32} (hd : decode bytes pc = .ok (.iushr, 1)) (hp : pc + 1 = pc') (k : own_W l Z y bytes ml ret R n0 Q h cells slots pc' Ls (.int (XT.ushr u w) :: st)) : own_W l Z y bytes ml ret R n0 Q h cells slots pc Ls (.int w :: .int u :: st) :=
  own_pure (fun p e below T t m c hA hx hb hr => by subst hp; exact XT.iushr hA hx rfl (hb ▸ hd) rfl hr) k
theorem own_idiv {u w : Int32} (hd : decode bytes pc = .ok (.idiv, 1)) (hp : pc + 1 = pc') (hw : w ≠ 0) (k : own_W l Z y bytes ml ret R n0 Q h cells slots pc' Ls (.int (u / w) :: st)) : own_W l Z y bytes ml ret R n0 Q h cells slots pc Ls (.int w :: .int u :: st) :=
  own_pure (fun p e below T t m c hA hx hb hr => by subst hp; exact XS.idiv hA hx rfl (hb ▸ hd) rfl hw hr) k
theorem own_irem {u w : Int32} (hd : decode bytes pc = .ok (.irem, 1)) (hp : pc + 1 = pc') (hw : w ≠ 0) (k : own_W l Z y bytes ml ret R n0 Q h cells slots pc' Ls (.int (u % w) :: st)) : own_W l Z y bytes ml ret R n0 Q h cells slots pc Ls (.int w :: .int u :: st) :=
  own_pure (fun p e below T t m c hA hx hb hr => by subst hp; exact XS.irem hA hx rfl (hb ▸ hd) rfl hw (by rw [irem_eq_mod u w]; exact hr)) k
theorem own_ineg {u : Int32} (hd : decode bytes pc = .ok (.ineg, 1)) (hp : pc + 1 = pc') (k : own_W l Z y bytes ml ret R n0 Q h cells slots pc' Ls (.int (-u) :: st)) : own_W l Z y bytes ml ret R n0 Q h cells slots pc Ls (.int u :: st) :=
  own_pure (fun p e below T t m c hA hx hb hr => by subst hp; exact XS.ineg hA hx rfl (hb ▸ hd) rfl hr) k
theorem own_ladd {u w : Int64} (hd : decode bytes pc = .ok (.ladd, 1)) (hp : pc + 1 = pc') (k : own_W l Z y bytes ml ret R n0 Q h cells slots pc' Ls (.long (u + w) :: st)) : own_W l Z y bytes ml ret R n0 Q h cells slots pc Ls (.long w :: .long u :: st) :=
  own_pure (fun p e below T t m c hA hx hb hr => by subst hp; exact XT.ladd hA hx rfl (hb ▸ hd) rfl hr) k
theorem own_lsub {u w : Int64} (hd : decode bytes pc = .ok (.lsub, 1)) (hp : pc + 1 = pc') (k : own_W l Z y bytes ml ret R n0 Q h cells slots pc' Ls (.long (u - w) :: st)) : own_W l Z y bytes ml ret R n0 Q h cells slots pc Ls (.long w :: .long u :: st) :=
  own_pure (fun p e below T t m c hA hx hb hr => by subst hp; exact XT.lsub hA hx rfl (hb ▸ hd) rfl hr) k
theorem own_lmul {u w : Int64} (hd : decode bytes pc = .ok (.lmul, 1)) (hp : pc + 1 = pc') (k : own_W l Z y bytes ml ret R n0 Q h cells slots pc' Ls (.long (u * w) :: st)) : own_W l Z y bytes ml ret R n0 Q h cells slots pc Ls (.long w :: .long u :: st) :=
  own_pure (fun p e below T t m c hA hx hb hr => by subst hp; exact XT.lmul hA hx rfl (hb ▸ hd) rfl hr) k
theorem own_land {u w : Int64} (hd : decode bytes pc = .ok (.land, 1)) (hp : pc + 1 = pc') (k : own_W l Z y bytes ml ret R n0 Q h cells slots pc' Ls (.long (u &&& w) :: st)) : own_W l Z y bytes ml ret R n0 Q h cells slots pc Ls (.long w :: .long u :: st) :=
  own_pure (fun p e below T t m c hA hx hb hr => by subst hp; exact XT.land hA hx rfl (hb ▸ hd) rfl hr) k
theorem own_lor {u w : Int64} (hd : decode bytes pc = .ok (.lor, 1)) (hp : pc + 1 = pc') (k : own_W l Z y bytes ml ret R n0 Q h cells slots pc' Ls (.long (u ||| w) :: st)) : own_W l Z y bytes ml ret R n0 Q h cells slots pc Ls (.long w :: .long u :: st) :=
  own_pure (fun p e below T t m c hA hx hb hr => by subst hp; exact XT.lor hA hx rfl (hb ▸ hd) rfl hr) k
theorem own_lxor {u w : Int64} (hd : decode bytes pc = .ok (.lxor, 1)) (hp : pc + 1 = pc') (k : own_W l Z y bytes ml ret R n0 Q h cells slots pc' Ls (.long (u ^^^ w) :: st)) : own_W l Z y bytes ml ret R n0 Q h cells slots pc Ls (.long w :: .long u :: st) :=
  own_pure (fun p e below T t m c hA hx hb hr => by subst hp; exact XT.lxor hA hx rfl (hb ▸ hd) rfl hr) k
theorem own_lrem {u w : Int64} (hd : decode bytes pc = .ok (.lrem, 1)) (hp : pc + 1 = pc') (hw : w ≠ 0) (k : own_W l Z y bytes ml ret R n0 Q h cells slots pc' Ls (.long (u % w) :: st)) : own_W l Z y bytes ml ret R n0 Q h cells slots pc Ls (.long w :: .long u :: st) :=
  own_pure (fun p e below T t m c hA hx hb hr => by subst hp; exact XT.lrem hA hx rfl (hb ▸ hd) rfl hw (by rw [lrem_mod u w]; exact hr)) k
theorem own_lshl {u : Int64} {w : Int32} (hd : decode bytes pc = .ok (.lshl, 1)) (hp : pc + 1 = pc') (k : own_W l Z y bytes ml ret R n0 Q h cells slots pc' Ls (.long (u <<< (w.toInt64 &&& 63)) :: st)) : own_W l Z y bytes ml ret R n0 Q h cells slots pc Ls (.int w :: .long u :: st) :=
  own_pure (fun p e below T t m c hA hx hb hr => by subst hp; exact XT.lshl hA hx rfl (hb ▸ hd) rfl hr) k
theorem own_lshr {u : Int64} {w : Int32} (hd : decode bytes pc = .ok (.lshr, 1)) (hp : pc + 1 = pc') (k : own_W l Z y bytes ml ret R n0 Q h cells slots pc' Ls (.long (u >>> (w.toInt64 &&& 63)) :: st)) : own_W l Z y bytes ml ret R n0 Q h cells slots pc Ls (.int w :: .long u :: st) :=
  own_pure (fun p e below T t m c hA hx hb hr => by subst hp; exact XT.lshr hA hx rfl (hb ▸ hd) rfl hr) k
theorem own_lushr {u : Int64} {w : Int32} (hd : decode bytes pc = .ok (.lushr, 1)) (hp : pc + 1 = pc') (k : own_W l Z y bytes ml ret R n0 Q h cells slots pc' Ls (.long (XT.ushrL u w) :: st)) : own_W l Z y bytes ml ret R n0 Q h cells slots pc Ls (.int w :: .long u :: st) :=
  own_pure (fun p e below T t m c hA hx hb hr => by subst hp; exact XT.lushr hA hx rfl (hb ▸ hd) rfl hr) k
theorem own_i2l {u : Int32} (hd : decode bytes pc = .ok (.i2l, 1)) (hp : pc + 1 = pc') (k : own_W l Z y bytes ml ret R n0 Q h cells slots pc' Ls (.long u.toInt64 :: st)) : own_W l Z y bytes ml ret R n0 Q h cells slots pc Ls (.int u :: st) :=
  own_pure (fun p e below T t m c hA hx hb hr => by subst hp; exact XT.i2l hA hx rfl (hb ▸ hd) rfl hr) k
theorem own_l2i {u : Int64} (hd : decode bytes pc = .ok (.l2i, 1)) (hp : pc + 1 = pc') (k : own_W l Z y bytes ml ret R n0 Q h cells slots pc' Ls (.int u.toInt32 :: st)) : own_W l Z y bytes ml ret R n0 Q h cells slots pc Ls (.long u :: st) :=
  own_pure (fun p e below T t m c hA hx hb hr => by subst hp; exact XT.l2i hA hx rfl (hb ▸ hd) rfl hr) k
theorem own_i2b {u : Int32} (hd : decode bytes pc = .ok (.i2b, 1)) (hp : pc + 1 = pc') (k : own_W l Z y bytes ml ret R n0 Q h cells slots pc' Ls (.int u.toInt8.toInt32 :: st)) : own_W l Z y bytes ml ret R n0 Q h cells slots pc Ls (.int u :: st) :=
  own_pure (fun p e below T t m c hA hx hb hr => by subst hp; exact XT.i2b hA hx rfl (hb ▸ hd) rfl hr) k
theorem own_i2c {u : Int32} (hd : decode bytes pc = .ok (.i2c, 1)) (hp : pc + 1 = pc') (k : own_W l Z y bytes ml ret R n0 Q h cells slots pc' Ls (.int u.toUInt32.toUInt16.toUInt32.toInt32 :: st)) : own_W l Z y bytes ml ret R n0 Q h cells slots pc Ls (.int u :: st) :=
  own_pure (fun p e below T t m c hA hx hb hr => by subst hp; exact XT.i2c hA hx rfl (hb ▸ hd) rfl hr) k
theorem own_lcmp {u w : Int64} (hd : decode bytes pc = .ok (.lcmp, 1)) (hp : pc + 1 = pc') (k : own_W l Z y bytes ml ret R n0 Q h cells slots pc' Ls (.int (XT.cmpL u w) :: st)) : own_W l Z y bytes ml ret R n0 Q h cells slots pc Ls (.long w :: .long u :: st) :=
  own_pure (fun p e below T t m c hA hx hb hr => by subst hp; exact XT.lcmp hA hx rfl (hb ▸ hd) rfl hr) k
theorem own_dup {u : Value} (hd : decode bytes pc = .ok (.dup, 1)) (hp : pc + 1 = pc') (hc : u.category = 1) (k : own_W l Z y bytes ml ret R n0 Q h cells slots pc' Ls (u :: u :: st)) : own_W l Z y bytes ml ret R n0 Q h cells slots pc Ls (u :: st) :=
  own_pure (fun p e below T t m c hA hx hb hr => by subst hp; exact XS.dup hA hx rfl (hb ▸ hd) rfl hc hr) k
theorem own_pop {u : Value} (hd : decode bytes pc = .ok (.pop, 1)) (hp : pc + 1 = pc') (hc : u.category = 1) (k : own_W l Z y bytes ml ret R n0 Q h cells slots pc' Ls (st)) : own_W l Z y bytes ml ret R n0 Q h cells slots pc Ls (u :: st) :=
  own_pure (fun p e below T t m c hA hx hb hr => by subst hp; exact XT.pop hA hx rfl (hb ▸ hd) rfl hc hr) k
theorem own_dupX1 {u w : Value} (hd : decode bytes pc = .ok (.dup_x1, 1)) (hp : pc + 1 = pc') (hc : u.category = 1) (hc' : w.category = 1) (k : own_W l Z y bytes ml ret R n0 Q h cells slots pc' Ls (u :: w :: u :: st)) : own_W l Z y bytes ml ret R n0 Q h cells slots pc Ls (u :: w :: st) :=
  own_pure (fun p e below T t m c hA hx hb hr => by subst hp; exact XT.dupX1 hA hx rfl (hb ▸ hd) rfl hc hc' hr) k
theorem own_dup2 {u w : Value} (hd : decode bytes pc = .ok (.dup2, 1)) (hp : pc + 1 = pc') (hc : u.category = 1) (hc' : w.category = 1) (k : own_W l Z y bytes ml ret R n0 Q h cells slots pc' Ls (u :: w :: u :: w :: st)) : own_W l Z y bytes ml ret R n0 Q h cells slots pc Ls (u :: w :: st) :=
  own_pure (fun p e below T t m c hA hx hb hr => by subst hp; exact XT.dup2 hA hx rfl (hb ▸ hd) rfl hc hc' hr) k
theorem own_dup2L {u : Int64} (hd : decode bytes pc = .ok (.dup2, 1)) (hp : pc + 1 = pc') (k : own_W l Z y bytes ml ret R n0 Q h cells slots pc' Ls (.long u :: .long u :: st)) : own_W l Z y bytes ml ret R n0 Q h cells slots pc Ls (.long u :: st) :=
  own_pure (fun p e below T t m c hA hx hb hr => by subst hp; exact XT.dup2L hA hx rfl (hb ▸ hd) rfl hr) k
theorem own_pop2step {tb : Tables} [Ours tb] {e : Env} {below : List Frame} {T target : State} {m : MethodId} {c : Code} {g : JFrame} (h : At T m c below) (hx : tb.exec = Jvm.exec) (hg : g.method = m) {u : Int64} {rest : List Value} (hd : decode c.code g.pc = .ok (.pop2, 1)) (hs : g.stack = .long u :: rest)
    (hr : Steps tb e below (T.setTop { g with pc := g.pc + 1, stack := rest }) target) : Steps tb e below (T.setTop g) target := by
  subst hg
  jvm_step h [h.top, hx, hd, hs, pop2.wp_sem, Value.category]
  exact hr
theorem own_pop2L {u : Int64} (hd : decode bytes pc = .ok (.pop2, 1)) (hp : pc + 1 = pc') (k : own_W l Z y bytes ml ret R n0 Q h cells slots pc' Ls (st)) : own_W l Z y bytes ml ret R n0 Q h cells slots pc Ls (.long u :: st) :=
  own_pure (fun p e below T t m c hA hx hb hr => by subst hp; exact own_pop2step hA hx rfl (hb ▸ hd) rfl hr) k
theorem own_dupX2step {tb : Tables} [Ours tb] {e : Env} {below : List Frame} {T target : State} {m : MethodId} {c : Code} {g : JFrame} (h : At T m c below) (hx : tb.exec = Jvm.exec) (hg : g.method = m) {x y z : Value} {rest : List Value} (hd : decode c.code g.pc = .ok (.dup_x2, 1)) (hs : g.stack = x :: y :: z :: rest) (hc : x.category = 1) (hc' : y.category = 1) (hc'' : z.category = 1)
    (hr : Steps tb e below (T.setTop { g with pc := g.pc + 1, stack := x :: y :: z :: x :: rest }) target) : Steps tb e below (T.setTop g) target := by
  subst hg
  jvm_step h [h.top, hx, hd, hs, dup_x2.wp_sem, hc, hc', hc'']
  exact hr
theorem own_dupX2 {u w x : Value} (hd : decode bytes pc = .ok (.dup_x2, 1)) (hp : pc + 1 = pc') (hc : u.category = 1) (hc' : w.category = 1) (hc'' : x.category = 1) (k : own_W l Z y bytes ml ret R n0 Q h cells slots pc' Ls (u :: w :: x :: u :: st)) : own_W l Z y bytes ml ret R n0 Q h cells slots pc Ls (u :: w :: x :: st) :=
  own_pure (fun p e below T t m c hA hx hb hr => by subst hp; exact own_dupX2step hA hx rfl (hb ▸ hd) rfl hc hc' hc'' hr) k
theorem own_goto {o : Int} (hd : decode bytes pc = .ok (.goto o, 3)) (ho : 0 ≤ (pc : Int) + o) (hp : ((pc : Int) + o).toNat = pc') (k : own_W l Z y bytes ml ret R n0 Q h cells slots pc' Ls st) : own_W l Z y bytes ml ret R n0 Q h cells slots pc Ls st :=
  own_pure (fun p e below T t m c hA hx hb hr => XS.goto hA hx rfl rfl (hb ▸ hd) ho hp hr) k
theorem own_if_eq_t {u : Int32} {o : Int} (hd : decode bytes pc = .ok (.ifCond .eq o, 3)) (hc : u = 0) (ho : 0 ≤ (pc : Int) + o) (hp : ((pc : Int) + o).toNat = pc') (k : own_W l Z y bytes ml ret R n0 Q h cells slots pc' Ls st) : own_W l Z y bytes ml ret R n0 Q h cells slots pc Ls (.int u :: st) :=
  own_pure (fun p e below T t m c hA hx hb hr => XS.ifYes hA hx rfl rfl (hb ▸ hd) rfl (XT.i0_eq_t hc) ho hp hr) k
theorem own_if_eq_f {u : Int32} {o : Int} (hd : decode bytes pc = .ok (.ifCond .eq o, 3)) (hc : ¬ u = 0) (hp : pc + 3 = pc') (k : own_W l Z y bytes ml ret R n0 Q h cells slots pc' Ls st) : own_W l Z y bytes ml ret R n0 Q h cells slots pc Ls (.int u :: st) :=
  own_pure (fun p e below T t m c hA hx hb hr => by subst hp; exact XS.ifNo hA hx rfl (hb ▸ hd) rfl (XT.i0_eq_f hc) hr) k
theorem own_if_eq {u : Int32} {o : Int} {pf : Nat} (hd : decode bytes pc = .ok (.ifCond .eq o, 3)) (ho : 0 ≤ (pc : Int) + o) (hp : ((pc : Int) + o).toNat = pc') (hq : pc + 3 = pf) (kt : u = 0 → own_W l Z y bytes ml ret R n0 Q h cells slots pc' Ls st) (kf : ¬ u = 0 → own_W l Z y bytes ml ret R n0 Q h cells slots pf Ls st) : own_W l Z y bytes ml ret R n0 Q h cells slots pc Ls (.int u :: st) := by
  by_cases hc : u = 0
  · exact own_if_eq_t hd hc ho hp (kt hc)
  · exact own_if_eq_f hd (by first | exact hc | exact Decidable.not_not.mp hc) hq (kf (by first | exact hc | exact Decidable.not_not.mp hc))
theorem own_ic_eq_t {u w : Int32} {o : Int} (hd : decode bytes pc = .ok (.if_icmp .eq o, 3)) (hc : u = w) (ho : 0 ≤ (pc : Int) + o) (hp : ((pc : Int) + o).toNat = pc') (k : own_W l Z y bytes ml ret R n0 Q h cells slots pc' Ls st) : own_W l Z y bytes ml ret R n0 Q h cells slots pc Ls (.int w :: .int u :: st) :=
  own_pure (fun p e below T t m c hA hx hb hr => XS.icmpYes hA hx rfl rfl (hb ▸ hd) rfl (XT.ii_eq_t hc) ho hp hr) k
theorem own_ic_eq_f {u w : Int32} {o : Int} (hd : decode bytes pc = .ok (.if_icmp .eq o, 3)) (hc : ¬ u = w) (hp : pc + 3 = pc') (k : own_W l Z y bytes ml ret R n0 Q h cells slots pc' Ls st) : own_W l Z y bytes ml ret R n0 Q h cells slots pc Ls (.int w :: .int u :: st) :=
  own_pure (fun p e below T t m c hA hx hb hr => by subst hp; exact XS.icmpNo hA hx rfl (hb ▸ hd) rfl (XT.ii_eq_f hc) hr) k
theorem own_ic_eq {u w : Int32} {o : Int} {pf : Nat} (hd : decode bytes pc = .ok (.if_icmp .eq o, 3)) (ho : 0 ≤ (pc : Int) + o) (hp : ((pc : Int) + o).toNat = pc') (hq : pc + 3 = pf) (kt : u = w → own_W l Z y bytes ml ret R n0 Q h cells slots pc' Ls st) (kf : ¬ u = w → own_W l Z y bytes ml ret R n0 Q h cells slots pf Ls st) : own_W l Z y bytes ml ret R n0 Q h cells slots pc Ls (.int w :: .int u :: st) := by
  by_cases hc : u = w
  · exact own_ic_eq_t hd hc ho hp (kt hc)
  · exact own_ic_eq_f hd (by first | exact hc | exact Decidable.not_not.mp hc) hq (kf (by first | exact hc | exact Decidable.not_not.mp hc))
theorem own_il_eq_t {u w : Int64} {o : Int} (hd : decode bytes pc = .ok (.ifCond .eq o, 3)) (hc : u = w) (ho : 0 ≤ (pc : Int) + o) (hp : ((pc : Int) + o).toNat = pc') (k : own_W l Z y bytes ml ret R n0 Q h cells slots pc' Ls st) : own_W l Z y bytes ml ret R n0 Q h cells slots pc Ls (.int (XT.cmpL u w) :: st) :=
  own_pure (fun p e below T t m c hA hx hb hr => XS.ifYes hA hx rfl rfl (hb ▸ hd) rfl (XT.ll_eq_t hc) ho hp hr) k
theorem own_il_eq_f {u w : Int64} {o : Int} (hd : decode bytes pc = .ok (.ifCond .eq o, 3)) (hc : ¬ u = w) (hp : pc + 3 = pc') (k : own_W l Z y bytes ml ret R n0 Q h cells slots pc' Ls st) : own_W l Z y bytes ml ret R n0 Q h cells slots pc Ls (.int (XT.cmpL u w) :: st) :=
  own_pure (fun p e below T t m c hA hx hb hr => by subst hp; exact XS.ifNo hA hx rfl (hb ▸ hd) rfl (XT.ll_eq_f hc) hr) k
theorem own_il_eq {u w : Int64} {o : Int} {pf : Nat} (hd : decode bytes pc = .ok (.ifCond .eq o, 3)) (ho : 0 ≤ (pc : Int) + o) (hp : ((pc : Int) + o).toNat = pc') (hq : pc + 3 = pf) (kt : u = w → own_W l Z y bytes ml ret R n0 Q h cells slots pc' Ls st) (kf : ¬ u = w → own_W l Z y bytes ml ret R n0 Q h cells slots pf Ls st) : own_W l Z y bytes ml ret R n0 Q h cells slots pc Ls (.int (XT.cmpL u w) :: st) := by
  by_cases hc : u = w
  · exact own_il_eq_t hd hc ho hp (kt hc)
  · exact own_il_eq_f hd (by first | exact hc | exact Decidable.not_not.mp hc) hq (kf (by first | exact hc | exact Decidable.not_not.mp hc))
theorem own_if_ne_t {u : Int32} {o : Int} (hd : decode bytes pc = .ok (.ifCond .ne o, 3)) (hc : ¬ u = 0) (ho : 0 ≤ (pc : Int) + o) (hp : ((pc : Int) + o).toNat = pc') (k : own_W l Z y bytes ml ret R n0 Q h cells slots pc' Ls st) : own_W l Z y bytes ml ret R n0 Q h cells slots pc Ls (.int u :: st) :=
  own_pure (fun p e below T t m c hA hx hb hr => XS.ifYes hA hx rfl rfl (hb ▸ hd) rfl (XT.i0_ne_t hc) ho hp hr) k
theorem own_if_ne_f {u : Int32} {o : Int} (hd : decode bytes pc = .ok (.ifCond .ne o, 3)) (hc : u = 0) (hp : pc + 3 = pc') (k : own_W l Z y bytes ml ret R n0 Q h cells slots pc' Ls st) : own_W l Z y bytes ml ret R n0 Q h cells slots pc Ls (.int u :: st) :=
  own_pure (fun p e below T t m c hA hx hb hr => by subst hp; exact XS.ifNo hA hx rfl (hb ▸ hd) rfl (XT.i0_ne_f hc) hr) k
theorem own_if_ne {u : Int32} {o : Int} {pf : Nat} (hd : decode bytes pc = .ok (.ifCond .ne o, 3)) (ho : 0 ≤ (pc : Int) + o) (hp : ((pc : Int) + o).toNat = pc') (hq : pc + 3 = pf) (kt : ¬ u = 0 → own_W l Z y bytes ml ret R n0 Q h cells slots pc' Ls st) (kf : u = 0 → own_W l Z y bytes ml ret R n0 Q h cells slots pf Ls st) : own_W l Z y bytes ml ret R n0 Q h cells slots pc Ls (.int u :: st) := by
  by_cases hc : ¬ u = 0
  · exact own_if_ne_t hd hc ho hp (kt hc)
  · exact own_if_ne_f hd (by first | exact hc | exact Decidable.not_not.mp hc) hq (kf (by first | exact hc | exact Decidable.not_not.mp hc))
theorem own_ic_ne_t {u w : Int32} {o : Int} (hd : decode bytes pc = .ok (.if_icmp .ne o, 3)) (hc : ¬ u = w) (ho : 0 ≤ (pc : Int) + o) (hp : ((pc : Int) + o).toNat = pc') (k : own_W l Z y bytes ml ret R n0 Q h cells slots pc' Ls st) : own_W l Z y bytes ml ret R n0 Q h cells slots pc Ls (.int w :: .int u :: st) :=
  own_pure (fun p e below T t m c hA hx hb hr => XS.icmpYes hA hx rfl rfl (hb ▸ hd) rfl (XT.ii_ne_t hc) ho hp hr) k
theorem own_ic_ne_f {u w : Int32} {o : Int} (hd : decode bytes pc = .ok (.if_icmp .ne o, 3)) (hc : u = w) (hp : pc + 3 = pc') (k : own_W l Z y bytes ml ret R n0 Q h cells slots pc' Ls st) : own_W l Z y bytes ml ret R n0 Q h cells slots pc Ls (.int w :: .int u :: st) :=
  own_pure (fun p e below T t m c hA hx hb hr => by subst hp; exact XS.icmpNo hA hx rfl (hb ▸ hd) rfl (XT.ii_ne_f hc) hr) k
theorem own_ic_ne {u w : Int32} {o : Int} {pf : Nat} (hd : decode bytes pc = .ok (.if_icmp .ne o, 3)) (ho : 0 ≤ (pc : Int) + o) (hp : ((pc : Int) + o).toNat = pc') (hq : pc + 3 = pf) (kt : ¬ u = w → own_W l Z y bytes ml ret R n0 Q h cells slots pc' Ls st) (kf : u = w → own_W l Z y bytes ml ret R n0 Q h cells slots pf Ls st) : own_W l Z y bytes ml ret R n0 Q h cells slots pc Ls (.int w :: .int u :: st) := by
  by_cases hc : ¬ u = w
  · exact own_ic_ne_t hd hc ho hp (kt hc)
  · exact own_ic_ne_f hd (by first | exact hc | exact Decidable.not_not.mp hc) hq (kf (by first | exact hc | exact Decidable.not_not.mp hc))
theorem own_il_ne_t {u w : Int64} {o : Int} (hd : decode bytes pc = .ok (.ifCond .ne o, 3)) (hc : ¬ u = w) (ho : 0 ≤ (pc : Int) + o) (hp : ((pc : Int) + o).toNat = pc') (k : own_W l Z y bytes ml ret R n0 Q h cells slots pc' Ls st) : own_W l Z y bytes ml ret R n0 Q h cells slots pc Ls (.int (XT.cmpL u w) :: st) :=
  own_pure (fun p e below T t m c hA hx hb hr => XS.ifYes hA hx rfl rfl (hb ▸ hd) rfl (XT.ll_ne_t hc) ho hp hr) k
theorem own_il_ne_f {u w : Int64} {o : Int} (hd : decode bytes pc = .ok (.ifCond .ne o, 3)) (hc : u = w) (hp : pc + 3 = pc') (k : own_W l Z y bytes ml ret R n0 Q h cells slots pc' Ls st) : own_W l Z y bytes ml ret R n0 Q h cells slots pc Ls (.int (XT.cmpL u w) :: st) :=
  own_pure (fun p e below T t m c hA hx hb hr => by subst hp; exact XS.ifNo hA hx rfl (hb ▸ hd) rfl (XT.ll_ne_f hc) hr) k
theorem own_il_ne {u w : Int64} {o : Int} {pf : Nat} (hd : decode bytes pc = .ok (.ifCond .ne o, 3)) (ho : 0 ≤ (pc : Int) + o) (hp : ((pc : Int) + o).toNat = pc') (hq : pc + 3 = pf) (kt : ¬ u = w → own_W l Z y bytes ml ret R n0 Q h cells slots pc' Ls st) (kf : u = w → own_W l Z y bytes ml ret R n0 Q h cells slots pf Ls st) : own_W l Z y bytes ml ret R n0 Q h cells slots pc Ls (.int (XT.cmpL u w) :: st) := by
  by_cases hc : ¬ u = w
  · exact own_il_ne_t hd hc ho hp (kt hc)
  · exact own_il_ne_f hd (by first | exact hc | exact Decidable.not_not.mp hc) hq (kf (by first | exact hc | exact Decidable.not_not.mp hc))
theorem own_if_lt_t {u : Int32} {o : Int} (hd : decode bytes pc = .ok (.ifCond .lt o, 3)) (hc : u < 0) (ho : 0 ≤ (pc : Int) + o) (hp : ((pc : Int) + o).toNat = pc') (k : own_W l Z y bytes ml ret R n0 Q h cells slots pc' Ls st) : own_W l Z y bytes ml ret R n0 Q h cells slots pc Ls (.int u :: st) :=
  own_pure (fun p e below T t m c hA hx hb hr => XS.ifYes hA hx rfl rfl (hb ▸ hd) rfl (XT.i0_lt_t hc) ho hp hr) k
theorem own_if_lt_f {u : Int32} {o : Int} (hd : decode bytes pc = .ok (.ifCond .lt o, 3)) (hc : ¬ u < 0) (hp : pc + 3 = pc') (k : own_W l Z y bytes ml ret R n0 Q h cells slots pc' Ls st) : own_W l Z y bytes ml ret R n0 Q h cells slots pc Ls (.int u :: st) :=
  own_pure (fun p e below T t m c hA hx hb hr => by subst hp; exact XS.ifNo hA hx rfl (hb ▸ hd) rfl (XT.i0_lt_f hc) hr) k
theorem own_if_lt {u : Int32} {o : Int} {pf : Nat} (hd : decode bytes pc = .ok (.ifCond .lt o, 3)) (ho : 0 ≤ (pc : Int) + o) (hp : ((pc : Int) + o).toNat = pc') (hq : pc + 3 = pf) (kt : u < 0 → own_W l Z y bytes ml ret R n0 Q h cells slots pc' Ls st) (kf : ¬ u < 0 → own_W l Z y bytes ml ret R n0 Q h cells slots pf Ls st) : own_W l Z y bytes ml ret R n0 Q h cells slots pc Ls (.int u :: st) := by
  by_cases hc : u < 0
  · exact own_if_lt_t hd hc ho hp (kt hc)
  · exact own_if_lt_f hd (by first | exact hc | exact Decidable.not_not.mp hc) hq (kf (by first | exact hc | exact Decidable.not_not.mp hc))
theorem own_ic_lt_t {u w : Int32} {o : Int} (hd : decode bytes pc = .ok (.if_icmp .lt o, 3)) (hc : u < w) (ho : 0 ≤ (pc : Int) + o) (hp : ((pc : Int) + o).toNat = pc') (k : own_W l Z y bytes ml ret R n0 Q h cells slots pc' Ls st) : own_W l Z y bytes ml ret R n0 Q h cells slots pc Ls (.int w :: .int u :: st) :=
  own_pure (fun p e below T t m c hA hx hb hr => XS.icmpYes hA hx rfl rfl (hb ▸ hd) rfl (XT.ii_lt_t hc) ho hp hr) k
theorem own_ic_lt_f {u w : Int32} {o : Int} (hd : decode bytes pc = .ok (.if_icmp .lt o, 3)) (hc : ¬ u < w) (hp : pc + 3 = pc') (k : own_W l Z y bytes ml ret R n0 Q h cells slots pc' Ls st) : own_W l Z y bytes ml ret R n0 Q h cells slots pc Ls (.int w :: .int u :: st) :=
  own_pure (fun p e below T t m c hA hx hb hr => by subst hp; exact XS.icmpNo hA hx rfl (hb ▸ hd) rfl (XT.ii_lt_f hc) hr) k
theorem own_ic_lt {u w : Int32} {o : Int} {pf : Nat} (hd : decode bytes pc = .ok (.if_icmp .lt o, 3)) (ho : 0 ≤ (pc : Int) + o) (hp : ((pc : Int) + o).toNat = pc') (hq : pc + 3 = pf) (kt : u < w → own_W l Z y bytes ml ret R n0 Q h cells slots pc' Ls st) (kf : ¬ u < w → own_W l Z y bytes ml ret R n0 Q h cells slots pf Ls st) : own_W l Z y bytes ml ret R n0 Q h cells slots pc Ls (.int w :: .int u :: st) := by
  by_cases hc : u < w
  · exact own_ic_lt_t hd hc ho hp (kt hc)
  · exact own_ic_lt_f hd (by first | exact hc | exact Decidable.not_not.mp hc) hq (kf (by first | exact hc | exact Decidable.not_not.mp hc))
theorem own_il_lt_t {u w : Int64} {o : Int} (hd : decode bytes pc = .ok (.ifCond .lt o, 3)) (hc : u < w) (ho : 0 ≤ (pc : Int) + o) (hp : ((pc : Int) + o).toNat = pc') (k : own_W l Z y bytes ml ret R n0 Q h cells slots pc' Ls st) : own_W l Z y bytes ml ret R n0 Q h cells slots pc Ls (.int (XT.cmpL u w) :: st) :=
  own_pure (fun p e below T t m c hA hx hb hr => XS.ifYes hA hx rfl rfl (hb ▸ hd) rfl (XT.ll_lt_t hc) ho hp hr) k
theorem own_il_lt_f {u w : Int64} {o : Int} (hd : decode bytes pc = .ok (.ifCond .lt o, 3)) (hc : ¬ u < w) (hp : pc + 3 = pc') (k : own_W l Z y bytes ml ret R n0 Q h cells slots pc' Ls st) : own_W l Z y bytes ml ret R n0 Q h cells slots pc Ls (.int (XT.cmpL u w) :: st) :=
  own_pure (fun p e below T t m c hA hx hb hr => by subst hp; exact XS.ifNo hA hx rfl (hb ▸ hd) rfl (XT.ll_lt_f hc) hr) k
theorem own_il_lt {u w : Int64} {o : Int} {pf : Nat} (hd : decode bytes pc = .ok (.ifCond .lt o, 3)) (ho : 0 ≤ (pc : Int) + o) (hp : ((pc : Int) + o).toNat = pc') (hq : pc + 3 = pf) (kt : u < w → own_W l Z y bytes ml ret R n0 Q h cells slots pc' Ls st) (kf : ¬ u < w → own_W l Z y bytes ml ret R n0 Q h cells slots pf Ls st) : own_W l Z y bytes ml ret R n0 Q h cells slots pc Ls (.int (XT.cmpL u w) :: st) := by
  by_cases hc : u < w
  · exact own_il_lt_t hd hc ho hp (kt hc)
  · exact own_il_lt_f hd (by first | exact hc | exact Decidable.not_not.mp hc) hq (kf (by first | exact hc | exact Decidable.not_not.mp hc))
theorem own_if_ge_t {u : Int32} {o : Int} (hd : decode bytes pc = .ok (.ifCond .ge o, 3)) (hc : ¬ u < 0) (ho : 0 ≤ (pc : Int) + o) (hp : ((pc : Int) + o).toNat = pc') (k : own_W l Z y bytes ml ret R n0 Q h cells slots pc' Ls st) : own_W l Z y bytes ml ret R n0 Q h cells slots pc Ls (.int u :: st) :=
  own_pure (fun p e below T t m c hA hx hb hr => XS.ifYes hA hx rfl rfl (hb ▸ hd) rfl (XT.i0_ge_t hc) ho hp hr) k
theorem own_if_ge_f {u : Int32} {o : Int} (hd : decode bytes pc = .ok (.ifCond .ge o, 3)) (hc : u < 0) (hp : pc + 3 = pc') (k : own_W l Z y bytes ml ret R n0 Q h cells slots pc' Ls st) : own_W l Z y bytes ml ret R n0 Q h cells slots pc Ls (.int u :: st) :=
  own_pure (fun p e below T t m c hA hx hb hr => by subst hp; exact XS.ifNo hA hx rfl (hb ▸ hd) rfl (XT.i0_ge_f hc) hr) k
theorem own_if_ge {u : Int32} {o : Int} {pf : Nat} (hd : decode bytes pc = .ok (.ifCond .ge o, 3)) (ho : 0 ≤ (pc : Int) + o) (hp : ((pc : Int) + o).toNat = pc') (hq : pc + 3 = pf) (kt : ¬ u < 0 → own_W l Z y bytes ml ret R n0 Q h cells slots pc' Ls st) (kf : u < 0 → own_W l Z y bytes ml ret R n0 Q h cells slots pf Ls st) : own_W l Z y bytes ml ret R n0 Q h cells slots pc Ls (.int u :: st) := by
  by_cases hc : ¬ u < 0
  · exact own_if_ge_t hd hc ho hp (kt hc)
  · exact own_if_ge_f hd (by first | exact hc | exact Decidable.not_not.mp hc) hq (kf (by first | exact hc | exact Decidable.not_not.mp hc))
theorem own_ic_ge_t {u w : Int32} {o : Int} (hd : decode bytes pc = .ok (.if_icmp .ge o, 3)) (hc : ¬ u < w) (ho : 0 ≤ (pc : Int) + o) (hp : ((pc : Int) + o).toNat = pc') (k : own_W l Z y bytes ml ret R n0 Q h cells slots pc' Ls st) : own_W l Z y bytes ml ret R n0 Q h cells slots pc Ls (.int w :: .int u :: st) :=
  own_pure (fun p e below T t m c hA hx hb hr => XS.icmpYes hA hx rfl rfl (hb ▸ hd) rfl (XT.ii_ge_t hc) ho hp hr) k
theorem own_ic_ge_f {u w : Int32} {o : Int} (hd : decode bytes pc = .ok (.if_icmp .ge o, 3)) (hc : u < w) (hp : pc + 3 = pc') (k : own_W l Z y bytes ml ret R n0 Q h cells slots pc' Ls st) : own_W l Z y bytes ml ret R n0 Q h cells slots pc Ls (.int w :: .int u :: st) :=
  own_pure (fun p e below T t m c hA hx hb hr => by subst hp; exact XS.icmpNo hA hx rfl (hb ▸ hd) rfl (XT.ii_ge_f hc) hr) k
theorem own_ic_ge {u w : Int32} {o : Int} {pf : Nat} (hd : decode bytes pc = .ok (.if_icmp .ge o, 3)) (ho : 0 ≤ (pc : Int) + o) (hp : ((pc : Int) + o).toNat = pc') (hq : pc + 3 = pf) (kt : ¬ u < w → own_W l Z y bytes ml ret R n0 Q h cells slots pc' Ls st) (kf : u < w → own_W l Z y bytes ml ret R n0 Q h cells slots pf Ls st) : own_W l Z y bytes ml ret R n0 Q h cells slots pc Ls (.int w :: .int u :: st) := by
  by_cases hc : ¬ u < w
  · exact own_ic_ge_t hd hc ho hp (kt hc)
  · exact own_ic_ge_f hd (by first | exact hc | exact Decidable.not_not.mp hc) hq (kf (by first | exact hc | exact Decidable.not_not.mp hc))
theorem own_il_ge_t {u w : Int64} {o : Int} (hd : decode bytes pc = .ok (.ifCond .ge o, 3)) (hc : ¬ u < w) (ho : 0 ≤ (pc : Int) + o) (hp : ((pc : Int) + o).toNat = pc') (k : own_W l Z y bytes ml ret R n0 Q h cells slots pc' Ls st) : own_W l Z y bytes ml ret R n0 Q h cells slots pc Ls (.int (XT.cmpL u w) :: st) :=
  own_pure (fun p e below T t m c hA hx hb hr => XS.ifYes hA hx rfl rfl (hb ▸ hd) rfl (XT.ll_ge_t hc) ho hp hr) k
theorem own_il_ge_f {u w : Int64} {o : Int} (hd : decode bytes pc = .ok (.ifCond .ge o, 3)) (hc : u < w) (hp : pc + 3 = pc') (k : own_W l Z y bytes ml ret R n0 Q h cells slots pc' Ls st) : own_W l Z y bytes ml ret R n0 Q h cells slots pc Ls (.int (XT.cmpL u w) :: st) :=
  own_pure (fun p e below T t m c hA hx hb hr => by subst hp; exact XS.ifNo hA hx rfl (hb ▸ hd) rfl (XT.ll_ge_f hc) hr) k
theorem own_il_ge {u w : Int64} {o : Int} {pf : Nat} (hd : decode bytes pc = .ok (.ifCond .ge o, 3)) (ho : 0 ≤ (pc : Int) + o) (hp : ((pc : Int) + o).toNat = pc') (hq : pc + 3 = pf) (kt : ¬ u < w → own_W l Z y bytes ml ret R n0 Q h cells slots pc' Ls st) (kf : u < w → own_W l Z y bytes ml ret R n0 Q h cells slots pf Ls st) : own_W l Z y bytes ml ret R n0 Q h cells slots pc Ls (.int (XT.cmpL u w) :: st) := by
  by_cases hc : ¬ u < w
  · exact own_il_ge_t hd hc ho hp (kt hc)
  · exact own_il_ge_f hd (by first | exact hc | exact Decidable.not_not.mp hc) hq (kf (by first | exact hc | exact Decidable.not_not.mp hc))
theorem own_if_gt_t {u : Int32} {o : Int} (hd : decode bytes pc = .ok (.ifCond .gt o, 3)) (hc : 0 < u) (ho : 0 ≤ (pc : Int) + o) (hp : ((pc : Int) + o).toNat = pc') (k : own_W l Z y bytes ml ret R n0 Q h cells slots pc' Ls st) : own_W l Z y bytes ml ret R n0 Q h cells slots pc Ls (.int u :: st) :=
  own_pure (fun p e below T t m c hA hx hb hr => XS.ifYes hA hx rfl rfl (hb ▸ hd) rfl (XT.i0_gt_t hc) ho hp hr) k
theorem own_if_gt_f {u : Int32} {o : Int} (hd : decode bytes pc = .ok (.ifCond .gt o, 3)) (hc : ¬ 0 < u) (hp : pc + 3 = pc') (k : own_W l Z y bytes ml ret R n0 Q h cells slots pc' Ls st) : own_W l Z y bytes ml ret R n0 Q h cells slots pc Ls (.int u :: st) :=
  own_pure (fun p e below T t m c hA hx hb hr => by subst hp; exact XS.ifNo hA hx rfl (hb ▸ hd) rfl (XT.i0_gt_f hc) hr) k
theorem own_if_gt {u : Int32} {o : Int} {pf : Nat} (hd : decode bytes pc = .ok (.ifCond .gt o, 3)) (ho : 0 ≤ (pc : Int) + o) (hp : ((pc : Int) + o).toNat = pc') (hq : pc + 3 = pf) (kt : 0 < u → own_W l Z y bytes ml ret R n0 Q h cells slots pc' Ls st) (kf : ¬ 0 < u → own_W l Z y bytes ml ret R n0 Q h cells slots pf Ls st) : own_W l Z y bytes ml ret R n0 Q h cells slots pc Ls (.int u :: st) := by
  by_cases hc : 0 < u
  · exact own_if_gt_t hd hc ho hp (kt hc)
  · exact own_if_gt_f hd (by first | exact hc | exact Decidable.not_not.mp hc) hq (kf (by first | exact hc | exact Decidable.not_not.mp hc))
theorem own_ic_gt_t {u w : Int32} {o : Int} (hd : decode bytes pc = .ok (.if_icmp .gt o, 3)) (hc : w < u) (ho : 0 ≤ (pc : Int) + o) (hp : ((pc : Int) + o).toNat = pc') (k : own_W l Z y bytes ml ret R n0 Q h cells slots pc' Ls st) : own_W l Z y bytes ml ret R n0 Q h cells slots pc Ls (.int w :: .int u :: st) :=
  own_pure (fun p e below T t m c hA hx hb hr => XS.icmpYes hA hx rfl rfl (hb ▸ hd) rfl (XT.ii_gt_t hc) ho hp hr) k
theorem own_ic_gt_f {u w : Int32} {o : Int} (hd : decode bytes pc = .ok (.if_icmp .gt o, 3)) (hc : ¬ w < u) (hp : pc + 3 = pc') (k : own_W l Z y bytes ml ret R n0 Q h cells slots pc' Ls st) : own_W l Z y bytes ml ret R n0 Q h cells slots pc Ls (.int w :: .int u :: st) :=
  own_pure (fun p e below T t m c hA hx hb hr => by subst hp; exact XS.icmpNo hA hx rfl (hb ▸ hd) rfl (XT.ii_gt_f hc) hr) k
theorem own_ic_gt {u w : Int32} {o : Int} {pf : Nat} (hd : decode bytes pc = .ok (.if_icmp .gt o, 3)) (ho : 0 ≤ (pc : Int) + o) (hp : ((pc : Int) + o).toNat = pc') (hq : pc + 3 = pf) (kt : w < u → own_W l Z y bytes ml ret R n0 Q h cells slots pc' Ls st) (kf : ¬ w < u → own_W l Z y bytes ml ret R n0 Q h cells slots pf Ls st) : own_W l Z y bytes ml ret R n0 Q h cells slots pc Ls (.int w :: .int u :: st) := by
  by_cases hc : w < u
  · exact own_ic_gt_t hd hc ho hp (kt hc)
  · exact own_ic_gt_f hd (by first | exact hc | exact Decidable.not_not.mp hc) hq (kf (by first | exact hc | exact Decidable.not_not.mp hc))
theorem own_il_gt_t {u w : Int64} {o : Int} (hd : decode bytes pc = .ok (.ifCond .gt o, 3)) (hc : w < u) (ho : 0 ≤ (pc : Int) + o) (hp : ((pc : Int) + o).toNat = pc') (k : own_W l Z y bytes ml ret R n0 Q h cells slots pc' Ls st) : own_W l Z y bytes ml ret R n0 Q h cells slots pc Ls (.int (XT.cmpL u w) :: st) :=
  own_pure (fun p e below T t m c hA hx hb hr => XS.ifYes hA hx rfl rfl (hb ▸ hd) rfl (XT.ll_gt_t hc) ho hp hr) k
theorem own_il_gt_f {u w : Int64} {o : Int} (hd : decode bytes pc = .ok (.ifCond .gt o, 3)) (hc : ¬ w < u) (hp : pc + 3 = pc') (k : own_W l Z y bytes ml ret R n0 Q h cells slots pc' Ls st) : own_W l Z y bytes ml ret R n0 Q h cells slots pc Ls (.int (XT.cmpL u w) :: st) :=
  own_pure (fun p e below T t m c hA hx hb hr => by subst hp; exact XS.ifNo hA hx rfl (hb ▸ hd) rfl (XT.ll_gt_f hc) hr) k
theorem own_il_gt {u w : Int64} {o : Int} {pf : Nat} (hd : decode bytes pc = .ok (.ifCond .gt o, 3)) (ho : 0 ≤ (pc : Int) + o) (hp : ((pc : Int) + o).toNat = pc') (hq : pc + 3 = pf) (kt : w < u → own_W l Z y bytes ml ret R n0 Q h cells slots pc' Ls st) (kf : ¬ w < u → own_W l Z y bytes ml ret R n0 Q h cells slots pf Ls st) : own_W l Z y bytes ml ret R n0 Q h cells slots pc Ls (.int (XT.cmpL u w) :: st) := by
  by_cases hc : w < u
  · exact own_il_gt_t hd hc ho hp (kt hc)
  · exact own_il_gt_f hd (by first | exact hc | exact Decidable.not_not.mp hc) hq (kf (by first | exact hc | exact Decidable.not_not.mp hc))
theorem own_if_le_t {u : Int32} {o : Int} (hd : decode bytes pc = .ok (.ifCond .le o, 3)) (hc : ¬ 0 < u) (ho : 0 ≤ (pc : Int) + o) (hp : ((pc : Int) + o).toNat = pc') (k : own_W l Z y bytes ml ret R n0 Q h cells slots pc' Ls st) : own_W l Z y bytes ml ret R n0 Q h cells slots pc Ls (.int u :: st) :=
  own_pure (fun p e below T t m c hA hx hb hr => XS.ifYes hA hx rfl rfl (hb ▸ hd) rfl (XT.i0_le_t hc) ho hp hr) k
theorem own_if_le_f {u : Int32} {o : Int} (hd : decode bytes pc = .ok (.ifCond .le o, 3)) (hc : 0 < u) (hp : pc + 3 = pc') (k : own_W l Z y bytes ml ret R n0 Q h cells slots pc' Ls st) : own_W l Z y bytes ml ret R n0 Q h cells slots pc Ls (.int u :: st) :=
  own_pure (fun p e below T t m c hA hx hb hr => by subst hp; exact XS.ifNo hA hx rfl (hb ▸ hd) rfl (XT.i0_le_f hc) hr) k
theorem own_if_le {u : Int32} {o : Int} {pf : Nat} (hd : decode bytes pc = .ok (.ifCond .le o, 3)) (ho : 0 ≤ (pc : Int) + o) (hp : ((pc : Int) + o).toNat = pc') (hq : pc + 3 = pf) (kt : ¬ 0 < u → own_W l Z y bytes ml ret R n0 Q h cells slots pc' Ls st) (kf : 0 < u → own_W l Z y bytes ml ret R n0 Q h cells slots pf Ls st) : own_W l Z y bytes ml ret R n0 Q h cells slots pc Ls (.int u :: st) := by
  by_cases hc : ¬ 0 < u
  · exact own_if_le_t hd hc ho hp (kt hc)
  · exact own_if_le_f hd (by first | exact hc | exact Decidable.not_not.mp hc) hq (kf (by first | exact hc | exact Decidable.not_not.mp hc))
theorem own_ic_le_t {u w : Int32} {o : Int} (hd : decode bytes pc = .ok (.if_icmp .le o, 3)) (hc : ¬ w < u) (ho : 0 ≤ (pc : Int) + o) (hp : ((pc : Int) + o).toNat = pc') (k : own_W l Z y bytes ml ret R n0 Q h cells slots pc' Ls st) : own_W l Z y bytes ml ret R n0 Q h cells slots pc Ls (.int w :: .int u :: st) :=
  own_pure (fun p e below T t m c hA hx hb hr => XS.icmpYes hA hx rfl rfl (hb ▸ hd) rfl (XT.ii_le_t hc) ho hp hr) k
theorem own_ic_le_f {u w : Int32} {o : Int} (hd : decode bytes pc = .ok (.if_icmp .le o, 3)) (hc : w < u) (hp : pc + 3 = pc') (k : own_W l Z y bytes ml ret R n0 Q h cells slots pc' Ls st) : own_W l Z y bytes ml ret R n0 Q h cells slots pc Ls (.int w :: .int u :: st) :=
  own_pure (fun p e below T t m c hA hx hb hr => by subst hp; exact XS.icmpNo hA hx rfl (hb ▸ hd) rfl (XT.ii_le_f hc) hr) k
theorem own_ic_le {u w : Int32} {o : Int} {pf : Nat} (hd : decode bytes pc = .ok (.if_icmp .le o, 3)) (ho : 0 ≤ (pc : Int) + o) (hp : ((pc : Int) + o).toNat = pc') (hq : pc + 3 = pf) (kt : ¬ w < u → own_W l Z y bytes ml ret R n0 Q h cells slots pc' Ls st) (kf : w < u → own_W l Z y bytes ml ret R n0 Q h cells slots pf Ls st) : own_W l Z y bytes ml ret R n0 Q h cells slots pc Ls (.int w :: .int u :: st) := by
  by_cases hc : ¬ w < u
  · exact own_ic_le_t hd hc ho hp (kt hc)
  · exact own_ic_le_f hd (by first | exact hc | exact Decidable.not_not.mp hc) hq (kf (by first | exact hc | exact Decidable.not_not.mp hc))
theorem own_il_le_t {u w : Int64} {o : Int} (hd : decode bytes pc = .ok (.ifCond .le o, 3)) (hc : ¬ w < u) (ho : 0 ≤ (pc : Int) + o) (hp : ((pc : Int) + o).toNat = pc') (k : own_W l Z y bytes ml ret R n0 Q h cells slots pc' Ls st) : own_W l Z y bytes ml ret R n0 Q h cells slots pc Ls (.int (XT.cmpL u w) :: st) :=
  own_pure (fun p e below T t m c hA hx hb hr => XS.ifYes hA hx rfl rfl (hb ▸ hd) rfl (XT.ll_le_t hc) ho hp hr) k
theorem own_il_le_f {u w : Int64} {o : Int} (hd : decode bytes pc = .ok (.ifCond .le o, 3)) (hc : w < u) (hp : pc + 3 = pc') (k : own_W l Z y bytes ml ret R n0 Q h cells slots pc' Ls st) : own_W l Z y bytes ml ret R n0 Q h cells slots pc Ls (.int (XT.cmpL u w) :: st) :=
  own_pure (fun p e below T t m c hA hx hb hr => by subst hp; exact XS.ifNo hA hx rfl (hb ▸ hd) rfl (XT.ll_le_f hc) hr) k
theorem own_il_le {u w : Int64} {o : Int} {pf : Nat} (hd : decode bytes pc = .ok (.ifCond .le o, 3)) (ho : 0 ≤ (pc : Int) + o) (hp : ((pc : Int) + o).toNat = pc') (hq : pc + 3 = pf) (kt : ¬ w < u → own_W l Z y bytes ml ret R n0 Q h cells slots pc' Ls st) (kf : w < u → own_W l Z y bytes ml ret R n0 Q h cells slots pf Ls st) : own_W l Z y bytes ml ret R n0 Q h cells slots pc Ls (.int (XT.cmpL u w) :: st) := by
  by_cases hc : ¬ w < u
  · exact own_il_le_t hd hc ho hp (kt hc)
  · exact own_il_le_f hd (by first | exact hc | exact Decidable.not_not.mp hc) hq (kf (by first | exact hc | exact Decidable.not_not.mp hc))
theorem own_ifnull_f {u : Addr} {o : Int} (hd : decode bytes pc = .ok (.ifnull o, 3)) (hp : pc + 3 = pc') (k : own_W l Z y bytes ml ret R n0 Q h cells slots pc' Ls st) : own_W l Z y bytes ml ret R n0 Q h cells slots pc Ls (.ref u :: st) :=
  own_pure (fun p e below T t m c hA hx hb hr => by subst hp; exact XS.ifnullNo hA hx rfl (hb ▸ hd) rfl hr) k
theorem own_ifnonnull_t {u : Addr} {o : Int} (hd : decode bytes pc = .ok (.ifnonnull o, 3)) (ho : 0 ≤ (pc : Int) + o) (hp : ((pc : Int) + o).toNat = pc') (k : own_W l Z y bytes ml ret R n0 Q h cells slots pc' Ls st) : own_W l Z y bytes ml ret R n0 Q h cells slots pc Ls (.ref u :: st) :=
  own_pure (fun p e below T t m c hA hx hb hr => XT.ifnonnullYes hA hx rfl rfl (hb ▸ hd) rfl ho hp hr) k
theorem own_ldcI {idx : Nat} {u : Int32} (w : (Jvm.Cond.constant y.cls idx u).before a0 Z = true) (hd : decode bytes pc = .ok (.ldc idx, 2)) (hp : pc + 2 = pc') (k : own_W l Z y bytes ml ret R n0 Q h cells slots pc' Ls (.int u :: st)) : own_W l Z y bytes ml ret R n0 Q h cells slots pc Ls st := by
  intro p e s vm0 k0 m args below meth c T locs hx hZ hown hby hml hret hlk hnm hce hsl X eT N hS hk
  subst hp
  obtain ⟨s₂, o, h1, h2⟩ := k p e s vm0 k0 m args below meth c T locs hx hZ hown hby hml hret hlk hnm hce hsl X eT N hS hk
  exact ⟨s₂, o, X.ldcInt hx hown (mvT hZ w) (g := mkF m pc Ls st) rfl (hb hby hd) _ h1, h2⟩
theorem own_ldcWI {idx : Nat} {u : Int32} (w : (Jvm.Cond.constant y.cls idx u).before a0 Z = true) (hd : decode bytes pc = .ok (.ldc_w idx, 3)) (hp : pc + 3 = pc') (k : own_W l Z y bytes ml ret R n0 Q h cells slots pc' Ls (.int u :: st)) : own_W l Z y bytes ml ret R n0 Q h cells slots pc Ls st := by
  intro p e s vm0 k0 m args below meth c T locs hx hZ hown hby hml hret hlk hnm hce hsl X eT N hS hk
  subst hp
  obtain ⟨s₂, o, h1, h2⟩ := k p e s vm0 k0 m args below meth c T locs hx hZ hown hby hml hret hlk hnm hce hsl X eT N hS hk
  exact ⟨s₂, o, X.ldcWInt hx hown (mvT hZ w) (g := mkF m pc Ls st) rfl (hb hby hd) _ h1, h2⟩
theorem own_ldc2 {idx : Nat} {u : Int64} (w : (Jvm.Cond.constantLong y.cls idx u).before a0 Z = true) (hd : decode bytes pc = .ok (.ldc2_w idx, 3)) (hp : pc + 3 = pc') (k : own_W l Z y bytes ml ret R n0 Q h cells slots pc' Ls (.long u :: st)) : own_W l Z y bytes ml ret R n0 Q h cells slots pc Ls st := by
  intro p e s vm0 k0 m args below meth c T locs hx hZ hown hby hml hret hlk hnm hce hsl X eT N hS hk
  subst hp
  obtain ⟨s₂, o, h1, h2⟩ := k p e s vm0 k0 m args below meth c T locs hx hZ hown hby hml hret hlk hnm hce hsl X eT N hS hk
  exact ⟨s₂, o, X.ldc2Long hx hown (mvT hZ w) (g := mkF m pc Ls st) rfl (hb hby hd) _ h1, h2⟩
theorem own_iret {u : Int32} (hr0 : ret = some .int) (hd : decode bytes pc = .ok (.ireturn, 1)) (hq : Q (some (.int u)) h) : own_W l Z y bytes ml ret R n0 Q h cells slots pc Ls (.int u :: st) := by
  intro p e s vm0 k0 m args below meth c T locs hx hZ hown hby hml hret hlk hnm hce hsl X eT N hS hk
  subst hr0
  obtain ⟨fs, hr, hrun, hended, hRW⟩ := X.leaveW hS (by rw [eT]; exact hk) (v := some (.int u)) (fun h => by rw [hret] at h; cases h) hlk
  refine ⟨_, _, ?_, hrun, hended, _, _, rfl, ⟨?_, N⟩, hRW.1, hRW.2.1, hRW.2.2.1, hRW.2.2.2.mono hce hsl⟩
  · exact retOut X hx hret rfl (Or.inl ⟨rfl, Or.inl rfl, _, rfl⟩) (hb hby hd) hr
  · rw [show (T.setFrames fs).heap = h from eT]; exact hq
theorem own_zret {u : Int32} {t : FieldType} (hr0 : ret = some t) (ht : t = .boolean ∨ t = .byte ∨ t = .char ∨ t = .short) (hd : decode bytes pc = .ok (.ireturn, 1)) (hq : Q (some (.int (nar t u))) h) : own_W l Z y bytes ml ret R n0 Q h cells slots pc Ls (.int u :: st) := by
  intro p e s vm0 k0 m args below meth c T locs hx hZ hown hby hml hret hlk hnm hce hsl X eT N hS hk
  subst hr0
  obtain ⟨fs, hr, hrun, hended, hRW⟩ := X.leaveW hS (by rw [eT]; exact hk) (v := some (.int (nar t u))) (fun h => by rw [hret] at h; cases h) hlk
  refine ⟨_, _, ?_, hrun, hended, _, _, rfl, ⟨?_, N⟩, hRW.1, hRW.2.1, hRW.2.2.1, hRW.2.2.2.mono hce hsl⟩
  · exact retN X hx hret ht (hb hby hd) hr
  · rw [show (T.setFrames fs).heap = h from eT]; exact hq
theorem own_bret {u v : Int32} (hr0 : ret = some .boolean) (hv : u &&& 1 = v) (hd : decode bytes pc = .ok (.ireturn, 1)) (hq : Q (some (.int v)) h) : own_W l Z y bytes ml ret R n0 Q h cells slots pc Ls (.int u :: st) :=
  own_zret hr0 (Or.inl rfl) hd (by subst hv; exact hq)
theorem own_lret {u : Int64} (hr0 : ret = some .long) (hd : decode bytes pc = .ok (.lreturn, 1)) (hq : Q (some (.long u)) h) : own_W l Z y bytes ml ret R n0 Q h cells slots pc Ls (.long u :: st) := by
  intro p e s vm0 k0 m args below meth c T locs hx hZ hown hby hml hret hlk hnm hce hsl X eT N hS hk
  subst hr0
  obtain ⟨fs, hr, hrun, hended, hRW⟩ := X.leaveW hS (by rw [eT]; exact hk) (v := some (.long u)) (fun h => by rw [hret] at h; cases h) hlk
  refine ⟨_, _, ?_, hrun, hended, _, _, rfl, ⟨?_, N⟩, hRW.1, hRW.2.1, hRW.2.2.1, hRW.2.2.2.mono hce hsl⟩
  · exact retOut X hx hret rfl (Or.inr (Or.inl ⟨rfl, rfl, _, rfl⟩)) (hb hby hd) hr
  · rw [show (T.setFrames fs).heap = h from eT]; exact hq
theorem own_aret {u : Addr} {t : FieldType} (hr0 : ret = some t) (ht : t.isReference = true) (hn : narrow t (.ref u) = .ref u) (hd : decode bytes pc = .ok (.areturn, 1)) (hq : Q (some (.ref u)) h) : own_W l Z y bytes ml ret R n0 Q h cells slots pc Ls (.ref u :: st) := by
  intro p e s vm0 k0 m args below meth c T locs hx hZ hown hby hml hret hlk hnm hce hsl X eT N hS hk
  subst hr0
  obtain ⟨fs, hr, hrun, hended, hRW⟩ := X.leaveW hS (by rw [eT]; exact hk) (v := some (.ref u)) (fun h => by rw [hret] at h; cases h) hlk
  refine ⟨_, _, ?_, hrun, hended, _, _, rfl, ⟨?_, N⟩, hRW.1, hRW.2.1, hRW.2.2.1, hRW.2.2.2.mono hce hsl⟩
  · exact retOut X hx hret hn (Or.inr (Or.inr (Or.inr (Or.inr ⟨rfl, ht, rfl⟩)))) (hb hby hd) hr
  · rw [show (T.setFrames fs).heap = h from eT]; exact hq
theorem own_ret (hr0 : ret = none) (hd : decode bytes pc = .ok (.return_, 1)) (hq : Q none h) : own_W l Z y bytes ml ret R n0 Q h cells slots pc Ls [] := by
  intro p e s vm0 k0 m args below meth c T locs hx hZ hown hby hml hret hlk hnm hce hsl X eT N hS hk
  subst hr0
  obtain ⟨fs, hr, hrun, hended, hRW⟩ := X.leaveW hS (by rw [eT]; exact hk) (v := none) (fun _ => rfl) hlk
  refine ⟨_, _, ?_, hrun, hended, _, _, rfl, ⟨?_, N⟩, hRW.1, hRW.2.1, hRW.2.2.1, hRW.2.2.2.mono hce hsl⟩
  · exact X.returnOut hx hret (hb hby hd) hr
  · rw [show (T.setFrames fs).heap = h from eT]; exact hq
theorem own_getF {O n d : String} {idx : Nat} {a : Addr} {v : Value} (w : (Jvm.Cond.fieldLink y.cls idx O n d).before a0 Z = true) (F : Fld Z h a O n d v) (hd : decode bytes pc = .ok (.getfield idx, 3)) (hp : pc + 3 = pc') (k : own_W l Z y bytes ml ret R n0 Q h cells slots pc' Ls (v :: st)) : own_W l Z y bytes ml ret R n0 Q h cells slots pc Ls (.ref a :: st) := by
  intro p e s vm0 k0 m args below meth c T locs hx hZ hown hby hml hret hlk hnm hce hsl X eT N hS hk
  subst hp
  obtain ⟨T', X', e', st'⟩ := getF X hx hZ hown (host := "") (Or.inl w) Via.refl eT F (g := mkF m pc Ls (.ref a :: st)) rfl rfl (hb hby hd)
  obtain ⟨s₂, o, h1, h2⟩ := k p e s vm0 k0 m args below meth c T' locs hx hZ hown hby hml hret hlk hnm hce hsl X' e' N hS hk
  exact ⟨s₂, o, st' _ h1, h2⟩
theorem own_putF {O n d C : String} {idx kk : Nat} {a : Addr} {v old : Value} {ty : FieldType} (w : (Jvm.Cond.fieldLink y.cls idx O n d).before a0 Z = true) (F : Fld Z h a O n d old) (E : Exa Z h a C) (L : (Jvm.Cond.lays C O n d).before a0 Z = true ∨ ((Jvm.Cond.laysFinal C O n d).before a0 Z = true ∧ y.cls = O ∧ y.name = "<init>")) (wi : (Jvm.Cond.instantiable C kk).before a0 Z = true)
    (ge : n0 ≤ a) (hty : parseFieldDescriptor d = some ty) (hn : narrow ty v = v) (hf : fits ty v = true) (hd : decode bytes pc = .ok (.putfield idx, 3)) (hp : pc + 3 = pc')
    (k : ∀ h', Wr h h' a (Jvm.RoadKit.slotOf Z O n d) v → Keep h h' [a] → own_W l Z y bytes ml ret R n0 Q h' cells slots pc' Ls st) : own_W l Z y bytes ml ret R n0 Q h cells slots pc Ls (v :: .ref a :: st) := by
  intro p e s vm0 k0 m args below meth c T locs hx hZ hown hby hml hret hlk hnm hce hsl X eT N hS hk
  subst hp
  obtain ⟨T', h', X', e', W', st'⟩ := putF X hx hZ hown (host := "") (Or.inl w) Via.refl eT F E (L.imp id fun q => ⟨q.1, q.2.1, hnm.trans q.2.2⟩) wi hty hn hf (g := mkF m pc Ls (v :: .ref a :: st)) rfl rfl (hb hby hd)
  obtain ⟨s₂, o, h1, h2⟩ := k h' W' (Keep.of_wr W') p e s vm0 k0 m args below meth c T' _ hx hZ hown hby hml hret hlk hnm hce hsl X' e' (Fr.snoc X' N ge) hS (Nat.le_trans hk (Keep.of_wr W').1)
  exact ⟨s₂, o, st' _ h1, h2⟩
theorem own_new {C : String} {idx n : Nat} (w : (Jvm.Cond.classLink y.cls idx C).before a0 Z = true) (wi : (Jvm.Cond.instantiable C n).before a0 Z = true) (wz : (Jvm.Cond.initialized C).before a0 Z = true) (hd : decode bytes pc = .ok (.new idx, 3)) (hp : pc + 3 = pc') (hc : cells + 1 ≤ R.cells) (hl : slots + n ≤ R.slots)
    (k : ∀ (h' : Heap) (a : Addr), h.size ≤ a → a < h'.size → Ext h h' → Exa Z h' a C → (∀ {O nm d : String} {ty : FieldType}, Laid Z a0 C O nm d → parseFieldDescriptor d = some ty → Fld Z h' a O nm d (defaultValue ty)) → own_W l Z y bytes ml ret R n0 Q h' (cells + 1) (slots + n) pc' Ls (.ref a :: st)) : own_W l Z y bytes ml ret R n0 Q h cells slots pc Ls st := by
  intro p e s vm0 k0 m args below meth c T locs hx hZ hown hby hml hret hlk hnm hce hsl X eT N hS hk
  subst hp
  obtain ⟨T', h', X', e', E', A', D', -, st'⟩ := newO X hx hZ hown w wi wz eT (g := mkF m pc Ls st) rfl (hb hby hd) hc hl
  obtain ⟨s₂, o, h1, h2⟩ := k h' h.size (Nat.le_refl _) A'.lt E' A' D' p e s vm0 k0 m args below meth c T' _ hx hZ hown hby hml hret hlk hnm hc hl X' e' N hS (Nat.le_trans hk E'.1)
  exact ⟨s₂, o, st' _ h1, h2⟩
theorem own_initO {idx W : Nat} {a : Addr} (w1 : (Jvm.Cond.methodLink y.cls idx Lib.objectInit).before a0 Z = true) (w2 : (Jvm.Cond.instanceMethod Lib.objectInit).before a0 Z = true) (w3 : (Jvm.Cond.code Lib.objectInit ⟨#[0xb1]⟩ 1 none).before a0 Z = true) (hd : decode bytes pc = .ok (.invokespecial idx, 3)) (hp : pc + 3 = pc')
    (hsz : Ls.size = ml) (hf : 1 ≤ R.frames) (hW : (st.map fun v => v.category).sum ≤ W) (hl : W + 12 ≤ R.locals) (k : own_W l Z y bytes ml ret R n0 Q h cells slots pc' Ls st) : own_W l Z y bytes ml ret R n0 Q h cells slots pc Ls (.ref a :: st) := by
  intro p e s vm0 k0 m args below meth c T locs hx hZ hown hby hml hret hlk hnm hce hsl X eT N hS hk
  subst hp
  obtain ⟨T', X', e', st'⟩ := initO X hx hZ hown w1 w2 w3 eT (g := mkF m pc Ls (.ref a :: st)) rfl (by rw [hml]; exact hsz) rfl (hb hby hd) hf (W := W) (by show 2 * 0 + _ ≤ _; omega) hl
  obtain ⟨s₂, o, h1, h2⟩ := k p e s vm0 k0 m args below meth c T' locs hx hZ hown hby hml hret hlk hnm hce hsl X' e' N hS hk
  exact ⟨s₂, o, st' _ h1, h2⟩
/-- an array of this component type with just these components -/
def own_A (Z : State) (h : Heap) (a : Addr) (ty : FieldType) (vs : List Value) : Prop := ∃ c : Cell, Arr Z h a c ty ∧ c.slots.toList = vs ∧ vs.length < 2 ^ 31 ∧ ∀ v ∈ vs, fits ty v = true
theorem own_A.lt {a : Addr} {ty : FieldType} {vs : List Value} (A : own_A Z h a ty vs) : a < h.size := by obtain ⟨c, A, -⟩ := A; exact A.lt
theorem own_A.ext {h' : Heap} {a : Addr} {ty : FieldType} {vs : List Value} (A : own_A Z h a ty vs) (E : Ext h h') : own_A Z h' a ty vs := by obtain ⟨c, A, r⟩ := A; exact ⟨c, A.ext E, r⟩
theorem own_A.keep {h' : Heap} {a : Addr} {ty : FieldType} {vs : List Value} {ws : List Addr} (A : own_A Z h a ty vs) (K : Keep h h' ws) (q : a ∉ ws) : own_A Z h' a ty vs := by obtain ⟨c, A, r⟩ := A; exact ⟨c, ⟨K.2.1 a c A.1 q, A.2⟩, r⟩
theorem own_A.cast {a : Addr} {ty : FieldType} {vs vs' : List Value} (A : own_A Z h a ty vs) (q : vs = vs') : own_A Z h a ty vs' := q ▸ A
theorem own_size {c : Cell} {vs : List Value} (q : c.slots.toList = vs) : c.slots.size = vs.length := by rw [← q]; simp
theorem own_in {c : Cell} {vs : List Value} {j : Int32} (q : c.slots.toList = vs) (h0 : ¬ j < 0) (h1 : j.toNatClampNeg < vs.length) : ¬ (j < 0 ∨ c.slots.size ≤ j.toNatClampNeg) := by rw [own_size q]; rintro (u | u); exact h0 u; omega
theorem own_get {c : Cell} {vs : List Value} {j : Nat} {v : Value} (q : c.slots.toList = vs) (h1 : vs[j]? = some v) : c.slots[j]? = some v := by rw [← Array.getElem?_toList, q]; exact h1
theorem own_A.set {h' : Heap} {a : Addr} {ty : FieldType} {vs : List Value} {j : Nat} {v : Value} {c : Cell} (A : Arr Z h a c ty) (q : c.slots.toList = vs) (hl : vs.length < 2 ^ 31) (hft : ∀ v ∈ vs, fits ty v = true) (hv : fits ty v = true) (W : Wr h h' a j v) : own_A Z h' a ty (vs.set j v) := by
  refine ⟨_, A.same W, ?_, by simpa using hl, fun w hw => (List.mem_or_eq_of_mem_set hw).elim (hft w) fun e => e ▸ hv⟩
  rw [← q]; simp [Cell.setSlot]
theorem own_fitd (ty : FieldType) : fits ty (defaultValue ty) = true := by cases ty <;> rfl
theorem own_len {a : Addr} {ty : FieldType} {vs : List Value} {n : Int32} (A : own_A Z h a ty vs) (hn : vs.length.toInt32 = n) (hd : decode bytes pc = .ok (.arraylength, 1)) (hp : pc + 1 = pc') (k : own_W l Z y bytes ml ret R n0 Q h cells slots pc' Ls (.int n :: st)) : own_W l Z y bytes ml ret R n0 Q h cells slots pc Ls (.ref a :: st) := by
  intro p e s vm0 k0 m args below meth c T locs hx hZ hown hby hml hret hlk hnm hce hsl X eT N hS hk
  subst hp hn
  obtain ⟨cl, A, q, hl, hft⟩ := A
  obtain ⟨s₂, o, h1, h2⟩ := k p e s vm0 k0 m args below meth c T locs hx hZ hown hby hml hret hlk hnm hce hsl X eT N hS hk
  refine ⟨s₂, o, X.arraylength hx (by rw [eT]; exact A.1) (State.isArrayOf_alike hZ.alike A.2.1) (g := mkF m pc Ls (.ref a :: st)) rfl rfl (hb hby hd) _ ?_, h2⟩
  rw [own_size q]; exact h1
theorem own_iaload {a : Addr} {vs : List Value} {j : Int32} {v : Value} (A : own_A Z h a .int vs) (h0 : ¬ j < 0) (hv : vs[j.toNatClampNeg]? = some v) (hd : decode bytes pc = .ok (.iaload, 1)) (hp : pc + 1 = pc') (k : own_W l Z y bytes ml ret R n0 Q h cells slots pc' Ls (v :: st)) : own_W l Z y bytes ml ret R n0 Q h cells slots pc Ls (.int j :: .ref a :: st) := by
  intro p e s vm0 k0 m args below meth c T locs hx hZ hown hby hml hret hlk hnm hce hsl X eT N hS hk
  subst hp
  obtain ⟨cl, A, q, hl, hft⟩ := A
  obtain ⟨s₂, o, h1, h2⟩ := k p e s vm0 k0 m args below meth c T locs hx hZ hown hby hml hret hlk hnm hce hsl X eT N hS hk
  exact ⟨s₂, o, X.iaload hx (by rw [eT]; exact A.1) (State.isArrayOf_alike hZ.alike A.2.1) A.2.2 (own_in q h0 (List.getElem?_eq_some_iff.mp hv).1) (own_get q hv) (g := mkF m pc Ls (.int j :: .ref a :: st)) rfl rfl (hb hby hd) _ h1, h2⟩
theorem own_laload {a : Addr} {vs : List Value} {j : Int32} {v : Value} (A : own_A Z h a .long vs) (h0 : ¬ j < 0) (hv : vs[j.toNatClampNeg]? = some v) (hd : decode bytes pc = .ok (.laload, 1)) (hp : pc + 1 = pc') (k : own_W l Z y bytes ml ret R n0 Q h cells slots pc' Ls (v :: st)) : own_W l Z y bytes ml ret R n0 Q h cells slots pc Ls (.int j :: .ref a :: st) := by
  intro p e s vm0 k0 m args below meth c T locs hx hZ hown hby hml hret hlk hnm hce hsl X eT N hS hk
  subst hp
  obtain ⟨cl, A, q, hl, hft⟩ := A
  obtain ⟨s₂, o, h1, h2⟩ := k p e s vm0 k0 m args below meth c T locs hx hZ hown hby hml hret hlk hnm hce hsl X eT N hS hk
  exact ⟨s₂, o, X.laload hx (by rw [eT]; exact A.1) (State.isArrayOf_alike hZ.alike A.2.1) A.2.2 (own_in q h0 (List.getElem?_eq_some_iff.mp hv).1) (own_get q hv) (g := mkF m pc Ls (.int j :: .ref a :: st)) rfl rfl (hb hby hd) _ h1, h2⟩
theorem own_caload {a : Addr} {vs : List Value} {j : Int32} {v : Value} (A : own_A Z h a .char vs) (h0 : ¬ j < 0) (hv : vs[j.toNatClampNeg]? = some v) (hd : decode bytes pc = .ok (.caload, 1)) (hp : pc + 1 = pc') (k : own_W l Z y bytes ml ret R n0 Q h cells slots pc' Ls (v :: st)) : own_W l Z y bytes ml ret R n0 Q h cells slots pc Ls (.int j :: .ref a :: st) := by
  intro p e s vm0 k0 m args below meth c T locs hx hZ hown hby hml hret hlk hnm hce hsl X eT N hS hk
  subst hp
  obtain ⟨cl, A, q, hl, hft⟩ := A
  obtain ⟨s₂, o, h1, h2⟩ := k p e s vm0 k0 m args below meth c T locs hx hZ hown hby hml hret hlk hnm hce hsl X eT N hS hk
  exact ⟨s₂, o, X.caload hx (by rw [eT]; exact A.1) (State.isArrayOf_alike hZ.alike A.2.1) A.2.2 (own_in q h0 (List.getElem?_eq_some_iff.mp hv).1) (own_get q hv) (g := mkF m pc Ls (.int j :: .ref a :: st)) rfl rfl (hb hby hd) _ h1, h2⟩
theorem own_baload {a : Addr} {vs : List Value} {j : Int32} {v : Value} (A : own_A Z h a .byte vs) (h0 : ¬ j < 0) (hv : vs[j.toNatClampNeg]? = some v) (hd : decode bytes pc = .ok (.baload, 1)) (hp : pc + 1 = pc') (k : own_W l Z y bytes ml ret R n0 Q h cells slots pc' Ls (v :: st)) : own_W l Z y bytes ml ret R n0 Q h cells slots pc Ls (.int j :: .ref a :: st) := by
  intro p e s vm0 k0 m args below meth c T locs hx hZ hown hby hml hret hlk hnm hce hsl X eT N hS hk
  subst hp
  obtain ⟨cl, A, q, hl, hft⟩ := A
  obtain ⟨s₂, o, h1, h2⟩ := k p e s vm0 k0 m args below meth c T locs hx hZ hown hby hml hret hlk hnm hce hsl X eT N hS hk
  exact ⟨s₂, o, X.baloadBytes hx (by rw [eT]; exact A.1) (State.isArrayOf_alike hZ.alike A.2.1) A.2.2 (own_in q h0 (List.getElem?_eq_some_iff.mp hv).1) (own_get q hv) (g := mkF m pc Ls (.int j :: .ref a :: st)) rfl rfl (hb hby hd) _ h1, h2⟩
theorem own_zaload {a : Addr} {vs : List Value} {j : Int32} {v : Value} (A : own_A Z h a .boolean vs) (h0 : ¬ j < 0) (hv : vs[j.toNatClampNeg]? = some v) (hd : decode bytes pc = .ok (.baload, 1)) (hp : pc + 1 = pc') (k : own_W l Z y bytes ml ret R n0 Q h cells slots pc' Ls (v :: st)) : own_W l Z y bytes ml ret R n0 Q h cells slots pc Ls (.int j :: .ref a :: st) := by
  intro p e s vm0 k0 m args below meth c T locs hx hZ hown hby hml hret hlk hnm hce hsl X eT N hS hk
  subst hp
  obtain ⟨cl, A, q, hl, hft⟩ := A
  obtain ⟨s₂, o, h1, h2⟩ := k p e s vm0 k0 m args below meth c T locs hx hZ hown hby hml hret hlk hnm hce hsl X eT N hS hk
  exact ⟨s₂, o, X.baloadBooleans hx (by rw [eT]; exact A.1) (State.isArrayOf_alike hZ.alike A.2.1) A.2.2 (own_in q h0 (List.getElem?_eq_some_iff.mp hv).1) (own_get q hv) (g := mkF m pc Ls (.int j :: .ref a :: st)) rfl rfl (hb hby hd) _ h1, h2⟩
theorem own_iastore {a : Addr} {vs : List Value} {j : Int32} {u : Int32} (A : own_A Z h a .int vs) (h0 : ¬ j < 0) (h1 : j.toNatClampNeg < vs.length) (ge : n0 ≤ a) (hd : decode bytes pc = .ok (.iastore, 1)) (hp : pc + 1 = pc') (k : ∀ h', Keep h h' [a] → own_A Z h' a .int (vs.set j.toNatClampNeg (.int u)) → own_W l Z y bytes ml ret R n0 Q h' cells slots pc' Ls st) : own_W l Z y bytes ml ret R n0 Q h cells slots pc Ls (.int u :: .int j :: .ref a :: st) := by
  intro p e s vm0 k0 m args below meth c T locs hx hZ hown hby hml hret hlk hnm hce hsl X eT N hS hk
  subst hp
  obtain ⟨cl, A, q, hl, hft⟩ := A
  obtain ⟨T', h', X', e', W', st'⟩ := stI X hx hZ eT A (own_in q h0 h1) (g := mkF m pc Ls (.int u :: .int j :: .ref a :: st)) rfl rfl (hb hby hd)
  obtain ⟨s₂, o, h1, h2⟩ := k h' (Keep.of_wr W') (own_A.set A q hl hft rfl W') p e s vm0 k0 m args below meth c T' _ hx hZ hown hby hml hret hlk hnm hce hsl X' e' (Fr.snoc X' N ge) hS (Nat.le_trans hk (Keep.of_wr W').1)
  exact ⟨s₂, o, st' _ h1, h2⟩
theorem own_lastore {a : Addr} {vs : List Value} {j : Int32} {u : Int64} (A : own_A Z h a .long vs) (h0 : ¬ j < 0) (h1 : j.toNatClampNeg < vs.length) (ge : n0 ≤ a) (hd : decode bytes pc = .ok (.lastore, 1)) (hp : pc + 1 = pc') (k : ∀ h', Keep h h' [a] → own_A Z h' a .long (vs.set j.toNatClampNeg (.long u)) → own_W l Z y bytes ml ret R n0 Q h' cells slots pc' Ls st) : own_W l Z y bytes ml ret R n0 Q h cells slots pc Ls (.long u :: .int j :: .ref a :: st) := by
  intro p e s vm0 k0 m args below meth c T locs hx hZ hown hby hml hret hlk hnm hce hsl X eT N hS hk
  subst hp
  obtain ⟨cl, A, q, hl, hft⟩ := A
  obtain ⟨T', h', X', e', W', st'⟩ := stJ X hx hZ eT A (own_in q h0 h1) (g := mkF m pc Ls (.long u :: .int j :: .ref a :: st)) rfl rfl (hb hby hd)
  obtain ⟨s₂, o, h1, h2⟩ := k h' (Keep.of_wr W') (own_A.set A q hl hft rfl W') p e s vm0 k0 m args below meth c T' _ hx hZ hown hby hml hret hlk hnm hce hsl X' e' (Fr.snoc X' N ge) hS (Nat.le_trans hk (Keep.of_wr W').1)
  exact ⟨s₂, o, st' _ h1, h2⟩
theorem own_castore {a : Addr} {vs : List Value} {j : Int32} {u : Int32} (A : own_A Z h a .char vs) (h0 : ¬ j < 0) (h1 : j.toNatClampNeg < vs.length) (ge : n0 ≤ a) (hd : decode bytes pc = .ok (.castore, 1)) (hp : pc + 1 = pc') (k : ∀ h', Keep h h' [a] → own_A Z h' a .char (vs.set j.toNatClampNeg (.int (nar .char u))) → own_W l Z y bytes ml ret R n0 Q h' cells slots pc' Ls st) : own_W l Z y bytes ml ret R n0 Q h cells slots pc Ls (.int u :: .int j :: .ref a :: st) := by
  intro p e s vm0 k0 m args below meth c T locs hx hZ hown hby hml hret hlk hnm hce hsl X eT N hS hk
  subst hp
  obtain ⟨cl, A, q, hl, hft⟩ := A
  obtain ⟨T', h', X', e', W', st'⟩ := stC X hx hZ eT A (own_in q h0 h1) (g := mkF m pc Ls (.int u :: .int j :: .ref a :: st)) rfl rfl (hb hby hd)
  obtain ⟨s₂, o, h1, h2⟩ := k h' (Keep.of_wr W') (own_A.set A q hl hft (fits_nar_char u) W') p e s vm0 k0 m args below meth c T' _ hx hZ hown hby hml hret hlk hnm hce hsl X' e' (Fr.snoc X' N ge) hS (Nat.le_trans hk (Keep.of_wr W').1)
  exact ⟨s₂, o, st' _ h1, h2⟩
theorem own_bastore {a : Addr} {vs : List Value} {j : Int32} {u : Int32} (A : own_A Z h a .byte vs) (h0 : ¬ j < 0) (h1 : j.toNatClampNeg < vs.length) (ge : n0 ≤ a) (hd : decode bytes pc = .ok (.bastore, 1)) (hp : pc + 1 = pc') (k : ∀ h', Keep h h' [a] → own_A Z h' a .byte (vs.set j.toNatClampNeg (.int (nar .byte u))) → own_W l Z y bytes ml ret R n0 Q h' cells slots pc' Ls st) : own_W l Z y bytes ml ret R n0 Q h cells slots pc Ls (.int u :: .int j :: .ref a :: st) := by
  intro p e s vm0 k0 m args below meth c T locs hx hZ hown hby hml hret hlk hnm hce hsl X eT N hS hk
  subst hp
  obtain ⟨cl, A, q, hl, hft⟩ := A
  obtain ⟨T', h', X', e', W', st'⟩ := stB X hx hZ eT A (own_in q h0 h1) (g := mkF m pc Ls (.int u :: .int j :: .ref a :: st)) rfl rfl (hb hby hd)
  obtain ⟨s₂, o, h1, h2⟩ := k h' (Keep.of_wr W') (own_A.set A q hl hft (fits_nar_byte u) W') p e s vm0 k0 m args below meth c T' _ hx hZ hown hby hml hret hlk hnm hce hsl X' e' (Fr.snoc X' N ge) hS (Nat.le_trans hk (Keep.of_wr W').1)
  exact ⟨s₂, o, st' _ h1, h2⟩
theorem own_zastore {a : Addr} {vs : List Value} {j : Int32} {u : Int32} (A : own_A Z h a .boolean vs) (h0 : ¬ j < 0) (h1 : j.toNatClampNeg < vs.length) (ge : n0 ≤ a) (hd : decode bytes pc = .ok (.bastore, 1)) (hp : pc + 1 = pc') (k : ∀ h', Keep h h' [a] → own_A Z h' a .boolean (vs.set j.toNatClampNeg (.int (nar .boolean u))) → own_W l Z y bytes ml ret R n0 Q h' cells slots pc' Ls st) : own_W l Z y bytes ml ret R n0 Q h cells slots pc Ls (.int u :: .int j :: .ref a :: st) := by
  intro p e s vm0 k0 m args below meth c T locs hx hZ hown hby hml hret hlk hnm hce hsl X eT N hS hk
  subst hp
  obtain ⟨cl, A, q, hl, hft⟩ := A
  obtain ⟨T', h', X', e', W', st'⟩ := stZ X hx hZ eT A (own_in q h0 h1) (g := mkF m pc Ls (.int u :: .int j :: .ref a :: st)) rfl rfl (hb hby hd)
  obtain ⟨s₂, o, h1, h2⟩ := k h' (Keep.of_wr W') (own_A.set A q hl hft (fits_nar_bool u) W') p e s vm0 k0 m args below meth c T' _ hx hZ hown hby hml hret hlk hnm hce hsl X' e' (Fr.snoc X' N ge) hS (Nat.le_trans hk (Keep.of_wr W').1)
  exact ⟨s₂, o, st' _ h1, h2⟩
theorem own_newarrE {aty : ArrayType} {ty : FieldType} {n : Int32} {cap : Nat} (w : (Jvm.Cond.arrayClass ty).before a0 Z = true) (ht : newarray.typeOf aty = ty) (hd : decode bytes pc = .ok (.newarray aty, 2)) (hp : pc + 2 = pc') (hn : ¬ n < 0) (hcap : n.toNatClampNeg ≤ cap) (hb8 : cap * 8 ≤ 536870912) (hc : cells + 1 ≤ R.cells) (hl : slots + cap ≤ R.slots)
    (k : ∀ (h' : Heap) (a : Addr), h.size ≤ a → a < h'.size → Ext h h' → own_A Z h' a ty (List.replicate n.toNatClampNeg (defaultValue ty)) → Exa Z h' a ("[" ++ ty.toString) → own_W l Z y bytes ml ret R n0 Q h' (cells + 1) (slots + cap) pc' Ls (.ref a :: st)) : own_W l Z y bytes ml ret R n0 Q h cells slots pc Ls (.int n :: st) := by
  intro p e s vm0 k0 m args below meth c T locs hx hZ hown hby hml hret hlk hnm hce hsl X eT N hS hk
  subst hp ht
  have hcb : componentBytes (newarray.typeOf aty) ≤ 8 := by cases aty <;> decide
  obtain ⟨cA, kA, comp, g1, g2, g3, X', st'⟩ := X.newarrayPrim hx (mvA hZ w) (g := mkF m pc Ls (.int n :: st)) rfl (hb hby hd) rfl hn (Nat.le_trans (Nat.mul_le_mul hcap hcb) hb8) hc (by omega)
  rw [hZ.alike.findClass] at g1
  obtain ⟨kZ, z1, -⟩ := Vm.findClass_spec g1
  obtain ⟨k', z2, z3⟩ := hZ.alike.2.2 _ _ z1
  cases g2.symm.trans z2
  have kk : kZ.kind = .array comp (newarray.typeOf aty) := by rw [← g3, z3]
  have hN : (T.heap.push ({ cls := cA, slots := Array.replicate n.toNatClampNeg (defaultValue (newarray.typeOf aty)), vm := .none } : Cell))[T.heap.size]? = some { cls := cA, slots := Array.replicate n.toNatClampNeg (defaultValue (newarray.typeOf aty)), vm := .none } := by simp
  have E' : Ext h (T.heap.push ({ cls := cA, slots := Array.replicate n.toNatClampNeg (defaultValue (newarray.typeOf aty)), vm := .none } : Cell)) := by
    subst eT
    refine ⟨by simp, fun b cc hb' => ?_⟩
    rw [Array.getElem?_push_lt (Array.getElem?_eq_some_iff.mp hb').1]; exact (Array.getElem?_eq_getElem _).symm.trans hb'
  have A' : own_A Z (T.heap.push ({ cls := cA, slots := Array.replicate n.toNatClampNeg (defaultValue (newarray.typeOf aty)), vm := .none } : Cell)) T.heap.size (newarray.typeOf aty) (List.replicate n.toNatClampNeg (defaultValue (newarray.typeOf aty))) :=
    ⟨_, ⟨hN, ⟨by simp, kZ, z1, comp, kk⟩, by simp⟩, by simp, by simp only [List.length_replicate]; exact (back32 hn).2, fun v hv => by rw [(List.mem_replicate.mp hv).2]; exact own_fitd _⟩
  have X2 := X'.more (Nat.le_refl _) (Nat.add_le_add_left hcap slots)
  obtain ⟨s₂, o, h1, h2⟩ := k _ T.heap.size (by rw [eT]; exact Nat.le_refl _) A'.lt E' A' ⟨_, kZ, hN, g1, z1, rfl, fun q => by rw [kk] at q; cases q⟩ p e s vm0 k0 m args below meth c _ _ hx hZ hown hby hml hret hlk hnm hc hl X2 rfl N hS (Nat.le_trans hk E'.1)
  exact ⟨s₂, o, st' _ h1, h2⟩
theorem own_newarr {aty : ArrayType} {ty : FieldType} {n : Int32} {cap : Nat} (w : (Jvm.Cond.arrayClass ty).before a0 Z = true) (ht : newarray.typeOf aty = ty) (hd : decode bytes pc = .ok (.newarray aty, 2)) (hp : pc + 2 = pc') (hn : ¬ n < 0) (hcap : n.toNatClampNeg ≤ cap) (hb8 : cap * 8 ≤ 536870912) (hc : cells + 1 ≤ R.cells) (hl : slots + cap ≤ R.slots)
    (k : ∀ (h' : Heap) (a : Addr), h.size ≤ a → a < h'.size → Ext h h' → own_A Z h' a ty (List.replicate n.toNatClampNeg (defaultValue ty)) → own_W l Z y bytes ml ret R n0 Q h' (cells + 1) (slots + cap) pc' Ls (.ref a :: st)) : own_W l Z y bytes ml ret R n0 Q h cells slots pc Ls (.int n :: st) :=
  own_newarrE w ht hd hp hn hcap hb8 hc hl fun h' a q1 q2 q3 q4 _ => k h' a q1 q2 q3 q4
theorem own_cast {idx : Nat} {K : String} {a : Addr} (w : (Jvm.Cond.classLink y.cls idx K).before a0 Z = true) (F : Ins Z h a K true) (hd : decode bytes pc = .ok (.checkcast idx, 3)) (hp : pc + 3 = pc') (k : own_W l Z y bytes ml ret R n0 Q h cells slots pc' Ls (.ref a :: st)) : own_W l Z y bytes ml ret R n0 Q h cells slots pc Ls (.ref a :: st) := by
  intro p e s vm0 k0 m args below meth c T locs hx hZ hown hby hml hret hlk hnm hce hsl X eT N hS hk
  subst hp
  obtain ⟨T', X', e', st'⟩ := castY X hx hZ hown w eT F (g := mkF m pc Ls (.ref a :: st)) rfl rfl (hb hby hd)
  obtain ⟨s₂, o, h1, h2⟩ := k p e s vm0 k0 m args below meth c T' locs hx hZ hown hby hml hret hlk hnm hce hsl X' e' N hS hk
  exact ⟨s₂, o, st' _ h1, h2⟩
theorem own_clone {ad : String} {idx W cap : Nat} {a : Addr} {ty : FieldType} {vs : List Value} (w1 : (Jvm.Cond.methodLink y.cls idx ⟨ad, "clone", "()Ljava/lang/Object;"⟩).before a0 Z = true) (w2 : (Jvm.Cond.sameMethod ad "java/lang/Object" "clone" "()Ljava/lang/Object;").before a0 Z = true) (w3 : (Jvm.Cond.native ⟨"java/lang/Object", "clone", "()Ljava/lang/Object;"⟩).before a0 Z = true)
    (w4 : (Jvm.Cond.instanceMethod ⟨"java/lang/Object", "clone", "()Ljava/lang/Object;"⟩).before a0 Z = true) (w5 : (Jvm.Cond.selects ad ⟨ad, "clone", "()Ljava/lang/Object;"⟩ ⟨"java/lang/Object", "clone", "()Ljava/lang/Object;"⟩).before a0 Z = true) (w6 : (Jvm.Cond.castable ad "java/lang/Cloneable").before a0 Z = true)
    (A : own_A Z h a ty vs) (E : Exa Z h a ad) (hd : decode bytes pc = .ok (.invokevirtual idx, 3)) (hp : pc + 3 = pc') (hsz : Ls.size = ml) (hf : 1 ≤ R.frames) (hW : (st.map fun v => v.category).sum ≤ W) (hl : W + 14 ≤ R.locals) (hcap : vs.length ≤ cap) (hc : cells + 1 ≤ R.cells) (hsl' : slots + cap ≤ R.slots)
    (k : ∀ (h' : Heap) (b : Addr), h.size ≤ b → b < h'.size → Ext h h' → own_A Z h' b ty vs → Exa Z h' b ad → own_W l Z y bytes ml ret R n0 Q h' (cells + 1) (slots + cap) pc' Ls (.ref b :: st)) : own_W l Z y bytes ml ret R n0 Q h cells slots pc Ls (.ref a :: st) := by
  intro p e s vm0 k0 m args below meth c T locs hx hZ hown hby hml hret hlk hnm hce hsl X eT N hS hk
  subst hp
  obtain ⟨cl, A, q, hlen, hft⟩ := A
  have F : FitC Z cl := fun i v hv => by
    obtain ⟨-, k, hk, comp, hkind⟩ := A.2.1
    have e1 : Z.slotType? cl.cls .none i = some ty := by simp [State.slotType?, hk, hkind]
    have mem : v ∈ vs := by rw [← q]; rw [← Array.getElem?_toList] at hv; exact List.mem_of_getElem? hv
    simpa [State.fitsSlot, e1] using hft v mem
  obtain ⟨T', h', X', e', E', A', E2, st'⟩ := cloneA X hx hZ hown w1 w2 w3 w4 w5 w6 eT A E F (g := mkF m pc Ls (.ref a :: st)) rfl (by rw [hml]; exact hsz) rfl (hb hby hd) hf (W := W) (by show 2 * 0 + _ ≤ _; omega) hl (cap := cap) (by rw [own_size q]; exact hcap) hc hsl'
  obtain ⟨s₂, o, h1, h2⟩ := k h' h.size (Nat.le_refl _) A'.lt E' ⟨_, A', q, hlen, hft⟩ E2 p e s vm0 k0 m args below meth c T' locs hx hZ hown hby hml hret hlk hnm hc hsl' X' e' N hS (Nat.le_trans hk E'.1)
  exact ⟨s₂, o, st' _ h1, h2⟩
theorem own_getD {α : Type} (l : List α) (d : α) {i : Nat} (h : i < l.length) : l.getD i d = l[i] := by
  rw [List.getD_eq_getElem?_getD, List.getElem?_eq_getElem h]; rfl
theorem own_len32 {n : Nat} (h : n < 2 ^ 31) : n.toInt32.toNatClampNeg = n ∧ ¬ n.toInt32 < 0 := by
  have e := len_toInt h
  have z : (0 : Int32).toInt = 0 := rfl
  exact ⟨by rw [Int32.toNatClampNeg, e]; rfl, by rw [Int32.lt_iff_toInt_lt, e, z]; omega⟩
theorem own_A.arv {a : Addr} {ty : FieldType} {vs : List Value} (A : own_A Z h a ty vs) (d : Value) : ∃ k, Arv Z h a k ty vs.length.toInt32 vs d := by
  obtain ⟨c, A, q, hl, hft⟩ := A
  have e := own_len32 hl
  refine ⟨c.cls, c, A, rfl, by rw [e.1]; exact own_size q, e.2, fun k hk => ?_, fun k hk => ?_⟩
  · rw [own_size q] at hk
    refine own_get q ?_
    rw [own_getD _ _ hk]; exact List.getElem?_eq_getElem hk
  · rw [own_size q] at hk
    rw [own_getD _ _ hk]; exact hft _ (List.getElem_mem hk)
theorem own_A.ofArv {a : Addr} {ty : FieldType} {vs : List Value} {k : ClassId} {z : Int32} {d : Value} (A : Arv Z h a k ty z vs d) (hz : z.toNatClampNeg = vs.length) (hl : vs.length < 2 ^ 31) : own_A Z h a ty vs := by
  obtain ⟨c, A, -, hs, -, H, G⟩ := A
  have e : c.slots.toList = vs := by
    apply List.ext_getElem?
    intro i
    by_cases hi : i < vs.length
    · rw [Array.getElem?_toList, H i (by omega), own_getD _ _ hi, List.getElem?_eq_getElem hi]
    · rw [List.getElem?_eq_none (by rw [Array.length_toList]; omega), List.getElem?_eq_none (by omega)]
  refine ⟨c, A, e, hl, fun v hv => ?_⟩
  obtain ⟨i, hi, rfl⟩ := List.mem_iff_getElem.mp hv
  have := G i (by omega)
  rwa [own_getD _ _ hi] at this
theorem own_slice (vs : List Value) (d : Value) (p n : Nat) (h : p + n ≤ vs.length) : (vs.drop p).take n = (List.range n).map fun i => vs.getD (p + i) d := by
  apply List.ext_getElem
  · simp; omega
  · intro i h1 h2
    simp only [List.length_map, List.length_range] at h2
    simp [List.getD_eq_getElem?_getD, show p + i < vs.length by omega]
theorem own_acopy {idx W : Nat} {a b : Addr} {ty : FieldType} {vs vd : List Value} {sp dp nn : Int32} (w1 : (Jvm.Cond.methodLink y.cls idx Jvm.Stand.acN).before a0 Z = true) (w2 : (Jvm.Cond.native Jvm.Stand.acN).before a0 Z = true) (w3 : (Jvm.Cond.static Jvm.Stand.acN).before a0 Z = true) (w4 : (Jvm.Cond.initialized "java/lang/System").before a0 Z = true)
    (A : own_A Z h a ty vs) (B : own_A Z h b ty vd) (hty : refKind ty = false) (h1 : ¬ sp < 0) (h2 : ¬ dp < 0) (h3 : ¬ nn < 0) (h4 : sp.toNatClampNeg + nn.toNatClampNeg ≤ vs.length) (h5 : dp.toNatClampNeg + nn.toNatClampNeg ≤ vd.length) (ge : n0 ≤ b)
    (hd : decode bytes pc = .ok (.invokestatic idx, 3)) (hp : pc + 3 = pc') (hsz : Ls.size = ml) (hf : 1 ≤ R.frames) (hW : (st.map fun v => v.category).sum ≤ W) (hlo : W + (nativeFrameWords "java/lang/System" "arraycopy" 5 + 11) ≤ R.locals)
    (k : ∀ h', Keep h h' [b] → own_A Z h' b ty (vd.take dp.toNatClampNeg ++ (vs.drop sp.toNatClampNeg).take nn.toNatClampNeg ++ vd.drop (dp.toNatClampNeg + nn.toNatClampNeg)) → own_W l Z y bytes ml ret R n0 Q h' cells slots pc' Ls st) : own_W l Z y bytes ml ret R n0 Q h cells slots pc Ls (.int nn :: .int dp :: .ref b :: .int sp :: .ref a :: st) := by
  intro p e s vm0 k0 m args below meth c T locs hx hZ hown hby hml hret hlk hnm hce hsl X eT N hS hk
  subst hp
  have hlv : vs.length < 2 ^ 31 := by obtain ⟨_, _, _, q, _⟩ := A; exact q
  have hld : vd.length < 2 ^ 31 := by obtain ⟨_, _, _, q, _⟩ := B; exact q
  obtain ⟨k1, A1⟩ := A.arv .null
  obtain ⟨k2, B1⟩ := B.arv .null
  have e1 := own_len32 hlv
  have e2 := own_len32 hld
  obtain ⟨T', h', L, X', e', N', K', B', st'⟩ := cpA X hx hZ hown w1 w2 w3 w4 eT A1 B1 (Or.inl ⟨rfl, hty⟩) h1 h2 h3 (by rw [e1.1]; exact h4) (by rw [e2.1]; exact h5) (own_slice vs .null _ _ h4) h5 N ge (g := mkF m pc Ls (.int nn :: .int dp :: .ref b :: .int sp :: .ref a :: st)) rfl (by rw [hml]; exact hsz) rfl (hb hby hd) hf (W := W) (by show 2 * 0 + _ ≤ _; omega) hlo
  have hlen : (vd.take dp.toNatClampNeg ++ (vs.drop sp.toNatClampNeg).take nn.toNatClampNeg ++ vd.drop (dp.toNatClampNeg + nn.toNatClampNeg)).length = vd.length := by
    simp only [List.length_append, List.length_take, List.length_drop]; omega
  obtain ⟨s₂, o, q1, q2⟩ := k h' K' (own_A.ofArv B' (by rw [e2.1, hlen]) (by rw [hlen]; exact hld)) p e s vm0 k0 m args below meth c T' L hx hZ hown hby hml hret hlk hnm hce hsl X' e' N' hS (Nat.le_trans hk K'.1)
  exact ⟨s₂, o, st' _ q1, q2⟩
theorem own_ldcS {idx n : Nat} {text : String} (w : (Jvm.Cond.stringLink y.cls idx text).before a0 Z = true) (wS : ∀ d ∈ Bundle.stringAtoms, d.before a0 Z = true) (hd : decode bytes pc = .ok (.ldc idx, 2)) (hp : pc + 2 = pc') (hn : 4 * text.toList.length ≤ n) (hbig : n ≤ 536870912) (hc : cells + 2 ≤ R.cells) (hl : slots + (n + 4) ≤ R.slots)
    (k : ∀ (h' : Heap) (a : Addr), Ext h h' → own_W l Z y bytes ml ret R n0 Q h' (cells + 2) (slots + (n + 4)) pc' Ls (.ref a :: st)) : own_W l Z y bytes ml ret R n0 Q h cells slots pc Ls st := by
  intro p e s vm0 k0 m args below meth c T locs hx hZ hown hby hml hret hlk hnm hce hsl X eT N hS hk
  subst hp
  obtain ⟨a, T', h', k1, X', e', E', hS', hk', hZ', hown', st'⟩ := ldcS X hx hZ hown w wS eT hS hk (g := mkF m pc Ls st) rfl (hb hby hd) hn hbig hc hl
  obtain ⟨s₂, o, h1, h2⟩ := k h' a E' p e s T'.vm k1 m args below meth c T' locs hx hZ' hown' hby hml hret hlk hnm hc hl X' e' N hS' hk'
  exact ⟨s₂, o, st' _ h1, h2⟩
theorem own_met {z : MethodName} {rm : Room} {argsL : List Value} {Lc : Array Slot} (hC : own_W l Z z bytes ml ret rm n0 Q h 0 0 0 Lc []) (pn : plainFor z = true) (hent : Jvm.Sym.laidSlots argsL ++ List.replicate (ml - (Jvm.Sym.laidSlots argsL).length) .unset = Lc.toList) (ws : List Jvm.Cond) :
    MetFree l z (head1 (Jvm.Cond.code z bytes ml ret :: ws) rm) (fun a U => a = argsL.toArray ∧ Z.Warmed39 U.vm ∧ U.heap = h) (fun _ _ _ _ _ => True) (fun _ U o U' => ∃ v L, o = .returned v ∧ (Q v U'.heap ∧ Fr n0 L) ∧ ReturnedEndW U o U' L rm.cells rm.slots) := by
  refine MetFree.of_bodySF pn hisR ?_
  intro p e s m args below meth c s₁ Bd hml0 hP hK
  obtain ⟨rfl, hZ, hh⟩ := hP
  obtain ⟨s₂, o, h1, h2, h3, h4⟩ := hC p e s s.vm 0 m _ below meth c s₁ [] Bd.exec hZ (findClass_of_methodNamed Bd.named) Bd.bytes hml0 Bd.returns Bd.notSynchronized (name_of_methodNamed Bd.named Bd.method).1 (Nat.zero_le _) (Nat.zero_le _) (Stand.of_body Bd) (by rw [← hh, Bd.state]; rfl) (Fr.nil n0) ((State.WarmedH.refl s).since 0) (Nat.zero_le _)
  exact ⟨s₂, o, (XT.entry (by simpa using hent)).trans h1, h2, h3, h4⟩
theorem own_static {z : MethodName} {bytes' : ByteArray} {ml' : Nat} {ret' : Option FieldType} {rm : Room} {Qc : Option Value → Heap → Prop} {Lc : Array Slot} {argsL rest : List Value} {ps : List FieldType} {rt : Option FieldType} {idx W : Nat} (hC : own_W l Z z bytes' ml' ret' rm n0 Qc h 0 0 0 Lc []) (w1 : (Jvm.Cond.methodLink y.cls idx z).before a0 Z = true) (w2 : (Jvm.Cond.static z).before a0 Z = true) (w3 : (Jvm.Cond.initialized z.cls).before a0 Z = true) (w4 : (Jvm.Cond.code z bytes' ml' ret').before a0 Z = true) (pn : plainFor z = true) (hy : z.cls ≠ "java/lang/invoke/MethodHandle" ∧ z.cls ≠ "java/lang/invoke/VarHandle") (pd : parseMethodDescriptor z.desc = some ⟨ps, rt⟩) (hlen : argsL.length = ps.length)
    (hst : st = argsL.reverse ++ rest) (hent : Jvm.Sym.laidSlots argsL ++ List.replicate (ml' - (Jvm.Sym.laidSlots argsL).length) .unset = Lc.toList) (hW : (rest.map fun v => v.category).sum ≤ W) (hfr : rm.frames + 1 ≤ R.frames) (hlo : W + (ml' + 11) + rm.locals ≤ R.locals) (hce' : cells + rm.cells ≤ R.cells) (hsl' : slots + rm.slots ≤ R.slots) (hsz : Ls.size = ml) (hd : decode bytes pc = .ok (.invokestatic idx, 3)) (hp : pc + 3 = pc') (k : ∀ v h', Qc v h' → own_W l Z y bytes ml ret R n0 Q h' (cells + rm.cells) (slots + rm.slots) pc' Ls (v.toList ++ rest)) : own_W l Z y bytes ml ret R n0 Q h cells slots pc Ls st := by
  intro p e s vm0 k0 m args below meth c T locs hx hZ hown hby hml hret hlk hnm hce hsl X eT N hS hk
  subst hp
  obtain ⟨v, vm₁, ⟨T1, L1, k1, n1⟩, -, X1, hS1, hg1, ⟨Lc1, hQ1, l1, y1, z1⟩, st1⟩ := callSS X hx (y := z) hown (mvT hZ w1) (mvT hZ w2) (mvT hZ w3) (mvT hZ w4) hy (backOfS (W := W) (Q := fun v h L => Qc v h ∧ Fr n0 L) (own_met hC pn hent []) hZ w4 w3 hfr hlo) (g := mkF m pc Ls st) rfl (by rw [hml]; exact hsz) (argsL := argsL) (rest := rest) (lenOf pd hlen) hst (by show 2 * 0 + _ ≤ _; omega) (hb hby hd) (fun _ _ => ⟨rfl, eT, hce', hsl'⟩)
  dsimp only [Pt.U, Pt.locs, Pt.cells, Pt.slots] at X1 l1 y1 z1 st1 hQ1 hS1 hg1
  subst l1 y1 z1
  obtain ⟨X2, hS2, hZ2, hown2⟩ := rebS hS (show k0 ≤ T.heap.size by rw [eT]; exact hk) X1 hS1 hg1 hZ hown
  obtain ⟨s₂, o, h1, h2⟩ := k v T1.heap hQ1.1 p e s T1.vm T1.heap.size m args below meth c T1 _ hx hZ2 hown2 hby hml hret hlk hnm hce' hsl' X2 rfl (Fr.app N hQ1.2) hS2 (Nat.le_refl _)
  exact ⟨s₂, o, st1.trans h1, h2⟩
theorem own_special {z : MethodName} {bytes' : ByteArray} {ml' : Nat} {ret' : Option FieldType} {rm : Room} {Qc : Option Value → Heap → Prop} {Lc : Array Slot} {argsL rest : List Value} {ps : List FieldType} {rt : Option FieldType} {idx W : Nat} {a : Addr} (hC : own_W l Z z bytes' ml' none rm n0 Qc h 0 0 0 Lc []) (w1 : (Jvm.Cond.methodLink y.cls idx z).before a0 Z = true) (w2 : (Jvm.Cond.instanceMethod z).before a0 Z = true) (w3 : (Jvm.Cond.initialized z.cls).before a0 Z = true) (w4 : (Jvm.Cond.code z bytes' ml' none).before a0 Z = true) (hzn : z.name = "<init>") (pn : plainFor z = true) (hy : z.cls ≠ "java/lang/invoke/MethodHandle" ∧ z.cls ≠ "java/lang/invoke/VarHandle") (pd : parseMethodDescriptor z.desc = some ⟨ps, rt⟩) (hlen : argsL.length = ps.length)
    (hst : st = argsL.reverse ++ .ref a :: rest) (hent : Jvm.Sym.laidSlots (.ref a :: argsL) ++ List.replicate (ml' - (Jvm.Sym.laidSlots (.ref a :: argsL)).length) .unset = Lc.toList) (hW : (rest.map fun v => v.category).sum ≤ W) (hfr : rm.frames + 1 ≤ R.frames) (hlo : W + (ml' + 11) + rm.locals ≤ R.locals) (hce' : cells + rm.cells ≤ R.cells) (hsl' : slots + rm.slots ≤ R.slots) (hsz : Ls.size = ml) (hd : decode bytes pc = .ok (.invokespecial idx, 3)) (hp : pc + 3 = pc') (k : ∀ v h', Qc v h' → own_W l Z y bytes ml ret R n0 Q h' (cells + rm.cells) (slots + rm.slots) pc' Ls (v.toList ++ rest)) : own_W l Z y bytes ml ret R n0 Q h cells slots pc Ls st := by
  intro p e s vm0 k0 m args below meth c T locs hx hZ hown hby hml hret hlk hnm hce hsl X eT N hS hk
  subst hp
  obtain ⟨v, vm₁, ⟨T1, L1, k1, n1⟩, -, X1, hS1, hg1, ⟨Lc1, hQ1, l1, y1, z1⟩, st1⟩ := X.specialBackS hx (y := z) hzn hown (mvT hZ w1) (mvT hZ w2) (mvT hZ w4) hy (backOfS (W := W) (Q := fun v h L => Qc v h ∧ Fr n0 L) (own_met hC pn hent []) hZ w4 w3 hfr hlo) (g := mkF m pc Ls st) rfl (by rw [hml]; exact hsz) (Steps.refl _) (a := a) (argsL := argsL) (rest := rest) (lenOf pd hlen) hst (by show 2 * 0 + _ ≤ _; omega) (hb hby hd) (fun _ _ => ⟨rfl, eT, hce', hsl'⟩)
  dsimp only [Pt.U, Pt.locs, Pt.cells, Pt.slots] at X1 l1 y1 z1 st1 hQ1 hS1 hg1
  subst l1 y1 z1
  obtain ⟨X2, hS2, hZ2, hown2⟩ := rebS hS (show k0 ≤ T.heap.size by rw [eT]; exact hk) X1 hS1 hg1 hZ hown
  obtain ⟨s₂, o, h1, h2⟩ := k v T1.heap hQ1.1 p e s T1.vm T1.heap.size m args below meth c T1 _ hx hZ2 hown2 hby hml hret hlk hnm hce' hsl' X2 rfl (Fr.app N hQ1.2) hS2 (Nat.le_refl _)
  exact ⟨s₂, o, st1.trans h1, h2⟩
theorem own_virtual {z : MethodName} {bytes' : ByteArray} {ml' : Nat} {ret' : Option FieldType} {rm : Room} {Qc : Option Value → Heap → Prop} {Lc : Array Slot} {argsL rest : List Value} {ps : List FieldType} {rt : Option FieldType} {idx W : Nat} {a : Addr} {C : String} (hC : own_W l Z z bytes' ml' ret' rm n0 Qc h 0 0 0 Lc []) (E : Exa Z h a C) (w1 : (Jvm.Cond.methodLink y.cls idx z).before a0 Z = true) (w2 : (Jvm.Cond.declares z).before a0 Z = true) (w5 : (Jvm.Cond.selects C z z).before a0 Z = true) (w6 : (Jvm.Cond.instanceMethod z).before a0 Z = true) (w3 : (Jvm.Cond.initialized z.cls).before a0 Z = true) (w4 : (Jvm.Cond.code z bytes' ml' ret').before a0 Z = true) (pn : plainFor z = true) (hy : z.cls ≠ "java/lang/invoke/MethodHandle" ∧ z.cls ≠ "java/lang/invoke/VarHandle") (pd : parseMethodDescriptor z.desc = some ⟨ps, rt⟩) (hlen : argsL.length = ps.length)
    (hst : st = argsL.reverse ++ .ref a :: rest) (hent : Jvm.Sym.laidSlots (.ref a :: argsL) ++ List.replicate (ml' - (Jvm.Sym.laidSlots (.ref a :: argsL)).length) .unset = Lc.toList) (hW : (rest.map fun v => v.category).sum ≤ W) (hfr : rm.frames + 1 ≤ R.frames) (hlo : W + (ml' + 11) + rm.locals ≤ R.locals) (hce' : cells + rm.cells ≤ R.cells) (hsl' : slots + rm.slots ≤ R.slots) (hsz : Ls.size = ml) (hd : decode bytes pc = .ok (.invokevirtual idx, 3)) (hp : pc + 3 = pc') (k : ∀ v h', Qc v h' → own_W l Z y bytes ml ret R n0 Q h' (cells + rm.cells) (slots + rm.slots) pc' Ls (v.toList ++ rest)) : own_W l Z y bytes ml ret R n0 Q h cells slots pc Ls st := by
  intro p e s vm0 k0 m args below meth c T locs hx hZ hown hby hml hret hlk hnm hce hsl X eT N hS hk
  subst hp
  obtain ⟨cq, kq, qa, qb, qc⟩ := isOf hZ eT E
  obtain ⟨v, vm₁, ⟨T1, L1, k1, n1⟩, -, X1, hS1, hg1, ⟨Lc1, hQ1, l1, y1, z1⟩, st1⟩ := X.virtualBackS hx (y := z) (z := z) hown (mvT hZ w1) (mvT hZ w2) (notFace_of_selects (args := #[]) (mvT hZ w5)) (mvT hZ w5) (mvT hZ w6) hy (backOfS (W := W) (Q := fun v h L => Qc v h ∧ Fr n0 L) (own_met hC pn hent []) hZ w4 w3 hfr hlo) qa qc (g := mkF m pc Ls st) rfl (by rw [hml]; exact hsz) (Steps.refl _) (argsL := argsL) (rest := rest) (lenOf pd hlen) hst (by show 2 * 0 + _ ≤ _; omega) (hb hby hd) (fun _ _ => ⟨rfl, eT, hce', hsl'⟩)
  dsimp only [Pt.U, Pt.locs, Pt.cells, Pt.slots] at X1 l1 y1 z1 st1 hQ1 hS1 hg1
  subst l1 y1 z1
  obtain ⟨X2, hS2, hZ2, hown2⟩ := rebS hS (show k0 ≤ T.heap.size by rw [eT]; exact hk) X1 hS1 hg1 hZ hown
  obtain ⟨s₂, o, h1, h2⟩ := k v T1.heap hQ1.1 p e s T1.vm T1.heap.size m args below meth c T1 _ hx hZ2 hown2 hby hml hret hlk hnm hce' hsl' X2 rfl (Fr.app N hQ1.2) hS2 (Nat.le_refl _)
  exact ⟨s₂, o, st1.trans h1, h2⟩
theorem own_private {z : MethodName} {bytes' : ByteArray} {ml' : Nat} {ret' : Option FieldType} {rm : Room} {Qc : Option Value → Heap → Prop} {Lc : Array Slot} {argsL rest : List Value} {ps : List FieldType} {rt : Option FieldType} {idx W : Nat} {a : Addr} {C : String} {kk : Nat} (hC : own_W l Z z bytes' ml' ret' rm n0 Qc h 0 0 0 Lc []) (E : Exa Z h a C) (w1 : (Jvm.Cond.methodLink y.cls idx z).before a0 Z = true) (w6 : (Jvm.Cond.instanceMethod z).before a0 Z = true) (wp : (Jvm.Cond.privateMethod z).before a0 Z = true) (wi : (Jvm.Cond.instantiable z.cls kk).before a0 Z = true) (w3 : (Jvm.Cond.initialized z.cls).before a0 Z = true) (w4 : (Jvm.Cond.code z bytes' ml' ret').before a0 Z = true) (pn : plainFor z = true) (hy : z.cls ≠ "java/lang/invoke/MethodHandle" ∧ z.cls ≠ "java/lang/invoke/VarHandle") (pd : parseMethodDescriptor z.desc = some ⟨ps, rt⟩) (hlen : argsL.length = ps.length)
    (hst : st = argsL.reverse ++ .ref a :: rest) (hent : Jvm.Sym.laidSlots (.ref a :: argsL) ++ List.replicate (ml' - (Jvm.Sym.laidSlots (.ref a :: argsL)).length) .unset = Lc.toList) (hW : (rest.map fun v => v.category).sum ≤ W) (hfr : rm.frames + 1 ≤ R.frames) (hlo : W + (ml' + 11) + rm.locals ≤ R.locals) (hce' : cells + rm.cells ≤ R.cells) (hsl' : slots + rm.slots ≤ R.slots) (hsz : Ls.size = ml) (hd : decode bytes pc = .ok (.invokevirtual idx, 3)) (hp : pc + 3 = pc') (k : ∀ v h', Qc v h' → own_W l Z y bytes ml ret R n0 Q h' (cells + rm.cells) (slots + rm.slots) pc' Ls (v.toList ++ rest)) : own_W l Z y bytes ml ret R n0 Q h cells slots pc Ls st := by
  intro p e s vm0 k0 m args below meth c T locs hx hZ hown hby hml hret hlk hnm hce hsl X eT N hS hk
  subst hp
  obtain ⟨c2, k2, i1, i2, i3, i4, -⟩ := Cond.instantiable_spec (mvT (args := args) hZ wi)
  have hpr := Cond.privateMethod_at (mvP (args := #[]) hZ wp)
  have hsel := Jvm.Stand.selects_self_of_private (args := args) i1 i2 (Bool.or_eq_false_iff.mp i4).1 hpr (mvT hZ w6) hy
  obtain ⟨cell, qc, qo⟩ := E.cell
  obtain ⟨v, vm₁, ⟨T1, L1, k1, n1⟩, -, X1, hS1, hg1, ⟨Lc1, hQ1, l1, y1, z1⟩, st1⟩ := X.privateBackS hx (y := z) hown (mvT hZ w1) (mvT hZ w6) hsel hpr (mvT hZ w4) hy (backOfS (W := W) (Q := fun v h L => Qc v h ∧ Fr n0 L) (own_met hC pn hent []) hZ w4 w3 hfr hlo) (g := mkF m pc Ls st) rfl (by rw [hml]; exact hsz) (Steps.refl _) (a := a) (by rw [eT]; exact qc) qo (argsL := argsL) (rest := rest) (lenOf pd hlen) hst (by show 2 * 0 + _ ≤ _; omega) (hb hby hd) (fun _ _ => ⟨rfl, eT, hce', hsl'⟩)
  dsimp only [Pt.U, Pt.locs, Pt.cells, Pt.slots] at X1 l1 y1 z1 st1 hQ1 hS1 hg1
  subst l1 y1 z1
  obtain ⟨X2, hS2, hZ2, hown2⟩ := rebS hS (show k0 ≤ T.heap.size by rw [eT]; exact hk) X1 hS1 hg1 hZ hown
  obtain ⟨s₂, o, h1, h2⟩ := k v T1.heap hQ1.1 p e s T1.vm T1.heap.size m args below meth c T1 _ hx hZ2 hown2 hby hml hret hlk hnm hce' hsl' X2 rfl (Fr.app N hQ1.2) hS2 (Nat.le_refl _)
  exact ⟨s₂, o, st1.trans h1, h2⟩
end OwnW
-- LAYER END
theorem d1_0 : decode prog_2_method_2_code 0 = .ok (.aload_n 0, 1) := by decide +kernel
theorem d1_1 : decode prog_2_method_2_code 1 = .ok (.invokespecial 17, 3) := by decide +kernel
theorem d1_4 : decode prog_2_method_2_code 4 = .ok (.aload_n 0, 1) := by decide +kernel
theorem d1_5 : decode prog_2_method_2_code 5 = .ok (.aload_n 1, 1) := by decide +kernel
theorem d1_6 : decode prog_2_method_2_code 6 = .ok (.ldc 1, 2) := by decide +kernel
theorem d1_8 : decode prog_2_method_2_code 8 = .ok (.invokestatic 3, 3) := by decide +kernel
theorem d1_11 : decode prog_2_method_2_code 11 = .ok (.checkcast 9, 3) := by decide +kernel
theorem d1_14 : decode prog_2_method_2_code 14 = .ok (.putfield 22, 3) := by decide +kernel
theorem d1_17 : decode prog_2_method_2_code 17 = .ok (.iload_n 2, 1) := by decide +kernel
theorem d1_18 : decode prog_2_method_2_code 18 = .ok (.ifCond .lt 9, 3) := by decide +kernel
theorem d1_21 : decode prog_2_method_2_code 21 = .ok (.iload_n 2, 1) := by decide +kernel
theorem d1_22 : decode prog_2_method_2_code 22 = .ok (.aload_n 1, 1) := by decide +kernel
theorem d1_23 : decode prog_2_method_2_code 23 = .ok (.arraylength, 1) := by decide +kernel
theorem d1_24 : decode prog_2_method_2_code 24 = .ok (.if_icmp .le 19, 3) := by decide +kernel
theorem d1_27 : decode prog_2_method_2_code 27 = .ok (.new 24, 3) := by decide +kernel
theorem d1_30 : decode prog_2_method_2_code 30 = .ok (.dup, 1) := by decide +kernel
theorem d1_31 : decode prog_2_method_2_code 31 = .ok (.aload_n 1, 1) := by decide +kernel
theorem d1_32 : decode prog_2_method_2_code 32 = .ok (.arraylength, 1) := by decide +kernel
theorem d1_33 : decode prog_2_method_2_code 33 = .ok (.iload_n 2, 1) := by decide +kernel
theorem d1_34 : decode prog_2_method_2_code 34 = .ok (.invokedynamic 26, 5) := by decide +kernel
theorem d1_39 : decode prog_2_method_2_code 39 = .ok (.invokespecial 30, 3) := by decide +kernel
theorem d1_42 : decode prog_2_method_2_code 42 = .ok (.athrow, 1) := by decide +kernel
theorem d1_43 : decode prog_2_method_2_code 43 = .ok (.iload_n 3, 1) := by decide +kernel
theorem d1_44 : decode prog_2_method_2_code 44 = .ok (.ifCond .ge 17, 3) := by decide +kernel
theorem d1_47 : decode prog_2_method_2_code 47 = .ok (.new 24, 3) := by decide +kernel
theorem d1_50 : decode prog_2_method_2_code 50 = .ok (.dup, 1) := by decide +kernel
theorem d1_51 : decode prog_2_method_2_code 51 = .ok (.iload_n 3, 1) := by decide +kernel
theorem d1_52 : decode prog_2_method_2_code 52 = .ok (.invokedynamic 33, 5) := by decide +kernel
theorem d1_57 : decode prog_2_method_2_code 57 = .ok (.invokespecial 30, 3) := by decide +kernel
theorem d1_60 : decode prog_2_method_2_code 60 = .ok (.athrow, 1) := by decide +kernel
theorem d1_61 : decode prog_2_method_2_code 61 = .ok (.iload_n 2, 1) := by decide +kernel
theorem d1_62 : decode prog_2_method_2_code 62 = .ok (.iload_n 3, 1) := by decide +kernel
theorem d1_63 : decode prog_2_method_2_code 63 = .ok (.iadd, 1) := by decide +kernel
theorem d1_64 : decode prog_2_method_2_code 64 = .ok (.ifCond .ge 18, 3) := by decide +kernel
theorem d1_67 : decode prog_2_method_2_code 67 = .ok (.new 24, 3) := by decide +kernel
theorem d1_70 : decode prog_2_method_2_code 70 = .ok (.dup, 1) := by decide +kernel
theorem d1_71 : decode prog_2_method_2_code 71 = .ok (.iload_n 2, 1) := by decide +kernel
theorem d1_72 : decode prog_2_method_2_code 72 = .ok (.iload_n 3, 1) := by decide +kernel
theorem d1_73 : decode prog_2_method_2_code 73 = .ok (.invokedynamic 36, 5) := by decide +kernel
theorem d1_78 : decode prog_2_method_2_code 78 = .ok (.invokespecial 30, 3) := by decide +kernel
theorem d1_81 : decode prog_2_method_2_code 81 = .ok (.athrow, 1) := by decide +kernel
theorem d1_82 : decode prog_2_method_2_code 82 = .ok (.aload_n 0, 1) := by decide +kernel
theorem d1_83 : decode prog_2_method_2_code 83 = .ok (.iload_n 2, 1) := by decide +kernel
theorem d1_84 : decode prog_2_method_2_code 84 = .ok (.putfield 37, 3) := by decide +kernel
theorem d1_87 : decode prog_2_method_2_code 87 = .ok (.aload_n 0, 1) := by decide +kernel
theorem d1_88 : decode prog_2_method_2_code 88 = .ok (.iload_n 2, 1) := by decide +kernel
theorem d1_89 : decode prog_2_method_2_code 89 = .ok (.iload_n 3, 1) := by decide +kernel
theorem d1_90 : decode prog_2_method_2_code 90 = .ok (.iadd, 1) := by decide +kernel
theorem d1_91 : decode prog_2_method_2_code 91 = .ok (.aload_n 1, 1) := by decide +kernel
theorem d1_92 : decode prog_2_method_2_code 92 = .ok (.arraylength, 1) := by decide +kernel
theorem d1_93 : decode prog_2_method_2_code 93 = .ok (.invokestatic 41, 3) := by decide +kernel
theorem d1_96 : decode prog_2_method_2_code 96 = .ok (.putfield 47, 3) := by decide +kernel
theorem d1_99 : decode prog_2_method_2_code 99 = .ok (.aload_n 0, 1) := by decide +kernel
theorem d1_100 : decode prog_2_method_2_code 100 = .ok (.iload_n 2, 1) := by decide +kernel
theorem d1_101 : decode prog_2_method_2_code 101 = .ok (.putfield 50, 3) := by decide +kernel
theorem d1_104 : decode prog_2_method_2_code 104 = .ok (.return_, 1) := by decide +kernel
theorem d2_0 : decode jdk_2043_method_2_code 0 = .ok (.aload_n 0, 1) := by decide +kernel
theorem d2_1 : decode jdk_2043_method_2_code 1 = .ok (.invokespecial 7, 3) := by decide +kernel
theorem d2_4 : decode jdk_2043_method_2_code 4 = .ok (.aload_n 0, 1) := by decide +kernel
theorem d2_5 : decode jdk_2043_method_2_code 5 = .ok (.aconst_null, 1) := by decide +kernel
theorem d2_6 : decode jdk_2043_method_2_code 6 = .ok (.putfield 10, 3) := by decide +kernel
theorem d2_9 : decode jdk_2043_method_2_code 9 = .ok (.aload_n 0, 1) := by decide +kernel
theorem d2_10 : decode jdk_2043_method_2_code 10 = .ok (.aload_n 0, 1) := by decide +kernel
theorem d2_11 : decode jdk_2043_method_2_code 11 = .ok (.putfield 16, 3) := by decide +kernel
theorem d2_14 : decode jdk_2043_method_2_code 14 = .ok (.return_, 1) := by decide +kernel
theorem d3_0 : decode object_method_1_code 0 = .ok (.return_, 1) := by decide +kernel
theorem d4_0 : decode jdk_31_method_11_code 0 = .ok (.aload_n 0, 1) := by decide +kernel
theorem d4_1 : decode jdk_31_method_11_code 1 = .ok (.ifnonnull 12, 3) := by decide +kernel
theorem d4_4 : decode jdk_31_method_11_code 4 = .ok (.new 84, 3) := by decide +kernel
theorem d4_7 : decode jdk_31_method_11_code 7 = .ok (.dup, 1) := by decide +kernel
theorem d4_8 : decode jdk_31_method_11_code 8 = .ok (.aload_n 1, 1) := by decide +kernel
theorem d4_9 : decode jdk_31_method_11_code 9 = .ok (.invokespecial 87, 3) := by decide +kernel
theorem d4_12 : decode jdk_31_method_11_code 12 = .ok (.athrow, 1) := by decide +kernel
theorem d4_13 : decode jdk_31_method_11_code 13 = .ok (.aload_n 0, 1) := by decide +kernel
theorem d4_14 : decode jdk_31_method_11_code 14 = .ok (.areturn, 1) := by decide +kernel
theorem d5_0 : decode jdk_29_method_69_code 0 = .ok (.iload_n 0, 1) := by decide +kernel
theorem d5_1 : decode jdk_29_method_69_code 1 = .ok (.iload_n 1, 1) := by decide +kernel
theorem d5_2 : decode jdk_29_method_69_code 2 = .ok (.if_icmp .gt 7, 3) := by decide +kernel
theorem d5_5 : decode jdk_29_method_69_code 5 = .ok (.iload_n 0, 1) := by decide +kernel
theorem d5_6 : decode jdk_29_method_69_code 6 = .ok (.goto 4, 3) := by decide +kernel
theorem d5_9 : decode jdk_29_method_69_code 9 = .ok (.iload_n 1, 1) := by decide +kernel
theorem d5_10 : decode jdk_29_method_69_code 10 = .ok (.ireturn, 1) := by decide +kernel
theorem d6_0 : decode prog_2_method_6_code 0 = .ok (.aload_n 0, 1) := by decide +kernel
theorem d6_1 : decode prog_2_method_6_code 1 = .ok (.invokevirtual 53, 3) := by decide +kernel
theorem d6_4 : decode prog_2_method_6_code 4 = .ok (.aload_n 0, 1) := by decide +kernel
theorem d6_5 : decode prog_2_method_6_code 5 = .ok (.getfield 37, 3) := by decide +kernel
theorem d6_8 : decode prog_2_method_6_code 8 = .ok (.aload_n 0, 1) := by decide +kernel
theorem d6_9 : decode prog_2_method_6_code 9 = .ok (.getfield 47, 3) := by decide +kernel
theorem d6_12 : decode prog_2_method_6_code 12 = .ok (.if_icmp .ge 7, 3) := by decide +kernel
theorem d6_15 : decode prog_2_method_6_code 15 = .ok (.iconst 1, 1) := by decide +kernel
theorem d6_16 : decode prog_2_method_6_code 16 = .ok (.goto 4, 3) := by decide +kernel
theorem d6_19 : decode prog_2_method_6_code 19 = .ok (.iconst 0, 1) := by decide +kernel
theorem d6_20 : decode prog_2_method_6_code 20 = .ok (.ireturn, 1) := by decide +kernel
theorem d7_0 : decode prog_2_method_11_code 0 = .ok (.aload_n 0, 1) := by decide +kernel
theorem d7_1 : decode prog_2_method_11_code 1 = .ok (.getfield 22, 3) := by decide +kernel
theorem d7_4 : decode prog_2_method_11_code 4 = .ok (.ifnonnull 13, 3) := by decide +kernel
theorem d7_7 : decode prog_2_method_11_code 7 = .ok (.new 72, 3) := by decide +kernel
theorem d7_10 : decode prog_2_method_11_code 10 = .ok (.dup, 1) := by decide +kernel
theorem d7_11 : decode prog_2_method_11_code 11 = .ok (.ldc 74, 2) := by decide +kernel
theorem d7_13 : decode prog_2_method_11_code 13 = .ok (.invokespecial 76, 3) := by decide +kernel
theorem d7_16 : decode prog_2_method_11_code 16 = .ok (.athrow, 1) := by decide +kernel
theorem d7_17 : decode prog_2_method_11_code 17 = .ok (.return_, 1) := by decide +kernel
theorem d8_0 : decode prog_2_method_5_code 0 = .ok (.aload_n 0, 1) := by decide +kernel
theorem d8_1 : decode prog_2_method_5_code 1 = .ok (.invokevirtual 53, 3) := by decide +kernel
theorem d8_4 : decode prog_2_method_5_code 4 = .ok (.lload_n 1, 1) := by decide +kernel
theorem d8_5 : decode prog_2_method_5_code 5 = .ok (.lconst 0, 1) := by decide +kernel
theorem d8_6 : decode prog_2_method_5_code 6 = .ok (.invokestatic 66, 3) := by decide +kernel
theorem d8_9 : decode prog_2_method_5_code 9 = .ok (.aload_n 0, 1) := by decide +kernel
theorem d8_10 : decode prog_2_method_5_code 10 = .ok (.getfield 47, 3) := by decide +kernel
theorem d8_13 : decode prog_2_method_5_code 13 = .ok (.aload_n 0, 1) := by decide +kernel
theorem d8_14 : decode prog_2_method_5_code 14 = .ok (.getfield 37, 3) := by decide +kernel
theorem d8_17 : decode prog_2_method_5_code 17 = .ok (.isub, 1) := by decide +kernel
theorem d8_18 : decode prog_2_method_5_code 18 = .ok (.i2l, 1) := by decide +kernel
theorem d8_19 : decode prog_2_method_5_code 19 = .ok (.invokestatic 70, 3) := by decide +kernel
theorem d8_22 : decode prog_2_method_5_code 22 = .ok (.l2i, 1) := by decide +kernel
theorem d8_23 : decode prog_2_method_5_code 23 = .ok (.istore_n 3, 1) := by decide +kernel
theorem d8_24 : decode prog_2_method_5_code 24 = .ok (.aload_n 0, 1) := by decide +kernel
theorem d8_25 : decode prog_2_method_5_code 25 = .ok (.dup, 1) := by decide +kernel
theorem d8_26 : decode prog_2_method_5_code 26 = .ok (.getfield 37, 3) := by decide +kernel
theorem d8_29 : decode prog_2_method_5_code 29 = .ok (.iload_n 3, 1) := by decide +kernel
theorem d8_30 : decode prog_2_method_5_code 30 = .ok (.iadd, 1) := by decide +kernel
theorem d8_31 : decode prog_2_method_5_code 31 = .ok (.putfield 37, 3) := by decide +kernel
theorem d8_34 : decode prog_2_method_5_code 34 = .ok (.iload_n 3, 1) := by decide +kernel
theorem d8_35 : decode prog_2_method_5_code 35 = .ok (.i2l, 1) := by decide +kernel
theorem d8_36 : decode prog_2_method_5_code 36 = .ok (.lreturn, 1) := by decide +kernel
theorem d9_0 : decode jdk_29_method_66_code 0 = .ok (.lload_n 0, 1) := by decide +kernel
theorem d9_1 : decode jdk_29_method_66_code 1 = .ok (.lload_n 2, 1) := by decide +kernel
theorem d9_2 : decode jdk_29_method_66_code 2 = .ok (.lcmp, 1) := by decide +kernel
theorem d9_3 : decode jdk_29_method_66_code 3 = .ok (.ifCond .lt 7, 3) := by decide +kernel
theorem d9_6 : decode jdk_29_method_66_code 6 = .ok (.lload_n 0, 1) := by decide +kernel
theorem d9_7 : decode jdk_29_method_66_code 7 = .ok (.goto 4, 3) := by decide +kernel
theorem d9_10 : decode jdk_29_method_66_code 10 = .ok (.lload_n 2, 1) := by decide +kernel
theorem d9_11 : decode jdk_29_method_66_code 11 = .ok (.lreturn, 1) := by decide +kernel
theorem d10_0 : decode jdk_29_method_70_code 0 = .ok (.lload_n 0, 1) := by decide +kernel
theorem d10_1 : decode jdk_29_method_70_code 1 = .ok (.lload_n 2, 1) := by decide +kernel
theorem d10_2 : decode jdk_29_method_70_code 2 = .ok (.lcmp, 1) := by decide +kernel
theorem d10_3 : decode jdk_29_method_70_code 3 = .ok (.ifCond .gt 7, 3) := by decide +kernel
theorem d10_6 : decode jdk_29_method_70_code 6 = .ok (.lload_n 0, 1) := by decide +kernel
theorem d10_7 : decode jdk_29_method_70_code 7 = .ok (.goto 4, 3) := by decide +kernel
theorem d10_10 : decode jdk_29_method_70_code 10 = .ok (.lload_n 2, 1) := by decide +kernel
theorem d10_11 : decode jdk_29_method_70_code 11 = .ok (.lreturn, 1) := by decide +kernel
theorem d11_0 : decode prog_2_method_3_code 0 = .ok (.aload_n 0, 1) := by decide +kernel
theorem d11_1 : decode prog_2_method_3_code 1 = .ok (.invokevirtual 53, 3) := by decide +kernel
theorem d11_4 : decode prog_2_method_3_code 4 = .ok (.aload_n 0, 1) := by decide +kernel
theorem d11_5 : decode prog_2_method_3_code 5 = .ok (.getfield 37, 3) := by decide +kernel
theorem d11_8 : decode prog_2_method_3_code 8 = .ok (.aload_n 0, 1) := by decide +kernel
theorem d11_9 : decode prog_2_method_3_code 9 = .ok (.getfield 47, 3) := by decide +kernel
theorem d11_12 : decode prog_2_method_3_code 12 = .ok (.if_icmp .ge 22, 3) := by decide +kernel
theorem d11_15 : decode prog_2_method_3_code 15 = .ok (.aload_n 0, 1) := by decide +kernel
theorem d11_16 : decode prog_2_method_3_code 16 = .ok (.getfield 22, 3) := by decide +kernel
theorem d11_19 : decode prog_2_method_3_code 19 = .ok (.aload_n 0, 1) := by decide +kernel
theorem d11_20 : decode prog_2_method_3_code 20 = .ok (.dup, 1) := by decide +kernel
theorem d11_21 : decode prog_2_method_3_code 21 = .ok (.getfield 37, 3) := by decide +kernel
theorem d11_24 : decode prog_2_method_3_code 24 = .ok (.dup_x1, 1) := by decide +kernel
theorem d11_25 : decode prog_2_method_3_code 25 = .ok (.iconst 1, 1) := by decide +kernel
theorem d11_26 : decode prog_2_method_3_code 26 = .ok (.iadd, 1) := by decide +kernel
theorem d11_27 : decode prog_2_method_3_code 27 = .ok (.putfield 37, 3) := by decide +kernel
theorem d11_30 : decode prog_2_method_3_code 30 = .ok (.caload, 1) := by decide +kernel
theorem d11_31 : decode prog_2_method_3_code 31 = .ok (.goto 4, 3) := by decide +kernel
theorem d11_34 : decode prog_2_method_3_code 34 = .ok (.iconst (-1), 1) := by decide +kernel
theorem d11_35 : decode prog_2_method_3_code 35 = .ok (.ireturn, 1) := by decide +kernel
theorem d12_0 : decode prog_2_method_9_code 0 = .ok (.aload_n 0, 1) := by decide +kernel
theorem d12_1 : decode prog_2_method_9_code 1 = .ok (.invokevirtual 53, 3) := by decide +kernel
theorem d12_4 : decode prog_2_method_9_code 4 = .ok (.aload_n 0, 1) := by decide +kernel
theorem d12_5 : decode prog_2_method_9_code 5 = .ok (.aload_n 0, 1) := by decide +kernel
theorem d12_6 : decode prog_2_method_9_code 6 = .ok (.getfield 50, 3) := by decide +kernel
theorem d12_9 : decode prog_2_method_9_code 9 = .ok (.putfield 37, 3) := by decide +kernel
theorem d12_12 : decode prog_2_method_9_code 12 = .ok (.return_, 1) := by decide +kernel
theorem own_wS (Z : State) (a0 : Array Value) (hw : ∀ d ∈ tables_1, d.before a0 Z = true) : ∀ d ∈ Bundle.stringAtoms, d.before a0 Z = true := by
  intro d hd
  simp only [Bundle.stringAtoms, List.mem_cons, List.not_mem_nil, or_false] at hd
  rcases hd with rfl | rfl | rfl | rfl | rfl | rfl | rfl
  all_goals first | exact (hw _ (List.mem_of_getElem? (i := 21) rfl)) | exact (hw _ (List.mem_of_getElem? (i := 22) rfl)) | exact (hw _ (List.mem_of_getElem? (i := 23) rfl)) | exact (hw _ (List.mem_of_getElem? (i := 24) rfl)) | exact (hw _ (List.mem_of_getElem? (i := 25) rfl)) | exact (hw _ (List.mem_of_getElem? (i := 26) rfl)) | exact (hw _ (List.mem_of_getElem? (i := 27) rfl))
theorem own_pn0 : plainName "charwell/array/ArrayCharReaderReadyPinLaw" = true := by decide +kernel
theorem own_pn1 : plainName "charwell/array/ArrayCharReader" = true := by decide +kernel
theorem own_pn2 : plainName "java/io/Reader" = true := by decide +kernel
theorem own_pn4 : plainName "java/util/Objects" = true := by decide +kernel
theorem own_pd0 : parseMethodDescriptor "(IIJ)Z" = some ⟨[.int, .int, .long], (some .boolean)⟩ := by decide +kernel
theorem own_pd1 : parseMethodDescriptor "([CII)V" = some ⟨[(.array .char), .int, .int], none⟩ := by decide +kernel
theorem own_pd2 : parseMethodDescriptor "()V" = some ⟨[], none⟩ := by decide +kernel
theorem own_pd3 : parseMethodDescriptor "(Ljava/lang/Object;Ljava/lang/String;)Ljava/lang/Object;" = some ⟨[(.object "java/lang/Object"), (.object "java/lang/String")], (some (.object "java/lang/Object"))⟩ := by decide +kernel
theorem own_pd4 : parseMethodDescriptor "(II)I" = some ⟨[.int, .int], (some .int)⟩ := by decide +kernel
theorem own_pd5 : parseMethodDescriptor "()Z" = some ⟨[], (some .boolean)⟩ := by decide +kernel
theorem own_pd6 : parseMethodDescriptor "(J)J" = some ⟨[.long], (some .long)⟩ := by decide +kernel
theorem own_pd7 : parseMethodDescriptor "(JJ)J" = some ⟨[.long, .long], (some .long)⟩ := by decide +kernel
theorem own_pd8 : parseMethodDescriptor "()I" = some ⟨[], (some .int)⟩ := by decide +kernel
def own_min (f g : Int32) : Int32 := if g < f then g else f
def own_at (xs : List Int32) (p : Int32) : Int32 := xs.getD p.toNatClampNeg 0
def own_rd (xs : List Int32) (p e : Int32) : Int32 := if ¬ p < e then -1 else own_at xs p
def own_np (p e : Int32) : Int32 := if ¬ p < e then p else p + 1
theorem own_get1 (xs : List Int32) (p e : Int32) (he : e.toInt ≤ xs.length) (h0 : ¬ p < 0) (h : p < e) : (xs.map Value.int)[p.toNatClampNeg]? = some (.int (own_at xs p)) := by
  rw [Int32.lt_iff_toInt_lt] at h h0
  have z : (0 : Int32).toInt = 0 := rfl
  have q : p.toNatClampNeg < xs.length := by rw [Int32.toNatClampNeg]; omega
  unfold own_at
  simp [q]
def own_maxL (a b : Int64) : Int64 := if a < b then b else a
def own_minL (a b : Int64) : Int64 := if b < a then b else a
def own_skd (n : Int64) (p e : Int32) : Int32 := (own_minL (own_maxL n 0) (e - p).toInt64).toInt32
theorem own_skd_i (n : Int64) (p e : Int32) (h0 : 0 ≤ p.toInt) (h1 : p.toInt ≤ e.toInt) : (n.toInt ≤ 0 → (own_skd n p e).toInt = 0) ∧ (0 < n.toInt → n.toInt < e.toInt - p.toInt → (own_skd n p e).toInt = n.toInt) ∧ (e.toInt - p.toInt ≤ n.toInt → (own_skd n p e).toInt = e.toInt - p.toInt) := by
  have a := c_isub e p; have b := rng32 (e - p); have c := rng32 e; have d := rng32 p
  have z : (0 : Int64).toInt = 0 := rfl
  have i := c_i2l (e - p)
  have l1 := c_l2i (own_minL (own_maxL n 0) (e - p).toInt64)
  have r1 := rng32 (own_skd n p e)
  have hm : (own_maxL n 0).toInt = if n.toInt < 0 then 0 else n.toInt := by
    unfold own_maxL; simp only [Int64.lt_iff_toInt_lt, z]; split <;> rfl
  have hn : (own_minL (own_maxL n 0) (e - p).toInt64).toInt = if (e - p).toInt < (own_maxL n 0).toInt then (e - p).toInt else (own_maxL n 0).toInt := by
    unfold own_minL; simp only [Int64.lt_iff_toInt_lt, i]; split
    · exact i
    · rfl
  have hd : (own_skd n p e) = (own_minL (own_maxL n 0) (e - p).toInt64).toInt32 := rfl
  rw [← hd] at l1
  rw [hm] at hn
  rw [hn] at l1
  refine ⟨fun q => ?_, fun q q2 => ?_, fun q => ?_⟩ <;> (repeat' split at l1) <;> omega
theorem own_min_i (f g : Int32) : (own_min f g).toInt = if g.toInt < f.toInt then g.toInt else f.toInt := by
  unfold own_min; simp only [Int32.lt_iff_toInt_lt]; split <;> rfl
theorem own_chr (p : Int32) (h0 : 0 ≤ p.toInt) (h1 : p.toInt < 8) : own_at [(97 : Int32), (98 : Int32), (99 : Int32), (100 : Int32), (101 : Int32), (102 : Int32), (103 : Int32), (104 : Int32)] p = 97 + p := by
  have hc : p = 0 ∨ p = 1 ∨ p = 2 ∨ p = 3 ∨ p = 4 ∨ p = 5 ∨ p = 6 ∨ p = 7 := by simp only [← Int32.toInt_inj, Int32.reduceToInt]; omega
  rcases hc with rfl | rfl | rfl | rfl | rfl | rfl | rfl | rfl <;> decide
set_option maxRecDepth 65536 in
set_option maxHeartbeats 40000000 in
theorem own_minW (l : Launch) (Z : State) (a0 : Array Value) (hw : ∀ d ∈ tables_1, d.before a0 Z = true) (f g : Int32) (h0 : Heap) (n0 : Nat) (hn0 : n0 ≤ h0.size) :
    own_W l Z (⟨"java/lang/Math", "min", "(II)I"⟩ : MethodName) jdk_29_method_69_code 2 (some .int) ({ frames := 0, cells := 0, slots := 0, locals := 0 } : Room) n0 (fun v h => v = some (.int (own_min f g)) ∧ h0 = h) h0 0 0 0 #[.val (.int f), .val (.int g)] [] := by
  refine own_iloadN (pc' := 1) d5_0 rfl rfl ?_
  refine own_iloadN (pc' := 2) d5_1 rfl rfl ?_
  refine own_ic_gt (pc' := 9) (pf := 5) d5_2 (by decide) (by decide) rfl (fun h_2 => ?_) (fun h_2 => ?_)
  · refine own_iloadN (pc' := 10) d5_9 rfl rfl ?_
    exact own_iret rfl d5_10 ⟨by first | contradiction | (simp only [own_min, *, ↓reduceIte]; done) | (simp [own_min, *]; done) | (simp_all [own_min]; done), rfl⟩
  · refine own_iloadN (pc' := 6) d5_5 rfl rfl ?_
    refine own_goto (pc' := 10) d5_6 (by decide) (by decide) ?_
    exact own_iret rfl d5_10 ⟨by first | contradiction | (simp only [own_min, *, ↓reduceIte]; done) | (simp [own_min, *]; done) | (simp_all [own_min]; done), rfl⟩
set_option maxRecDepth 65536 in
set_option maxHeartbeats 40000000 in
theorem own_rnn (l : Launch) (Z : State) (a0 : Array Value) (hw : ∀ d ∈ tables_1, d.before a0 Z = true) (s u : Addr) (h0 : Heap) (n0 : Nat) (hn0 : n0 ≤ h0.size) :
    own_W l Z (⟨"java/util/Objects", "requireNonNull", "(Ljava/lang/Object;Ljava/lang/String;)Ljava/lang/Object;"⟩ : MethodName) jdk_31_method_11_code 2 (some (.object "java/lang/Object")) ({ frames := 0, cells := 0, slots := 0, locals := 0 } : Room) n0 (fun v h => v = some (.ref s) ∧ h0 = h) h0 0 0 0 #[.val (.ref s), .val (.ref u)] [] := by
  refine own_aloadN (pc' := 1) d4_0 rfl rfl ?_
  refine own_ifnonnull_t (pc' := 13) d4_1 (by decide) (by decide) ?_
  refine own_aloadN (pc' := 14) d4_13 rfl rfl ?_
  exact own_aret rfl rfl rfl d4_14 ⟨rfl, rfl⟩
set_option maxRecDepth 65536 in
set_option maxHeartbeats 40000000 in
theorem own_reader (l : Launch) (Z : State) (a0 : Array Value) (hw : ∀ d ∈ tables_1, d.before a0 Z = true) (o : Addr) (h0 : Heap) (n0 : Nat) (hn0 : n0 ≤ h0.size) (ge_o : n0 ≤ o) (E_o : Exa Z h0 o "charwell/array/ArrayCharReader") (F_o_skipBuffer : Fld Z h0 o "java/io/Reader" "skipBuffer" "[C" (.null)) (F_o_lock : Fld Z h0 o "java/io/Reader" "lock" "Ljava/lang/Object;" (.null)) (F_o_buf : Fld Z h0 o "charwell/array/ArrayCharReader" "buf" "[C" (.null)) (F_o_pos : Fld Z h0 o "charwell/array/ArrayCharReader" "pos" "I" (.int 0)) (F_o_end : Fld Z h0 o "charwell/array/ArrayCharReader" "end" "I" (.int 0)) (F_o_markedPos : Fld Z h0 o "charwell/array/ArrayCharReader" "markedPos" "I" (.int 0)) :
    own_W l Z (⟨"java/io/Reader", "<init>", "()V"⟩ : MethodName) jdk_2043_method_2_code 1 none ({ frames := 1, cells := 0, slots := 0, locals := 12 } : Room) n0 (fun v h => v = none ∧ Keep h0 h [o] ∧ Exa Z h o "charwell/array/ArrayCharReader" ∧ Fld Z h o "java/io/Reader" "skipBuffer" "[C" (.null) ∧ Fld Z h o "java/io/Reader" "lock" "Ljava/lang/Object;" (.ref o) ∧ Fld Z h o "charwell/array/ArrayCharReader" "buf" "[C" (.null) ∧ Fld Z h o "charwell/array/ArrayCharReader" "pos" "I" (.int 0) ∧ Fld Z h o "charwell/array/ArrayCharReader" "end" "I" (.int 0) ∧ Fld Z h o "charwell/array/ArrayCharReader" "markedPos" "I" (.int 0)) h0 0 0 0 #[.val (.ref o)] [] := by
  refine own_aloadN (pc' := 1) d2_0 rfl rfl ?_
  refine own_initO (pc' := 4) (W := 0) (hw _ (List.mem_of_getElem? (i := 13) rfl)) (hw _ (List.mem_of_getElem? (i := 14) rfl)) (hw _ (List.mem_of_getElem? (i := 15) rfl)) d2_1 rfl rfl (by decide) (Nat.le_refl _) (by decide) ?_
  refine own_aloadN (pc' := 5) d2_4 rfl rfl ?_
  refine own_aconstNull (pc' := 6) d2_5 rfl ?_
  refine own_putF (pc' := 9) (hw _ (List.mem_of_getElem? (i := 16) rfl)) F_o_skipBuffer E_o (Or.inl (hw _ (List.mem_of_getElem? (i := 17) rfl))) (hw _ (List.mem_of_getElem? (i := 3) rfl)) ge_o (ty := (.array .char)) (by decide) rfl rfl d2_6 rfl (fun h1 Wr2 K3 => ?_)
  replace E_o := E_o.wr Wr2
  replace F_o_skipBuffer := F_o_skipBuffer.same Wr2
  replace F_o_lock := F_o_lock.other Wr2 (Or.inr (slot_ne (a0 := a0) (Or.inl (hw _ (List.mem_of_getElem? (i := 19) rfl))) (Or.inl (hw _ (List.mem_of_getElem? (i := 17) rfl))) (by decide) (t := (.object "java/lang/Object")) (by decide) (t' := (.array .char)) (by decide)))
  replace F_o_buf := F_o_buf.other Wr2 (Or.inr (slot_ne (a0 := a0) (Or.inl (hw _ (List.mem_of_getElem? (i := 35) rfl))) (Or.inl (hw _ (List.mem_of_getElem? (i := 17) rfl))) (by decide) (t := (.array .char)) (by decide) (t' := (.array .char)) (by decide)))
  replace F_o_pos := F_o_pos.other Wr2 (Or.inr (slot_ne (a0 := a0) (Or.inl (hw _ (List.mem_of_getElem? (i := 37) rfl))) (Or.inl (hw _ (List.mem_of_getElem? (i := 17) rfl))) (by decide) (t := .int) (by decide) (t' := (.array .char)) (by decide)))
  replace F_o_end := F_o_end.other Wr2 (Or.inr (slot_ne (a0 := a0) (Or.inr (hw _ (List.mem_of_getElem? (i := 43) rfl))) (Or.inl (hw _ (List.mem_of_getElem? (i := 17) rfl))) (by decide) (t := .int) (by decide) (t' := (.array .char)) (by decide)))
  replace F_o_markedPos := F_o_markedPos.other Wr2 (Or.inr (slot_ne (a0 := a0) (Or.inl (hw _ (List.mem_of_getElem? (i := 45) rfl))) (Or.inl (hw _ (List.mem_of_getElem? (i := 17) rfl))) (by decide) (t := .int) (by decide) (t' := (.array .char)) (by decide)))
  replace hn0 : n0 ≤ h1.size := Nat.le_trans hn0 K3.1
  refine own_aloadN (pc' := 10) d2_9 rfl rfl ?_
  refine own_aloadN (pc' := 11) d2_10 rfl rfl ?_
  refine own_putF (pc' := 14) (hw _ (List.mem_of_getElem? (i := 18) rfl)) F_o_lock E_o (Or.inl (hw _ (List.mem_of_getElem? (i := 19) rfl))) (hw _ (List.mem_of_getElem? (i := 3) rfl)) ge_o (ty := (.object "java/lang/Object")) (by decide) rfl rfl d2_11 rfl (fun h4 Wr5 K6 => ?_)
  replace E_o := E_o.wr Wr5
  replace F_o_skipBuffer := F_o_skipBuffer.other Wr5 (Or.inr (slot_ne (a0 := a0) (Or.inl (hw _ (List.mem_of_getElem? (i := 17) rfl))) (Or.inl (hw _ (List.mem_of_getElem? (i := 19) rfl))) (by decide) (t := (.array .char)) (by decide) (t' := (.object "java/lang/Object")) (by decide)))
  replace F_o_lock := F_o_lock.same Wr5
  replace F_o_buf := F_o_buf.other Wr5 (Or.inr (slot_ne (a0 := a0) (Or.inl (hw _ (List.mem_of_getElem? (i := 35) rfl))) (Or.inl (hw _ (List.mem_of_getElem? (i := 19) rfl))) (by decide) (t := (.array .char)) (by decide) (t' := (.object "java/lang/Object")) (by decide)))
  replace F_o_pos := F_o_pos.other Wr5 (Or.inr (slot_ne (a0 := a0) (Or.inl (hw _ (List.mem_of_getElem? (i := 37) rfl))) (Or.inl (hw _ (List.mem_of_getElem? (i := 19) rfl))) (by decide) (t := .int) (by decide) (t' := (.object "java/lang/Object")) (by decide)))
  replace F_o_end := F_o_end.other Wr5 (Or.inr (slot_ne (a0 := a0) (Or.inr (hw _ (List.mem_of_getElem? (i := 43) rfl))) (Or.inl (hw _ (List.mem_of_getElem? (i := 19) rfl))) (by decide) (t := .int) (by decide) (t' := (.object "java/lang/Object")) (by decide)))
  replace F_o_markedPos := F_o_markedPos.other Wr5 (Or.inr (slot_ne (a0 := a0) (Or.inl (hw _ (List.mem_of_getElem? (i := 45) rfl))) (Or.inl (hw _ (List.mem_of_getElem? (i := 19) rfl))) (by decide) (t := .int) (by decide) (t' := (.object "java/lang/Object")) (by decide)))
  replace hn0 : n0 ≤ h4.size := Nat.le_trans hn0 K6.1
  exact own_ret rfl d2_14 ⟨rfl, (((Keep.refl h0 [o]).trans K3 (fun x hx => Or.inl hx)).trans K6 (fun x hx => Or.inl hx)), E_o, F_o_skipBuffer, F_o_lock, F_o_buf, F_o_pos, F_o_end, F_o_markedPos⟩
set_option maxRecDepth 65536 in
set_option maxHeartbeats 40000000 in
theorem own_mk (l : Launch) (Z : State) (a0 : Array Value) (hw : ∀ d ∈ tables_1, d.before a0 Z = true) (o s : Addr) (vs : List Value) (off len n : Int32) (h0 : Heap) (n0 : Nat) (hn0 : n0 ≤ h0.size) (hlen : vs.length.toInt32 = n) (h1 : ¬ off < 0) (h2 : ¬ n < off) (h3 : ¬ len < 0) (h4 : ¬ (off + len) < 0) (ge_o : n0 ≤ o) (ne_o_s : o ≠ s) (A_s : own_A Z h0 s .char vs) (E_s : Exa Z h0 s "[C") (E_o : Exa Z h0 o "charwell/array/ArrayCharReader") (F_o_skipBuffer : Fld Z h0 o "java/io/Reader" "skipBuffer" "[C" (.null)) (F_o_lock : Fld Z h0 o "java/io/Reader" "lock" "Ljava/lang/Object;" (.null)) (F_o_buf : Fld Z h0 o "charwell/array/ArrayCharReader" "buf" "[C" (.null)) (F_o_pos : Fld Z h0 o "charwell/array/ArrayCharReader" "pos" "I" (.int 0)) (F_o_end : Fld Z h0 o "charwell/array/ArrayCharReader" "end" "I" (.int 0)) (F_o_markedPos : Fld Z h0 o "charwell/array/ArrayCharReader" "markedPos" "I" (.int 0)) :
    own_W l Z (⟨"charwell/array/ArrayCharReader", "<init>", "([CII)V"⟩ : MethodName) prog_2_method_2_code 4 none ({ frames := 2, cells := 2, slots := 16, locals := 24 } : Room) n0 (fun v h => v = none ∧ Keep h0 h [o] ∧ Exa Z h o "charwell/array/ArrayCharReader" ∧ Fld Z h o "charwell/array/ArrayCharReader" "buf" "[C" (.ref s) ∧ Fld Z h o "charwell/array/ArrayCharReader" "pos" "I" (.int off) ∧ Fld Z h o "charwell/array/ArrayCharReader" "end" "I" (.int (own_min (off + len) n)) ∧ Fld Z h o "charwell/array/ArrayCharReader" "markedPos" "I" (.int off)) h0 0 0 0 #[.val (.ref o), .val (.ref s), .val (.int off), .val (.int len)] [] := by
  refine own_aloadN (pc' := 1) d1_0 rfl rfl ?_
  refine own_special (ret' := none) (own_reader l Z a0 hw o h0 n0 hn0 ge_o E_o F_o_skipBuffer F_o_lock F_o_buf F_o_pos F_o_end F_o_markedPos) (hw _ (List.mem_of_getElem? (i := 8) rfl)) (hw _ (List.mem_of_getElem? (i := 9) rfl)) (hw _ (List.mem_of_getElem? (i := 11) rfl)) (hw _ (List.mem_of_getElem? (i := 12) rfl)) rfl (plainFor_of_name own_pn2) (by decide) own_pd2 rfl (argsL := []) (rest := []) rfl rfl (W := 0) (Nat.le_refl _) (by decide) (by decide) (by decide) (by decide) rfl d1_1 (pc' := 4) rfl (fun v_ h7 hq => ?_)
  obtain ⟨rfl, K_r, E_r, G_skipBuffer, G_lock, G_buf, G_pos, G_end, G_markedPos⟩ := hq
  show own_W l Z (⟨"charwell/array/ArrayCharReader", "<init>", "([CII)V"⟩ : MethodName) prog_2_method_2_code 4 none ({ frames := 2, cells := 2, slots := 16, locals := 24 } : Room) n0 (fun v h => v = none ∧ Keep h0 h [o] ∧ Exa Z h o "charwell/array/ArrayCharReader" ∧ Fld Z h o "charwell/array/ArrayCharReader" "buf" "[C" (.ref s) ∧ Fld Z h o "charwell/array/ArrayCharReader" "pos" "I" (.int off) ∧ Fld Z h o "charwell/array/ArrayCharReader" "end" "I" (.int (own_min (off + len) n)) ∧ Fld Z h o "charwell/array/ArrayCharReader" "markedPos" "I" (.int off)) h7 0 0 4 #[.val (.ref o), .val (.ref s), .val (.int off), .val (.int len)] []
  replace E_o := E_r
  replace F_o_skipBuffer := G_skipBuffer
  replace F_o_lock := G_lock
  replace F_o_buf := G_buf
  replace F_o_pos := G_pos
  replace F_o_end := G_end
  replace F_o_markedPos := G_markedPos
  replace A_s := A_s.keep K_r (ninS (Ne.symm ne_o_s) nin0)
  replace E_s := E_s.keep K_r
  replace hn0 : n0 ≤ h7.size := Nat.le_trans hn0 K_r.1
  refine own_aloadN (pc' := 5) d1_4 rfl rfl ?_
  refine own_aloadN (pc' := 6) d1_5 rfl rfl ?_
  refine own_ldcS (pc' := 8) (n := 12) (hw _ (List.mem_of_getElem? (i := 20) rfl)) (own_wS Z a0 hw) d1_6 rfl (by decide) (by decide) (by decide) (by decide) (fun h8 u E9 => ?_)
  replace E_o := E_o.ext E9
  replace F_o_skipBuffer := F_o_skipBuffer.ext E9
  replace F_o_lock := F_o_lock.ext E9
  replace F_o_buf := F_o_buf.ext E9
  replace F_o_pos := F_o_pos.ext E9
  replace F_o_end := F_o_end.ext E9
  replace F_o_markedPos := F_o_markedPos.ext E9
  replace A_s := A_s.ext E9
  replace E_s := E_s.ext E9
  replace hn0 : n0 ≤ h8.size := Nat.le_trans hn0 E9.1
  refine own_static (own_rnn l Z a0 hw s u h8 n0 hn0) (hw _ (List.mem_of_getElem? (i := 28) rfl)) (hw _ (List.mem_of_getElem? (i := 29) rfl)) (hw _ (List.mem_of_getElem? (i := 30) rfl)) (hw _ (List.mem_of_getElem? (i := 31) rfl)) (plainFor_of_name own_pn4) (by decide) own_pd3 rfl (argsL := [.ref s, .ref u]) (rest := [.ref o]) rfl rfl (W := 1) (Nat.le_refl _) (by decide) (by decide) (by decide) (by decide) rfl d1_8 (pc' := 11) rfl (fun v_ h10 hq => ?_)
  obtain ⟨rfl, rfl⟩ := hq
  show own_W l Z (⟨"charwell/array/ArrayCharReader", "<init>", "([CII)V"⟩ : MethodName) prog_2_method_2_code 4 none ({ frames := 2, cells := 2, slots := 16, locals := 24 } : Room) n0 (fun v h => v = none ∧ Keep h0 h [o] ∧ Exa Z h o "charwell/array/ArrayCharReader" ∧ Fld Z h o "charwell/array/ArrayCharReader" "buf" "[C" (.ref s) ∧ Fld Z h o "charwell/array/ArrayCharReader" "pos" "I" (.int off) ∧ Fld Z h o "charwell/array/ArrayCharReader" "end" "I" (.int (own_min (off + len) n)) ∧ Fld Z h o "charwell/array/ArrayCharReader" "markedPos" "I" (.int off)) h8 2 16 11 #[.val (.ref o), .val (.ref s), .val (.int off), .val (.int len)] [.ref s, .ref o]
  refine own_cast (pc' := 14) (hw _ (List.mem_of_getElem? (i := 32) rfl)) (Ins.self E_s) d1_11 rfl ?_
  refine own_putF (pc' := 17) (hw _ (List.mem_of_getElem? (i := 34) rfl)) F_o_buf E_o (Or.inl (hw _ (List.mem_of_getElem? (i := 35) rfl))) (hw _ (List.mem_of_getElem? (i := 3) rfl)) ge_o (ty := (.array .char)) (by decide) rfl rfl d1_14 rfl (fun h11 Wr12 K13 => ?_)
  replace E_o := E_o.wr Wr12
  replace F_o_skipBuffer := F_o_skipBuffer.other Wr12 (Or.inr (slot_ne (a0 := a0) (Or.inl (hw _ (List.mem_of_getElem? (i := 17) rfl))) (Or.inl (hw _ (List.mem_of_getElem? (i := 35) rfl))) (by decide) (t := (.array .char)) (by decide) (t' := (.array .char)) (by decide)))
  replace F_o_lock := F_o_lock.other Wr12 (Or.inr (slot_ne (a0 := a0) (Or.inl (hw _ (List.mem_of_getElem? (i := 19) rfl))) (Or.inl (hw _ (List.mem_of_getElem? (i := 35) rfl))) (by decide) (t := (.object "java/lang/Object")) (by decide) (t' := (.array .char)) (by decide)))
  replace F_o_buf := F_o_buf.same Wr12
  replace F_o_pos := F_o_pos.other Wr12 (Or.inr (slot_ne (a0 := a0) (Or.inl (hw _ (List.mem_of_getElem? (i := 37) rfl))) (Or.inl (hw _ (List.mem_of_getElem? (i := 35) rfl))) (by decide) (t := .int) (by decide) (t' := (.array .char)) (by decide)))
  replace F_o_end := F_o_end.other Wr12 (Or.inr (slot_ne (a0 := a0) (Or.inr (hw _ (List.mem_of_getElem? (i := 43) rfl))) (Or.inl (hw _ (List.mem_of_getElem? (i := 35) rfl))) (by decide) (t := .int) (by decide) (t' := (.array .char)) (by decide)))
  replace F_o_markedPos := F_o_markedPos.other Wr12 (Or.inr (slot_ne (a0 := a0) (Or.inl (hw _ (List.mem_of_getElem? (i := 45) rfl))) (Or.inl (hw _ (List.mem_of_getElem? (i := 35) rfl))) (by decide) (t := .int) (by decide) (t' := (.array .char)) (by decide)))
  replace A_s := A_s.keep K13 (ninS (Ne.symm ne_o_s) nin0)
  replace E_s := E_s.wr Wr12
  replace hn0 : n0 ≤ h11.size := Nat.le_trans hn0 K13.1
  refine own_iloadN (pc' := 18) d1_17 rfl rfl ?_
  refine own_if_lt_f (pc' := 21) d1_18 h1 rfl ?_
  refine own_iloadN (pc' := 22) d1_21 rfl rfl ?_
  refine own_aloadN (pc' := 23) d1_22 rfl rfl ?_
  refine own_len (pc' := 24) (n := n) A_s hlen d1_23 rfl ?_
  refine own_ic_le_t (pc' := 43) d1_24 h2 (by decide) (by decide) ?_
  refine own_iloadN (pc' := 44) d1_43 rfl rfl ?_
  refine own_if_ge_t (pc' := 61) d1_44 h3 (by decide) (by decide) ?_
  refine own_iloadN (pc' := 62) d1_61 rfl rfl ?_
  refine own_iloadN (pc' := 63) d1_62 rfl rfl ?_
  refine own_iadd (pc' := 64) d1_63 rfl ?_
  refine own_if_ge_t (pc' := 82) d1_64 h4 (by decide) (by decide) ?_
  refine own_aloadN (pc' := 83) d1_82 rfl rfl ?_
  refine own_iloadN (pc' := 84) d1_83 rfl rfl ?_
  refine own_putF (pc' := 87) (hw _ (List.mem_of_getElem? (i := 36) rfl)) F_o_pos E_o (Or.inl (hw _ (List.mem_of_getElem? (i := 37) rfl))) (hw _ (List.mem_of_getElem? (i := 3) rfl)) ge_o (ty := .int) (by decide) rfl rfl d1_84 rfl (fun h14 Wr15 K16 => ?_)
  replace E_o := E_o.wr Wr15
  replace F_o_skipBuffer := F_o_skipBuffer.other Wr15 (Or.inr (slot_ne (a0 := a0) (Or.inl (hw _ (List.mem_of_getElem? (i := 17) rfl))) (Or.inl (hw _ (List.mem_of_getElem? (i := 37) rfl))) (by decide) (t := (.array .char)) (by decide) (t' := .int) (by decide)))
  replace F_o_lock := F_o_lock.other Wr15 (Or.inr (slot_ne (a0 := a0) (Or.inl (hw _ (List.mem_of_getElem? (i := 19) rfl))) (Or.inl (hw _ (List.mem_of_getElem? (i := 37) rfl))) (by decide) (t := (.object "java/lang/Object")) (by decide) (t' := .int) (by decide)))
  replace F_o_buf := F_o_buf.other Wr15 (Or.inr (slot_ne (a0 := a0) (Or.inl (hw _ (List.mem_of_getElem? (i := 35) rfl))) (Or.inl (hw _ (List.mem_of_getElem? (i := 37) rfl))) (by decide) (t := (.array .char)) (by decide) (t' := .int) (by decide)))
  replace F_o_pos := F_o_pos.same Wr15
  replace F_o_end := F_o_end.other Wr15 (Or.inr (slot_ne (a0 := a0) (Or.inr (hw _ (List.mem_of_getElem? (i := 43) rfl))) (Or.inl (hw _ (List.mem_of_getElem? (i := 37) rfl))) (by decide) (t := .int) (by decide) (t' := .int) (by decide)))
  replace F_o_markedPos := F_o_markedPos.other Wr15 (Or.inr (slot_ne (a0 := a0) (Or.inl (hw _ (List.mem_of_getElem? (i := 45) rfl))) (Or.inl (hw _ (List.mem_of_getElem? (i := 37) rfl))) (by decide) (t := .int) (by decide) (t' := .int) (by decide)))
  replace A_s := A_s.keep K16 (ninS (Ne.symm ne_o_s) nin0)
  replace E_s := E_s.wr Wr15
  replace hn0 : n0 ≤ h14.size := Nat.le_trans hn0 K16.1
  refine own_aloadN (pc' := 88) d1_87 rfl rfl ?_
  refine own_iloadN (pc' := 89) d1_88 rfl rfl ?_
  refine own_iloadN (pc' := 90) d1_89 rfl rfl ?_
  refine own_iadd (pc' := 91) d1_90 rfl ?_
  refine own_aloadN (pc' := 92) d1_91 rfl rfl ?_
  refine own_len (pc' := 93) (n := n) A_s hlen d1_92 rfl ?_
  refine own_static (own_minW l Z a0 hw (off + len) n h14 n0 hn0) (hw _ (List.mem_of_getElem? (i := 38) rfl)) (hw _ (List.mem_of_getElem? (i := 39) rfl)) (hw _ (List.mem_of_getElem? (i := 40) rfl)) (hw _ (List.mem_of_getElem? (i := 41) rfl)) (Jvm.Free.JP.mathPlain rfl (by decide)) (by decide) own_pd4 rfl (argsL := [.int (off + len), .int n]) (rest := [.ref o]) rfl rfl (W := 1) (Nat.le_refl _) (by decide) (by decide) (by decide) (by decide) rfl d1_93 (pc' := 96) rfl (fun v_ h17 hq => ?_)
  obtain ⟨rfl, rfl⟩ := hq
  show own_W l Z (⟨"charwell/array/ArrayCharReader", "<init>", "([CII)V"⟩ : MethodName) prog_2_method_2_code 4 none ({ frames := 2, cells := 2, slots := 16, locals := 24 } : Room) n0 (fun v h => v = none ∧ Keep h0 h [o] ∧ Exa Z h o "charwell/array/ArrayCharReader" ∧ Fld Z h o "charwell/array/ArrayCharReader" "buf" "[C" (.ref s) ∧ Fld Z h o "charwell/array/ArrayCharReader" "pos" "I" (.int off) ∧ Fld Z h o "charwell/array/ArrayCharReader" "end" "I" (.int (own_min (off + len) n)) ∧ Fld Z h o "charwell/array/ArrayCharReader" "markedPos" "I" (.int off)) h14 2 16 96 #[.val (.ref o), .val (.ref s), .val (.int off), .val (.int len)] [.int (own_min (off + len) n), .ref o]
  refine own_putF (pc' := 99) (hw _ (List.mem_of_getElem? (i := 42) rfl)) F_o_end E_o (Or.inr ⟨(hw _ (List.mem_of_getElem? (i := 43) rfl)), rfl, rfl⟩) (hw _ (List.mem_of_getElem? (i := 3) rfl)) ge_o (ty := .int) (by decide) rfl rfl d1_96 rfl (fun h18 Wr19 K20 => ?_)
  replace E_o := E_o.wr Wr19
  replace F_o_skipBuffer := F_o_skipBuffer.other Wr19 (Or.inr (slot_ne (a0 := a0) (Or.inl (hw _ (List.mem_of_getElem? (i := 17) rfl))) (Or.inr (hw _ (List.mem_of_getElem? (i := 43) rfl))) (by decide) (t := (.array .char)) (by decide) (t' := .int) (by decide)))
  replace F_o_lock := F_o_lock.other Wr19 (Or.inr (slot_ne (a0 := a0) (Or.inl (hw _ (List.mem_of_getElem? (i := 19) rfl))) (Or.inr (hw _ (List.mem_of_getElem? (i := 43) rfl))) (by decide) (t := (.object "java/lang/Object")) (by decide) (t' := .int) (by decide)))
  replace F_o_buf := F_o_buf.other Wr19 (Or.inr (slot_ne (a0 := a0) (Or.inl (hw _ (List.mem_of_getElem? (i := 35) rfl))) (Or.inr (hw _ (List.mem_of_getElem? (i := 43) rfl))) (by decide) (t := (.array .char)) (by decide) (t' := .int) (by decide)))
  replace F_o_pos := F_o_pos.other Wr19 (Or.inr (slot_ne (a0 := a0) (Or.inl (hw _ (List.mem_of_getElem? (i := 37) rfl))) (Or.inr (hw _ (List.mem_of_getElem? (i := 43) rfl))) (by decide) (t := .int) (by decide) (t' := .int) (by decide)))
  replace F_o_end := F_o_end.same Wr19
  replace F_o_markedPos := F_o_markedPos.other Wr19 (Or.inr (slot_ne (a0 := a0) (Or.inl (hw _ (List.mem_of_getElem? (i := 45) rfl))) (Or.inr (hw _ (List.mem_of_getElem? (i := 43) rfl))) (by decide) (t := .int) (by decide) (t' := .int) (by decide)))
  replace A_s := A_s.keep K20 (ninS (Ne.symm ne_o_s) nin0)
  replace E_s := E_s.wr Wr19
  replace hn0 : n0 ≤ h18.size := Nat.le_trans hn0 K20.1
  refine own_aloadN (pc' := 100) d1_99 rfl rfl ?_
  refine own_iloadN (pc' := 101) d1_100 rfl rfl ?_
  refine own_putF (pc' := 104) (hw _ (List.mem_of_getElem? (i := 44) rfl)) F_o_markedPos E_o (Or.inl (hw _ (List.mem_of_getElem? (i := 45) rfl))) (hw _ (List.mem_of_getElem? (i := 3) rfl)) ge_o (ty := .int) (by decide) rfl rfl d1_101 rfl (fun h21 Wr22 K23 => ?_)
  replace E_o := E_o.wr Wr22
  replace F_o_skipBuffer := F_o_skipBuffer.other Wr22 (Or.inr (slot_ne (a0 := a0) (Or.inl (hw _ (List.mem_of_getElem? (i := 17) rfl))) (Or.inl (hw _ (List.mem_of_getElem? (i := 45) rfl))) (by decide) (t := (.array .char)) (by decide) (t' := .int) (by decide)))
  replace F_o_lock := F_o_lock.other Wr22 (Or.inr (slot_ne (a0 := a0) (Or.inl (hw _ (List.mem_of_getElem? (i := 19) rfl))) (Or.inl (hw _ (List.mem_of_getElem? (i := 45) rfl))) (by decide) (t := (.object "java/lang/Object")) (by decide) (t' := .int) (by decide)))
  replace F_o_buf := F_o_buf.other Wr22 (Or.inr (slot_ne (a0 := a0) (Or.inl (hw _ (List.mem_of_getElem? (i := 35) rfl))) (Or.inl (hw _ (List.mem_of_getElem? (i := 45) rfl))) (by decide) (t := (.array .char)) (by decide) (t' := .int) (by decide)))
  replace F_o_pos := F_o_pos.other Wr22 (Or.inr (slot_ne (a0 := a0) (Or.inl (hw _ (List.mem_of_getElem? (i := 37) rfl))) (Or.inl (hw _ (List.mem_of_getElem? (i := 45) rfl))) (by decide) (t := .int) (by decide) (t' := .int) (by decide)))
  replace F_o_end := F_o_end.other Wr22 (Or.inr (slot_ne (a0 := a0) (Or.inr (hw _ (List.mem_of_getElem? (i := 43) rfl))) (Or.inl (hw _ (List.mem_of_getElem? (i := 45) rfl))) (by decide) (t := .int) (by decide) (t' := .int) (by decide)))
  replace F_o_markedPos := F_o_markedPos.same Wr22
  replace A_s := A_s.keep K23 (ninS (Ne.symm ne_o_s) nin0)
  replace E_s := E_s.wr Wr22
  replace hn0 : n0 ≤ h21.size := Nat.le_trans hn0 K23.1
  exact own_ret rfl d1_104 ⟨rfl, (((((K_r.ext E9).trans K13 (fun x hx => Or.inl hx)).trans K16 (fun x hx => Or.inl hx)).trans K20 (fun x hx => Or.inl hx)).trans K23 (fun x hx => Or.inl hx)), E_o, F_o_buf, F_o_pos, F_o_end, F_o_markedPos⟩
set_option maxRecDepth 65536 in
set_option maxHeartbeats 40000000 in
theorem own_openW (l : Launch) (Z : State) (a0 : Array Value) (hw : ∀ d ∈ tables_1, d.before a0 Z = true) (o s : Addr) (h0 : Heap) (n0 : Nat) (hn0 : n0 ≤ h0.size) (F_o_buf : Fld Z h0 o "charwell/array/ArrayCharReader" "buf" "[C" (.ref s)) :
    own_W l Z (⟨"charwell/array/ArrayCharReader", "ensureOpen", "()V"⟩ : MethodName) prog_2_method_11_code 1 none ({ frames := 0, cells := 0, slots := 0, locals := 0 } : Room) n0 (fun v h => v = none ∧ h0 = h) h0 0 0 0 #[.val (.ref o)] [] := by
  refine own_aloadN (pc' := 1) d7_0 rfl rfl ?_
  refine own_getF (pc' := 4) (hw _ (List.mem_of_getElem? (i := 34) rfl)) F_o_buf d7_1 rfl ?_
  refine own_ifnonnull_t (pc' := 17) d7_4 (by decide) (by decide) ?_
  exact own_ret rfl d7_17 ⟨rfl, rfl⟩
set_option maxRecDepth 65536 in
set_option maxHeartbeats 40000000 in
theorem own_rdW (l : Launch) (Z : State) (a0 : Array Value) (hw : ∀ d ∈ tables_1, d.before a0 Z = true) (o s : Addr) (xs : List Int32) (p e k : Int32) (h0 : Heap) (n0 : Nat) (hn0 : n0 ≤ h0.size) (he : e.toInt ≤ xs.length) (hp : ¬ p < 0) (ge_o : n0 ≤ o) (ne_o_s : o ≠ s) (A_s : own_A Z h0 s .char (xs.map Value.int)) (E_o : Exa Z h0 o "charwell/array/ArrayCharReader") (F_o_buf : Fld Z h0 o "charwell/array/ArrayCharReader" "buf" "[C" (.ref s)) (F_o_pos : Fld Z h0 o "charwell/array/ArrayCharReader" "pos" "I" (.int p)) (F_o_end : Fld Z h0 o "charwell/array/ArrayCharReader" "end" "I" (.int e)) (F_o_markedPos : Fld Z h0 o "charwell/array/ArrayCharReader" "markedPos" "I" (.int k)) :
    own_W l Z (⟨"charwell/array/ArrayCharReader", "read", "()I"⟩ : MethodName) prog_2_method_3_code 1 (some .int) ({ frames := 1, cells := 0, slots := 0, locals := 12 } : Room) n0 (fun v h => v = some (.int (own_rd xs p e)) ∧ Keep h0 h [o] ∧ Exa Z h o "charwell/array/ArrayCharReader" ∧ Fld Z h o "charwell/array/ArrayCharReader" "buf" "[C" (.ref s) ∧ Fld Z h o "charwell/array/ArrayCharReader" "pos" "I" (.int (own_np p e)) ∧ Fld Z h o "charwell/array/ArrayCharReader" "end" "I" (.int e) ∧ Fld Z h o "charwell/array/ArrayCharReader" "markedPos" "I" (.int k)) h0 0 0 0 #[.val (.ref o)] [] := by
  refine own_aloadN (pc' := 1) d11_0 rfl rfl ?_
  refine own_private (own_openW l Z a0 hw o s h0 n0 hn0 F_o_buf) E_o (hw _ (List.mem_of_getElem? (i := 51) rfl)) (hw _ (List.mem_of_getElem? (i := 52) rfl)) (hw _ (List.mem_of_getElem? (i := 53) rfl)) (hw _ (List.mem_of_getElem? (i := 3) rfl)) (hw _ (List.mem_of_getElem? (i := 4) rfl)) (hw _ (List.mem_of_getElem? (i := 54) rfl)) (plainFor_of_name own_pn1) (by decide) own_pd2 rfl (argsL := []) (rest := []) rfl rfl (W := 0) (Nat.le_refl _) (by decide) (by decide) (by decide) (by decide) rfl d11_1 (pc' := 4) rfl (fun v_ h24 hq => ?_)
  obtain ⟨rfl, rfl⟩ := hq
  show own_W l Z (⟨"charwell/array/ArrayCharReader", "read", "()I"⟩ : MethodName) prog_2_method_3_code 1 (some .int) ({ frames := 1, cells := 0, slots := 0, locals := 12 } : Room) n0 (fun v h => v = some (.int (own_rd xs p e)) ∧ Keep h0 h [o] ∧ Exa Z h o "charwell/array/ArrayCharReader" ∧ Fld Z h o "charwell/array/ArrayCharReader" "buf" "[C" (.ref s) ∧ Fld Z h o "charwell/array/ArrayCharReader" "pos" "I" (.int (own_np p e)) ∧ Fld Z h o "charwell/array/ArrayCharReader" "end" "I" (.int e) ∧ Fld Z h o "charwell/array/ArrayCharReader" "markedPos" "I" (.int k)) h0 0 0 4 #[.val (.ref o)] []
  refine own_aloadN (pc' := 5) d11_4 rfl rfl ?_
  refine own_getF (pc' := 8) (hw _ (List.mem_of_getElem? (i := 36) rfl)) F_o_pos d11_5 rfl ?_
  refine own_aloadN (pc' := 9) d11_8 rfl rfl ?_
  refine own_getF (pc' := 12) (hw _ (List.mem_of_getElem? (i := 42) rfl)) F_o_end d11_9 rfl ?_
  refine own_ic_ge (pc' := 34) (pf := 15) d11_12 (by decide) (by decide) rfl (fun h_12 => ?_) (fun h_12 => ?_)
  · have e1 : own_rd xs p e = -1 := if_pos h_12
    have e2 : own_np p e = p := if_pos h_12
    rw [e1, e2]
    refine own_iconst (-1 : Int32) (pc' := 35) d11_34 rfl rfl ?_
    exact own_iret rfl d11_35 ⟨rfl, Keep.refl h0 [o], E_o, F_o_buf, F_o_pos, F_o_end, F_o_markedPos⟩
  · have e1 : own_rd xs p e = own_at xs p := if_neg (fun q => q h_12)
    have e2 : own_np p e = p + 1 := if_neg (fun q => q h_12)
    rw [e1, e2]
    refine own_aloadN (pc' := 16) d11_15 rfl rfl ?_
    refine own_getF (pc' := 19) (hw _ (List.mem_of_getElem? (i := 34) rfl)) F_o_buf d11_16 rfl ?_
    refine own_aloadN (pc' := 20) d11_19 rfl rfl ?_
    refine own_dup (pc' := 21) d11_20 rfl rfl ?_
    refine own_getF (pc' := 24) (hw _ (List.mem_of_getElem? (i := 36) rfl)) F_o_pos d11_21 rfl ?_
    refine own_dupX1 (pc' := 25) d11_24 rfl rfl rfl ?_
    refine own_iconst (1 : Int32) (pc' := 26) d11_25 rfl rfl ?_
    refine own_iadd (pc' := 27) d11_26 rfl ?_
    refine own_putF (pc' := 30) (hw _ (List.mem_of_getElem? (i := 36) rfl)) F_o_pos E_o (Or.inl (hw _ (List.mem_of_getElem? (i := 37) rfl))) (hw _ (List.mem_of_getElem? (i := 3) rfl)) ge_o (ty := .int) (by decide) rfl rfl d11_27 rfl (fun h25 Wr26 K27 => ?_)
    replace A_s := A_s.keep K27 (ninS (Ne.symm ne_o_s) nin0)
    replace E_o := E_o.wr Wr26
    replace F_o_buf := F_o_buf.other Wr26 (Or.inr (slot_ne (a0 := a0) (Or.inl (hw _ (List.mem_of_getElem? (i := 35) rfl))) (Or.inl (hw _ (List.mem_of_getElem? (i := 37) rfl))) (by decide) (t := (.array .char)) (by decide) (t' := .int) (by decide)))
    replace F_o_pos := F_o_pos.same Wr26
    replace F_o_end := F_o_end.other Wr26 (Or.inr (slot_ne (a0 := a0) (Or.inr (hw _ (List.mem_of_getElem? (i := 43) rfl))) (Or.inl (hw _ (List.mem_of_getElem? (i := 37) rfl))) (by decide) (t := .int) (by decide) (t' := .int) (by decide)))
    replace F_o_markedPos := F_o_markedPos.other Wr26 (Or.inr (slot_ne (a0 := a0) (Or.inl (hw _ (List.mem_of_getElem? (i := 45) rfl))) (Or.inl (hw _ (List.mem_of_getElem? (i := 37) rfl))) (by decide) (t := .int) (by decide) (t' := .int) (by decide)))
    replace hn0 : n0 ≤ h25.size := Nat.le_trans hn0 K27.1
    refine own_caload (pc' := 31) (v := .int (own_at xs p)) A_s hp (own_get1 xs p e he hp h_12) d11_30 rfl ?_
    refine own_goto (pc' := 35) d11_31 (by decide) (by decide) ?_
    exact own_iret rfl d11_35 ⟨rfl, K27, E_o, F_o_buf, F_o_pos, F_o_end, F_o_markedPos⟩
set_option maxRecDepth 65536 in
set_option maxHeartbeats 40000000 in
theorem own_maxLW (l : Launch) (Z : State) (a0 : Array Value) (hw : ∀ d ∈ tables_1, d.before a0 Z = true) (a b : Int64) (h0 : Heap) (n0 : Nat) (hn0 : n0 ≤ h0.size) :
    own_W l Z (⟨"java/lang/Math", "max", "(JJ)J"⟩ : MethodName) jdk_29_method_66_code 4 (some .long) ({ frames := 0, cells := 0, slots := 0, locals := 0 } : Room) n0 (fun v h => v = some (.long (own_maxL a b)) ∧ h0 = h) h0 0 0 0 #[.val (.long a), .second, .val (.long b), .second] [] := by
  refine own_lloadN (pc' := 1) d9_0 rfl rfl ?_
  refine own_lloadN (pc' := 2) d9_1 rfl rfl ?_
  refine own_lcmp (pc' := 3) d9_2 rfl ?_
  refine own_il_lt (pc' := 10) (pf := 6) d9_3 (by decide) (by decide) rfl (fun h_3 => ?_) (fun h_3 => ?_)
  · refine own_lloadN (pc' := 11) d9_10 rfl rfl ?_
    exact own_lret rfl d9_11 ⟨by first | contradiction | (simp only [own_maxL, *, ↓reduceIte]; done) | (simp [own_maxL, *]; done) | (simp_all [own_maxL]; done), rfl⟩
  · refine own_lloadN (pc' := 7) d9_6 rfl rfl ?_
    refine own_goto (pc' := 11) d9_7 (by decide) (by decide) ?_
    exact own_lret rfl d9_11 ⟨by first | contradiction | (simp only [own_maxL, *, ↓reduceIte]; done) | (simp [own_maxL, *]; done) | (simp_all [own_maxL]; done), rfl⟩
set_option maxRecDepth 65536 in
set_option maxHeartbeats 40000000 in
theorem own_minLW (l : Launch) (Z : State) (a0 : Array Value) (hw : ∀ d ∈ tables_1, d.before a0 Z = true) (a b : Int64) (h0 : Heap) (n0 : Nat) (hn0 : n0 ≤ h0.size) :
    own_W l Z (⟨"java/lang/Math", "min", "(JJ)J"⟩ : MethodName) jdk_29_method_70_code 4 (some .long) ({ frames := 0, cells := 0, slots := 0, locals := 0 } : Room) n0 (fun v h => v = some (.long (own_minL a b)) ∧ h0 = h) h0 0 0 0 #[.val (.long a), .second, .val (.long b), .second] [] := by
  refine own_lloadN (pc' := 1) d10_0 rfl rfl ?_
  refine own_lloadN (pc' := 2) d10_1 rfl rfl ?_
  refine own_lcmp (pc' := 3) d10_2 rfl ?_
  refine own_il_gt (pc' := 10) (pf := 6) d10_3 (by decide) (by decide) rfl (fun h_3 => ?_) (fun h_3 => ?_)
  · refine own_lloadN (pc' := 11) d10_10 rfl rfl ?_
    exact own_lret rfl d10_11 ⟨by first | contradiction | (simp only [own_minL, *, ↓reduceIte]; done) | (simp [own_minL, *]; done) | (simp_all [own_minL]; done), rfl⟩
  · refine own_lloadN (pc' := 7) d10_6 rfl rfl ?_
    refine own_goto (pc' := 11) d10_7 (by decide) (by decide) ?_
    exact own_lret rfl d10_11 ⟨by first | contradiction | (simp only [own_minL, *, ↓reduceIte]; done) | (simp [own_minL, *]; done) | (simp_all [own_minL]; done), rfl⟩
set_option maxRecDepth 65536 in
set_option maxHeartbeats 40000000 in
theorem own_skW (l : Launch) (Z : State) (a0 : Array Value) (hw : ∀ d ∈ tables_1, d.before a0 Z = true) (o s : Addr) (p e k : Int32) (n : Int64) (h0 : Heap) (n0 : Nat) (hn0 : n0 ≤ h0.size) (ge_o : n0 ≤ o) (E_o : Exa Z h0 o "charwell/array/ArrayCharReader") (F_o_buf : Fld Z h0 o "charwell/array/ArrayCharReader" "buf" "[C" (.ref s)) (F_o_pos : Fld Z h0 o "charwell/array/ArrayCharReader" "pos" "I" (.int p)) (F_o_end : Fld Z h0 o "charwell/array/ArrayCharReader" "end" "I" (.int e)) (F_o_markedPos : Fld Z h0 o "charwell/array/ArrayCharReader" "markedPos" "I" (.int k)) :
    own_W l Z (⟨"charwell/array/ArrayCharReader", "skip", "(J)J"⟩ : MethodName) prog_2_method_5_code 4 (some .long) ({ frames := 1, cells := 0, slots := 0, locals := 15 } : Room) n0 (fun v h => v = some (.long (own_skd n p e).toInt64) ∧ Keep h0 h [o] ∧ Exa Z h o "charwell/array/ArrayCharReader" ∧ Fld Z h o "charwell/array/ArrayCharReader" "buf" "[C" (.ref s) ∧ Fld Z h o "charwell/array/ArrayCharReader" "pos" "I" (.int (p + (own_skd n p e))) ∧ Fld Z h o "charwell/array/ArrayCharReader" "end" "I" (.int e) ∧ Fld Z h o "charwell/array/ArrayCharReader" "markedPos" "I" (.int k)) h0 0 0 0 #[.val (.ref o), .val (.long n), .second, .unset] [] := by
  refine own_aloadN (pc' := 1) d8_0 rfl rfl ?_
  refine own_private (own_openW l Z a0 hw o s h0 n0 hn0 F_o_buf) E_o (hw _ (List.mem_of_getElem? (i := 51) rfl)) (hw _ (List.mem_of_getElem? (i := 52) rfl)) (hw _ (List.mem_of_getElem? (i := 53) rfl)) (hw _ (List.mem_of_getElem? (i := 3) rfl)) (hw _ (List.mem_of_getElem? (i := 4) rfl)) (hw _ (List.mem_of_getElem? (i := 54) rfl)) (plainFor_of_name own_pn1) (by decide) own_pd2 rfl (argsL := []) (rest := []) rfl rfl (W := 0) (Nat.le_refl _) (by decide) (by decide) (by decide) (by decide) rfl d8_1 (pc' := 4) rfl (fun v_ h28 hq => ?_)
  obtain ⟨rfl, rfl⟩ := hq
  show own_W l Z (⟨"charwell/array/ArrayCharReader", "skip", "(J)J"⟩ : MethodName) prog_2_method_5_code 4 (some .long) ({ frames := 1, cells := 0, slots := 0, locals := 15 } : Room) n0 (fun v h => v = some (.long (own_skd n p e).toInt64) ∧ Keep h0 h [o] ∧ Exa Z h o "charwell/array/ArrayCharReader" ∧ Fld Z h o "charwell/array/ArrayCharReader" "buf" "[C" (.ref s) ∧ Fld Z h o "charwell/array/ArrayCharReader" "pos" "I" (.int (p + (own_skd n p e))) ∧ Fld Z h o "charwell/array/ArrayCharReader" "end" "I" (.int e) ∧ Fld Z h o "charwell/array/ArrayCharReader" "markedPos" "I" (.int k)) h0 0 0 4 #[.val (.ref o), .val (.long n), .second, .unset] []
  refine own_lloadN (pc' := 5) d8_4 rfl rfl ?_
  refine own_lconst (0 : Int64) (pc' := 6) d8_5 rfl rfl ?_
  refine own_static (own_maxLW l Z a0 hw n 0 h0 n0 hn0) (hw _ (List.mem_of_getElem? (i := 60) rfl)) (hw _ (List.mem_of_getElem? (i := 61) rfl)) (hw _ (List.mem_of_getElem? (i := 40) rfl)) (hw _ (List.mem_of_getElem? (i := 62) rfl)) (Jvm.Free.JP.mathPlain rfl (by decide)) (by decide) own_pd7 rfl (argsL := [.long n, .long (0 : Int64)]) (rest := []) rfl rfl (W := 0) (Nat.le_refl _) (by decide) (by decide) (by decide) (by decide) rfl d8_6 (pc' := 9) rfl (fun v_ h29 hq => ?_)
  obtain ⟨rfl, rfl⟩ := hq
  show own_W l Z (⟨"charwell/array/ArrayCharReader", "skip", "(J)J"⟩ : MethodName) prog_2_method_5_code 4 (some .long) ({ frames := 1, cells := 0, slots := 0, locals := 15 } : Room) n0 (fun v h => v = some (.long (own_skd n p e).toInt64) ∧ Keep h0 h [o] ∧ Exa Z h o "charwell/array/ArrayCharReader" ∧ Fld Z h o "charwell/array/ArrayCharReader" "buf" "[C" (.ref s) ∧ Fld Z h o "charwell/array/ArrayCharReader" "pos" "I" (.int (p + (own_skd n p e))) ∧ Fld Z h o "charwell/array/ArrayCharReader" "end" "I" (.int e) ∧ Fld Z h o "charwell/array/ArrayCharReader" "markedPos" "I" (.int k)) h0 0 0 9 #[.val (.ref o), .val (.long n), .second, .unset] [.long (own_maxL n (0 : Int64))]
  refine own_aloadN (pc' := 10) d8_9 rfl rfl ?_
  refine own_getF (pc' := 13) (hw _ (List.mem_of_getElem? (i := 42) rfl)) F_o_end d8_10 rfl ?_
  refine own_aloadN (pc' := 14) d8_13 rfl rfl ?_
  refine own_getF (pc' := 17) (hw _ (List.mem_of_getElem? (i := 36) rfl)) F_o_pos d8_14 rfl ?_
  refine own_isub (pc' := 18) d8_17 rfl ?_
  refine own_i2l (pc' := 19) d8_18 rfl ?_
  refine own_static (own_minLW l Z a0 hw (own_maxL n 0) (e - p).toInt64 h0 n0 hn0) (hw _ (List.mem_of_getElem? (i := 63) rfl)) (hw _ (List.mem_of_getElem? (i := 64) rfl)) (hw _ (List.mem_of_getElem? (i := 40) rfl)) (hw _ (List.mem_of_getElem? (i := 65) rfl)) (Jvm.Free.JP.mathPlain rfl (by decide)) (by decide) own_pd7 rfl (argsL := [.long (own_maxL n (0 : Int64)), .long ((e - p).toInt64)]) (rest := []) rfl rfl (W := 0) (Nat.le_refl _) (by decide) (by decide) (by decide) (by decide) rfl d8_19 (pc' := 22) rfl (fun v_ h30 hq => ?_)
  obtain ⟨rfl, rfl⟩ := hq
  show own_W l Z (⟨"charwell/array/ArrayCharReader", "skip", "(J)J"⟩ : MethodName) prog_2_method_5_code 4 (some .long) ({ frames := 1, cells := 0, slots := 0, locals := 15 } : Room) n0 (fun v h => v = some (.long (own_skd n p e).toInt64) ∧ Keep h0 h [o] ∧ Exa Z h o "charwell/array/ArrayCharReader" ∧ Fld Z h o "charwell/array/ArrayCharReader" "buf" "[C" (.ref s) ∧ Fld Z h o "charwell/array/ArrayCharReader" "pos" "I" (.int (p + (own_skd n p e))) ∧ Fld Z h o "charwell/array/ArrayCharReader" "end" "I" (.int e) ∧ Fld Z h o "charwell/array/ArrayCharReader" "markedPos" "I" (.int k)) h0 0 0 22 #[.val (.ref o), .val (.long n), .second, .unset] [.long (own_minL (own_maxL n (0 : Int64)) ((e - p).toInt64))]
  refine own_l2i (pc' := 23) d8_22 rfl ?_
  refine own_istoreN (pc' := 24) (Ls' := #[.val (.ref o), .val (.long n), .second, .val (.int ((own_minL (own_maxL n (0 : Int64)) ((e - p).toInt64)).toInt32))]) d8_23 rfl rfl ?_
  refine own_aloadN (pc' := 25) d8_24 rfl rfl ?_
  refine own_dup (pc' := 26) d8_25 rfl rfl ?_
  refine own_getF (pc' := 29) (hw _ (List.mem_of_getElem? (i := 36) rfl)) F_o_pos d8_26 rfl ?_
  refine own_iloadN (pc' := 30) d8_29 rfl rfl ?_
  refine own_iadd (pc' := 31) d8_30 rfl ?_
  refine own_putF (pc' := 34) (hw _ (List.mem_of_getElem? (i := 36) rfl)) F_o_pos E_o (Or.inl (hw _ (List.mem_of_getElem? (i := 37) rfl))) (hw _ (List.mem_of_getElem? (i := 3) rfl)) ge_o (ty := .int) (by decide) rfl rfl d8_31 rfl (fun h31 Wr32 K33 => ?_)
  replace E_o := E_o.wr Wr32
  replace F_o_buf := F_o_buf.other Wr32 (Or.inr (slot_ne (a0 := a0) (Or.inl (hw _ (List.mem_of_getElem? (i := 35) rfl))) (Or.inl (hw _ (List.mem_of_getElem? (i := 37) rfl))) (by decide) (t := (.array .char)) (by decide) (t' := .int) (by decide)))
  replace F_o_pos := F_o_pos.same Wr32
  replace F_o_end := F_o_end.other Wr32 (Or.inr (slot_ne (a0 := a0) (Or.inr (hw _ (List.mem_of_getElem? (i := 43) rfl))) (Or.inl (hw _ (List.mem_of_getElem? (i := 37) rfl))) (by decide) (t := .int) (by decide) (t' := .int) (by decide)))
  replace F_o_markedPos := F_o_markedPos.other Wr32 (Or.inr (slot_ne (a0 := a0) (Or.inl (hw _ (List.mem_of_getElem? (i := 45) rfl))) (Or.inl (hw _ (List.mem_of_getElem? (i := 37) rfl))) (by decide) (t := .int) (by decide) (t' := .int) (by decide)))
  replace hn0 : n0 ≤ h31.size := Nat.le_trans hn0 K33.1
  refine own_iloadN (pc' := 35) d8_34 rfl rfl ?_
  refine own_i2l (pc' := 36) d8_35 rfl ?_
  exact own_lret rfl d8_36 ⟨rfl, K33, E_o, F_o_buf, F_o_pos, F_o_end, F_o_markedPos⟩
set_option maxRecDepth 65536 in
set_option maxHeartbeats 40000000 in
theorem own_rsW (l : Launch) (Z : State) (a0 : Array Value) (hw : ∀ d ∈ tables_1, d.before a0 Z = true) (o s : Addr) (p e k : Int32) (h0 : Heap) (n0 : Nat) (hn0 : n0 ≤ h0.size) (ge_o : n0 ≤ o) (E_o : Exa Z h0 o "charwell/array/ArrayCharReader") (F_o_buf : Fld Z h0 o "charwell/array/ArrayCharReader" "buf" "[C" (.ref s)) (F_o_pos : Fld Z h0 o "charwell/array/ArrayCharReader" "pos" "I" (.int p)) (F_o_end : Fld Z h0 o "charwell/array/ArrayCharReader" "end" "I" (.int e)) (F_o_markedPos : Fld Z h0 o "charwell/array/ArrayCharReader" "markedPos" "I" (.int k)) :
    own_W l Z (⟨"charwell/array/ArrayCharReader", "reset", "()V"⟩ : MethodName) prog_2_method_9_code 1 none ({ frames := 1, cells := 0, slots := 0, locals := 12 } : Room) n0 (fun v h => v = none ∧ Keep h0 h [o] ∧ Exa Z h o "charwell/array/ArrayCharReader" ∧ Fld Z h o "charwell/array/ArrayCharReader" "buf" "[C" (.ref s) ∧ Fld Z h o "charwell/array/ArrayCharReader" "pos" "I" (.int k) ∧ Fld Z h o "charwell/array/ArrayCharReader" "end" "I" (.int e) ∧ Fld Z h o "charwell/array/ArrayCharReader" "markedPos" "I" (.int k)) h0 0 0 0 #[.val (.ref o)] [] := by
  refine own_aloadN (pc' := 1) d12_0 rfl rfl ?_
  refine own_private (own_openW l Z a0 hw o s h0 n0 hn0 F_o_buf) E_o (hw _ (List.mem_of_getElem? (i := 51) rfl)) (hw _ (List.mem_of_getElem? (i := 52) rfl)) (hw _ (List.mem_of_getElem? (i := 53) rfl)) (hw _ (List.mem_of_getElem? (i := 3) rfl)) (hw _ (List.mem_of_getElem? (i := 4) rfl)) (hw _ (List.mem_of_getElem? (i := 54) rfl)) (plainFor_of_name own_pn1) (by decide) own_pd2 rfl (argsL := []) (rest := []) rfl rfl (W := 0) (Nat.le_refl _) (by decide) (by decide) (by decide) (by decide) rfl d12_1 (pc' := 4) rfl (fun v_ h34 hq => ?_)
  obtain ⟨rfl, rfl⟩ := hq
  show own_W l Z (⟨"charwell/array/ArrayCharReader", "reset", "()V"⟩ : MethodName) prog_2_method_9_code 1 none ({ frames := 1, cells := 0, slots := 0, locals := 12 } : Room) n0 (fun v h => v = none ∧ Keep h0 h [o] ∧ Exa Z h o "charwell/array/ArrayCharReader" ∧ Fld Z h o "charwell/array/ArrayCharReader" "buf" "[C" (.ref s) ∧ Fld Z h o "charwell/array/ArrayCharReader" "pos" "I" (.int k) ∧ Fld Z h o "charwell/array/ArrayCharReader" "end" "I" (.int e) ∧ Fld Z h o "charwell/array/ArrayCharReader" "markedPos" "I" (.int k)) h0 0 0 4 #[.val (.ref o)] []
  refine own_aloadN (pc' := 5) d12_4 rfl rfl ?_
  refine own_aloadN (pc' := 6) d12_5 rfl rfl ?_
  refine own_getF (pc' := 9) (hw _ (List.mem_of_getElem? (i := 44) rfl)) F_o_markedPos d12_6 rfl ?_
  refine own_putF (pc' := 12) (hw _ (List.mem_of_getElem? (i := 36) rfl)) F_o_pos E_o (Or.inl (hw _ (List.mem_of_getElem? (i := 37) rfl))) (hw _ (List.mem_of_getElem? (i := 3) rfl)) ge_o (ty := .int) (by decide) rfl rfl d12_9 rfl (fun h35 Wr36 K37 => ?_)
  replace E_o := E_o.wr Wr36
  replace F_o_buf := F_o_buf.other Wr36 (Or.inr (slot_ne (a0 := a0) (Or.inl (hw _ (List.mem_of_getElem? (i := 35) rfl))) (Or.inl (hw _ (List.mem_of_getElem? (i := 37) rfl))) (by decide) (t := (.array .char)) (by decide) (t' := .int) (by decide)))
  replace F_o_pos := F_o_pos.same Wr36
  replace F_o_end := F_o_end.other Wr36 (Or.inr (slot_ne (a0 := a0) (Or.inr (hw _ (List.mem_of_getElem? (i := 43) rfl))) (Or.inl (hw _ (List.mem_of_getElem? (i := 37) rfl))) (by decide) (t := .int) (by decide) (t' := .int) (by decide)))
  replace F_o_markedPos := F_o_markedPos.other Wr36 (Or.inr (slot_ne (a0 := a0) (Or.inl (hw _ (List.mem_of_getElem? (i := 45) rfl))) (Or.inl (hw _ (List.mem_of_getElem? (i := 37) rfl))) (by decide) (t := .int) (by decide) (t' := .int) (by decide)))
  replace hn0 : n0 ≤ h35.size := Nat.le_trans hn0 K37.1
  exact own_ret rfl d12_12 ⟨rfl, K37, E_o, F_o_buf, F_o_pos, F_o_end, F_o_markedPos⟩
def own_ry (p e : Int32) : Int32 := if ¬ p < e then 0 else 1
set_option maxRecDepth 65536 in
set_option maxHeartbeats 40000000 in
theorem own_ryW (l : Launch) (Z : State) (a0 : Array Value) (hw : ∀ d ∈ tables_1, d.before a0 Z = true) (o s : Addr) (p e k : Int32) (h0 : Heap) (n0 : Nat) (hn0 : n0 ≤ h0.size) (E_o : Exa Z h0 o "charwell/array/ArrayCharReader") (F_o_buf : Fld Z h0 o "charwell/array/ArrayCharReader" "buf" "[C" (.ref s)) (F_o_pos : Fld Z h0 o "charwell/array/ArrayCharReader" "pos" "I" (.int p)) (F_o_end : Fld Z h0 o "charwell/array/ArrayCharReader" "end" "I" (.int e)) (F_o_markedPos : Fld Z h0 o "charwell/array/ArrayCharReader" "markedPos" "I" (.int k)) :
    own_W l Z (⟨"charwell/array/ArrayCharReader", "ready", "()Z"⟩ : MethodName) prog_2_method_6_code 1 (some .boolean) ({ frames := 1, cells := 0, slots := 0, locals := 12 } : Room) n0 (fun v h => v = some (.int (own_ry p e)) ∧ h0 = h) h0 0 0 0 #[.val (.ref o)] [] := by
  refine own_aloadN (pc' := 1) d6_0 rfl rfl ?_
  refine own_private (own_openW l Z a0 hw o s h0 n0 hn0 F_o_buf) E_o (hw _ (List.mem_of_getElem? (i := 51) rfl)) (hw _ (List.mem_of_getElem? (i := 52) rfl)) (hw _ (List.mem_of_getElem? (i := 53) rfl)) (hw _ (List.mem_of_getElem? (i := 3) rfl)) (hw _ (List.mem_of_getElem? (i := 4) rfl)) (hw _ (List.mem_of_getElem? (i := 54) rfl)) (plainFor_of_name own_pn1) (by decide) own_pd2 rfl (argsL := []) (rest := []) rfl rfl (W := 0) (Nat.le_refl _) (by decide) (by decide) (by decide) (by decide) rfl d6_1 (pc' := 4) rfl (fun v_ h38 hq => ?_)
  obtain ⟨rfl, rfl⟩ := hq
  show own_W l Z (⟨"charwell/array/ArrayCharReader", "ready", "()Z"⟩ : MethodName) prog_2_method_6_code 1 (some .boolean) ({ frames := 1, cells := 0, slots := 0, locals := 12 } : Room) n0 (fun v h => v = some (.int (own_ry p e)) ∧ h0 = h) h0 0 0 4 #[.val (.ref o)] []
  refine own_aloadN (pc' := 5) d6_4 rfl rfl ?_
  refine own_getF (pc' := 8) (hw _ (List.mem_of_getElem? (i := 36) rfl)) F_o_pos d6_5 rfl ?_
  refine own_aloadN (pc' := 9) d6_8 rfl rfl ?_
  refine own_getF (pc' := 12) (hw _ (List.mem_of_getElem? (i := 42) rfl)) F_o_end d6_9 rfl ?_
  refine own_ic_ge (pc' := 19) (pf := 15) d6_12 (by decide) (by decide) rfl (fun h_12 => ?_) (fun h_12 => ?_)
  · refine own_iconst (0 : Int32) (pc' := 20) d6_19 rfl rfl ?_
    exact own_bret (v := (0 : Int32)) rfl (by first | rfl | decide | assumption) d6_20 ⟨by first | contradiction | (simp only [own_ry, *, ↓reduceIte]; done) | (simp [own_ry, *]; done) | (simp_all [own_ry]; done), rfl⟩
  · refine own_iconst (1 : Int32) (pc' := 16) d6_15 rfl rfl ?_
    refine own_goto (pc' := 20) d6_16 (by decide) (by decide) ?_
    exact own_bret (v := (1 : Int32)) rfl (by first | rfl | decide | assumption) d6_20 ⟨by first | contradiction | (simp only [own_ry, *, ↓reduceIte]; done) | (simp [own_ry, *]; done) | (simp_all [own_ry]; done), rfl⟩
set_option maxRecDepth 65536 in
set_option maxHeartbeats 40000000 in
theorem own_law4 (l : Launch) (Z : State) (a0 : Array Value) (hw : ∀ d ∈ tables_1, d.before a0 Z = true) (x0 x1 : Int32) (x2 : Int64) (off len rm av e sk : Int32) (s o : Addr) (h0 : Heap) (n0 : Nat) (hn0 : n0 ≤ h0.size) (ho : 0 ≤ off.toInt ∧ off.toInt ≤ 8) (hav : off.toInt + av.toInt = e.toInt) (he8 : e.toInt ≤ 8) (hav0 : 0 ≤ av.toInt) (hsk : 0 ≤ sk.toInt ∧ sk.toInt ≤ av.toInt) (ge_o : n0 ≤ o) (ne_o_s : o ≠ s) (A_s : own_A Z h0 s .char [.int (97 : Int32), .int (98 : Int32), .int (99 : Int32), .int (100 : Int32), .int (101 : Int32), .int (102 : Int32), .int (103 : Int32), .int (104 : Int32)]) (E_o : Exa Z h0 o "charwell/array/ArrayCharReader") (F_o_buf : Fld Z h0 o "charwell/array/ArrayCharReader" "buf" "[C" (.ref s)) (F_o_pos : Fld Z h0 o "charwell/array/ArrayCharReader" "pos" "I" (.int (off + sk))) (F_o_end : Fld Z h0 o "charwell/array/ArrayCharReader" "end" "I" (.int e)) (F_o_markedPos : Fld Z h0 o "charwell/array/ArrayCharReader" "markedPos" "I" (.int off)) :
    own_W l Z x code maxLocals ret room_1 n0 (fun v h => v = some (.int 1)) h0 4 30 176 #[.val (.int x0), .val (.int x1), .val (.long x2), .second, .val (.ref s), .val (.int off), .val (.int len), .val (.int rm), .val (.int av), .val (.ref o), .val (.int (own_ry off e)), .val (.int sk), .unset, .unset, .unset, .unset, .unset, .unset] [] := by
  have z0 : (0 : Int32).toInt = 0 := rfl
  have a1 := c_iadd off sk
  have a2 := rng32 (off + sk)
  have hp : (off + sk).toInt = off.toInt + sk.toInt := by omega
  have hp0 : ¬ (off + sk) < 0 := by rw [Int32.lt_iff_toInt_lt, z0]; omega
  refine own_aload (pc' := 178) at_176 rfl rfl ?_
  refine own_virtual (own_ryW l Z a0 hw o s (off + sk) e off h0 n0 hn0 E_o F_o_buf F_o_pos F_o_end F_o_markedPos) E_o (hw _ (List.mem_of_getElem? (i := 46) rfl)) (hw _ (List.mem_of_getElem? (i := 47) rfl)) (hw _ (List.mem_of_getElem? (i := 49) rfl)) (hw _ (List.mem_of_getElem? (i := 48) rfl)) (hw _ (List.mem_of_getElem? (i := 4) rfl)) (hw _ (List.mem_of_getElem? (i := 50) rfl)) (plainFor_of_name own_pn1) (by decide) own_pd5 rfl (argsL := []) (rest := []) rfl rfl (W := 0) (Nat.le_refl _) (by decide) (by decide) (by decide) (by decide) rfl at_178 (pc' := 181) rfl (fun v_ h39 hq => ?_)
  obtain ⟨rfl, rfl⟩ := hq
  show own_W l Z x code maxLocals ret room_1 n0 (fun v h => v = some (.int 1)) h0 4 30 181 #[.val (.int x0), .val (.int x1), .val (.long x2), .second, .val (.ref s), .val (.int off), .val (.int len), .val (.int rm), .val (.int av), .val (.ref o), .val (.int (own_ry off e)), .val (.int sk), .unset, .unset, .unset, .unset, .unset, .unset] [.int (own_ry (off + sk) e)]
  refine own_istore (pc' := 183) (Ls' := #[.val (.int x0), .val (.int x1), .val (.long x2), .second, .val (.ref s), .val (.int off), .val (.int len), .val (.int rm), .val (.int av), .val (.ref o), .val (.int (own_ry off e)), .val (.int sk), .val (.int (own_ry (off + sk) e)), .unset, .unset, .unset, .unset, .unset]) at_181 rfl rfl ?_
  refine own_aload (pc' := 185) at_183 rfl rfl ?_
  refine own_virtual (own_rdW l Z a0 hw o s [(97 : Int32), (98 : Int32), (99 : Int32), (100 : Int32), (101 : Int32), (102 : Int32), (103 : Int32), (104 : Int32)] (off + sk) e off h0 n0 hn0 (by show _ ≤ ((8 : Nat) : Int); omega) hp0 ge_o ne_o_s A_s E_o F_o_buf F_o_pos F_o_end F_o_markedPos) E_o (hw _ (List.mem_of_getElem? (i := 66) rfl)) (hw _ (List.mem_of_getElem? (i := 67) rfl)) (hw _ (List.mem_of_getElem? (i := 69) rfl)) (hw _ (List.mem_of_getElem? (i := 68) rfl)) (hw _ (List.mem_of_getElem? (i := 4) rfl)) (hw _ (List.mem_of_getElem? (i := 70) rfl)) (plainFor_of_name own_pn1) (by decide) own_pd8 rfl (argsL := []) (rest := []) rfl rfl (W := 0) (Nat.le_refl _) (by decide) (by decide) (by decide) (by decide) rfl at_185 (pc' := 188) rfl (fun v_ h40 hq => ?_)
  obtain ⟨rfl, K_r, E_r, Fa_r, Fb_r, Fc_r, Fd_r⟩ := hq
  show own_W l Z x code maxLocals ret room_1 n0 (fun v h => v = some (.int 1)) h40 4 30 188 #[.val (.int x0), .val (.int x1), .val (.long x2), .second, .val (.ref s), .val (.int off), .val (.int len), .val (.int rm), .val (.int av), .val (.ref o), .val (.int (own_ry off e)), .val (.int sk), .val (.int (own_ry (off + sk) e)), .unset, .unset, .unset, .unset, .unset] [.int (own_rd [(97 : Int32), (98 : Int32), (99 : Int32), (100 : Int32), (101 : Int32), (102 : Int32), (103 : Int32), (104 : Int32)] (off + sk) e)]
  replace A_s := A_s.keep K_r (ninS (Ne.symm ne_o_s) nin0)
  replace E_o := E_r
  replace F_o_buf := Fa_r
  replace F_o_pos := Fb_r
  replace F_o_end := Fc_r
  replace F_o_markedPos := Fd_r
  replace hn0 : n0 ≤ h40.size := Nat.le_trans hn0 K_r.1
  refine own_istore (pc' := 190) (Ls' := #[.val (.int x0), .val (.int x1), .val (.long x2), .second, .val (.ref s), .val (.int off), .val (.int len), .val (.int rm), .val (.int av), .val (.ref o), .val (.int (own_ry off e)), .val (.int sk), .val (.int (own_ry (off + sk) e)), .val (.int (own_rd [(97 : Int32), (98 : Int32), (99 : Int32), (100 : Int32), (101 : Int32), (102 : Int32), (103 : Int32), (104 : Int32)] (off + sk) e)), .unset, .unset, .unset, .unset]) at_188 rfl rfl ?_
  refine own_aload (pc' := 192) at_190 rfl rfl ?_
  refine own_virtual (own_rsW l Z a0 hw o s (own_np (off + sk) e) e off h40 n0 hn0 ge_o E_o F_o_buf F_o_pos F_o_end F_o_markedPos) E_o (hw _ (List.mem_of_getElem? (i := 71) rfl)) (hw _ (List.mem_of_getElem? (i := 72) rfl)) (hw _ (List.mem_of_getElem? (i := 74) rfl)) (hw _ (List.mem_of_getElem? (i := 73) rfl)) (hw _ (List.mem_of_getElem? (i := 4) rfl)) (hw _ (List.mem_of_getElem? (i := 75) rfl)) (plainFor_of_name own_pn1) (by decide) own_pd2 rfl (argsL := []) (rest := []) rfl rfl (W := 0) (Nat.le_refl _) (by decide) (by decide) (by decide) (by decide) rfl at_192 (pc' := 195) rfl (fun v_ h41 hq => ?_)
  obtain ⟨rfl, K_z, E_z, Fa_z, Fb_z, Fc_z, Fd_z⟩ := hq
  show own_W l Z x code maxLocals ret room_1 n0 (fun v h => v = some (.int 1)) h41 4 30 195 #[.val (.int x0), .val (.int x1), .val (.long x2), .second, .val (.ref s), .val (.int off), .val (.int len), .val (.int rm), .val (.int av), .val (.ref o), .val (.int (own_ry off e)), .val (.int sk), .val (.int (own_ry (off + sk) e)), .val (.int (own_rd [(97 : Int32), (98 : Int32), (99 : Int32), (100 : Int32), (101 : Int32), (102 : Int32), (103 : Int32), (104 : Int32)] (off + sk) e)), .unset, .unset, .unset, .unset] []
  replace A_s := A_s.keep K_z (ninS (Ne.symm ne_o_s) nin0)
  replace E_o := E_z
  replace F_o_buf := Fa_z
  replace F_o_pos := Fb_z
  replace F_o_end := Fc_z
  replace F_o_markedPos := Fd_z
  replace hn0 : n0 ≤ h41.size := Nat.le_trans hn0 K_z.1
  refine own_aload (pc' := 197) at_195 rfl rfl ?_
  refine own_virtual (own_ryW l Z a0 hw o s off e off h41 n0 hn0 E_o F_o_buf F_o_pos F_o_end F_o_markedPos) E_o (hw _ (List.mem_of_getElem? (i := 46) rfl)) (hw _ (List.mem_of_getElem? (i := 47) rfl)) (hw _ (List.mem_of_getElem? (i := 49) rfl)) (hw _ (List.mem_of_getElem? (i := 48) rfl)) (hw _ (List.mem_of_getElem? (i := 4) rfl)) (hw _ (List.mem_of_getElem? (i := 50) rfl)) (plainFor_of_name own_pn1) (by decide) own_pd5 rfl (argsL := []) (rest := []) rfl rfl (W := 0) (Nat.le_refl _) (by decide) (by decide) (by decide) (by decide) rfl at_197 (pc' := 200) rfl (fun v_ h42 hq => ?_)
  obtain ⟨rfl, rfl⟩ := hq
  show own_W l Z x code maxLocals ret room_1 n0 (fun v h => v = some (.int 1)) h41 4 30 200 #[.val (.int x0), .val (.int x1), .val (.long x2), .second, .val (.ref s), .val (.int off), .val (.int len), .val (.int rm), .val (.int av), .val (.ref o), .val (.int (own_ry off e)), .val (.int sk), .val (.int (own_ry (off + sk) e)), .val (.int (own_rd [(97 : Int32), (98 : Int32), (99 : Int32), (100 : Int32), (101 : Int32), (102 : Int32), (103 : Int32), (104 : Int32)] (off + sk) e)), .unset, .unset, .unset, .unset] [.int (own_ry off e)]
  refine own_istore (pc' := 202) (Ls' := #[.val (.int x0), .val (.int x1), .val (.long x2), .second, .val (.ref s), .val (.int off), .val (.int len), .val (.int rm), .val (.int av), .val (.ref o), .val (.int (own_ry off e)), .val (.int sk), .val (.int (own_ry (off + sk) e)), .val (.int (own_rd [(97 : Int32), (98 : Int32), (99 : Int32), (100 : Int32), (101 : Int32), (102 : Int32), (103 : Int32), (104 : Int32)] (off + sk) e)), .val (.int (own_ry off e)), .unset, .unset, .unset]) at_200 rfl rfl ?_
  refine own_iload (pc' := 204) at_202 rfl rfl ?_
  refine own_if_le (pc' := 211) (pf := 207) at_204 (by decide) (by decide) rfl (fun h_204 => ?_) (fun h_204 => ?_)
  · have h9 := h_204
    rw [Int32.lt_iff_toInt_lt, z0] at h9
    have e0 : own_ry off e = 0 := if_pos (by rw [Int32.lt_iff_toInt_lt]; omega)
    refine own_iconst (0 : Int32) (pc' := 212) at_211 rfl rfl ?_
    refine own_istore (pc' := 214) (Ls' := #[.val (.int x0), .val (.int x1), .val (.long x2), .second, .val (.ref s), .val (.int off), .val (.int len), .val (.int rm), .val (.int av), .val (.ref o), .val (.int (own_ry off e)), .val (.int sk), .val (.int (own_ry (off + sk) e)), .val (.int (own_rd [(97 : Int32), (98 : Int32), (99 : Int32), (100 : Int32), (101 : Int32), (102 : Int32), (103 : Int32), (104 : Int32)] (off + sk) e)), .val (.int (own_ry off e)), .val (.int (0 : Int32)), .unset, .unset]) at_212 rfl rfl ?_
    refine own_iload (pc' := 216) at_214 rfl rfl ?_
    refine own_iload (pc' := 218) at_216 rfl rfl ?_
    refine own_ic_ge (pc' := 225) (pf := 221) at_218 (by decide) (by decide) rfl (fun h_218 => ?_) (fun h_218 => ?_)
    · have h8 := h_218
      rw [Int32.lt_iff_toInt_lt] at h8
      have h7 : ¬ (off + sk) < e := by rw [Int32.lt_iff_toInt_lt]; omega
      have e1 : own_ry (off + sk) e = 0 := if_pos h7
      have e2 : own_rd [(97 : Int32), (98 : Int32), (99 : Int32), (100 : Int32), (101 : Int32), (102 : Int32), (103 : Int32), (104 : Int32)] (off + sk) e = -1 := if_pos h7
      refine own_iconst (0 : Int32) (pc' := 226) at_225 rfl rfl ?_
      refine own_istore (pc' := 228) (Ls' := #[.val (.int x0), .val (.int x1), .val (.long x2), .second, .val (.ref s), .val (.int off), .val (.int len), .val (.int rm), .val (.int av), .val (.ref o), .val (.int (own_ry off e)), .val (.int sk), .val (.int (own_ry (off + sk) e)), .val (.int (own_rd [(97 : Int32), (98 : Int32), (99 : Int32), (100 : Int32), (101 : Int32), (102 : Int32), (103 : Int32), (104 : Int32)] (off + sk) e)), .val (.int (own_ry off e)), .val (.int (0 : Int32)), .val (.int (0 : Int32)), .unset]) at_226 rfl rfl ?_
      refine own_iload (pc' := 230) at_228 rfl rfl ?_
      refine own_if_eq_t (pc' := 244) at_230 (by decide) (by decide) (by decide) ?_
      refine own_iconst (-1 : Int32) (pc' := 245) at_244 rfl rfl ?_
      refine own_istore (pc' := 247) (Ls' := #[.val (.int x0), .val (.int x1), .val (.long x2), .second, .val (.ref s), .val (.int off), .val (.int len), .val (.int rm), .val (.int av), .val (.ref o), .val (.int (own_ry off e)), .val (.int sk), .val (.int (own_ry (off + sk) e)), .val (.int (own_rd [(97 : Int32), (98 : Int32), (99 : Int32), (100 : Int32), (101 : Int32), (102 : Int32), (103 : Int32), (104 : Int32)] (off + sk) e)), .val (.int (own_ry off e)), .val (.int (0 : Int32)), .val (.int (0 : Int32)), .val (.int (-1 : Int32))]) at_245 rfl rfl ?_
      refine own_iload (pc' := 249) at_247 rfl rfl ?_
      refine own_iload (pc' := 251) at_249 rfl rfl ?_
      refine own_ic_ne_f (pc' := 254) at_251 e0 rfl ?_
      refine own_iload (pc' := 256) at_254 rfl rfl ?_
      refine own_iload (pc' := 258) at_256 rfl rfl ?_
      refine own_ic_ne_f (pc' := 261) at_258 e1 rfl ?_
      refine own_iload (pc' := 263) at_261 rfl rfl ?_
      refine own_iload (pc' := 265) at_263 rfl rfl ?_
      refine own_ic_ne_f (pc' := 268) at_265 e2 rfl ?_
      refine own_iload (pc' := 270) at_268 rfl rfl ?_
      refine own_iload (pc' := 272) at_270 rfl rfl ?_
      refine own_ic_ne_f (pc' := 275) at_272 e0 rfl ?_
      refine own_iconst (1 : Int32) (pc' := 276) at_275 rfl rfl ?_
      refine own_goto (pc' := 280) at_276 (by decide) (by decide) ?_
      exact own_bret (v := (1 : Int32)) rfl (by first | rfl | decide | assumption) at_280 rfl
    · have h8 := h_218
      rw [Int32.lt_iff_toInt_lt] at h8
      have h7 : (off + sk) < e := by rw [Int32.lt_iff_toInt_lt]; omega
      have e1 : own_ry (off + sk) e = 1 := if_neg (fun q => q h7)
      have e2 : own_rd [(97 : Int32), (98 : Int32), (99 : Int32), (100 : Int32), (101 : Int32), (102 : Int32), (103 : Int32), (104 : Int32)] (off + sk) e = 97 + off + sk := by rw [show own_rd [(97 : Int32), (98 : Int32), (99 : Int32), (100 : Int32), (101 : Int32), (102 : Int32), (103 : Int32), (104 : Int32)] (off + sk) e = own_at [(97 : Int32), (98 : Int32), (99 : Int32), (100 : Int32), (101 : Int32), (102 : Int32), (103 : Int32), (104 : Int32)] (off + sk) from if_neg (fun q => q h7), own_chr _ (by omega) (by omega), Int32.add_assoc]
      refine own_iconst (1 : Int32) (pc' := 222) at_221 rfl rfl ?_
      refine own_goto (pc' := 226) at_222 (by decide) (by decide) ?_
      refine own_istore (pc' := 228) (Ls' := #[.val (.int x0), .val (.int x1), .val (.long x2), .second, .val (.ref s), .val (.int off), .val (.int len), .val (.int rm), .val (.int av), .val (.ref o), .val (.int (own_ry off e)), .val (.int sk), .val (.int (own_ry (off + sk) e)), .val (.int (own_rd [(97 : Int32), (98 : Int32), (99 : Int32), (100 : Int32), (101 : Int32), (102 : Int32), (103 : Int32), (104 : Int32)] (off + sk) e)), .val (.int (own_ry off e)), .val (.int (0 : Int32)), .val (.int (1 : Int32)), .unset]) at_226 rfl rfl ?_
      refine own_iload (pc' := 230) at_228 rfl rfl ?_
      refine own_if_eq_f (pc' := 233) at_230 (by decide) rfl ?_
      refine own_bipush (97 : Int32) (pc' := 235) at_233 rfl rfl ?_
      refine own_iload (pc' := 237) at_235 rfl rfl ?_
      refine own_iadd (pc' := 238) at_237 rfl ?_
      refine own_iload (pc' := 240) at_238 rfl rfl ?_
      refine own_iadd (pc' := 241) at_240 rfl ?_
      refine own_goto (pc' := 245) at_241 (by decide) (by decide) ?_
      refine own_istore (pc' := 247) (Ls' := #[.val (.int x0), .val (.int x1), .val (.long x2), .second, .val (.ref s), .val (.int off), .val (.int len), .val (.int rm), .val (.int av), .val (.ref o), .val (.int (own_ry off e)), .val (.int sk), .val (.int (own_ry (off + sk) e)), .val (.int (own_rd [(97 : Int32), (98 : Int32), (99 : Int32), (100 : Int32), (101 : Int32), (102 : Int32), (103 : Int32), (104 : Int32)] (off + sk) e)), .val (.int (own_ry off e)), .val (.int (0 : Int32)), .val (.int (1 : Int32)), .val (.int (((97 : Int32) + off) + sk))]) at_245 rfl rfl ?_
      refine own_iload (pc' := 249) at_247 rfl rfl ?_
      refine own_iload (pc' := 251) at_249 rfl rfl ?_
      refine own_ic_ne_f (pc' := 254) at_251 e0 rfl ?_
      refine own_iload (pc' := 256) at_254 rfl rfl ?_
      refine own_iload (pc' := 258) at_256 rfl rfl ?_
      refine own_ic_ne_f (pc' := 261) at_258 e1 rfl ?_
      refine own_iload (pc' := 263) at_261 rfl rfl ?_
      refine own_iload (pc' := 265) at_263 rfl rfl ?_
      refine own_ic_ne_f (pc' := 268) at_265 e2 rfl ?_
      refine own_iload (pc' := 270) at_268 rfl rfl ?_
      refine own_iload (pc' := 272) at_270 rfl rfl ?_
      refine own_ic_ne_f (pc' := 275) at_272 e0 rfl ?_
      refine own_iconst (1 : Int32) (pc' := 276) at_275 rfl rfl ?_
      refine own_goto (pc' := 280) at_276 (by decide) (by decide) ?_
      exact own_bret (v := (1 : Int32)) rfl (by first | rfl | decide | assumption) at_280 rfl
  · have h9 := h_204
    rw [Int32.lt_iff_toInt_lt, z0] at h9
    have e0 : own_ry off e = 1 := if_neg (fun q => q (by rw [Int32.lt_iff_toInt_lt]; omega))
    refine own_iconst (1 : Int32) (pc' := 208) at_207 rfl rfl ?_
    refine own_goto (pc' := 212) at_208 (by decide) (by decide) ?_
    refine own_istore (pc' := 214) (Ls' := #[.val (.int x0), .val (.int x1), .val (.long x2), .second, .val (.ref s), .val (.int off), .val (.int len), .val (.int rm), .val (.int av), .val (.ref o), .val (.int (own_ry off e)), .val (.int sk), .val (.int (own_ry (off + sk) e)), .val (.int (own_rd [(97 : Int32), (98 : Int32), (99 : Int32), (100 : Int32), (101 : Int32), (102 : Int32), (103 : Int32), (104 : Int32)] (off + sk) e)), .val (.int (own_ry off e)), .val (.int (1 : Int32)), .unset, .unset]) at_212 rfl rfl ?_
    refine own_iload (pc' := 216) at_214 rfl rfl ?_
    refine own_iload (pc' := 218) at_216 rfl rfl ?_
    refine own_ic_ge (pc' := 225) (pf := 221) at_218 (by decide) (by decide) rfl (fun h_218 => ?_) (fun h_218 => ?_)
    · have h8 := h_218
      rw [Int32.lt_iff_toInt_lt] at h8
      have h7 : ¬ (off + sk) < e := by rw [Int32.lt_iff_toInt_lt]; omega
      have e1 : own_ry (off + sk) e = 0 := if_pos h7
      have e2 : own_rd [(97 : Int32), (98 : Int32), (99 : Int32), (100 : Int32), (101 : Int32), (102 : Int32), (103 : Int32), (104 : Int32)] (off + sk) e = -1 := if_pos h7
      refine own_iconst (0 : Int32) (pc' := 226) at_225 rfl rfl ?_
      refine own_istore (pc' := 228) (Ls' := #[.val (.int x0), .val (.int x1), .val (.long x2), .second, .val (.ref s), .val (.int off), .val (.int len), .val (.int rm), .val (.int av), .val (.ref o), .val (.int (own_ry off e)), .val (.int sk), .val (.int (own_ry (off + sk) e)), .val (.int (own_rd [(97 : Int32), (98 : Int32), (99 : Int32), (100 : Int32), (101 : Int32), (102 : Int32), (103 : Int32), (104 : Int32)] (off + sk) e)), .val (.int (own_ry off e)), .val (.int (1 : Int32)), .val (.int (0 : Int32)), .unset]) at_226 rfl rfl ?_
      refine own_iload (pc' := 230) at_228 rfl rfl ?_
      refine own_if_eq_t (pc' := 244) at_230 (by decide) (by decide) (by decide) ?_
      refine own_iconst (-1 : Int32) (pc' := 245) at_244 rfl rfl ?_
      refine own_istore (pc' := 247) (Ls' := #[.val (.int x0), .val (.int x1), .val (.long x2), .second, .val (.ref s), .val (.int off), .val (.int len), .val (.int rm), .val (.int av), .val (.ref o), .val (.int (own_ry off e)), .val (.int sk), .val (.int (own_ry (off + sk) e)), .val (.int (own_rd [(97 : Int32), (98 : Int32), (99 : Int32), (100 : Int32), (101 : Int32), (102 : Int32), (103 : Int32), (104 : Int32)] (off + sk) e)), .val (.int (own_ry off e)), .val (.int (1 : Int32)), .val (.int (0 : Int32)), .val (.int (-1 : Int32))]) at_245 rfl rfl ?_
      refine own_iload (pc' := 249) at_247 rfl rfl ?_
      refine own_iload (pc' := 251) at_249 rfl rfl ?_
      refine own_ic_ne_f (pc' := 254) at_251 e0 rfl ?_
      refine own_iload (pc' := 256) at_254 rfl rfl ?_
      refine own_iload (pc' := 258) at_256 rfl rfl ?_
      refine own_ic_ne_f (pc' := 261) at_258 e1 rfl ?_
      refine own_iload (pc' := 263) at_261 rfl rfl ?_
      refine own_iload (pc' := 265) at_263 rfl rfl ?_
      refine own_ic_ne_f (pc' := 268) at_265 e2 rfl ?_
      refine own_iload (pc' := 270) at_268 rfl rfl ?_
      refine own_iload (pc' := 272) at_270 rfl rfl ?_
      refine own_ic_ne_f (pc' := 275) at_272 e0 rfl ?_
      refine own_iconst (1 : Int32) (pc' := 276) at_275 rfl rfl ?_
      refine own_goto (pc' := 280) at_276 (by decide) (by decide) ?_
      exact own_bret (v := (1 : Int32)) rfl (by first | rfl | decide | assumption) at_280 rfl
    · have h8 := h_218
      rw [Int32.lt_iff_toInt_lt] at h8
      have h7 : (off + sk) < e := by rw [Int32.lt_iff_toInt_lt]; omega
      have e1 : own_ry (off + sk) e = 1 := if_neg (fun q => q h7)
      have e2 : own_rd [(97 : Int32), (98 : Int32), (99 : Int32), (100 : Int32), (101 : Int32), (102 : Int32), (103 : Int32), (104 : Int32)] (off + sk) e = 97 + off + sk := by rw [show own_rd [(97 : Int32), (98 : Int32), (99 : Int32), (100 : Int32), (101 : Int32), (102 : Int32), (103 : Int32), (104 : Int32)] (off + sk) e = own_at [(97 : Int32), (98 : Int32), (99 : Int32), (100 : Int32), (101 : Int32), (102 : Int32), (103 : Int32), (104 : Int32)] (off + sk) from if_neg (fun q => q h7), own_chr _ (by omega) (by omega), Int32.add_assoc]
      refine own_iconst (1 : Int32) (pc' := 222) at_221 rfl rfl ?_
      refine own_goto (pc' := 226) at_222 (by decide) (by decide) ?_
      refine own_istore (pc' := 228) (Ls' := #[.val (.int x0), .val (.int x1), .val (.long x2), .second, .val (.ref s), .val (.int off), .val (.int len), .val (.int rm), .val (.int av), .val (.ref o), .val (.int (own_ry off e)), .val (.int sk), .val (.int (own_ry (off + sk) e)), .val (.int (own_rd [(97 : Int32), (98 : Int32), (99 : Int32), (100 : Int32), (101 : Int32), (102 : Int32), (103 : Int32), (104 : Int32)] (off + sk) e)), .val (.int (own_ry off e)), .val (.int (1 : Int32)), .val (.int (1 : Int32)), .unset]) at_226 rfl rfl ?_
      refine own_iload (pc' := 230) at_228 rfl rfl ?_
      refine own_if_eq_f (pc' := 233) at_230 (by decide) rfl ?_
      refine own_bipush (97 : Int32) (pc' := 235) at_233 rfl rfl ?_
      refine own_iload (pc' := 237) at_235 rfl rfl ?_
      refine own_iadd (pc' := 238) at_237 rfl ?_
      refine own_iload (pc' := 240) at_238 rfl rfl ?_
      refine own_iadd (pc' := 241) at_240 rfl ?_
      refine own_goto (pc' := 245) at_241 (by decide) (by decide) ?_
      refine own_istore (pc' := 247) (Ls' := #[.val (.int x0), .val (.int x1), .val (.long x2), .second, .val (.ref s), .val (.int off), .val (.int len), .val (.int rm), .val (.int av), .val (.ref o), .val (.int (own_ry off e)), .val (.int sk), .val (.int (own_ry (off + sk) e)), .val (.int (own_rd [(97 : Int32), (98 : Int32), (99 : Int32), (100 : Int32), (101 : Int32), (102 : Int32), (103 : Int32), (104 : Int32)] (off + sk) e)), .val (.int (own_ry off e)), .val (.int (1 : Int32)), .val (.int (1 : Int32)), .val (.int (((97 : Int32) + off) + sk))]) at_245 rfl rfl ?_
      refine own_iload (pc' := 249) at_247 rfl rfl ?_
      refine own_iload (pc' := 251) at_249 rfl rfl ?_
      refine own_ic_ne_f (pc' := 254) at_251 e0 rfl ?_
      refine own_iload (pc' := 256) at_254 rfl rfl ?_
      refine own_iload (pc' := 258) at_256 rfl rfl ?_
      refine own_ic_ne_f (pc' := 261) at_258 e1 rfl ?_
      refine own_iload (pc' := 263) at_261 rfl rfl ?_
      refine own_iload (pc' := 265) at_263 rfl rfl ?_
      refine own_ic_ne_f (pc' := 268) at_265 e2 rfl ?_
      refine own_iload (pc' := 270) at_268 rfl rfl ?_
      refine own_iload (pc' := 272) at_270 rfl rfl ?_
      refine own_ic_ne_f (pc' := 275) at_272 e0 rfl ?_
      refine own_iconst (1 : Int32) (pc' := 276) at_275 rfl rfl ?_
      refine own_goto (pc' := 280) at_276 (by decide) (by decide) ?_
      exact own_bret (v := (1 : Int32)) rfl (by first | rfl | decide | assumption) at_280 rfl
set_option maxRecDepth 65536 in
set_option maxHeartbeats 40000000 in
theorem own_law3 (l : Launch) (Z : State) (a0 : Array Value) (hw : ∀ d ∈ tables_1, d.before a0 Z = true) (x0 x1 : Int32) (x2 : Int64) (off len rm av : Int32) (s : Addr) (h0 : Heap) (n0 : Nat) (hn0 : n0 ≤ h0.size) (ho : 0 ≤ off.toInt ∧ off.toInt ≤ 8) (hl : 0 ≤ len.toInt ∧ off.toInt + len.toInt ≤ 2147483647) (hav : off.toInt + av.toInt = (own_min (off + len) 8).toInt) (hav0 : 0 ≤ av.toInt) (ge_s : n0 ≤ s) (A_s : own_A Z h0 s .char [.int (97 : Int32), .int (98 : Int32), .int (99 : Int32), .int (100 : Int32), .int (101 : Int32), .int (102 : Int32), .int (103 : Int32), .int (104 : Int32)]) (E_s : Exa Z h0 s "[C") :
    own_W l Z x code maxLocals ret room_1 n0 (fun v h => v = some (.int 1)) h0 1 8 118 #[.val (.int x0), .val (.int x1), .val (.long x2), .second, .val (.ref s), .val (.int off), .val (.int len), .val (.int rm), .unset, .unset, .unset, .unset, .unset, .unset, .unset, .unset, .unset, .unset] [.int av] := by
  have z0 : (0 : Int32).toInt = 0 := rfl
  have c8 : (8 : Int32).toInt = 8 := rfl
  have zl : (0 : Int64).toInt = 0 := rfl
  have a1 := c_iadd off len
  have a2 := rng32 (off + len)
  have he := own_min_i (off + len) 8
  rw [c8] at he
  refine own_istore (pc' := 120) (Ls' := #[.val (.int x0), .val (.int x1), .val (.long x2), .second, .val (.ref s), .val (.int off), .val (.int len), .val (.int rm), .val (.int av), .unset, .unset, .unset, .unset, .unset, .unset, .unset, .unset, .unset]) at_118 rfl rfl ?_
  refine own_new (pc' := 123) (hw _ (List.mem_of_getElem? (i := 2) rfl)) (hw _ (List.mem_of_getElem? (i := 3) rfl)) (hw _ (List.mem_of_getElem? (i := 4) rfl)) at_120 rfl (by decide) (by decide) (fun h43 o gt_o lt_o E44 E_o D_o => ?_)
  have ge_o : n0 ≤ o := Nat.le_trans hn0 gt_o
  have ne_s_o : s ≠ o := Nat.ne_of_lt (by have q := Nat.lt_of_lt_of_le A_s.lt (Nat.le_refl _); omega)
  replace A_s := A_s.ext E44
  replace E_s := E_s.ext E44
  replace hn0 : n0 ≤ h43.size := Nat.le_trans hn0 E44.1
  have F_o_skipBuffer : Fld Z h43 o "java/io/Reader" "skipBuffer" "[C" (.null) := D_o (Or.inl (hw _ (List.mem_of_getElem? (i := 17) rfl))) (ty := (.array .char)) (by decide)
  have F_o_lock : Fld Z h43 o "java/io/Reader" "lock" "Ljava/lang/Object;" (.null) := D_o (Or.inl (hw _ (List.mem_of_getElem? (i := 19) rfl))) (ty := (.object "java/lang/Object")) (by decide)
  have F_o_buf : Fld Z h43 o "charwell/array/ArrayCharReader" "buf" "[C" (.null) := D_o (Or.inl (hw _ (List.mem_of_getElem? (i := 35) rfl))) (ty := (.array .char)) (by decide)
  have F_o_pos : Fld Z h43 o "charwell/array/ArrayCharReader" "pos" "I" (.int (0 : Int32)) := D_o (Or.inl (hw _ (List.mem_of_getElem? (i := 37) rfl))) (ty := .int) (by decide)
  have F_o_end : Fld Z h43 o "charwell/array/ArrayCharReader" "end" "I" (.int (0 : Int32)) := D_o (Or.inr (hw _ (List.mem_of_getElem? (i := 43) rfl))) (ty := .int) (by decide)
  have F_o_markedPos : Fld Z h43 o "charwell/array/ArrayCharReader" "markedPos" "I" (.int (0 : Int32)) := D_o (Or.inl (hw _ (List.mem_of_getElem? (i := 45) rfl))) (ty := .int) (by decide)
  have ne_o_s : o ≠ s := Ne.symm ne_s_o
  refine own_dup (pc' := 124) at_123 rfl rfl ?_
  refine own_aload (pc' := 126) at_124 rfl rfl ?_
  refine own_iload (pc' := 128) at_126 rfl rfl ?_
  refine own_iload (pc' := 130) at_128 rfl rfl ?_
  refine own_special (ret' := none) (own_mk l Z a0 hw o s _ off len 8 h43 n0 hn0 rfl (by rw [Int32.lt_iff_toInt_lt, z0]; omega) (by rw [Int32.lt_iff_toInt_lt, c8]; omega) (by rw [Int32.lt_iff_toInt_lt, z0]; omega) (by rw [Int32.lt_iff_toInt_lt, z0]; omega) ge_o ne_o_s A_s E_s E_o F_o_skipBuffer F_o_lock F_o_buf F_o_pos F_o_end F_o_markedPos) (hw _ (List.mem_of_getElem? (i := 5) rfl)) (hw _ (List.mem_of_getElem? (i := 6) rfl)) (hw _ (List.mem_of_getElem? (i := 4) rfl)) (hw _ (List.mem_of_getElem? (i := 7) rfl)) rfl (plainFor_of_name own_pn1) (by decide) own_pd1 rfl (argsL := [.ref s, .int off, .int len]) (rest := [.ref o]) rfl rfl (W := 1) (Nat.le_refl _) (by decide) (by decide) (by decide) (by decide) rfl at_130 (pc' := 133) rfl (fun v_ h45 hq => ?_)
  obtain ⟨rfl, K_m, E_m, Fa_m, Fb_m, Fc_m, Fd_m⟩ := hq
  show own_W l Z x code maxLocals ret room_1 n0 (fun v h => v = some (.int 1)) h45 4 30 133 #[.val (.int x0), .val (.int x1), .val (.long x2), .second, .val (.ref s), .val (.int off), .val (.int len), .val (.int rm), .val (.int av), .unset, .unset, .unset, .unset, .unset, .unset, .unset, .unset, .unset] [.ref o]
  replace A_s := A_s.keep K_m (ninS ne_s_o nin0)
  replace E_s := E_s.keep K_m
  replace E_o := E_m
  clear F_o_skipBuffer
  clear F_o_lock
  replace F_o_buf := Fa_m
  replace F_o_pos := Fb_m
  replace F_o_end := Fc_m
  replace F_o_markedPos := Fd_m
  replace hn0 : n0 ≤ h45.size := Nat.le_trans hn0 K_m.1
  have he8 : (own_min (off + len) (8 : Int32)).toInt ≤ 8 := by rw [he]; split <;> omega
  have kk := own_skd_i x2 off (own_min (off + len) (8 : Int32)) ho.1 (by omega)
  refine own_astore (pc' := 135) (Ls' := #[.val (.int x0), .val (.int x1), .val (.long x2), .second, .val (.ref s), .val (.int off), .val (.int len), .val (.int rm), .val (.int av), .val (.ref o), .unset, .unset, .unset, .unset, .unset, .unset, .unset, .unset]) at_133 rfl rfl ?_
  refine own_aload (pc' := 137) at_135 rfl rfl ?_
  refine own_virtual (own_ryW l Z a0 hw o s off (own_min (off + len) (8 : Int32)) off h45 n0 hn0 E_o F_o_buf F_o_pos F_o_end F_o_markedPos) E_o (hw _ (List.mem_of_getElem? (i := 46) rfl)) (hw _ (List.mem_of_getElem? (i := 47) rfl)) (hw _ (List.mem_of_getElem? (i := 49) rfl)) (hw _ (List.mem_of_getElem? (i := 48) rfl)) (hw _ (List.mem_of_getElem? (i := 4) rfl)) (hw _ (List.mem_of_getElem? (i := 50) rfl)) (plainFor_of_name own_pn1) (by decide) own_pd5 rfl (argsL := []) (rest := []) rfl rfl (W := 0) (Nat.le_refl _) (by decide) (by decide) (by decide) (by decide) rfl at_137 (pc' := 140) rfl (fun v_ h46 hq => ?_)
  obtain ⟨rfl, rfl⟩ := hq
  show own_W l Z x code maxLocals ret room_1 n0 (fun v h => v = some (.int 1)) h45 4 30 140 #[.val (.int x0), .val (.int x1), .val (.long x2), .second, .val (.ref s), .val (.int off), .val (.int len), .val (.int rm), .val (.int av), .val (.ref o), .unset, .unset, .unset, .unset, .unset, .unset, .unset, .unset] [.int (own_ry off (own_min (off + len) (8 : Int32)))]
  refine own_istore (pc' := 142) (Ls' := #[.val (.int x0), .val (.int x1), .val (.long x2), .second, .val (.ref s), .val (.int off), .val (.int len), .val (.int rm), .val (.int av), .val (.ref o), .val (.int (own_ry off (own_min (off + len) (8 : Int32)))), .unset, .unset, .unset, .unset, .unset, .unset, .unset]) at_140 rfl rfl ?_
  refine own_aload (pc' := 144) at_142 rfl rfl ?_
  refine own_lloadN (pc' := 145) at_144 rfl rfl ?_
  refine own_virtual (own_skW l Z a0 hw o s off (own_min (off + len) (8 : Int32)) off x2 h45 n0 hn0 ge_o E_o F_o_buf F_o_pos F_o_end F_o_markedPos) E_o (hw _ (List.mem_of_getElem? (i := 55) rfl)) (hw _ (List.mem_of_getElem? (i := 56) rfl)) (hw _ (List.mem_of_getElem? (i := 58) rfl)) (hw _ (List.mem_of_getElem? (i := 57) rfl)) (hw _ (List.mem_of_getElem? (i := 4) rfl)) (hw _ (List.mem_of_getElem? (i := 59) rfl)) (plainFor_of_name own_pn1) (by decide) own_pd6 rfl (argsL := [.long x2]) (rest := []) rfl rfl (W := 0) (Nat.le_refl _) (by decide) (by decide) (by decide) (by decide) rfl at_145 (pc' := 148) rfl (fun v_ h47 hq => ?_)
  obtain ⟨rfl, K_k, E_k, Fa_k, Fb_k, Fc_k, Fd_k⟩ := hq
  show own_W l Z x code maxLocals ret room_1 n0 (fun v h => v = some (.int 1)) h47 4 30 148 #[.val (.int x0), .val (.int x1), .val (.long x2), .second, .val (.ref s), .val (.int off), .val (.int len), .val (.int rm), .val (.int av), .val (.ref o), .val (.int (own_ry off (own_min (off + len) (8 : Int32)))), .unset, .unset, .unset, .unset, .unset, .unset, .unset] [.long (own_skd x2 off (own_min (off + len) (8 : Int32))).toInt64]
  replace A_s := A_s.keep K_k (ninS ne_s_o nin0)
  replace E_s := E_s.keep K_k
  replace E_o := E_k
  replace F_o_buf := Fa_k
  replace F_o_pos := Fb_k
  replace F_o_end := Fc_k
  replace F_o_markedPos := Fd_k
  replace hn0 : n0 ≤ h47.size := Nat.le_trans hn0 K_k.1
  refine own_pop2L (pc' := 149) at_148 rfl ?_
  refine own_lloadN (pc' := 150) at_149 rfl rfl ?_
  refine own_lconst (0 : Int64) (pc' := 151) at_150 rfl rfl ?_
  refine own_lcmp (pc' := 152) at_151 rfl ?_
  have cav := c_i2l av
  have cl := c_l2i x2
  have rav := rng32 av
  have rx := rng32 x2.toInt32
  refine own_il_gt (pc' := 159) (pf := 155) at_152 (by decide) (by decide) rfl (fun h_152 => ?_) (fun h_152 => ?_)
  · have h1 := h_152
    rw [Int64.lt_iff_toInt_lt, zl] at h1
    refine own_lloadN (pc' := 160) at_159 rfl rfl ?_
    refine own_iload (pc' := 162) at_160 rfl rfl ?_
    refine own_i2l (pc' := 163) at_162 rfl ?_
    refine own_lcmp (pc' := 164) at_163 rfl ?_
    refine own_il_ge (pc' := 172) (pf := 167) at_164 (by decide) (by decide) rfl (fun h_164 => ?_) (fun h_164 => ?_)
    · have h2 := h_164
      rw [Int64.lt_iff_toInt_lt, cav] at h2
      refine own_iload (pc' := 174) at_172 rfl rfl ?_
      refine own_istore (pc' := 176) (Ls' := #[.val (.int x0), .val (.int x1), .val (.long x2), .second, .val (.ref s), .val (.int off), .val (.int len), .val (.int rm), .val (.int av), .val (.ref o), .val (.int (own_ry off (own_min (off + len) (8 : Int32)))), .val (.int av), .unset, .unset, .unset, .unset, .unset, .unset]) at_174 rfl rfl ?_
      have es : own_skd x2 off (own_min (off + len) (8 : Int32)) = av := by rw [← Int32.toInt_inj]; omega
      rw [es] at F_o_pos
      exact own_more (cells' := 4) (slots' := 30) (by decide) (by decide) (by decide) (by decide) (own_law4 l Z a0 hw x0 x1 x2 off len rm av (own_min (off + len) (8 : Int32)) av s o h47 n0 hn0 ho hav he8 hav0 (by rw [← es]; omega) ge_o ne_o_s A_s E_o F_o_buf F_o_pos F_o_end F_o_markedPos)
    · have h2 := h_164
      rw [Int64.lt_iff_toInt_lt, cav] at h2
      refine own_lloadN (pc' := 168) at_167 rfl rfl ?_
      refine own_l2i (pc' := 169) at_168 rfl ?_
      refine own_goto (pc' := 174) at_169 (by decide) (by decide) ?_
      refine own_istore (pc' := 176) (Ls' := #[.val (.int x0), .val (.int x1), .val (.long x2), .second, .val (.ref s), .val (.int off), .val (.int len), .val (.int rm), .val (.int av), .val (.ref o), .val (.int (own_ry off (own_min (off + len) (8 : Int32)))), .val (.int (x2.toInt32)), .unset, .unset, .unset, .unset, .unset, .unset]) at_174 rfl rfl ?_
      have es : own_skd x2 off (own_min (off + len) (8 : Int32)) = x2.toInt32 := by rw [← Int32.toInt_inj]; omega
      rw [es] at F_o_pos
      exact own_more (cells' := 4) (slots' := 30) (by decide) (by decide) (by decide) (by decide) (own_law4 l Z a0 hw x0 x1 x2 off len rm av (own_min (off + len) (8 : Int32)) x2.toInt32 s o h47 n0 hn0 ho hav he8 hav0 (by rw [← es]; omega) ge_o ne_o_s A_s E_o F_o_buf F_o_pos F_o_end F_o_markedPos)
  · have h1 := h_152
    rw [Int64.lt_iff_toInt_lt, zl] at h1
    refine own_iconst (0 : Int32) (pc' := 156) at_155 rfl rfl ?_
    refine own_goto (pc' := 174) at_156 (by decide) (by decide) ?_
    refine own_istore (pc' := 176) (Ls' := #[.val (.int x0), .val (.int x1), .val (.long x2), .second, .val (.ref s), .val (.int off), .val (.int len), .val (.int rm), .val (.int av), .val (.ref o), .val (.int (own_ry off (own_min (off + len) (8 : Int32)))), .val (.int (0 : Int32)), .unset, .unset, .unset, .unset, .unset, .unset]) at_174 rfl rfl ?_
    have es : own_skd x2 off (own_min (off + len) (8 : Int32)) = 0 := by rw [← Int32.toInt_inj]; omega
    rw [es] at F_o_pos
    exact own_more (cells' := 4) (slots' := 30) (by decide) (by decide) (by decide) (by decide) (own_law4 l Z a0 hw x0 x1 x2 off len rm av (own_min (off + len) (8 : Int32)) 0 s o h47 n0 hn0 ho hav he8 hav0 (by rw [← es]; omega) ge_o ne_o_s A_s E_o F_o_buf F_o_pos F_o_end F_o_markedPos)
set_option maxRecDepth 65536 in
set_option maxHeartbeats 40000000 in
theorem own_law2 (l : Launch) (Z : State) (a0 : Array Value) (hw : ∀ d ∈ tables_1, d.before a0 Z = true) (x0 x1 : Int32) (x2 : Int64) (off len : Int32) (s : Addr) (h0 : Heap) (n0 : Nat) (hn0 : n0 ≤ h0.size) (ho : 0 ≤ off.toInt ∧ off.toInt ≤ 8) (hl : 0 ≤ len.toInt ∧ off.toInt + len.toInt ≤ 2147483647) (ge_s : n0 ≤ s) (A_s : own_A Z h0 s .char [.int (97 : Int32), .int (98 : Int32), .int (99 : Int32), .int (100 : Int32), .int (101 : Int32), .int (102 : Int32), .int (103 : Int32), .int (104 : Int32)]) (E_s : Exa Z h0 s "[C") :
    own_W l Z x code maxLocals ret room_1 n0 (fun v h => v = some (.int 1)) h0 1 8 97 #[.val (.int x0), .val (.int x1), .val (.long x2), .second, .val (.ref s), .val (.int off), .val (.int len), .unset, .unset, .unset, .unset, .unset, .unset, .unset, .unset, .unset, .unset, .unset] [] := by
  have c8 : (8 : Int32).toInt = 8 := rfl
  have a1 := c_isub 8 off
  have a2 := rng32 (8 - off)
  have b1 := c_iadd off len
  have b2 := rng32 (off + len)
  have he := own_min_i (off + len) 8
  rw [c8] at he a1
  refine own_bipush (8 : Int32) (pc' := 99) at_97 rfl rfl ?_
  refine own_iload (pc' := 101) at_99 rfl rfl ?_
  refine own_isub (pc' := 102) at_101 rfl ?_
  refine own_istore (pc' := 104) (Ls' := #[.val (.int x0), .val (.int x1), .val (.long x2), .second, .val (.ref s), .val (.int off), .val (.int len), .val (.int ((8 : Int32) - off)), .unset, .unset, .unset, .unset, .unset, .unset, .unset, .unset, .unset, .unset]) at_102 rfl rfl ?_
  refine own_iload (pc' := 106) at_104 rfl rfl ?_
  refine own_iload (pc' := 108) at_106 rfl rfl ?_
  refine own_ic_ge (pc' := 116) (pf := 111) at_108 (by decide) (by decide) rfl (fun h_108 => ?_) (fun h_108 => ?_)
  · have h1 := h_108
    rw [Int32.lt_iff_toInt_lt] at h1
    refine own_iload (pc' := 118) at_116 rfl rfl ?_
    exact own_law3 l Z a0 hw x0 x1 x2 off len _ _ s h0 n0 hn0 ho hl (by rw [he]; split <;> omega) (by omega) ge_s A_s E_s
  · have h1 := h_108
    rw [Int32.lt_iff_toInt_lt] at h1
    refine own_iload (pc' := 113) at_111 rfl rfl ?_
    refine own_goto (pc' := 118) at_113 (by decide) (by decide) ?_
    exact own_law3 l Z a0 hw x0 x1 x2 off len _ _ s h0 n0 hn0 ho hl (by rw [he]; split <;> omega) (by omega) ge_s A_s E_s
theorem own_off (u : Int32) : 0 ≤ ((u &&& 2147483647) % 9).toInt ∧ ((u &&& 2147483647) % 9).toInt ≤ 8 := by
  have h1 := (c_and u 2147483647 (by decide)).1
  have h2 := (c_irem (u &&& 2147483647) 9 9 rfl).1 h1
  generalize (u &&& 2147483647) % 9 = off at *
  generalize (u &&& 2147483647) = w at *
  omega
theorem own_a1 (off : Int32) : ((2147483647 - off).toInt - (2147483647 - off.toInt)) % 4294967296 = 0 := by
  have a := c_isub 2147483647 off
  rw [show (2147483647 : Int32).toInt = 2147483647 from rfl] at a
  exact a
theorem own_q (d off x : Int32) (a1 : (d.toInt - (2147483647 - off.toInt)) % 4294967296 = 0) (ho : 0 ≤ off.toInt ∧ off.toInt ≤ 8) (h4 : ¬ d.toInt < x.toInt) : off.toInt + x.toInt ≤ 2147483647 := by
  have := rng32 d
  omega
theorem own_q2 (d off : Int32) (a1 : (d.toInt - (2147483647 - off.toInt)) % 4294967296 = 0) (ho : 0 ≤ off.toInt ∧ off.toInt ≤ 8) : 0 ≤ d.toInt ∧ off.toInt + d.toInt ≤ 2147483647 := by
  have := rng32 d
  omega
theorem own_15 (u off : Int32) (ho : 0 ≤ off.toInt ∧ off.toInt ≤ 8) : 0 ≤ (u &&& 15).toInt ∧ off.toInt + (u &&& 15).toInt ≤ 2147483647 := by
  have h := c_and u 15 (by decide)
  rw [show (15 : Int32).toInt = 15 from rfl] at h
  generalize (u &&& 15) = w at *
  omega
set_option maxRecDepth 65536 in
set_option maxHeartbeats 40000000 in
theorem own_law (l : Launch) (Z : State) (a0 : Array Value) (hw : ∀ d ∈ tables_1, d.before a0 Z = true) (x0 x1 : Int32) (x2 : Int64) (h0 : Heap) (n0 : Nat) (hn0 : n0 ≤ h0.size) :
    own_W l Z x code maxLocals ret room_1 n0 (fun v h => v = some (.int 1)) h0 0 0 0 #[.val (.int x0), .val (.int x1), .val (.long x2), .second, .unset, .unset, .unset, .unset, .unset, .unset, .unset, .unset, .unset, .unset, .unset, .unset, .unset, .unset] [] := by
  refine own_bipush (8 : Int32) (pc' := 2) at_0 rfl rfl ?_
  refine own_newarrE (pc' := 4) (ty := .char) (cap := 8) (hw _ (List.mem_of_getElem? (i := 0) rfl)) rfl at_2 rfl (by decide) (by decide) (by decide) (by decide) (by decide) (fun h48 s gt_s lt_s E49 A_s E_s => ?_)
  replace E_s : Exa Z h48 s "[C" := (show ("[" ++ FieldType.toString .char) = "[C" from by decide) ▸ E_s
  have ge_s : n0 ≤ s := Nat.le_trans hn0 gt_s
  replace hn0 : n0 ≤ h48.size := Nat.le_trans hn0 E49.1
  replace A_s : own_A Z h48 s .char [.int (0 : Int32), .int (0 : Int32), .int (0 : Int32), .int (0 : Int32), .int (0 : Int32), .int (0 : Int32), .int (0 : Int32), .int (0 : Int32)] := A_s.cast rfl
  refine own_dup (pc' := 5) at_4 rfl rfl ?_
  refine own_iconst (0 : Int32) (pc' := 6) at_5 rfl rfl ?_
  refine own_bipush (97 : Int32) (pc' := 8) at_6 rfl rfl ?_
  refine own_castore (pc' := 9) A_s (by decide) (by first | decide | (simp only [List.length_cons, List.length_nil, List.length_set, List.length_replicate]; decide)) ge_s at_8 rfl (fun h50 K51 A_new => ?_)
  replace E_s := E_s.keep K51
  replace hn0 : n0 ≤ h50.size := Nat.le_trans hn0 K51.1
  replace A_s : own_A Z h50 s .char [.int (97 : Int32), .int (0 : Int32), .int (0 : Int32), .int (0 : Int32), .int (0 : Int32), .int (0 : Int32), .int (0 : Int32), .int (0 : Int32)] := A_new.cast (by rw [show nar .char (97 : Int32) = (97 : Int32) from by decide]; rfl)
  refine own_dup (pc' := 10) at_9 rfl rfl ?_
  refine own_iconst (1 : Int32) (pc' := 11) at_10 rfl rfl ?_
  refine own_bipush (98 : Int32) (pc' := 13) at_11 rfl rfl ?_
  refine own_castore (pc' := 14) A_s (by decide) (by first | decide | (simp only [List.length_cons, List.length_nil, List.length_set, List.length_replicate]; decide)) ge_s at_13 rfl (fun h52 K53 A_new => ?_)
  replace E_s := E_s.keep K53
  replace hn0 : n0 ≤ h52.size := Nat.le_trans hn0 K53.1
  replace A_s : own_A Z h52 s .char [.int (97 : Int32), .int (98 : Int32), .int (0 : Int32), .int (0 : Int32), .int (0 : Int32), .int (0 : Int32), .int (0 : Int32), .int (0 : Int32)] := A_new.cast (by rw [show nar .char (98 : Int32) = (98 : Int32) from by decide]; rfl)
  refine own_dup (pc' := 15) at_14 rfl rfl ?_
  refine own_iconst (2 : Int32) (pc' := 16) at_15 rfl rfl ?_
  refine own_bipush (99 : Int32) (pc' := 18) at_16 rfl rfl ?_
  refine own_castore (pc' := 19) A_s (by decide) (by first | decide | (simp only [List.length_cons, List.length_nil, List.length_set, List.length_replicate]; decide)) ge_s at_18 rfl (fun h54 K55 A_new => ?_)
  replace E_s := E_s.keep K55
  replace hn0 : n0 ≤ h54.size := Nat.le_trans hn0 K55.1
  replace A_s : own_A Z h54 s .char [.int (97 : Int32), .int (98 : Int32), .int (99 : Int32), .int (0 : Int32), .int (0 : Int32), .int (0 : Int32), .int (0 : Int32), .int (0 : Int32)] := A_new.cast (by rw [show nar .char (99 : Int32) = (99 : Int32) from by decide]; rfl)
  refine own_dup (pc' := 20) at_19 rfl rfl ?_
  refine own_iconst (3 : Int32) (pc' := 21) at_20 rfl rfl ?_
  refine own_bipush (100 : Int32) (pc' := 23) at_21 rfl rfl ?_
  refine own_castore (pc' := 24) A_s (by decide) (by first | decide | (simp only [List.length_cons, List.length_nil, List.length_set, List.length_replicate]; decide)) ge_s at_23 rfl (fun h56 K57 A_new => ?_)
  replace E_s := E_s.keep K57
  replace hn0 : n0 ≤ h56.size := Nat.le_trans hn0 K57.1
  replace A_s : own_A Z h56 s .char [.int (97 : Int32), .int (98 : Int32), .int (99 : Int32), .int (100 : Int32), .int (0 : Int32), .int (0 : Int32), .int (0 : Int32), .int (0 : Int32)] := A_new.cast (by rw [show nar .char (100 : Int32) = (100 : Int32) from by decide]; rfl)
  refine own_dup (pc' := 25) at_24 rfl rfl ?_
  refine own_iconst (4 : Int32) (pc' := 26) at_25 rfl rfl ?_
  refine own_bipush (101 : Int32) (pc' := 28) at_26 rfl rfl ?_
  refine own_castore (pc' := 29) A_s (by decide) (by first | decide | (simp only [List.length_cons, List.length_nil, List.length_set, List.length_replicate]; decide)) ge_s at_28 rfl (fun h58 K59 A_new => ?_)
  replace E_s := E_s.keep K59
  replace hn0 : n0 ≤ h58.size := Nat.le_trans hn0 K59.1
  replace A_s : own_A Z h58 s .char [.int (97 : Int32), .int (98 : Int32), .int (99 : Int32), .int (100 : Int32), .int (101 : Int32), .int (0 : Int32), .int (0 : Int32), .int (0 : Int32)] := A_new.cast (by rw [show nar .char (101 : Int32) = (101 : Int32) from by decide]; rfl)
  refine own_dup (pc' := 30) at_29 rfl rfl ?_
  refine own_iconst (5 : Int32) (pc' := 31) at_30 rfl rfl ?_
  refine own_bipush (102 : Int32) (pc' := 33) at_31 rfl rfl ?_
  refine own_castore (pc' := 34) A_s (by decide) (by first | decide | (simp only [List.length_cons, List.length_nil, List.length_set, List.length_replicate]; decide)) ge_s at_33 rfl (fun h60 K61 A_new => ?_)
  replace E_s := E_s.keep K61
  replace hn0 : n0 ≤ h60.size := Nat.le_trans hn0 K61.1
  replace A_s : own_A Z h60 s .char [.int (97 : Int32), .int (98 : Int32), .int (99 : Int32), .int (100 : Int32), .int (101 : Int32), .int (102 : Int32), .int (0 : Int32), .int (0 : Int32)] := A_new.cast (by rw [show nar .char (102 : Int32) = (102 : Int32) from by decide]; rfl)
  refine own_dup (pc' := 35) at_34 rfl rfl ?_
  refine own_bipush (6 : Int32) (pc' := 37) at_35 rfl rfl ?_
  refine own_bipush (103 : Int32) (pc' := 39) at_37 rfl rfl ?_
  refine own_castore (pc' := 40) A_s (by decide) (by first | decide | (simp only [List.length_cons, List.length_nil, List.length_set, List.length_replicate]; decide)) ge_s at_39 rfl (fun h62 K63 A_new => ?_)
  replace E_s := E_s.keep K63
  replace hn0 : n0 ≤ h62.size := Nat.le_trans hn0 K63.1
  replace A_s : own_A Z h62 s .char [.int (97 : Int32), .int (98 : Int32), .int (99 : Int32), .int (100 : Int32), .int (101 : Int32), .int (102 : Int32), .int (103 : Int32), .int (0 : Int32)] := A_new.cast (by rw [show nar .char (103 : Int32) = (103 : Int32) from by decide]; rfl)
  refine own_dup (pc' := 41) at_40 rfl rfl ?_
  refine own_bipush (7 : Int32) (pc' := 43) at_41 rfl rfl ?_
  refine own_bipush (104 : Int32) (pc' := 45) at_43 rfl rfl ?_
  refine own_castore (pc' := 46) A_s (by decide) (by first | decide | (simp only [List.length_cons, List.length_nil, List.length_set, List.length_replicate]; decide)) ge_s at_45 rfl (fun h64 K65 A_new => ?_)
  replace E_s := E_s.keep K65
  replace hn0 : n0 ≤ h64.size := Nat.le_trans hn0 K65.1
  replace A_s : own_A Z h64 s .char [.int (97 : Int32), .int (98 : Int32), .int (99 : Int32), .int (100 : Int32), .int (101 : Int32), .int (102 : Int32), .int (103 : Int32), .int (104 : Int32)] := A_new.cast (by rw [show nar .char (104 : Int32) = (104 : Int32) from by decide]; rfl)
  refine own_astore (pc' := 48) (Ls' := #[.val (.int x0), .val (.int x1), .val (.long x2), .second, .val (.ref s), .unset, .unset, .unset, .unset, .unset, .unset, .unset, .unset, .unset, .unset, .unset, .unset, .unset]) at_46 rfl rfl ?_
  refine own_iloadN (pc' := 49) at_48 rfl rfl ?_
  refine own_ldcI (pc' := 51) (u := (2147483647 : Int32)) (hw _ (List.mem_of_getElem? (i := 1) rfl)) at_49 rfl ?_
  refine own_iand (pc' := 52) at_51 rfl ?_
  refine own_bipush (9 : Int32) (pc' := 54) at_52 rfl rfl ?_
  refine own_irem (pc' := 55) at_54 rfl (by decide) ?_
  generalize ho_ : ((x0 &&& (2147483647 : Int32)) % (9 : Int32)) = off
  have ho := own_off x0
  rw [ho_] at ho
  refine own_istore (pc' := 57) (Ls' := #[.val (.int x0), .val (.int x1), .val (.long x2), .second, .val (.ref s), .val (.int off), .unset, .unset, .unset, .unset, .unset, .unset, .unset, .unset, .unset, .unset, .unset, .unset]) at_55 rfl rfl ?_
  refine own_iloadN (pc' := 58) at_57 rfl rfl ?_
  refine own_iconst (1 : Int32) (pc' := 59) at_58 rfl rfl ?_
  refine own_iand (pc' := 60) at_59 rfl ?_
  refine own_if_eq (pc' := 74) (pf := 63) at_60 (by decide) (by decide) rfl (fun h_60 => ?_) (fun h_60 => ?_)
  · refine own_iloadN (pc' := 75) at_74 rfl rfl ?_
    refine own_ldcI (pc' := 77) (u := (2147483647 : Int32)) (hw _ (List.mem_of_getElem? (i := 1) rfl)) at_75 rfl ?_
    refine own_iand (pc' := 78) at_77 rfl ?_
    refine own_istore (pc' := 80) (Ls' := #[.val (.int x0), .val (.int x1), .val (.long x2), .second, .val (.ref s), .val (.int off), .val (.int (x1 &&& (2147483647 : Int32))), .unset, .unset, .unset, .unset, .unset, .unset, .unset, .unset, .unset, .unset, .unset]) at_78 rfl rfl ?_
    refine own_iload (pc' := 82) at_80 rfl rfl ?_
    refine own_ldcI (pc' := 84) (u := (2147483647 : Int32)) (hw _ (List.mem_of_getElem? (i := 1) rfl)) at_82 rfl ?_
    refine own_iload (pc' := 86) at_84 rfl rfl ?_
    refine own_isub (pc' := 87) at_86 rfl ?_
    refine own_ic_le (pc' := 97) (pf := 90) at_87 (by decide) (by decide) rfl (fun h_87 => ?_) (fun h_87 => ?_)
    · exact own_law2 l Z a0 hw x0 x1 x2 off (x1 &&& 2147483647) s h64 n0 hn0 ho ⟨(c_and x1 2147483647 (by decide)).1, own_q _ off _ (own_a1 off) ho (fun q => h_87 (Int32.lt_iff_toInt_lt.mpr q))⟩ ge_s A_s E_s
    · refine own_ldcI (pc' := 92) (u := (2147483647 : Int32)) (hw _ (List.mem_of_getElem? (i := 1) rfl)) at_90 rfl ?_
      refine own_iload (pc' := 94) at_92 rfl rfl ?_
      refine own_isub (pc' := 95) at_94 rfl ?_
      refine own_istore (pc' := 97) (Ls' := #[.val (.int x0), .val (.int x1), .val (.long x2), .second, .val (.ref s), .val (.int off), .val (.int ((2147483647 : Int32) - off)), .unset, .unset, .unset, .unset, .unset, .unset, .unset, .unset, .unset, .unset, .unset]) at_95 rfl rfl ?_
      exact own_law2 l Z a0 hw x0 x1 x2 off (2147483647 - off) s h64 n0 hn0 ho (own_q2 _ off (own_a1 off) ho) ge_s A_s E_s
  · refine own_iloadN (pc' := 64) at_63 rfl rfl ?_
    refine own_iconst (1 : Int32) (pc' := 65) at_64 rfl rfl ?_
    refine own_iushr (pc' := 66) at_65 rfl ?_
    refine own_bipush (15 : Int32) (pc' := 68) at_66 rfl rfl ?_
    refine own_iand (pc' := 69) at_68 rfl ?_
    refine own_istore (pc' := 71) (Ls' := #[.val (.int x0), .val (.int x1), .val (.long x2), .second, .val (.ref s), .val (.int off), .val (.int ((XT.ushr x1 (1 : Int32)) &&& (15 : Int32))), .unset, .unset, .unset, .unset, .unset, .unset, .unset, .unset, .unset, .unset, .unset]) at_69 rfl rfl ?_
    refine own_goto (pc' := 97) at_71 (by decide) (by decide) ?_
    exact own_law2 l Z a0 hw x0 x1 x2 off _ s h64 n0 hn0 ho (own_15 _ off ho) ge_s A_s E_s
set_option maxRecDepth 65536 in
set_option maxHeartbeats 40000000 in
theorem comes_1 {Post : Tables → Env → Array Value → State → Outcome → State → Prop} (hpost : ∀ tb e args s v u, (limb_1_1.after args s (.returned v) u = true ∧ limb_1_2.after args s (.returned v) u = true ∧ True) → ReturnedEndW s (.returned v) u (Jvm.fieldLocs frame_1_writes args s ++ Jvm.arrayLocs frame_1_arrays args s ++ Jvm.staticLocs frame_1_statics s) 16 1152 → Post tb e args s (.returned v) u) :
    ArmFor flags0 classFile x code maxLocals ret World_1 tables_1 room_1 Calls_1 rest_1 Pre_1 Post := by
  intro l hfl _ _ p e ha hc hk s m args below hf hA hF happ hP
  obtain ⟨hcalls, hrest, hpre⟩ := hP
  obtain ⟨-, -, -, hnamed, -, -, -, hat⟩ := (Spec.applies_iff hf).mp happ
  obtain ⟨hg, hn⟩ := and_e (Cond.before_iff.mp (show (Jvm.Cond.and given_1 narrow_1).before args s = true from hpre))
  obtain ⟨hcount, hg0⟩ := and_e hg
  obtain ⟨w0, w1, w2, rfl⟩ : ∃ w0 w1 w2 : Value, args = #[w0, w1, w2] := by
    have hs : args.size = 3 := by simpa [Cond.value, given_1] using hcount
    obtain ⟨L⟩ := args
    match L, hs with
    | [w0, w1, w2], _ => exact ⟨w0, w1, w2, rfl⟩
  have hw := fun d (hd : d ∈ tables_1) => atoms_spec (ws := Jvm.Cond.code x code maxLocals ret :: tables_1) hat d (List.mem_cons_of_mem _ hd)
  obtain ⟨hg0v, hg1⟩ := and_e hg0
  obtain ⟨x0, e0⟩ := is_v hg0v
  obtain rfl : w0 = (.int x0) := Option.some.inj e0
  obtain ⟨hg1v, hg2⟩ := and_e hg1
  obtain ⟨x1, e1⟩ := is_v hg1v
  obtain rfl : w1 = (.int x1) := Option.some.inj e1
  obtain ⟨x2, e2⟩ := isL_v hg2
  obtain rfl : w2 = (.long x2) := Option.some.inj e2
  obtain ⟨n, o, h1, h2, h3, _, L, rfl, ⟨hq1, N⟩, hq⟩ := own_met (argsL := [.int x0, .int x1, .long x2]) (own_law l s _ hw x0 x1 x2 s.heap s.heap.size (Nat.le_refl _)) (plainFor_of_name own_pn0) rfl tables_1 p e ha hc hk s m _ below hf ((Spec.applies_iff_loose hf).mp happ).1 ⟨rfl, State.Warmed39.refl s, rfl⟩ trivial
  subst hq1
  refine ⟨n, _, h1, h2, h3, hpost _ _ _ _ _ _ ⟨Cond.after_iff.mpr rfl, Cond.after_iff.mpr (eq_i res_at (Term.int_eval (1)) rfl), trivial⟩ ⟨hq.1, hq.2.1, hq.2.2.1, (hq.2.2.2.sift fun y hy => Or.inr (N y hy)).mono (by decide) (by decide)⟩⟩
theorem main_1_1 : Claimed_1_1 := comes_1 fun _ _ _ _ _ _ h hF => ⟨h.1, hF⟩
theorem main_1_2 : Claimed_1_2 := comes_1 fun _ _ _ _ _ _ h hF => ⟨h.2.1, hF⟩
end Jvm.Pilot.@@N@@
namespace Jvm.Pilot.@@N@@
open Jvm Jvm.ClassFile Sem Op Lib Jvm.Free Jvm.Stand Jvm.Pilot.@@N@@.Jvm.D
/-! MADE BY PROGRAM (witnessworld.py) out of the Statement's table words and the real class files: 22 classes; the members and pool entries that the words name. The judged class is class 1, her method 1. -/
namespace start1
open Jvm.ClassFile
def u (s : String) : CpInfo := .utf8 (stringToUtf16 s)
/-- a pool by its gaps: so many unusable entries, then the entry; so many at the end -/
def gap : Nat → List CpInfo → List CpInfo
  | 0, r => r
  | n + 1, r => .unusable :: gap n r
def poolList (es : List (Nat × CpInfo)) (last : Nat) : List CpInfo := es.foldr (fun e r => gap e.1 (e.2 :: r)) (gap last [])
def pool (es : List (Nat × CpInfo)) (last : Nat) : Array CpInfo := ⟨poolList es last⟩
def fileOf (pool : Array CpInfo) (this : Nat) (attrs : Array Attribute := #[]) (ms : Array MethodInfo := #[]) (fl : Nat := 33) (sup : Nat := 0) (ifs : Array Nat := #[]) (fds : Array FieldInfo := #[]) : ClassFile where
  minorVersion := 0
  majorVersion := 65
  constantPool := pool
  accessFlags := fl
  thisClass := this
  superClass := sup
  interfaces := ifs
  fields := fds
  methods := ms
  attributes := attrs
def plain (name : String) (sup : Option ClassId) : Class where
  name := name
  kind := .ordinary
  loader := none
  accessFlags := 33
  super := sup
  interfaces := #[]
  cf := none
  fields := #[]
  methods := #[]
  instanceTypes := #[]
  staticTypes := #[]
  resolved := #[]
  callSites := []
  init := .initialized
  statics := none
  mirror := none

def pool0 : Array CpInfo := pool [(5, u "<init>"), (0, u "()V"), (1, .class_ 10), (1, u "java/lang/Object")] 113

def k0c0 : Code := { maxStack := 0, maxLocals := 1, code := object_method_1_code, exceptionTable := #[], attributes := #[] }
def k0m0 : Method := { name := "<init>", desc := "()V", sig := { parameters := [], returnType := none }, accessFlags := 1, code := some k0c0 }
/-- java/lang/Object -/
def k0 : Class := { plain "java/lang/Object" none with
  accessFlags := 33
  interfaces := #[]
  cf := some (fileOf pool0 8 #[] #[{ accessFlags := 1, nameIndex := 5, descriptorIndex := 6, attributes := #[] }] 33 0 #[] #[])
  fields := #[]
  methods := #[k0m0]
  instanceTypes := #[]
  staticTypes := #[]
  resolved := Array.replicate 124 none
  statics := none }

def pool1 : Array CpInfo := pool [(2, .class_ 4), (1, u "java/lang/Object"), (0, u "<init>"), (0, u "()V"), (0, .integer 2147483647), (0, .class_ 9), (0, u "charwell/array/ArrayCharReader"), (0, .methodref 8 11), (0, .nameAndType 5 12), (0, u "([CII)V"), (0, .methodref 8 14), (0, .nameAndType 15 16), (0, u "ready"), (0, u "()Z"), (0, .methodref 8 18), (0, .nameAndType 19 20), (0, u "skip"), (0, u "(J)J"), (0, .methodref 8 22), (0, .nameAndType 23 24), (0, u "read"), (0, u "()I"), (0, .methodref 8 26), (0, .nameAndType 27 6), (0, u "reset"), (0, .class_ 29), (0, u "charwell/array/ArrayCharReaderReadyPinLaw"), (2, u "law"), (0, u "(IIJ)Z")] 8

def k1m0 : Method := { name := "<init>", desc := "()V", sig := { parameters := [], returnType := none }, accessFlags := 1, code := none }
def k1c1 : Code := { maxStack := 5, maxLocals := 18, code := code, exceptionTable := #[], attributes := #[] }
def k1m1 : Method := { name := "law", desc := "(IIJ)Z", sig := { parameters := [.int, .int, .long], returnType := some .boolean }, accessFlags := 9, code := some k1c1 }
/-- charwell/array/ArrayCharReaderReadyPinLaw -/
def k1 : Class := { plain "charwell/array/ArrayCharReaderReadyPinLaw" (some 0) with
  accessFlags := 49
  interfaces := #[]
  cf := some (fileOf pool1 28 #[] #[{ accessFlags := 1, nameIndex := 5, descriptorIndex := 6, attributes := #[] }, { accessFlags := 9, nameIndex := 32, descriptorIndex := 33, attributes := #[] }] 49 2 #[] #[])
  fields := #[]
  methods := #[k1m0, k1m1]
  instanceTypes := #[]
  staticTypes := #[]
  resolved := Array.replicate 42 none
  statics := none }

def pool2 : Array CpInfo := pool [(1, .class_ 2), (0, u "java/lang/Readable"), (0, .class_ 4), (0, u "java/lang/Object")] 7

/-- java/lang/Readable -/
def k2 : Class := { plain "java/lang/Readable" (some 0) with
  accessFlags := 1537
  interfaces := #[]
  cf := some (fileOf pool2 1 #[] #[] 1537 3 #[] #[])
  fields := #[]
  methods := #[]
  instanceTypes := #[]
  staticTypes := #[]
  resolved := Array.replicate 12 none
  statics := none }

def pool3 : Array CpInfo := pool [(1, .class_ 2), (0, u "java/lang/AutoCloseable"), (0, .class_ 4), (0, u "java/lang/Object")] 7

/-- java/lang/AutoCloseable -/
def k3 : Class := { plain "java/lang/AutoCloseable" (some 0) with
  accessFlags := 1537
  interfaces := #[]
  cf := some (fileOf pool3 1 #[] #[] 1537 3 #[] #[])
  fields := #[]
  methods := #[]
  instanceTypes := #[]
  staticTypes := #[]
  resolved := Array.replicate 12 none
  statics := none }

def pool4 : Array CpInfo := pool [(1, .class_ 2), (0, u "java/io/Closeable"), (0, .class_ 4), (0, u "java/lang/Object"), (0, .class_ 6), (0, u "java/lang/AutoCloseable")] 7

/-- java/io/Closeable -/
def k4 : Class := { plain "java/io/Closeable" (some 0) with
  accessFlags := 1537
  interfaces := #[3]
  cf := some (fileOf pool4 1 #[] #[] 1537 3 #[5] #[])
  fields := #[]
  methods := #[]
  instanceTypes := #[]
  staticTypes := #[]
  resolved := Array.replicate 14 none
  statics := none }

def pool5 : Array CpInfo := pool [(1, .class_ 2), (0, u "java/io/Reader$1"), (1, .nameAndType 5 6), (0, u "<init>"), (0, u "()V"), (0, .methodref 8 4), (0, .class_ 9), (0, u "java/lang/Object"), (0, .fieldref 11 12), (0, .class_ 13), (0, .nameAndType 14 15), (0, u "java/io/Reader"), (0, u "skipBuffer"), (0, u "[C"), (0, .fieldref 11 17), (0, .nameAndType 18 19), (0, u "lock"), (0, u "Ljava/lang/Object;"), (117, .class_ 138), (0, u "java/lang/Readable"), (0, .class_ 140), (0, u "java/io/Closeable"), (0, u "TRANSFER_BUFFER_SIZE"), (0, u "I"), (2, u "maxSkipBufferSize")] 59

def k5c0 : Code := { maxStack := 2, maxLocals := 1, code := jdk_2043_method_2_code, exceptionTable := #[], attributes := #[] }
def k5m0 : Method := { name := "<init>", desc := "()V", sig := { parameters := [], returnType := none }, accessFlags := 4, code := some k5c0 }
/-- java/io/Reader -/
def k5 : Class := { plain "java/io/Reader" (some 0) with
  accessFlags := 1057
  interfaces := #[2, 4]
  cf := some (fileOf pool5 11 #[.nestMembers #[1]] #[{ accessFlags := 4, nameIndex := 5, descriptorIndex := 6, attributes := #[] }] 1057 8 #[137, 139] #[{ accessFlags := 26, nameIndex := 141, descriptorIndex := 142, attributes := #[] }, { accessFlags := 4, nameIndex := 18, descriptorIndex := 19, attributes := #[] }, { accessFlags := 26, nameIndex := 145, descriptorIndex := 142, attributes := #[] }, { accessFlags := 2, nameIndex := 14, descriptorIndex := 15, attributes := #[] }])
  fields := #[{ name := "TRANSFER_BUFFER_SIZE", type := .int, accessFlags := 26, slot := 0, constantValue := 0 }, { name := "lock", type := (.object "java/lang/Object"), accessFlags := 4, slot := 0, constantValue := 0 }, { name := "maxSkipBufferSize", type := .int, accessFlags := 26, slot := 1, constantValue := 0 }, { name := "skipBuffer", type := (.array .char), accessFlags := 2, slot := 1, constantValue := 0 }]
  methods := #[k5m0]
  instanceTypes := #[(.object "java/lang/Object"), (.array .char)]
  staticTypes := #[.int, .int]
  resolved := Array.replicate 205 none
  statics := none }

def pool6 : Array CpInfo := pool [(1, .string 2), (0, u "buf"), (0, .methodref 4 5), (0, .class_ 6), (0, .nameAndType 7 8), (0, u "java/util/Objects"), (0, u "requireNonNull"), (0, u "(Ljava/lang/Object;Ljava/lang/String;)Ljava/lang/Object;"), (0, .class_ 10), (0, u "[C"), (1, .class_ 14), (1, u "charwell/array/ArrayCharReader"), (0, u "<init>"), (0, u "([CII)V"), (0, .methodref 18 19), (0, .class_ 20), (0, .nameAndType 15 21), (0, u "java/io/Reader"), (0, u "()V"), (0, .fieldref 12 23), (0, .nameAndType 2 10), (13, .fieldref 12 38), (0, .nameAndType 39 40), (0, u "pos"), (0, u "I"), (0, .methodref 42 43), (0, .class_ 44), (0, .nameAndType 45 46), (0, u "java/lang/Math"), (0, u "min"), (0, u "(II)I"), (0, .fieldref 12 48), (0, .nameAndType 49 40), (0, u "end"), (0, .fieldref 12 51), (0, .nameAndType 52 40), (0, u "markedPos"), (0, .methodref 12 54), (0, .nameAndType 55 21), (0, u "ensureOpen"), (10, .methodref 42 67), (0, .nameAndType 68 69), (0, u "max"), (0, u "(JJ)J"), (0, .methodref 42 71), (0, .nameAndType 45 69), (9, u "read"), (0, u "()I"), (2, u "skip"), (0, u "(J)J"), (0, u "ready"), (0, u "()Z"), (3, u "reset")] 22

def k6c0 : Code := { maxStack := 4, maxLocals := 4, code := prog_2_method_2_code, exceptionTable := #[], attributes := #[] }
def k6m0 : Method := { name := "<init>", desc := "([CII)V", sig := { parameters := [(.array .char), .int, .int], returnType := none }, accessFlags := 1, code := some k6c0 }
def k6c1 : Code := { maxStack := 5, maxLocals := 1, code := prog_2_method_3_code, exceptionTable := #[], attributes := #[] }
def k6m1 : Method := { name := "read", desc := "()I", sig := { parameters := [], returnType := some .int }, accessFlags := 1, code := some k6c1 }
def k6c2 : Code := { maxStack := 4, maxLocals := 4, code := prog_2_method_5_code, exceptionTable := #[], attributes := #[] }
def k6m2 : Method := { name := "skip", desc := "(J)J", sig := { parameters := [.long], returnType := some .long }, accessFlags := 1, code := some k6c2 }
def k6c3 : Code := { maxStack := 2, maxLocals := 1, code := prog_2_method_6_code, exceptionTable := #[], attributes := #[] }
def k6m3 : Method := { name := "ready", desc := "()Z", sig := { parameters := [], returnType := some .boolean }, accessFlags := 1, code := some k6c3 }
def k6c4 : Code := { maxStack := 2, maxLocals := 1, code := prog_2_method_9_code, exceptionTable := #[], attributes := #[] }
def k6m4 : Method := { name := "reset", desc := "()V", sig := { parameters := [], returnType := none }, accessFlags := 1, code := some k6c4 }
def k6c5 : Code := { maxStack := 3, maxLocals := 1, code := prog_2_method_11_code, exceptionTable := #[], attributes := #[] }
def k6m5 : Method := { name := "ensureOpen", desc := "()V", sig := { parameters := [], returnType := none }, accessFlags := 2, code := some k6c5 }
/-- charwell/array/ArrayCharReader -/
def k6 : Class := { plain "charwell/array/ArrayCharReader" (some 5) with
  accessFlags := 33
  interfaces := #[]
  cf := some (fileOf pool6 12 #[] #[{ accessFlags := 1, nameIndex := 15, descriptorIndex := 16, attributes := #[] }, { accessFlags := 1, nameIndex := 81, descriptorIndex := 82, attributes := #[] }, { accessFlags := 1, nameIndex := 85, descriptorIndex := 86, attributes := #[] }, { accessFlags := 1, nameIndex := 87, descriptorIndex := 88, attributes := #[] }, { accessFlags := 1, nameIndex := 92, descriptorIndex := 21, attributes := #[] }, { accessFlags := 2, nameIndex := 55, descriptorIndex := 21, attributes := #[] }] 33 18 #[] #[{ accessFlags := 2, nameIndex := 2, descriptorIndex := 10, attributes := #[] }, { accessFlags := 2, nameIndex := 39, descriptorIndex := 40, attributes := #[] }, { accessFlags := 18, nameIndex := 49, descriptorIndex := 40, attributes := #[] }, { accessFlags := 2, nameIndex := 52, descriptorIndex := 40, attributes := #[] }])
  fields := #[{ name := "buf", type := (.array .char), accessFlags := 2, slot := 2, constantValue := 0 }, { name := "pos", type := .int, accessFlags := 2, slot := 3, constantValue := 0 }, { name := "end", type := .int, accessFlags := 18, slot := 4, constantValue := 0 }, { name := "markedPos", type := .int, accessFlags := 2, slot := 5, constantValue := 0 }]
  methods := #[k6m0, k6m1, k6m2, k6m3, k6m4, k6m5]
  instanceTypes := #[(.object "java/lang/Object"), (.array .char), (.array .char), .int, .int, .int]
  staticTypes := #[]
  resolved := Array.replicate 115 none
  statics := none }

def pool7 : Array CpInfo := pool [(1, .class_ 2), (0, u "java/io/Serializable"), (0, .class_ 4), (0, u "java/lang/Object")] 2

/-- java/io/Serializable -/
def k7 : Class := { plain "java/io/Serializable" (some 0) with
  accessFlags := 1537
  interfaces := #[]
  cf := some (fileOf pool7 1 #[] #[] 1537 3 #[] #[])
  fields := #[]
  methods := #[]
  instanceTypes := #[]
  staticTypes := #[]
  resolved := Array.replicate 7 none
  statics := none }

def pool8 : Array CpInfo := pool [(1, .class_ 2), (0, u "java/lang/Comparable"), (0, .class_ 4), (0, u "java/lang/Object")] 7

/-- java/lang/Comparable -/
def k8 : Class := { plain "java/lang/Comparable" (some 0) with
  accessFlags := 1537
  interfaces := #[]
  cf := some (fileOf pool8 1 #[] #[] 1537 3 #[] #[])
  fields := #[]
  methods := #[]
  instanceTypes := #[]
  staticTypes := #[]
  resolved := Array.replicate 12 none
  statics := none }

def pool9 : Array CpInfo := pool [(2, .class_ 4), (1, u "java/lang/CharSequence"), (42, .class_ 48), (0, u "java/lang/CharSequence$1CodePointIterator"), (10, .class_ 60), (0, u "java/lang/CharSequence$1CharIterator"), (5, .class_ 67), (0, u "java/lang/Object")] 63

/-- java/lang/CharSequence -/
def k9 : Class := { plain "java/lang/CharSequence" (some 0) with
  accessFlags := 1537
  interfaces := #[]
  cf := some (fileOf pool9 2 #[.nestMembers #[47, 59]] #[] 1537 66 #[] #[])
  fields := #[]
  methods := #[]
  instanceTypes := #[]
  staticTypes := #[]
  resolved := Array.replicate 131 none
  statics := none }

def pool10 : Array CpInfo := pool [(1, .class_ 2), (0, u "java/lang/constant/Constable"), (0, .class_ 4), (0, u "java/lang/Object")] 6

/-- java/lang/constant/Constable -/
def k10 : Class := { plain "java/lang/constant/Constable" (some 0) with
  accessFlags := 1537
  interfaces := #[]
  cf := some (fileOf pool10 1 #[] #[] 1537 3 #[] #[])
  fields := #[]
  methods := #[]
  instanceTypes := #[]
  staticTypes := #[]
  resolved := Array.replicate 11 none
  statics := none }

def pool11 : Array CpInfo := pool [(1, .class_ 2), (0, u "java/lang/constant/ConstantDesc"), (0, .class_ 4), (0, u "java/lang/Object")] 32

/-- java/lang/constant/ConstantDesc -/
def k11 : Class := { plain "java/lang/constant/ConstantDesc" (some 0) with
  accessFlags := 1537
  interfaces := #[]
  cf := some (fileOf pool11 1 #[] #[] 1537 3 #[] #[])
  fields := #[]
  methods := #[]
  instanceTypes := #[]
  staticTypes := #[]
  resolved := Array.replicate 37 none
  statics := none }

def pool12 : Array CpInfo := pool [(2, .class_ 4), (1, u "java/lang/Object"), (0, u "<init>"), (0, u "()V"), (3, .class_ 12), (1, u "java/lang/String"), (0, u "value"), (0, u "[B"), (2, u "coder"), (0, u "B"), (2, u "hash"), (0, u "I"), (2, u "hashIsZero"), (0, u "Z"), (13, u "COMPACT_STRINGS"), (534, .class_ 576), (0, u "java/lang/CharSequence"), (22, u "CASE_INSENSITIVE_ORDER"), (0, u "Ljava/util/Comparator;"), (500, u "serialPersistentFields"), (0, u "[Ljava/io/ObjectStreamField;"), (0, .class_ 1104), (0, u "java/lang/String$CaseInsensitiveComparator"), (1, .class_ 1107), (0, u "java/io/Serializable"), (0, .class_ 1109), (0, u "java/lang/Comparable"), (0, .class_ 1111), (0, u "java/lang/constant/Constable"), (0, .class_ 1113), (0, u "java/lang/constant/ConstantDesc"), (2, u "serialVersionUID"), (0, u "J"), (3, u "REPL"), (0, u "C"), (2, u "LATIN1"), (1, u "UTF16")] 323

def k12m0 : Method := { name := "<init>", desc := "()V", sig := { parameters := [], returnType := none }, accessFlags := 1, code := none }
/-- java/lang/String -/
def k12 : Class := { plain "java/lang/String" (some 0) with
  accessFlags := 49
  interfaces := #[7, 8, 9, 10, 11]
  cf := some (fileOf pool12 10 #[.nestMembers #[1103]] #[{ accessFlags := 1, nameIndex := 5, descriptorIndex := 6, attributes := #[] }] 49 2 #[1106, 1108, 575, 1110, 1112] #[{ accessFlags := 18, nameIndex := 13, descriptorIndex := 14, attributes := #[] }, { accessFlags := 18, nameIndex := 17, descriptorIndex := 18, attributes := #[] }, { accessFlags := 2, nameIndex := 21, descriptorIndex := 22, attributes := #[] }, { accessFlags := 2, nameIndex := 25, descriptorIndex := 26, attributes := #[] }, { accessFlags := 26, nameIndex := 1116, descriptorIndex := 1117, attributes := #[] }, { accessFlags := 24, nameIndex := 40, descriptorIndex := 26, attributes := #[] }, { accessFlags := 26, nameIndex := 1101, descriptorIndex := 1102, attributes := #[] }, { accessFlags := 26, nameIndex := 1121, descriptorIndex := 1122, attributes := #[] }, { accessFlags := 25, nameIndex := 599, descriptorIndex := 600, attributes := #[] }, { accessFlags := 24, nameIndex := 1125, descriptorIndex := 18, attributes := #[] }, { accessFlags := 24, nameIndex := 1127, descriptorIndex := 18, attributes := #[] }])
  fields := #[{ name := "value", type := (.array .byte), accessFlags := 18, slot := 0, constantValue := 0 }, { name := "coder", type := .byte, accessFlags := 18, slot := 1, constantValue := 0 }, { name := "hash", type := .int, accessFlags := 2, slot := 2, constantValue := 0 }, { name := "hashIsZero", type := .boolean, accessFlags := 2, slot := 3, constantValue := 0 }, { name := "serialVersionUID", type := .long, accessFlags := 26, slot := 0, constantValue := 0 }, { name := "COMPACT_STRINGS", type := .boolean, accessFlags := 24, slot := 1, constantValue := 0 }, { name := "serialPersistentFields", type := (.array (.object "java/io/ObjectStreamField")), accessFlags := 26, slot := 2, constantValue := 0 }, { name := "REPL", type := .char, accessFlags := 26, slot := 3, constantValue := 0 }, { name := "CASE_INSENSITIVE_ORDER", type := (.object "java/util/Comparator"), accessFlags := 25, slot := 4, constantValue := 0 }, { name := "LATIN1", type := .byte, accessFlags := 24, slot := 5, constantValue := 0 }, { name := "UTF16", type := .byte, accessFlags := 24, slot := 6, constantValue := 0 }]
  methods := #[k12m0]
  instanceTypes := #[(.array .byte), .byte, .int, .boolean]
  staticTypes := #[.long, .boolean, (.array (.object "java/io/ObjectStreamField")), .char, (.object "java/util/Comparator"), .byte, .byte]
  resolved := Array.replicate 1451 none
  statics := none }

def pool13 : Array CpInfo := pool [(2, .class_ 4), (1, u "java/lang/Object"), (0, u "<init>"), (0, u "()V"), (35, .class_ 44), (1, u "java/util/Objects"), (0, u "requireNonNull"), (48, u "(Ljava/lang/Object;Ljava/lang/String;)Ljava/lang/Object;")] 89

def k13m0 : Method := { name := "<init>", desc := "()V", sig := { parameters := [], returnType := none }, accessFlags := 2, code := none }
def k13c1 : Code := { maxStack := 3, maxLocals := 2, code := jdk_31_method_11_code, exceptionTable := #[], attributes := #[] }
def k13m1 : Method := { name := "requireNonNull", desc := "(Ljava/lang/Object;Ljava/lang/String;)Ljava/lang/Object;", sig := { parameters := [(.object "java/lang/Object"), (.object "java/lang/String")], returnType := some (.object "java/lang/Object") }, accessFlags := 9, code := some k13c1 }
/-- java/util/Objects -/
def k13 : Class := { plain "java/util/Objects" (some 0) with
  accessFlags := 49
  interfaces := #[]
  cf := some (fileOf pool13 42 #[] #[{ accessFlags := 2, nameIndex := 5, descriptorIndex := 6, attributes := #[] }, { accessFlags := 9, nameIndex := 45, descriptorIndex := 94, attributes := #[] }] 49 2 #[] #[])
  fields := #[]
  methods := #[k13m0, k13m1]
  instanceTypes := #[]
  staticTypes := #[]
  resolved := Array.replicate 184 none
  statics := none }

def pool14 : Array CpInfo := pool [(1, .class_ 2), (0, u "java/lang/Math"), (1, .class_ 6), (1, u "java/lang/Object"), (0, u "<init>"), (0, u "()V"), (89, .class_ 100), (1, u "java/lang/Math$RandomNumberGeneratorHolder"), (20, u "(JJ)J"), (50, u "negativeZeroFloatBits"), (0, u "J"), (2, u "negativeZeroDoubleBits"), (21, u "max"), (2, u "min"), (43, u "$assertionsDisabled"), (0, u "Z"), (88, u "(II)I"), (2, u "twoToTheDoubleScaleDown"), (0, u "D"), (4, u "twoToTheDoubleScaleUp"), (9, u "E"), (3, u "PI"), (2, u "TAU"), (2, u "DEGREES_TO_RADIANS"), (0, u "RADIANS_TO_DEGREES")] 94

def k14m0 : Method := { name := "<init>", desc := "()V", sig := { parameters := [], returnType := none }, accessFlags := 2, code := none }
def k14c1 : Code := { maxStack := 4, maxLocals := 4, code := jdk_29_method_66_code, exceptionTable := #[], attributes := #[] }
def k14m1 : Method := { name := "max", desc := "(JJ)J", sig := { parameters := [.long, .long], returnType := some .long }, accessFlags := 9, code := some k14c1 }
def k14c2 : Code := { maxStack := 2, maxLocals := 2, code := jdk_29_method_69_code, exceptionTable := #[], attributes := #[] }
def k14m2 : Method := { name := "min", desc := "(II)I", sig := { parameters := [.int, .int], returnType := some .int }, accessFlags := 9, code := some k14c2 }
def k14c3 : Code := { maxStack := 4, maxLocals := 4, code := jdk_29_method_70_code, exceptionTable := #[], attributes := #[] }
def k14m3 : Method := { name := "min", desc := "(JJ)J", sig := { parameters := [.long, .long], returnType := some .long }, accessFlags := 9, code := some k14c3 }
/-- java/lang/Math -/
def k14 : Class := { plain "java/lang/Math" (some 0) with
  accessFlags := 49
  interfaces := #[]
  cf := some (fileOf pool14 1 #[.nestMembers #[98]] #[{ accessFlags := 2, nameIndex := 7, descriptorIndex := 8, attributes := #[] }, { accessFlags := 9, nameIndex := 198, descriptorIndex := 121, attributes := #[] }, { accessFlags := 9, nameIndex := 201, descriptorIndex := 335, attributes := #[] }, { accessFlags := 9, nameIndex := 201, descriptorIndex := 121, attributes := #[] }] 49 4 #[] #[{ accessFlags := 25, nameIndex := 354, descriptorIndex := 339, attributes := #[] }, { accessFlags := 25, nameIndex := 358, descriptorIndex := 339, attributes := #[] }, { accessFlags := 25, nameIndex := 361, descriptorIndex := 339, attributes := #[] }, { accessFlags := 26, nameIndex := 364, descriptorIndex := 339, attributes := #[] }, { accessFlags := 26, nameIndex := 365, descriptorIndex := 339, attributes := #[] }, { accessFlags := 26, nameIndex := 172, descriptorIndex := 173, attributes := #[] }, { accessFlags := 26, nameIndex := 176, descriptorIndex := 173, attributes := #[] }, { accessFlags := 8, nameIndex := 344, descriptorIndex := 339, attributes := #[] }, { accessFlags := 8, nameIndex := 338, descriptorIndex := 339, attributes := #[] }, { accessFlags := 4120, nameIndex := 245, descriptorIndex := 246, attributes := #[] }])
  fields := #[{ name := "E", type := .double, accessFlags := 25, slot := 0, constantValue := 0 }, { name := "PI", type := .double, accessFlags := 25, slot := 1, constantValue := 0 }, { name := "TAU", type := .double, accessFlags := 25, slot := 2, constantValue := 0 }, { name := "DEGREES_TO_RADIANS", type := .double, accessFlags := 26, slot := 3, constantValue := 0 }, { name := "RADIANS_TO_DEGREES", type := .double, accessFlags := 26, slot := 4, constantValue := 0 }, { name := "negativeZeroFloatBits", type := .long, accessFlags := 26, slot := 5, constantValue := 0 }, { name := "negativeZeroDoubleBits", type := .long, accessFlags := 26, slot := 6, constantValue := 0 }, { name := "twoToTheDoubleScaleUp", type := .double, accessFlags := 8, slot := 7, constantValue := 0 }, { name := "twoToTheDoubleScaleDown", type := .double, accessFlags := 8, slot := 8, constantValue := 0 }, { name := "$assertionsDisabled", type := .boolean, accessFlags := 4120, slot := 9, constantValue := 0 }]
  methods := #[k14m0, k14m1, k14m2, k14m3]
  instanceTypes := #[]
  staticTypes := #[.double, .double, .double, .double, .double, .long, .long, .double, .double, .boolean]
  resolved := Array.replicate 460 none
  statics := none }

def pool15 : Array CpInfo := pool [(1, u "java/lang/Cloneable"), (0, .class_ 1), (0, u "java/lang/Object"), (0, .class_ 3)] 3

/-- java/lang/Cloneable -/
def k15 : Class := { plain "java/lang/Cloneable" (some 0) with
  accessFlags := 1537
  interfaces := #[]
  cf := some (fileOf pool15 2 #[] #[] 1537 4 #[] #[])
  fields := #[]
  methods := #[]
  instanceTypes := #[]
  staticTypes := #[]
  resolved := Array.replicate 8 none
  statics := none }

/-- the primitive byte -/
def k16 : Class := { plain "byte" none with kind := .primitive 'B', accessFlags := 0x411 }
/-- [B -/
def k17 : Class := { plain "[B" (some 0) with kind := .array 16 .byte, interfaces := #[15, 7], accessFlags := 1041 }

/-- the primitive char -/
def k18 : Class := { plain "char" none with kind := .primitive 'C', accessFlags := 0x411 }
/-- [C -/
def k19 : Class := { plain "[C" (some 0) with kind := .array 18 .char, interfaces := #[15, 7], accessFlags := 1041 }

/-- the primitive int -/
def k20 : Class := { plain "int" none with kind := .primitive 'I', accessFlags := 0x411 }
/-- [I -/
def k21 : Class := { plain "[I" (some 0) with kind := .array 20 .int, interfaces := #[15, 7], accessFlags := 1041 }

def heap : Heap := #[]
def classes : Array Class := #[k0, k1, k2, k3, k4, k5, k6, k7, k8, k9, k10, k11, k12, k13, k14, k15, k16, k17, k18, k19, k20, k21]
def interned : List (Array UInt16 × Addr) := []
def slotsUsed : Nat := 0
def theMethod : MethodId := ⟨1, 1⟩
def args0 : Array Value := #[.int 5, .int 7, .long 9]
def aboutOver (below : List Frame) : State where
  vm := { classes := classes, interned := interned.toArray }
  heap := heap
  slotsUsed := slotsUsed
  threads := #[{ frames := .invoking theMethod args0 :: below }]
def below0 : List Frame := [.native { method := ⟨0, 0⟩, args := #[] }]
def about1 : State := aboutOver below0
def p0 : Program := .bare "" "" ""
def e0 : Env := launch0.env 0 0 0
theorem w_frames : about1.frames = Frame.invoking theMethod args0 :: below0 := rfl
set_option maxRecDepth 65536 in
theorem w_args : argsFit about1.vm theMethod args0 = true := by decide +kernel
set_option maxRecDepth 65536 in
theorem w_heap : heapFits about1 = true := by decide +kernel
set_option maxRecDepth 65536 in
theorem w_runnable : about1.curStatus? = some .runnable := by decide +kernel
set_option maxRecDepth 65536 in
theorem w_alone : about1.alone = true := by decide +kernel
set_option maxRecDepth 65536 in
theorem w_named : about1.methodNamed? x = some theMethod := by decide +kernel
set_option maxRecDepth 65536 in
theorem w_hears : about1.hears theMethod below0 = true := by decide +kernel
set_option maxRecDepth 65536 in
theorem w_ripe : about1.ripe theMethod args0 below0 = true := by decide +kernel
theorem w_running : about1.status = .running := rfl
set_option maxRecDepth 65536 in
theorem w_room : about1.hasRoom e0.platform room_1 = true :=
  launch0.hasRoom_least _ room_1 (by decide +kernel) (by decide +kernel) (by decide +kernel) (by decide +kernel) (by decide +kernel) (by decide +kernel)
theorem allAtoms_all (ts : List Jvm.Cond) (a : Array Jvm.Value) (st : Jvm.State) : (allAtoms ts).before a st = ts.all (fun c => c.before a st) := by
  induction ts with
  | nil => rfl
  | cons c t ih =>
    show (Jvm.Cond.and c (allAtoms t)).before a st = _
    rw [Jvm.Cond.before_and, ih, List.all_cons]
def words1 : List Jvm.Cond := Jvm.Cond.code x code maxLocals ret :: tables_1
/-- a 'code' word, met by the world's own term for the bytes: nothing is compared byte by byte -/
theorem code_word {y : MethodName} {bytes : ByteArray} {mx : Nat} {rt : Option FieldType} {a : Array Value} {s : State} {m : MethodId} {meth : Method} {c : Code} (h1 : s.methodNamed? y = some m) (h2 : s.vm.method? m = some meth) (h3 : meth.code = some c) (h4 : c.code = bytes)
    (h5 : (c.maxLocals == mx && c.exceptionTable.isEmpty && decide (c.maxStack ≤ mostOperands) && decide (meth.sig.returnType = rt) && !meth.locks && decide (parseMethodDescriptor y.desc = some meth.sig)) = true) : (Jvm.Cond.code y bytes mx rt).before a s = true := by
  simp only [Bool.and_eq_true, beq_iff_eq, Bool.not_eq_true', decide_eq_true_eq] at h5
  obtain ⟨⟨⟨⟨⟨g1, g2⟩, g3⟩, g4⟩, g5⟩, g6⟩ := h5
  simp [Cond.before, Cond.holds, Cond.value, h1, h2, h3, h4, g1, g2, g3, g4, g5, g6]
def isCode : Jvm.Cond → Bool
  | .code _ _ _ _ => true
  | _ => false
theorem all_split {L : List Jvm.Cond} {P : Jvm.Cond → Bool} (h1 : L.all (fun c => isCode c || P c) = true) (h2 : ∀ c ∈ L.filter isCode, P c = true) : L.all P = true := by
  refine List.all_eq_true.mpr fun c hc => ?_
  have h := List.all_eq_true.mp h1 c hc
  rcases Bool.eq_false_or_eq_true (isCode c) with hi | hi
  · exact h2 c (List.mem_filter.mpr ⟨hc, hi⟩)
  · simpa [hi] using h
set_option maxRecDepth 65536 in
theorem w_c0 : (Jvm.Cond.code x code maxLocals ret).before args0 about1 = true := code_word (m := ⟨1, 1⟩) (meth := k1m1) (c := k1c1) (by decide +kernel) rfl rfl rfl (by decide +kernel)
set_option maxRecDepth 65536 in
theorem w_c1 : (Jvm.Cond.code ({ cls := "charwell/array/ArrayCharReader", name := "<init>", desc := "([CII)V" } : Jvm.MethodName) prog_2_method_2_code (4 : Nat) (Option.none : Option Jvm.ClassFile.FieldType)).before args0 about1 = true := code_word (m := ⟨6, 0⟩) (meth := k6m0) (c := k6c0) (by decide +kernel) rfl rfl rfl (by decide +kernel)
set_option maxRecDepth 65536 in
theorem w_c2 : (Jvm.Cond.code ({ cls := "java/io/Reader", name := "<init>", desc := "()V" } : Jvm.MethodName) jdk_2043_method_2_code (1 : Nat) (Option.none : Option Jvm.ClassFile.FieldType)).before args0 about1 = true := code_word (m := ⟨5, 0⟩) (meth := k5m0) (c := k5c0) (by decide +kernel) rfl rfl rfl (by decide +kernel)
set_option maxRecDepth 65536 in
theorem w_c3 : (Jvm.Cond.code ({ cls := "java/lang/Object", name := "<init>", desc := "()V" } : Jvm.MethodName) object_method_1_code (1 : Nat) (Option.none : Option Jvm.ClassFile.FieldType)).before args0 about1 = true := code_word (m := ⟨0, 0⟩) (meth := k0m0) (c := k0c0) (by decide +kernel) rfl rfl rfl (by decide +kernel)
set_option maxRecDepth 65536 in
theorem w_c4 : (Jvm.Cond.code ({ cls := "java/util/Objects", name := "requireNonNull", desc := "(Ljava/lang/Object;Ljava/lang/String;)Ljava/lang/Object;" } : Jvm.MethodName) jdk_31_method_11_code (2 : Nat) (Option.some (Jvm.ClassFile.FieldType.object "java/lang/Object"))).before args0 about1 = true := code_word (m := ⟨13, 1⟩) (meth := k13m1) (c := k13c1) (by decide +kernel) rfl rfl rfl (by decide +kernel)
set_option maxRecDepth 65536 in
theorem w_c5 : (Jvm.Cond.code ({ cls := "java/lang/Math", name := "min", desc := "(II)I" } : Jvm.MethodName) jdk_29_method_69_code (2 : Nat) (Option.some Jvm.ClassFile.FieldType.int)).before args0 about1 = true := code_word (m := ⟨14, 2⟩) (meth := k14m2) (c := k14c2) (by decide +kernel) rfl rfl rfl (by decide +kernel)
set_option maxRecDepth 65536 in
theorem w_c6 : (Jvm.Cond.code ({ cls := "charwell/array/ArrayCharReader", name := "ready", desc := "()Z" } : Jvm.MethodName) prog_2_method_6_code (1 : Nat) (Option.some Jvm.ClassFile.FieldType.boolean)).before args0 about1 = true := code_word (m := ⟨6, 3⟩) (meth := k6m3) (c := k6c3) (by decide +kernel) rfl rfl rfl (by decide +kernel)
set_option maxRecDepth 65536 in
theorem w_c7 : (Jvm.Cond.code ({ cls := "charwell/array/ArrayCharReader", name := "ensureOpen", desc := "()V" } : Jvm.MethodName) prog_2_method_11_code (1 : Nat) (Option.none : Option Jvm.ClassFile.FieldType)).before args0 about1 = true := code_word (m := ⟨6, 5⟩) (meth := k6m5) (c := k6c5) (by decide +kernel) rfl rfl rfl (by decide +kernel)
set_option maxRecDepth 65536 in
theorem w_c8 : (Jvm.Cond.code ({ cls := "charwell/array/ArrayCharReader", name := "skip", desc := "(J)J" } : Jvm.MethodName) prog_2_method_5_code (4 : Nat) (Option.some Jvm.ClassFile.FieldType.long)).before args0 about1 = true := code_word (m := ⟨6, 2⟩) (meth := k6m2) (c := k6c2) (by decide +kernel) rfl rfl rfl (by decide +kernel)
set_option maxRecDepth 65536 in
theorem w_c9 : (Jvm.Cond.code ({ cls := "java/lang/Math", name := "max", desc := "(JJ)J" } : Jvm.MethodName) jdk_29_method_66_code (4 : Nat) (Option.some Jvm.ClassFile.FieldType.long)).before args0 about1 = true := code_word (m := ⟨14, 1⟩) (meth := k14m1) (c := k14c1) (by decide +kernel) rfl rfl rfl (by decide +kernel)
set_option maxRecDepth 65536 in
theorem w_c10 : (Jvm.Cond.code ({ cls := "java/lang/Math", name := "min", desc := "(JJ)J" } : Jvm.MethodName) jdk_29_method_70_code (4 : Nat) (Option.some Jvm.ClassFile.FieldType.long)).before args0 about1 = true := code_word (m := ⟨14, 3⟩) (meth := k14m3) (c := k14c3) (by decide +kernel) rfl rfl rfl (by decide +kernel)
set_option maxRecDepth 65536 in
theorem w_c11 : (Jvm.Cond.code ({ cls := "charwell/array/ArrayCharReader", name := "read", desc := "()I" } : Jvm.MethodName) prog_2_method_3_code (1 : Nat) (Option.some Jvm.ClassFile.FieldType.int)).before args0 about1 = true := code_word (m := ⟨6, 1⟩) (meth := k6m1) (c := k6c1) (by decide +kernel) rfl rfl rfl (by decide +kernel)
set_option maxRecDepth 65536 in
theorem w_c12 : (Jvm.Cond.code ({ cls := "charwell/array/ArrayCharReader", name := "reset", desc := "()V" } : Jvm.MethodName) prog_2_method_9_code (1 : Nat) (Option.none : Option Jvm.ClassFile.FieldType)).before args0 about1 = true := code_word (m := ⟨6, 4⟩) (meth := k6m4) (c := k6c4) (by decide +kernel) rfl rfl rfl (by decide +kernel)
def codes1 : List Jvm.Cond := [Jvm.Cond.code x code maxLocals ret, Jvm.Cond.code ({ cls := "charwell/array/ArrayCharReader", name := "<init>", desc := "([CII)V" } : Jvm.MethodName) prog_2_method_2_code (4 : Nat) (Option.none : Option Jvm.ClassFile.FieldType), Jvm.Cond.code ({ cls := "java/io/Reader", name := "<init>", desc := "()V" } : Jvm.MethodName) jdk_2043_method_2_code (1 : Nat) (Option.none : Option Jvm.ClassFile.FieldType), Jvm.Cond.code ({ cls := "java/lang/Object", name := "<init>", desc := "()V" } : Jvm.MethodName) object_method_1_code (1 : Nat) (Option.none : Option Jvm.ClassFile.FieldType), Jvm.Cond.code ({ cls := "java/util/Objects", name := "requireNonNull", desc := "(Ljava/lang/Object;Ljava/lang/String;)Ljava/lang/Object;" } : Jvm.MethodName) jdk_31_method_11_code (2 : Nat) (Option.some (Jvm.ClassFile.FieldType.object "java/lang/Object")), Jvm.Cond.code ({ cls := "java/lang/Math", name := "min", desc := "(II)I" } : Jvm.MethodName) jdk_29_method_69_code (2 : Nat) (Option.some Jvm.ClassFile.FieldType.int), Jvm.Cond.code ({ cls := "charwell/array/ArrayCharReader", name := "ready", desc := "()Z" } : Jvm.MethodName) prog_2_method_6_code (1 : Nat) (Option.some Jvm.ClassFile.FieldType.boolean), Jvm.Cond.code ({ cls := "charwell/array/ArrayCharReader", name := "ensureOpen", desc := "()V" } : Jvm.MethodName) prog_2_method_11_code (1 : Nat) (Option.none : Option Jvm.ClassFile.FieldType), Jvm.Cond.code ({ cls := "charwell/array/ArrayCharReader", name := "skip", desc := "(J)J" } : Jvm.MethodName) prog_2_method_5_code (4 : Nat) (Option.some Jvm.ClassFile.FieldType.long), Jvm.Cond.code ({ cls := "java/lang/Math", name := "max", desc := "(JJ)J" } : Jvm.MethodName) jdk_29_method_66_code (4 : Nat) (Option.some Jvm.ClassFile.FieldType.long), Jvm.Cond.code ({ cls := "java/lang/Math", name := "min", desc := "(JJ)J" } : Jvm.MethodName) jdk_29_method_70_code (4 : Nat) (Option.some Jvm.ClassFile.FieldType.long), Jvm.Cond.code ({ cls := "charwell/array/ArrayCharReader", name := "read", desc := "()I" } : Jvm.MethodName) prog_2_method_3_code (1 : Nat) (Option.some Jvm.ClassFile.FieldType.int), Jvm.Cond.code ({ cls := "charwell/array/ArrayCharReader", name := "reset", desc := "()V" } : Jvm.MethodName) prog_2_method_9_code (1 : Nat) (Option.none : Option Jvm.ClassFile.FieldType)]
set_option maxRecDepth 65536 in
theorem codes_eq : words1.filter isCode = codes1 := rfl
theorem w_codes : ∀ c ∈ words1.filter isCode, c.before args0 about1 = true := by
  rw [codes_eq]
  intro c hc
  simp only [codes1, List.mem_cons, List.not_mem_nil, or_false] at hc
  rcases hc with rfl | rfl | rfl | rfl | rfl | rfl | rfl | rfl | rfl | rfl | rfl | rfl | rfl
  · exact w_c0
  · exact w_c1
  · exact w_c2
  · exact w_c3
  · exact w_c4
  · exact w_c5
  · exact w_c6
  · exact w_c7
  · exact w_c8
  · exact w_c9
  · exact w_c10
  · exact w_c11
  · exact w_c12
set_option maxRecDepth 65536 in
theorem w_t1 : (words1.take 24).all (fun c => isCode c || c.before args0 about1) = true := by decide +kernel
set_option maxRecDepth 65536 in
theorem w_t2 : ((words1.drop 24).take 24).all (fun c => isCode c || c.before args0 about1) = true := by decide +kernel
set_option maxRecDepth 65536 in
theorem w_t3 : (((words1.drop 24).drop 24).take 24).all (fun c => isCode c || c.before args0 about1) = true := by decide +kernel
set_option maxRecDepth 65536 in
theorem w_t4 : (((words1.drop 24).drop 24).drop 24).all (fun c => isCode c || c.before args0 about1) = true := by decide +kernel
theorem w_tables : (allAtoms (Jvm.Cond.code x code maxLocals ret :: tables_1)).before args0 about1 = true := by
  rw [allAtoms_all]
  show words1.all (fun c => c.before args0 about1) = true
  refine all_split ?_ w_codes
  rw [← List.take_append_drop 24 words1, List.all_append, w_t1, ← List.take_append_drop 24 (words1.drop 24), List.all_append, w_t2, ← List.take_append_drop 24 ((words1.drop 24).drop 24), List.all_append, w_t3, w_t4]
  rfl
set_option maxRecDepth 65536 in
theorem w_case : (Jvm.Cond.and given_1 narrow_1).before args0 about1 = true := by decide +kernel
theorem w_applies : (headSpec (Jvm.Cond.code x code maxLocals ret :: tables_1) room_1).applies x e0.platform about1 = true :=
  (Spec.applies_iff w_frames).mpr ⟨w_running, w_runnable, w_alone, w_named, w_hears, w_ripe, w_room, w_tables⟩
theorem atStart : AtStart classFile x code maxLocals ret World_1 tables_1 room_1 Calls_1 rest_1 Pre_1 launch0 p0 e0 about1 theMethod args0 below0 :=
  ⟨lists_1, trivial, launch0.admits_env _ _ _, launch0.least_env, fairChoices_fair.cas, fairChoices_fair.clock, w_frames, w_args, w_heap, w_applies, trivial, trivial, w_case⟩
end start1
theorem witness_1 : WitnessClaimed_1 := ⟨start1.p0, start1.e0, start1.about1, start1.theMethod, start1.args0, start1.below0, start1.atStart⟩
end Jvm.Pilot.@@N@@

import JvmDerived
import JvmDerived.Pilot.@@N@@Statement
import JvmDerived.Pilot.@@N@@Code
set_option linter.unusedVariables false
set_option linter.unusedSimpArgs false
namespace Jvm.Pilot.@@N@@
open Jvm Jvm.ClassFile Sem Op Lib Jvm.Free Jvm.Stand Jvm.LawKit Jvm.RoadKit Bundle Jvm.Pilot.@@N@@.Jvm.D
-- LAYER BEGIN
section OwnW
variable {l : Launch} {Z : State} {y : MethodName} {bytes : ByteArray} {ml : Nat} {ret : Option FieldType} {R : Room} {n0 : Nat} {Q : Option Value → Heap → Prop} {h : Heap} {cells slots pc pc' : Nat} {Ls Ls' : Array Slot} {st st' : List Value} {a0 : Array Value}
/-- from this point of the body (heap h, so many cells and slots made, at pc with these locals and this stack) every run returns; Q holds of the value and the heap; all that was written lies at or above n0 -/
def own_W (l : Launch) (Z : State) (y : MethodName) (bytes : ByteArray) (ml : Nat) (ret : Option FieldType) (R : Room) (n0 : Nat) (Q : Option Value → Heap → Prop) (h : Heap) (cells slots pc : Nat) (Ls : Array Slot) (st : List Value) : Prop :=
  ∀ (p : Program) (e : Env) (s : State) (m : MethodId) (args : Array Value) (below : List Frame) (meth : Method) (c : Code) (T : State) (locs : List Loc),
    p.tables.exec = Jvm.exec → Z.Warmed39 s.vm → s.vm.findClass y.cls = some m.cls → c.code = bytes → c.maxLocals = ml → meth.sig.returnType = ret → meth.locks = false → meth.name = y.name → cells ≤ R.cells → slots ≤ R.slots →
    Stand p l e R s m args below meth c T locs cells slots → T.heap = h → Fr n0 locs →
    ∃ s₂ o, Steps p.tables e below (T.setTop (mkF m pc Ls st)) s₂ ∧ s₂.status = .running ∧ Ended s₂ below o ∧ ∃ v L, o = .returned v ∧ (Q v s₂.heap ∧ Fr n0 L) ∧ FrameEnd s o s₂ L R.cells R.slots
theorem own_pure (hs : ∀ (p : Program) (e : Env) (below : List Frame) (T target : State) (m : MethodId) (c : Code), At T m c below → p.tables.exec = Jvm.exec → c.code = bytes → Steps p.tables e below (T.setTop (mkF m pc' Ls' st')) target → Steps p.tables e below (T.setTop (mkF m pc Ls st)) target)
    (k : own_W l Z y bytes ml ret R n0 Q h cells slots pc' Ls' st') : own_W l Z y bytes ml ret R n0 Q h cells slots pc Ls st := by
  intro p e s m args below meth c T locs hx hZ hown hby hml hret hlk hnm hce hsl X eT N
  obtain ⟨s₂, o, h1, h2⟩ := k p e s m args below meth c T locs hx hZ hown hby hml hret hlk hnm hce hsl X eT N
  exact ⟨s₂, o, hs p e below T s₂ m c X.here hx hby h1, h2⟩
theorem own_more {cells' slots' : Nat} (hc : cells ≤ cells') (hs : slots ≤ slots') (hc' : cells' ≤ R.cells) (hs' : slots' ≤ R.slots) (k : own_W l Z y bytes ml ret R n0 Q h cells' slots' pc Ls st) : own_W l Z y bytes ml ret R n0 Q h cells slots pc Ls st := by
  intro p e s m args below meth c T locs hx hZ hown hby hml hret hlk hnm hce hsl X eT N
  exact k p e s m args below meth c T locs hx hZ hown hby hml hret hlk hnm hc' hs' (X.more hc hs) eT N
theorem own_weak {Q' : Option Value → Heap → Prop} (hq : ∀ v h, Q' v h → Q v h) (k : own_W l Z y bytes ml ret R n0 Q' h cells slots pc Ls st) : own_W l Z y bytes ml ret R n0 Q h cells slots pc Ls st := by
  intro p e s m args below meth c T locs hx hZ hown hby hml hret hlk hnm hce hsl X eT N
  obtain ⟨s₂, o, h1, h2, h3, v, L, h4, ⟨h5, h6⟩, h7⟩ := k p e s m args below meth c T locs hx hZ hown hby hml hret hlk hnm hce hsl X eT N
  exact ⟨s₂, o, h1, h2, h3, v, L, h4, ⟨hq _ _ h5, h6⟩, h7⟩
theorem own_iloadN {i : Fin 4} {u : Int32} (hd : decode bytes pc = .ok (.iload_n i, 1)) (hp : pc + 1 = pc') (hl : Ls[i.val]? = some (.val (.int u))) (k : own_W l Z y bytes ml ret R n0 Q h cells slots pc' Ls (.int u :: st)) : own_W l Z y bytes ml ret R n0 Q h cells slots pc Ls (st) :=
  own_pure (fun p e below T t m c hA hx hb hr => by subst hp; exact XS.iloadN hA hx rfl (hb ▸ hd) hl hr) k
theorem own_iload {i : Nat} {u : Int32} (hd : decode bytes pc = .ok (.iload i, 2)) (hp : pc + 2 = pc') (hl : Ls[i]? = some (.val (.int u))) (k : own_W l Z y bytes ml ret R n0 Q h cells slots pc' Ls (.int u :: st)) : own_W l Z y bytes ml ret R n0 Q h cells slots pc Ls (st) :=
  own_pure (fun p e below T t m c hA hx hb hr => by subst hp; exact XS.iload hA hx rfl (hb ▸ hd) hl hr) k
theorem own_lloadN {i : Fin 4} {u : Int64} (hd : decode bytes pc = .ok (.lload_n i, 1)) (hp : pc + 1 = pc') (hl : Ls[i.val]? = some (.val (.long u))) (k : own_W l Z y bytes ml ret R n0 Q h cells slots pc' Ls (.long u :: st)) : own_W l Z y bytes ml ret R n0 Q h cells slots pc Ls (st) :=
  own_pure (fun p e below T t m c hA hx hb hr => by subst hp; exact XT.lloadN hA hx rfl (hb ▸ hd) hl hr) k
theorem own_lload {i : Nat} {u : Int64} (hd : decode bytes pc = .ok (.lload i, 2)) (hp : pc + 2 = pc') (hl : Ls[i]? = some (.val (.long u))) (k : own_W l Z y bytes ml ret R n0 Q h cells slots pc' Ls (.long u :: st)) : own_W l Z y bytes ml ret R n0 Q h cells slots pc Ls (st) :=
  own_pure (fun p e below T t m c hA hx hb hr => by subst hp; exact XT.lload hA hx rfl (hb ▸ hd) hl hr) k
theorem own_aloadN {i : Fin 4} {u : Addr} (hd : decode bytes pc = .ok (.aload_n i, 1)) (hp : pc + 1 = pc') (hl : Ls[i.val]? = some (.val (.ref u))) (k : own_W l Z y bytes ml ret R n0 Q h cells slots pc' Ls (.ref u :: st)) : own_W l Z y bytes ml ret R n0 Q h cells slots pc Ls (st) :=
  own_pure (fun p e below T t m c hA hx hb hr => by subst hp; exact XS.aloadN hA hx rfl (hb ▸ hd) hl rfl hr) k
theorem own_aload {i : Nat} {u : Addr} (hd : decode bytes pc = .ok (.aload i, 2)) (hp : pc + 2 = pc') (hl : Ls[i]? = some (.val (.ref u))) (k : own_W l Z y bytes ml ret R n0 Q h cells slots pc' Ls (.ref u :: st)) : own_W l Z y bytes ml ret R n0 Q h cells slots pc Ls (st) :=
  own_pure (fun p e below T t m c hA hx hb hr => by subst hp; exact XS.aload hA hx rfl (hb ▸ hd) hl rfl hr) k
theorem own_istoreN {i : Fin 4} {u : Int32} (hd : decode bytes pc = .ok (.istore_n i, 1)) (hp : pc + 1 = pc') (hl : storeLocals Ls i.val (.int u) = some Ls') (k : own_W l Z y bytes ml ret R n0 Q h cells slots pc' Ls' (st)) : own_W l Z y bytes ml ret R n0 Q h cells slots pc Ls (.int u :: st) :=
  own_pure (fun p e below T t m c hA hx hb hr => by subst hp; exact XS.istoreN hA hx rfl (hb ▸ hd) rfl hl hr) k
theorem own_istore {i : Nat} {u : Int32} (hd : decode bytes pc = .ok (.istore i, 2)) (hp : pc + 2 = pc') (hl : storeLocals Ls i (.int u) = some Ls') (k : own_W l Z y bytes ml ret R n0 Q h cells slots pc' Ls' (st)) : own_W l Z y bytes ml ret R n0 Q h cells slots pc Ls (.int u :: st) :=
  own_pure (fun p e below T t m c hA hx hb hr => by subst hp; exact XS.istore hA hx rfl (hb ▸ hd) rfl hl hr) k
theorem own_lstoreN {i : Fin 4} {u : Int64} (hd : decode bytes pc = .ok (.lstore_n i, 1)) (hp : pc + 1 = pc') (hl : storeLocals Ls i.val (.long u) = some Ls') (k : own_W l Z y bytes ml ret R n0 Q h cells slots pc' Ls' (st)) : own_W l Z y bytes ml ret R n0 Q h cells slots pc Ls (.long u :: st) :=
  own_pure (fun p e below T t m c hA hx hb hr => by subst hp; exact XT.lstoreN hA hx rfl (hb ▸ hd) rfl hl hr) k
theorem own_lstore {i : Nat} {u : Int64} (hd : decode bytes pc = .ok (.lstore i, 2)) (hp : pc + 2 = pc') (hl : storeLocals Ls i (.long u) = some Ls') (k : own_W l Z y bytes ml ret R n0 Q h cells slots pc' Ls' (st)) : own_W l Z y bytes ml ret R n0 Q h cells slots pc Ls (.long u :: st) :=
  own_pure (fun p e below T t m c hA hx hb hr => by subst hp; exact XT.lstore hA hx rfl (hb ▸ hd) rfl hl hr) k
theorem own_astoreN {i : Fin 4} {u : Addr} (hd : decode bytes pc = .ok (.astore_n i, 1)) (hp : pc + 1 = pc') (hl : storeLocals Ls i.val (.ref u) = some Ls') (k : own_W l Z y bytes ml ret R n0 Q h cells slots pc' Ls' (st)) : own_W l Z y bytes ml ret R n0 Q h cells slots pc Ls (.ref u :: st) :=
  own_pure (fun p e below T t m c hA hx hb hr => by subst hp; exact XS.astoreN hA hx rfl (hb ▸ hd) rfl rfl hl hr) k
theorem own_astore {i : Nat} {u : Addr} (hd : decode bytes pc = .ok (.astore i, 2)) (hp : pc + 2 = pc') (hl : storeLocals Ls i (.ref u) = some Ls') (k : own_W l Z y bytes ml ret R n0 Q h cells slots pc' Ls' (st)) : own_W l Z y bytes ml ret R n0 Q h cells slots pc Ls (.ref u :: st) :=
  own_pure (fun p e below T t m c hA hx hb hr => by subst hp; exact XS.astore hA hx rfl (hb ▸ hd) rfl rfl hl hr) k
theorem own_iinc {i : Nat} {cst : Int} {u w : Int32} (hd : decode bytes pc = .ok (.iinc i cst, 3)) (hp : pc + 3 = pc') (hv : Int32.ofInt cst = w) (hl : Ls[i]? = some (.val (.int u))) (hl' : storeLocals Ls i (.int (u + w)) = some Ls') (k : own_W l Z y bytes ml ret R n0 Q h cells slots pc' Ls' st) : own_W l Z y bytes ml ret R n0 Q h cells slots pc Ls st :=
  own_pure (fun p e below T t m c hA hx hb hr => by subst hp; exact XT.iincV hA hx rfl w (hb ▸ hd) hv hl hl' hr) k
theorem own_iconst {i : Int} (u : Int32) (hd : decode bytes pc = .ok (.iconst i, 1)) (hp : pc + 1 = pc') (hv : Int32.ofInt i = u) (k : own_W l Z y bytes ml ret R n0 Q h cells slots pc' Ls (.int u :: st)) : own_W l Z y bytes ml ret R n0 Q h cells slots pc Ls st :=
  own_pure (fun p e below T t m c hA hx hb hr => by subst hp; exact XT.iconstV hA hx rfl u (hb ▸ hd) hv hr) k
theorem own_bipush {i : Int} (u : Int32) (hd : decode bytes pc = .ok (.bipush i, 2)) (hp : pc + 2 = pc') (hv : (Int8.ofInt i).toInt32 = u) (k : own_W l Z y bytes ml ret R n0 Q h cells slots pc' Ls (.int u :: st)) : own_W l Z y bytes ml ret R n0 Q h cells slots pc Ls st :=
  own_pure (fun p e below T t m c hA hx hb hr => by subst hp; exact XT.bipushV hA hx rfl u (hb ▸ hd) hv hr) k
theorem own_sipush {i : Int} (u : Int32) (hd : decode bytes pc = .ok (.sipush i, 3)) (hp : pc + 3 = pc') (hv : (Int16.ofInt i).toInt32 = u) (k : own_W l Z y bytes ml ret R n0 Q h cells slots pc' Ls (.int u :: st)) : own_W l Z y bytes ml ret R n0 Q h cells slots pc Ls st :=
  own_pure (fun p e below T t m c hA hx hb hr => by subst hp; exact XT.sipushV hA hx rfl u (hb ▸ hd) hv hr) k
theorem own_lconst {i : Fin 2} (u : Int64) (hd : decode bytes pc = .ok (.lconst i, 1)) (hp : pc + 1 = pc') (hv : Int64.ofNat i = u) (k : own_W l Z y bytes ml ret R n0 Q h cells slots pc' Ls (.long u :: st)) : own_W l Z y bytes ml ret R n0 Q h cells slots pc Ls st :=
  own_pure (fun p e below T t m c hA hx hb hr => by subst hp; exact XT.lconstV hA hx rfl u (hb ▸ hd) hv hr) k
theorem own_aconstNull (hd : decode bytes pc = .ok (.aconst_null, 1)) (hp : pc + 1 = pc') (k : own_W l Z y bytes ml ret R n0 Q h cells slots pc' Ls (.null :: st)) : own_W l Z y bytes ml ret R n0 Q h cells slots pc Ls (st) :=
  own_pure (fun p e below T t m c hA hx hb hr => by subst hp; exact XS.aconstNull hA hx rfl (hb ▸ hd)  hr) k
theorem own_iadd {u w : Int32} (hd : decode bytes pc = .ok (.iadd, 1)) (hp : pc + 1 = pc') (k : own_W l Z y bytes ml ret R n0 Q h cells slots pc' Ls (.int (u + w) :: st)) : own_W l Z y bytes ml ret R n0 Q h cells slots pc Ls (.int w :: .int u :: st) :=
  own_pure (fun p e below T t m c hA hx hb hr => by subst hp; exact XS.iadd hA hx rfl (hb ▸ hd) rfl hr) k
theorem own_isub {u w : Int32} (hd : decode bytes pc = .ok (.isub, 1)) (hp : pc + 1 = pc') (k : own_W l Z y bytes ml ret R n0 Q h cells slots pc' Ls (.int (u - w) :: st)) : own_W l Z y bytes ml ret R n0 Q h cells slots pc Ls (.int w :: .int u :: st) :=
  own_pure (fun p e below T t m c hA hx hb hr => by subst hp; exact XS.isub hA hx rfl (hb ▸ hd) rfl hr) k
theorem own_imul {u w : Int32} (hd : decode bytes pc = .ok (.imul, 1)) (hp : pc + 1 = pc') (k : own_W l Z y bytes ml ret R n0 Q h cells slots pc' Ls (.int (u * w) :: st)) : own_W l Z y bytes ml ret R n0 Q h cells slots pc Ls (.int w :: .int u :: st) :=
  own_pure (fun p e below T t m c hA hx hb hr => by subst hp; exact XS.imul hA hx rfl (hb ▸ hd) rfl hr) k
theorem own_iand {u w : Int32} (hd : decode bytes pc = .ok (.iand, 1)) (hp : pc + 1 = pc') (k : own_W l Z y bytes ml ret R n0 Q h cells slots pc' Ls (.int (u &&& w) :: st)) : own_W l Z y bytes ml ret R n0 Q h cells slots pc Ls (.int w :: .int u :: st) :=
  own_pure (fun p e below T t m c hA hx hb hr => by subst hp; exact XS.iand hA hx rfl (hb ▸ hd) rfl hr) k
theorem own_ior {u w : Int32} (hd : decode bytes pc = .ok (.ior, 1)) (hp : pc + 1 = pc') (k : own_W l Z y bytes ml ret R n0 Q h cells slots pc' Ls (.int (u ||| w) :: st)) : own_W l Z y bytes ml ret R n0 Q h cells slots pc Ls (.int w :: .int u :: st) :=
  own_pure (fun p e below T t m c hA hx hb hr => by subst hp; exact XT.ior hA hx rfl (hb ▸ hd) rfl hr) k
theorem own_ixor {u w : Int32} (hd : decode bytes pc = .ok (.ixor, 1)) (hp : pc + 1 = pc') (k : own_W l Z y bytes ml ret R n0 Q h cells slots pc' Ls (.int (u ^^^ w) :: st)) : own_W l Z y bytes ml ret R n0 Q h cells slots pc Ls (.int w :: .int u :: st) :=
  own_pure (fun p e below T t m c hA hx hb hr => by subst hp; exact XT.ixor hA hx rfl (hb ▸ hd) rfl hr) k
theorem own_ishl {u w : Int32} (hd : decode bytes pc = .ok (.ishl, 1)) (hp : pc + 1 = pc') (k : own_W l Z y bytes ml ret R n0 Q h cells slots pc' Ls (.int (u <<< (w &&& 31)) :: st)) : own_W l Z y bytes ml ret R n0 Q h cells slots pc Ls (.int w :: .int u :: st) :=
  own_pure (fun p e below T t m c hA hx hb hr => by subst hp; exact XT.ishl hA hx rfl (hb ▸ hd) rfl hr) k
theorem own_ishr {u w : Int32} (hd : decode bytes pc = .ok (.ishr, 1)) (hp : pc + 1 = pc') (k : own_W l Z y bytes ml ret R n0 Q h cells slots pc' Ls (.int (u >>> (w &&& 31)) :: st)) : own_W l Z y bytes ml ret R n0 Q h cells slots pc Ls (.int w :: .int u :: st) :=
  own_pure (fun p e below T t m c hA hx hb hr => by subst hp; exact XT.ishr hA hx rfl (hb ▸ hd) rfl hr) k
theorem own_iushr {u w : Int32} (hd : decode bytes pc = .ok (.iushr, 1)) (hp : pc + 1 = pc') (k : own_W l Z y bytes ml ret R n0 Q h cells slots pc' Ls (.int (XT.ushr u w) :: st)) : own_W l Z y bytes ml ret R n0 Q h cells slots pc Ls (.int w :: .int u :: st) :=
  own_pure (fun p e below T t m c hA hx hb hr => by subst hp; exact XT.iushr hA hx rfl (hb ▸ hd) rfl hr) k
theorem own_idiv {u w : Int32} (hd : decode bytes pc = .ok (.idiv, 1)) (hp : pc + 1 = pc') (hw : w ≠ 0) (k : own_W l Z y bytes ml ret R n0 Q h cells slots pc' Ls (.int (u / w) :: st)) : own_W l Z y bytes ml ret R n0 Q h cells slots pc Ls (.int w :: .int u :: st) :=
  own_pure (fun p e below T t m c hA hx hb hr => by subst hp; exact XS.idiv hA hx rfl (hb ▸ hd) rfl hw hr) k
theorem own_irem {u w : Int32} (hd : decode bytes pc = .ok (.irem, 1)) (hp : pc + 1 = pc') (hw : w ≠ 0) (k : own_W l Z y bytes ml ret R n0 Q h cells slots pc' Ls (.int (u % w) :: st)) : own_W l Z y bytes ml ret R n0 Q h cells slots pc Ls (.int w :: .int u :: st) :=
  own_pure (fun p e below T t m c hA hx hb hr => by subst hp; exact XS.irem hA hx rfl (hb ▸ hd) rfl hw (by rw [irem_eq_mod u w]; exact hr)) k
theorem own_ineg {u : Int32} (hd : decode bytes pc = .ok (.ineg, 1)) (hp : pc + 1 = pc') (k : own_W l Z y bytes ml ret R n0 Q h cells slots pc' Ls (.int (-u) :: st)) : own_W l Z y bytes ml ret R n0 Q h cells slots pc Ls (.int u :: st) :=
  own_pure (fun p e below T t m c hA hx hb hr => by subst hp; exact XS.ineg hA hx rfl (hb ▸ hd) rfl hr) k
theorem own_ladd {u w : Int64} (hd : decode bytes pc = .ok (.ladd, 1)) (hp : pc + 1 = pc') (k : own_W l Z y bytes ml ret R n0 Q h cells slots pc' Ls (.long (u + w) :: st)) : own_W l Z y bytes ml ret R n0 Q h cells slots pc Ls (.long w :: .long u :: st) :=
  own_pure (fun p e below T t m c hA hx hb hr => by subst hp; exact XT.ladd hA hx rfl (hb ▸ hd) rfl hr) k
theorem own_lsub {u w : Int64} (hd : decode bytes pc = .ok (.lsub, 1)) (hp : pc + 1 = pc') (k : own_W l Z y bytes ml ret R n0 Q h cells slots pc' Ls (.long (u - w) :: st)) : own_W l Z y bytes ml ret R n0 Q h cells slots pc Ls (.long w :: .long u :: st) :=
  own_pure (fun p e below T t m c hA hx hb hr => by subst hp; exact XT.lsub hA hx rfl (hb ▸ hd) rfl hr) k
theorem own_lmul {u w : Int64} (hd : decode bytes pc = .ok (.lmul, 1)) (hp : pc + 1 = pc') (k : own_W l Z y bytes ml ret R n0 Q h cells slots pc' Ls (.long (u * w) :: st)) : own_W l Z y bytes ml ret R n0 Q h cells slots pc Ls (.long w :: .long u :: st) :=
  own_pure (fun p e below T t m c hA hx hb hr => by subst hp; exact XT.lmul hA hx rfl (hb ▸ hd) rfl hr) k
theorem own_land {u w : Int64} (hd : decode bytes pc = .ok (.land, 1)) (hp : pc + 1 = pc') (k : own_W l Z y bytes ml ret R n0 Q h cells slots pc' Ls (.long (u &&& w) :: st)) : own_W l Z y bytes ml ret R n0 Q h cells slots pc Ls (.long w :: .long u :: st) :=
  own_pure (fun p e below T t m c hA hx hb hr => by subst hp; exact XT.land hA hx rfl (hb ▸ hd) rfl hr) k
theorem own_lor {u w : Int64} (hd : decode bytes pc = .ok (.lor, 1)) (hp : pc + 1 = pc') (k : own_W l Z y bytes ml ret R n0 Q h cells slots pc' Ls (.long (u ||| w) :: st)) : own_W l Z y bytes ml ret R n0 Q h cells slots pc Ls (.long w :: .long u :: st) :=
  own_pure (fun p e below T t m c hA hx hb hr => by subst hp; exact XT.lor hA hx rfl (hb ▸ hd) rfl hr) k
theorem own_lxor {u w : Int64} (hd : decode bytes pc = .ok (.lxor, 1)) (hp : pc + 1 = pc') (k : own_W l Z y bytes ml ret R n0 Q h cells slots pc' Ls (.long (u ^^^ w) :: st)) : own_W l Z y bytes ml ret R n0 Q h cells slots pc Ls (.long w :: .long u :: st) :=
  own_pure (fun p e below T t m c hA hx hb hr => by subst hp; exact XT.lxor hA hx rfl (hb ▸ hd) rfl hr) k
theorem own_lrem {u w : Int64} (hd : decode bytes pc = .ok (.lrem, 1)) (hp : pc + 1 = pc') (hw : w ≠ 0) (k : own_W l Z y bytes ml ret R n0 Q h cells slots pc' Ls (.long (u % w) :: st)) : own_W l Z y bytes ml ret R n0 Q h cells slots pc Ls (.long w :: .long u :: st) :=
  own_pure (fun p e below T t m c hA hx hb hr => by subst hp; exact XT.lrem hA hx rfl (hb ▸ hd) rfl hw (by rw [lrem_mod u w]; exact hr)) k
theorem own_lshl {u : Int64} {w : Int32} (hd : decode bytes pc = .ok (.lshl, 1)) (hp : pc + 1 = pc') (k : own_W l Z y bytes ml ret R n0 Q h cells slots pc' Ls (.long (u <<< (w.toInt64 &&& 63)) :: st)) : own_W l Z y bytes ml ret R n0 Q h cells slots pc Ls (.int w :: .long u :: st) :=
  own_pure (fun p e below T t m c hA hx hb hr => by subst hp; exact XT.lshl hA hx rfl (hb ▸ hd) rfl hr) k
theorem own_lshr {u : Int64} {w : Int32} (hd : decode bytes pc = .ok (.lshr, 1)) (hp : pc + 1 = pc') (k : own_W l Z y bytes ml ret R n0 Q h cells slots pc' Ls (.long (u >>> (w.toInt64 &&& 63)) :: st)) : own_W l Z y bytes ml ret R n0 Q h cells slots pc Ls (.int w :: .long u :: st) :=
  own_pure (fun p e below T t m c hA hx hb hr => by subst hp; exact XT.lshr hA hx rfl (hb ▸ hd) rfl hr) k
theorem own_lushr {u : Int64} {w : Int32} (hd : decode bytes pc = .ok (.lushr, 1)) (hp : pc + 1 = pc') (k : own_W l Z y bytes ml ret R n0 Q h cells slots pc' Ls (.long (XT.ushrL u w) :: st)) : own_W l Z y bytes ml ret R n0 Q h cells slots pc Ls (.int w :: .long u :: st) :=
  own_pure (fun p e below T t m c hA hx hb hr => by subst hp; exact XT.lushr hA hx rfl (hb ▸ hd) rfl hr) k
theorem own_i2l {u : Int32} (hd : decode bytes pc = .ok (.i2l, 1)) (hp : pc + 1 = pc') (k : own_W l Z y bytes ml ret R n0 Q h cells slots pc' Ls (.long u.toInt64 :: st)) : own_W l Z y bytes ml ret R n0 Q h cells slots pc Ls (.int u :: st) :=
  own_pure (fun p e below T t m c hA hx hb hr => by subst hp; exact XT.i2l hA hx rfl (hb ▸ hd) rfl hr) k
theorem own_l2i {u : Int64} (hd : decode bytes pc = .ok (.l2i, 1)) (hp : pc + 1 = pc') (k : own_W l Z y bytes ml ret R n0 Q h cells slots pc' Ls (.int u.toInt32 :: st)) : own_W l Z y bytes ml ret R n0 Q h cells slots pc Ls (.long u :: st) :=
  own_pure (fun p e below T t m c hA hx hb hr => by subst hp; exact XT.l2i hA hx rfl (hb ▸ hd) rfl hr) k
theorem own_i2b {u : Int32} (hd : decode bytes pc = .ok (.i2b, 1)) (hp : pc + 1 = pc') (k : own_W l Z y bytes ml ret R n0 Q h cells slots pc' Ls (.int u.toInt8.toInt32 :: st)) : own_W l Z y bytes ml ret R n0 Q h cells slots pc Ls (.int u :: st) :=
  own_pure (fun p e below T t m c hA hx hb hr => by subst hp; exact XT.i2b hA hx rfl (hb ▸ hd) rfl hr) k
theorem own_i2c {u : Int32} (hd : decode bytes pc = .ok (.i2c, 1)) (hp : pc + 1 = pc') (k : own_W l Z y bytes ml ret R n0 Q h cells slots pc' Ls (.int u.toUInt32.toUInt16.toUInt32.toInt32 :: st)) : own_W l Z y bytes ml ret R n0 Q h cells slots pc Ls (.int u :: st) :=
  own_pure (fun p e below T t m c hA hx hb hr => by subst hp; exact XT.i2c hA hx rfl (hb ▸ hd) rfl hr) k
theorem own_lcmp {u w : Int64} (hd : decode bytes pc = .ok (.lcmp, 1)) (hp : pc + 1 = pc') (k : own_W l Z y bytes ml ret R n0 Q h cells slots pc' Ls (.int (XT.cmpL u w) :: st)) : own_W l Z y bytes ml ret R n0 Q h cells slots pc Ls (.long w :: .long u :: st) :=
  own_pure (fun p e below T t m c hA hx hb hr => by subst hp; exact XT.lcmp hA hx rfl (hb ▸ hd) rfl hr) k
theorem own_dup {u : Value} (hd : decode bytes pc = .ok (.dup, 1)) (hp : pc + 1 = pc') (hc : u.category = 1) (k : own_W l Z y bytes ml ret R n0 Q h cells slots pc' Ls (u :: u :: st)) : own_W l Z y bytes ml ret R n0 Q h cells slots pc Ls (u :: st) :=
  own_pure (fun p e below T t m c hA hx hb hr => by subst hp; exact XS.dup hA hx rfl (hb ▸ hd) rfl hc hr) k
theorem own_pop {u : Value} (hd : decode bytes pc = .ok (.pop, 1)) (hp : pc + 1 = pc') (hc : u.category = 1) (k : own_W l Z y bytes ml ret R n0 Q h cells slots pc' Ls (st)) : own_W l Z y bytes ml ret R n0 Q h cells slots pc Ls (u :: st) :=
  own_pure (fun p e below T t m c hA hx hb hr => by subst hp; exact XT.pop hA hx rfl (hb ▸ hd) rfl hc hr) k
theorem own_dupX1 {u w : Value} (hd : decode bytes pc = .ok (.dup_x1, 1)) (hp : pc + 1 = pc') (hc : u.category = 1) (hc' : w.category = 1) (k : own_W l Z y bytes ml ret R n0 Q h cells slots pc' Ls (u :: w :: u :: st)) : own_W l Z y bytes ml ret R n0 Q h cells slots pc Ls (u :: w :: st) :=
  own_pure (fun p e below T t m c hA hx hb hr => by subst hp; exact XT.dupX1 hA hx rfl (hb ▸ hd) rfl hc hc' hr) k
theorem own_dup2 {u w : Value} (hd : decode bytes pc = .ok (.dup2, 1)) (hp : pc + 1 = pc') (hc : u.category = 1) (hc' : w.category = 1) (k : own_W l Z y bytes ml ret R n0 Q h cells slots pc' Ls (u :: w :: u :: w :: st)) : own_W l Z y bytes ml ret R n0 Q h cells slots pc Ls (u :: w :: st) :=
  own_pure (fun p e below T t m c hA hx hb hr => by subst hp; exact XT.dup2 hA hx rfl (hb ▸ hd) rfl hc hc' hr) k
theorem own_dup2L {u : Int64} (hd : decode bytes pc = .ok (.dup2, 1)) (hp : pc + 1 = pc') (k : own_W l Z y bytes ml ret R n0 Q h cells slots pc' Ls (.long u :: .long u :: st)) : own_W l Z y bytes ml ret R n0 Q h cells slots pc Ls (.long u :: st) :=
  own_pure (fun p e below T t m c hA hx hb hr => by subst hp; exact XT.dup2L hA hx rfl (hb ▸ hd) rfl hr) k
theorem own_pop2step {tb : Tables} [Ours tb] {e : Env} {below : List Frame} {T target : State} {m : MethodId} {c : Code} {g : JFrame} (h : At T m c below) (hx : tb.exec = Jvm.exec) (hg : g.method = m) {u : Int64} {rest : List Value} (hd : decode c.code g.pc = .ok (.pop2, 1)) (hs : g.stack = .long u :: rest)
    (hr : Steps tb e below (T.setTop { g with pc := g.pc + 1, stack := rest }) target) : Steps tb e below (T.setTop g) target := by
  subst hg
  jvm_step h [h.top, hx, hd, hs, pop2.wp_sem, Value.category]
  exact hr
theorem own_pop2L {u : Int64} (hd : decode bytes pc = .ok (.pop2, 1)) (hp : pc + 1 = pc') (k : own_W l Z y bytes ml ret R n0 Q h cells slots pc' Ls (st)) : own_W l Z y bytes ml ret R n0 Q h cells slots pc Ls (.long u :: st) :=
  own_pure (fun p e below T t m c hA hx hb hr => by subst hp; exact own_pop2step hA hx rfl (hb ▸ hd) rfl hr) k
theorem own_dupX2step {tb : Tables} [Ours tb] {e : Env} {below : List Frame} {T target : State} {m : MethodId} {c : Code} {g : JFrame} (h : At T m c below) (hx : tb.exec = Jvm.exec) (hg : g.method = m) {x y z : Value} {rest : List Value} (hd : decode c.code g.pc = .ok (.dup_x2, 1)) (hs : g.stack = x :: y :: z :: rest) (hc : x.category = 1) (hc' : y.category = 1) (hc'' : z.category = 1)
    (hr : Steps tb e below (T.setTop { g with pc := g.pc + 1, stack := x :: y :: z :: x :: rest }) target) : Steps tb e below (T.setTop g) target := by
  subst hg
  jvm_step h [h.top, hx, hd, hs, dup_x2.wp_sem, hc, hc', hc'']
  exact hr
theorem own_dupX2 {u w x : Value} (hd : decode bytes pc = .ok (.dup_x2, 1)) (hp : pc + 1 = pc') (hc : u.category = 1) (hc' : w.category = 1) (hc'' : x.category = 1) (k : own_W l Z y bytes ml ret R n0 Q h cells slots pc' Ls (u :: w :: x :: u :: st)) : own_W l Z y bytes ml ret R n0 Q h cells slots pc Ls (u :: w :: x :: st) :=
  own_pure (fun p e below T t m c hA hx hb hr => by subst hp; exact own_dupX2step hA hx rfl (hb ▸ hd) rfl hc hc' hc'' hr) k
theorem own_goto {o : Int} (hd : decode bytes pc = .ok (.goto o, 3)) (ho : 0 ≤ (pc : Int) + o) (hp : ((pc : Int) + o).toNat = pc') (k : own_W l Z y bytes ml ret R n0 Q h cells slots pc' Ls st) : own_W l Z y bytes ml ret R n0 Q h cells slots pc Ls st :=
  own_pure (fun p e below T t m c hA hx hb hr => XS.goto hA hx rfl rfl (hb ▸ hd) ho hp hr) k
theorem own_if_eq_t {u : Int32} {o : Int} (hd : decode bytes pc = .ok (.ifCond .eq o, 3)) (hc : u = 0) (ho : 0 ≤ (pc : Int) + o) (hp : ((pc : Int) + o).toNat = pc') (k : own_W l Z y bytes ml ret R n0 Q h cells slots pc' Ls st) : own_W l Z y bytes ml ret R n0 Q h cells slots pc Ls (.int u :: st) :=
  own_pure (fun p e below T t m c hA hx hb hr => XS.ifYes hA hx rfl rfl (hb ▸ hd) rfl (XT.i0_eq_t hc) ho hp hr) k
theorem own_if_eq_f {u : Int32} {o : Int} (hd : decode bytes pc = .ok (.ifCond .eq o, 3)) (hc : ¬ u = 0) (hp : pc + 3 = pc') (k : own_W l Z y bytes ml ret R n0 Q h cells slots pc' Ls st) : own_W l Z y bytes ml ret R n0 Q h cells slots pc Ls (.int u :: st) :=
  own_pure (fun p e below T t m c hA hx hb hr => by subst hp; exact XS.ifNo hA hx rfl (hb ▸ hd) rfl (XT.i0_eq_f hc) hr) k
theorem own_if_eq {u : Int32} {o : Int} {pf : Nat} (hd : decode bytes pc = .ok (.ifCond .eq o, 3)) (ho : 0 ≤ (pc : Int) + o) (hp : ((pc : Int) + o).toNat = pc') (hq : pc + 3 = pf) (kt : u = 0 → own_W l Z y bytes ml ret R n0 Q h cells slots pc' Ls st) (kf : ¬ u = 0 → own_W l Z y bytes ml ret R n0 Q h cells slots pf Ls st) : own_W l Z y bytes ml ret R n0 Q h cells slots pc Ls (.int u :: st) := by
  by_cases hc : u = 0
  · exact own_if_eq_t hd hc ho hp (kt hc)
  · exact own_if_eq_f hd (by first | exact hc | exact Decidable.not_not.mp hc) hq (kf (by first | exact hc | exact Decidable.not_not.mp hc))
theorem own_ic_eq_t {u w : Int32} {o : Int} (hd : decode bytes pc = .ok (.if_icmp .eq o, 3)) (hc : u = w) (ho : 0 ≤ (pc : Int) + o) (hp : ((pc : Int) + o).toNat = pc') (k : own_W l Z y bytes ml ret R n0 Q h cells slots pc' Ls st) : own_W l Z y bytes ml ret R n0 Q h cells slots pc Ls (.int w :: .int u :: st) :=
  own_pure (fun p e below T t m c hA hx hb hr => XS.icmpYes hA hx rfl rfl (hb ▸ hd) rfl (XT.ii_eq_t hc) ho hp hr) k
theorem own_ic_eq_f {u w : Int32} {o : Int} (hd : decode bytes pc = .ok (.if_icmp .eq o, 3)) (hc : ¬ u = w) (hp : pc + 3 = pc') (k : own_W l Z y bytes ml ret R n0 Q h cells slots pc' Ls st) : own_W l Z y bytes ml ret R n0 Q h cells slots pc Ls (.int w :: .int u :: st) :=
  own_pure (fun p e below T t m c hA hx hb hr => by subst hp; exact XS.icmpNo hA hx rfl (hb ▸ hd) rfl (XT.ii_eq_f hc) hr) k
theorem own_ic_eq {u w : Int32} {o : Int} {pf : Nat} (hd : decode bytes pc = .ok (.if_icmp .eq o, 3)) (ho : 0 ≤ (pc : Int) + o) (hp : ((pc : Int) + o).toNat = pc') (hq : pc + 3 = pf) (kt : u = w → own_W l Z y bytes ml ret R n0 Q h cells slots pc' Ls st) (kf : ¬ u = w → own_W l Z y bytes ml ret R n0 Q h cells slots pf Ls st) : own_W l Z y bytes ml ret R n0 Q h cells slots pc Ls (.int w :: .int u :: st) := by
  by_cases hc : u = w
  · exact own_ic_eq_t hd hc ho hp (kt hc)
  · exact own_ic_eq_f hd (by first | exact hc | exact Decidable.not_not.mp hc) hq (kf (by first | exact hc | exact Decidable.not_not.mp hc))
theorem own_il_eq_t {u w : Int64} {o : Int} (hd : decode bytes pc = .ok (.ifCond .eq o, 3)) (hc : u = w) (ho : 0 ≤ (pc : Int) + o) (hp : ((pc : Int) + o).toNat = pc') (k : own_W l Z y bytes ml ret R n0 Q h cells slots pc' Ls st) : own_W l Z y bytes ml ret R n0 Q h cells slots pc Ls (.int (XT.cmpL u w) :: st) :=
  own_pure (fun p e below T t m c hA hx hb hr => XS.ifYes hA hx rfl rfl (hb ▸ hd) rfl (XT.ll_eq_t hc) ho hp hr) k
theorem own_il_eq_f {u w : Int64} {o : Int} (hd : decode bytes pc = .ok (.ifCond .eq o, 3)) (hc : ¬ u = w) (hp : pc + 3 = pc') (k : own_W l Z y bytes ml ret R n0 Q h cells slots pc' Ls st) : own_W l Z y bytes ml ret R n0 Q h cells slots pc Ls (.int (XT.cmpL u w) :: st) :=
  own_pure (fun p e below T t m c hA hx hb hr => by subst hp; exact XS.ifNo hA hx rfl (hb ▸ hd) rfl (XT.ll_eq_f hc) hr) k
theorem own_il_eq {u w : Int64} {o : Int} {pf : Nat} (hd : decode bytes pc = .ok (.ifCond .eq o, 3)) (ho : 0 ≤ (pc : Int) + o) (hp : ((pc : Int) + o).toNat = pc') (hq : pc + 3 = pf) (kt : u = w → own_W l Z y bytes ml ret R n0 Q h cells slots pc' Ls st) (kf : ¬ u = w → own_W l Z y bytes ml ret R n0 Q h cells slots pf Ls st) : own_W l Z y bytes ml ret R n0 Q h cells slots pc Ls (.int (XT.cmpL u w) :: st) := by
  by_cases hc : u = w
  · exact own_il_eq_t hd hc ho hp (kt hc)
  · exact own_il_eq_f hd (by first | exact hc | exact Decidable.not_not.mp hc) hq (kf (by first | exact hc | exact Decidable.not_not.mp hc))
theorem own_if_ne_t {u : Int32} {o : Int} (hd : decode bytes pc = .ok (.ifCond .ne o, 3)) (hc : ¬ u = 0) (ho : 0 ≤ (pc : Int) + o) (hp : ((pc : Int) + o).toNat = pc') (k : own_W l Z y bytes ml ret R n0 Q h cells slots pc' Ls st) : own_W l Z y bytes ml ret R n0 Q h cells slots pc Ls (.int u :: st) :=
  own_pure (fun p e below T t m c hA hx hb hr => XS.ifYes hA hx rfl rfl (hb ▸ hd) rfl (XT.i0_ne_t hc) ho hp hr) k
theorem own_if_ne_f {u : Int32} {o : Int} (hd : decode bytes pc = .ok (.ifCond .ne o, 3)) (hc : u = 0) (hp : pc + 3 = pc') (k : own_W l Z y bytes ml ret R n0 Q h cells slots pc' Ls st) : own_W l Z y bytes ml ret R n0 Q h cells slots pc Ls (.int u :: st) :=
  own_pure (fun p e below T t m c hA hx hb hr => by subst hp; exact XS.ifNo hA hx rfl (hb ▸ hd) rfl (XT.i0_ne_f hc) hr) k
theorem own_if_ne {u : Int32} {o : Int} {pf : Nat} (hd : decode bytes pc = .ok (.ifCond .ne o, 3)) (ho : 0 ≤ (pc : Int) + o) (hp : ((pc : Int) + o).toNat = pc') (hq : pc + 3 = pf) (kt : ¬ u = 0 → own_W l Z y bytes ml ret R n0 Q h cells slots pc' Ls st) (kf : u = 0 → own_W l Z y bytes ml ret R n0 Q h cells slots pf Ls st) : own_W l Z y bytes ml ret R n0 Q h cells slots pc Ls (.int u :: st) := by
  by_cases hc : ¬ u = 0
  · exact own_if_ne_t hd hc ho hp (kt hc)
  · exact own_if_ne_f hd (by first | exact hc | exact Decidable.not_not.mp hc) hq (kf (by first | exact hc | exact Decidable.not_not.mp hc))
theorem own_ic_ne_t {u w : Int32} {o : Int} (hd : decode bytes pc = .ok (.if_icmp .ne o, 3)) (hc : ¬ u = w) (ho : 0 ≤ (pc : Int) + o) (hp : ((pc : Int) + o).toNat = pc') (k : own_W l Z y bytes ml ret R n0 Q h cells slots pc' Ls st) : own_W l Z y bytes ml ret R n0 Q h cells slots pc Ls (.int w :: .int u :: st) :=
  own_pure (fun p e below T t m c hA hx hb hr => XS.icmpYes hA hx rfl rfl (hb ▸ hd) rfl (XT.ii_ne_t hc) ho hp hr) k
theorem own_ic_ne_f {u w : Int32} {o : Int} (hd : decode bytes pc = .ok (.if_icmp .ne o, 3)) (hc : u = w) (hp : pc + 3 = pc') (k : own_W l Z y bytes ml ret R n0 Q h cells slots pc' Ls st) : own_W l Z y bytes ml ret R n0 Q h cells slots pc Ls (.int w :: .int u :: st) :=
  own_pure (fun p e below T t m c hA hx hb hr => by subst hp; exact XS.icmpNo hA hx rfl (hb ▸ hd) rfl (XT.ii_ne_f hc) hr) k
theorem own_ic_ne {u w : Int32} {o : Int} {pf : Nat} (hd : decode bytes pc = .ok (.if_icmp .ne o, 3)) (ho : 0 ≤ (pc : Int) + o) (hp : ((pc : Int) + o).toNat = pc') (hq : pc + 3 = pf) (kt : ¬ u = w → own_W l Z y bytes ml ret R n0 Q h cells slots pc' Ls st) (kf : u = w → own_W l Z y bytes ml ret R n0 Q h cells slots pf Ls st) : own_W l Z y bytes ml ret R n0 Q h cells slots pc Ls (.int w :: .int u :: st) := by
  by_cases hc : ¬ u = w
  · exact own_ic_ne_t hd hc ho hp (kt hc)
  · exact own_ic_ne_f hd (by first | exact hc | exact Decidable.not_not.mp hc) hq (kf (by first | exact hc | exact Decidable.not_not.mp hc))
theorem own_il_ne_t {u w : Int64} {o : Int} (hd : decode bytes pc = .ok (.ifCond .ne o, 3)) (hc : ¬ u = w) (ho : 0 ≤ (pc : Int) + o) (hp : ((pc : Int) + o).toNat = pc') (k : own_W l Z y bytes ml ret R n0 Q h cells slots pc' Ls st) : own_W l Z y bytes ml ret R n0 Q h cells slots pc Ls (.int (XT.cmpL u w) :: st) :=
  own_pure (fun p e below T t m c hA hx hb hr => XS.ifYes hA hx rfl rfl (hb ▸ hd) rfl (XT.ll_ne_t hc) ho hp hr) k
theorem own_il_ne_f {u w : Int64} {o : Int} (hd : decode bytes pc = .ok (.ifCond .ne o, 3)) (hc : u = w) (hp : pc + 3 = pc') (k : own_W l Z y bytes ml ret R n0 Q h cells slots pc' Ls st) : own_W l Z y bytes ml ret R n0 Q h cells slots pc Ls (.int (XT.cmpL u w) :: st) :=
  own_pure (fun p e below T t m c hA hx hb hr => by subst hp; exact XS.ifNo hA hx rfl (hb ▸ hd) rfl (XT.ll_ne_f hc) hr) k
theorem own_il_ne {u w : Int64} {o : Int} {pf : Nat} (hd : decode bytes pc = .ok (.ifCond .ne o, 3)) (ho : 0 ≤ (pc : Int) + o) (hp : ((pc : Int) + o).toNat = pc') (hq : pc + 3 = pf) (kt : ¬ u = w → own_W l Z y bytes ml ret R n0 Q h cells slots pc' Ls st) (kf : u = w → own_W l Z y bytes ml ret R n0 Q h cells slots pf Ls st) : own_W l Z y bytes ml ret R n0 Q h cells slots pc Ls (.int (XT.cmpL u w) :: st) := by
  by_cases hc : ¬ u = w
  · exact own_il_ne_t hd hc ho hp (kt hc)
  · exact own_il_ne_f hd (by first | exact hc | exact Decidable.not_not.mp hc) hq (kf (by first | exact hc | exact Decidable.not_not.mp hc))
theorem own_if_lt_t {u : Int32} {o : Int} (hd : decode bytes pc = .ok (.ifCond .lt o, 3)) (hc : u < 0) (ho : 0 ≤ (pc : Int) + o) (hp : ((pc : Int) + o).toNat = pc') (k : own_W l Z y bytes ml ret R n0 Q h cells slots pc' Ls st) : own_W l Z y bytes ml ret R n0 Q h cells slots pc Ls (.int u :: st) :=
  own_pure (fun p e below T t m c hA hx hb hr => XS.ifYes hA hx rfl rfl (hb ▸ hd) rfl (XT.i0_lt_t hc) ho hp hr) k
theorem own_if_lt_f {u : Int32} {o : Int} (hd : decode bytes pc = .ok (.ifCond .lt o, 3)) (hc : ¬ u < 0) (hp : pc + 3 = pc') (k : own_W l Z y bytes ml ret R n0 Q h cells slots pc' Ls st) : own_W l Z y bytes ml ret R n0 Q h cells slots pc Ls (.int u :: st) :=
  own_pure (fun p e below T t m c hA hx hb hr => by subst hp; exact XS.ifNo hA hx rfl (hb ▸ hd) rfl (XT.i0_lt_f hc) hr) k
theorem own_if_lt {u : Int32} {o : Int} {pf : Nat} (hd : decode bytes pc = .ok (.ifCond .lt o, 3)) (ho : 0 ≤ (pc : Int) + o) (hp : ((pc : Int) + o).toNat = pc') (hq : pc + 3 = pf) (kt : u < 0 → own_W l Z y bytes ml ret R n0 Q h cells slots pc' Ls st) (kf : ¬ u < 0 → own_W l Z y bytes ml ret R n0 Q h cells slots pf Ls st) : own_W l Z y bytes ml ret R n0 Q h cells slots pc Ls (.int u :: st) := by
  by_cases hc : u < 0
  · exact own_if_lt_t hd hc ho hp (kt hc)
  · exact own_if_lt_f hd (by first | exact hc | exact Decidable.not_not.mp hc) hq (kf (by first | exact hc | exact Decidable.not_not.mp hc))
theorem own_ic_lt_t {u w : Int32} {o : Int} (hd : decode bytes pc = .ok (.if_icmp .lt o, 3)) (hc : u < w) (ho : 0 ≤ (pc : Int) + o) (hp : ((pc : Int) + o).toNat = pc') (k : own_W l Z y bytes ml ret R n0 Q h cells slots pc' Ls st) : own_W l Z y bytes ml ret R n0 Q h cells slots pc Ls (.int w :: .int u :: st) :=
  own_pure (fun p e below T t m c hA hx hb hr => XS.icmpYes hA hx rfl rfl (hb ▸ hd) rfl (XT.ii_lt_t hc) ho hp hr) k
theorem own_ic_lt_f {u w : Int32} {o : Int} (hd : decode bytes pc = .ok (.if_icmp .lt o, 3)) (hc : ¬ u < w) (hp : pc + 3 = pc') (k : own_W l Z y bytes ml ret R n0 Q h cells slots pc' Ls st) : own_W l Z y bytes ml ret R n0 Q h cells slots pc Ls (.int w :: .int u :: st) :=
  own_pure (fun p e below T t m c hA hx hb hr => by subst hp; exact XS.icmpNo hA hx rfl (hb ▸ hd) rfl (XT.ii_lt_f hc) hr) k
theorem own_ic_lt {u w : Int32} {o : Int} {pf : Nat} (hd : decode bytes pc = .ok (.if_icmp .lt o, 3)) (ho : 0 ≤ (pc : Int) + o) (hp : ((pc : Int) + o).toNat = pc') (hq : pc + 3 = pf) (kt : u < w → own_W l Z y bytes ml ret R n0 Q h cells slots pc' Ls st) (kf : ¬ u < w → own_W l Z y bytes ml ret R n0 Q h cells slots pf Ls st) : own_W l Z y bytes ml ret R n0 Q h cells slots pc Ls (.int w :: .int u :: st) := by
  by_cases hc : u < w
  · exact own_ic_lt_t hd hc ho hp (kt hc)
  · exact own_ic_lt_f hd (by first | exact hc | exact Decidable.not_not.mp hc) hq (kf (by first | exact hc | exact Decidable.not_not.mp hc))
theorem own_il_lt_t {u w : Int64} {o : Int} (hd : decode bytes pc = .ok (.ifCond .lt o, 3)) (hc : u < w) (ho : 0 ≤ (pc : Int) + o) (hp : ((pc : Int) + o).toNat = pc') (k : own_W l Z y bytes ml ret R n0 Q h cells slots pc' Ls st) : own_W l Z y bytes ml ret R n0 Q h cells slots pc Ls (.int (XT.cmpL u w) :: st) :=
  own_pure (fun p e below T t m c hA hx hb hr => XS.ifYes hA hx rfl rfl (hb ▸ hd) rfl (XT.ll_lt_t hc) ho hp hr) k
theorem own_il_lt_f {u w : Int64} {o : Int} (hd : decode bytes pc = .ok (.ifCond .lt o, 3)) (hc : ¬ u < w) (hp : pc + 3 = pc') (k : own_W l Z y bytes ml ret R n0 Q h cells slots pc' Ls st) : own_W l Z y bytes ml ret R n0 Q h cells slots pc Ls (.int (XT.cmpL u w) :: st) :=
  own_pure (fun p e below T t m c hA hx hb hr => by subst hp; exact XS.ifNo hA hx rfl (hb ▸ hd) rfl (XT.ll_lt_f hc) hr) k
theorem own_il_lt {u w : Int64} {o : Int} {pf : Nat} (hd : decode bytes pc = .ok (.ifCond .lt o, 3)) (ho : 0 ≤ (pc : Int) + o) (hp : ((pc : Int) + o).toNat = pc') (hq : pc + 3 = pf) (kt : u < w → own_W l Z y bytes ml ret R n0 Q h cells slots pc' Ls st) (kf : ¬ u < w → own_W l Z y bytes ml ret R n0 Q h cells slots pf Ls st) : own_W l Z y bytes ml ret R n0 Q h cells slots pc Ls (.int (XT.cmpL u w) :: st) := by
  by_cases hc : u < w
  · exact own_il_lt_t hd hc ho hp (kt hc)
  · exact own_il_lt_f hd (by first | exact hc | exact Decidable.not_not.mp hc) hq (kf (by first | exact hc | exact Decidable.not_not.mp hc))
theorem own_if_ge_t {u : Int32} {o : Int} (hd : decode bytes pc = .ok (.ifCond .ge o, 3)) (hc : ¬ u < 0) (ho : 0 ≤ (pc : Int) + o) (hp : ((pc : Int) + o).toNat = pc') (k : own_W l Z y bytes ml ret R n0 Q h cells slots pc' Ls st) : own_W l Z y bytes ml ret R n0 Q h cells slots pc Ls (.int u :: st) :=
  own_pure (fun p e below T t m c hA hx hb hr => XS.ifYes hA hx rfl rfl (hb ▸ hd) rfl (XT.i0_ge_t hc) ho hp hr) k
theorem own_if_ge_f {u : Int32} {o : Int} (hd : decode bytes pc = .ok (.ifCond .ge o, 3)) (hc : u < 0) (hp : pc + 3 = pc') (k : own_W l Z y bytes ml ret R n0 Q h cells slots pc' Ls st) : own_W l Z y bytes ml ret R n0 Q h cells slots pc Ls (.int u :: st) :=
  own_pure (fun p e below T t m c hA hx hb hr => by subst hp; exact XS.ifNo hA hx rfl (hb ▸ hd) rfl (XT.i0_ge_f hc) hr) k
theorem own_if_ge {u : Int32} {o : Int} {pf : Nat} (hd : decode bytes pc = .ok (.ifCond .ge o, 3)) (ho : 0 ≤ (pc : Int) + o) (hp : ((pc : Int) + o).toNat = pc') (hq : pc + 3 = pf) (kt : ¬ u < 0 → own_W l Z y bytes ml ret R n0 Q h cells slots pc' Ls st) (kf : u < 0 → own_W l Z y bytes ml ret R n0 Q h cells slots pf Ls st) : own_W l Z y bytes ml ret R n0 Q h cells slots pc Ls (.int u :: st) := by
  by_cases hc : ¬ u < 0
  · exact own_if_ge_t hd hc ho hp (kt hc)
  · exact own_if_ge_f hd (by first | exact hc | exact Decidable.not_not.mp hc) hq (kf (by first | exact hc | exact Decidable.not_not.mp hc))
theorem own_ic_ge_t {u w : Int32} {o : Int} (hd : decode bytes pc = .ok (.if_icmp .ge o, 3)) (hc : ¬ u < w) (ho : 0 ≤ (pc : Int) + o) (hp : ((pc : Int) + o).toNat = pc') (k : own_W l Z y bytes ml ret R n0 Q h cells slots pc' Ls st) : own_W l Z y bytes ml ret R n0 Q h cells slots pc Ls (.int w :: .int u :: st) :=
  own_pure (fun p e below T t m c hA hx hb hr => XS.icmpYes hA hx rfl rfl (hb ▸ hd) rfl (XT.ii_ge_t hc) ho hp hr) k
theorem own_ic_ge_f {u w : Int32} {o : Int} (hd : decode bytes pc = .ok (.if_icmp .ge o, 3)) (hc : u < w) (hp : pc + 3 = pc') (k : own_W l Z y bytes ml ret R n0 Q h cells slots pc' Ls st) : own_W l Z y bytes ml ret R n0 Q h cells slots pc Ls (.int w :: .int u :: st) :=
  own_pure (fun p e below T t m c hA hx hb hr => by subst hp; exact XS.icmpNo hA hx rfl (hb ▸ hd) rfl (XT.ii_ge_f hc) hr) k
theorem own_ic_ge {u w : Int32} {o : Int} {pf : Nat} (hd : decode bytes pc = .ok (.if_icmp .ge o, 3)) (ho : 0 ≤ (pc : Int) + o) (hp : ((pc : Int) + o).toNat = pc') (hq : pc + 3 = pf) (kt : ¬ u < w → own_W l Z y bytes ml ret R n0 Q h cells slots pc' Ls st) (kf : u < w → own_W l Z y bytes ml ret R n0 Q h cells slots pf Ls st) : own_W l Z y bytes ml ret R n0 Q h cells slots pc Ls (.int w :: .int u :: st) := by
  by_cases hc : ¬ u < w
  · exact own_ic_ge_t hd hc ho hp (kt hc)
  · exact own_ic_ge_f hd (by first | exact hc | exact Decidable.not_not.mp hc) hq (kf (by first | exact hc | exact Decidable.not_not.mp hc))
theorem own_il_ge_t {u w : Int64} {o : Int} (hd : decode bytes pc = .ok (.ifCond .ge o, 3)) (hc : ¬ u < w) (ho : 0 ≤ (pc : Int) + o) (hp : ((pc : Int) + o).toNat = pc') (k : own_W l Z y bytes ml ret R n0 Q h cells slots pc' Ls st) : own_W l Z y bytes ml ret R n0 Q h cells slots pc Ls (.int (XT.cmpL u w) :: st) :=
  own_pure (fun p e below T t m c hA hx hb hr => XS.ifYes hA hx rfl rfl (hb ▸ hd) rfl (XT.ll_ge_t hc) ho hp hr) k
theorem own_il_ge_f {u w : Int64} {o : Int} (hd : decode bytes pc = .ok (.ifCond .ge o, 3)) (hc : u < w) (hp : pc + 3 = pc') (k : own_W l Z y bytes ml ret R n0 Q h cells slots pc' Ls st) : own_W l Z y bytes ml ret R n0 Q h cells slots pc Ls (.int (XT.cmpL u w) :: st) :=
  own_pure (fun p e below T t m c hA hx hb hr => by subst hp; exact XS.ifNo hA hx rfl (hb ▸ hd) rfl (XT.ll_ge_f hc) hr) k
theorem own_il_ge {u w : Int64} {o : Int} {pf : Nat} (hd : decode bytes pc = .ok (.ifCond .ge o, 3)) (ho : 0 ≤ (pc : Int) + o) (hp : ((pc : Int) + o).toNat = pc') (hq : pc + 3 = pf) (kt : ¬ u < w → own_W l Z y bytes ml ret R n0 Q h cells slots pc' Ls st) (kf : u < w → own_W l Z y bytes ml ret R n0 Q h cells slots pf Ls st) : own_W l Z y bytes ml ret R n0 Q h cells slots pc Ls (.int (XT.cmpL u w) :: st) := by
  by_cases hc : ¬ u < w
  · exact own_il_ge_t hd hc ho hp (kt hc)
  · exact own_il_ge_f hd (by first | exact hc | exact Decidable.not_not.mp hc) hq (kf (by first | exact hc | exact Decidable.not_not.mp hc))
theorem own_if_gt_t {u : Int32} {o : Int} (hd : decode bytes pc = .ok (.ifCond .gt o, 3)) (hc : 0 < u) (ho : 0 ≤ (pc : Int) + o) (hp : ((pc : Int) + o).toNat = pc') (k : own_W l Z y bytes ml ret R n0 Q h cells slots pc' Ls st) : own_W l Z y bytes ml ret R n0 Q h cells slots pc Ls (.int u :: st) :=
  own_pure (fun p e below T t m c hA hx hb hr => XS.ifYes hA hx rfl rfl (hb ▸ hd) rfl (XT.i0_gt_t hc) ho hp hr) k
theorem own_if_gt_f {u : Int32} {o : Int} (hd : decode bytes pc = .ok (.ifCond .gt o, 3)) (hc : ¬ 0 < u) (hp : pc + 3 = pc') (k : own_W l Z y bytes ml ret R n0 Q h cells slots pc' Ls st) : own_W l Z y bytes ml ret R n0 Q h cells slots pc Ls (.int u :: st) :=
  own_pure (fun p e below T t m c hA hx hb hr => by subst hp; exact XS.ifNo hA hx rfl (hb ▸ hd) rfl (XT.i0_gt_f hc) hr) k
theorem own_if_gt {u : Int32} {o : Int} {pf : Nat} (hd : decode bytes pc = .ok (.ifCond .gt o, 3)) (ho : 0 ≤ (pc : Int) + o) (hp : ((pc : Int) + o).toNat = pc') (hq : pc + 3 = pf) (kt : 0 < u → own_W l Z y bytes ml ret R n0 Q h cells slots pc' Ls st) (kf : ¬ 0 < u → own_W l Z y bytes ml ret R n0 Q h cells slots pf Ls st) : own_W l Z y bytes ml ret R n0 Q h cells slots pc Ls (.int u :: st) := by
  by_cases hc : 0 < u
  · exact own_if_gt_t hd hc ho hp (kt hc)
  · exact own_if_gt_f hd (by first | exact hc | exact Decidable.not_not.mp hc) hq (kf (by first | exact hc | exact Decidable.not_not.mp hc))
theorem own_ic_gt_t {u w : Int32} {o : Int} (hd : decode bytes pc = .ok (.if_icmp .gt o, 3)) (hc : w < u) (ho : 0 ≤ (pc : Int) + o) (hp : ((pc : Int) + o).toNat = pc') (k : own_W l Z y bytes ml ret R n0 Q h cells slots pc' Ls st) : own_W l Z y bytes ml ret R n0 Q h cells slots pc Ls (.int w :: .int u :: st) :=
  own_pure (fun p e below T t m c hA hx hb hr => XS.icmpYes hA hx rfl rfl (hb ▸ hd) rfl (XT.ii_gt_t hc) ho hp hr) k
theorem own_ic_gt_f {u w : Int32} {o : Int} (hd : decode bytes pc = .ok (.if_icmp .gt o, 3)) (hc : ¬ w < u) (hp : pc + 3 = pc') (k : own_W l Z y bytes ml ret R n0 Q h cells slots pc' Ls st) : own_W l Z y bytes ml ret R n0 Q h cells slots pc Ls (.int w :: .int u :: st) :=
  own_pure (fun p e below T t m c hA hx hb hr => by subst hp; exact XS.icmpNo hA hx rfl (hb ▸ hd) rfl (XT.ii_gt_f hc) hr) k
theorem own_ic_gt {u w : Int32} {o : Int} {pf : Nat} (hd : decode bytes pc = .ok (.if_icmp .gt o, 3)) (ho : 0 ≤ (pc : Int) + o) (hp : ((pc : Int) + o).toNat = pc') (hq : pc + 3 = pf) (kt : w < u → own_W l Z y bytes ml ret R n0 Q h cells slots pc' Ls st) (kf : ¬ w < u → own_W l Z y bytes ml ret R n0 Q h cells slots pf Ls st) : own_W l Z y bytes ml ret R n0 Q h cells slots pc Ls (.int w :: .int u :: st) := by
  by_cases hc : w < u
  · exact own_ic_gt_t hd hc ho hp (kt hc)
  · exact own_ic_gt_f hd (by first | exact hc | exact Decidable.not_not.mp hc) hq (kf (by first | exact hc | exact Decidable.not_not.mp hc))
theorem own_il_gt_t {u w : Int64} {o : Int} (hd : decode bytes pc = .ok (.ifCond .gt o, 3)) (hc : w < u) (ho : 0 ≤ (pc : Int) + o) (hp : ((pc : Int) + o).toNat = pc') (k : own_W l Z y bytes ml ret R n0 Q h cells slots pc' Ls st) : own_W l Z y bytes ml ret R n0 Q h cells slots pc Ls (.int (XT.cmpL u w) :: st) :=
  own_pure (fun p e below T t m c hA hx hb hr => XS.ifYes hA hx rfl rfl (hb ▸ hd) rfl (XT.ll_gt_t hc) ho hp hr) k
theorem own_il_gt_f {u w : Int64} {o : Int} (hd : decode bytes pc = .ok (.ifCond .gt o, 3)) (hc : ¬ w < u) (hp : pc + 3 = pc') (k : own_W l Z y bytes ml ret R n0 Q h cells slots pc' Ls st) : own_W l Z y bytes ml ret R n0 Q h cells slots pc Ls (.int (XT.cmpL u w) :: st) :=
  own_pure (fun p e below T t m c hA hx hb hr => by subst hp; exact XS.ifNo hA hx rfl (hb ▸ hd) rfl (XT.ll_gt_f hc) hr) k
theorem own_il_gt {u w : Int64} {o : Int} {pf : Nat} (hd : decode bytes pc = .ok (.ifCond .gt o, 3)) (ho : 0 ≤ (pc : Int) + o) (hp : ((pc : Int) + o).toNat = pc') (hq : pc + 3 = pf) (kt : w < u → own_W l Z y bytes ml ret R n0 Q h cells slots pc' Ls st) (kf : ¬ w < u → own_W l Z y bytes ml ret R n0 Q h cells slots pf Ls st) : own_W l Z y bytes ml ret R n0 Q h cells slots pc Ls (.int (XT.cmpL u w) :: st) := by
  by_cases hc : w < u
  · exact own_il_gt_t hd hc ho hp (kt hc)
  · exact own_il_gt_f hd (by first | exact hc | exact Decidable.not_not.mp hc) hq (kf (by first | exact hc | exact Decidable.not_not.mp hc))
theorem own_if_le_t {u : Int32} {o : Int} (hd : decode bytes pc = .ok (.ifCond .le o, 3)) (hc : ¬ 0 < u) (ho : 0 ≤ (pc : Int) + o) (hp : ((pc : Int) + o).toNat = pc') (k : own_W l Z y bytes ml ret R n0 Q h cells slots pc' Ls st) : own_W l Z y bytes ml ret R n0 Q h cells slots pc Ls (.int u :: st) :=
  own_pure (fun p e below T t m c hA hx hb hr => XS.ifYes hA hx rfl rfl (hb ▸ hd) rfl (XT.i0_le_t hc) ho hp hr) k
theorem own_if_le_f {u : Int32} {o : Int} (hd : decode bytes pc = .ok (.ifCond .le o, 3)) (hc : 0 < u) (hp : pc + 3 = pc') (k : own_W l Z y bytes ml ret R n0 Q h cells slots pc' Ls st) : own_W l Z y bytes ml ret R n0 Q h cells slots pc Ls (.int u :: st) :=
  own_pure (fun p e below T t m c hA hx hb hr => by subst hp; exact XS.ifNo hA hx rfl (hb ▸ hd) rfl (XT.i0_le_f hc) hr) k
theorem own_if_le {u : Int32} {o : Int} {pf : Nat} (hd : decode bytes pc = .ok (.ifCond .le o, 3)) (ho : 0 ≤ (pc : Int) + o) (hp : ((pc : Int) + o).toNat = pc') (hq : pc + 3 = pf) (kt : ¬ 0 < u → own_W l Z y bytes ml ret R n0 Q h cells slots pc' Ls st) (kf : 0 < u → own_W l Z y bytes ml ret R n0 Q h cells slots pf Ls st) : own_W l Z y bytes ml ret R n0 Q h cells slots pc Ls (.int u :: st) := by
  by_cases hc : ¬ 0 < u
  · exact own_if_le_t hd hc ho hp (kt hc)
  · exact own_if_le_f hd (by first | exact hc | exact Decidable.not_not.mp hc) hq (kf (by first | exact hc | exact Decidable.not_not.mp hc))
theorem own_ic_le_t {u w : Int32} {o : Int} (hd : decode bytes pc = .ok (.if_icmp .le o, 3)) (hc : ¬ w < u) (ho : 0 ≤ (pc : Int) + o) (hp : ((pc : Int) + o).toNat = pc') (k : own_W l Z y bytes ml ret R n0 Q h cells slots pc' Ls st) : own_W l Z y bytes ml ret R n0 Q h cells slots pc Ls (.int w :: .int u :: st) :=
  own_pure (fun p e below T t m c hA hx hb hr => XS.icmpYes hA hx rfl rfl (hb ▸ hd) rfl (XT.ii_le_t hc) ho hp hr) k
theorem own_ic_le_f {u w : Int32} {o : Int} (hd : decode bytes pc = .ok (.if_icmp .le o, 3)) (hc : w < u) (hp : pc + 3 = pc') (k : own_W l Z y bytes ml ret R n0 Q h cells slots pc' Ls st) : own_W l Z y bytes ml ret R n0 Q h cells slots pc Ls (.int w :: .int u :: st) :=
  own_pure (fun p e below T t m c hA hx hb hr => by subst hp; exact XS.icmpNo hA hx rfl (hb ▸ hd) rfl (XT.ii_le_f hc) hr) k
theorem own_ic_le {u w : Int32} {o : Int} {pf : Nat} (hd : decode bytes pc = .ok (.if_icmp .le o, 3)) (ho : 0 ≤ (pc : Int) + o) (hp : ((pc : Int) + o).toNat = pc') (hq : pc + 3 = pf) (kt : ¬ w < u → own_W l Z y bytes ml ret R n0 Q h cells slots pc' Ls st) (kf : w < u → own_W l Z y bytes ml ret R n0 Q h cells slots pf Ls st) : own_W l Z y bytes ml ret R n0 Q h cells slots pc Ls (.int w :: .int u :: st) := by
  by_cases hc : ¬ w < u
  · exact own_ic_le_t hd hc ho hp (kt hc)
  · exact own_ic_le_f hd (by first | exact hc | exact Decidable.not_not.mp hc) hq (kf (by first | exact hc | exact Decidable.not_not.mp hc))
theorem own_il_le_t {u w : Int64} {o : Int} (hd : decode bytes pc = .ok (.ifCond .le o, 3)) (hc : ¬ w < u) (ho : 0 ≤ (pc : Int) + o) (hp : ((pc : Int) + o).toNat = pc') (k : own_W l Z y bytes ml ret R n0 Q h cells slots pc' Ls st) : own_W l Z y bytes ml ret R n0 Q h cells slots pc Ls (.int (XT.cmpL u w) :: st) :=
  own_pure (fun p e below T t m c hA hx hb hr => XS.ifYes hA hx rfl rfl (hb ▸ hd) rfl (XT.ll_le_t hc) ho hp hr) k
theorem own_il_le_f {u w : Int64} {o : Int} (hd : decode bytes pc = .ok (.ifCond .le o, 3)) (hc : w < u) (hp : pc + 3 = pc') (k : own_W l Z y bytes ml ret R n0 Q h cells slots pc' Ls st) : own_W l Z y bytes ml ret R n0 Q h cells slots pc Ls (.int (XT.cmpL u w) :: st) :=
  own_pure (fun p e below T t m c hA hx hb hr => by subst hp; exact XS.ifNo hA hx rfl (hb ▸ hd) rfl (XT.ll_le_f hc) hr) k
theorem own_il_le {u w : Int64} {o : Int} {pf : Nat} (hd : decode bytes pc = .ok (.ifCond .le o, 3)) (ho : 0 ≤ (pc : Int) + o) (hp : ((pc : Int) + o).toNat = pc') (hq : pc + 3 = pf) (kt : ¬ w < u → own_W l Z y bytes ml ret R n0 Q h cells slots pc' Ls st) (kf : w < u → own_W l Z y bytes ml ret R n0 Q h cells slots pf Ls st) : own_W l Z y bytes ml ret R n0 Q h cells slots pc Ls (.int (XT.cmpL u w) :: st) := by
  by_cases hc : ¬ w < u
  · exact own_il_le_t hd hc ho hp (kt hc)
  · exact own_il_le_f hd (by first | exact hc | exact Decidable.not_not.mp hc) hq (kf (by first | exact hc | exact Decidable.not_not.mp hc))
theorem own_ifnull_f {u : Addr} {o : Int} (hd : decode bytes pc = .ok (.ifnull o, 3)) (hp : pc + 3 = pc') (k : own_W l Z y bytes ml ret R n0 Q h cells slots pc' Ls st) : own_W l Z y bytes ml ret R n0 Q h cells slots pc Ls (.ref u :: st) :=
  own_pure (fun p e below T t m c hA hx hb hr => by subst hp; exact XS.ifnullNo hA hx rfl (hb ▸ hd) rfl hr) k
theorem own_ifnonnull_t {u : Addr} {o : Int} (hd : decode bytes pc = .ok (.ifnonnull o, 3)) (ho : 0 ≤ (pc : Int) + o) (hp : ((pc : Int) + o).toNat = pc') (k : own_W l Z y bytes ml ret R n0 Q h cells slots pc' Ls st) : own_W l Z y bytes ml ret R n0 Q h cells slots pc Ls (.ref u :: st) :=
  own_pure (fun p e below T t m c hA hx hb hr => XT.ifnonnullYes hA hx rfl rfl (hb ▸ hd) rfl ho hp hr) k
theorem own_ldcI {idx : Nat} {u : Int32} (w : (Jvm.Cond.constant y.cls idx u).before a0 Z = true) (hd : decode bytes pc = .ok (.ldc idx, 2)) (hp : pc + 2 = pc') (k : own_W l Z y bytes ml ret R n0 Q h cells slots pc' Ls (.int u :: st)) : own_W l Z y bytes ml ret R n0 Q h cells slots pc Ls st := by
  intro p e s m args below meth c T locs hx hZ hown hby hml hret hlk hnm hce hsl X eT N
  subst hp
  obtain ⟨s₂, o, h1, h2⟩ := k p e s m args below meth c T locs hx hZ hown hby hml hret hlk hnm hce hsl X eT N
  exact ⟨s₂, o, X.ldcInt hx hown (mvT hZ w) (g := mkF m pc Ls st) rfl (hb hby hd) _ h1, h2⟩
theorem own_ldcWI {idx : Nat} {u : Int32} (w : (Jvm.Cond.constant y.cls idx u).before a0 Z = true) (hd : decode bytes pc = .ok (.ldc_w idx, 3)) (hp : pc + 3 = pc') (k : own_W l Z y bytes ml ret R n0 Q h cells slots pc' Ls (.int u :: st)) : own_W l Z y bytes ml ret R n0 Q h cells slots pc Ls st := by
  intro p e s m args below meth c T locs hx hZ hown hby hml hret hlk hnm hce hsl X eT N
  subst hp
  obtain ⟨s₂, o, h1, h2⟩ := k p e s m args below meth c T locs hx hZ hown hby hml hret hlk hnm hce hsl X eT N
  exact ⟨s₂, o, X.ldcWInt hx hown (mvT hZ w) (g := mkF m pc Ls st) rfl (hb hby hd) _ h1, h2⟩
theorem own_ldc2 {idx : Nat} {u : Int64} (w : (Jvm.Cond.constantLong y.cls idx u).before a0 Z = true) (hd : decode bytes pc = .ok (.ldc2_w idx, 3)) (hp : pc + 3 = pc') (k : own_W l Z y bytes ml ret R n0 Q h cells slots pc' Ls (.long u :: st)) : own_W l Z y bytes ml ret R n0 Q h cells slots pc Ls st := by
  intro p e s m args below meth c T locs hx hZ hown hby hml hret hlk hnm hce hsl X eT N
  subst hp
  obtain ⟨s₂, o, h1, h2⟩ := k p e s m args below meth c T locs hx hZ hown hby hml hret hlk hnm hce hsl X eT N
  exact ⟨s₂, o, X.ldc2Long hx hown (mvT hZ w) (g := mkF m pc Ls st) rfl (hb hby hd) _ h1, h2⟩
theorem own_iret {u : Int32} (hr0 : ret = some .int) (hd : decode bytes pc = .ok (.ireturn, 1)) (hq : Q (some (.int u)) h) : own_W l Z y bytes ml ret R n0 Q h cells slots pc Ls (.int u :: st) := by
  intro p e s m args below meth c T locs hx hZ hown hby hml hret hlk hnm hce hsl X eT N
  subst hr0
  obtain ⟨fs, hr, hrun, hended, hW, hsame⟩ := X.leave (v := some (.int u)) (fun h => by rw [hret] at h; cases h) hlk
  refine ⟨_, _, ?_, hrun, hended, _, _, rfl, ⟨?_, N⟩, ⟨_, rfl⟩, hW, hsame.mono hce hsl⟩
  · exact retOut X hx hret rfl (Or.inl ⟨rfl, Or.inl rfl, _, rfl⟩) (hb hby hd) hr
  · rw [show (T.setFrames fs).heap = h from eT]; exact hq
theorem own_zret {u : Int32} {t : FieldType} (hr0 : ret = some t) (ht : t = .boolean ∨ t = .byte ∨ t = .char ∨ t = .short) (hd : decode bytes pc = .ok (.ireturn, 1)) (hq : Q (some (.int (nar t u))) h) : own_W l Z y bytes ml ret R n0 Q h cells slots pc Ls (.int u :: st) := by
  intro p e s m args below meth c T locs hx hZ hown hby hml hret hlk hnm hce hsl X eT N
  subst hr0
  obtain ⟨fs, hr, hrun, hended, hW, hsame⟩ := X.leave (v := some (.int (nar t u))) (fun h => by rw [hret] at h; cases h) hlk
  refine ⟨_, _, ?_, hrun, hended, _, _, rfl, ⟨?_, N⟩, ⟨_, rfl⟩, hW, hsame.mono hce hsl⟩
  · exact retN X hx hret ht (hb hby hd) hr
  · rw [show (T.setFrames fs).heap = h from eT]; exact hq
theorem own_bret {u v : Int32} (hr0 : ret = some .boolean) (hv : u &&& 1 = v) (hd : decode bytes pc = .ok (.ireturn, 1)) (hq : Q (some (.int v)) h) : own_W l Z y bytes ml ret R n0 Q h cells slots pc Ls (.int u :: st) :=
  own_zret hr0 (Or.inl rfl) hd (by subst hv; exact hq)
theorem own_lret {u : Int64} (hr0 : ret = some .long) (hd : decode bytes pc = .ok (.lreturn, 1)) (hq : Q (some (.long u)) h) : own_W l Z y bytes ml ret R n0 Q h cells slots pc Ls (.long u :: st) := by
  intro p e s m args below meth c T locs hx hZ hown hby hml hret hlk hnm hce hsl X eT N
  subst hr0
  obtain ⟨fs, hr, hrun, hended, hW, hsame⟩ := X.leave (v := some (.long u)) (fun h => by rw [hret] at h; cases h) hlk
  refine ⟨_, _, ?_, hrun, hended, _, _, rfl, ⟨?_, N⟩, ⟨_, rfl⟩, hW, hsame.mono hce hsl⟩
  · exact retOut X hx hret rfl (Or.inr (Or.inl ⟨rfl, rfl, _, rfl⟩)) (hb hby hd) hr
  · rw [show (T.setFrames fs).heap = h from eT]; exact hq
theorem own_aret {u : Addr} {t : FieldType} (hr0 : ret = some t) (ht : t.isReference = true) (hn : narrow t (.ref u) = .ref u) (hd : decode bytes pc = .ok (.areturn, 1)) (hq : Q (some (.ref u)) h) : own_W l Z y bytes ml ret R n0 Q h cells slots pc Ls (.ref u :: st) := by
  intro p e s m args below meth c T locs hx hZ hown hby hml hret hlk hnm hce hsl X eT N
  subst hr0
  obtain ⟨fs, hr, hrun, hended, hW, hsame⟩ := X.leave (v := some (.ref u)) (fun h => by rw [hret] at h; cases h) hlk
  refine ⟨_, _, ?_, hrun, hended, _, _, rfl, ⟨?_, N⟩, ⟨_, rfl⟩, hW, hsame.mono hce hsl⟩
  · exact retOut X hx hret hn (Or.inr (Or.inr (Or.inr (Or.inr ⟨rfl, ht, rfl⟩)))) (hb hby hd) hr
  · rw [show (T.setFrames fs).heap = h from eT]; exact hq
theorem own_ret (hr0 : ret = none) (hd : decode bytes pc = .ok (.return_, 1)) (hq : Q none h) : own_W l Z y bytes ml ret R n0 Q h cells slots pc Ls [] := by
  intro p e s m args below meth c T locs hx hZ hown hby hml hret hlk hnm hce hsl X eT N
  subst hr0
  obtain ⟨fs, hr, hrun, hended, hW, hsame⟩ := X.leave (v := none) (fun _ => rfl) hlk
  refine ⟨_, _, ?_, hrun, hended, _, _, rfl, ⟨?_, N⟩, ⟨_, rfl⟩, hW, hsame.mono hce hsl⟩
  · exact X.returnOut hx hret (hb hby hd) hr
  · rw [show (T.setFrames fs).heap = h from eT]; exact hq
theorem own_getF {O n d : String} {idx : Nat} {a : Addr} {v : Value} (w : (Jvm.Cond.fieldLink y.cls idx O n d).before a0 Z = true) (F : Fld Z h a O n d v) (hd : decode bytes pc = .ok (.getfield idx, 3)) (hp : pc + 3 = pc') (k : own_W l Z y bytes ml ret R n0 Q h cells slots pc' Ls (v :: st)) : own_W l Z y bytes ml ret R n0 Q h cells slots pc Ls (.ref a :: st) := by
  intro p e s m args below meth c T locs hx hZ hown hby hml hret hlk hnm hce hsl X eT N
  subst hp
  obtain ⟨T', X', e', st'⟩ := getF X hx hZ hown (host := "") (Or.inl w) Via.refl eT F (g := mkF m pc Ls (.ref a :: st)) rfl rfl (hb hby hd)
  obtain ⟨s₂, o, h1, h2⟩ := k p e s m args below meth c T' locs hx hZ hown hby hml hret hlk hnm hce hsl X' e' N
  exact ⟨s₂, o, st' _ h1, h2⟩
theorem own_putF {O n d C : String} {idx kk : Nat} {a : Addr} {v old : Value} {ty : FieldType} (w : (Jvm.Cond.fieldLink y.cls idx O n d).before a0 Z = true) (F : Fld Z h a O n d old) (E : Exa Z h a C) (L : (Jvm.Cond.lays C O n d).before a0 Z = true ∨ ((Jvm.Cond.laysFinal C O n d).before a0 Z = true ∧ y.cls = O ∧ y.name = "<init>")) (wi : (Jvm.Cond.instantiable C kk).before a0 Z = true)
    (ge : n0 ≤ a) (hty : parseFieldDescriptor d = some ty) (hn : narrow ty v = v) (hf : fits ty v = true) (hd : decode bytes pc = .ok (.putfield idx, 3)) (hp : pc + 3 = pc')
    (k : ∀ h', Wr h h' a (Jvm.RoadKit.slotOf Z O n d) v → Keep h h' [a] → own_W l Z y bytes ml ret R n0 Q h' cells slots pc' Ls st) : own_W l Z y bytes ml ret R n0 Q h cells slots pc Ls (v :: .ref a :: st) := by
  intro p e s m args below meth c T locs hx hZ hown hby hml hret hlk hnm hce hsl X eT N
  subst hp
  obtain ⟨T', h', X', e', W', st'⟩ := putF X hx hZ hown (host := "") (Or.inl w) Via.refl eT F E (L.imp id fun q => ⟨q.1, q.2.1, hnm.trans q.2.2⟩) wi hty hn hf (g := mkF m pc Ls (v :: .ref a :: st)) rfl rfl (hb hby hd)
  obtain ⟨s₂, o, h1, h2⟩ := k h' W' (Keep.of_wr W') p e s m args below meth c T' _ hx hZ hown hby hml hret hlk hnm hce hsl X' e' (Fr.snoc X' N ge)
  exact ⟨s₂, o, st' _ h1, h2⟩
theorem own_new {C : String} {idx n : Nat} (w : (Jvm.Cond.classLink y.cls idx C).before a0 Z = true) (wi : (Jvm.Cond.instantiable C n).before a0 Z = true) (wz : (Jvm.Cond.initialized C).before a0 Z = true) (hd : decode bytes pc = .ok (.new idx, 3)) (hp : pc + 3 = pc') (hc : cells + 1 ≤ R.cells) (hl : slots + n ≤ R.slots)
    (k : ∀ (h' : Heap) (a : Addr), h.size ≤ a → a < h'.size → Ext h h' → Exa Z h' a C → (∀ {O nm d : String} {ty : FieldType}, Laid Z a0 C O nm d → parseFieldDescriptor d = some ty → Fld Z h' a O nm d (defaultValue ty)) → own_W l Z y bytes ml ret R n0 Q h' (cells + 1) (slots + n) pc' Ls (.ref a :: st)) : own_W l Z y bytes ml ret R n0 Q h cells slots pc Ls st := by
  intro p e s m args below meth c T locs hx hZ hown hby hml hret hlk hnm hce hsl X eT N
  subst hp
  obtain ⟨T', h', X', e', E', A', D', -, st'⟩ := newO X hx hZ hown w wi wz eT (g := mkF m pc Ls st) rfl (hb hby hd) hc hl
  obtain ⟨s₂, o, h1, h2⟩ := k h' h.size (Nat.le_refl _) A'.lt E' A' D' p e s m args below meth c T' _ hx hZ hown hby hml hret hlk hnm hc hl X' e' N
  exact ⟨s₂, o, st' _ h1, h2⟩
theorem own_initO {idx W : Nat} {a : Addr} (w1 : (Jvm.Cond.methodLink y.cls idx Lib.objectInit).before a0 Z = true) (w2 : (Jvm.Cond.instanceMethod Lib.objectInit).before a0 Z = true) (w3 : (Jvm.Cond.code Lib.objectInit ⟨#[0xb1]⟩ 1 none).before a0 Z = true) (hd : decode bytes pc = .ok (.invokespecial idx, 3)) (hp : pc + 3 = pc')
    (hsz : Ls.size = ml) (hf : 1 ≤ R.frames) (hW : (st.map fun v => v.category).sum ≤ W) (hl : W + 12 ≤ R.locals) (k : own_W l Z y bytes ml ret R n0 Q h cells slots pc' Ls st) : own_W l Z y bytes ml ret R n0 Q h cells slots pc Ls (.ref a :: st) := by
  intro p e s m args below meth c T locs hx hZ hown hby hml hret hlk hnm hce hsl X eT N
  subst hp
  obtain ⟨T', X', e', st'⟩ := initO X hx hZ hown w1 w2 w3 eT (g := mkF m pc Ls (.ref a :: st)) rfl (by rw [hml]; exact hsz) rfl (hb hby hd) hf (W := W) (by show 2 * 0 + _ ≤ _; omega) hl
  obtain ⟨s₂, o, h1, h2⟩ := k p e s m args below meth c T' locs hx hZ hown hby hml hret hlk hnm hce hsl X' e' N
  exact ⟨s₂, o, st' _ h1, h2⟩
/-- an array of this component type with just these components -/
def own_A (Z : State) (h : Heap) (a : Addr) (ty : FieldType) (vs : List Value) : Prop := ∃ c : Cell, Arr Z h a c ty ∧ c.slots.toList = vs ∧ vs.length < 2 ^ 31 ∧ ∀ v ∈ vs, fits ty v = true
theorem own_A.lt {a : Addr} {ty : FieldType} {vs : List Value} (A : own_A Z h a ty vs) : a < h.size := by obtain ⟨c, A, -⟩ := A; exact A.lt
theorem own_A.ext {h' : Heap} {a : Addr} {ty : FieldType} {vs : List Value} (A : own_A Z h a ty vs) (E : Ext h h') : own_A Z h' a ty vs := by obtain ⟨c, A, r⟩ := A; exact ⟨c, A.ext E, r⟩
theorem own_A.keep {h' : Heap} {a : Addr} {ty : FieldType} {vs : List Value} {ws : List Addr} (A : own_A Z h a ty vs) (K : Keep h h' ws) (q : a ∉ ws) : own_A Z h' a ty vs := by obtain ⟨c, A, r⟩ := A; exact ⟨c, ⟨K.2.1 a c A.1 q, A.2⟩, r⟩
theorem own_A.cast {a : Addr} {ty : FieldType} {vs vs' : List Value} (A : own_A Z h a ty vs) (q : vs = vs') : own_A Z h a ty vs' := q ▸ A
theorem own_size {c : Cell} {vs : List Value} (q : c.slots.toList = vs) : c.slots.size = vs.length := by rw [← q]; simp
theorem own_in {c : Cell} {vs : List Value} {j : Int32} (q : c.slots.toList = vs) (h0 : ¬ j < 0) (h1 : j.toNatClampNeg < vs.length) : ¬ (j < 0 ∨ c.slots.size ≤ j.toNatClampNeg) := by rw [own_size q]; rintro (u | u); exact h0 u; omega
theorem own_get {c : Cell} {vs : List Value} {j : Nat} {v : Value} (q : c.slots.toList = vs) (h1 : vs[j]? = some v) : c.slots[j]? = some v := by rw [← Array.getElem?_toList, q]; exact h1
theorem own_A.set {h' : Heap} {a : Addr} {ty : FieldType} {vs : List Value} {j : Nat} {v : Value} {c : Cell} (A : Arr Z h a c ty) (q : c.slots.toList = vs) (hl : vs.length < 2 ^ 31) (hft : ∀ v ∈ vs, fits ty v = true) (hv : fits ty v = true) (W : Wr h h' a j v) : own_A Z h' a ty (vs.set j v) := by
  refine ⟨_, A.same W, ?_, by simpa using hl, fun w hw => (List.mem_or_eq_of_mem_set hw).elim (hft w) fun e => e ▸ hv⟩
  rw [← q]; simp [Cell.setSlot]
theorem own_fitd (ty : FieldType) : fits ty (defaultValue ty) = true := by cases ty <;> rfl
theorem own_len {a : Addr} {ty : FieldType} {vs : List Value} {n : Int32} (A : own_A Z h a ty vs) (hn : vs.length.toInt32 = n) (hd : decode bytes pc = .ok (.arraylength, 1)) (hp : pc + 1 = pc') (k : own_W l Z y bytes ml ret R n0 Q h cells slots pc' Ls (.int n :: st)) : own_W l Z y bytes ml ret R n0 Q h cells slots pc Ls (.ref a :: st) := by
  intro p e s m args below meth c T locs hx hZ hown hby hml hret hlk hnm hce hsl X eT N
  subst hp hn
  obtain ⟨cl, A, q, hl, hft⟩ := A
  obtain ⟨s₂, o, h1, h2⟩ := k p e s m args below meth c T locs hx hZ hown hby hml hret hlk hnm hce hsl X eT N
  refine ⟨s₂, o, X.arraylength hx (by rw [eT]; exact A.1) (State.isArrayOf_alike hZ.alike A.2.1) (g := mkF m pc Ls (.ref a :: st)) rfl rfl (hb hby hd) _ ?_, h2⟩
  rw [own_size q]; exact h1
theorem own_iaload {a : Addr} {vs : List Value} {j : Int32} {v : Value} (A : own_A Z h a .int vs) (h0 : ¬ j < 0) (hv : vs[j.toNatClampNeg]? = some v) (hd : decode bytes pc = .ok (.iaload, 1)) (hp : pc + 1 = pc') (k : own_W l Z y bytes ml ret R n0 Q h cells slots pc' Ls (v :: st)) : own_W l Z y bytes ml ret R n0 Q h cells slots pc Ls (.int j :: .ref a :: st) := by
  intro p e s m args below meth c T locs hx hZ hown hby hml hret hlk hnm hce hsl X eT N
  subst hp
  obtain ⟨cl, A, q, hl, hft⟩ := A
  obtain ⟨s₂, o, h1, h2⟩ := k p e s m args below meth c T locs hx hZ hown hby hml hret hlk hnm hce hsl X eT N
  exact ⟨s₂, o, X.iaload hx (by rw [eT]; exact A.1) (State.isArrayOf_alike hZ.alike A.2.1) A.2.2 (own_in q h0 (List.getElem?_eq_some_iff.mp hv).1) (own_get q hv) (g := mkF m pc Ls (.int j :: .ref a :: st)) rfl rfl (hb hby hd) _ h1, h2⟩
theorem own_laload {a : Addr} {vs : List Value} {j : Int32} {v : Value} (A : own_A Z h a .long vs) (h0 : ¬ j < 0) (hv : vs[j.toNatClampNeg]? = some v) (hd : decode bytes pc = .ok (.laload, 1)) (hp : pc + 1 = pc') (k : own_W l Z y bytes ml ret R n0 Q h cells slots pc' Ls (v :: st)) : own_W l Z y bytes ml ret R n0 Q h cells slots pc Ls (.int j :: .ref a :: st) := by
  intro p e s m args below meth c T locs hx hZ hown hby hml hret hlk hnm hce hsl X eT N
  subst hp
  obtain ⟨cl, A, q, hl, hft⟩ := A
  obtain ⟨s₂, o, h1, h2⟩ := k p e s m args below meth c T locs hx hZ hown hby hml hret hlk hnm hce hsl X eT N
  exact ⟨s₂, o, X.laload hx (by rw [eT]; exact A.1) (State.isArrayOf_alike hZ.alike A.2.1) A.2.2 (own_in q h0 (List.getElem?_eq_some_iff.mp hv).1) (own_get q hv) (g := mkF m pc Ls (.int j :: .ref a :: st)) rfl rfl (hb hby hd) _ h1, h2⟩
theorem own_caload {a : Addr} {vs : List Value} {j : Int32} {v : Value} (A : own_A Z h a .char vs) (h0 : ¬ j < 0) (hv : vs[j.toNatClampNeg]? = some v) (hd : decode bytes pc = .ok (.caload, 1)) (hp : pc + 1 = pc') (k : own_W l Z y bytes ml ret R n0 Q h cells slots pc' Ls (v :: st)) : own_W l Z y bytes ml ret R n0 Q h cells slots pc Ls (.int j :: .ref a :: st) := by
  intro p e s m args below meth c T locs hx hZ hown hby hml hret hlk hnm hce hsl X eT N
  subst hp
  obtain ⟨cl, A, q, hl, hft⟩ := A
  obtain ⟨s₂, o, h1, h2⟩ := k p e s m args below meth c T locs hx hZ hown hby hml hret hlk hnm hce hsl X eT N
  exact ⟨s₂, o, X.caload hx (by rw [eT]; exact A.1) (State.isArrayOf_alike hZ.alike A.2.1) A.2.2 (own_in q h0 (List.getElem?_eq_some_iff.mp hv).1) (own_get q hv) (g := mkF m pc Ls (.int j :: .ref a :: st)) rfl rfl (hb hby hd) _ h1, h2⟩
theorem own_baload {a : Addr} {vs : List Value} {j : Int32} {v : Value} (A : own_A Z h a .byte vs) (h0 : ¬ j < 0) (hv : vs[j.toNatClampNeg]? = some v) (hd : decode bytes pc = .ok (.baload, 1)) (hp : pc + 1 = pc') (k : own_W l Z y bytes ml ret R n0 Q h cells slots pc' Ls (v :: st)) : own_W l Z y bytes ml ret R n0 Q h cells slots pc Ls (.int j :: .ref a :: st) := by
  intro p e s m args below meth c T locs hx hZ hown hby hml hret hlk hnm hce hsl X eT N
  subst hp
  obtain ⟨cl, A, q, hl, hft⟩ := A
  obtain ⟨s₂, o, h1, h2⟩ := k p e s m args below meth c T locs hx hZ hown hby hml hret hlk hnm hce hsl X eT N
  exact ⟨s₂, o, X.baloadBytes hx (by rw [eT]; exact A.1) (State.isArrayOf_alike hZ.alike A.2.1) A.2.2 (own_in q h0 (List.getElem?_eq_some_iff.mp hv).1) (own_get q hv) (g := mkF m pc Ls (.int j :: .ref a :: st)) rfl rfl (hb hby hd) _ h1, h2⟩
theorem own_zaload {a : Addr} {vs : List Value} {j : Int32} {v : Value} (A : own_A Z h a .boolean vs) (h0 : ¬ j < 0) (hv : vs[j.toNatClampNeg]? = some v) (hd : decode bytes pc = .ok (.baload, 1)) (hp : pc + 1 = pc') (k : own_W l Z y bytes ml ret R n0 Q h cells slots pc' Ls (v :: st)) : own_W l Z y bytes ml ret R n0 Q h cells slots pc Ls (.int j :: .ref a :: st) := by
  intro p e s m args below meth c T locs hx hZ hown hby hml hret hlk hnm hce hsl X eT N
  subst hp
  obtain ⟨cl, A, q, hl, hft⟩ := A
  obtain ⟨s₂, o, h1, h2⟩ := k p e s m args below meth c T locs hx hZ hown hby hml hret hlk hnm hce hsl X eT N
  exact ⟨s₂, o, X.baloadBooleans hx (by rw [eT]; exact A.1) (State.isArrayOf_alike hZ.alike A.2.1) A.2.2 (own_in q h0 (List.getElem?_eq_some_iff.mp hv).1) (own_get q hv) (g := mkF m pc Ls (.int j :: .ref a :: st)) rfl rfl (hb hby hd) _ h1, h2⟩
theorem own_iastore {a : Addr} {vs : List Value} {j : Int32} {u : Int32} (A : own_A Z h a .int vs) (h0 : ¬ j < 0) (h1 : j.toNatClampNeg < vs.length) (ge : n0 ≤ a) (hd : decode bytes pc = .ok (.iastore, 1)) (hp : pc + 1 = pc') (k : ∀ h', Keep h h' [a] → own_A Z h' a .int (vs.set j.toNatClampNeg (.int u)) → own_W l Z y bytes ml ret R n0 Q h' cells slots pc' Ls st) : own_W l Z y bytes ml ret R n0 Q h cells slots pc Ls (.int u :: .int j :: .ref a :: st) := by
  intro p e s m args below meth c T locs hx hZ hown hby hml hret hlk hnm hce hsl X eT N
  subst hp
  obtain ⟨cl, A, q, hl, hft⟩ := A
  obtain ⟨T', h', X', e', W', st'⟩ := stI X hx hZ eT A (own_in q h0 h1) (g := mkF m pc Ls (.int u :: .int j :: .ref a :: st)) rfl rfl (hb hby hd)
  obtain ⟨s₂, o, h1, h2⟩ := k h' (Keep.of_wr W') (own_A.set A q hl hft rfl W') p e s m args below meth c T' _ hx hZ hown hby hml hret hlk hnm hce hsl X' e' (Fr.snoc X' N ge)
  exact ⟨s₂, o, st' _ h1, h2⟩
theorem own_lastore {a : Addr} {vs : List Value} {j : Int32} {u : Int64} (A : own_A Z h a .long vs) (h0 : ¬ j < 0) (h1 : j.toNatClampNeg < vs.length) (ge : n0 ≤ a) (hd : decode bytes pc = .ok (.lastore, 1)) (hp : pc + 1 = pc') (k : ∀ h', Keep h h' [a] → own_A Z h' a .long (vs.set j.toNatClampNeg (.long u)) → own_W l Z y bytes ml ret R n0 Q h' cells slots pc' Ls st) : own_W l Z y bytes ml ret R n0 Q h cells slots pc Ls (.long u :: .int j :: .ref a :: st) := by
  intro p e s m args below meth c T locs hx hZ hown hby hml hret hlk hnm hce hsl X eT N
  subst hp
  obtain ⟨cl, A, q, hl, hft⟩ := A
  obtain ⟨T', h', X', e', W', st'⟩ := stJ X hx hZ eT A (own_in q h0 h1) (g := mkF m pc Ls (.long u :: .int j :: .ref a :: st)) rfl rfl (hb hby hd)
  obtain ⟨s₂, o, h1, h2⟩ := k h' (Keep.of_wr W') (own_A.set A q hl hft rfl W') p e s m args below meth c T' _ hx hZ hown hby hml hret hlk hnm hce hsl X' e' (Fr.snoc X' N ge)
  exact ⟨s₂, o, st' _ h1, h2⟩
theorem own_castore {a : Addr} {vs : List Value} {j : Int32} {u : Int32} (A : own_A Z h a .char vs) (h0 : ¬ j < 0) (h1 : j.toNatClampNeg < vs.length) (ge : n0 ≤ a) (hd : decode bytes pc = .ok (.castore, 1)) (hp : pc + 1 = pc') (k : ∀ h', Keep h h' [a] → own_A Z h' a .char (vs.set j.toNatClampNeg (.int (nar .char u))) → own_W l Z y bytes ml ret R n0 Q h' cells slots pc' Ls st) : own_W l Z y bytes ml ret R n0 Q h cells slots pc Ls (.int u :: .int j :: .ref a :: st) := by
  intro p e s m args below meth c T locs hx hZ hown hby hml hret hlk hnm hce hsl X eT N
  subst hp
  obtain ⟨cl, A, q, hl, hft⟩ := A
  obtain ⟨T', h', X', e', W', st'⟩ := stC X hx hZ eT A (own_in q h0 h1) (g := mkF m pc Ls (.int u :: .int j :: .ref a :: st)) rfl rfl (hb hby hd)
  obtain ⟨s₂, o, h1, h2⟩ := k h' (Keep.of_wr W') (own_A.set A q hl hft (fits_nar_char u) W') p e s m args below meth c T' _ hx hZ hown hby hml hret hlk hnm hce hsl X' e' (Fr.snoc X' N ge)
  exact ⟨s₂, o, st' _ h1, h2⟩
theorem own_bastore {a : Addr} {vs : List Value} {j : Int32} {u : Int32} (A : own_A Z h a .byte vs) (h0 : ¬ j < 0) (h1 : j.toNatClampNeg < vs.length) (ge : n0 ≤ a) (hd : decode bytes pc = .ok (.bastore, 1)) (hp : pc + 1 = pc') (k : ∀ h', Keep h h' [a] → own_A Z h' a .byte (vs.set j.toNatClampNeg (.int (nar .byte u))) → own_W l Z y bytes ml ret R n0 Q h' cells slots pc' Ls st) : own_W l Z y bytes ml ret R n0 Q h cells slots pc Ls (.int u :: .int j :: .ref a :: st) := by
  intro p e s m args below meth c T locs hx hZ hown hby hml hret hlk hnm hce hsl X eT N
  subst hp
  obtain ⟨cl, A, q, hl, hft⟩ := A
  obtain ⟨T', h', X', e', W', st'⟩ := stB X hx hZ eT A (own_in q h0 h1) (g := mkF m pc Ls (.int u :: .int j :: .ref a :: st)) rfl rfl (hb hby hd)
  obtain ⟨s₂, o, h1, h2⟩ := k h' (Keep.of_wr W') (own_A.set A q hl hft (fits_nar_byte u) W') p e s m args below meth c T' _ hx hZ hown hby hml hret hlk hnm hce hsl X' e' (Fr.snoc X' N ge)
  exact ⟨s₂, o, st' _ h1, h2⟩
theorem own_zastore {a : Addr} {vs : List Value} {j : Int32} {u : Int32} (A : own_A Z h a .boolean vs) (h0 : ¬ j < 0) (h1 : j.toNatClampNeg < vs.length) (ge : n0 ≤ a) (hd : decode bytes pc = .ok (.bastore, 1)) (hp : pc + 1 = pc') (k : ∀ h', Keep h h' [a] → own_A Z h' a .boolean (vs.set j.toNatClampNeg (.int (nar .boolean u))) → own_W l Z y bytes ml ret R n0 Q h' cells slots pc' Ls st) : own_W l Z y bytes ml ret R n0 Q h cells slots pc Ls (.int u :: .int j :: .ref a :: st) := by
  intro p e s m args below meth c T locs hx hZ hown hby hml hret hlk hnm hce hsl X eT N
  subst hp
  obtain ⟨cl, A, q, hl, hft⟩ := A
  obtain ⟨T', h', X', e', W', st'⟩ := stZ X hx hZ eT A (own_in q h0 h1) (g := mkF m pc Ls (.int u :: .int j :: .ref a :: st)) rfl rfl (hb hby hd)
  obtain ⟨s₂, o, h1, h2⟩ := k h' (Keep.of_wr W') (own_A.set A q hl hft (fits_nar_bool u) W') p e s m args below meth c T' _ hx hZ hown hby hml hret hlk hnm hce hsl X' e' (Fr.snoc X' N ge)
  exact ⟨s₂, o, st' _ h1, h2⟩
theorem own_newarrE {aty : ArrayType} {ty : FieldType} {n : Int32} {cap : Nat} (w : (Jvm.Cond.arrayClass ty).before a0 Z = true) (ht : newarray.typeOf aty = ty) (hd : decode bytes pc = .ok (.newarray aty, 2)) (hp : pc + 2 = pc') (hn : ¬ n < 0) (hcap : n.toNatClampNeg ≤ cap) (hb8 : cap * 8 ≤ 536870912) (hc : cells + 1 ≤ R.cells) (hl : slots + cap ≤ R.slots)
    (k : ∀ (h' : Heap) (a : Addr), h.size ≤ a → a < h'.size → Ext h h' → own_A Z h' a ty (List.replicate n.toNatClampNeg (defaultValue ty)) → Exa Z h' a ("[" ++ ty.toString) → own_W l Z y bytes ml ret R n0 Q h' (cells + 1) (slots + cap) pc' Ls (.ref a :: st)) : own_W l Z y bytes ml ret R n0 Q h cells slots pc Ls (.int n :: st) := by
  intro p e s m args below meth c T locs hx hZ hown hby hml hret hlk hnm hce hsl X eT N
  subst hp ht
  have hcb : componentBytes (newarray.typeOf aty) ≤ 8 := by cases aty <;> decide
  obtain ⟨cA, kA, comp, g1, g2, g3, X', st'⟩ := X.newarrayPrim hx (mvA hZ w) (g := mkF m pc Ls (.int n :: st)) rfl (hb hby hd) rfl hn (Nat.le_trans (Nat.mul_le_mul hcap hcb) hb8) hc (by omega)
  rw [hZ.alike.findClass] at g1
  obtain ⟨kZ, z1, -⟩ := Vm.findClass_spec g1
  obtain ⟨k', z2, z3⟩ := hZ.alike.2.2 _ _ z1
  cases g2.symm.trans z2
  have kk : kZ.kind = .array comp (newarray.typeOf aty) := by rw [← g3, z3]
  have hN : (T.heap.push ({ cls := cA, slots := Array.replicate n.toNatClampNeg (defaultValue (newarray.typeOf aty)), vm := .none } : Cell))[T.heap.size]? = some { cls := cA, slots := Array.replicate n.toNatClampNeg (defaultValue (newarray.typeOf aty)), vm := .none } := by simp
  have E' : Ext h (T.heap.push ({ cls := cA, slots := Array.replicate n.toNatClampNeg (defaultValue (newarray.typeOf aty)), vm := .none } : Cell)) := by
    subst eT
    refine ⟨by simp, fun b cc hb' => ?_⟩
    rw [Array.getElem?_push_lt (Array.getElem?_eq_some_iff.mp hb').1]; exact (Array.getElem?_eq_getElem _).symm.trans hb'
  have A' : own_A Z (T.heap.push ({ cls := cA, slots := Array.replicate n.toNatClampNeg (defaultValue (newarray.typeOf aty)), vm := .none } : Cell)) T.heap.size (newarray.typeOf aty) (List.replicate n.toNatClampNeg (defaultValue (newarray.typeOf aty))) :=
    ⟨_, ⟨hN, ⟨by simp, kZ, z1, comp, kk⟩, by simp⟩, by simp, by simp only [List.length_replicate]; exact (back32 hn).2, fun v hv => by rw [(List.mem_replicate.mp hv).2]; exact own_fitd _⟩
  have X2 := X'.more (Nat.le_refl _) (Nat.add_le_add_left hcap slots)
  obtain ⟨s₂, o, h1, h2⟩ := k _ T.heap.size (by rw [eT]; exact Nat.le_refl _) A'.lt E' A' ⟨_, kZ, hN, g1, z1, rfl, fun q => by rw [kk] at q; cases q⟩ p e s m args below meth c _ _ hx hZ hown hby hml hret hlk hnm hc hl X2 rfl N
  exact ⟨s₂, o, st' _ h1, h2⟩
theorem own_newarr {aty : ArrayType} {ty : FieldType} {n : Int32} {cap : Nat} (w : (Jvm.Cond.arrayClass ty).before a0 Z = true) (ht : newarray.typeOf aty = ty) (hd : decode bytes pc = .ok (.newarray aty, 2)) (hp : pc + 2 = pc') (hn : ¬ n < 0) (hcap : n.toNatClampNeg ≤ cap) (hb8 : cap * 8 ≤ 536870912) (hc : cells + 1 ≤ R.cells) (hl : slots + cap ≤ R.slots)
    (k : ∀ (h' : Heap) (a : Addr), h.size ≤ a → a < h'.size → Ext h h' → own_A Z h' a ty (List.replicate n.toNatClampNeg (defaultValue ty)) → own_W l Z y bytes ml ret R n0 Q h' (cells + 1) (slots + cap) pc' Ls (.ref a :: st)) : own_W l Z y bytes ml ret R n0 Q h cells slots pc Ls (.int n :: st) :=
  own_newarrE w ht hd hp hn hcap hb8 hc hl fun h' a q1 q2 q3 q4 _ => k h' a q1 q2 q3 q4
theorem own_cast {idx : Nat} {K : String} {a : Addr} (w : (Jvm.Cond.classLink y.cls idx K).before a0 Z = true) (F : Ins Z h a K true) (hd : decode bytes pc = .ok (.checkcast idx, 3)) (hp : pc + 3 = pc') (k : own_W l Z y bytes ml ret R n0 Q h cells slots pc' Ls (.ref a :: st)) : own_W l Z y bytes ml ret R n0 Q h cells slots pc Ls (.ref a :: st) := by
  intro p e s m args below meth c T locs hx hZ hown hby hml hret hlk hnm hce hsl X eT N
  subst hp
  obtain ⟨T', X', e', st'⟩ := castY X hx hZ hown w eT F (g := mkF m pc Ls (.ref a :: st)) rfl rfl (hb hby hd)
  obtain ⟨s₂, o, h1, h2⟩ := k p e s m args below meth c T' locs hx hZ hown hby hml hret hlk hnm hce hsl X' e' N
  exact ⟨s₂, o, st' _ h1, h2⟩
theorem own_clone {ad : String} {idx W cap : Nat} {a : Addr} {ty : FieldType} {vs : List Value} (w1 : (Jvm.Cond.methodLink y.cls idx ⟨ad, "clone", "()Ljava/lang/Object;"⟩).before a0 Z = true) (w2 : (Jvm.Cond.sameMethod ad "java/lang/Object" "clone" "()Ljava/lang/Object;").before a0 Z = true) (w3 : (Jvm.Cond.native ⟨"java/lang/Object", "clone", "()Ljava/lang/Object;"⟩).before a0 Z = true)
    (w4 : (Jvm.Cond.instanceMethod ⟨"java/lang/Object", "clone", "()Ljava/lang/Object;"⟩).before a0 Z = true) (w5 : (Jvm.Cond.selects ad ⟨ad, "clone", "()Ljava/lang/Object;"⟩ ⟨"java/lang/Object", "clone", "()Ljava/lang/Object;"⟩).before a0 Z = true) (w6 : (Jvm.Cond.castable ad "java/lang/Cloneable").before a0 Z = true)
    (A : own_A Z h a ty vs) (E : Exa Z h a ad) (hd : decode bytes pc = .ok (.invokevirtual idx, 3)) (hp : pc + 3 = pc') (hsz : Ls.size = ml) (hf : 1 ≤ R.frames) (hW : (st.map fun v => v.category).sum ≤ W) (hl : W + 14 ≤ R.locals) (hcap : vs.length ≤ cap) (hc : cells + 1 ≤ R.cells) (hsl' : slots + cap ≤ R.slots)
    (k : ∀ (h' : Heap) (b : Addr), h.size ≤ b → b < h'.size → Ext h h' → own_A Z h' b ty vs → Exa Z h' b ad → own_W l Z y bytes ml ret R n0 Q h' (cells + 1) (slots + cap) pc' Ls (.ref b :: st)) : own_W l Z y bytes ml ret R n0 Q h cells slots pc Ls (.ref a :: st) := by
  intro p e s m args below meth c T locs hx hZ hown hby hml hret hlk hnm hce hsl X eT N
  subst hp
  obtain ⟨cl, A, q, hlen, hft⟩ := A
  have F : FitC Z cl := fun i v hv => by
    obtain ⟨-, k, hk, comp, hkind⟩ := A.2.1
    have e1 : Z.slotType? cl.cls .none i = some ty := by simp [State.slotType?, hk, hkind]
    have mem : v ∈ vs := by rw [← q]; rw [← Array.getElem?_toList] at hv; exact List.mem_of_getElem? hv
    simpa [State.fitsSlot, e1] using hft v mem
  obtain ⟨T', h', X', e', E', A', E2, st'⟩ := cloneA X hx hZ hown w1 w2 w3 w4 w5 w6 eT A E F (g := mkF m pc Ls (.ref a :: st)) rfl (by rw [hml]; exact hsz) rfl (hb hby hd) hf (W := W) (by show 2 * 0 + _ ≤ _; omega) hl (cap := cap) (by rw [own_size q]; exact hcap) hc hsl'
  obtain ⟨s₂, o, h1, h2⟩ := k h' h.size (Nat.le_refl _) A'.lt E' ⟨_, A', q, hlen, hft⟩ E2 p e s m args below meth c T' locs hx hZ hown hby hml hret hlk hnm hc hsl' X' e' N
  exact ⟨s₂, o, st' _ h1, h2⟩
theorem own_getD {α : Type} (l : List α) (d : α) {i : Nat} (h : i < l.length) : l.getD i d = l[i] := by
  rw [List.getD_eq_getElem?_getD, List.getElem?_eq_getElem h]; rfl
theorem own_len32 {n : Nat} (h : n < 2 ^ 31) : n.toInt32.toNatClampNeg = n ∧ ¬ n.toInt32 < 0 := by
  have e := len_toInt h
  have z : (0 : Int32).toInt = 0 := rfl
  exact ⟨by rw [Int32.toNatClampNeg, e]; rfl, by rw [Int32.lt_iff_toInt_lt, e, z]; omega⟩
theorem own_A.arv {a : Addr} {ty : FieldType} {vs : List Value} (A : own_A Z h a ty vs) (d : Value) : ∃ k, Arv Z h a k ty vs.length.toInt32 vs d := by
  obtain ⟨c, A, q, hl, hft⟩ := A
  have e := own_len32 hl
  refine ⟨c.cls, c, A, rfl, by rw [e.1]; exact own_size q, e.2, fun k hk => ?_, fun k hk => ?_⟩
  · rw [own_size q] at hk
    refine own_get q ?_
    rw [own_getD _ _ hk]; exact List.getElem?_eq_getElem hk
  · rw [own_size q] at hk
    rw [own_getD _ _ hk]; exact hft _ (List.getElem_mem hk)
theorem own_A.ofArv {a : Addr} {ty : FieldType} {vs : List Value} {k : ClassId} {z : Int32} {d : Value} (A : Arv Z h a k ty z vs d) (hz : z.toNatClampNeg = vs.length) (hl : vs.length < 2 ^ 31) : own_A Z h a ty vs := by
  obtain ⟨c, A, -, hs, -, H, G⟩ := A
  have e : c.slots.toList = vs := by
    apply List.ext_getElem?
    intro i
    by_cases hi : i < vs.length
    · rw [Array.getElem?_toList, H i (by omega), own_getD _ _ hi, List.getElem?_eq_getElem hi]
    · rw [List.getElem?_eq_none (by rw [Array.length_toList]; omega), List.getElem?_eq_none (by omega)]
  refine ⟨c, A, e, hl, fun v hv => ?_⟩
  obtain ⟨i, hi, rfl⟩ := List.mem_iff_getElem.mp hv
  have := G i (by omega)
  rwa [own_getD _ _ hi] at this
theorem own_slice (vs : List Value) (d : Value) (p n : Nat) (h : p + n ≤ vs.length) : (vs.drop p).take n = (List.range n).map fun i => vs.getD (p + i) d := by
  apply List.ext_getElem
  · simp; omega
  · intro i h1 h2
    simp only [List.length_map, List.length_range] at h2
    simp [List.getD_eq_getElem?_getD, show p + i < vs.length by omega]
theorem own_acopy {idx W : Nat} {a b : Addr} {ty : FieldType} {vs vd : List Value} {sp dp nn : Int32} (w1 : (Jvm.Cond.methodLink y.cls idx Jvm.Stand.acN).before a0 Z = true) (w2 : (Jvm.Cond.native Jvm.Stand.acN).before a0 Z = true) (w3 : (Jvm.Cond.static Jvm.Stand.acN).before a0 Z = true) (w4 : (Jvm.Cond.initialized "java/lang/System").before a0 Z = true)
    (A : own_A Z h a ty vs) (B : own_A Z h b ty vd) (hty : refKind ty = false) (h1 : ¬ sp < 0) (h2 : ¬ dp < 0) (h3 : ¬ nn < 0) (h4 : sp.toNatClampNeg + nn.toNatClampNeg ≤ vs.length) (h5 : dp.toNatClampNeg + nn.toNatClampNeg ≤ vd.length) (ge : n0 ≤ b)
    (hd : decode bytes pc = .ok (.invokestatic idx, 3)) (hp : pc + 3 = pc') (hsz : Ls.size = ml) (hf : 1 ≤ R.frames) (hW : (st.map fun v => v.category).sum ≤ W) (hlo : W + (nativeFrameWords "java/lang/System" "arraycopy" 5 + 11) ≤ R.locals)
    (k : ∀ h', Keep h h' [b] → own_A Z h' b ty (vd.take dp.toNatClampNeg ++ (vs.drop sp.toNatClampNeg).take nn.toNatClampNeg ++ vd.drop (dp.toNatClampNeg + nn.toNatClampNeg)) → own_W l Z y bytes ml ret R n0 Q h' cells slots pc' Ls st) : own_W l Z y bytes ml ret R n0 Q h cells slots pc Ls (.int nn :: .int dp :: .ref b :: .int sp :: .ref a :: st) := by
  intro p e s m args below meth c T locs hx hZ hown hby hml hret hlk hnm hce hsl X eT N
  subst hp
  have hlv : vs.length < 2 ^ 31 := by obtain ⟨_, _, _, q, _⟩ := A; exact q
  have hld : vd.length < 2 ^ 31 := by obtain ⟨_, _, _, q, _⟩ := B; exact q
  obtain ⟨k1, A1⟩ := A.arv .null
  obtain ⟨k2, B1⟩ := B.arv .null
  have e1 := own_len32 hlv
  have e2 := own_len32 hld
  obtain ⟨T', h', L, X', e', N', K', B', st'⟩ := cpA X hx hZ hown w1 w2 w3 w4 eT A1 B1 (Or.inl ⟨rfl, hty⟩) h1 h2 h3 (by rw [e1.1]; exact h4) (by rw [e2.1]; exact h5) (own_slice vs .null _ _ h4) h5 N ge (g := mkF m pc Ls (.int nn :: .int dp :: .ref b :: .int sp :: .ref a :: st)) rfl (by rw [hml]; exact hsz) rfl (hb hby hd) hf (W := W) (by show 2 * 0 + _ ≤ _; omega) hlo
  have hlen : (vd.take dp.toNatClampNeg ++ (vs.drop sp.toNatClampNeg).take nn.toNatClampNeg ++ vd.drop (dp.toNatClampNeg + nn.toNatClampNeg)).length = vd.length := by
    simp only [List.length_append, List.length_take, List.length_drop]; omega
  obtain ⟨s₂, o, q1, q2⟩ := k h' K' (own_A.ofArv B' (by rw [e2.1, hlen]) (by rw [hlen]; exact hld)) p e s m args below meth c T' L hx hZ hown hby hml hret hlk hnm hce hsl X' e' N'
  exact ⟨s₂, o, st' _ q1, q2⟩
theorem own_met {z : MethodName} {rm : Room} {argsL : List Value} {Lc : Array Slot} (hC : own_W l Z z bytes ml ret rm n0 Q h 0 0 0 Lc []) (pn : plainFor z = true) (hent : Jvm.Sym.laidSlots argsL ++ List.replicate (ml - (Jvm.Sym.laidSlots argsL).length) .unset = Lc.toList) (ws : List Jvm.Cond) :
    MetFree l z (head1 (Jvm.Cond.code z bytes ml ret :: ws) rm) (fun a U => a = argsL.toArray ∧ Z.Warmed39 U.vm ∧ U.heap = h) (fun _ _ _ _ _ => True) (fun _ U o U' => ∃ v L, o = .returned v ∧ (Q v U'.heap ∧ Fr n0 L) ∧ FrameEnd U o U' L rm.cells rm.slots) := by
  refine MetFree.of_bodySF pn hisR ?_
  intro p e s m args below meth c s₁ Bd hml0 hP hK
  obtain ⟨rfl, hZ, hh⟩ := hP
  obtain ⟨s₂, o, h1, h2, h3, h4⟩ := hC p e s m _ below meth c s₁ [] Bd.exec hZ (findClass_of_methodNamed Bd.named) Bd.bytes hml0 Bd.returns Bd.notSynchronized (name_of_methodNamed Bd.named Bd.method).1 (Nat.zero_le _) (Nat.zero_le _) (Stand.of_body Bd) (by rw [← hh, Bd.state]; rfl) (Fr.nil n0)
  exact ⟨s₂, o, (XT.entry (by simpa using hent)).trans h1, h2, h3, h4⟩
theorem own_static {z : MethodName} {bytes' : ByteArray} {ml' : Nat} {ret' : Option FieldType} {rm : Room} {Qc : Option Value → Heap → Prop} {Lc : Array Slot} {argsL rest : List Value} {ps : List FieldType} {rt : Option FieldType} {idx W : Nat} (hC : own_W l Z z bytes' ml' ret' rm n0 Qc h 0 0 0 Lc []) (w1 : (Jvm.Cond.methodLink y.cls idx z).before a0 Z = true) (w2 : (Jvm.Cond.static z).before a0 Z = true) (w3 : (Jvm.Cond.initialized z.cls).before a0 Z = true) (w4 : (Jvm.Cond.code z bytes' ml' ret').before a0 Z = true) (pn : plainFor z = true) (hy : z.cls ≠ "java/lang/invoke/MethodHandle" ∧ z.cls ≠ "java/lang/invoke/VarHandle") (pd : parseMethodDescriptor z.desc = some ⟨ps, rt⟩) (hlen : argsL.length = ps.length)
    (hst : st = argsL.reverse ++ rest) (hent : Jvm.Sym.laidSlots argsL ++ List.replicate (ml' - (Jvm.Sym.laidSlots argsL).length) .unset = Lc.toList) (hW : (rest.map fun v => v.category).sum ≤ W) (hfr : rm.frames + 1 ≤ R.frames) (hlo : W + (ml' + 11) + rm.locals ≤ R.locals) (hce' : cells + rm.cells ≤ R.cells) (hsl' : slots + rm.slots ≤ R.slots) (hsz : Ls.size = ml) (hd : decode bytes pc = .ok (.invokestatic idx, 3)) (hp : pc + 3 = pc') (k : ∀ v h', Qc v h' → own_W l Z y bytes ml ret R n0 Q h' (cells + rm.cells) (slots + rm.slots) pc' Ls (v.toList ++ rest)) : own_W l Z y bytes ml ret R n0 Q h cells slots pc Ls st := by
  intro p e s m args below meth c T locs hx hZ hown hby hml hret hlk hnm hce hsl X eT N
  subst hp
  obtain ⟨v, vm₁, ⟨T1, L1, k1, n1⟩, -, X1, ⟨Lc1, hQ1, l1, y1, z1⟩, st1⟩ := Jvm.LawKit.callS X hx (y := z) hown (mvT hZ w1) (mvT hZ w2) (mvT hZ w3) (mvT hZ w4) hy (backOf (W := W) (Q := fun v h L => Qc v h ∧ Fr n0 L) (own_met hC pn hent []) hZ w4 w3 hfr hlo) (g := mkF m pc Ls st) rfl (by rw [hml]; exact hsz) (argsL := argsL) (rest := rest) (lenOf pd hlen) hst (by show 2 * 0 + _ ≤ _; omega) (hb hby hd) (fun _ _ => ⟨rfl, eT, hce', hsl'⟩)
  dsimp only [Pt.U, Pt.locs, Pt.cells, Pt.slots] at X1 l1 y1 z1 st1 hQ1
  subst l1 y1 z1
  obtain ⟨s₂, o, h1, h2⟩ := k v T1.heap hQ1.1 p e s m args below meth c T1 _ hx hZ hown hby hml hret hlk hnm hce' hsl' X1 rfl (Fr.app N hQ1.2)
  exact ⟨s₂, o, st1 _ h1, h2⟩
theorem own_special {z : MethodName} {bytes' : ByteArray} {ml' : Nat} {ret' : Option FieldType} {rm : Room} {Qc : Option Value → Heap → Prop} {Lc : Array Slot} {argsL rest : List Value} {ps : List FieldType} {rt : Option FieldType} {idx W : Nat} {a : Addr} (hC : own_W l Z z bytes' ml' none rm n0 Qc h 0 0 0 Lc []) (w1 : (Jvm.Cond.methodLink y.cls idx z).before a0 Z = true) (w2 : (Jvm.Cond.instanceMethod z).before a0 Z = true) (w3 : (Jvm.Cond.initialized z.cls).before a0 Z = true) (w4 : (Jvm.Cond.code z bytes' ml' none).before a0 Z = true) (hzn : z.name = "<init>") (pn : plainFor z = true) (hy : z.cls ≠ "java/lang/invoke/MethodHandle" ∧ z.cls ≠ "java/lang/invoke/VarHandle") (pd : parseMethodDescriptor z.desc = some ⟨ps, rt⟩) (hlen : argsL.length = ps.length)
    (hst : st = argsL.reverse ++ .ref a :: rest) (hent : Jvm.Sym.laidSlots (.ref a :: argsL) ++ List.replicate (ml' - (Jvm.Sym.laidSlots (.ref a :: argsL)).length) .unset = Lc.toList) (hW : (rest.map fun v => v.category).sum ≤ W) (hfr : rm.frames + 1 ≤ R.frames) (hlo : W + (ml' + 11) + rm.locals ≤ R.locals) (hce' : cells + rm.cells ≤ R.cells) (hsl' : slots + rm.slots ≤ R.slots) (hsz : Ls.size = ml) (hd : decode bytes pc = .ok (.invokespecial idx, 3)) (hp : pc + 3 = pc') (k : ∀ v h', Qc v h' → own_W l Z y bytes ml ret R n0 Q h' (cells + rm.cells) (slots + rm.slots) pc' Ls (v.toList ++ rest)) : own_W l Z y bytes ml ret R n0 Q h cells slots pc Ls st := by
  intro p e s m args below meth c T locs hx hZ hown hby hml hret hlk hnm hce hsl X eT N
  subst hp
  obtain ⟨v, vm₁, ⟨T1, L1, k1, n1⟩, -, X1, ⟨Lc1, hQ1, l1, y1, z1⟩, st1⟩ := X.specialBack hx (y := z) hzn hown (mvT hZ w1) (mvT hZ w2) (mvT hZ w4) hy (backOf (W := W) (Q := fun v h L => Qc v h ∧ Fr n0 L) (own_met hC pn hent []) hZ w4 w3 hfr hlo) (g := mkF m pc Ls st) rfl (by rw [hml]; exact hsz) (Steps.refl _) (a := a) (argsL := argsL) (rest := rest) (lenOf pd hlen) hst (by show 2 * 0 + _ ≤ _; omega) (hb hby hd) (fun _ _ => ⟨rfl, eT, hce', hsl'⟩)
  dsimp only [Pt.U, Pt.locs, Pt.cells, Pt.slots] at X1 l1 y1 z1 st1 hQ1
  subst l1 y1 z1
  obtain ⟨s₂, o, h1, h2⟩ := k v T1.heap hQ1.1 p e s m args below meth c T1 _ hx hZ hown hby hml hret hlk hnm hce' hsl' X1 rfl (Fr.app N hQ1.2)
  exact ⟨s₂, o, st1.trans h1, h2⟩
theorem own_virtual {z : MethodName} {bytes' : ByteArray} {ml' : Nat} {ret' : Option FieldType} {rm : Room} {Qc : Option Value → Heap → Prop} {Lc : Array Slot} {argsL rest : List Value} {ps : List FieldType} {rt : Option FieldType} {idx W : Nat} {a : Addr} {C : String} (hC : own_W l Z z bytes' ml' ret' rm n0 Qc h 0 0 0 Lc []) (E : Exa Z h a C) (w1 : (Jvm.Cond.methodLink y.cls idx z).before a0 Z = true) (w2 : (Jvm.Cond.declares z).before a0 Z = true) (w5 : (Jvm.Cond.selects C z z).before a0 Z = true) (w6 : (Jvm.Cond.instanceMethod z).before a0 Z = true) (w3 : (Jvm.Cond.initialized z.cls).before a0 Z = true) (w4 : (Jvm.Cond.code z bytes' ml' ret').before a0 Z = true) (pn : plainFor z = true) (hy : z.cls ≠ "java/lang/invoke/MethodHandle" ∧ z.cls ≠ "java/lang/invoke/VarHandle") (pd : parseMethodDescriptor z.desc = some ⟨ps, rt⟩) (hlen : argsL.length = ps.length)
    (hst : st = argsL.reverse ++ .ref a :: rest) (hent : Jvm.Sym.laidSlots (.ref a :: argsL) ++ List.replicate (ml' - (Jvm.Sym.laidSlots (.ref a :: argsL)).length) .unset = Lc.toList) (hW : (rest.map fun v => v.category).sum ≤ W) (hfr : rm.frames + 1 ≤ R.frames) (hlo : W + (ml' + 11) + rm.locals ≤ R.locals) (hce' : cells + rm.cells ≤ R.cells) (hsl' : slots + rm.slots ≤ R.slots) (hsz : Ls.size = ml) (hd : decode bytes pc = .ok (.invokevirtual idx, 3)) (hp : pc + 3 = pc') (k : ∀ v h', Qc v h' → own_W l Z y bytes ml ret R n0 Q h' (cells + rm.cells) (slots + rm.slots) pc' Ls (v.toList ++ rest)) : own_W l Z y bytes ml ret R n0 Q h cells slots pc Ls st := by
  intro p e s m args below meth c T locs hx hZ hown hby hml hret hlk hnm hce hsl X eT N
  subst hp
  obtain ⟨cq, kq, qa, qb, qc⟩ := isOf hZ eT E
  obtain ⟨v, vm₁, ⟨T1, L1, k1, n1⟩, -, X1, ⟨Lc1, hQ1, l1, y1, z1⟩, st1⟩ := X.virtualBack hx (y := z) (z := z) hown (mvT hZ w1) (mvT hZ w2) (notFace_of_selects (args := #[]) (mvT hZ w5)) (mvT hZ w5) (mvT hZ w6) hy (backOf (W := W) (Q := fun v h L => Qc v h ∧ Fr n0 L) (own_met hC pn hent []) hZ w4 w3 hfr hlo) qa qc (g := mkF m pc Ls st) rfl (by rw [hml]; exact hsz) (Steps.refl _) (argsL := argsL) (rest := rest) (lenOf pd hlen) hst (by show 2 * 0 + _ ≤ _; omega) (hb hby hd) (fun _ _ => ⟨rfl, eT, hce', hsl'⟩)
  dsimp only [Pt.U, Pt.locs, Pt.cells, Pt.slots] at X1 l1 y1 z1 st1 hQ1
  subst l1 y1 z1
  obtain ⟨s₂, o, h1, h2⟩ := k v T1.heap hQ1.1 p e s m args below meth c T1 _ hx hZ hown hby hml hret hlk hnm hce' hsl' X1 rfl (Fr.app N hQ1.2)
  exact ⟨s₂, o, st1.trans h1, h2⟩
theorem own_private {z : MethodName} {bytes' : ByteArray} {ml' : Nat} {ret' : Option FieldType} {rm : Room} {Qc : Option Value → Heap → Prop} {Lc : Array Slot} {argsL rest : List Value} {ps : List FieldType} {rt : Option FieldType} {idx W : Nat} {a : Addr} {C : String} {kk : Nat} (hC : own_W l Z z bytes' ml' ret' rm n0 Qc h 0 0 0 Lc []) (E : Exa Z h a C) (w1 : (Jvm.Cond.methodLink y.cls idx z).before a0 Z = true) (w6 : (Jvm.Cond.instanceMethod z).before a0 Z = true) (wp : (Jvm.Cond.privateMethod z).before a0 Z = true) (wi : (Jvm.Cond.instantiable z.cls kk).before a0 Z = true) (w3 : (Jvm.Cond.initialized z.cls).before a0 Z = true) (w4 : (Jvm.Cond.code z bytes' ml' ret').before a0 Z = true) (pn : plainFor z = true) (hy : z.cls ≠ "java/lang/invoke/MethodHandle" ∧ z.cls ≠ "java/lang/invoke/VarHandle") (pd : parseMethodDescriptor z.desc = some ⟨ps, rt⟩) (hlen : argsL.length = ps.length)
    (hst : st = argsL.reverse ++ .ref a :: rest) (hent : Jvm.Sym.laidSlots (.ref a :: argsL) ++ List.replicate (ml' - (Jvm.Sym.laidSlots (.ref a :: argsL)).length) .unset = Lc.toList) (hW : (rest.map fun v => v.category).sum ≤ W) (hfr : rm.frames + 1 ≤ R.frames) (hlo : W + (ml' + 11) + rm.locals ≤ R.locals) (hce' : cells + rm.cells ≤ R.cells) (hsl' : slots + rm.slots ≤ R.slots) (hsz : Ls.size = ml) (hd : decode bytes pc = .ok (.invokevirtual idx, 3)) (hp : pc + 3 = pc') (k : ∀ v h', Qc v h' → own_W l Z y bytes ml ret R n0 Q h' (cells + rm.cells) (slots + rm.slots) pc' Ls (v.toList ++ rest)) : own_W l Z y bytes ml ret R n0 Q h cells slots pc Ls st := by
  intro p e s m args below meth c T locs hx hZ hown hby hml hret hlk hnm hce hsl X eT N
  subst hp
  obtain ⟨c2, k2, i1, i2, i3, i4, -⟩ := Cond.instantiable_spec (mvT (args := args) hZ wi)
  have hpr := Cond.privateMethod_at (mvP (args := #[]) hZ wp)
  have hsel := Jvm.Stand.selects_self_of_private (args := args) i1 i2 (Bool.or_eq_false_iff.mp i4).1 hpr (mvT hZ w6) hy
  obtain ⟨cell, qc, qo⟩ := E.cell
  obtain ⟨v, vm₁, ⟨T1, L1, k1, n1⟩, -, X1, ⟨Lc1, hQ1, l1, y1, z1⟩, st1⟩ := X.privateBack hx (y := z) hown (mvT hZ w1) (mvT hZ w6) hsel hpr (mvT hZ w4) hy (backOf (W := W) (Q := fun v h L => Qc v h ∧ Fr n0 L) (own_met hC pn hent []) hZ w4 w3 hfr hlo) (g := mkF m pc Ls st) rfl (by rw [hml]; exact hsz) (Steps.refl _) (a := a) (by rw [eT]; exact qc) qo (argsL := argsL) (rest := rest) (lenOf pd hlen) hst (by show 2 * 0 + _ ≤ _; omega) (hb hby hd) (fun _ _ => ⟨rfl, eT, hce', hsl'⟩)
  dsimp only [Pt.U, Pt.locs, Pt.cells, Pt.slots] at X1 l1 y1 z1 st1 hQ1
  subst l1 y1 z1
  obtain ⟨s₂, o, h1, h2⟩ := k v T1.heap hQ1.1 p e s m args below meth c T1 _ hx hZ hown hby hml hret hlk hnm hce' hsl' X1 rfl (Fr.app N hQ1.2)
  exact ⟨s₂, o, st1.trans h1, h2⟩
theorem own_refBack {p : Program} {e : Env} {s : State} {m : MethodId} {args : Array Value} {below : List Frame} {meth : Method} {c : Code} {T : State} {locs : List Loc} (X : Stand p l e R s m args below meth c T locs cells slots) (hexec : p.tables.exec = Jvm.exec) (hZ : Z.Warmed39 s.vm) {own : String} {index : Nat} {z : MethodName} (hzn : z.name = "<init>")
    (hown : s.vm.findClass own = some m.cls) (w1 : (Jvm.Cond.methodRef own index z).before a0 Z = true) (w2 : (Jvm.Cond.instanceMethod z).before a0 Z = true) {bytes' : ByteArray} {maxL : Nat} (w4 : (Jvm.Cond.code z bytes' maxL none).before a0 Z = true)
    (hy : z.cls ≠ "java/lang/invoke/MethodHandle" ∧ z.cls ≠ "java/lang/invoke/VarHandle") {W : Nat} {Pre : Pt → Array Value → Prop} {Post : Pt → Array Value → Option Value → Pt → Prop} (hK : Back l R p e below s args z 3 W Pre Post)
    {g : JFrame} (hg : g.method = m) (hsize : g.locals.size = c.maxLocals) {a : Addr} {argsL rest : List Value} (hlen : ∀ sig, parseMethodDescriptor z.desc = some sig → argsL.length = sig.parameters.length) (hstack : g.stack = argsL.reverse ++ .ref a :: rest) (hW : 2 * g.monitorRoom + (rest.map fun v => v.category).sum ≤ W)
    (hdg : decode c.code g.pc = .ok (.invokespecial index, 3)) (hpre : Pre ⟨T, locs, cells, slots⟩ (.ref a :: argsL).toArray) :
    ∃ (v : Option Value) (B : Pt), Stand p l e R s m args below meth c B.U B.locs B.cells B.slots ∧ Post ⟨T, locs, cells, slots⟩ (.ref a :: argsL).toArray v B ∧ Steps p.tables e below (T.setTop g) (B.U.setTop { g with pc := g.pc + 3, stack := v.toList ++ rest }) := by
  obtain ⟨obj, methO, hnO, hmO, hstO, habO⟩ := Cond.instanceMethod_spec (mvT (args := args) hZ w2)
  obtain ⟨methO', cO, hmO', hcO, -, -, -, -, -, hsigO⟩ := Cond.code_spec hnO (mvT (args := args) hZ w4)
  cases hmO.symm.trans hmO'
  obtain ⟨kO, hkO, hnameO⟩ := className_of_methodNamed hnO
  obtain ⟨hnameMO, hdescO⟩ := name_of_methodNamed hnO hmO
  have hU : Z.Warmed39 T.vm := wtrans hZ X.warmed
  obtain ⟨objZ, methZ, hnZ, -⟩ := Cond.instanceMethod_spec w2
  have hT := Cond.methodRef_warmed39 hU hnZ hy w1
  have hownT : (Z.setVm T.vm).vm.findClass own = some m.cls := by show T.vm.findClass own = _; rw [X.warmed.alike.findClass]; exact hown
  obtain ⟨m', c', f1, f2, f3, f4⟩ := Cond.methodRef_named (s := Z.setVm T.vm) e hownT hT
  have hnT : T.methodNamed? z = some obj := X.named hnO
  have hn' : (Z.setVm T.vm).methodNamed? z = some obj := hnT
  cases (State.methodFound?_of_named hn' hy).symm.trans f1
  cases (findClass_of_methodNamed hn').symm.trans f3
  obtain ⟨kO', hkT, -⟩ := X.warmed.alike.2.2 _ _ hkO
  have hmT : T.vm.method? obj = some methO := by rw [X.warmed.alike.method?]; exact hmO
  have hfound : lookupSpecial T.vm obj.cls "<init>" methO.desc = .method obj := by rw [hdescO, ← hzn]; exact lookupSpecial_of_named hnT hmT hstO
  have hstep : ∀ target, (∀ acts, Steps p.tables e below (doInvoke e (T.setTop { g with stack := rest }) acts obj (.ref a :: argsL).toArray).1 target) → Steps p.tables e below (T.setTop g) target := by
    intro target hrest
    subst hg
    jvm_step X.here [hexec, hdg, invokespecial.wp_init (e := e) (s := T) (k := kO') (meth := methO) (m := obj) (a := a) (args := argsL) (rest := rest) (f := g) X.here.top f4 f2 hkT hmT (by rw [hnameMO]; exact hzn) hstO habO hfound (hlen _ hsigO) hstack]
    exact hrest
  obtain ⟨v, B, X', hpost, hsteps⟩ := hK m meth c ⟨T, locs, cells, slots⟩ { g with stack := rest } (.invokespecial index) obj (.ref a :: argsL).toArray X hg hsize hdg hW hnT hpre
  exact ⟨v, B, X', hpost, hstep _ fun acts => by rw [doInvoke_state]; exact hsteps⟩
theorem own_specialRef {z : MethodName} {bytes' : ByteArray} {ml' : Nat} {ret' : Option FieldType} {rm : Room} {Qc : Option Value → Heap → Prop} {Lc : Array Slot} {argsL rest : List Value} {ps : List FieldType} {rt : Option FieldType} {idx W : Nat} {a : Addr} (hC : own_W l Z z bytes' ml' none rm n0 Qc h 0 0 0 Lc []) (w1 : (Jvm.Cond.methodRef y.cls idx z).before a0 Z = true) (w2 : (Jvm.Cond.instanceMethod z).before a0 Z = true) (w3 : (Jvm.Cond.initialized z.cls).before a0 Z = true) (w4 : (Jvm.Cond.code z bytes' ml' none).before a0 Z = true) (hzn : z.name = "<init>") (pn : plainFor z = true) (hy : z.cls ≠ "java/lang/invoke/MethodHandle" ∧ z.cls ≠ "java/lang/invoke/VarHandle") (pd : parseMethodDescriptor z.desc = some ⟨ps, rt⟩) (hlen : argsL.length = ps.length)
    (hst : st = argsL.reverse ++ .ref a :: rest) (hent : Jvm.Sym.laidSlots (.ref a :: argsL) ++ List.replicate (ml' - (Jvm.Sym.laidSlots (.ref a :: argsL)).length) .unset = Lc.toList) (hW : (rest.map fun v => v.category).sum ≤ W) (hfr : rm.frames + 1 ≤ R.frames) (hlo : W + (ml' + 11) + rm.locals ≤ R.locals) (hce' : cells + rm.cells ≤ R.cells) (hsl' : slots + rm.slots ≤ R.slots) (hsz : Ls.size = ml) (hd : decode bytes pc = .ok (.invokespecial idx, 3)) (hp : pc + 3 = pc') (k : ∀ v h', Qc v h' → own_W l Z y bytes ml ret R n0 Q h' (cells + rm.cells) (slots + rm.slots) pc' Ls (v.toList ++ rest)) : own_W l Z y bytes ml ret R n0 Q h cells slots pc Ls st := by
  intro p e s m args below meth c T locs hx hZ hown hby hml hret hlk hnm hce hsl X eT N
  subst hp
  obtain ⟨v, ⟨T1, L1, k1, n1⟩, X1, ⟨Lc1, hQ1, l1, y1, z1⟩, st1⟩ := own_refBack X hx hZ hzn hown w1 w2 w4 hy (backOf (W := W) (Q := fun v h L => Qc v h ∧ Fr n0 L) (own_met hC pn hent []) hZ w4 w3 hfr hlo) (g := mkF m pc Ls st) rfl (by rw [hml]; exact hsz) (a := a) (argsL := argsL) (rest := rest) (lenOf pd hlen) hst (by show 2 * 0 + _ ≤ _; omega) (hb hby hd) ⟨rfl, eT, hce', hsl'⟩
  dsimp only [Pt.U, Pt.locs, Pt.cells, Pt.slots] at X1 l1 y1 z1 st1 hQ1
  subst l1 y1 z1
  obtain ⟨s₂, o, h1, h2⟩ := k v T1.heap hQ1.1 p e s m args below meth c T1 _ hx hZ hown hby hml hret hlk hnm hce' hsl' X1 rfl (Fr.app N hQ1.2)
  exact ⟨s₂, o, st1.trans h1, h2⟩
end OwnW
-- LAYER END
theorem d1_0 : decode method_3_code 0 = .ok (.iload_n 1, 1) := by decide +kernel
theorem d1_1 : decode method_3_code 1 = .ok (.ifCond .ne 7, 3) := by decide +kernel
theorem d1_4 : decode method_3_code 4 = .ok (.iconst 0, 1) := by decide +kernel
theorem d1_5 : decode method_3_code 5 = .ok (.goto 9, 3) := by decide +kernel
theorem d1_8 : decode method_3_code 8 = .ok (.iload_n 0, 1) := by decide +kernel
theorem d1_9 : decode method_3_code 9 = .ok (.ldc 22, 2) := by decide +kernel
theorem d1_11 : decode method_3_code 11 = .ok (.iand, 1) := by decide +kernel
theorem d1_12 : decode method_3_code 12 = .ok (.iload_n 1, 1) := by decide +kernel
theorem d1_13 : decode method_3_code 13 = .ok (.irem, 1) := by decide +kernel
theorem d1_14 : decode method_3_code 14 = .ok (.ireturn, 1) := by decide +kernel
theorem d2_0 : decode prog_38_method_1_code 0 = .ok (.aload_n 0, 1) := by decide +kernel
theorem d2_1 : decode prog_38_method_1_code 1 = .ok (.invokespecial 1, 3) := by decide +kernel
theorem d2_4 : decode prog_38_method_1_code 4 = .ok (.aload_n 0, 1) := by decide +kernel
theorem d2_5 : decode prog_38_method_1_code 5 = .ok (.aload_n 1, 1) := by decide +kernel
theorem d2_6 : decode prog_38_method_1_code 6 = .ok (.putfield 7, 3) := by decide +kernel
theorem d2_9 : decode prog_38_method_1_code 9 = .ok (.aload_n 0, 1) := by decide +kernel
theorem d2_10 : decode prog_38_method_1_code 10 = .ok (.aload_n 2, 1) := by decide +kernel
theorem d2_11 : decode prog_38_method_1_code 11 = .ok (.putfield 13, 3) := by decide +kernel
theorem d2_14 : decode prog_38_method_1_code 14 = .ok (.aload_n 0, 1) := by decide +kernel
theorem d2_15 : decode prog_38_method_1_code 15 = .ok (.iload_n 3, 1) := by decide +kernel
theorem d2_16 : decode prog_38_method_1_code 16 = .ok (.putfield 16, 3) := by decide +kernel
theorem d2_19 : decode prog_38_method_1_code 19 = .ok (.return_, 1) := by decide +kernel
theorem d3_0 : decode jdk_30_method_1_code 0 = .ok (.aload_n 0, 1) := by decide +kernel
theorem d3_1 : decode jdk_30_method_1_code 1 = .ok (.invokespecial 1, 3) := by decide +kernel
theorem d3_4 : decode jdk_30_method_1_code 4 = .ok (.return_, 1) := by decide +kernel
theorem d4_0 : decode object_method_1_code 0 = .ok (.return_, 1) := by decide +kernel
theorem d5_0 : decode prog_38_method_3_code 0 = .ok (.aload_n 0, 1) := by decide +kernel
theorem d5_1 : decode prog_38_method_3_code 1 = .ok (.getfield 16, 3) := by decide +kernel
theorem d5_4 : decode prog_38_method_3_code 4 = .ok (.newarray .boolean, 2) := by decide +kernel
theorem d5_6 : decode prog_38_method_3_code 6 = .ok (.astore_n 2, 1) := by decide +kernel
theorem d5_7 : decode prog_38_method_3_code 7 = .ok (.aload_n 1, 1) := by decide +kernel
theorem d5_8 : decode prog_38_method_3_code 8 = .ok (.astore_n 3, 1) := by decide +kernel
theorem d5_9 : decode prog_38_method_3_code 9 = .ok (.aload_n 3, 1) := by decide +kernel
theorem d5_10 : decode prog_38_method_3_code 10 = .ok (.arraylength, 1) := by decide +kernel
theorem d5_11 : decode prog_38_method_3_code 11 = .ok (.istore 4, 2) := by decide +kernel
theorem d5_13 : decode prog_38_method_3_code 13 = .ok (.iconst 0, 1) := by decide +kernel
theorem d5_14 : decode prog_38_method_3_code 14 = .ok (.istore 5, 2) := by decide +kernel
theorem d5_16 : decode prog_38_method_3_code 16 = .ok (.iload 5, 2) := by decide +kernel
theorem d5_18 : decode prog_38_method_3_code 18 = .ok (.iload 4, 2) := by decide +kernel
theorem d5_20 : decode prog_38_method_3_code 20 = .ok (.if_icmp .ge 20, 3) := by decide +kernel
theorem d5_23 : decode prog_38_method_3_code 23 = .ok (.aload_n 3, 1) := by decide +kernel
theorem d5_24 : decode prog_38_method_3_code 24 = .ok (.iload 5, 2) := by decide +kernel
theorem d5_26 : decode prog_38_method_3_code 26 = .ok (.iaload, 1) := by decide +kernel
theorem d5_27 : decode prog_38_method_3_code 27 = .ok (.istore 6, 2) := by decide +kernel
theorem d5_29 : decode prog_38_method_3_code 29 = .ok (.aload_n 2, 1) := by decide +kernel
theorem d5_30 : decode prog_38_method_3_code 30 = .ok (.iload 6, 2) := by decide +kernel
theorem d5_32 : decode prog_38_method_3_code 32 = .ok (.iconst 1, 1) := by decide +kernel
theorem d5_33 : decode prog_38_method_3_code 33 = .ok (.bastore, 1) := by decide +kernel
theorem d5_34 : decode prog_38_method_3_code 34 = .ok (.iinc 5 1, 3) := by decide +kernel
theorem d5_37 : decode prog_38_method_3_code 37 = .ok (.goto (-21), 3) := by decide +kernel
theorem d5_40 : decode prog_38_method_3_code 40 = .ok (.aload_n 2, 1) := by decide +kernel
theorem d5_41 : decode prog_38_method_3_code 41 = .ok (.areturn, 1) := by decide +kernel
theorem own_pn0 : plainName "com/example/tumbleweave/tumbleweave/diff/KindsPresentPinLaw" = true := by decide +kernel
theorem own_pn1 : plainName "com/example/tumbleweave/tumbleweave/diff/Kinds" = true := by decide +kernel
theorem own_pn2 : plainName "java/lang/Record" = true := by decide +kernel
theorem own_pd0 : parseMethodDescriptor "(IIIIII)Z" = some ⟨[.int, .int, .int, .int, .int, .int], (some .boolean)⟩ := by decide +kernel
theorem own_pd1 : parseMethodDescriptor "(II)I" = some ⟨[.int, .int], (some .int)⟩ := by decide +kernel
theorem own_pd2 : parseMethodDescriptor "([I[II)V" = some ⟨[(.array .int), (.array .int), .int], none⟩ := by decide +kernel
theorem own_pd3 : parseMethodDescriptor "()V" = some ⟨[], none⟩ := by decide +kernel
theorem own_pd4 : parseMethodDescriptor "([I)[Z" = some ⟨[(.array .int)], (some (.array .boolean))⟩ := by decide +kernel
def own_idx (u c : Int32) : Int32 := if ¬ c = 0 then (u &&& 2147483647) % c else 0
def own_pl (c : Int32) (ks : List Int32) : List Value := ks.foldl (fun vs k => vs.set k.toNatClampNeg (.int 1)) (List.replicate c.toNatClampNeg (.int 0))
theorem own_clamp {k q : Int32} (hk : ¬ k < 0) (hq : ¬ q < 0) : k.toNatClampNeg = q.toNatClampNeg ↔ k = q := by
  rw [Int32.lt_iff_toInt_lt] at hk hq
  have z : (0 : Int32).toInt = 0 := rfl
  rw [← Int32.toInt_inj, Int32.toNatClampNeg, Int32.toNatClampNeg]; omega
theorem own_clt {k c : Int32} (hk : ¬ k < 0) (h : k < c) : k.toNatClampNeg < c.toNatClampNeg := by
  rw [Int32.lt_iff_toInt_lt] at hk h
  have z : (0 : Int32).toInt = 0 := rfl
  rw [Int32.toNatClampNeg, Int32.toNatClampNeg]; omega
theorem own_pl_len (ks : List Int32) : ∀ vs : List Value, (ks.foldl (fun vs k => vs.set k.toNatClampNeg (.int 1)) vs).length = vs.length := by
  induction ks with
  | nil => intro vs; rfl
  | cons k ks ih => intro vs; rw [List.foldl_cons, ih, List.length_set]
theorem own_pl_l (c : Int32) (ks : List Int32) : (own_pl c ks).length = c.toNatClampNeg := by
  unfold own_pl; rw [own_pl_len, List.length_replicate]
theorem own_pl_get (ks : List Int32) (q : Int32) (hq : ¬ q < 0) : (∀ k ∈ ks, ¬ k < 0) → ∀ (vs : List Value) (b : Int32), vs[q.toNatClampNeg]? = some (.int b) → (ks.foldl (fun vs k => vs.set k.toNatClampNeg (.int 1)) vs)[q.toNatClampNeg]? = some (.int (if q ∈ ks then 1 else b)) := by
  induction ks with
  | nil => intro _ vs b h; simpa using h
  | cons k ks ih =>
    intro hk vs b h
    rw [List.foldl_cons]
    by_cases e : k = q
    · subst e
      have hlt := (List.getElem?_eq_some_iff.mp h).1
      rw [ih (fun x hx => hk x (List.mem_cons_of_mem _ hx)) _ 1 (by simp [hlt])]
      simp
    · have e' : k.toNatClampNeg ≠ q.toNatClampNeg := fun w => e ((own_clamp (hk k (List.mem_cons_self ..)) hq).mp w)
      rw [ih (fun x hx => hk x (List.mem_cons_of_mem _ hx)) _ b (by rw [List.getElem?_set_ne e']; exact h)]
      have : q ∈ k :: ks ↔ q ∈ ks := by simp [Ne.symm e]
      simp [this]
theorem own_pl_at (c q : Int32) (ks : List Int32) (hq : ¬ q < 0) (hqc : q < c) (hk : ∀ k ∈ ks, ¬ k < 0) : (own_pl c ks)[q.toNatClampNeg]? = some (.int (if q ∈ ks then 1 else 0)) := by
  unfold own_pl
  exact own_pl_get ks q hq hk _ 0 (by simp [own_clt hq hqc])
theorem own_idx_ok (u c : Int32) (hc : 0 < c) : ¬ own_idx u c < 0 ∧ own_idx u c < c := by
  have hc' := hc
  rw [Int32.lt_iff_toInt_lt] at hc'
  have z : (0 : Int32).toInt = 0 := rfl
  rw [z] at hc'
  have h1 := (c_and u 2147483647 (by decide)).1
  have h2 := (c_iremV (u &&& 2147483647) c).1 h1 hc'
  have hne : ¬ c = 0 := by intro e; subst e; exact absurd hc (by decide)
  unfold own_idx
  rw [if_pos hne, Int32.lt_iff_toInt_lt, Int32.lt_iff_toInt_lt, z]
  omega
theorem own_plen32 (c : Int32) (hc : ¬ c < 0) (ks : List Int32) : (own_pl c ks).length.toInt32 = c := by rw [own_pl_l]; exact (back32 hc).1
set_option maxRecDepth 65536 in
set_option maxHeartbeats 40000000 in
theorem own_idxW (l : Launch) (Z : State) (a0 : Array Value) (hw : ∀ d ∈ tables_1, d.before a0 Z = true) (u c : Int32) (h0 : Heap) (n0 : Nat) (hn0 : n0 ≤ h0.size) :
    own_W l Z (⟨"com/example/tumbleweave/tumbleweave/diff/KindsPresentPinLaw", "idx", "(II)I"⟩ : MethodName) method_3_code 2 (some .int) ({ frames := 0, cells := 0, slots := 0, locals := 0 } : Room) n0 (fun v h => v = some (.int (own_idx u c)) ∧ h0 = h) h0 0 0 0 #[.val (.int u), .val (.int c)] [] := by
  refine own_iloadN (pc' := 1) d1_0 rfl rfl ?_
  refine own_if_ne (pc' := 8) (pf := 4) d1_1 (by decide) (by decide) rfl (fun h_1 => ?_) (fun h_1 => ?_)
  · refine own_iloadN (pc' := 9) d1_8 rfl rfl ?_
    refine own_ldcI (pc' := 11) (u := (2147483647 : Int32)) (hw _ (List.mem_of_getElem? (i := 31) rfl)) d1_9 rfl ?_
    refine own_iand (pc' := 12) d1_11 rfl ?_
    refine own_iloadN (pc' := 13) d1_12 rfl rfl ?_
    refine own_irem (pc' := 14) d1_13 rfl h_1 ?_
    exact own_iret rfl d1_14 ⟨by unfold own_idx; rw [if_pos h_1], rfl⟩
  · refine own_iconst (0 : Int32) (pc' := 5) d1_4 rfl rfl ?_
    refine own_goto (pc' := 14) d1_5 (by decide) (by decide) ?_
    exact own_iret rfl d1_14 ⟨by unfold own_idx; rw [if_neg (fun q => q h_1)], rfl⟩
set_option maxRecDepth 65536 in
set_option maxHeartbeats 40000000 in
theorem own_rec (l : Launch) (Z : State) (a0 : Array Value) (hw : ∀ d ∈ tables_1, d.before a0 Z = true) (a : Addr) (h0 : Heap) (n0 : Nat) (hn0 : n0 ≤ h0.size) :
    own_W l Z (⟨"java/lang/Record", "<init>", "()V"⟩ : MethodName) jdk_30_method_1_code 1 none ({ frames := 1, cells := 0, slots := 0, locals := 12 } : Room) n0 (fun v h => v = none ∧ h0 = h) h0 0 0 0 #[.val (.ref a)] [] := by
  refine own_aloadN (pc' := 1) d3_0 rfl rfl ?_
  refine own_initO (pc' := 4) (W := 0) (hw _ (List.mem_of_getElem? (i := 16) rfl)) (hw _ (List.mem_of_getElem? (i := 17) rfl)) (hw _ (List.mem_of_getElem? (i := 18) rfl)) d3_1 rfl rfl (by decide) (Nat.le_refl _) (by decide) ?_
  exact own_ret rfl d3_4 ⟨rfl, rfl⟩
set_option maxRecDepth 65536 in
set_option maxHeartbeats 40000000 in
theorem own_mk (l : Launch) (Z : State) (a0 : Array Value) (hw : ∀ d ∈ tables_1, d.before a0 Z = true) (o p q : Addr) (c : Int32) (h0 : Heap) (n0 : Nat) (hn0 : n0 ≤ h0.size) (ge_o : n0 ≤ o) (E_o : Exa Z h0 o "com/example/tumbleweave/tumbleweave/diff/Kinds") (F_o_old : Fld Z h0 o "com/example/tumbleweave/tumbleweave/diff/Kinds" "old" "[I" .null) (F_o_now : Fld Z h0 o "com/example/tumbleweave/tumbleweave/diff/Kinds" "now" "[I" .null) (F_o_count : Fld Z h0 o "com/example/tumbleweave/tumbleweave/diff/Kinds" "count" "I" (.int 0)) :
    own_W l Z (⟨"com/example/tumbleweave/tumbleweave/diff/Kinds", "<init>", "([I[II)V"⟩ : MethodName) prog_38_method_1_code 4 none ({ frames := 2, cells := 0, slots := 0, locals := 24 } : Room) n0 (fun v h => v = none ∧ Keep h0 h [o] ∧ Exa Z h o "com/example/tumbleweave/tumbleweave/diff/Kinds" ∧ Fld Z h o "com/example/tumbleweave/tumbleweave/diff/Kinds" "count" "I" (.int c)) h0 0 0 0 #[.val (.ref o), .val (.ref p), .val (.ref q), .val (.int c)] [] := by
  refine own_aloadN (pc' := 1) d2_0 rfl rfl ?_
  refine own_special (ret' := none) (own_rec l Z a0 hw o h0 n0 hn0) (hw _ (List.mem_of_getElem? (i := 11) rfl)) (hw _ (List.mem_of_getElem? (i := 12) rfl)) (hw _ (List.mem_of_getElem? (i := 14) rfl)) (hw _ (List.mem_of_getElem? (i := 15) rfl)) rfl (plainFor_of_name own_pn2) (by decide) own_pd3 rfl (argsL := []) (rest := []) rfl rfl (W := 0) (Nat.le_refl _) (by decide) (by decide) (by decide) (by decide) rfl d2_1 (pc' := 4) rfl (fun v_ h1 hq => ?_)
  obtain ⟨rfl, rfl⟩ := hq
  show own_W l Z (⟨"com/example/tumbleweave/tumbleweave/diff/Kinds", "<init>", "([I[II)V"⟩ : MethodName) prog_38_method_1_code 4 none ({ frames := 2, cells := 0, slots := 0, locals := 24 } : Room) n0 (fun v h => v = none ∧ Keep h0 h [o] ∧ Exa Z h o "com/example/tumbleweave/tumbleweave/diff/Kinds" ∧ Fld Z h o "com/example/tumbleweave/tumbleweave/diff/Kinds" "count" "I" (.int c)) h0 0 0 4 #[.val (.ref o), .val (.ref p), .val (.ref q), .val (.int c)] []
  refine own_aloadN (pc' := 5) d2_4 rfl rfl ?_
  refine own_aloadN (pc' := 6) d2_5 rfl rfl ?_
  refine own_putF (pc' := 9) (hw _ (List.mem_of_getElem? (i := 19) rfl)) F_o_old E_o (Or.inr ⟨(hw _ (List.mem_of_getElem? (i := 20) rfl)), rfl, rfl⟩) (hw _ (List.mem_of_getElem? (i := 6) rfl)) ge_o (ty := (.array .int)) (by decide) rfl rfl d2_6 rfl (fun h2 Wr3 K4 => ?_)
  replace E_o := E_o.wr Wr3
  replace F_o_old := F_o_old.same Wr3
  replace F_o_now := F_o_now.other Wr3 (Or.inr (slot_ne (a0 := a0) (Or.inr (hw _ (List.mem_of_getElem? (i := 22) rfl))) (Or.inr (hw _ (List.mem_of_getElem? (i := 20) rfl))) (by decide) (t := (.array .int)) (by decide) (t' := (.array .int)) (by decide)))
  replace F_o_count := F_o_count.other Wr3 (Or.inr (slot_ne (a0 := a0) (Or.inr (hw _ (List.mem_of_getElem? (i := 24) rfl))) (Or.inr (hw _ (List.mem_of_getElem? (i := 20) rfl))) (by decide) (t := .int) (by decide) (t' := (.array .int)) (by decide)))
  replace hn0 : n0 ≤ h2.size := Nat.le_trans hn0 K4.1
  refine own_aloadN (pc' := 10) d2_9 rfl rfl ?_
  refine own_aloadN (pc' := 11) d2_10 rfl rfl ?_
  refine own_putF (pc' := 14) (hw _ (List.mem_of_getElem? (i := 21) rfl)) F_o_now E_o (Or.inr ⟨(hw _ (List.mem_of_getElem? (i := 22) rfl)), rfl, rfl⟩) (hw _ (List.mem_of_getElem? (i := 6) rfl)) ge_o (ty := (.array .int)) (by decide) rfl rfl d2_11 rfl (fun h5 Wr6 K7 => ?_)
  replace E_o := E_o.wr Wr6
  replace F_o_old := F_o_old.other Wr6 (Or.inr (slot_ne (a0 := a0) (Or.inr (hw _ (List.mem_of_getElem? (i := 20) rfl))) (Or.inr (hw _ (List.mem_of_getElem? (i := 22) rfl))) (by decide) (t := (.array .int)) (by decide) (t' := (.array .int)) (by decide)))
  replace F_o_now := F_o_now.same Wr6
  replace F_o_count := F_o_count.other Wr6 (Or.inr (slot_ne (a0 := a0) (Or.inr (hw _ (List.mem_of_getElem? (i := 24) rfl))) (Or.inr (hw _ (List.mem_of_getElem? (i := 22) rfl))) (by decide) (t := .int) (by decide) (t' := (.array .int)) (by decide)))
  replace hn0 : n0 ≤ h5.size := Nat.le_trans hn0 K7.1
  refine own_aloadN (pc' := 15) d2_14 rfl rfl ?_
  refine own_iloadN (pc' := 16) d2_15 rfl rfl ?_
  refine own_putF (pc' := 19) (hw _ (List.mem_of_getElem? (i := 23) rfl)) F_o_count E_o (Or.inr ⟨(hw _ (List.mem_of_getElem? (i := 24) rfl)), rfl, rfl⟩) (hw _ (List.mem_of_getElem? (i := 6) rfl)) ge_o (ty := .int) (by decide) rfl rfl d2_16 rfl (fun h8 Wr9 K10 => ?_)
  replace E_o := E_o.wr Wr9
  replace F_o_old := F_o_old.other Wr9 (Or.inr (slot_ne (a0 := a0) (Or.inr (hw _ (List.mem_of_getElem? (i := 20) rfl))) (Or.inr (hw _ (List.mem_of_getElem? (i := 24) rfl))) (by decide) (t := (.array .int)) (by decide) (t' := .int) (by decide)))
  replace F_o_now := F_o_now.other Wr9 (Or.inr (slot_ne (a0 := a0) (Or.inr (hw _ (List.mem_of_getElem? (i := 22) rfl))) (Or.inr (hw _ (List.mem_of_getElem? (i := 24) rfl))) (by decide) (t := (.array .int)) (by decide) (t' := .int) (by decide)))
  replace F_o_count := F_o_count.same Wr9
  replace hn0 : n0 ≤ h8.size := Nat.le_trans hn0 K10.1
  exact own_ret rfl d2_19 ⟨rfl, ((((Keep.refl h0 [o]).trans K4 (fun x hx => Or.inl hx)).trans K7 (fun x hx => Or.inl hx)).trans K10 (fun x hx => Or.inl hx)), E_o, F_o_count⟩
set_option maxRecDepth 65536 in
set_option maxHeartbeats 40000000 in
theorem own_pres0 (l : Launch) (Z : State) (a0 : Array Value) (hw : ∀ d ∈ tables_1, d.before a0 Z = true) (o s : Addr) (c : Int32) (h0 : Heap) (n0 : Nat) (hn0 : n0 ≤ h0.size) (hc : ¬ c < 0) (hc7 : c.toNatClampNeg ≤ 7) (F_c : Fld Z h0 o "com/example/tumbleweave/tumbleweave/diff/Kinds" "count" "I" (.int c)) (A_s : own_A Z h0 s .int []) :
    own_W l Z (⟨"com/example/tumbleweave/tumbleweave/diff/Kinds", "present", "([I)[Z"⟩ : MethodName) prog_38_method_3_code 7 (some (.array .boolean)) ({ frames := 0, cells := 1, slots := 7, locals := 0 } : Room) n0 (fun v h => ∃ r : Addr, v = some (.ref r) ∧ h0.size ≤ r ∧ Keep h0 h [] ∧ own_A Z h r .boolean (own_pl c [])) h0 0 0 0 #[.val (.ref o), .val (.ref s), .unset, .unset, .unset, .unset, .unset] [] := by
  refine own_aloadN (pc' := 1) d5_0 rfl rfl ?_
  refine own_getF (pc' := 4) (hw _ (List.mem_of_getElem? (i := 23) rfl)) F_c d5_1 rfl ?_
  refine own_newarr (pc' := 6) (ty := .boolean) (cap := 7) (hw _ (List.mem_of_getElem? (i := 30) rfl)) rfl d5_4 rfl hc hc7 (by decide) (by decide) (by decide) (fun h11 r gt_r lt_r E12 A_r => ?_)
  have ge_r : n0 ≤ r := Nat.le_trans hn0 gt_r
  have ne_o_r : o ≠ r := Nat.ne_of_lt (by have q := Nat.lt_of_lt_of_le F_c.lt (Nat.le_refl _); omega)
  have ne_s_r : s ≠ r := Nat.ne_of_lt (by have q := Nat.lt_of_lt_of_le A_s.lt (Nat.le_refl _); omega)
  replace F_c := F_c.ext E12
  replace A_s := A_s.ext E12
  replace hn0 : n0 ≤ h11.size := Nat.le_trans hn0 E12.1
  replace A_r : own_A Z h11 r .boolean (own_pl c []) := A_r.cast rfl
  refine own_astoreN (pc' := 7) (Ls' := #[.val (.ref o), .val (.ref s), .val (.ref r), .unset, .unset, .unset, .unset]) d5_6 rfl rfl ?_
  refine own_aloadN (pc' := 8) d5_7 rfl rfl ?_
  refine own_astoreN (pc' := 9) (Ls' := #[.val (.ref o), .val (.ref s), .val (.ref r), .val (.ref s), .unset, .unset, .unset]) d5_8 rfl rfl ?_
  refine own_aloadN (pc' := 10) d5_9 rfl rfl ?_
  refine own_len (pc' := 11) (n := (0 : Int32)) A_s rfl d5_10 rfl ?_
  refine own_istore (pc' := 13) (Ls' := #[.val (.ref o), .val (.ref s), .val (.ref r), .val (.ref s), .val (.int (0 : Int32)), .unset, .unset]) d5_11 rfl rfl ?_
  refine own_iconst (0 : Int32) (pc' := 14) d5_13 rfl rfl ?_
  refine own_istore (pc' := 16) (Ls' := #[.val (.ref o), .val (.ref s), .val (.ref r), .val (.ref s), .val (.int (0 : Int32)), .val (.int (0 : Int32)), .unset]) d5_14 rfl rfl ?_
  refine own_iload (pc' := 18) d5_16 rfl rfl ?_
  refine own_iload (pc' := 20) d5_18 rfl rfl ?_
  refine own_ic_ge_t (pc' := 40) d5_20 (by decide) (by decide) (by decide) ?_
  refine own_aloadN (pc' := 41) d5_40 rfl rfl ?_
  exact own_aret rfl rfl rfl d5_41 ⟨r, rfl, gt_r, ((Keep.refl h0 []).ext E12), A_r⟩
set_option maxRecDepth 65536 in
set_option maxHeartbeats 40000000 in
theorem own_pres1 (l : Launch) (Z : State) (a0 : Array Value) (hw : ∀ d ∈ tables_1, d.before a0 Z = true) (o s : Addr) (c : Int32) (k0 : Int32) (h0 : Heap) (n0 : Nat) (hn0 : n0 ≤ h0.size) (hc : ¬ c < 0) (hc7 : c.toNatClampNeg ≤ 7) (F_c : Fld Z h0 o "com/example/tumbleweave/tumbleweave/diff/Kinds" "count" "I" (.int c)) (A_s : own_A Z h0 s .int [.int k0]) (p0 : ¬ k0 < 0) (q0 : k0 < c) :
    own_W l Z (⟨"com/example/tumbleweave/tumbleweave/diff/Kinds", "present", "([I)[Z"⟩ : MethodName) prog_38_method_3_code 7 (some (.array .boolean)) ({ frames := 0, cells := 1, slots := 7, locals := 0 } : Room) n0 (fun v h => ∃ r : Addr, v = some (.ref r) ∧ h0.size ≤ r ∧ Keep h0 h [] ∧ own_A Z h r .boolean (own_pl c [k0])) h0 0 0 0 #[.val (.ref o), .val (.ref s), .unset, .unset, .unset, .unset, .unset] [] := by
  refine own_aloadN (pc' := 1) d5_0 rfl rfl ?_
  refine own_getF (pc' := 4) (hw _ (List.mem_of_getElem? (i := 23) rfl)) F_c d5_1 rfl ?_
  refine own_newarr (pc' := 6) (ty := .boolean) (cap := 7) (hw _ (List.mem_of_getElem? (i := 30) rfl)) rfl d5_4 rfl hc hc7 (by decide) (by decide) (by decide) (fun h13 r gt_r lt_r E14 A_r => ?_)
  have ge_r : n0 ≤ r := Nat.le_trans hn0 gt_r
  have ne_o_r : o ≠ r := Nat.ne_of_lt (by have q := Nat.lt_of_lt_of_le F_c.lt (Nat.le_refl _); omega)
  have ne_s_r : s ≠ r := Nat.ne_of_lt (by have q := Nat.lt_of_lt_of_le A_s.lt (Nat.le_refl _); omega)
  replace F_c := F_c.ext E14
  replace A_s := A_s.ext E14
  replace hn0 : n0 ≤ h13.size := Nat.le_trans hn0 E14.1
  replace A_r : own_A Z h13 r .boolean (own_pl c []) := A_r.cast rfl
  refine own_astoreN (pc' := 7) (Ls' := #[.val (.ref o), .val (.ref s), .val (.ref r), .unset, .unset, .unset, .unset]) d5_6 rfl rfl ?_
  refine own_aloadN (pc' := 8) d5_7 rfl rfl ?_
  refine own_astoreN (pc' := 9) (Ls' := #[.val (.ref o), .val (.ref s), .val (.ref r), .val (.ref s), .unset, .unset, .unset]) d5_8 rfl rfl ?_
  refine own_aloadN (pc' := 10) d5_9 rfl rfl ?_
  refine own_len (pc' := 11) (n := (1 : Int32)) A_s rfl d5_10 rfl ?_
  refine own_istore (pc' := 13) (Ls' := #[.val (.ref o), .val (.ref s), .val (.ref r), .val (.ref s), .val (.int (1 : Int32)), .unset, .unset]) d5_11 rfl rfl ?_
  refine own_iconst (0 : Int32) (pc' := 14) d5_13 rfl rfl ?_
  refine own_istore (pc' := 16) (Ls' := #[.val (.ref o), .val (.ref s), .val (.ref r), .val (.ref s), .val (.int (1 : Int32)), .val (.int (0 : Int32)), .unset]) d5_14 rfl rfl ?_
  refine own_iload (pc' := 18) d5_16 rfl rfl ?_
  refine own_iload (pc' := 20) d5_18 rfl rfl ?_
  refine own_ic_ge_f (pc' := 23) d5_20 (by decide) rfl ?_
  refine own_aloadN (pc' := 24) d5_23 rfl rfl ?_
  refine own_iload (pc' := 26) d5_24 rfl rfl ?_
  refine own_iaload (pc' := 27) (v := .int k0) A_s (by decide) rfl d5_26 rfl ?_
  refine own_istore (pc' := 29) (Ls' := #[.val (.ref o), .val (.ref s), .val (.ref r), .val (.ref s), .val (.int (1 : Int32)), .val (.int (0 : Int32)), .val (.int k0)]) d5_27 rfl rfl ?_
  refine own_aloadN (pc' := 30) d5_29 rfl rfl ?_
  refine own_iload (pc' := 32) d5_30 rfl rfl ?_
  refine own_iconst (1 : Int32) (pc' := 33) d5_32 rfl rfl ?_
  refine own_zastore (pc' := 34) A_r p0 (by rw [own_pl_l]; exact own_clt p0 q0) ge_r d5_33 rfl (fun h15 K16 A_new => ?_)
  replace F_c := F_c.keep K16 (ninS ne_o_r nin0)
  replace A_s := A_s.keep K16 (ninS ne_s_r nin0)
  replace hn0 : n0 ≤ h15.size := Nat.le_trans hn0 K16.1
  replace A_r := A_new
  replace A_r : own_A Z h15 r .boolean (own_pl c [k0]) := A_r.cast rfl
  refine own_iinc (pc' := 37) (w := (1 : Int32)) (Ls' := #[.val (.ref o), .val (.ref s), .val (.ref r), .val (.ref s), .val (.int (1 : Int32)), .val (.int ((0 : Int32) + (1 : Int32))), .val (.int k0)]) d5_34 rfl rfl rfl rfl ?_
  rw [show ((0 : Int32) + (1 : Int32)) = (1 : Int32) from (by decide)]
  refine own_goto (pc' := 16) d5_37 (by decide) (by decide) ?_
  refine own_iload (pc' := 18) d5_16 rfl rfl ?_
  refine own_iload (pc' := 20) d5_18 rfl rfl ?_
  refine own_ic_ge_t (pc' := 40) d5_20 (by decide) (by decide) (by decide) ?_
  refine own_aloadN (pc' := 41) d5_40 rfl rfl ?_
  exact own_aret rfl rfl rfl d5_41 ⟨r, rfl, gt_r, (((Keep.refl h0 []).ext E14).trans K16 (allS (Or.inr gt_r) all0)), A_r⟩
set_option maxRecDepth 65536 in
set_option maxHeartbeats 40000000 in
theorem own_pres2 (l : Launch) (Z : State) (a0 : Array Value) (hw : ∀ d ∈ tables_1, d.before a0 Z = true) (o s : Addr) (c : Int32) (k0 k1 : Int32) (h0 : Heap) (n0 : Nat) (hn0 : n0 ≤ h0.size) (hc : ¬ c < 0) (hc7 : c.toNatClampNeg ≤ 7) (F_c : Fld Z h0 o "com/example/tumbleweave/tumbleweave/diff/Kinds" "count" "I" (.int c)) (A_s : own_A Z h0 s .int [.int k0, .int k1]) (p0 : ¬ k0 < 0) (q0 : k0 < c) (p1 : ¬ k1 < 0) (q1 : k1 < c) :
    own_W l Z (⟨"com/example/tumbleweave/tumbleweave/diff/Kinds", "present", "([I)[Z"⟩ : MethodName) prog_38_method_3_code 7 (some (.array .boolean)) ({ frames := 0, cells := 1, slots := 7, locals := 0 } : Room) n0 (fun v h => ∃ r : Addr, v = some (.ref r) ∧ h0.size ≤ r ∧ Keep h0 h [] ∧ own_A Z h r .boolean (own_pl c [k0, k1])) h0 0 0 0 #[.val (.ref o), .val (.ref s), .unset, .unset, .unset, .unset, .unset] [] := by
  refine own_aloadN (pc' := 1) d5_0 rfl rfl ?_
  refine own_getF (pc' := 4) (hw _ (List.mem_of_getElem? (i := 23) rfl)) F_c d5_1 rfl ?_
  refine own_newarr (pc' := 6) (ty := .boolean) (cap := 7) (hw _ (List.mem_of_getElem? (i := 30) rfl)) rfl d5_4 rfl hc hc7 (by decide) (by decide) (by decide) (fun h17 r gt_r lt_r E18 A_r => ?_)
  have ge_r : n0 ≤ r := Nat.le_trans hn0 gt_r
  have ne_o_r : o ≠ r := Nat.ne_of_lt (by have q := Nat.lt_of_lt_of_le F_c.lt (Nat.le_refl _); omega)
  have ne_s_r : s ≠ r := Nat.ne_of_lt (by have q := Nat.lt_of_lt_of_le A_s.lt (Nat.le_refl _); omega)
  replace F_c := F_c.ext E18
  replace A_s := A_s.ext E18
  replace hn0 : n0 ≤ h17.size := Nat.le_trans hn0 E18.1
  replace A_r : own_A Z h17 r .boolean (own_pl c []) := A_r.cast rfl
  refine own_astoreN (pc' := 7) (Ls' := #[.val (.ref o), .val (.ref s), .val (.ref r), .unset, .unset, .unset, .unset]) d5_6 rfl rfl ?_
  refine own_aloadN (pc' := 8) d5_7 rfl rfl ?_
  refine own_astoreN (pc' := 9) (Ls' := #[.val (.ref o), .val (.ref s), .val (.ref r), .val (.ref s), .unset, .unset, .unset]) d5_8 rfl rfl ?_
  refine own_aloadN (pc' := 10) d5_9 rfl rfl ?_
  refine own_len (pc' := 11) (n := (2 : Int32)) A_s rfl d5_10 rfl ?_
  refine own_istore (pc' := 13) (Ls' := #[.val (.ref o), .val (.ref s), .val (.ref r), .val (.ref s), .val (.int (2 : Int32)), .unset, .unset]) d5_11 rfl rfl ?_
  refine own_iconst (0 : Int32) (pc' := 14) d5_13 rfl rfl ?_
  refine own_istore (pc' := 16) (Ls' := #[.val (.ref o), .val (.ref s), .val (.ref r), .val (.ref s), .val (.int (2 : Int32)), .val (.int (0 : Int32)), .unset]) d5_14 rfl rfl ?_
  refine own_iload (pc' := 18) d5_16 rfl rfl ?_
  refine own_iload (pc' := 20) d5_18 rfl rfl ?_
  refine own_ic_ge_f (pc' := 23) d5_20 (by decide) rfl ?_
  refine own_aloadN (pc' := 24) d5_23 rfl rfl ?_
  refine own_iload (pc' := 26) d5_24 rfl rfl ?_
  refine own_iaload (pc' := 27) (v := .int k0) A_s (by decide) rfl d5_26 rfl ?_
  refine own_istore (pc' := 29) (Ls' := #[.val (.ref o), .val (.ref s), .val (.ref r), .val (.ref s), .val (.int (2 : Int32)), .val (.int (0 : Int32)), .val (.int k0)]) d5_27 rfl rfl ?_
  refine own_aloadN (pc' := 30) d5_29 rfl rfl ?_
  refine own_iload (pc' := 32) d5_30 rfl rfl ?_
  refine own_iconst (1 : Int32) (pc' := 33) d5_32 rfl rfl ?_
  refine own_zastore (pc' := 34) A_r p0 (by rw [own_pl_l]; exact own_clt p0 q0) ge_r d5_33 rfl (fun h19 K20 A_new => ?_)
  replace F_c := F_c.keep K20 (ninS ne_o_r nin0)
  replace A_s := A_s.keep K20 (ninS ne_s_r nin0)
  replace hn0 : n0 ≤ h19.size := Nat.le_trans hn0 K20.1
  replace A_r := A_new
  replace A_r : own_A Z h19 r .boolean (own_pl c [k0]) := A_r.cast rfl
  refine own_iinc (pc' := 37) (w := (1 : Int32)) (Ls' := #[.val (.ref o), .val (.ref s), .val (.ref r), .val (.ref s), .val (.int (2 : Int32)), .val (.int ((0 : Int32) + (1 : Int32))), .val (.int k0)]) d5_34 rfl rfl rfl rfl ?_
  rw [show ((0 : Int32) + (1 : Int32)) = (1 : Int32) from (by decide)]
  refine own_goto (pc' := 16) d5_37 (by decide) (by decide) ?_
  refine own_iload (pc' := 18) d5_16 rfl rfl ?_
  refine own_iload (pc' := 20) d5_18 rfl rfl ?_
  refine own_ic_ge_f (pc' := 23) d5_20 (by decide) rfl ?_
  refine own_aloadN (pc' := 24) d5_23 rfl rfl ?_
  refine own_iload (pc' := 26) d5_24 rfl rfl ?_
  refine own_iaload (pc' := 27) (v := .int k1) A_s (by decide) rfl d5_26 rfl ?_
  refine own_istore (pc' := 29) (Ls' := #[.val (.ref o), .val (.ref s), .val (.ref r), .val (.ref s), .val (.int (2 : Int32)), .val (.int (1 : Int32)), .val (.int k1)]) d5_27 rfl rfl ?_
  refine own_aloadN (pc' := 30) d5_29 rfl rfl ?_
  refine own_iload (pc' := 32) d5_30 rfl rfl ?_
  refine own_iconst (1 : Int32) (pc' := 33) d5_32 rfl rfl ?_
  refine own_zastore (pc' := 34) A_r p1 (by rw [own_pl_l]; exact own_clt p1 q1) ge_r d5_33 rfl (fun h21 K22 A_new => ?_)
  replace F_c := F_c.keep K22 (ninS ne_o_r nin0)
  replace A_s := A_s.keep K22 (ninS ne_s_r nin0)
  replace hn0 : n0 ≤ h21.size := Nat.le_trans hn0 K22.1
  replace A_r := A_new
  replace A_r : own_A Z h21 r .boolean (own_pl c [k0, k1]) := A_r.cast rfl
  refine own_iinc (pc' := 37) (w := (1 : Int32)) (Ls' := #[.val (.ref o), .val (.ref s), .val (.ref r), .val (.ref s), .val (.int (2 : Int32)), .val (.int ((1 : Int32) + (1 : Int32))), .val (.int k1)]) d5_34 rfl rfl rfl rfl ?_
  rw [show ((1 : Int32) + (1 : Int32)) = (2 : Int32) from (by decide)]
  refine own_goto (pc' := 16) d5_37 (by decide) (by decide) ?_
  refine own_iload (pc' := 18) d5_16 rfl rfl ?_
  refine own_iload (pc' := 20) d5_18 rfl rfl ?_
  refine own_ic_ge_t (pc' := 40) d5_20 (by decide) (by decide) (by decide) ?_
  refine own_aloadN (pc' := 41) d5_40 rfl rfl ?_
  exact own_aret rfl rfl rfl d5_41 ⟨r, rfl, gt_r, ((((Keep.refl h0 []).ext E18).trans K20 (allS (Or.inr gt_r) all0)).trans K22 (allS (Or.inr gt_r) all0)), A_r⟩
set_option maxRecDepth 65536 in
set_option maxHeartbeats 40000000 in
theorem own_pres3 (l : Launch) (Z : State) (a0 : Array Value) (hw : ∀ d ∈ tables_1, d.before a0 Z = true) (o s : Addr) (c : Int32) (k0 k1 k2 : Int32) (h0 : Heap) (n0 : Nat) (hn0 : n0 ≤ h0.size) (hc : ¬ c < 0) (hc7 : c.toNatClampNeg ≤ 7) (F_c : Fld Z h0 o "com/example/tumbleweave/tumbleweave/diff/Kinds" "count" "I" (.int c)) (A_s : own_A Z h0 s .int [.int k0, .int k1, .int k2]) (p0 : ¬ k0 < 0) (q0 : k0 < c) (p1 : ¬ k1 < 0) (q1 : k1 < c) (p2 : ¬ k2 < 0) (q2 : k2 < c) :
    own_W l Z (⟨"com/example/tumbleweave/tumbleweave/diff/Kinds", "present", "([I)[Z"⟩ : MethodName) prog_38_method_3_code 7 (some (.array .boolean)) ({ frames := 0, cells := 1, slots := 7, locals := 0 } : Room) n0 (fun v h => ∃ r : Addr, v = some (.ref r) ∧ h0.size ≤ r ∧ Keep h0 h [] ∧ own_A Z h r .boolean (own_pl c [k0, k1, k2])) h0 0 0 0 #[.val (.ref o), .val (.ref s), .unset, .unset, .unset, .unset, .unset] [] := by
  refine own_aloadN (pc' := 1) d5_0 rfl rfl ?_
  refine own_getF (pc' := 4) (hw _ (List.mem_of_getElem? (i := 23) rfl)) F_c d5_1 rfl ?_
  refine own_newarr (pc' := 6) (ty := .boolean) (cap := 7) (hw _ (List.mem_of_getElem? (i := 30) rfl)) rfl d5_4 rfl hc hc7 (by decide) (by decide) (by decide) (fun h23 r gt_r lt_r E24 A_r => ?_)
  have ge_r : n0 ≤ r := Nat.le_trans hn0 gt_r
  have ne_o_r : o ≠ r := Nat.ne_of_lt (by have q := Nat.lt_of_lt_of_le F_c.lt (Nat.le_refl _); omega)
  have ne_s_r : s ≠ r := Nat.ne_of_lt (by have q := Nat.lt_of_lt_of_le A_s.lt (Nat.le_refl _); omega)
  replace F_c := F_c.ext E24
  replace A_s := A_s.ext E24
  replace hn0 : n0 ≤ h23.size := Nat.le_trans hn0 E24.1
  replace A_r : own_A Z h23 r .boolean (own_pl c []) := A_r.cast rfl
  refine own_astoreN (pc' := 7) (Ls' := #[.val (.ref o), .val (.ref s), .val (.ref r), .unset, .unset, .unset, .unset]) d5_6 rfl rfl ?_
  refine own_aloadN (pc' := 8) d5_7 rfl rfl ?_
  refine own_astoreN (pc' := 9) (Ls' := #[.val (.ref o), .val (.ref s), .val (.ref r), .val (.ref s), .unset, .unset, .unset]) d5_8 rfl rfl ?_
  refine own_aloadN (pc' := 10) d5_9 rfl rfl ?_
  refine own_len (pc' := 11) (n := (3 : Int32)) A_s rfl d5_10 rfl ?_
  refine own_istore (pc' := 13) (Ls' := #[.val (.ref o), .val (.ref s), .val (.ref r), .val (.ref s), .val (.int (3 : Int32)), .unset, .unset]) d5_11 rfl rfl ?_
  refine own_iconst (0 : Int32) (pc' := 14) d5_13 rfl rfl ?_
  refine own_istore (pc' := 16) (Ls' := #[.val (.ref o), .val (.ref s), .val (.ref r), .val (.ref s), .val (.int (3 : Int32)), .val (.int (0 : Int32)), .unset]) d5_14 rfl rfl ?_
  refine own_iload (pc' := 18) d5_16 rfl rfl ?_
  refine own_iload (pc' := 20) d5_18 rfl rfl ?_
  refine own_ic_ge_f (pc' := 23) d5_20 (by decide) rfl ?_
  refine own_aloadN (pc' := 24) d5_23 rfl rfl ?_
  refine own_iload (pc' := 26) d5_24 rfl rfl ?_
  refine own_iaload (pc' := 27) (v := .int k0) A_s (by decide) rfl d5_26 rfl ?_
  refine own_istore (pc' := 29) (Ls' := #[.val (.ref o), .val (.ref s), .val (.ref r), .val (.ref s), .val (.int (3 : Int32)), .val (.int (0 : Int32)), .val (.int k0)]) d5_27 rfl rfl ?_
  refine own_aloadN (pc' := 30) d5_29 rfl rfl ?_
  refine own_iload (pc' := 32) d5_30 rfl rfl ?_
  refine own_iconst (1 : Int32) (pc' := 33) d5_32 rfl rfl ?_
  refine own_zastore (pc' := 34) A_r p0 (by rw [own_pl_l]; exact own_clt p0 q0) ge_r d5_33 rfl (fun h25 K26 A_new => ?_)
  replace F_c := F_c.keep K26 (ninS ne_o_r nin0)
  replace A_s := A_s.keep K26 (ninS ne_s_r nin0)
  replace hn0 : n0 ≤ h25.size := Nat.le_trans hn0 K26.1
  replace A_r := A_new
  replace A_r : own_A Z h25 r .boolean (own_pl c [k0]) := A_r.cast rfl
  refine own_iinc (pc' := 37) (w := (1 : Int32)) (Ls' := #[.val (.ref o), .val (.ref s), .val (.ref r), .val (.ref s), .val (.int (3 : Int32)), .val (.int ((0 : Int32) + (1 : Int32))), .val (.int k0)]) d5_34 rfl rfl rfl rfl ?_
  rw [show ((0 : Int32) + (1 : Int32)) = (1 : Int32) from (by decide)]
  refine own_goto (pc' := 16) d5_37 (by decide) (by decide) ?_
  refine own_iload (pc' := 18) d5_16 rfl rfl ?_
  refine own_iload (pc' := 20) d5_18 rfl rfl ?_
  refine own_ic_ge_f (pc' := 23) d5_20 (by decide) rfl ?_
  refine own_aloadN (pc' := 24) d5_23 rfl rfl ?_
  refine own_iload (pc' := 26) d5_24 rfl rfl ?_
  refine own_iaload (pc' := 27) (v := .int k1) A_s (by decide) rfl d5_26 rfl ?_
  refine own_istore (pc' := 29) (Ls' := #[.val (.ref o), .val (.ref s), .val (.ref r), .val (.ref s), .val (.int (3 : Int32)), .val (.int (1 : Int32)), .val (.int k1)]) d5_27 rfl rfl ?_
  refine own_aloadN (pc' := 30) d5_29 rfl rfl ?_
  refine own_iload (pc' := 32) d5_30 rfl rfl ?_
  refine own_iconst (1 : Int32) (pc' := 33) d5_32 rfl rfl ?_
  refine own_zastore (pc' := 34) A_r p1 (by rw [own_pl_l]; exact own_clt p1 q1) ge_r d5_33 rfl (fun h27 K28 A_new => ?_)
  replace F_c := F_c.keep K28 (ninS ne_o_r nin0)
  replace A_s := A_s.keep K28 (ninS ne_s_r nin0)
  replace hn0 : n0 ≤ h27.size := Nat.le_trans hn0 K28.1
  replace A_r := A_new
  replace A_r : own_A Z h27 r .boolean (own_pl c [k0, k1]) := A_r.cast rfl
  refine own_iinc (pc' := 37) (w := (1 : Int32)) (Ls' := #[.val (.ref o), .val (.ref s), .val (.ref r), .val (.ref s), .val (.int (3 : Int32)), .val (.int ((1 : Int32) + (1 : Int32))), .val (.int k1)]) d5_34 rfl rfl rfl rfl ?_
  rw [show ((1 : Int32) + (1 : Int32)) = (2 : Int32) from (by decide)]
  refine own_goto (pc' := 16) d5_37 (by decide) (by decide) ?_
  refine own_iload (pc' := 18) d5_16 rfl rfl ?_
  refine own_iload (pc' := 20) d5_18 rfl rfl ?_
  refine own_ic_ge_f (pc' := 23) d5_20 (by decide) rfl ?_
  refine own_aloadN (pc' := 24) d5_23 rfl rfl ?_
  refine own_iload (pc' := 26) d5_24 rfl rfl ?_
  refine own_iaload (pc' := 27) (v := .int k2) A_s (by decide) rfl d5_26 rfl ?_
  refine own_istore (pc' := 29) (Ls' := #[.val (.ref o), .val (.ref s), .val (.ref r), .val (.ref s), .val (.int (3 : Int32)), .val (.int (2 : Int32)), .val (.int k2)]) d5_27 rfl rfl ?_
  refine own_aloadN (pc' := 30) d5_29 rfl rfl ?_
  refine own_iload (pc' := 32) d5_30 rfl rfl ?_
  refine own_iconst (1 : Int32) (pc' := 33) d5_32 rfl rfl ?_
  refine own_zastore (pc' := 34) A_r p2 (by rw [own_pl_l]; exact own_clt p2 q2) ge_r d5_33 rfl (fun h29 K30 A_new => ?_)
  replace F_c := F_c.keep K30 (ninS ne_o_r nin0)
  replace A_s := A_s.keep K30 (ninS ne_s_r nin0)
  replace hn0 : n0 ≤ h29.size := Nat.le_trans hn0 K30.1
  replace A_r := A_new
  replace A_r : own_A Z h29 r .boolean (own_pl c [k0, k1, k2]) := A_r.cast rfl
  refine own_iinc (pc' := 37) (w := (1 : Int32)) (Ls' := #[.val (.ref o), .val (.ref s), .val (.ref r), .val (.ref s), .val (.int (3 : Int32)), .val (.int ((2 : Int32) + (1 : Int32))), .val (.int k2)]) d5_34 rfl rfl rfl rfl ?_
  rw [show ((2 : Int32) + (1 : Int32)) = (3 : Int32) from (by decide)]
  refine own_goto (pc' := 16) d5_37 (by decide) (by decide) ?_
  refine own_iload (pc' := 18) d5_16 rfl rfl ?_
  refine own_iload (pc' := 20) d5_18 rfl rfl ?_
  refine own_ic_ge_t (pc' := 40) d5_20 (by decide) (by decide) (by decide) ?_
  refine own_aloadN (pc' := 41) d5_40 rfl rfl ?_
  exact own_aret rfl rfl rfl d5_41 ⟨r, rfl, gt_r, (((((Keep.refl h0 []).ext E24).trans K26 (allS (Or.inr gt_r) all0)).trans K28 (allS (Or.inr gt_r) all0)).trans K30 (allS (Or.inr gt_r) all0)), A_r⟩
set_option maxRecDepth 65536 in
set_option maxHeartbeats 40000000 in
theorem own_law0 (l : Launch) (Z : State) (a0 : Array Value) (hw : ∀ d ∈ tables_1, d.before a0 Z = true) (x0 x1 x2 x3 x4 x5 c ka kb kd : Int32) (s : Addr) (h0 : Heap) (n0 : Nat) (hn0 : n0 ≤ h0.size) (hc : ¬ c < 0) (hc7 : c.toNatClampNeg ≤ 7) (A_s : own_A Z h0 s .int []) :
    own_W l Z x code maxLocals ret room_1 n0 (fun v h => v = some (.int 1)) h0 1 3 121 #[.val (.int x0), .val (.int x1), .val (.int x2), .val (.int x3), .val (.int x4), .val (.int x5), .val (.int c), .val (.int (0 : Int32)), .val (.int ka), .val (.int kb), .val (.int kd), .val (.ref s), .unset, .unset, .unset, .unset] [] := by
  refine own_new (pc' := 124) (hw _ (List.mem_of_getElem? (i := 5) rfl)) (hw _ (List.mem_of_getElem? (i := 6) rfl)) (hw _ (List.mem_of_getElem? (i := 7) rfl)) at_121 rfl (by decide) (by decide) (fun h31 o gt_o lt_o E32 E_o D_o => ?_)
  have ge_o : n0 ≤ o := Nat.le_trans hn0 gt_o
  have ne_s_o : s ≠ o := Nat.ne_of_lt (by have q := Nat.lt_of_lt_of_le A_s.lt (Nat.le_refl _); omega)
  replace A_s := A_s.ext E32
  replace hn0 : n0 ≤ h31.size := Nat.le_trans hn0 E32.1
  have F_o_old : Fld Z h31 o "com/example/tumbleweave/tumbleweave/diff/Kinds" "old" "[I" (.null) := D_o (Or.inr (hw _ (List.mem_of_getElem? (i := 20) rfl))) (ty := (.array .int)) (by decide)
  have F_o_now : Fld Z h31 o "com/example/tumbleweave/tumbleweave/diff/Kinds" "now" "[I" (.null) := D_o (Or.inr (hw _ (List.mem_of_getElem? (i := 22) rfl))) (ty := (.array .int)) (by decide)
  have F_o_count : Fld Z h31 o "com/example/tumbleweave/tumbleweave/diff/Kinds" "count" "I" (.int (0 : Int32)) := D_o (Or.inr (hw _ (List.mem_of_getElem? (i := 24) rfl))) (ty := .int) (by decide)
  refine own_dup (pc' := 125) at_124 rfl rfl ?_
  refine own_iconst (0 : Int32) (pc' := 126) at_125 rfl rfl ?_
  refine own_newarr (pc' := 128) (ty := .int) (cap := 0) (hw _ (List.mem_of_getElem? (i := 4) rfl)) rfl at_126 rfl (by decide) (by decide) (by decide) (by decide) (by decide) (fun h33 u gt_u lt_u E34 A_u => ?_)
  have ge_u : n0 ≤ u := Nat.le_trans hn0 gt_u
  have ne_o_u : o ≠ u := Nat.ne_of_lt (by have q := Nat.lt_of_lt_of_le E_o.lt (Nat.le_refl _); omega)
  have ne_s_u : s ≠ u := Nat.ne_of_lt (by have q := Nat.lt_of_lt_of_le A_s.lt (Nat.le_refl _); omega)
  replace A_s := A_s.ext E34
  replace E_o := E_o.ext E34
  replace F_o_old := F_o_old.ext E34
  replace F_o_now := F_o_now.ext E34
  replace F_o_count := F_o_count.ext E34
  replace hn0 : n0 ≤ h33.size := Nat.le_trans hn0 E34.1
  replace A_u : own_A Z h33 u .int [] := A_u.cast rfl
  refine own_iconst (0 : Int32) (pc' := 129) at_128 rfl rfl ?_
  refine own_newarr (pc' := 131) (ty := .int) (cap := 0) (hw _ (List.mem_of_getElem? (i := 4) rfl)) rfl at_129 rfl (by decide) (by decide) (by decide) (by decide) (by decide) (fun h35 w gt_w lt_w E36 A_w => ?_)
  have ge_w : n0 ≤ w := Nat.le_trans hn0 gt_w
  have ne_o_w : o ≠ w := Nat.ne_of_lt (by have q := Nat.lt_of_lt_of_le E_o.lt (Nat.le_refl _); omega)
  have ne_s_w : s ≠ w := Nat.ne_of_lt (by have q := Nat.lt_of_lt_of_le A_s.lt (Nat.le_refl _); omega)
  have ne_u_w : u ≠ w := Nat.ne_of_lt (by have q := Nat.lt_of_lt_of_le A_u.lt (Nat.le_refl _); omega)
  replace A_s := A_s.ext E36
  replace E_o := E_o.ext E36
  replace F_o_old := F_o_old.ext E36
  replace F_o_now := F_o_now.ext E36
  replace F_o_count := F_o_count.ext E36
  replace A_u := A_u.ext E36
  replace hn0 : n0 ≤ h35.size := Nat.le_trans hn0 E36.1
  replace A_w : own_A Z h35 w .int [] := A_w.cast rfl
  refine own_iload (pc' := 133) at_131 rfl rfl ?_
  refine own_special (ret' := none) (own_mk l Z a0 hw o u w c h35 n0 hn0 ge_o E_o F_o_old F_o_now F_o_count) (hw _ (List.mem_of_getElem? (i := 8) rfl)) (hw _ (List.mem_of_getElem? (i := 9) rfl)) (hw _ (List.mem_of_getElem? (i := 7) rfl)) (hw _ (List.mem_of_getElem? (i := 10) rfl)) rfl (plainFor_of_name own_pn1) (by decide) own_pd2 rfl (argsL := [.ref u, .ref w, .int c]) (rest := [.ref o]) rfl rfl (W := 1) (Nat.le_refl _) (by decide) (by decide) (by decide) (by decide) rfl at_133 (pc' := 136) rfl (fun v_ h37 hq => ?_)
  obtain ⟨rfl, K_1, E_1, F_1⟩ := hq
  show own_W l Z x code maxLocals ret room_1 n0 (fun v h => v = some (.int 1)) h37 4 6 136 #[.val (.int x0), .val (.int x1), .val (.int x2), .val (.int x3), .val (.int x4), .val (.int x5), .val (.int c), .val (.int (0 : Int32)), .val (.int ka), .val (.int kb), .val (.int kd), .val (.ref s), .unset, .unset, .unset, .unset] [.ref o]
  replace A_s := A_s.keep K_1 (ninS ne_s_o nin0)
  replace E_o := E_1
  clear F_o_old
  clear F_o_now
  replace F_o_count := F_1
  replace A_u := A_u.keep K_1 (ninS (Ne.symm ne_o_u) nin0)
  replace A_w := A_w.keep K_1 (ninS (Ne.symm ne_o_w) nin0)
  replace hn0 : n0 ≤ h37.size := Nat.le_trans hn0 K_1.1
  refine own_astore (pc' := 138) (Ls' := #[.val (.int x0), .val (.int x1), .val (.int x2), .val (.int x3), .val (.int x4), .val (.int x5), .val (.int c), .val (.int (0 : Int32)), .val (.int ka), .val (.int kb), .val (.int kd), .val (.ref s), .val (.ref o), .unset, .unset, .unset]) at_136 rfl rfl ?_
  refine own_aload (pc' := 140) at_138 rfl rfl ?_
  refine own_aload (pc' := 142) at_140 rfl rfl ?_
  refine own_virtual (own_pres0 l Z a0 hw o s c  h37 n0 hn0 hc hc7 F_o_count A_s) E_o (hw _ (List.mem_of_getElem? (i := 25) rfl)) (hw _ (List.mem_of_getElem? (i := 26) rfl)) (hw _ (List.mem_of_getElem? (i := 28) rfl)) (hw _ (List.mem_of_getElem? (i := 27) rfl)) (hw _ (List.mem_of_getElem? (i := 7) rfl)) (hw _ (List.mem_of_getElem? (i := 29) rfl)) (plainFor_of_name own_pn1) (by decide) own_pd4 rfl (argsL := [.ref s]) (rest := []) rfl rfl (W := 0) (Nat.le_refl _) (by decide) (by decide) (by decide) (by decide) rfl at_142 (pc' := 145) rfl (fun v_ h38 hq => ?_)
  obtain ⟨r, rfl, gt_r, K_2, A_r⟩ := hq
  show own_W l Z x code maxLocals ret room_1 n0 (fun v h => v = some (.int 1)) h38 5 13 145 #[.val (.int x0), .val (.int x1), .val (.int x2), .val (.int x3), .val (.int x4), .val (.int x5), .val (.int c), .val (.int (0 : Int32)), .val (.int ka), .val (.int kb), .val (.int kd), .val (.ref s), .val (.ref o), .unset, .unset, .unset] [.ref r]
  replace hn0 : n0 ≤ h38.size := Nat.le_trans hn0 K_2.1
  refine own_astore (pc' := 147) (Ls' := #[.val (.int x0), .val (.int x1), .val (.int x2), .val (.int x3), .val (.int x4), .val (.int x5), .val (.int c), .val (.int (0 : Int32)), .val (.int ka), .val (.int kb), .val (.int kd), .val (.ref s), .val (.ref o), .val (.ref r), .unset, .unset]) at_145 rfl rfl ?_
  refine own_aload (pc' := 149) at_147 rfl rfl ?_
  refine own_ifnull_f (pc' := 152) at_149 rfl ?_
  refine own_aload (pc' := 154) at_152 rfl rfl ?_
  refine own_len (pc' := 155) (n := c) A_r (own_plen32 c hc _) at_154 rfl ?_
  refine own_iload (pc' := 157) at_155 rfl rfl ?_
  refine own_ic_eq_t (pc' := 162) at_157 rfl (by decide) (by decide) ?_
  refine own_iload (pc' := 164) at_162 rfl rfl ?_
  refine own_if_ne (pc' := 169) (pf := 167) at_164 (by decide) (by decide) rfl (fun h_164 => ?_) (fun h_164 => ?_)
  · have hcp : 0 < c := by rw [Int32.lt_iff_toInt_lt] at hc ⊢; rw [← Int32.toInt_inj] at h_164; have z : (0 : Int32).toInt = 0 := rfl; omega
    refine own_iload (pc' := 171) at_169 rfl rfl ?_
    refine own_iload (pc' := 173) at_171 rfl rfl ?_
    refine own_static (own_idxW l Z a0 hw x5 c h38 n0 hn0) (hw _ (List.mem_of_getElem? (i := 0) rfl)) (hw _ (List.mem_of_getElem? (i := 1) rfl)) (hw _ (List.mem_of_getElem? (i := 2) rfl)) (hw _ (List.mem_of_getElem? (i := 3) rfl)) (plainFor_of_name own_pn0) (by decide) own_pd1 rfl (argsL := [.int x5, .int c]) (rest := []) rfl rfl (W := 0) (Nat.le_refl _) (by decide) (by decide) (by decide) (by decide) rfl at_173 (pc' := 176) rfl (fun v_ h39 hq => ?_)
    obtain ⟨rfl, rfl⟩ := hq
    show own_W l Z x code maxLocals ret room_1 n0 (fun v h => v = some (.int 1)) h38 5 13 176 #[.val (.int x0), .val (.int x1), .val (.int x2), .val (.int x3), .val (.int x4), .val (.int x5), .val (.int c), .val (.int (0 : Int32)), .val (.int ka), .val (.int kb), .val (.int kd), .val (.ref s), .val (.ref o), .val (.ref r), .unset, .unset] [.int (own_idx x5 c)]
    have hq := own_idx_ok x5 c hcp
    generalize hq_ : (own_idx x5 c) = q
    rw [hq_] at hq
    refine own_istore (pc' := 178) (Ls' := #[.val (.int x0), .val (.int x1), .val (.int x2), .val (.int x3), .val (.int x4), .val (.int x5), .val (.int c), .val (.int (0 : Int32)), .val (.int ka), .val (.int kb), .val (.int kd), .val (.ref s), .val (.ref o), .val (.ref r), .val (.int q), .unset]) at_176 rfl rfl ?_
    refine own_iload (pc' := 180) at_178 rfl rfl ?_
    refine own_iconst (1 : Int32) (pc' := 181) at_180 rfl rfl ?_
    refine own_ic_lt_t (pc' := 191) at_181 (by decide) (by decide) (by decide) ?_
    refine own_iload (pc' := 193) at_191 rfl rfl ?_
    refine own_iconst (2 : Int32) (pc' := 194) at_193 rfl rfl ?_
    refine own_ic_lt_t (pc' := 204) at_194 (by decide) (by decide) (by decide) ?_
    refine own_iload (pc' := 206) at_204 rfl rfl ?_
    refine own_iconst (3 : Int32) (pc' := 207) at_206 rfl rfl ?_
    refine own_ic_lt_t (pc' := 221) at_207 (by decide) (by decide) (by decide) ?_
    refine own_iconst (0 : Int32) (pc' := 222) at_221 rfl rfl ?_
    refine own_istore (pc' := 224) (Ls' := #[.val (.int x0), .val (.int x1), .val (.int x2), .val (.int x3), .val (.int x4), .val (.int x5), .val (.int c), .val (.int (0 : Int32)), .val (.int ka), .val (.int kb), .val (.int kd), .val (.ref s), .val (.ref o), .val (.ref r), .val (.int q), .val (.int (0 : Int32))]) at_222 rfl rfl ?_
    refine own_aload (pc' := 226) at_224 rfl rfl ?_
    refine own_iload (pc' := 228) at_226 rfl rfl ?_
    refine own_zaload (pc' := 229) (v := .int (if q ∈ [] then (1 : Int32) else 0)) A_r hq.1 (own_pl_at c q _ hq.1 hq.2 (by intro k hk; simp only [List.mem_cons, List.not_mem_nil, or_false] at hk)) at_228 rfl ?_
    refine own_iload (pc' := 231) at_229 rfl rfl ?_
    refine own_ic_ne_f (pc' := 234) at_231 (by simp [*]) rfl ?_
    refine own_iconst (1 : Int32) (pc' := 235) at_234 rfl rfl ?_
    refine own_goto (pc' := 239) at_235 (by decide) (by decide) ?_
    exact own_bret (v := (1 : Int32)) rfl (by first | rfl | decide | assumption) at_239 rfl
  · refine own_iconst (1 : Int32) (pc' := 168) at_167 rfl rfl ?_
    exact own_bret (v := (1 : Int32)) rfl (by first | rfl | decide | assumption) at_168 rfl
set_option maxRecDepth 65536 in
set_option maxHeartbeats 40000000 in
theorem own_law1 (l : Launch) (Z : State) (a0 : Array Value) (hw : ∀ d ∈ tables_1, d.before a0 Z = true) (x0 x1 x2 x3 x4 x5 c ka kb kd : Int32) (s : Addr) (h0 : Heap) (n0 : Nat) (hn0 : n0 ≤ h0.size) (hc : ¬ c < 0) (hc7 : c.toNatClampNeg ≤ 7) (A_s : own_A Z h0 s .int [.int ka]) (p0 : ¬ ka < 0) (q0 : ka < c) :
    own_W l Z x code maxLocals ret room_1 n0 (fun v h => v = some (.int 1)) h0 1 3 121 #[.val (.int x0), .val (.int x1), .val (.int x2), .val (.int x3), .val (.int x4), .val (.int x5), .val (.int c), .val (.int (1 : Int32)), .val (.int ka), .val (.int kb), .val (.int kd), .val (.ref s), .unset, .unset, .unset, .unset] [] := by
  refine own_new (pc' := 124) (hw _ (List.mem_of_getElem? (i := 5) rfl)) (hw _ (List.mem_of_getElem? (i := 6) rfl)) (hw _ (List.mem_of_getElem? (i := 7) rfl)) at_121 rfl (by decide) (by decide) (fun h40 o gt_o lt_o E41 E_o D_o => ?_)
  have ge_o : n0 ≤ o := Nat.le_trans hn0 gt_o
  have ne_s_o : s ≠ o := Nat.ne_of_lt (by have q := Nat.lt_of_lt_of_le A_s.lt (Nat.le_refl _); omega)
  replace A_s := A_s.ext E41
  replace hn0 : n0 ≤ h40.size := Nat.le_trans hn0 E41.1
  have F_o_old : Fld Z h40 o "com/example/tumbleweave/tumbleweave/diff/Kinds" "old" "[I" (.null) := D_o (Or.inr (hw _ (List.mem_of_getElem? (i := 20) rfl))) (ty := (.array .int)) (by decide)
  have F_o_now : Fld Z h40 o "com/example/tumbleweave/tumbleweave/diff/Kinds" "now" "[I" (.null) := D_o (Or.inr (hw _ (List.mem_of_getElem? (i := 22) rfl))) (ty := (.array .int)) (by decide)
  have F_o_count : Fld Z h40 o "com/example/tumbleweave/tumbleweave/diff/Kinds" "count" "I" (.int (0 : Int32)) := D_o (Or.inr (hw _ (List.mem_of_getElem? (i := 24) rfl))) (ty := .int) (by decide)
  refine own_dup (pc' := 125) at_124 rfl rfl ?_
  refine own_iconst (0 : Int32) (pc' := 126) at_125 rfl rfl ?_
  refine own_newarr (pc' := 128) (ty := .int) (cap := 0) (hw _ (List.mem_of_getElem? (i := 4) rfl)) rfl at_126 rfl (by decide) (by decide) (by decide) (by decide) (by decide) (fun h42 u gt_u lt_u E43 A_u => ?_)
  have ge_u : n0 ≤ u := Nat.le_trans hn0 gt_u
  have ne_o_u : o ≠ u := Nat.ne_of_lt (by have q := Nat.lt_of_lt_of_le E_o.lt (Nat.le_refl _); omega)
  have ne_s_u : s ≠ u := Nat.ne_of_lt (by have q := Nat.lt_of_lt_of_le A_s.lt (Nat.le_refl _); omega)
  replace A_s := A_s.ext E43
  replace E_o := E_o.ext E43
  replace F_o_old := F_o_old.ext E43
  replace F_o_now := F_o_now.ext E43
  replace F_o_count := F_o_count.ext E43
  replace hn0 : n0 ≤ h42.size := Nat.le_trans hn0 E43.1
  replace A_u : own_A Z h42 u .int [] := A_u.cast rfl
  refine own_iconst (0 : Int32) (pc' := 129) at_128 rfl rfl ?_
  refine own_newarr (pc' := 131) (ty := .int) (cap := 0) (hw _ (List.mem_of_getElem? (i := 4) rfl)) rfl at_129 rfl (by decide) (by decide) (by decide) (by decide) (by decide) (fun h44 w gt_w lt_w E45 A_w => ?_)
  have ge_w : n0 ≤ w := Nat.le_trans hn0 gt_w
  have ne_o_w : o ≠ w := Nat.ne_of_lt (by have q := Nat.lt_of_lt_of_le E_o.lt (Nat.le_refl _); omega)
  have ne_s_w : s ≠ w := Nat.ne_of_lt (by have q := Nat.lt_of_lt_of_le A_s.lt (Nat.le_refl _); omega)
  have ne_u_w : u ≠ w := Nat.ne_of_lt (by have q := Nat.lt_of_lt_of_le A_u.lt (Nat.le_refl _); omega)
  replace A_s := A_s.ext E45
  replace E_o := E_o.ext E45
  replace F_o_old := F_o_old.ext E45
  replace F_o_now := F_o_now.ext E45
  replace F_o_count := F_o_count.ext E45
  replace A_u := A_u.ext E45
  replace hn0 : n0 ≤ h44.size := Nat.le_trans hn0 E45.1
  replace A_w : own_A Z h44 w .int [] := A_w.cast rfl
  refine own_iload (pc' := 133) at_131 rfl rfl ?_
  refine own_special (ret' := none) (own_mk l Z a0 hw o u w c h44 n0 hn0 ge_o E_o F_o_old F_o_now F_o_count) (hw _ (List.mem_of_getElem? (i := 8) rfl)) (hw _ (List.mem_of_getElem? (i := 9) rfl)) (hw _ (List.mem_of_getElem? (i := 7) rfl)) (hw _ (List.mem_of_getElem? (i := 10) rfl)) rfl (plainFor_of_name own_pn1) (by decide) own_pd2 rfl (argsL := [.ref u, .ref w, .int c]) (rest := [.ref o]) rfl rfl (W := 1) (Nat.le_refl _) (by decide) (by decide) (by decide) (by decide) rfl at_133 (pc' := 136) rfl (fun v_ h46 hq => ?_)
  obtain ⟨rfl, K_1, E_1, F_1⟩ := hq
  show own_W l Z x code maxLocals ret room_1 n0 (fun v h => v = some (.int 1)) h46 4 6 136 #[.val (.int x0), .val (.int x1), .val (.int x2), .val (.int x3), .val (.int x4), .val (.int x5), .val (.int c), .val (.int (1 : Int32)), .val (.int ka), .val (.int kb), .val (.int kd), .val (.ref s), .unset, .unset, .unset, .unset] [.ref o]
  replace A_s := A_s.keep K_1 (ninS ne_s_o nin0)
  replace E_o := E_1
  clear F_o_old
  clear F_o_now
  replace F_o_count := F_1
  replace A_u := A_u.keep K_1 (ninS (Ne.symm ne_o_u) nin0)
  replace A_w := A_w.keep K_1 (ninS (Ne.symm ne_o_w) nin0)
  replace hn0 : n0 ≤ h46.size := Nat.le_trans hn0 K_1.1
  refine own_astore (pc' := 138) (Ls' := #[.val (.int x0), .val (.int x1), .val (.int x2), .val (.int x3), .val (.int x4), .val (.int x5), .val (.int c), .val (.int (1 : Int32)), .val (.int ka), .val (.int kb), .val (.int kd), .val (.ref s), .val (.ref o), .unset, .unset, .unset]) at_136 rfl rfl ?_
  refine own_aload (pc' := 140) at_138 rfl rfl ?_
  refine own_aload (pc' := 142) at_140 rfl rfl ?_
  refine own_virtual (own_pres1 l Z a0 hw o s c ka h46 n0 hn0 hc hc7 F_o_count A_s p0 q0) E_o (hw _ (List.mem_of_getElem? (i := 25) rfl)) (hw _ (List.mem_of_getElem? (i := 26) rfl)) (hw _ (List.mem_of_getElem? (i := 28) rfl)) (hw _ (List.mem_of_getElem? (i := 27) rfl)) (hw _ (List.mem_of_getElem? (i := 7) rfl)) (hw _ (List.mem_of_getElem? (i := 29) rfl)) (plainFor_of_name own_pn1) (by decide) own_pd4 rfl (argsL := [.ref s]) (rest := []) rfl rfl (W := 0) (Nat.le_refl _) (by decide) (by decide) (by decide) (by decide) rfl at_142 (pc' := 145) rfl (fun v_ h47 hq => ?_)
  obtain ⟨r, rfl, gt_r, K_2, A_r⟩ := hq
  show own_W l Z x code maxLocals ret room_1 n0 (fun v h => v = some (.int 1)) h47 5 13 145 #[.val (.int x0), .val (.int x1), .val (.int x2), .val (.int x3), .val (.int x4), .val (.int x5), .val (.int c), .val (.int (1 : Int32)), .val (.int ka), .val (.int kb), .val (.int kd), .val (.ref s), .val (.ref o), .unset, .unset, .unset] [.ref r]
  replace hn0 : n0 ≤ h47.size := Nat.le_trans hn0 K_2.1
  refine own_astore (pc' := 147) (Ls' := #[.val (.int x0), .val (.int x1), .val (.int x2), .val (.int x3), .val (.int x4), .val (.int x5), .val (.int c), .val (.int (1 : Int32)), .val (.int ka), .val (.int kb), .val (.int kd), .val (.ref s), .val (.ref o), .val (.ref r), .unset, .unset]) at_145 rfl rfl ?_
  refine own_aload (pc' := 149) at_147 rfl rfl ?_
  refine own_ifnull_f (pc' := 152) at_149 rfl ?_
  refine own_aload (pc' := 154) at_152 rfl rfl ?_
  refine own_len (pc' := 155) (n := c) A_r (own_plen32 c hc _) at_154 rfl ?_
  refine own_iload (pc' := 157) at_155 rfl rfl ?_
  refine own_ic_eq_t (pc' := 162) at_157 rfl (by decide) (by decide) ?_
  refine own_iload (pc' := 164) at_162 rfl rfl ?_
  refine own_if_ne (pc' := 169) (pf := 167) at_164 (by decide) (by decide) rfl (fun h_164 => ?_) (fun h_164 => ?_)
  · have hcp : 0 < c := by rw [Int32.lt_iff_toInt_lt] at hc ⊢; rw [← Int32.toInt_inj] at h_164; have z : (0 : Int32).toInt = 0 := rfl; omega
    refine own_iload (pc' := 171) at_169 rfl rfl ?_
    refine own_iload (pc' := 173) at_171 rfl rfl ?_
    refine own_static (own_idxW l Z a0 hw x5 c h47 n0 hn0) (hw _ (List.mem_of_getElem? (i := 0) rfl)) (hw _ (List.mem_of_getElem? (i := 1) rfl)) (hw _ (List.mem_of_getElem? (i := 2) rfl)) (hw _ (List.mem_of_getElem? (i := 3) rfl)) (plainFor_of_name own_pn0) (by decide) own_pd1 rfl (argsL := [.int x5, .int c]) (rest := []) rfl rfl (W := 0) (Nat.le_refl _) (by decide) (by decide) (by decide) (by decide) rfl at_173 (pc' := 176) rfl (fun v_ h48 hq => ?_)
    obtain ⟨rfl, rfl⟩ := hq
    show own_W l Z x code maxLocals ret room_1 n0 (fun v h => v = some (.int 1)) h47 5 13 176 #[.val (.int x0), .val (.int x1), .val (.int x2), .val (.int x3), .val (.int x4), .val (.int x5), .val (.int c), .val (.int (1 : Int32)), .val (.int ka), .val (.int kb), .val (.int kd), .val (.ref s), .val (.ref o), .val (.ref r), .unset, .unset] [.int (own_idx x5 c)]
    have hq := own_idx_ok x5 c hcp
    generalize hq_ : (own_idx x5 c) = q
    rw [hq_] at hq
    refine own_istore (pc' := 178) (Ls' := #[.val (.int x0), .val (.int x1), .val (.int x2), .val (.int x3), .val (.int x4), .val (.int x5), .val (.int c), .val (.int (1 : Int32)), .val (.int ka), .val (.int kb), .val (.int kd), .val (.ref s), .val (.ref o), .val (.ref r), .val (.int q), .unset]) at_176 rfl rfl ?_
    refine own_iload (pc' := 180) at_178 rfl rfl ?_
    refine own_iconst (1 : Int32) (pc' := 181) at_180 rfl rfl ?_
    refine own_ic_lt_f (pc' := 184) at_181 (by decide) rfl ?_
    refine own_iload (pc' := 186) at_184 rfl rfl ?_
    refine own_iload (pc' := 188) at_186 rfl rfl ?_
    refine own_ic_eq (pc' := 217) (pf := 191) at_188 (by decide) (by decide) rfl (fun h_188 => ?_) (fun h_188 => ?_)
    · refine own_iconst (1 : Int32) (pc' := 218) at_217 rfl rfl ?_
      refine own_goto (pc' := 222) at_218 (by decide) (by decide) ?_
      refine own_istore (pc' := 224) (Ls' := #[.val (.int x0), .val (.int x1), .val (.int x2), .val (.int x3), .val (.int x4), .val (.int x5), .val (.int c), .val (.int (1 : Int32)), .val (.int ka), .val (.int kb), .val (.int kd), .val (.ref s), .val (.ref o), .val (.ref r), .val (.int q), .val (.int (1 : Int32))]) at_222 rfl rfl ?_
      refine own_aload (pc' := 226) at_224 rfl rfl ?_
      refine own_iload (pc' := 228) at_226 rfl rfl ?_
      refine own_zaload (pc' := 229) (v := .int (if q ∈ [ka] then (1 : Int32) else 0)) A_r hq.1 (own_pl_at c q _ hq.1 hq.2 (by intro k hk; simp only [List.mem_cons, List.not_mem_nil, or_false] at hk; rcases hk with rfl <;> assumption)) at_228 rfl ?_
      refine own_iload (pc' := 231) at_229 rfl rfl ?_
      refine own_ic_ne_f (pc' := 234) at_231 (by simp [*]) rfl ?_
      refine own_iconst (1 : Int32) (pc' := 235) at_234 rfl rfl ?_
      refine own_goto (pc' := 239) at_235 (by decide) (by decide) ?_
      exact own_bret (v := (1 : Int32)) rfl (by first | rfl | decide | assumption) at_239 rfl
    · refine own_iload (pc' := 193) at_191 rfl rfl ?_
      refine own_iconst (2 : Int32) (pc' := 194) at_193 rfl rfl ?_
      refine own_ic_lt_t (pc' := 204) at_194 (by decide) (by decide) (by decide) ?_
      refine own_iload (pc' := 206) at_204 rfl rfl ?_
      refine own_iconst (3 : Int32) (pc' := 207) at_206 rfl rfl ?_
      refine own_ic_lt_t (pc' := 221) at_207 (by decide) (by decide) (by decide) ?_
      refine own_iconst (0 : Int32) (pc' := 222) at_221 rfl rfl ?_
      refine own_istore (pc' := 224) (Ls' := #[.val (.int x0), .val (.int x1), .val (.int x2), .val (.int x3), .val (.int x4), .val (.int x5), .val (.int c), .val (.int (1 : Int32)), .val (.int ka), .val (.int kb), .val (.int kd), .val (.ref s), .val (.ref o), .val (.ref r), .val (.int q), .val (.int (0 : Int32))]) at_222 rfl rfl ?_
      refine own_aload (pc' := 226) at_224 rfl rfl ?_
      refine own_iload (pc' := 228) at_226 rfl rfl ?_
      refine own_zaload (pc' := 229) (v := .int (if q ∈ [ka] then (1 : Int32) else 0)) A_r hq.1 (own_pl_at c q _ hq.1 hq.2 (by intro k hk; simp only [List.mem_cons, List.not_mem_nil, or_false] at hk; rcases hk with rfl <;> assumption)) at_228 rfl ?_
      refine own_iload (pc' := 231) at_229 rfl rfl ?_
      refine own_ic_ne_f (pc' := 234) at_231 (by simp [*]) rfl ?_
      refine own_iconst (1 : Int32) (pc' := 235) at_234 rfl rfl ?_
      refine own_goto (pc' := 239) at_235 (by decide) (by decide) ?_
      exact own_bret (v := (1 : Int32)) rfl (by first | rfl | decide | assumption) at_239 rfl
  · refine own_iconst (1 : Int32) (pc' := 168) at_167 rfl rfl ?_
    exact own_bret (v := (1 : Int32)) rfl (by first | rfl | decide | assumption) at_168 rfl
set_option maxRecDepth 65536 in
set_option maxHeartbeats 40000000 in
theorem own_law2 (l : Launch) (Z : State) (a0 : Array Value) (hw : ∀ d ∈ tables_1, d.before a0 Z = true) (x0 x1 x2 x3 x4 x5 c ka kb kd : Int32) (s : Addr) (h0 : Heap) (n0 : Nat) (hn0 : n0 ≤ h0.size) (hc : ¬ c < 0) (hc7 : c.toNatClampNeg ≤ 7) (A_s : own_A Z h0 s .int [.int ka, .int kb]) (p0 : ¬ ka < 0) (q0 : ka < c) (p1 : ¬ kb < 0) (q1 : kb < c) :
    own_W l Z x code maxLocals ret room_1 n0 (fun v h => v = some (.int 1)) h0 1 3 121 #[.val (.int x0), .val (.int x1), .val (.int x2), .val (.int x3), .val (.int x4), .val (.int x5), .val (.int c), .val (.int (2 : Int32)), .val (.int ka), .val (.int kb), .val (.int kd), .val (.ref s), .unset, .unset, .unset, .unset] [] := by
  refine own_new (pc' := 124) (hw _ (List.mem_of_getElem? (i := 5) rfl)) (hw _ (List.mem_of_getElem? (i := 6) rfl)) (hw _ (List.mem_of_getElem? (i := 7) rfl)) at_121 rfl (by decide) (by decide) (fun h49 o gt_o lt_o E50 E_o D_o => ?_)
  have ge_o : n0 ≤ o := Nat.le_trans hn0 gt_o
  have ne_s_o : s ≠ o := Nat.ne_of_lt (by have q := Nat.lt_of_lt_of_le A_s.lt (Nat.le_refl _); omega)
  replace A_s := A_s.ext E50
  replace hn0 : n0 ≤ h49.size := Nat.le_trans hn0 E50.1
  have F_o_old : Fld Z h49 o "com/example/tumbleweave/tumbleweave/diff/Kinds" "old" "[I" (.null) := D_o (Or.inr (hw _ (List.mem_of_getElem? (i := 20) rfl))) (ty := (.array .int)) (by decide)
  have F_o_now : Fld Z h49 o "com/example/tumbleweave/tumbleweave/diff/Kinds" "now" "[I" (.null) := D_o (Or.inr (hw _ (List.mem_of_getElem? (i := 22) rfl))) (ty := (.array .int)) (by decide)
  have F_o_count : Fld Z h49 o "com/example/tumbleweave/tumbleweave/diff/Kinds" "count" "I" (.int (0 : Int32)) := D_o (Or.inr (hw _ (List.mem_of_getElem? (i := 24) rfl))) (ty := .int) (by decide)
  refine own_dup (pc' := 125) at_124 rfl rfl ?_
  refine own_iconst (0 : Int32) (pc' := 126) at_125 rfl rfl ?_
  refine own_newarr (pc' := 128) (ty := .int) (cap := 0) (hw _ (List.mem_of_getElem? (i := 4) rfl)) rfl at_126 rfl (by decide) (by decide) (by decide) (by decide) (by decide) (fun h51 u gt_u lt_u E52 A_u => ?_)
  have ge_u : n0 ≤ u := Nat.le_trans hn0 gt_u
  have ne_o_u : o ≠ u := Nat.ne_of_lt (by have q := Nat.lt_of_lt_of_le E_o.lt (Nat.le_refl _); omega)
  have ne_s_u : s ≠ u := Nat.ne_of_lt (by have q := Nat.lt_of_lt_of_le A_s.lt (Nat.le_refl _); omega)
  replace A_s := A_s.ext E52
  replace E_o := E_o.ext E52
  replace F_o_old := F_o_old.ext E52
  replace F_o_now := F_o_now.ext E52
  replace F_o_count := F_o_count.ext E52
  replace hn0 : n0 ≤ h51.size := Nat.le_trans hn0 E52.1
  replace A_u : own_A Z h51 u .int [] := A_u.cast rfl
  refine own_iconst (0 : Int32) (pc' := 129) at_128 rfl rfl ?_
  refine own_newarr (pc' := 131) (ty := .int) (cap := 0) (hw _ (List.mem_of_getElem? (i := 4) rfl)) rfl at_129 rfl (by decide) (by decide) (by decide) (by decide) (by decide) (fun h53 w gt_w lt_w E54 A_w => ?_)
  have ge_w : n0 ≤ w := Nat.le_trans hn0 gt_w
  have ne_o_w : o ≠ w := Nat.ne_of_lt (by have q := Nat.lt_of_lt_of_le E_o.lt (Nat.le_refl _); omega)
  have ne_s_w : s ≠ w := Nat.ne_of_lt (by have q := Nat.lt_of_lt_of_le A_s.lt (Nat.le_refl _); omega)
  have ne_u_w : u ≠ w := Nat.ne_of_lt (by have q := Nat.lt_of_lt_of_le A_u.lt (Nat.le_refl _); omega)
  replace A_s := A_s.ext E54
  replace E_o := E_o.ext E54
  replace F_o_old := F_o_old.ext E54
  replace F_o_now := F_o_now.ext E54
  replace F_o_count := F_o_count.ext E54
  replace A_u := A_u.ext E54
  replace hn0 : n0 ≤ h53.size := Nat.le_trans hn0 E54.1
  replace A_w : own_A Z h53 w .int [] := A_w.cast rfl
  refine own_iload (pc' := 133) at_131 rfl rfl ?_
  refine own_special (ret' := none) (own_mk l Z a0 hw o u w c h53 n0 hn0 ge_o E_o F_o_old F_o_now F_o_count) (hw _ (List.mem_of_getElem? (i := 8) rfl)) (hw _ (List.mem_of_getElem? (i := 9) rfl)) (hw _ (List.mem_of_getElem? (i := 7) rfl)) (hw _ (List.mem_of_getElem? (i := 10) rfl)) rfl (plainFor_of_name own_pn1) (by decide) own_pd2 rfl (argsL := [.ref u, .ref w, .int c]) (rest := [.ref o]) rfl rfl (W := 1) (Nat.le_refl _) (by decide) (by decide) (by decide) (by decide) rfl at_133 (pc' := 136) rfl (fun v_ h55 hq => ?_)
  obtain ⟨rfl, K_1, E_1, F_1⟩ := hq
  show own_W l Z x code maxLocals ret room_1 n0 (fun v h => v = some (.int 1)) h55 4 6 136 #[.val (.int x0), .val (.int x1), .val (.int x2), .val (.int x3), .val (.int x4), .val (.int x5), .val (.int c), .val (.int (2 : Int32)), .val (.int ka), .val (.int kb), .val (.int kd), .val (.ref s), .unset, .unset, .unset, .unset] [.ref o]
  replace A_s := A_s.keep K_1 (ninS ne_s_o nin0)
  replace E_o := E_1
  clear F_o_old
  clear F_o_now
  replace F_o_count := F_1
  replace A_u := A_u.keep K_1 (ninS (Ne.symm ne_o_u) nin0)
  replace A_w := A_w.keep K_1 (ninS (Ne.symm ne_o_w) nin0)
  replace hn0 : n0 ≤ h55.size := Nat.le_trans hn0 K_1.1
  refine own_astore (pc' := 138) (Ls' := #[.val (.int x0), .val (.int x1), .val (.int x2), .val (.int x3), .val (.int x4), .val (.int x5), .val (.int c), .val (.int (2 : Int32)), .val (.int ka), .val (.int kb), .val (.int kd), .val (.ref s), .val (.ref o), .unset, .unset, .unset]) at_136 rfl rfl ?_
  refine own_aload (pc' := 140) at_138 rfl rfl ?_
  refine own_aload (pc' := 142) at_140 rfl rfl ?_
  refine own_virtual (own_pres2 l Z a0 hw o s c ka kb h55 n0 hn0 hc hc7 F_o_count A_s p0 q0 p1 q1) E_o (hw _ (List.mem_of_getElem? (i := 25) rfl)) (hw _ (List.mem_of_getElem? (i := 26) rfl)) (hw _ (List.mem_of_getElem? (i := 28) rfl)) (hw _ (List.mem_of_getElem? (i := 27) rfl)) (hw _ (List.mem_of_getElem? (i := 7) rfl)) (hw _ (List.mem_of_getElem? (i := 29) rfl)) (plainFor_of_name own_pn1) (by decide) own_pd4 rfl (argsL := [.ref s]) (rest := []) rfl rfl (W := 0) (Nat.le_refl _) (by decide) (by decide) (by decide) (by decide) rfl at_142 (pc' := 145) rfl (fun v_ h56 hq => ?_)
  obtain ⟨r, rfl, gt_r, K_2, A_r⟩ := hq
  show own_W l Z x code maxLocals ret room_1 n0 (fun v h => v = some (.int 1)) h56 5 13 145 #[.val (.int x0), .val (.int x1), .val (.int x2), .val (.int x3), .val (.int x4), .val (.int x5), .val (.int c), .val (.int (2 : Int32)), .val (.int ka), .val (.int kb), .val (.int kd), .val (.ref s), .val (.ref o), .unset, .unset, .unset] [.ref r]
  replace hn0 : n0 ≤ h56.size := Nat.le_trans hn0 K_2.1
  refine own_astore (pc' := 147) (Ls' := #[.val (.int x0), .val (.int x1), .val (.int x2), .val (.int x3), .val (.int x4), .val (.int x5), .val (.int c), .val (.int (2 : Int32)), .val (.int ka), .val (.int kb), .val (.int kd), .val (.ref s), .val (.ref o), .val (.ref r), .unset, .unset]) at_145 rfl rfl ?_
  refine own_aload (pc' := 149) at_147 rfl rfl ?_
  refine own_ifnull_f (pc' := 152) at_149 rfl ?_
  refine own_aload (pc' := 154) at_152 rfl rfl ?_
  refine own_len (pc' := 155) (n := c) A_r (own_plen32 c hc _) at_154 rfl ?_
  refine own_iload (pc' := 157) at_155 rfl rfl ?_
  refine own_ic_eq_t (pc' := 162) at_157 rfl (by decide) (by decide) ?_
  refine own_iload (pc' := 164) at_162 rfl rfl ?_
  refine own_if_ne (pc' := 169) (pf := 167) at_164 (by decide) (by decide) rfl (fun h_164 => ?_) (fun h_164 => ?_)
  · have hcp : 0 < c := by rw [Int32.lt_iff_toInt_lt] at hc ⊢; rw [← Int32.toInt_inj] at h_164; have z : (0 : Int32).toInt = 0 := rfl; omega
    refine own_iload (pc' := 171) at_169 rfl rfl ?_
    refine own_iload (pc' := 173) at_171 rfl rfl ?_
    refine own_static (own_idxW l Z a0 hw x5 c h56 n0 hn0) (hw _ (List.mem_of_getElem? (i := 0) rfl)) (hw _ (List.mem_of_getElem? (i := 1) rfl)) (hw _ (List.mem_of_getElem? (i := 2) rfl)) (hw _ (List.mem_of_getElem? (i := 3) rfl)) (plainFor_of_name own_pn0) (by decide) own_pd1 rfl (argsL := [.int x5, .int c]) (rest := []) rfl rfl (W := 0) (Nat.le_refl _) (by decide) (by decide) (by decide) (by decide) rfl at_173 (pc' := 176) rfl (fun v_ h57 hq => ?_)
    obtain ⟨rfl, rfl⟩ := hq
    show own_W l Z x code maxLocals ret room_1 n0 (fun v h => v = some (.int 1)) h56 5 13 176 #[.val (.int x0), .val (.int x1), .val (.int x2), .val (.int x3), .val (.int x4), .val (.int x5), .val (.int c), .val (.int (2 : Int32)), .val (.int ka), .val (.int kb), .val (.int kd), .val (.ref s), .val (.ref o), .val (.ref r), .unset, .unset] [.int (own_idx x5 c)]
    have hq := own_idx_ok x5 c hcp
    generalize hq_ : (own_idx x5 c) = q
    rw [hq_] at hq
    refine own_istore (pc' := 178) (Ls' := #[.val (.int x0), .val (.int x1), .val (.int x2), .val (.int x3), .val (.int x4), .val (.int x5), .val (.int c), .val (.int (2 : Int32)), .val (.int ka), .val (.int kb), .val (.int kd), .val (.ref s), .val (.ref o), .val (.ref r), .val (.int q), .unset]) at_176 rfl rfl ?_
    refine own_iload (pc' := 180) at_178 rfl rfl ?_
    refine own_iconst (1 : Int32) (pc' := 181) at_180 rfl rfl ?_
    refine own_ic_lt_f (pc' := 184) at_181 (by decide) rfl ?_
    refine own_iload (pc' := 186) at_184 rfl rfl ?_
    refine own_iload (pc' := 188) at_186 rfl rfl ?_
    refine own_ic_eq (pc' := 217) (pf := 191) at_188 (by decide) (by decide) rfl (fun h_188 => ?_) (fun h_188 => ?_)
    · refine own_iconst (1 : Int32) (pc' := 218) at_217 rfl rfl ?_
      refine own_goto (pc' := 222) at_218 (by decide) (by decide) ?_
      refine own_istore (pc' := 224) (Ls' := #[.val (.int x0), .val (.int x1), .val (.int x2), .val (.int x3), .val (.int x4), .val (.int x5), .val (.int c), .val (.int (2 : Int32)), .val (.int ka), .val (.int kb), .val (.int kd), .val (.ref s), .val (.ref o), .val (.ref r), .val (.int q), .val (.int (1 : Int32))]) at_222 rfl rfl ?_
      refine own_aload (pc' := 226) at_224 rfl rfl ?_
      refine own_iload (pc' := 228) at_226 rfl rfl ?_
      refine own_zaload (pc' := 229) (v := .int (if q ∈ [ka, kb] then (1 : Int32) else 0)) A_r hq.1 (own_pl_at c q _ hq.1 hq.2 (by intro k hk; simp only [List.mem_cons, List.not_mem_nil, or_false] at hk; rcases hk with rfl | rfl <;> assumption)) at_228 rfl ?_
      refine own_iload (pc' := 231) at_229 rfl rfl ?_
      refine own_ic_ne_f (pc' := 234) at_231 (by simp [*]) rfl ?_
      refine own_iconst (1 : Int32) (pc' := 235) at_234 rfl rfl ?_
      refine own_goto (pc' := 239) at_235 (by decide) (by decide) ?_
      exact own_bret (v := (1 : Int32)) rfl (by first | rfl | decide | assumption) at_239 rfl
    · refine own_iload (pc' := 193) at_191 rfl rfl ?_
      refine own_iconst (2 : Int32) (pc' := 194) at_193 rfl rfl ?_
      refine own_ic_lt_f (pc' := 197) at_194 (by decide) rfl ?_
      refine own_iload (pc' := 199) at_197 rfl rfl ?_
      refine own_iload (pc' := 201) at_199 rfl rfl ?_
      refine own_ic_eq (pc' := 217) (pf := 204) at_201 (by decide) (by decide) rfl (fun h_201 => ?_) (fun h_201 => ?_)
      · refine own_iconst (1 : Int32) (pc' := 218) at_217 rfl rfl ?_
        refine own_goto (pc' := 222) at_218 (by decide) (by decide) ?_
        refine own_istore (pc' := 224) (Ls' := #[.val (.int x0), .val (.int x1), .val (.int x2), .val (.int x3), .val (.int x4), .val (.int x5), .val (.int c), .val (.int (2 : Int32)), .val (.int ka), .val (.int kb), .val (.int kd), .val (.ref s), .val (.ref o), .val (.ref r), .val (.int q), .val (.int (1 : Int32))]) at_222 rfl rfl ?_
        refine own_aload (pc' := 226) at_224 rfl rfl ?_
        refine own_iload (pc' := 228) at_226 rfl rfl ?_
        refine own_zaload (pc' := 229) (v := .int (if q ∈ [ka, kb] then (1 : Int32) else 0)) A_r hq.1 (own_pl_at c q _ hq.1 hq.2 (by intro k hk; simp only [List.mem_cons, List.not_mem_nil, or_false] at hk; rcases hk with rfl | rfl <;> assumption)) at_228 rfl ?_
        refine own_iload (pc' := 231) at_229 rfl rfl ?_
        refine own_ic_ne_f (pc' := 234) at_231 (by simp [*]) rfl ?_
        refine own_iconst (1 : Int32) (pc' := 235) at_234 rfl rfl ?_
        refine own_goto (pc' := 239) at_235 (by decide) (by decide) ?_
        exact own_bret (v := (1 : Int32)) rfl (by first | rfl | decide | assumption) at_239 rfl
      · refine own_iload (pc' := 206) at_204 rfl rfl ?_
        refine own_iconst (3 : Int32) (pc' := 207) at_206 rfl rfl ?_
        refine own_ic_lt_t (pc' := 221) at_207 (by decide) (by decide) (by decide) ?_
        refine own_iconst (0 : Int32) (pc' := 222) at_221 rfl rfl ?_
        refine own_istore (pc' := 224) (Ls' := #[.val (.int x0), .val (.int x1), .val (.int x2), .val (.int x3), .val (.int x4), .val (.int x5), .val (.int c), .val (.int (2 : Int32)), .val (.int ka), .val (.int kb), .val (.int kd), .val (.ref s), .val (.ref o), .val (.ref r), .val (.int q), .val (.int (0 : Int32))]) at_222 rfl rfl ?_
        refine own_aload (pc' := 226) at_224 rfl rfl ?_
        refine own_iload (pc' := 228) at_226 rfl rfl ?_
        refine own_zaload (pc' := 229) (v := .int (if q ∈ [ka, kb] then (1 : Int32) else 0)) A_r hq.1 (own_pl_at c q _ hq.1 hq.2 (by intro k hk; simp only [List.mem_cons, List.not_mem_nil, or_false] at hk; rcases hk with rfl | rfl <;> assumption)) at_228 rfl ?_
        refine own_iload (pc' := 231) at_229 rfl rfl ?_
        refine own_ic_ne_f (pc' := 234) at_231 (by simp [*]) rfl ?_
        refine own_iconst (1 : Int32) (pc' := 235) at_234 rfl rfl ?_
        refine own_goto (pc' := 239) at_235 (by decide) (by decide) ?_
        exact own_bret (v := (1 : Int32)) rfl (by first | rfl | decide | assumption) at_239 rfl
  · refine own_iconst (1 : Int32) (pc' := 168) at_167 rfl rfl ?_
    exact own_bret (v := (1 : Int32)) rfl (by first | rfl | decide | assumption) at_168 rfl
set_option maxRecDepth 65536 in
set_option maxHeartbeats 40000000 in
theorem own_law3 (l : Launch) (Z : State) (a0 : Array Value) (hw : ∀ d ∈ tables_1, d.before a0 Z = true) (x0 x1 x2 x3 x4 x5 c ka kb kd : Int32) (s : Addr) (h0 : Heap) (n0 : Nat) (hn0 : n0 ≤ h0.size) (hc : ¬ c < 0) (hc7 : c.toNatClampNeg ≤ 7) (A_s : own_A Z h0 s .int [.int ka, .int kb, .int kd]) (p0 : ¬ ka < 0) (q0 : ka < c) (p1 : ¬ kb < 0) (q1 : kb < c) (p2 : ¬ kd < 0) (q2 : kd < c) :
    own_W l Z x code maxLocals ret room_1 n0 (fun v h => v = some (.int 1)) h0 1 3 121 #[.val (.int x0), .val (.int x1), .val (.int x2), .val (.int x3), .val (.int x4), .val (.int x5), .val (.int c), .val (.int (3 : Int32)), .val (.int ka), .val (.int kb), .val (.int kd), .val (.ref s), .unset, .unset, .unset, .unset] [] := by
  refine own_new (pc' := 124) (hw _ (List.mem_of_getElem? (i := 5) rfl)) (hw _ (List.mem_of_getElem? (i := 6) rfl)) (hw _ (List.mem_of_getElem? (i := 7) rfl)) at_121 rfl (by decide) (by decide) (fun h58 o gt_o lt_o E59 E_o D_o => ?_)
  have ge_o : n0 ≤ o := Nat.le_trans hn0 gt_o
  have ne_s_o : s ≠ o := Nat.ne_of_lt (by have q := Nat.lt_of_lt_of_le A_s.lt (Nat.le_refl _); omega)
  replace A_s := A_s.ext E59
  replace hn0 : n0 ≤ h58.size := Nat.le_trans hn0 E59.1
  have F_o_old : Fld Z h58 o "com/example/tumbleweave/tumbleweave/diff/Kinds" "old" "[I" (.null) := D_o (Or.inr (hw _ (List.mem_of_getElem? (i := 20) rfl))) (ty := (.array .int)) (by decide)
  have F_o_now : Fld Z h58 o "com/example/tumbleweave/tumbleweave/diff/Kinds" "now" "[I" (.null) := D_o (Or.inr (hw _ (List.mem_of_getElem? (i := 22) rfl))) (ty := (.array .int)) (by decide)
  have F_o_count : Fld Z h58 o "com/example/tumbleweave/tumbleweave/diff/Kinds" "count" "I" (.int (0 : Int32)) := D_o (Or.inr (hw _ (List.mem_of_getElem? (i := 24) rfl))) (ty := .int) (by decide)
  refine own_dup (pc' := 125) at_124 rfl rfl ?_
  refine own_iconst (0 : Int32) (pc' := 126) at_125 rfl rfl ?_
  refine own_newarr (pc' := 128) (ty := .int) (cap := 0) (hw _ (List.mem_of_getElem? (i := 4) rfl)) rfl at_126 rfl (by decide) (by decide) (by decide) (by decide) (by decide) (fun h60 u gt_u lt_u E61 A_u => ?_)
  have ge_u : n0 ≤ u := Nat.le_trans hn0 gt_u
  have ne_o_u : o ≠ u := Nat.ne_of_lt (by have q := Nat.lt_of_lt_of_le E_o.lt (Nat.le_refl _); omega)
  have ne_s_u : s ≠ u := Nat.ne_of_lt (by have q := Nat.lt_of_lt_of_le A_s.lt (Nat.le_refl _); omega)
  replace A_s := A_s.ext E61
  replace E_o := E_o.ext E61
  replace F_o_old := F_o_old.ext E61
  replace F_o_now := F_o_now.ext E61
  replace F_o_count := F_o_count.ext E61
  replace hn0 : n0 ≤ h60.size := Nat.le_trans hn0 E61.1
  replace A_u : own_A Z h60 u .int [] := A_u.cast rfl
  refine own_iconst (0 : Int32) (pc' := 129) at_128 rfl rfl ?_
  refine own_newarr (pc' := 131) (ty := .int) (cap := 0) (hw _ (List.mem_of_getElem? (i := 4) rfl)) rfl at_129 rfl (by decide) (by decide) (by decide) (by decide) (by decide) (fun h62 w gt_w lt_w E63 A_w => ?_)
  have ge_w : n0 ≤ w := Nat.le_trans hn0 gt_w
  have ne_o_w : o ≠ w := Nat.ne_of_lt (by have q := Nat.lt_of_lt_of_le E_o.lt (Nat.le_refl _); omega)
  have ne_s_w : s ≠ w := Nat.ne_of_lt (by have q := Nat.lt_of_lt_of_le A_s.lt (Nat.le_refl _); omega)
  have ne_u_w : u ≠ w := Nat.ne_of_lt (by have q := Nat.lt_of_lt_of_le A_u.lt (Nat.le_refl _); omega)
  replace A_s := A_s.ext E63
  replace E_o := E_o.ext E63
  replace F_o_old := F_o_old.ext E63
  replace F_o_now := F_o_now.ext E63
  replace F_o_count := F_o_count.ext E63
  replace A_u := A_u.ext E63
  replace hn0 : n0 ≤ h62.size := Nat.le_trans hn0 E63.1
  replace A_w : own_A Z h62 w .int [] := A_w.cast rfl
  refine own_iload (pc' := 133) at_131 rfl rfl ?_
  refine own_special (ret' := none) (own_mk l Z a0 hw o u w c h62 n0 hn0 ge_o E_o F_o_old F_o_now F_o_count) (hw _ (List.mem_of_getElem? (i := 8) rfl)) (hw _ (List.mem_of_getElem? (i := 9) rfl)) (hw _ (List.mem_of_getElem? (i := 7) rfl)) (hw _ (List.mem_of_getElem? (i := 10) rfl)) rfl (plainFor_of_name own_pn1) (by decide) own_pd2 rfl (argsL := [.ref u, .ref w, .int c]) (rest := [.ref o]) rfl rfl (W := 1) (Nat.le_refl _) (by decide) (by decide) (by decide) (by decide) rfl at_133 (pc' := 136) rfl (fun v_ h64 hq => ?_)
  obtain ⟨rfl, K_1, E_1, F_1⟩ := hq
  show own_W l Z x code maxLocals ret room_1 n0 (fun v h => v = some (.int 1)) h64 4 6 136 #[.val (.int x0), .val (.int x1), .val (.int x2), .val (.int x3), .val (.int x4), .val (.int x5), .val (.int c), .val (.int (3 : Int32)), .val (.int ka), .val (.int kb), .val (.int kd), .val (.ref s), .unset, .unset, .unset, .unset] [.ref o]
  replace A_s := A_s.keep K_1 (ninS ne_s_o nin0)
  replace E_o := E_1
  clear F_o_old
  clear F_o_now
  replace F_o_count := F_1
  replace A_u := A_u.keep K_1 (ninS (Ne.symm ne_o_u) nin0)
  replace A_w := A_w.keep K_1 (ninS (Ne.symm ne_o_w) nin0)
  replace hn0 : n0 ≤ h64.size := Nat.le_trans hn0 K_1.1
  refine own_astore (pc' := 138) (Ls' := #[.val (.int x0), .val (.int x1), .val (.int x2), .val (.int x3), .val (.int x4), .val (.int x5), .val (.int c), .val (.int (3 : Int32)), .val (.int ka), .val (.int kb), .val (.int kd), .val (.ref s), .val (.ref o), .unset, .unset, .unset]) at_136 rfl rfl ?_
  refine own_aload (pc' := 140) at_138 rfl rfl ?_
  refine own_aload (pc' := 142) at_140 rfl rfl ?_
  refine own_virtual (own_pres3 l Z a0 hw o s c ka kb kd h64 n0 hn0 hc hc7 F_o_count A_s p0 q0 p1 q1 p2 q2) E_o (hw _ (List.mem_of_getElem? (i := 25) rfl)) (hw _ (List.mem_of_getElem? (i := 26) rfl)) (hw _ (List.mem_of_getElem? (i := 28) rfl)) (hw _ (List.mem_of_getElem? (i := 27) rfl)) (hw _ (List.mem_of_getElem? (i := 7) rfl)) (hw _ (List.mem_of_getElem? (i := 29) rfl)) (plainFor_of_name own_pn1) (by decide) own_pd4 rfl (argsL := [.ref s]) (rest := []) rfl rfl (W := 0) (Nat.le_refl _) (by decide) (by decide) (by decide) (by decide) rfl at_142 (pc' := 145) rfl (fun v_ h65 hq => ?_)
  obtain ⟨r, rfl, gt_r, K_2, A_r⟩ := hq
  show own_W l Z x code maxLocals ret room_1 n0 (fun v h => v = some (.int 1)) h65 5 13 145 #[.val (.int x0), .val (.int x1), .val (.int x2), .val (.int x3), .val (.int x4), .val (.int x5), .val (.int c), .val (.int (3 : Int32)), .val (.int ka), .val (.int kb), .val (.int kd), .val (.ref s), .val (.ref o), .unset, .unset, .unset] [.ref r]
  replace hn0 : n0 ≤ h65.size := Nat.le_trans hn0 K_2.1
  refine own_astore (pc' := 147) (Ls' := #[.val (.int x0), .val (.int x1), .val (.int x2), .val (.int x3), .val (.int x4), .val (.int x5), .val (.int c), .val (.int (3 : Int32)), .val (.int ka), .val (.int kb), .val (.int kd), .val (.ref s), .val (.ref o), .val (.ref r), .unset, .unset]) at_145 rfl rfl ?_
  refine own_aload (pc' := 149) at_147 rfl rfl ?_
  refine own_ifnull_f (pc' := 152) at_149 rfl ?_
  refine own_aload (pc' := 154) at_152 rfl rfl ?_
  refine own_len (pc' := 155) (n := c) A_r (own_plen32 c hc _) at_154 rfl ?_
  refine own_iload (pc' := 157) at_155 rfl rfl ?_
  refine own_ic_eq_t (pc' := 162) at_157 rfl (by decide) (by decide) ?_
  refine own_iload (pc' := 164) at_162 rfl rfl ?_
  refine own_if_ne (pc' := 169) (pf := 167) at_164 (by decide) (by decide) rfl (fun h_164 => ?_) (fun h_164 => ?_)
  · have hcp : 0 < c := by rw [Int32.lt_iff_toInt_lt] at hc ⊢; rw [← Int32.toInt_inj] at h_164; have z : (0 : Int32).toInt = 0 := rfl; omega
    refine own_iload (pc' := 171) at_169 rfl rfl ?_
    refine own_iload (pc' := 173) at_171 rfl rfl ?_
    refine own_static (own_idxW l Z a0 hw x5 c h65 n0 hn0) (hw _ (List.mem_of_getElem? (i := 0) rfl)) (hw _ (List.mem_of_getElem? (i := 1) rfl)) (hw _ (List.mem_of_getElem? (i := 2) rfl)) (hw _ (List.mem_of_getElem? (i := 3) rfl)) (plainFor_of_name own_pn0) (by decide) own_pd1 rfl (argsL := [.int x5, .int c]) (rest := []) rfl rfl (W := 0) (Nat.le_refl _) (by decide) (by decide) (by decide) (by decide) rfl at_173 (pc' := 176) rfl (fun v_ h66 hq => ?_)
    obtain ⟨rfl, rfl⟩ := hq
    show own_W l Z x code maxLocals ret room_1 n0 (fun v h => v = some (.int 1)) h65 5 13 176 #[.val (.int x0), .val (.int x1), .val (.int x2), .val (.int x3), .val (.int x4), .val (.int x5), .val (.int c), .val (.int (3 : Int32)), .val (.int ka), .val (.int kb), .val (.int kd), .val (.ref s), .val (.ref o), .val (.ref r), .unset, .unset] [.int (own_idx x5 c)]
    have hq := own_idx_ok x5 c hcp
    generalize hq_ : (own_idx x5 c) = q
    rw [hq_] at hq
    refine own_istore (pc' := 178) (Ls' := #[.val (.int x0), .val (.int x1), .val (.int x2), .val (.int x3), .val (.int x4), .val (.int x5), .val (.int c), .val (.int (3 : Int32)), .val (.int ka), .val (.int kb), .val (.int kd), .val (.ref s), .val (.ref o), .val (.ref r), .val (.int q), .unset]) at_176 rfl rfl ?_
    refine own_iload (pc' := 180) at_178 rfl rfl ?_
    refine own_iconst (1 : Int32) (pc' := 181) at_180 rfl rfl ?_
    refine own_ic_lt_f (pc' := 184) at_181 (by decide) rfl ?_
    refine own_iload (pc' := 186) at_184 rfl rfl ?_
    refine own_iload (pc' := 188) at_186 rfl rfl ?_
    refine own_ic_eq (pc' := 217) (pf := 191) at_188 (by decide) (by decide) rfl (fun h_188 => ?_) (fun h_188 => ?_)
    · refine own_iconst (1 : Int32) (pc' := 218) at_217 rfl rfl ?_
      refine own_goto (pc' := 222) at_218 (by decide) (by decide) ?_
      refine own_istore (pc' := 224) (Ls' := #[.val (.int x0), .val (.int x1), .val (.int x2), .val (.int x3), .val (.int x4), .val (.int x5), .val (.int c), .val (.int (3 : Int32)), .val (.int ka), .val (.int kb), .val (.int kd), .val (.ref s), .val (.ref o), .val (.ref r), .val (.int q), .val (.int (1 : Int32))]) at_222 rfl rfl ?_
      refine own_aload (pc' := 226) at_224 rfl rfl ?_
      refine own_iload (pc' := 228) at_226 rfl rfl ?_
      refine own_zaload (pc' := 229) (v := .int (if q ∈ [ka, kb, kd] then (1 : Int32) else 0)) A_r hq.1 (own_pl_at c q _ hq.1 hq.2 (by intro k hk; simp only [List.mem_cons, List.not_mem_nil, or_false] at hk; rcases hk with rfl | rfl | rfl <;> assumption)) at_228 rfl ?_
      refine own_iload (pc' := 231) at_229 rfl rfl ?_
      refine own_ic_ne_f (pc' := 234) at_231 (by simp [*]) rfl ?_
      refine own_iconst (1 : Int32) (pc' := 235) at_234 rfl rfl ?_
      refine own_goto (pc' := 239) at_235 (by decide) (by decide) ?_
      exact own_bret (v := (1 : Int32)) rfl (by first | rfl | decide | assumption) at_239 rfl
    · refine own_iload (pc' := 193) at_191 rfl rfl ?_
      refine own_iconst (2 : Int32) (pc' := 194) at_193 rfl rfl ?_
      refine own_ic_lt_f (pc' := 197) at_194 (by decide) rfl ?_
      refine own_iload (pc' := 199) at_197 rfl rfl ?_
      refine own_iload (pc' := 201) at_199 rfl rfl ?_
      refine own_ic_eq (pc' := 217) (pf := 204) at_201 (by decide) (by decide) rfl (fun h_201 => ?_) (fun h_201 => ?_)
      · refine own_iconst (1 : Int32) (pc' := 218) at_217 rfl rfl ?_
        refine own_goto (pc' := 222) at_218 (by decide) (by decide) ?_
        refine own_istore (pc' := 224) (Ls' := #[.val (.int x0), .val (.int x1), .val (.int x2), .val (.int x3), .val (.int x4), .val (.int x5), .val (.int c), .val (.int (3 : Int32)), .val (.int ka), .val (.int kb), .val (.int kd), .val (.ref s), .val (.ref o), .val (.ref r), .val (.int q), .val (.int (1 : Int32))]) at_222 rfl rfl ?_
        refine own_aload (pc' := 226) at_224 rfl rfl ?_
        refine own_iload (pc' := 228) at_226 rfl rfl ?_
        refine own_zaload (pc' := 229) (v := .int (if q ∈ [ka, kb, kd] then (1 : Int32) else 0)) A_r hq.1 (own_pl_at c q _ hq.1 hq.2 (by intro k hk; simp only [List.mem_cons, List.not_mem_nil, or_false] at hk; rcases hk with rfl | rfl | rfl <;> assumption)) at_228 rfl ?_
        refine own_iload (pc' := 231) at_229 rfl rfl ?_
        refine own_ic_ne_f (pc' := 234) at_231 (by simp [*]) rfl ?_
        refine own_iconst (1 : Int32) (pc' := 235) at_234 rfl rfl ?_
        refine own_goto (pc' := 239) at_235 (by decide) (by decide) ?_
        exact own_bret (v := (1 : Int32)) rfl (by first | rfl | decide | assumption) at_239 rfl
      · refine own_iload (pc' := 206) at_204 rfl rfl ?_
        refine own_iconst (3 : Int32) (pc' := 207) at_206 rfl rfl ?_
        refine own_ic_lt_f (pc' := 210) at_207 (by decide) rfl ?_
        refine own_iload (pc' := 212) at_210 rfl rfl ?_
        refine own_iload (pc' := 214) at_212 rfl rfl ?_
        refine own_ic_ne (pc' := 221) (pf := 217) at_214 (by decide) (by decide) rfl (fun h_214 => ?_) (fun h_214 => ?_)
        · refine own_iconst (0 : Int32) (pc' := 222) at_221 rfl rfl ?_
          refine own_istore (pc' := 224) (Ls' := #[.val (.int x0), .val (.int x1), .val (.int x2), .val (.int x3), .val (.int x4), .val (.int x5), .val (.int c), .val (.int (3 : Int32)), .val (.int ka), .val (.int kb), .val (.int kd), .val (.ref s), .val (.ref o), .val (.ref r), .val (.int q), .val (.int (0 : Int32))]) at_222 rfl rfl ?_
          refine own_aload (pc' := 226) at_224 rfl rfl ?_
          refine own_iload (pc' := 228) at_226 rfl rfl ?_
          refine own_zaload (pc' := 229) (v := .int (if q ∈ [ka, kb, kd] then (1 : Int32) else 0)) A_r hq.1 (own_pl_at c q _ hq.1 hq.2 (by intro k hk; simp only [List.mem_cons, List.not_mem_nil, or_false] at hk; rcases hk with rfl | rfl | rfl <;> assumption)) at_228 rfl ?_
          refine own_iload (pc' := 231) at_229 rfl rfl ?_
          refine own_ic_ne_f (pc' := 234) at_231 (by simp [*]) rfl ?_
          refine own_iconst (1 : Int32) (pc' := 235) at_234 rfl rfl ?_
          refine own_goto (pc' := 239) at_235 (by decide) (by decide) ?_
          exact own_bret (v := (1 : Int32)) rfl (by first | rfl | decide | assumption) at_239 rfl
        · refine own_iconst (1 : Int32) (pc' := 218) at_217 rfl rfl ?_
          refine own_goto (pc' := 222) at_218 (by decide) (by decide) ?_
          refine own_istore (pc' := 224) (Ls' := #[.val (.int x0), .val (.int x1), .val (.int x2), .val (.int x3), .val (.int x4), .val (.int x5), .val (.int c), .val (.int (3 : Int32)), .val (.int ka), .val (.int kb), .val (.int kd), .val (.ref s), .val (.ref o), .val (.ref r), .val (.int q), .val (.int (1 : Int32))]) at_222 rfl rfl ?_
          refine own_aload (pc' := 226) at_224 rfl rfl ?_
          refine own_iload (pc' := 228) at_226 rfl rfl ?_
          refine own_zaload (pc' := 229) (v := .int (if q ∈ [ka, kb, kd] then (1 : Int32) else 0)) A_r hq.1 (own_pl_at c q _ hq.1 hq.2 (by intro k hk; simp only [List.mem_cons, List.not_mem_nil, or_false] at hk; rcases hk with rfl | rfl | rfl <;> assumption)) at_228 rfl ?_
          refine own_iload (pc' := 231) at_229 rfl rfl ?_
          refine own_ic_ne_f (pc' := 234) at_231 (by simp [*]) rfl ?_
          refine own_iconst (1 : Int32) (pc' := 235) at_234 rfl rfl ?_
          refine own_goto (pc' := 239) at_235 (by decide) (by decide) ?_
          exact own_bret (v := (1 : Int32)) rfl (by first | rfl | decide | assumption) at_239 rfl
  · refine own_iconst (1 : Int32) (pc' := 168) at_167 rfl rfl ?_
    exact own_bret (v := (1 : Int32)) rfl (by first | rfl | decide | assumption) at_168 rfl
set_option maxRecDepth 65536 in
set_option maxHeartbeats 40000000 in
theorem own_hd0 (l : Launch) (Z : State) (a0 : Array Value) (hw : ∀ d ∈ tables_1, d.before a0 Z = true) (x0 x1 x2 x3 x4 x5 c : Int32) (h0 : Heap) (n0 : Nat) (hn0 : n0 ≤ h0.size) (hc : ¬ c < 0) (hc7 : c.toNatClampNeg ≤ 7) :
    own_W l Z x code maxLocals ret room_1 n0 (fun v h => v = some (.int 1)) h0 0 0 20 #[.val (.int x0), .val (.int x1), .val (.int x2), .val (.int x3), .val (.int x4), .val (.int x5), .val (.int c), .val (.int (0 : Int32)), .unset, .unset, .unset, .unset, .unset, .unset, .unset, .unset] [] := by
  refine own_iloadN (pc' := 21) at_20 rfl rfl ?_
  refine own_iload (pc' := 23) at_21 rfl rfl ?_
  refine own_static (own_idxW l Z a0 hw x2 c h0 n0 hn0) (hw _ (List.mem_of_getElem? (i := 0) rfl)) (hw _ (List.mem_of_getElem? (i := 1) rfl)) (hw _ (List.mem_of_getElem? (i := 2) rfl)) (hw _ (List.mem_of_getElem? (i := 3) rfl)) (plainFor_of_name own_pn0) (by decide) own_pd1 rfl (argsL := [.int x2, .int c]) (rest := []) rfl rfl (W := 0) (Nat.le_refl _) (by decide) (by decide) (by decide) (by decide) rfl at_23 (pc' := 26) rfl (fun v_ h67 hq => ?_)
  obtain ⟨rfl, rfl⟩ := hq
  show own_W l Z x code maxLocals ret room_1 n0 (fun v h => v = some (.int 1)) h0 0 0 26 #[.val (.int x0), .val (.int x1), .val (.int x2), .val (.int x3), .val (.int x4), .val (.int x5), .val (.int c), .val (.int (0 : Int32)), .unset, .unset, .unset, .unset, .unset, .unset, .unset, .unset] [.int (own_idx x2 c)]
  refine own_istore (pc' := 28) (Ls' := #[.val (.int x0), .val (.int x1), .val (.int x2), .val (.int x3), .val (.int x4), .val (.int x5), .val (.int c), .val (.int (0 : Int32)), .val (.int (own_idx x2 c)), .unset, .unset, .unset, .unset, .unset, .unset, .unset]) at_26 rfl rfl ?_
  refine own_iloadN (pc' := 29) at_28 rfl rfl ?_
  refine own_iload (pc' := 31) at_29 rfl rfl ?_
  refine own_static (own_idxW l Z a0 hw x3 c h0 n0 hn0) (hw _ (List.mem_of_getElem? (i := 0) rfl)) (hw _ (List.mem_of_getElem? (i := 1) rfl)) (hw _ (List.mem_of_getElem? (i := 2) rfl)) (hw _ (List.mem_of_getElem? (i := 3) rfl)) (plainFor_of_name own_pn0) (by decide) own_pd1 rfl (argsL := [.int x3, .int c]) (rest := []) rfl rfl (W := 0) (Nat.le_refl _) (by decide) (by decide) (by decide) (by decide) rfl at_31 (pc' := 34) rfl (fun v_ h68 hq => ?_)
  obtain ⟨rfl, rfl⟩ := hq
  show own_W l Z x code maxLocals ret room_1 n0 (fun v h => v = some (.int 1)) h0 0 0 34 #[.val (.int x0), .val (.int x1), .val (.int x2), .val (.int x3), .val (.int x4), .val (.int x5), .val (.int c), .val (.int (0 : Int32)), .val (.int (own_idx x2 c)), .unset, .unset, .unset, .unset, .unset, .unset, .unset] [.int (own_idx x3 c)]
  refine own_istore (pc' := 36) (Ls' := #[.val (.int x0), .val (.int x1), .val (.int x2), .val (.int x3), .val (.int x4), .val (.int x5), .val (.int c), .val (.int (0 : Int32)), .val (.int (own_idx x2 c)), .val (.int (own_idx x3 c)), .unset, .unset, .unset, .unset, .unset, .unset]) at_34 rfl rfl ?_
  refine own_iload (pc' := 38) at_36 rfl rfl ?_
  refine own_iload (pc' := 40) at_38 rfl rfl ?_
  refine own_static (own_idxW l Z a0 hw x4 c h0 n0 hn0) (hw _ (List.mem_of_getElem? (i := 0) rfl)) (hw _ (List.mem_of_getElem? (i := 1) rfl)) (hw _ (List.mem_of_getElem? (i := 2) rfl)) (hw _ (List.mem_of_getElem? (i := 3) rfl)) (plainFor_of_name own_pn0) (by decide) own_pd1 rfl (argsL := [.int x4, .int c]) (rest := []) rfl rfl (W := 0) (Nat.le_refl _) (by decide) (by decide) (by decide) (by decide) rfl at_40 (pc' := 43) rfl (fun v_ h69 hq => ?_)
  obtain ⟨rfl, rfl⟩ := hq
  show own_W l Z x code maxLocals ret room_1 n0 (fun v h => v = some (.int 1)) h0 0 0 43 #[.val (.int x0), .val (.int x1), .val (.int x2), .val (.int x3), .val (.int x4), .val (.int x5), .val (.int c), .val (.int (0 : Int32)), .val (.int (own_idx x2 c)), .val (.int (own_idx x3 c)), .unset, .unset, .unset, .unset, .unset, .unset] [.int (own_idx x4 c)]
  refine own_istore (pc' := 45) (Ls' := #[.val (.int x0), .val (.int x1), .val (.int x2), .val (.int x3), .val (.int x4), .val (.int x5), .val (.int c), .val (.int (0 : Int32)), .val (.int (own_idx x2 c)), .val (.int (own_idx x3 c)), .val (.int (own_idx x4 c)), .unset, .unset, .unset, .unset, .unset]) at_43 rfl rfl ?_
  refine own_iload (pc' := 47) at_45 rfl rfl ?_
  refine own_if_ne_f (pc' := 50) at_47 (by decide) rfl ?_
  refine own_iconst (0 : Int32) (pc' := 51) at_50 rfl rfl ?_
  refine own_newarr (pc' := 53) (ty := .int) (cap := 0) (hw _ (List.mem_of_getElem? (i := 4) rfl)) rfl at_51 rfl (by decide) (by decide) (by decide) (by decide) (by decide) (fun h70 s gt_s lt_s E71 A_s => ?_)
  have ge_s : n0 ≤ s := Nat.le_trans hn0 gt_s
  replace hn0 : n0 ≤ h70.size := Nat.le_trans hn0 E71.1
  replace A_s : own_A Z h70 s .int [] := A_s.cast rfl
  refine own_astore (pc' := 55) (Ls' := #[.val (.int x0), .val (.int x1), .val (.int x2), .val (.int x3), .val (.int x4), .val (.int x5), .val (.int c), .val (.int (0 : Int32)), .val (.int (own_idx x2 c)), .val (.int (own_idx x3 c)), .val (.int (own_idx x4 c)), .val (.ref s), .unset, .unset, .unset, .unset]) at_53 rfl rfl ?_
  refine own_goto (pc' := 121) at_55 (by decide) (by decide) ?_
  exact own_more (cells' := 1) (slots' := 3) (by decide) (by decide) (by decide) (by decide) (own_law0 l Z a0 hw x0 x1 x2 x3 x4 x5 c _ _ _ s h70 n0 hn0 hc hc7 A_s)
set_option maxRecDepth 65536 in
set_option maxHeartbeats 40000000 in
theorem own_hd1 (l : Launch) (Z : State) (a0 : Array Value) (hw : ∀ d ∈ tables_1, d.before a0 Z = true) (x0 x1 x2 x3 x4 x5 c : Int32) (h0 : Heap) (n0 : Nat) (hn0 : n0 ≤ h0.size) (hc : ¬ c < 0) (hc7 : c.toNatClampNeg ≤ 7) (hcp : 0 < c) :
    own_W l Z x code maxLocals ret room_1 n0 (fun v h => v = some (.int 1)) h0 0 0 20 #[.val (.int x0), .val (.int x1), .val (.int x2), .val (.int x3), .val (.int x4), .val (.int x5), .val (.int c), .val (.int (1 : Int32)), .unset, .unset, .unset, .unset, .unset, .unset, .unset, .unset] [] := by
  refine own_iloadN (pc' := 21) at_20 rfl rfl ?_
  refine own_iload (pc' := 23) at_21 rfl rfl ?_
  refine own_static (own_idxW l Z a0 hw x2 c h0 n0 hn0) (hw _ (List.mem_of_getElem? (i := 0) rfl)) (hw _ (List.mem_of_getElem? (i := 1) rfl)) (hw _ (List.mem_of_getElem? (i := 2) rfl)) (hw _ (List.mem_of_getElem? (i := 3) rfl)) (plainFor_of_name own_pn0) (by decide) own_pd1 rfl (argsL := [.int x2, .int c]) (rest := []) rfl rfl (W := 0) (Nat.le_refl _) (by decide) (by decide) (by decide) (by decide) rfl at_23 (pc' := 26) rfl (fun v_ h72 hq => ?_)
  obtain ⟨rfl, rfl⟩ := hq
  show own_W l Z x code maxLocals ret room_1 n0 (fun v h => v = some (.int 1)) h0 0 0 26 #[.val (.int x0), .val (.int x1), .val (.int x2), .val (.int x3), .val (.int x4), .val (.int x5), .val (.int c), .val (.int (1 : Int32)), .unset, .unset, .unset, .unset, .unset, .unset, .unset, .unset] [.int (own_idx x2 c)]
  have hka := own_idx_ok x2 c hcp
  refine own_istore (pc' := 28) (Ls' := #[.val (.int x0), .val (.int x1), .val (.int x2), .val (.int x3), .val (.int x4), .val (.int x5), .val (.int c), .val (.int (1 : Int32)), .val (.int (own_idx x2 c)), .unset, .unset, .unset, .unset, .unset, .unset, .unset]) at_26 rfl rfl ?_
  refine own_iloadN (pc' := 29) at_28 rfl rfl ?_
  refine own_iload (pc' := 31) at_29 rfl rfl ?_
  refine own_static (own_idxW l Z a0 hw x3 c h0 n0 hn0) (hw _ (List.mem_of_getElem? (i := 0) rfl)) (hw _ (List.mem_of_getElem? (i := 1) rfl)) (hw _ (List.mem_of_getElem? (i := 2) rfl)) (hw _ (List.mem_of_getElem? (i := 3) rfl)) (plainFor_of_name own_pn0) (by decide) own_pd1 rfl (argsL := [.int x3, .int c]) (rest := []) rfl rfl (W := 0) (Nat.le_refl _) (by decide) (by decide) (by decide) (by decide) rfl at_31 (pc' := 34) rfl (fun v_ h73 hq => ?_)
  obtain ⟨rfl, rfl⟩ := hq
  show own_W l Z x code maxLocals ret room_1 n0 (fun v h => v = some (.int 1)) h0 0 0 34 #[.val (.int x0), .val (.int x1), .val (.int x2), .val (.int x3), .val (.int x4), .val (.int x5), .val (.int c), .val (.int (1 : Int32)), .val (.int (own_idx x2 c)), .unset, .unset, .unset, .unset, .unset, .unset, .unset] [.int (own_idx x3 c)]
  have hkb := own_idx_ok x3 c hcp
  refine own_istore (pc' := 36) (Ls' := #[.val (.int x0), .val (.int x1), .val (.int x2), .val (.int x3), .val (.int x4), .val (.int x5), .val (.int c), .val (.int (1 : Int32)), .val (.int (own_idx x2 c)), .val (.int (own_idx x3 c)), .unset, .unset, .unset, .unset, .unset, .unset]) at_34 rfl rfl ?_
  refine own_iload (pc' := 38) at_36 rfl rfl ?_
  refine own_iload (pc' := 40) at_38 rfl rfl ?_
  refine own_static (own_idxW l Z a0 hw x4 c h0 n0 hn0) (hw _ (List.mem_of_getElem? (i := 0) rfl)) (hw _ (List.mem_of_getElem? (i := 1) rfl)) (hw _ (List.mem_of_getElem? (i := 2) rfl)) (hw _ (List.mem_of_getElem? (i := 3) rfl)) (plainFor_of_name own_pn0) (by decide) own_pd1 rfl (argsL := [.int x4, .int c]) (rest := []) rfl rfl (W := 0) (Nat.le_refl _) (by decide) (by decide) (by decide) (by decide) rfl at_40 (pc' := 43) rfl (fun v_ h74 hq => ?_)
  obtain ⟨rfl, rfl⟩ := hq
  show own_W l Z x code maxLocals ret room_1 n0 (fun v h => v = some (.int 1)) h0 0 0 43 #[.val (.int x0), .val (.int x1), .val (.int x2), .val (.int x3), .val (.int x4), .val (.int x5), .val (.int c), .val (.int (1 : Int32)), .val (.int (own_idx x2 c)), .val (.int (own_idx x3 c)), .unset, .unset, .unset, .unset, .unset, .unset] [.int (own_idx x4 c)]
  have hkd := own_idx_ok x4 c hcp
  refine own_istore (pc' := 45) (Ls' := #[.val (.int x0), .val (.int x1), .val (.int x2), .val (.int x3), .val (.int x4), .val (.int x5), .val (.int c), .val (.int (1 : Int32)), .val (.int (own_idx x2 c)), .val (.int (own_idx x3 c)), .val (.int (own_idx x4 c)), .unset, .unset, .unset, .unset, .unset]) at_43 rfl rfl ?_
  refine own_iload (pc' := 47) at_45 rfl rfl ?_
  refine own_if_ne_t (pc' := 58) at_47 (by decide) (by decide) (by decide) ?_
  refine own_iload (pc' := 60) at_58 rfl rfl ?_
  refine own_iconst (1 : Int32) (pc' := 61) at_60 rfl rfl ?_
  refine own_ic_ne_f (pc' := 64) at_61 (by decide) rfl ?_
  refine own_iconst (1 : Int32) (pc' := 65) at_64 rfl rfl ?_
  refine own_newarr (pc' := 67) (ty := .int) (cap := 1) (hw _ (List.mem_of_getElem? (i := 4) rfl)) rfl at_65 rfl (by decide) (by decide) (by decide) (by decide) (by decide) (fun h75 s gt_s lt_s E76 A_s => ?_)
  have ge_s : n0 ≤ s := Nat.le_trans hn0 gt_s
  replace hn0 : n0 ≤ h75.size := Nat.le_trans hn0 E76.1
  replace A_s : own_A Z h75 s .int [.int (0 : Int32)] := A_s.cast rfl
  refine own_dup (pc' := 68) at_67 rfl rfl ?_
  refine own_iconst (0 : Int32) (pc' := 69) at_68 rfl rfl ?_
  refine own_iload (pc' := 71) at_69 rfl rfl ?_
  refine own_iastore (pc' := 72) A_s (by decide) (by first | decide | (simp only [List.length_cons, List.length_nil, List.length_set, List.length_replicate]; decide)) ge_s at_71 rfl (fun h77 K78 A_new => ?_)
  replace hn0 : n0 ≤ h77.size := Nat.le_trans hn0 K78.1
  replace A_s : own_A Z h77 s .int [.int (own_idx x2 c)] := A_new.cast rfl
  refine own_astore (pc' := 74) (Ls' := #[.val (.int x0), .val (.int x1), .val (.int x2), .val (.int x3), .val (.int x4), .val (.int x5), .val (.int c), .val (.int (1 : Int32)), .val (.int (own_idx x2 c)), .val (.int (own_idx x3 c)), .val (.int (own_idx x4 c)), .val (.ref s), .unset, .unset, .unset, .unset]) at_72 rfl rfl ?_
  refine own_goto (pc' := 121) at_74 (by decide) (by decide) ?_
  exact own_more (cells' := 1) (slots' := 3) (by decide) (by decide) (by decide) (by decide) (own_law1 l Z a0 hw x0 x1 x2 x3 x4 x5 c _ _ _ s h77 n0 hn0 hc hc7 A_s hka.1 hka.2)
set_option maxRecDepth 65536 in
set_option maxHeartbeats 40000000 in
theorem own_hd2 (l : Launch) (Z : State) (a0 : Array Value) (hw : ∀ d ∈ tables_1, d.before a0 Z = true) (x0 x1 x2 x3 x4 x5 c : Int32) (h0 : Heap) (n0 : Nat) (hn0 : n0 ≤ h0.size) (hc : ¬ c < 0) (hc7 : c.toNatClampNeg ≤ 7) (hcp : 0 < c) :
    own_W l Z x code maxLocals ret room_1 n0 (fun v h => v = some (.int 1)) h0 0 0 20 #[.val (.int x0), .val (.int x1), .val (.int x2), .val (.int x3), .val (.int x4), .val (.int x5), .val (.int c), .val (.int (2 : Int32)), .unset, .unset, .unset, .unset, .unset, .unset, .unset, .unset] [] := by
  refine own_iloadN (pc' := 21) at_20 rfl rfl ?_
  refine own_iload (pc' := 23) at_21 rfl rfl ?_
  refine own_static (own_idxW l Z a0 hw x2 c h0 n0 hn0) (hw _ (List.mem_of_getElem? (i := 0) rfl)) (hw _ (List.mem_of_getElem? (i := 1) rfl)) (hw _ (List.mem_of_getElem? (i := 2) rfl)) (hw _ (List.mem_of_getElem? (i := 3) rfl)) (plainFor_of_name own_pn0) (by decide) own_pd1 rfl (argsL := [.int x2, .int c]) (rest := []) rfl rfl (W := 0) (Nat.le_refl _) (by decide) (by decide) (by decide) (by decide) rfl at_23 (pc' := 26) rfl (fun v_ h79 hq => ?_)
  obtain ⟨rfl, rfl⟩ := hq
  show own_W l Z x code maxLocals ret room_1 n0 (fun v h => v = some (.int 1)) h0 0 0 26 #[.val (.int x0), .val (.int x1), .val (.int x2), .val (.int x3), .val (.int x4), .val (.int x5), .val (.int c), .val (.int (2 : Int32)), .unset, .unset, .unset, .unset, .unset, .unset, .unset, .unset] [.int (own_idx x2 c)]
  have hka := own_idx_ok x2 c hcp
  refine own_istore (pc' := 28) (Ls' := #[.val (.int x0), .val (.int x1), .val (.int x2), .val (.int x3), .val (.int x4), .val (.int x5), .val (.int c), .val (.int (2 : Int32)), .val (.int (own_idx x2 c)), .unset, .unset, .unset, .unset, .unset, .unset, .unset]) at_26 rfl rfl ?_
  refine own_iloadN (pc' := 29) at_28 rfl rfl ?_
  refine own_iload (pc' := 31) at_29 rfl rfl ?_
  refine own_static (own_idxW l Z a0 hw x3 c h0 n0 hn0) (hw _ (List.mem_of_getElem? (i := 0) rfl)) (hw _ (List.mem_of_getElem? (i := 1) rfl)) (hw _ (List.mem_of_getElem? (i := 2) rfl)) (hw _ (List.mem_of_getElem? (i := 3) rfl)) (plainFor_of_name own_pn0) (by decide) own_pd1 rfl (argsL := [.int x3, .int c]) (rest := []) rfl rfl (W := 0) (Nat.le_refl _) (by decide) (by decide) (by decide) (by decide) rfl at_31 (pc' := 34) rfl (fun v_ h80 hq => ?_)
  obtain ⟨rfl, rfl⟩ := hq
  show own_W l Z x code maxLocals ret room_1 n0 (fun v h => v = some (.int 1)) h0 0 0 34 #[.val (.int x0), .val (.int x1), .val (.int x2), .val (.int x3), .val (.int x4), .val (.int x5), .val (.int c), .val (.int (2 : Int32)), .val (.int (own_idx x2 c)), .unset, .unset, .unset, .unset, .unset, .unset, .unset] [.int (own_idx x3 c)]
  have hkb := own_idx_ok x3 c hcp
  refine own_istore (pc' := 36) (Ls' := #[.val (.int x0), .val (.int x1), .val (.int x2), .val (.int x3), .val (.int x4), .val (.int x5), .val (.int c), .val (.int (2 : Int32)), .val (.int (own_idx x2 c)), .val (.int (own_idx x3 c)), .unset, .unset, .unset, .unset, .unset, .unset]) at_34 rfl rfl ?_
  refine own_iload (pc' := 38) at_36 rfl rfl ?_
  refine own_iload (pc' := 40) at_38 rfl rfl ?_
  refine own_static (own_idxW l Z a0 hw x4 c h0 n0 hn0) (hw _ (List.mem_of_getElem? (i := 0) rfl)) (hw _ (List.mem_of_getElem? (i := 1) rfl)) (hw _ (List.mem_of_getElem? (i := 2) rfl)) (hw _ (List.mem_of_getElem? (i := 3) rfl)) (plainFor_of_name own_pn0) (by decide) own_pd1 rfl (argsL := [.int x4, .int c]) (rest := []) rfl rfl (W := 0) (Nat.le_refl _) (by decide) (by decide) (by decide) (by decide) rfl at_40 (pc' := 43) rfl (fun v_ h81 hq => ?_)
  obtain ⟨rfl, rfl⟩ := hq
  show own_W l Z x code maxLocals ret room_1 n0 (fun v h => v = some (.int 1)) h0 0 0 43 #[.val (.int x0), .val (.int x1), .val (.int x2), .val (.int x3), .val (.int x4), .val (.int x5), .val (.int c), .val (.int (2 : Int32)), .val (.int (own_idx x2 c)), .val (.int (own_idx x3 c)), .unset, .unset, .unset, .unset, .unset, .unset] [.int (own_idx x4 c)]
  have hkd := own_idx_ok x4 c hcp
  refine own_istore (pc' := 45) (Ls' := #[.val (.int x0), .val (.int x1), .val (.int x2), .val (.int x3), .val (.int x4), .val (.int x5), .val (.int c), .val (.int (2 : Int32)), .val (.int (own_idx x2 c)), .val (.int (own_idx x3 c)), .val (.int (own_idx x4 c)), .unset, .unset, .unset, .unset, .unset]) at_43 rfl rfl ?_
  refine own_iload (pc' := 47) at_45 rfl rfl ?_
  refine own_if_ne_t (pc' := 58) at_47 (by decide) (by decide) (by decide) ?_
  refine own_iload (pc' := 60) at_58 rfl rfl ?_
  refine own_iconst (1 : Int32) (pc' := 61) at_60 rfl rfl ?_
  refine own_ic_ne_t (pc' := 77) at_61 (by decide) (by decide) (by decide) ?_
  refine own_iload (pc' := 79) at_77 rfl rfl ?_
  refine own_iconst (2 : Int32) (pc' := 80) at_79 rfl rfl ?_
  refine own_ic_ne_f (pc' := 83) at_80 (by decide) rfl ?_
  refine own_iconst (2 : Int32) (pc' := 84) at_83 rfl rfl ?_
  refine own_newarr (pc' := 86) (ty := .int) (cap := 2) (hw _ (List.mem_of_getElem? (i := 4) rfl)) rfl at_84 rfl (by decide) (by decide) (by decide) (by decide) (by decide) (fun h82 s gt_s lt_s E83 A_s => ?_)
  have ge_s : n0 ≤ s := Nat.le_trans hn0 gt_s
  replace hn0 : n0 ≤ h82.size := Nat.le_trans hn0 E83.1
  replace A_s : own_A Z h82 s .int [.int (0 : Int32), .int (0 : Int32)] := A_s.cast rfl
  refine own_dup (pc' := 87) at_86 rfl rfl ?_
  refine own_iconst (0 : Int32) (pc' := 88) at_87 rfl rfl ?_
  refine own_iload (pc' := 90) at_88 rfl rfl ?_
  refine own_iastore (pc' := 91) A_s (by decide) (by first | decide | (simp only [List.length_cons, List.length_nil, List.length_set, List.length_replicate]; decide)) ge_s at_90 rfl (fun h84 K85 A_new => ?_)
  replace hn0 : n0 ≤ h84.size := Nat.le_trans hn0 K85.1
  replace A_s : own_A Z h84 s .int [.int (own_idx x2 c), .int (0 : Int32)] := A_new.cast rfl
  refine own_dup (pc' := 92) at_91 rfl rfl ?_
  refine own_iconst (1 : Int32) (pc' := 93) at_92 rfl rfl ?_
  refine own_iload (pc' := 95) at_93 rfl rfl ?_
  refine own_iastore (pc' := 96) A_s (by decide) (by first | decide | (simp only [List.length_cons, List.length_nil, List.length_set, List.length_replicate]; decide)) ge_s at_95 rfl (fun h86 K87 A_new => ?_)
  replace hn0 : n0 ≤ h86.size := Nat.le_trans hn0 K87.1
  replace A_s : own_A Z h86 s .int [.int (own_idx x2 c), .int (own_idx x3 c)] := A_new.cast rfl
  refine own_astore (pc' := 98) (Ls' := #[.val (.int x0), .val (.int x1), .val (.int x2), .val (.int x3), .val (.int x4), .val (.int x5), .val (.int c), .val (.int (2 : Int32)), .val (.int (own_idx x2 c)), .val (.int (own_idx x3 c)), .val (.int (own_idx x4 c)), .val (.ref s), .unset, .unset, .unset, .unset]) at_96 rfl rfl ?_
  refine own_goto (pc' := 121) at_98 (by decide) (by decide) ?_
  exact own_more (cells' := 1) (slots' := 3) (by decide) (by decide) (by decide) (by decide) (own_law2 l Z a0 hw x0 x1 x2 x3 x4 x5 c _ _ _ s h86 n0 hn0 hc hc7 A_s hka.1 hka.2 hkb.1 hkb.2)
set_option maxRecDepth 65536 in
set_option maxHeartbeats 40000000 in
theorem own_hd3 (l : Launch) (Z : State) (a0 : Array Value) (hw : ∀ d ∈ tables_1, d.before a0 Z = true) (x0 x1 x2 x3 x4 x5 c : Int32) (h0 : Heap) (n0 : Nat) (hn0 : n0 ≤ h0.size) (hc : ¬ c < 0) (hc7 : c.toNatClampNeg ≤ 7) (hcp : 0 < c) :
    own_W l Z x code maxLocals ret room_1 n0 (fun v h => v = some (.int 1)) h0 0 0 20 #[.val (.int x0), .val (.int x1), .val (.int x2), .val (.int x3), .val (.int x4), .val (.int x5), .val (.int c), .val (.int (3 : Int32)), .unset, .unset, .unset, .unset, .unset, .unset, .unset, .unset] [] := by
  refine own_iloadN (pc' := 21) at_20 rfl rfl ?_
  refine own_iload (pc' := 23) at_21 rfl rfl ?_
  refine own_static (own_idxW l Z a0 hw x2 c h0 n0 hn0) (hw _ (List.mem_of_getElem? (i := 0) rfl)) (hw _ (List.mem_of_getElem? (i := 1) rfl)) (hw _ (List.mem_of_getElem? (i := 2) rfl)) (hw _ (List.mem_of_getElem? (i := 3) rfl)) (plainFor_of_name own_pn0) (by decide) own_pd1 rfl (argsL := [.int x2, .int c]) (rest := []) rfl rfl (W := 0) (Nat.le_refl _) (by decide) (by decide) (by decide) (by decide) rfl at_23 (pc' := 26) rfl (fun v_ h88 hq => ?_)
  obtain ⟨rfl, rfl⟩ := hq
  show own_W l Z x code maxLocals ret room_1 n0 (fun v h => v = some (.int 1)) h0 0 0 26 #[.val (.int x0), .val (.int x1), .val (.int x2), .val (.int x3), .val (.int x4), .val (.int x5), .val (.int c), .val (.int (3 : Int32)), .unset, .unset, .unset, .unset, .unset, .unset, .unset, .unset] [.int (own_idx x2 c)]
  have hka := own_idx_ok x2 c hcp
  refine own_istore (pc' := 28) (Ls' := #[.val (.int x0), .val (.int x1), .val (.int x2), .val (.int x3), .val (.int x4), .val (.int x5), .val (.int c), .val (.int (3 : Int32)), .val (.int (own_idx x2 c)), .unset, .unset, .unset, .unset, .unset, .unset, .unset]) at_26 rfl rfl ?_
  refine own_iloadN (pc' := 29) at_28 rfl rfl ?_
  refine own_iload (pc' := 31) at_29 rfl rfl ?_
  refine own_static (own_idxW l Z a0 hw x3 c h0 n0 hn0) (hw _ (List.mem_of_getElem? (i := 0) rfl)) (hw _ (List.mem_of_getElem? (i := 1) rfl)) (hw _ (List.mem_of_getElem? (i := 2) rfl)) (hw _ (List.mem_of_getElem? (i := 3) rfl)) (plainFor_of_name own_pn0) (by decide) own_pd1 rfl (argsL := [.int x3, .int c]) (rest := []) rfl rfl (W := 0) (Nat.le_refl _) (by decide) (by decide) (by decide) (by decide) rfl at_31 (pc' := 34) rfl (fun v_ h89 hq => ?_)
  obtain ⟨rfl, rfl⟩ := hq
  show own_W l Z x code maxLocals ret room_1 n0 (fun v h => v = some (.int 1)) h0 0 0 34 #[.val (.int x0), .val (.int x1), .val (.int x2), .val (.int x3), .val (.int x4), .val (.int x5), .val (.int c), .val (.int (3 : Int32)), .val (.int (own_idx x2 c)), .unset, .unset, .unset, .unset, .unset, .unset, .unset] [.int (own_idx x3 c)]
  have hkb := own_idx_ok x3 c hcp
  refine own_istore (pc' := 36) (Ls' := #[.val (.int x0), .val (.int x1), .val (.int x2), .val (.int x3), .val (.int x4), .val (.int x5), .val (.int c), .val (.int (3 : Int32)), .val (.int (own_idx x2 c)), .val (.int (own_idx x3 c)), .unset, .unset, .unset, .unset, .unset, .unset]) at_34 rfl rfl ?_
  refine own_iload (pc' := 38) at_36 rfl rfl ?_
  refine own_iload (pc' := 40) at_38 rfl rfl ?_
  refine own_static (own_idxW l Z a0 hw x4 c h0 n0 hn0) (hw _ (List.mem_of_getElem? (i := 0) rfl)) (hw _ (List.mem_of_getElem? (i := 1) rfl)) (hw _ (List.mem_of_getElem? (i := 2) rfl)) (hw _ (List.mem_of_getElem? (i := 3) rfl)) (plainFor_of_name own_pn0) (by decide) own_pd1 rfl (argsL := [.int x4, .int c]) (rest := []) rfl rfl (W := 0) (Nat.le_refl _) (by decide) (by decide) (by decide) (by decide) rfl at_40 (pc' := 43) rfl (fun v_ h90 hq => ?_)
  obtain ⟨rfl, rfl⟩ := hq
  show own_W l Z x code maxLocals ret room_1 n0 (fun v h => v = some (.int 1)) h0 0 0 43 #[.val (.int x0), .val (.int x1), .val (.int x2), .val (.int x3), .val (.int x4), .val (.int x5), .val (.int c), .val (.int (3 : Int32)), .val (.int (own_idx x2 c)), .val (.int (own_idx x3 c)), .unset, .unset, .unset, .unset, .unset, .unset] [.int (own_idx x4 c)]
  have hkd := own_idx_ok x4 c hcp
  refine own_istore (pc' := 45) (Ls' := #[.val (.int x0), .val (.int x1), .val (.int x2), .val (.int x3), .val (.int x4), .val (.int x5), .val (.int c), .val (.int (3 : Int32)), .val (.int (own_idx x2 c)), .val (.int (own_idx x3 c)), .val (.int (own_idx x4 c)), .unset, .unset, .unset, .unset, .unset]) at_43 rfl rfl ?_
  refine own_iload (pc' := 47) at_45 rfl rfl ?_
  refine own_if_ne_t (pc' := 58) at_47 (by decide) (by decide) (by decide) ?_
  refine own_iload (pc' := 60) at_58 rfl rfl ?_
  refine own_iconst (1 : Int32) (pc' := 61) at_60 rfl rfl ?_
  refine own_ic_ne_t (pc' := 77) at_61 (by decide) (by decide) (by decide) ?_
  refine own_iload (pc' := 79) at_77 rfl rfl ?_
  refine own_iconst (2 : Int32) (pc' := 80) at_79 rfl rfl ?_
  refine own_ic_ne_t (pc' := 101) at_80 (by decide) (by decide) (by decide) ?_
  refine own_iconst (3 : Int32) (pc' := 102) at_101 rfl rfl ?_
  refine own_newarr (pc' := 104) (ty := .int) (cap := 3) (hw _ (List.mem_of_getElem? (i := 4) rfl)) rfl at_102 rfl (by decide) (by decide) (by decide) (by decide) (by decide) (fun h91 s gt_s lt_s E92 A_s => ?_)
  have ge_s : n0 ≤ s := Nat.le_trans hn0 gt_s
  replace hn0 : n0 ≤ h91.size := Nat.le_trans hn0 E92.1
  replace A_s : own_A Z h91 s .int [.int (0 : Int32), .int (0 : Int32), .int (0 : Int32)] := A_s.cast rfl
  refine own_dup (pc' := 105) at_104 rfl rfl ?_
  refine own_iconst (0 : Int32) (pc' := 106) at_105 rfl rfl ?_
  refine own_iload (pc' := 108) at_106 rfl rfl ?_
  refine own_iastore (pc' := 109) A_s (by decide) (by first | decide | (simp only [List.length_cons, List.length_nil, List.length_set, List.length_replicate]; decide)) ge_s at_108 rfl (fun h93 K94 A_new => ?_)
  replace hn0 : n0 ≤ h93.size := Nat.le_trans hn0 K94.1
  replace A_s : own_A Z h93 s .int [.int (own_idx x2 c), .int (0 : Int32), .int (0 : Int32)] := A_new.cast rfl
  refine own_dup (pc' := 110) at_109 rfl rfl ?_
  refine own_iconst (1 : Int32) (pc' := 111) at_110 rfl rfl ?_
  refine own_iload (pc' := 113) at_111 rfl rfl ?_
  refine own_iastore (pc' := 114) A_s (by decide) (by first | decide | (simp only [List.length_cons, List.length_nil, List.length_set, List.length_replicate]; decide)) ge_s at_113 rfl (fun h95 K96 A_new => ?_)
  replace hn0 : n0 ≤ h95.size := Nat.le_trans hn0 K96.1
  replace A_s : own_A Z h95 s .int [.int (own_idx x2 c), .int (own_idx x3 c), .int (0 : Int32)] := A_new.cast rfl
  refine own_dup (pc' := 115) at_114 rfl rfl ?_
  refine own_iconst (2 : Int32) (pc' := 116) at_115 rfl rfl ?_
  refine own_iload (pc' := 118) at_116 rfl rfl ?_
  refine own_iastore (pc' := 119) A_s (by decide) (by first | decide | (simp only [List.length_cons, List.length_nil, List.length_set, List.length_replicate]; decide)) ge_s at_118 rfl (fun h97 K98 A_new => ?_)
  replace hn0 : n0 ≤ h97.size := Nat.le_trans hn0 K98.1
  replace A_s : own_A Z h97 s .int [.int (own_idx x2 c), .int (own_idx x3 c), .int (own_idx x4 c)] := A_new.cast rfl
  refine own_astore (pc' := 121) (Ls' := #[.val (.int x0), .val (.int x1), .val (.int x2), .val (.int x3), .val (.int x4), .val (.int x5), .val (.int c), .val (.int (3 : Int32)), .val (.int (own_idx x2 c)), .val (.int (own_idx x3 c)), .val (.int (own_idx x4 c)), .val (.ref s), .unset, .unset, .unset, .unset]) at_119 rfl rfl ?_
  exact own_more (cells' := 1) (slots' := 3) (by decide) (by decide) (by decide) (by decide) (own_law3 l Z a0 hw x0 x1 x2 x3 x4 x5 c _ _ _ s h97 n0 hn0 hc hc7 A_s hka.1 hka.2 hkb.1 hkb.2 hkd.1 hkd.2)
set_option maxRecDepth 65536 in
set_option maxHeartbeats 40000000 in
theorem own_law (l : Launch) (Z : State) (a0 : Array Value) (hw : ∀ d ∈ tables_1, d.before a0 Z = true) (x0 x1 x2 x3 x4 x5 : Int32) (h0 : Heap) (n0 : Nat) (hn0 : n0 ≤ h0.size) :
    own_W l Z x code maxLocals ret room_1 n0 (fun v h => v = some (.int 1)) h0 0 0 0 #[.val (.int x0), .val (.int x1), .val (.int x2), .val (.int x3), .val (.int x4), .val (.int x5), .unset, .unset, .unset, .unset, .unset, .unset, .unset, .unset, .unset, .unset] [] := by
  refine own_iloadN (pc' := 1) at_0 rfl rfl ?_
  refine own_bipush (7 : Int32) (pc' := 3) at_1 rfl rfl ?_
  refine own_iand (pc' := 4) at_3 rfl ?_
  have hm := c_and x0 7 (by decide)
  have e7 : (7 : Int32).toInt = 7 := rfl
  generalize hc_ : (x0 &&& (7 : Int32)) = c
  rw [hc_, e7] at hm
  have hc : ¬ c < 0 := by rw [Int32.lt_iff_toInt_lt]; have z : (0 : Int32).toInt = 0 := rfl; omega
  have hc7 : c.toNatClampNeg ≤ 7 := by rw [Int32.toNatClampNeg]; omega
  refine own_istore (pc' := 6) (Ls' := #[.val (.int x0), .val (.int x1), .val (.int x2), .val (.int x3), .val (.int x4), .val (.int x5), .val (.int c), .unset, .unset, .unset, .unset, .unset, .unset, .unset, .unset, .unset]) at_4 rfl rfl ?_
  refine own_iload (pc' := 8) at_6 rfl rfl ?_
  refine own_if_ne (pc' := 15) (pf := 11) at_8 (by decide) (by decide) rfl (fun h_8 => ?_) (fun h_8 => ?_)
  · have hcp : 0 < c := by rw [Int32.lt_iff_toInt_lt] at hc ⊢; rw [← Int32.toInt_inj] at h_8; have z : (0 : Int32).toInt = 0 := rfl; omega
    refine own_iloadN (pc' := 16) at_15 rfl rfl ?_
    refine own_iconst (3 : Int32) (pc' := 17) at_16 rfl rfl ?_
    refine own_iand (pc' := 18) at_17 rfl ?_
    have hn := c_and x1 3 (by decide)
    have e3 : (3 : Int32).toInt = 3 := rfl
    generalize hn_ : (x1 &&& (3 : Int32)) = n
    rw [hn_, e3] at hn
    refine own_istore (pc' := 20) (Ls' := #[.val (.int x0), .val (.int x1), .val (.int x2), .val (.int x3), .val (.int x4), .val (.int x5), .val (.int c), .val (.int n), .unset, .unset, .unset, .unset, .unset, .unset, .unset, .unset]) at_18 rfl rfl ?_
    have hcs : n = 0 ∨ n = 1 ∨ n = 2 ∨ n = 3 := by simp only [← Int32.toInt_inj, Int32.reduceToInt]; omega
    rcases hcs with rfl | rfl | rfl | rfl
    · exact own_hd0 l Z a0 hw x0 x1 x2 x3 x4 x5 c h0 n0 hn0 hc hc7
    · exact own_hd1 l Z a0 hw x0 x1 x2 x3 x4 x5 c h0 n0 hn0 hc hc7 hcp
    · exact own_hd2 l Z a0 hw x0 x1 x2 x3 x4 x5 c h0 n0 hn0 hc hc7 hcp
    · exact own_hd3 l Z a0 hw x0 x1 x2 x3 x4 x5 c h0 n0 hn0 hc hc7 hcp
  · refine own_iconst (0 : Int32) (pc' := 12) at_11 rfl rfl ?_
    refine own_goto (pc' := 18) at_12 (by decide) (by decide) ?_
    refine own_istore (pc' := 20) (Ls' := #[.val (.int x0), .val (.int x1), .val (.int x2), .val (.int x3), .val (.int x4), .val (.int x5), .val (.int c), .val (.int (0 : Int32)), .unset, .unset, .unset, .unset, .unset, .unset, .unset, .unset]) at_18 rfl rfl ?_
    exact own_hd0 l Z a0 hw x0 x1 x2 x3 x4 x5 c h0 n0 hn0 hc hc7
set_option maxRecDepth 65536 in
set_option maxHeartbeats 40000000 in
theorem comes_1 {Post : Tables → Env → Array Value → State → Outcome → State → Prop} (hpost : ∀ tb e args s v u, (limb_1_1.after args s (.returned v) u = true ∧ limb_1_2.after args s (.returned v) u = true ∧ True) → FrameEnd s (.returned v) u (Jvm.fieldLocs frame_1_writes args s ++ Jvm.arrayLocs frame_1_arrays args s ++ Jvm.staticLocs frame_1_statics s) 24 128 → Post tb e args s (.returned v) u) :
    ArmFor flags0 classFile x code maxLocals ret World_1 tables_1 room_1 Calls_1 rest_1 Pre_1 Post := by
  intro l hfl _ _ p e ha hc hk s m args below hf hA hF happ hP
  obtain ⟨hcalls, hrest, hpre⟩ := hP
  obtain ⟨-, -, -, hnamed, -, -, -, hat⟩ := (Spec.applies_iff hf).mp happ
  obtain ⟨hg, hn⟩ := and_e (Cond.before_iff.mp (show (Jvm.Cond.and given_1 narrow_1).before args s = true from hpre))
  obtain ⟨hcount, hg0⟩ := and_e hg
  obtain ⟨w0, w1, w2, w3, w4, w5, rfl⟩ : ∃ w0 w1 w2 w3 w4 w5 : Value, args = #[w0, w1, w2, w3, w4, w5] := by
    have hs : args.size = 6 := by simpa [Cond.value, given_1] using hcount
    obtain ⟨L⟩ := args
    match L, hs with
    | [w0, w1, w2, w3, w4, w5], _ => exact ⟨w0, w1, w2, w3, w4, w5, rfl⟩
  have hw := fun d (hd : d ∈ tables_1) => atoms_spec (ws := Jvm.Cond.code x code maxLocals ret :: tables_1) hat d (List.mem_cons_of_mem _ hd)
  obtain ⟨hg0v, hg1⟩ := and_e hg0
  obtain ⟨x0, e0⟩ := is_v hg0v
  obtain rfl : w0 = (.int x0) := Option.some.inj e0
  obtain ⟨hg1v, hg2⟩ := and_e hg1
  obtain ⟨x1, e1⟩ := is_v hg1v
  obtain rfl : w1 = (.int x1) := Option.some.inj e1
  obtain ⟨hg2v, hg3⟩ := and_e hg2
  obtain ⟨x2, e2⟩ := is_v hg2v
  obtain rfl : w2 = (.int x2) := Option.some.inj e2
  obtain ⟨hg3v, hg4⟩ := and_e hg3
  obtain ⟨x3, e3⟩ := is_v hg3v
  obtain rfl : w3 = (.int x3) := Option.some.inj e3
  obtain ⟨hg4v, hg5⟩ := and_e hg4
  obtain ⟨x4, e4⟩ := is_v hg4v
  obtain rfl : w4 = (.int x4) := Option.some.inj e4
  obtain ⟨x5, e5⟩ := is_v hg5
  obtain rfl : w5 = (.int x5) := Option.some.inj e5
  obtain ⟨n, o, h1, h2, h3, _, L, rfl, ⟨hq1, N⟩, hq⟩ := own_met (argsL := [.int x0, .int x1, .int x2, .int x3, .int x4, .int x5]) (own_law l s _ hw x0 x1 x2 x3 x4 x5 s.heap s.heap.size (Nat.le_refl _)) (plainFor_of_name own_pn0) rfl tables_1 p e ha hc hk s m _ below hf ((Spec.applies_iff_loose hf).mp happ).1 ⟨rfl, State.Warmed39.refl s, rfl⟩ trivial
  subst hq1
  refine ⟨n, _, h1, h2, h3, hpost _ _ _ _ _ _ ⟨Cond.after_iff.mpr rfl, Cond.after_iff.mpr (eq_i res_at (Term.int_eval (1)) rfl), trivial⟩ ⟨hq.1, hq.2.1, (hq.2.2.sift fun y hy => Or.inr (N y hy)).mono (by decide) (by decide)⟩⟩
theorem main_1_1 : Claimed_1_1 := comes_1 fun _ _ _ _ _ _ h hF => ⟨h.1, hF⟩
theorem main_1_2 : Claimed_1_2 := comes_1 fun _ _ _ _ _ _ h hF => ⟨h.2.1, hF⟩
end Jvm.Pilot.@@N@@
namespace Jvm.Pilot.@@N@@
open Jvm Jvm.ClassFile Sem Op Lib Jvm.Free Jvm.Stand Jvm.Pilot.@@N@@.Jvm.D
/-! MADE BY PROGRAM (witnessworld.py) out of the Statement's table words and the real class files: 12 classes; the members and pool entries that the words name. The judged class is class 1, her method 1. -/
namespace start1
open Jvm.ClassFile
def u (s : String) : CpInfo := .utf8 (stringToUtf16 s)
/-- a pool by its gaps: so many unusable entries, then the entry; so many at the end -/
def gap : Nat → List CpInfo → List CpInfo
  | 0, r => r
  | n + 1, r => .unusable :: gap n r
def poolList (es : List (Nat × CpInfo)) (last : Nat) : List CpInfo := es.foldr (fun e r => gap e.1 (e.2 :: r)) (gap last [])
def pool (es : List (Nat × CpInfo)) (last : Nat) : Array CpInfo := ⟨poolList es last⟩
def fileOf (pool : Array CpInfo) (this : Nat) (attrs : Array Attribute := #[]) (ms : Array MethodInfo := #[]) (fl : Nat := 33) (sup : Nat := 0) (ifs : Array Nat := #[]) (fds : Array FieldInfo := #[]) : ClassFile where
  minorVersion := 0
  majorVersion := 65
  constantPool := pool
  accessFlags := fl
  thisClass := this
  superClass := sup
  interfaces := ifs
  fields := fds
  methods := ms
  attributes := attrs
def plain (name : String) (sup : Option ClassId) : Class where
  name := name
  kind := .ordinary
  loader := none
  accessFlags := 33
  super := sup
  interfaces := #[]
  cf := none
  fields := #[]
  methods := #[]
  instanceTypes := #[]
  staticTypes := #[]
  resolved := #[]
  callSites := []
  init := .initialized
  statics := none
  mirror := none

def pool0 : Array CpInfo := pool [(5, u "<init>"), (0, u "()V"), (1, .class_ 10), (1, u "java/lang/Object")] 113

def k0c0 : Code := { maxStack := 0, maxLocals := 1, code := object_method_1_code, exceptionTable := #[], attributes := #[] }
def k0m0 : Method := { name := "<init>", desc := "()V", sig := { parameters := [], returnType := none }, accessFlags := 1, code := some k0c0 }
/-- java/lang/Object -/
def k0 : Class := { plain "java/lang/Object" none with
  accessFlags := 33
  interfaces := #[]
  cf := some (fileOf pool0 8 #[] #[{ accessFlags := 1, nameIndex := 5, descriptorIndex := 6, attributes := #[] }] 33 0 #[] #[])
  fields := #[]
  methods := #[k0m0]
  instanceTypes := #[]
  staticTypes := #[]
  resolved := Array.replicate 124 none
  statics := none }

def pool1 : Array CpInfo := pool [(2, .class_ 4), (1, u "java/lang/Object"), (0, u "<init>"), (0, u "()V"), (0, .methodref 8 9), (0, .class_ 10), (0, .nameAndType 11 12), (0, u "com/example/tumbleweave/tumbleweave/diff/KindsPresentPinLaw"), (0, u "idx"), (0, u "(II)I"), (0, .class_ 14), (0, u "com/example/tumbleweave/tumbleweave/diff/Kinds"), (0, .methodref 13 16), (0, .nameAndType 5 17), (0, u "([I[II)V"), (0, .methodref 13 19), (0, .nameAndType 20 21), (0, u "present"), (0, u "([I)[Z"), (0, .integer 2147483647), (2, u "law"), (0, u "(IIIIII)Z")] 7

def k1m0 : Method := { name := "<init>", desc := "()V", sig := { parameters := [], returnType := none }, accessFlags := 1, code := none }
def k1c1 : Code := { maxStack := 5, maxLocals := 16, code := code, exceptionTable := #[], attributes := #[] }
def k1m1 : Method := { name := "law", desc := "(IIIIII)Z", sig := { parameters := [.int, .int, .int, .int, .int, .int], returnType := some .boolean }, accessFlags := 9, code := some k1c1 }
def k1c2 : Code := { maxStack := 2, maxLocals := 2, code := method_3_code, exceptionTable := #[], attributes := #[] }
def k1m2 : Method := { name := "idx", desc := "(II)I", sig := { parameters := [.int, .int], returnType := some .int }, accessFlags := 10, code := some k1c2 }
/-- com/example/tumbleweave/tumbleweave/diff/KindsPresentPinLaw -/
def k1 : Class := { plain "com/example/tumbleweave/tumbleweave/diff/KindsPresentPinLaw" (some 0) with
  accessFlags := 49
  interfaces := #[]
  cf := some (fileOf pool1 8 #[] #[{ accessFlags := 1, nameIndex := 5, descriptorIndex := 6, attributes := #[] }, { accessFlags := 9, nameIndex := 25, descriptorIndex := 26, attributes := #[] }, { accessFlags := 10, nameIndex := 11, descriptorIndex := 12, attributes := #[] }] 49 2 #[] #[])
  fields := #[]
  methods := #[k1m0, k1m1, k1m2]
  instanceTypes := #[]
  staticTypes := #[]
  resolved := Array.replicate 34 none
  statics := none }

def pool2 : Array CpInfo := pool [(1, .methodref 2 3), (0, .class_ 4), (0, .nameAndType 5 6), (0, u "java/lang/Object"), (0, u "<init>"), (0, u "()V"), (0, .class_ 8), (0, u "java/lang/Record")] 13

def k2c0 : Code := { maxStack := 1, maxLocals := 1, code := jdk_30_method_1_code, exceptionTable := #[], attributes := #[] }
def k2m0 : Method := { name := "<init>", desc := "()V", sig := { parameters := [], returnType := none }, accessFlags := 4, code := some k2c0 }
/-- java/lang/Record -/
def k2 : Class := { plain "java/lang/Record" (some 0) with
  accessFlags := 1057
  interfaces := #[]
  cf := some (fileOf pool2 7 #[] #[{ accessFlags := 4, nameIndex := 5, descriptorIndex := 6, attributes := #[] }] 1057 2 #[] #[])
  fields := #[]
  methods := #[k2m0]
  instanceTypes := #[]
  staticTypes := #[]
  resolved := Array.replicate 22 none
  statics := none }

def pool3 : Array CpInfo := pool [(1, .methodref 2 3), (0, .class_ 4), (0, .nameAndType 5 6), (0, u "java/lang/Record"), (0, u "<init>"), (0, u "()V"), (0, .fieldref 8 9), (0, .class_ 10), (0, .nameAndType 11 12), (0, u "com/example/tumbleweave/tumbleweave/diff/Kinds"), (0, u "old"), (0, u "[I"), (0, .fieldref 8 14), (0, .nameAndType 15 12), (0, u "now"), (0, .fieldref 8 17), (0, .nameAndType 18 19), (0, u "count"), (0, u "I"), (15, u "([I[II)V"), (49, u "present"), (0, u "([I)[Z")] 32

def k3c0 : Code := { maxStack := 2, maxLocals := 4, code := prog_38_method_1_code, exceptionTable := #[], attributes := #[] }
def k3m0 : Method := { name := "<init>", desc := "([I[II)V", sig := { parameters := [(.array .int), (.array .int), .int], returnType := none }, accessFlags := 0, code := some k3c0 }
def k3c1 : Code := { maxStack := 3, maxLocals := 7, code := prog_38_method_3_code, exceptionTable := #[], attributes := #[] }
def k3m1 : Method := { name := "present", desc := "([I)[Z", sig := { parameters := [(.array .int)], returnType := some (.array .boolean) }, accessFlags := 0, code := some k3c1 }
/-- com/example/tumbleweave/tumbleweave/diff/Kinds -/
def k3 : Class := { plain "com/example/tumbleweave/tumbleweave/diff/Kinds" (some 2) with
  accessFlags := 48
  interfaces := #[]
  cf := some (fileOf pool3 8 #[] #[{ accessFlags := 0, nameIndex := 5, descriptorIndex := 35, attributes := #[] }, { accessFlags := 0, nameIndex := 85, descriptorIndex := 86, attributes := #[] }] 48 2 #[] #[{ accessFlags := 18, nameIndex := 11, descriptorIndex := 12, attributes := #[] }, { accessFlags := 18, nameIndex := 15, descriptorIndex := 12, attributes := #[] }, { accessFlags := 18, nameIndex := 18, descriptorIndex := 19, attributes := #[] }])
  fields := #[{ name := "old", type := (.array .int), accessFlags := 18, slot := 0, constantValue := 0 }, { name := "now", type := (.array .int), accessFlags := 18, slot := 1, constantValue := 0 }, { name := "count", type := .int, accessFlags := 18, slot := 2, constantValue := 0 }]
  methods := #[k3m0, k3m1]
  instanceTypes := #[(.array .int), (.array .int), .int]
  staticTypes := #[]
  resolved := Array.replicate 119 none
  statics := none }

def pool4 : Array CpInfo := pool [(1, u "java/lang/Cloneable"), (0, .class_ 1), (0, u "java/lang/Object"), (0, .class_ 3)] 3

/-- java/lang/Cloneable -/
def k4 : Class := { plain "java/lang/Cloneable" (some 0) with
  accessFlags := 1537
  interfaces := #[]
  cf := some (fileOf pool4 2 #[] #[] 1537 4 #[] #[])
  fields := #[]
  methods := #[]
  instanceTypes := #[]
  staticTypes := #[]
  resolved := Array.replicate 8 none
  statics := none }

def pool5 : Array CpInfo := pool [(1, u "java/io/Serializable"), (0, .class_ 1), (0, u "java/lang/Object"), (0, .class_ 3)] 3

/-- java/io/Serializable -/
def k5 : Class := { plain "java/io/Serializable" (some 0) with
  accessFlags := 1537
  interfaces := #[]
  cf := some (fileOf pool5 2 #[] #[] 1537 4 #[] #[])
  fields := #[]
  methods := #[]
  instanceTypes := #[]
  staticTypes := #[]
  resolved := Array.replicate 8 none
  statics := none }

/-- the primitive boolean -/
def k6 : Class := { plain "boolean" none with kind := .primitive 'Z', accessFlags := 0x411 }
/-- [Z -/
def k7 : Class := { plain "[Z" (some 0) with kind := .array 6 .boolean, interfaces := #[4, 5], accessFlags := 1041 }

/-- the primitive byte -/
def k8 : Class := { plain "byte" none with kind := .primitive 'B', accessFlags := 0x411 }
/-- [B -/
def k9 : Class := { plain "[B" (some 0) with kind := .array 8 .byte, interfaces := #[4, 5], accessFlags := 1041 }

/-- the primitive int -/
def k10 : Class := { plain "int" none with kind := .primitive 'I', accessFlags := 0x411 }
/-- [I -/
def k11 : Class := { plain "[I" (some 0) with kind := .array 10 .int, interfaces := #[4, 5], accessFlags := 1041 }

def heap : Heap := #[]
def classes : Array Class := #[k0, k1, k2, k3, k4, k5, k6, k7, k8, k9, k10, k11]
def interned : List (Array UInt16 × Addr) := []
def slotsUsed : Nat := 0
def theMethod : MethodId := ⟨1, 1⟩
def args0 : Array Value := #[.int 5, .int 5, .int 5, .int 5, .int 5, .int 5]
def aboutOver (below : List Frame) : State where
  vm := { classes := classes, interned := interned.toArray }
  heap := heap
  slotsUsed := slotsUsed
  threads := #[{ frames := .invoking theMethod args0 :: below }]
def below0 : List Frame := [.native { method := ⟨0, 0⟩, args := #[] }]
def about1 : State := aboutOver below0
def p0 : Program := .bare "" "" ""
def e0 : Env := launch0.env 0 0 0
theorem w_frames : about1.frames = Frame.invoking theMethod args0 :: below0 := rfl
set_option maxRecDepth 65536 in
theorem w_args : argsFit about1.vm theMethod args0 = true := by decide +kernel
set_option maxRecDepth 65536 in
theorem w_heap : heapFits about1 = true := by decide +kernel
set_option maxRecDepth 65536 in
theorem w_runnable : about1.curStatus? = some .runnable := by decide +kernel
set_option maxRecDepth 65536 in
theorem w_alone : about1.alone = true := by decide +kernel
set_option maxRecDepth 65536 in
theorem w_named : about1.methodNamed? x = some theMethod := by decide +kernel
set_option maxRecDepth 65536 in
theorem w_hears : about1.hears theMethod below0 = true := by decide +kernel
set_option maxRecDepth 65536 in
theorem w_ripe : about1.ripe theMethod args0 below0 = true := by decide +kernel
theorem w_running : about1.status = .running := rfl
set_option maxRecDepth 65536 in
theorem w_room : about1.hasRoom e0.platform room_1 = true :=
  launch0.hasRoom_least _ room_1 (by decide +kernel) (by decide +kernel) (by decide +kernel) (by decide +kernel) (by decide +kernel) (by decide +kernel)
theorem allAtoms_all (ts : List Jvm.Cond) (a : Array Jvm.Value) (st : Jvm.State) : (allAtoms ts).before a st = ts.all (fun c => c.before a st) := by
  induction ts with
  | nil => rfl
  | cons c t ih =>
    show (Jvm.Cond.and c (allAtoms t)).before a st = _
    rw [Jvm.Cond.before_and, ih, List.all_cons]
def words1 : List Jvm.Cond := Jvm.Cond.code x code maxLocals ret :: tables_1
/-- a 'code' word, met by the world's own term for the bytes: nothing is compared byte by byte -/
theorem code_word {y : MethodName} {bytes : ByteArray} {mx : Nat} {rt : Option FieldType} {a : Array Value} {s : State} {m : MethodId} {meth : Method} {c : Code} (h1 : s.methodNamed? y = some m) (h2 : s.vm.method? m = some meth) (h3 : meth.code = some c) (h4 : c.code = bytes)
    (h5 : (c.maxLocals == mx && c.exceptionTable.isEmpty && decide (c.maxStack ≤ mostOperands) && decide (meth.sig.returnType = rt) && !meth.locks && decide (parseMethodDescriptor y.desc = some meth.sig)) = true) : (Jvm.Cond.code y bytes mx rt).before a s = true := by
  simp only [Bool.and_eq_true, beq_iff_eq, Bool.not_eq_true', decide_eq_true_eq] at h5
  obtain ⟨⟨⟨⟨⟨g1, g2⟩, g3⟩, g4⟩, g5⟩, g6⟩ := h5
  simp [Cond.before, Cond.holds, Cond.value, h1, h2, h3, h4, g1, g2, g3, g4, g5, g6]
def isCode : Jvm.Cond → Bool
  | .code _ _ _ _ => true
  | _ => false
theorem all_split {L : List Jvm.Cond} {P : Jvm.Cond → Bool} (h1 : L.all (fun c => isCode c || P c) = true) (h2 : ∀ c ∈ L.filter isCode, P c = true) : L.all P = true := by
  refine List.all_eq_true.mpr fun c hc => ?_
  have h := List.all_eq_true.mp h1 c hc
  rcases Bool.eq_false_or_eq_true (isCode c) with hi | hi
  · exact h2 c (List.mem_filter.mpr ⟨hc, hi⟩)
  · simpa [hi] using h
set_option maxRecDepth 65536 in
theorem w_c0 : (Jvm.Cond.code x code maxLocals ret).before args0 about1 = true := code_word (m := ⟨1, 1⟩) (meth := k1m1) (c := k1c1) (by decide +kernel) rfl rfl rfl (by decide +kernel)
set_option maxRecDepth 65536 in
theorem w_c1 : (Jvm.Cond.code ({ cls := "com/example/tumbleweave/tumbleweave/diff/KindsPresentPinLaw", name := "idx", desc := "(II)I" } : Jvm.MethodName) method_3_code (2 : Nat) (Option.some Jvm.ClassFile.FieldType.int)).before args0 about1 = true := code_word (m := ⟨1, 2⟩) (meth := k1m2) (c := k1c2) (by decide +kernel) rfl rfl rfl (by decide +kernel)
set_option maxRecDepth 65536 in
theorem w_c2 : (Jvm.Cond.code ({ cls := "com/example/tumbleweave/tumbleweave/diff/Kinds", name := "<init>", desc := "([I[II)V" } : Jvm.MethodName) prog_38_method_1_code (4 : Nat) (Option.none : Option Jvm.ClassFile.FieldType)).before args0 about1 = true := code_word (m := ⟨3, 0⟩) (meth := k3m0) (c := k3c0) (by decide +kernel) rfl rfl rfl (by decide +kernel)
set_option maxRecDepth 65536 in
theorem w_c3 : (Jvm.Cond.code ({ cls := "java/lang/Record", name := "<init>", desc := "()V" } : Jvm.MethodName) jdk_30_method_1_code (1 : Nat) (Option.none : Option Jvm.ClassFile.FieldType)).before args0 about1 = true := code_word (m := ⟨2, 0⟩) (meth := k2m0) (c := k2c0) (by decide +kernel) rfl rfl rfl (by decide +kernel)
set_option maxRecDepth 65536 in
theorem w_c4 : (Jvm.Cond.code ({ cls := "java/lang/Object", name := "<init>", desc := "()V" } : Jvm.MethodName) object_method_1_code (1 : Nat) (Option.none : Option Jvm.ClassFile.FieldType)).before args0 about1 = true := code_word (m := ⟨0, 0⟩) (meth := k0m0) (c := k0c0) (by decide +kernel) rfl rfl rfl (by decide +kernel)
set_option maxRecDepth 65536 in
theorem w_c5 : (Jvm.Cond.code ({ cls := "com/example/tumbleweave/tumbleweave/diff/Kinds", name := "present", desc := "([I)[Z" } : Jvm.MethodName) prog_38_method_3_code (7 : Nat) (Option.some (Jvm.ClassFile.FieldType.array Jvm.ClassFile.FieldType.boolean))).before args0 about1 = true := code_word (m := ⟨3, 1⟩) (meth := k3m1) (c := k3c1) (by decide +kernel) rfl rfl rfl (by decide +kernel)
def codes1 : List Jvm.Cond := [Jvm.Cond.code x code maxLocals ret, Jvm.Cond.code ({ cls := "com/example/tumbleweave/tumbleweave/diff/KindsPresentPinLaw", name := "idx", desc := "(II)I" } : Jvm.MethodName) method_3_code (2 : Nat) (Option.some Jvm.ClassFile.FieldType.int), Jvm.Cond.code ({ cls := "com/example/tumbleweave/tumbleweave/diff/Kinds", name := "<init>", desc := "([I[II)V" } : Jvm.MethodName) prog_38_method_1_code (4 : Nat) (Option.none : Option Jvm.ClassFile.FieldType), Jvm.Cond.code ({ cls := "java/lang/Record", name := "<init>", desc := "()V" } : Jvm.MethodName) jdk_30_method_1_code (1 : Nat) (Option.none : Option Jvm.ClassFile.FieldType), Jvm.Cond.code ({ cls := "java/lang/Object", name := "<init>", desc := "()V" } : Jvm.MethodName) object_method_1_code (1 : Nat) (Option.none : Option Jvm.ClassFile.FieldType), Jvm.Cond.code ({ cls := "com/example/tumbleweave/tumbleweave/diff/Kinds", name := "present", desc := "([I)[Z" } : Jvm.MethodName) prog_38_method_3_code (7 : Nat) (Option.some (Jvm.ClassFile.FieldType.array Jvm.ClassFile.FieldType.boolean))]
set_option maxRecDepth 65536 in
theorem codes_eq : words1.filter isCode = codes1 := rfl
theorem w_codes : ∀ c ∈ words1.filter isCode, c.before args0 about1 = true := by
  rw [codes_eq]
  intro c hc
  simp only [codes1, List.mem_cons, List.not_mem_nil, or_false] at hc
  rcases hc with rfl | rfl | rfl | rfl | rfl | rfl
  · exact w_c0
  · exact w_c1
  · exact w_c2
  · exact w_c3
  · exact w_c4
  · exact w_c5
set_option maxRecDepth 65536 in
theorem w_t1 : (words1.take 24).all (fun c => isCode c || c.before args0 about1) = true := by decide +kernel
set_option maxRecDepth 65536 in
theorem w_t2 : (words1.drop 24).all (fun c => isCode c || c.before args0 about1) = true := by decide +kernel
theorem w_tables : (allAtoms (Jvm.Cond.code x code maxLocals ret :: tables_1)).before args0 about1 = true := by
  rw [allAtoms_all]
  show words1.all (fun c => c.before args0 about1) = true
  refine all_split ?_ w_codes
  rw [← List.take_append_drop 24 words1, List.all_append, w_t1, w_t2]
  rfl
set_option maxRecDepth 65536 in
theorem w_case : (Jvm.Cond.and given_1 narrow_1).before args0 about1 = true := by decide +kernel
theorem w_applies : (headSpec (Jvm.Cond.code x code maxLocals ret :: tables_1) room_1).applies x e0.platform about1 = true :=
  (Spec.applies_iff w_frames).mpr ⟨w_running, w_runnable, w_alone, w_named, w_hears, w_ripe, w_room, w_tables⟩
theorem atStart : AtStart classFile x code maxLocals ret World_1 tables_1 room_1 Calls_1 rest_1 Pre_1 launch0 p0 e0 about1 theMethod args0 below0 :=
  ⟨lists_1, trivial, launch0.admits_env _ _ _, launch0.least_env, fairChoices_fair.cas, fairChoices_fair.clock, w_frames, w_args, w_heap, w_applies, trivial, trivial, w_case⟩
end start1
theorem witness_1 : WitnessClaimed_1 := ⟨start1.p0, start1.e0, start1.about1, start1.theMethod, start1.args0, start1.below0, start1.atStart⟩
end Jvm.Pilot.@@N@@

import JvmDerived
import JvmDerived.Pilot.@@N@@Statement
import JvmDerived.Pilot.@@N@@Code
set_option linter.unusedVariables false
set_option linter.unusedSimpArgs false
namespace Jvm.Pilot.@@N@@
open Jvm Jvm.ClassFile Sem Op Lib Jvm.Free Jvm.Stand Jvm.LawKit Jvm.RoadKit Bundle Jvm.Pilot.@@N@@.Jvm.D
-- LAYER BEGIN
section OwnW
variable {l : Launch} {Z : State} {y : MethodName} {bytes : ByteArray} {ml : Nat} {ret : Option FieldType} {R : Room} {n0 : Nat} {Q : Option Value → Heap → Prop} {h : Heap} {cells slots pc pc' : Nat} {Ls Ls' : Array Slot} {st st' : List Value} {a0 : Array Value}
/-- from this point of the body (heap h, so many cells and slots made, at pc with these locals and this stack) every run returns; Q holds of the value and the heap; all that was written lies at or above n0 -/
def own_W (l : Launch) (Z : State) (y : MethodName) (bytes : ByteArray) (ml : Nat) (ret : Option FieldType) (R : Room) (n0 : Nat) (Q : Option Value → Heap → Prop) (h : Heap) (cells slots pc : Nat) (Ls : Array Slot) (st : List Value) : Prop :=
  ∀ (p : Program) (e : Env) (s : State) (m : MethodId) (args : Array Value) (below : List Frame) (meth : Method) (c : Code) (T : State) (locs : List Loc),
    p.tables.exec = Jvm.exec → Z.Warmed39 s.vm → s.vm.findClass y.cls = some m.cls → c.code = bytes → c.maxLocals = ml → meth.sig.returnType = ret → meth.locks = false → meth.name = y.name → cells ≤ R.cells → slots ≤ R.slots →
    Stand p l e R s m args below meth c T locs cells slots → T.heap = h → Fr n0 locs →
    ∃ s₂ o, Steps p.tables e below (T.setTop (mkF m pc Ls st)) s₂ ∧ s₂.status = .running ∧ Ended s₂ below o ∧ ∃ v L, o = .returned v ∧ (Q v s₂.heap ∧ Fr n0 L) ∧ FrameEnd s o s₂ L R.cells R.slots
theorem own_pure (hs : ∀ (p : Program) (e : Env) (below : List Frame) (T target : State) (m : MethodId) (c : Code), At T m c below → p.tables.exec = Jvm.exec → c.code = bytes → Steps p.tables e below (T.setTop (mkF m pc' Ls' st')) target → Steps p.tables e below (T.setTop (mkF m pc Ls st)) target)
    (k : own_W l Z y bytes ml ret R n0 Q h cells slots pc' Ls' st') : own_W l Z y bytes ml ret R n0 Q h cells slots pc Ls st := by
  intro p e s m args below meth c T locs hx hZ hown hby hml hret hlk hnm hce hsl X eT N
  obtain ⟨s₂, o, h1, h2⟩ := k p e s m args below meth c T locs hx hZ hown hby hml hret hlk hnm hce hsl X eT N
  exact ⟨s₂, o, hs p e below T s₂ m c X.here hx hby h1, h2⟩
theorem own_more {cells' slots' : Nat} (hc : cells ≤ cells') (hs : slots ≤ slots') (hc' : cells' ≤ R.cells) (hs' : slots' ≤ R.slots) (k : own_W l Z y bytes ml ret R n0 Q h cells' slots' pc Ls st) : own_W l Z y bytes ml ret R n0 Q h cells slots pc Ls st := by
  intro p e s m args below meth c T locs hx hZ hown hby hml hret hlk hnm hce hsl X eT N
  exact k p e s m args below meth c T locs hx hZ hown hby hml hret hlk hnm hc' hs' (X.more hc hs) eT N
theorem own_weak {Q' : Option Value → Heap → Prop} (hq : ∀ v h, Q' v h → Q v h) (k : own_W l Z y bytes ml ret R n0 Q' h cells slots pc Ls st) : own_W l Z y bytes ml ret R n0 Q h cells slots pc Ls st := by
  intro p e s m args below meth c T locs hx hZ hown hby hml hret hlk hnm hce hsl X eT N
  obtain ⟨s₂, o, h1, h2, h3, v, L, h4, ⟨h5, h6⟩, h7⟩ := k p e s m args below meth c T locs hx hZ hown hby hml hret hlk hnm hce hsl X eT N
  exact ⟨s₂, o, h1, h2, h3, v, L, h4, ⟨hq _ _ h5, h6⟩, h7⟩
theorem own_iloadN {i : Fin 4} {u : Int32} (hd : decode bytes pc = .ok (.iload_n i, 1)) (hp : pc + 1 = pc') (hl : Ls[i.val]? = some (.val (.int u))) (k : own_W l Z y bytes ml ret R n0 Q h cells slots pc' Ls (.int u :: st)) : own_W l Z y bytes ml ret R n0 Q h cells slots pc Ls (st) :=
  own_pure (fun p e below T t m c hA hx hb hr => by subst hp; exact XS.iloadN hA hx rfl (hb ▸ hd) hl hr) k
theorem own_iload {i : Nat} {u : Int32} (hd : decode bytes pc = .ok (.iload i, 2)) (hp : pc + 2 = pc') (hl : Ls[i]? = some (.val (.int u))) (k : own_W l Z y bytes ml ret R n0 Q h cells slots pc' Ls (.int u :: st)) : own_W l Z y bytes ml ret R n0 Q h cells slots pc Ls (st) :=
  own_pure (fun p e below T t m c hA hx hb hr => by subst hp; exact XS.iload hA hx rfl (hb ▸ hd) hl hr) k
theorem own_lloadN {i : Fin 4} {u : Int64} (hd : decode bytes pc = .ok (.lload_n i, 1)) (hp : pc + 1 = pc') (hl : Ls[i.val]? = some (.val (.long u))) (k : own_W l Z y bytes ml ret R n0 Q h cells slots pc' Ls (.long u :: st)) : own_W l Z y bytes ml ret R n0 Q h cells slots pc Ls (st) :=
  own_pure (fun p e below T t m c hA hx hb hr => by subst hp; exact XT.lloadN hA hx rfl (hb ▸ hd) hl hr) k
theorem own_lload {i : Nat} {u : Int64} (hd : decode bytes pc = .ok (.lload i, 2)) (hp : pc + 2 = pc') (hl : Ls[i]? = some (.val (.long u))) (k : own_W l Z y bytes ml ret R n0 Q h cells slots pc' Ls (.long u :: st)) : own_W l Z y bytes ml ret R n0 Q h cells slots pc Ls (st) :=
  own_pure (fun p e below T t m c hA hx hb hr => by subst hp; exact XT.lload hA hx rfl (hb ▸ hd) hl hr) k
theorem own_aloadN {i : Fin 4} {u : Addr} (hd : decode bytes pc = .ok (.aload_n i, 1)) (hp : pc + 1 = pc') (hl : Ls[i.val]? = some (.val (.ref u))) (k : own_W l Z y bytes ml ret R n0 Q h cells slots pc' Ls (.ref u :: st)) : own_W l Z y bytes ml ret R n0 Q h cells slots pc Ls (st) :=
  own_pure (fun p e below T t m c hA hx hb hr => by subst hp; exact XS.aloadN hA hx rfl (hb ▸ hd) hl rfl hr) k
theorem own_aload {i : Nat} {u : Addr} (hd : decode bytes pc = .ok (.aload i, 2)) (hp : pc + 2 = pc') (hl : Ls[i]? = some (.val (.ref u))) (k : own_W l Z y bytes ml ret R n0 Q h cells slots pc' Ls (.ref u :: st)) : own_W l Z y bytes ml ret R n0 Q h cells slots pc Ls (st) :=
  own_pure (fun p e below T t m c hA hx hb hr => by subst hp; exact XS.aload hA hx rfl (hb ▸ hd) hl rfl hr) k
theorem own_istoreN {i : Fin 4} {u : Int32} (hd : decode bytes pc = .ok (.istore_n i, 1)) (hp : pc + 1 = pc') (hl : storeLocals Ls i.val (.int u) = some Ls') (k : own_W l Z y bytes ml ret R n0 Q h cells slots pc' Ls' (st)) : own_W l Z y bytes ml ret R n0 Q h cells slots pc Ls (.int u :: st) :=
  own_pure (fun p e below T t m c hA hx hb hr => by subst hp; exact XS.istoreN hA hx rfl (hb ▸ hd) rfl hl hr) k
theorem own_istore {i : Nat} {u : Int32} (hd : decode bytes pc = .ok (.istore i, 2)) (hp : pc + 2 = pc') (hl : storeLocals Ls i (.int u) = some Ls') (k : own_W l Z y bytes ml ret R n0 Q h cells slots pc' Ls' (st)) : own_W l Z y bytes ml ret R n0 Q h cells slots pc Ls (.int u :: st) :=
  own_pure (fun p e below T t m c hA hx hb hr => by subst hp; exact XS.istore hA hx rfl (hb ▸ hd) rfl hl hr) k
theorem own_lstoreN {i : Fin 4} {u : Int64} (hd : decode bytes pc = .ok (.lstore_n i, 1)) (hp : pc + 1 = pc') (hl : storeLocals Ls i.val (.long u) = some Ls') (k : own_W l Z y bytes ml ret R n0 Q h cells slots pc' Ls' (st)) : own_W l Z y bytes ml ret R n0 Q h cells slots pc Ls (.long u :: st) :=
  own_pure (fun p e below T t m c hA hx hb hr => by subst hp; exact XT.lstoreN hA hx rfl (hb ▸ hd) rfl hl hr) k
theorem own_lstore {i : Nat} {u : Int64} (hd : decode bytes pc = .ok (.lstore i, 2)) (hp : pc + 2 = pc') (hl : storeLocals Ls i (.long u) = some Ls') (k : own_W l Z y bytes ml ret R n0 Q h cells slots pc' Ls' (st)) : own_W l Z y bytes ml ret R n0 Q h cells slots pc Ls (.long u :: st) :=
  own_pure (fun p e below T t m c hA hx hb hr => by subst hp; exact XT.lstore hA hx rfl (hb ▸ hd) rfl hl hr) k
theorem own_astoreN {i : Fin 4} {u : Addr} (hd : decode bytes pc = .ok (.astore_n i, 1)) (hp : pc + 1 = pc') (hl : storeLocals Ls i.val (.ref u) = some Ls') (k : own_W l Z y bytes ml ret R n0 Q h cells slots pc' Ls' (st)) : own_W l Z y bytes ml ret R n0 Q h cells slots pc Ls (.ref u :: st) :=
  own_pure (fun p e below T t m c hA hx hb hr => by subst hp; exact XS.astoreN hA hx rfl (hb ▸ hd) rfl rfl hl hr) k
theorem own_astore {i : Nat} {u : Addr} (hd : decode bytes pc = .ok (.astore i, 2)) (hp : pc + 2 = pc') (hl : storeLocals Ls i (.ref u) = some Ls') (k : own_W l Z y bytes ml ret R n0 Q h cells slots pc' Ls' (st)) : own_W l Z y bytes ml ret R n0 Q h cells slots pc Ls (.ref u :: st) :=
  own_pure (fun p e below T t m c hA hx hb hr => by subst hp; exact XS.astore hA hx rfl (hb ▸ hd) rfl rfl hl hr) k
theorem own_iinc {i : Nat} {cst : Int} {u w : Int32} (hd : decode bytes pc = .ok (.iinc i cst, 3)) (hp : pc + 3 = pc') (hv : Int32.ofInt cst = w) (hl : Ls[i]? = some (.val (.int u))) (hl' : storeLocals Ls i (.int (u + w)) = some Ls') (k : own_W l Z y bytes ml ret R n0 Q h cells slots pc' Ls' st) : own_W l Z y bytes ml ret R n0 Q h cells slots pc Ls st :=
  own_pure (fun p e below T t m c hA hx hb hr => by subst hp; exact XT.iincV hA hx rfl w (hb ▸ hd) hv hl hl' hr) k
theorem own_iconst {i : Int} (u : Int32) (hd : decode bytes pc = .ok (.iconst i, 1)) (hp : pc + 1 = pc') (hv : Int32.ofInt i = u) (k : own_W l Z y bytes ml ret R n0 Q h cells slots pc' Ls (.int u :: st)) : own_W l Z y bytes ml ret R n0 Q h cells slots pc Ls st :=
  own_pure (fun p e below T t m c hA hx hb hr => by subst hp; exact XT.iconstV hA hx rfl u (hb ▸ hd) hv hr) k
theorem own_bipush {i : Int} (u : Int32) (hd : decode bytes pc = .ok (.bipush i, 2)) (hp : pc + 2 = pc') (hv : (Int8.ofInt i).toInt32 = u) (k : own_W l Z y bytes ml ret R n0 Q h cells slots pc' Ls (.int u :: st)) : own_W l Z y bytes ml ret R n0 Q h cells slots pc Ls st :=
  own_pure (fun p e below T t m c hA hx hb hr => by subst hp; exact XT.bipushV hA hx rfl u (hb ▸ hd) hv hr) k
theorem own_sipush {i : Int} (u : Int32) (hd : decode bytes pc = .ok (.sipush i, 3)) (hp : pc + 3 = pc') (hv : (Int16.ofInt i).toInt32 = u) (k : own_W l Z y bytes ml ret R n0 Q h cells slots pc' Ls (.int u :: st)) : own_W l Z y bytes ml ret R n0 Q h cells slots pc Ls st :=
  own_pure (fun p e below T t m c hA hx hb hr => by subst hp; exact XT.sipushV hA hx rfl u (hb ▸ hd) hv hr) k
theorem own_lconst {i : Fin 2} (u : Int64) (hd : decode bytes pc = .ok (.lconst i, 1)) (hp : pc + 1 = pc') (hv : Int64.ofNat i = u) (k : own_W l Z y bytes ml ret R n0 Q h cells slots pc' Ls (.long u :: st)) : own_W l Z y bytes ml ret R n0 Q h cells slots pc Ls st :=
  own_pure (fun p e below T t m c hA hx hb hr => by subst hp; exact XT.lconstV hA hx rfl u (hb ▸ hd) hv hr) k
theorem own_aconstNull (hd : decode bytes pc = .ok (.aconst_null, 1)) (hp : pc + 1 = pc') (k : own_W l Z y bytes ml ret R n0 Q h cells slots pc' Ls (.null :: st)) : own_W l Z y bytes ml ret R n0 Q h cells slots pc Ls (st) :=
  own_pure (fun p e below T t m c hA hx hb hr => by subst hp; exact XS.aconstNull hA hx rfl (hb ▸ hd)  hr) k
theorem own_iadd {u w : Int32} (hd : decode bytes pc = .ok (.iadd, 1)) (hp : pc + 1 = pc') (k : own_W l Z y bytes ml ret R n0 Q h cells slots pc' Ls (.int (u + w) :: st)) : own_W l Z y bytes ml ret R n0 Q h cells slots pc Ls (.int w :: .int u :: st) :=
  own_pure (fun p e below T t m c hA hx hb hr => by subst hp; exact XS.iadd hA hx rfl (hb ▸ hd) rfl hr) k
theorem own_isub {u w : Int32} (hd : decode bytes pc = .ok (.isub, 1)) (hp : pc + 1 = pc') (k : own_W l Z y bytes ml ret R n0 Q h cells slots pc' Ls (.int (u - w) :: st)) : own_W l Z y bytes ml ret R n0 Q h cells slots pc Ls (.int w :: .int u :: st) :=
  own_pure (fun p e below T t m c hA hx hb hr => by subst hp; exact XS.isub hA hx rfl (hb ▸ hd) rfl hr) k
theorem own_imul {u w : Int32} (hd : decode bytes pc = .ok (.imul, 1)) (hp : pc + 1 = pc') (k : own_W l Z y bytes ml ret R n0 Q h cells slots pc' Ls (.int (u * w) :: st)) : own_W l Z y bytes ml ret R n0 Q h cells slots pc Ls (.int w :: .int u :: st) :=
  own_pure (fun p e below T t m c hA hx hb hr => by subst hp; exact XS.imul hA hx rfl (hb ▸ hd) rfl hr) k
theorem own_iand {u w : Int32} (hd : decode bytes pc = .ok (.iand, 1)) (hp : pc + 1 = pc') (k : own_W l Z y bytes ml ret R n0 Q h cells slots pc' Ls (.int (u &&& w) :: st)) : own_W l Z y bytes ml ret R n0 Q h cells slots pc Ls (.int w :: .int u :: st) :=
  own_pure (fun p e below T t m c hA hx hb hr => by subst hp; exact XS.iand hA hx rfl (hb ▸ hd) rfl hr) k
theorem own_ior {u w : Int32} (hd : decode bytes pc = .ok (.ior, 1)) (hp : pc + 1 = pc') (k : own_W l Z y bytes ml ret R n0 Q h cells slots pc' Ls (.int (u ||| w) :: st)) : own_W l Z y bytes ml ret R n0 Q h cells slots pc Ls (.int w :: .int u :: st) :=
  own_pure (fun p e below T t m c hA hx hb hr => by subst hp; exact XT.ior hA hx rfl (hb ▸ hd) rfl hr) k
theorem own_ixor {u w : Int32} (hd : decode bytes pc = .ok (.ixor, 1)) (hp : pc + 1 = pc') (k : own_W l Z y bytes ml ret R n0 Q h cells slots pc' Ls (.int (u ^^^ w) :: st)) : own_W l Z y bytes ml ret R n0 Q h cells slots pc Ls (.int w :: .int u :: st) :=
  own_pure (fun p e below T t m c hA hx hb hr => by subst hp; exact XT.ixor hA hx rfl (hb ▸ hd) rfl hr) k
theorem own_ishl {u w : Int32} (hd : decode bytes pc = .ok (.ishl, 1)) (hp : pc + 1 = pc') (k : own_W l Z y bytes ml ret R n0 Q h cells slots pc' Ls (.int (u <<< (w &&& 31)) :: st)) : own_W l Z y bytes ml ret R n0 Q h cells slots pc Ls (.int w :: .int u :: st) :=
  own_pure (fun p e below T t m c hA hx hb hr => by subst hp; exact XT.ishl hA hx rfl (hb ▸ hd) rfl hr) k
theorem own_ishr {u w : Int32} (hd : decode bytes pc = .ok (.ishr, 1)) (hp : pc + 1 = pc') (k : own_W l Z y bytes ml ret R n0 Q h cells slots pc' Ls (.int (u >>> (w &&& 31)) :: st)) : own_W l Z y bytes ml ret R n0 Q h cells slots pc Ls (.int w :: .int u :: st) :=
  own_pure (fun p e below T t m c hA hx hb hr => by subst hp; exact XT.ishr hA hx rfl (hb ▸ hd) rfl hr) k
theorem own_iushr {u w : Int32} (hd : decode bytes pc = .ok (.iushr, 1)) (hp : pc + 1 = pc') (k : own_W l Z y bytes ml ret R n0 Q h cells slots pc' Ls (.int (XT.ushr u w) :: st)) : own_W l Z y bytes ml ret R n0 Q h cells slots pc Ls (.int w :: .int u :: st) :=
  own_pure (fun p e below T t m c hA hx hb hr => by subst hp; exact XT.iushr hA hx rfl (hb ▸ hd) rfl hr) k
theorem own_idiv {u w : Int32} (hd : decode bytes pc = .ok (.idiv, 1)) (hp : pc + 1 = pc') (hw : w ≠ 0) (k : own_W l Z y bytes ml ret R n0 Q h cells slots pc' Ls (.int (u / w) :: st)) : own_W l Z y bytes ml ret R n0 Q h cells slots pc Ls (.int w :: .int u :: st) :=
  own_pure (fun p e below T t m c hA hx hb hr => by subst hp; exact XS.idiv hA hx rfl (hb ▸ hd) rfl hw hr) k
theorem own_irem {u w : Int32} (hd : decode bytes pc = .ok (.irem, 1)) (hp : pc + 1 = pc') (hw : w ≠ 0) (k : own_W l Z y bytes ml ret R n0 Q h cells slots pc' Ls (.int (u % w) :: st)) : own_W l Z y bytes ml ret R n0 Q h cells slots pc Ls (.int w :: .int u :: st) :=
  own_pure (fun p e below T t m c hA hx hb hr => by subst hp; exact XS.irem hA hx rfl (hb ▸ hd) rfl hw (by rw [irem_eq_mod u w]; exact hr)) k
theorem own_ineg {u : Int32} (hd : decode bytes pc = .ok (.ineg, 1)) (hp : pc + 1 = pc') (k : own_W l Z y bytes ml ret R n0 Q h cells slots pc' Ls (.int (-u) :: st)) : own_W l Z y bytes ml ret R n0 Q h cells slots pc Ls (.int u :: st) :=
  own_pure (fun p e below T t m c hA hx hb hr => by subst hp; exact XS.ineg hA hx rfl (hb ▸ hd) rfl hr) k
theorem own_ladd {u w : Int64} (hd : decode bytes pc = .ok (.ladd, 1)) (hp : pc + 1 = pc') (k : own_W l Z y bytes ml ret R n0 Q h cells slots pc' Ls (.long (u + w) :: st)) : own_W l Z y bytes ml ret R n0 Q h cells slots pc Ls (.long w :: .long u :: st) :=
  own_pure (fun p e below T t m c hA hx hb hr => by subst hp; exact XT.ladd hA hx rfl (hb ▸ hd) rfl hr) k
theorem own_lsub {u w : Int64} (hd : decode bytes pc = .ok (.lsub, 1)) (hp : pc + 1 = pc') (k : own_W l Z y bytes ml ret R n0 Q h cells slots pc' Ls (.long (u - w) :: st)) : own_W l Z y bytes ml ret R n0 Q h cells slots pc Ls (.long w :: .long u :: st) :=
  own_pure (fun p e below T t m c hA hx hb hr => by subst hp; exact XT.lsub hA hx rfl (hb ▸ hd) rfl hr) k
theorem own_lmul {u w : Int64} (hd : decode bytes pc = .ok (.lmul, 1)) (hp : pc + 1 = pc') (k : own_W l Z y bytes ml ret R n0 Q h cells slots pc' Ls (.long (u * w) :: st)) : own_W l Z y bytes ml ret R n0 Q h cells slots pc Ls (.long w :: .long u :: st) :=
  own_pure (fun p e below T t m c hA hx hb hr => by subst hp; exact XT.lmul hA hx rfl (hb ▸ hd) rfl hr) k
theorem own_land {u w : Int64} (hd : decode bytes pc = .ok (.land, 1)) (hp : pc + 1 = pc') (k : own_W l Z y bytes ml ret R n0 Q h cells slots pc' Ls (.long (u &&& w) :: st)) : own_W l Z y bytes ml ret R n0 Q h cells slots pc Ls (.long w :: .long u :: st) :=
  own_pure (fun p e below T t m c hA hx hb hr => by subst hp; exact XT.land hA hx rfl (hb ▸ hd) rfl hr) k
theorem own_lor {u w : Int64} (hd : decode bytes pc = .ok (.lor, 1)) (hp : pc + 1 = pc') (k : own_W l Z y bytes ml ret R n0 Q h cells slots pc' Ls (.long (u ||| w) :: st)) : own_W l Z y bytes ml ret R n0 Q h cells slots pc Ls (.long w :: .long u :: st) :=
  own_pure (fun p e below T t m c hA hx hb hr => by subst hp; exact XT.lor hA hx rfl (hb ▸ hd) rfl hr) k
theorem own_lxor {u w : Int64} (hd : decode bytes pc = .ok (.lxor, 1)) (hp : pc + 1 = pc') (k : own_W l Z y bytes ml ret R n0 Q h cells slots pc' Ls (.long (u ^^^ w) :: st)) : own_W l Z y bytes ml ret R n0 Q h cells slots pc Ls (.long w :: .long u :: st) :=
  own_pure (fun p e below T t m c hA hx hb hr => by subst hp; exact XT.lxor hA hx rfl (hb ▸ hd) rfl hr) k
theorem own_lrem {u w : Int64} (hd : decode bytes pc = .ok (.lrem, 1)) (hp : pc + 1 = pc') (hw : w ≠ 0) (k : own_W l Z y bytes ml ret R n0 Q h cells slots pc' Ls (.long (u % w) :: st)) : own_W l Z y bytes ml ret R n0 Q h cells slots pc Ls (.long w :: .long u :: st) :=
  own_pure (fun p e below T t m c hA hx hb hr => by subst hp; exact XT.lrem hA hx rfl (hb ▸ hd) rfl hw (by rw [lrem_mod u w]; exact hr)) k
theorem own_lshl {u : Int64} {w : Int32} (hd : decode bytes pc = .ok (.lshl, 1)) (hp : pc + 1 = pc') (k : own_W l Z y bytes ml ret R n0 Q h cells slots pc' Ls (.long (u <<< (w.toInt64 &&& 63)) :: st)) : own_W l Z y bytes ml ret R n0 Q h cells slots pc Ls (.int w :: .long u :: st) :=
  own_pure (fun p e below T t m c hA hx hb hr => by subst hp; exact XT.lshl hA hx rfl (hb ▸ hd) rfl hr) k
theorem own_lshr {u : Int64} {w : Int32} (hd : decode bytes pc = .ok (.lshr, 1)) (hp : pc + 1 = pc') (k : own_W l Z y bytes ml ret R n0 Q h cells slots pc' Ls (.long (u >>> (w.toInt64 &&& 63)) :: st)) : own_W l Z y bytes ml ret R n0 Q h cells slots pc Ls (.int w :: .long u :: st) :=
  own_pure (fun p e below T t m c hA hx hb hr => by subst hp; exact XT.lshr hA hx rfl (hb ▸ hd) rfl hr) k
theorem own_lushr {u : Int64} {w : Int32} (hd : decode bytes pc = .ok (.lushr, 1)) (hp : pc + 1 = pc') (k : own_W l Z y bytes ml ret R n0 Q h cells slots pc' Ls (.long (XT.ushrL u w) :: st)) : own_W l Z y bytes ml ret R n0 Q h cells slots pc Ls (.int w :: .long u :: st) :=
  own_pure (fun p e below T t m c hA hx hb hr => by subst hp; exact XT.lushr hA hx rfl (hb ▸ hd) rfl hr) k
theorem own_i2l {u : Int32} (hd : decode bytes pc = .ok (.i2l, 1)) (hp : pc + 1 = pc') (k : own_W l Z y bytes ml ret R n0 Q h cells slots pc' Ls (.long u.toInt64 :: st)) : own_W l Z y bytes ml ret R n0 Q h cells slots pc Ls (.int u :: st) :=
  own_pure (fun p e below T t m c hA hx hb hr => by subst hp; exact XT.i2l hA hx rfl (hb ▸ hd) rfl hr) k
theorem own_l2i {u : Int64} (hd : decode bytes pc = .ok (.l2i, 1)) (hp : pc + 1 = pc') (k : own_W l Z y bytes ml ret R n0 Q h cells slots pc' Ls (.int u.toInt32 :: st)) : own_W l Z y bytes ml ret R n0 Q h cells slots pc Ls (.long u :: st) :=
  own_pure (fun p e below T t m c hA hx hb hr => by subst hp; exact XT.l2i hA hx rfl (hb ▸ hd) rfl hr) k
theorem own_i2b {u : Int32} (hd : decode bytes pc = .ok (.i2b, 1)) (hp : pc + 1 = pc') (k : own_W l Z y bytes ml ret R n0 Q h cells slots pc' Ls (.int u.toInt8.toInt32 :: st)) : own_W l Z y bytes ml ret R n0 Q h cells slots pc Ls (.int u :: st) :=
  own_pure (fun p e below T t m c hA hx hb hr => by subst hp; exact XT.i2b hA hx rfl (hb ▸ hd) rfl hr) k
theorem own_i2c {u : Int32} (hd : decode bytes pc = .ok (.i2c, 1)) (hp : pc + 1 = pc') (k : own_W l Z y bytes ml ret R n0 Q h cells slots pc' Ls (.int u.toUInt32.toUInt16.toUInt32.toInt32 :: st)) : own_W l Z y bytes ml ret R n0 Q h cells slots pc Ls (.int u :: st) :=
  own_pure (fun p e below T t m c hA hx hb hr => by subst hp; exact XT.i2c hA hx rfl (hb ▸ hd) rfl hr) k
theorem own_lcmp {u w : Int64} (hd : decode bytes pc = .ok (.lcmp, 1)) (hp : pc + 1 = pc') (k : own_W l Z y bytes ml ret R n0 Q h cells slots pc' Ls (.int (XT.cmpL u w) :: st)) : own_W l Z y bytes ml ret R n0 Q h cells slots pc Ls (.long w :: .long u :: st) :=
  own_pure (fun p e below T t m c hA hx hb hr => by subst hp; exact XT.lcmp hA hx rfl (hb ▸ hd) rfl hr) k
theorem own_dup {u : Value} (hd : decode bytes pc = .ok (.dup, 1)) (hp : pc + 1 = pc') (hc : u.category = 1) (k : own_W l Z y bytes ml ret R n0 Q h cells slots pc' Ls (u :: u :: st)) : own_W l Z y bytes ml ret R n0 Q h cells slots pc Ls (u :: st) :=
  own_pure (fun p e below T t m c hA hx hb hr => by subst hp; exact XS.dup hA hx rfl (hb ▸ hd) rfl hc hr) k
theorem own_pop {u : Value} (hd : decode bytes pc = .ok (.pop, 1)) (hp : pc + 1 = pc') (hc : u.category = 1) (k : own_W l Z y bytes ml ret R n0 Q h cells slots pc' Ls (st)) : own_W l Z y bytes ml ret R n0 Q h cells slots pc Ls (u :: st) :=
  own_pure (fun p e below T t m c hA hx hb hr => by subst hp; exact XT.pop hA hx rfl (hb ▸ hd) rfl hc hr) k
theorem own_dupX1 {u w : Value} (hd : decode bytes pc = .ok (.dup_x1, 1)) (hp : pc + 1 = pc') (hc : u.category = 1) (hc' : w.category = 1) (k : own_W l Z y bytes ml ret R n0 Q h cells slots pc' Ls (u :: w :: u :: st)) : own_W l Z y bytes ml ret R n0 Q h cells slots pc Ls (u :: w :: st) :=
  own_pure (fun p e below T t m c hA hx hb hr => by subst hp; exact XT.dupX1 hA hx rfl (hb ▸ hd) rfl hc hc' hr) k
theorem own_dup2 {u w : Value} (hd : decode bytes pc = .ok (.dup2, 1)) (hp : pc + 1 = pc') (hc : u.category = 1) (hc' : w.category = 1) (k : own_W l Z y bytes ml ret R n0 Q h cells slots pc' Ls (u :: w :: u :: w :: st)) : own_W l Z y bytes ml ret R n0 Q h cells slots pc Ls (u :: w :: st) :=
  own_pure (fun p e below T t m c hA hx hb hr => by subst hp; exact XT.dup2 hA hx rfl (hb ▸ hd) rfl hc hc' hr) k
theorem own_dup2L {u : Int64} (hd : decode bytes pc = .ok (.dup2, 1)) (hp : pc + 1 = pc') (k : own_W l Z y bytes ml ret R n0 Q h cells slots pc' Ls (.long u :: .long u :: st)) : own_W l Z y bytes ml ret R n0 Q h cells slots pc Ls (.long u :: st) :=
  own_pure (fun p e below T t m c hA hx hb hr => by subst hp; exact XT.dup2L hA hx rfl (hb ▸ hd) rfl hr) k
theorem own_pop2step {tb : Tables} [Ours tb] {e : Env} {below : List Frame} {T target : State} {m : MethodId} {c : Code} {g : JFrame} (h : At T m c below) (hx : tb.exec = Jvm.exec) (hg : g.method = m) {u : Int64} {rest : List Value} (hd : decode c.code g.pc = .ok (.pop2, 1)) (hs : g.stack = .long u :: rest)
    (hr : Steps tb e below (T.setTop { g with pc := g.pc + 1, stack := rest }) target) : Steps tb e below (T.setTop g) target := by
  subst hg
  jvm_step h [h.top, hx, hd, hs, pop2.wp_sem, Value.category]
  exact hr
theorem own_pop2L {u : Int64} (hd : decode bytes pc = .ok (.pop2, 1)) (hp : pc + 1 = pc') (k : own_W l Z y bytes ml ret R n0 Q h cells slots pc' Ls (st)) : own_W l Z y bytes ml ret R n0 Q h cells slots pc Ls (.long u :: st) :=
  own_pure (fun p e below T t m c hA hx hb hr => by subst hp; exact own_pop2step hA hx rfl (hb ▸ hd) rfl hr) k
theorem own_dupX2step {tb : Tables} [Ours tb] {e : Env} {below : List Frame} {T target : State} {m : MethodId} {c : Code} {g : JFrame} (h : At T m c below) (hx : tb.exec = Jvm.exec) (hg : g.method = m) {x y z : Value} {rest : List Value} (hd : decode c.code g.pc = .ok (.dup_x2, 1)) (hs : g.stack = x :: y :: z :: rest) (hc : x.category = 1) (hc' : y.category = 1) (hc'' : z.category = 1)
    (hr : Steps tb e below (T.setTop { g with pc := g.pc + 1, stack := x :: y :: z :: x :: rest }) target) : Steps tb e below (T.setTop g) target := by
  subst hg
  jvm_step h [h.top, hx, hd, hs, dup_x2.wp_sem, hc, hc', hc'']
  exact hr
theorem own_dupX2 {u w x : Value} (hd : decode bytes pc = .ok (.dup_x2, 1)) (hp : pc + 1 = pc') (hc : u.category = 1) (hc' : w.category = 1) (hc'' : x.category = 1) (k : own_W l Z y bytes ml ret R n0 Q h cells slots pc' Ls (u :: w :: x :: u :: st)) : own_W l Z y bytes ml ret R n0 Q h cells slots pc Ls (u :: w :: x :: st) :=
  own_pure (fun p e below T t m c hA hx hb hr => by subst hp; exact own_dupX2step hA hx rfl (hb ▸ hd) rfl hc hc' hc'' hr) k
theorem own_goto {o : Int} (hd : decode bytes pc = .ok (.goto o, 3)) (ho : 0 ≤ (pc : Int) + o) (hp : ((pc : Int) + o).toNat = pc') (k : own_W l Z y bytes ml ret R n0 Q h cells slots pc' Ls st) : own_W l Z y bytes ml ret R n0 Q h cells slots pc Ls st :=
  own_pure (fun p e below T t m c hA hx hb hr => XS.goto hA hx rfl rfl (hb ▸ hd) ho hp hr) k
theorem own_if_eq_t {u : Int32} {o : Int} (hd : decode bytes pc = .ok (.ifCond .eq o, 3)) (hc : u = 0) (ho : 0 ≤ (pc : Int) + o) (hp : ((pc : Int) + o).toNat = pc') (k : own_W l Z y bytes ml ret R n0 Q h cells slots pc' Ls st) : own_W l Z y bytes ml ret R n0 Q h cells slots pc Ls (.int u :: st) :=
  own_pure (fun p e below T t m c hA hx hb hr => XS.ifYes hA hx rfl rfl (hb ▸ hd) rfl (XT.i0_eq_t hc) ho hp hr) k
theorem own_if_eq_f {u : Int32} {o : Int} (hd : decode bytes pc = .ok (.ifCond .eq o, 3)) (hc : ¬ u = 0) (hp : pc + 3 = pc') (k : own_W l Z y bytes ml ret R n0 Q h cells slots pc' Ls st) : own_W l Z y bytes ml ret R n0 Q h cells slots pc Ls (.int u :: st) :=
  own_pure (fun p e below T t m c hA hx hb hr => by subst hp; exact XS.ifNo hA hx rfl (hb ▸ hd) rfl (XT.i0_eq_f hc) hr) k
theorem own_if_eq {u : Int32} {o : Int} {pf : Nat} (hd : decode bytes pc = .ok (.ifCond .eq o, 3)) (ho : 0 ≤ (pc : Int) + o) (hp : ((pc : Int) + o).toNat = pc') (hq : pc + 3 = pf) (kt : u = 0 → own_W l Z y bytes ml ret R n0 Q h cells slots pc' Ls st) (kf : ¬ u = 0 → own_W l Z y bytes ml ret R n0 Q h cells slots pf Ls st) : own_W l Z y bytes ml ret R n0 Q h cells slots pc Ls (.int u :: st) := by
  by_cases hc : u = 0
  · exact own_if_eq_t hd hc ho hp (kt hc)
  · exact own_if_eq_f hd (by first | exact hc | exact Decidable.not_not.mp hc) hq (kf (by first | exact hc | exact Decidable.not_not.mp hc))
theorem own_ic_eq_t {u w : Int32} {o : Int} (hd : decode bytes pc = .ok (.if_icmp .eq o, 3)) (hc : u = w) (ho : 0 ≤ (pc : Int) + o) (hp : ((pc : Int) + o).toNat = pc') (k : own_W l Z y bytes ml ret R n0 Q h cells slots pc' Ls st) : own_W l Z y bytes ml ret R n0 Q h cells slots pc Ls (.int w :: .int u :: st) :=
  own_pure (fun p e below T t m c hA hx hb hr => XS.icmpYes hA hx rfl rfl (hb ▸ hd) rfl (XT.ii_eq_t hc) ho hp hr) k
theorem own_ic_eq_f {u w : Int32} {o : Int} (hd : decode bytes pc = .ok (.if_icmp .eq o, 3)) (hc : ¬ u = w) (hp : pc + 3 = pc') (k : own_W l Z y bytes ml ret R n0 Q h cells slots pc' Ls st) : own_W l Z y bytes ml ret R n0 Q h cells slots pc Ls (.int w :: .int u :: st) :=
  own_pure (fun p e below T t m c hA hx hb hr => by subst hp; exact XS.icmpNo hA hx rfl (hb ▸ hd) rfl (XT.ii_eq_f hc) hr) k
theorem own_ic_eq {u w : Int32} {o : Int} {pf : Nat} (hd : decode bytes pc = .ok (.if_icmp .eq o, 3)) (ho : 0 ≤ (pc : Int) + o) (hp : ((pc : Int) + o).toNat = pc') (hq : pc + 3 = pf) (kt : u = w → own_W l Z y bytes ml ret R n0 Q h cells slots pc' Ls st) (kf : ¬ u = w → own_W l Z y bytes ml ret R n0 Q h cells slots pf Ls st) : own_W l Z y bytes ml ret R n0 Q h cells slots pc Ls (.int w :: .int u :: st) := by
  by_cases hc : u = w
  · exact own_ic_eq_t hd hc ho hp (kt hc)
  · exact own_ic_eq_f hd (by first | exact hc | exact Decidable.not_not.mp hc) hq (kf (by first | exact hc | exact Decidable.not_not.mp hc))
theorem own_il_eq_t {u w : Int64} {o : Int} (hd : decode bytes pc = .ok (.ifCond .eq o, 3)) (hc : u = w) (ho : 0 ≤ (pc : Int) + o) (hp : ((pc : Int) + o).toNat = pc') (k : own_W l Z y bytes ml ret R n0 Q h cells slots pc' Ls st) : own_W l Z y bytes ml ret R n0 Q h cells slots pc Ls (.int (XT.cmpL u w) :: st) :=
  own_pure (fun p e below T t m c hA hx hb hr => XS.ifYes hA hx rfl rfl (hb ▸ hd) rfl (XT.ll_eq_t hc) ho hp hr) k
theorem own_il_eq_f {u w : Int64} {o : Int} (hd : decode bytes pc = .ok (.ifCond .eq o, 3)) (hc : ¬ u = w) (hp : pc + 3 = pc') (k : own_W l Z y bytes ml ret R n0 Q h cells slots pc' Ls st) : own_W l Z y bytes ml ret R n0 Q h cells slots pc Ls (.int (XT.cmpL u w) :: st) :=
  own_pure (fun p e below T t m c hA hx hb hr => by subst hp; exact XS.ifNo hA hx rfl (hb ▸ hd) rfl (XT.ll_eq_f hc) hr) k
theorem own_il_eq {u w : Int64} {o : Int} {pf : Nat} (hd : decode bytes pc = .ok (.ifCond .eq o, 3)) (ho : 0 ≤ (pc : Int) + o) (hp : ((pc : Int) + o).toNat = pc') (hq : pc + 3 = pf) (kt : u = w → own_W l Z y bytes ml ret R n0 Q h cells slots pc' Ls st) (kf : ¬ u = w → own_W l Z y bytes ml ret R n0 Q h cells slots pf Ls st) : own_W l Z y bytes ml ret R n0 Q h cells slots pc Ls (.int (XT.cmpL u w) :: st) := by
  by_cases hc : u = w
  · exact own_il_eq_t hd hc ho hp (kt hc)
  · exact own_il_eq_f hd (by first | exact hc | exact Decidable.not_not.mp hc) hq (kf (by first | exact hc | exact Decidable.not_not.mp hc))
theorem own_if_ne_t {u : Int32} {o : Int} (hd : decode bytes pc = .ok (.ifCond .ne o, 3)) (hc : ¬ u = 0) (ho : 0 ≤ (pc : Int) + o) (hp : ((pc : Int) + o).toNat = pc') (k : own_W l Z y bytes ml ret R n0 Q h cells slots pc' Ls st) : own_W l Z y bytes ml ret R n0 Q h cells slots pc Ls (.int u :: st) :=
  own_pure (fun p e below T t m c hA hx hb hr => XS.ifYes hA hx rfl rfl (hb ▸ hd) rfl (XT.i0_ne_t hc) ho hp hr) k
theorem own_if_ne_f {u : Int32} {o : Int} (hd : decode bytes pc = .ok (.ifCond .ne o, 3)) (hc : u = 0) (hp : pc + 3 = pc') (k : own_W l Z y bytes ml ret R n0 Q h cells slots pc' Ls st) : own_W l Z y bytes ml ret R n0 Q h cells slots pc Ls (.int u :: st) :=
  own_pure (fun p e below T t m c hA hx hb hr => by subst hp; exact XS.ifNo hA hx rfl (hb ▸ hd) rfl (XT.i0_ne_f hc) hr) k
theorem own_if_ne {u : Int32} {o : Int} {pf : Nat} (hd : decode bytes pc = .ok (.ifCond .ne o, 3)) (ho : 0 ≤ (pc : Int) + o) (hp : ((pc : Int) + o).toNat = pc') (hq : pc + 3 = pf) (kt : ¬ u = 0 → own_W l Z y bytes ml ret R n0 Q h cells slots pc' Ls st) (kf : u = 0 → own_W l Z y bytes ml ret R n0 Q h cells slots pf Ls st) : own_W l Z y bytes ml ret R n0 Q h cells slots pc Ls (.int u :: st) := by
  by_cases hc : ¬ u = 0
  · exact own_if_ne_t hd hc ho hp (kt hc)
  · exact own_if_ne_f hd (by first | exact hc | exact Decidable.not_not.mp hc) hq (kf (by first | exact hc | exact Decidable.not_not.mp hc))
theorem own_ic_ne_t {u w : Int32} {o : Int} (hd : decode bytes pc = .ok (.if_icmp .ne o, 3)) (hc : ¬ u = w) (ho : 0 ≤ (pc : Int) + o) (hp : ((pc : Int) + o).toNat = pc') (k : own_W l Z y bytes ml ret R n0 Q h cells slots pc' Ls st) : own_W l Z y bytes ml ret R n0 Q h cells slots pc Ls (.int w :: .int u :: st) :=
  own_pure (fun p e below T t m c hA hx hb hr => XS.icmpYes hA hx rfl rfl (hb ▸ hd) rfl (XT.ii_ne_t hc) ho hp hr) k
theorem own_ic_ne_f {u w : Int32} {o : Int} (hd : decode bytes pc = .ok (.if_icmp .ne o, 3)) (hc : u = w) (hp : pc + 3 = pc') (k : own_W l Z y bytes ml ret R n0 Q h cells slots pc' Ls st) : own_W l Z y bytes ml ret R n0 Q h cells slots pc Ls (.int w :: .int u :: st) :=
  own_pure (fun p e below T t m c hA hx hb hr => by subst hp; exact XS.icmpNo hA hx rfl (hb ▸ hd) rfl (XT.ii_ne_f hc) hr) k
theorem own_ic_ne {u w : Int32} {o : Int} {pf : Nat} (hd : decode bytes pc = .ok (.if_icmp .ne o, 3)) (ho : 0 ≤ (pc : Int) + o) (hp : ((pc : Int) + o).toNat = pc') (hq : pc + 3 = pf) (kt : ¬ u = w → own_W l Z y bytes ml ret R n0 Q h cells slots pc' Ls st) (kf : u = w → own_W l Z y bytes ml ret R n0 Q h cells slots pf Ls st) : own_W l Z y bytes ml ret R n0 Q h cells slots pc Ls (.int w :: .int u :: st) := by
  by_cases hc : ¬ u = w
  · exact own_ic_ne_t hd hc ho hp (kt hc)
  · exact own_ic_ne_f hd (by first | exact hc | exact Decidable.not_not.mp hc) hq (kf (by first | exact hc | exact Decidable.not_not.mp hc))
theorem own_il_ne_t {u w : Int64} {o : Int} (hd : decode bytes pc = .ok (.ifCond .ne o, 3)) (hc : ¬ u = w) (ho : 0 ≤ (pc : Int) + o) (hp : ((pc : Int) + o).toNat = pc') (k : own_W l Z y bytes ml ret R n0 Q h cells slots pc' Ls st) : own_W l Z y bytes ml ret R n0 Q h cells slots pc Ls (.int (XT.cmpL u w) :: st) :=
  own_pure (fun p e below T t m c hA hx hb hr => XS.ifYes hA hx rfl rfl (hb ▸ hd) rfl (XT.ll_ne_t hc) ho hp hr) k
theorem own_il_ne_f {u w : Int64} {o : Int} (hd : decode bytes pc = .ok (.ifCond .ne o, 3)) (hc : u = w) (hp : pc + 3 = pc') (k : own_W l Z y bytes ml ret R n0 Q h cells slots pc' Ls st) : own_W l Z y bytes ml ret R n0 Q h cells slots pc Ls (.int (XT.cmpL u w) :: st) :=
  own_pure (fun p e below T t m c hA hx hb hr => by subst hp; exact XS.ifNo hA hx rfl (hb ▸ hd) rfl (XT.ll_ne_f hc) hr) k
theorem own_il_ne {u w : Int64} {o : Int} {pf : Nat} (hd : decode bytes pc = .ok (.ifCond .ne o, 3)) (ho : 0 ≤ (pc : Int) + o) (hp : ((pc : Int) + o).toNat = pc') (hq : pc + 3 = pf) (kt : ¬ u = w → own_W l Z y bytes ml ret R n0 Q h cells slots pc' Ls st) (kf : u = w → own_W l Z y bytes ml ret R n0 Q h cells slots pf Ls st) : own_W l Z y bytes ml ret R n0 Q h cells slots pc Ls (.int (XT.cmpL u w) :: st) := by
  by_cases hc : ¬ u = w
  · exact own_il_ne_t hd hc ho hp (kt hc)
  · exact own_il_ne_f hd (by first | exact hc | exact Decidable.not_not.mp hc) hq (kf (by first | exact hc | exact Decidable.not_not.mp hc))
theorem own_if_lt_t {u : Int32} {o : Int} (hd : decode bytes pc = .ok (.ifCond .lt o, 3)) (hc : u < 0) (ho : 0 ≤ (pc : Int) + o) (hp : ((pc : Int) + o).toNat = pc') (k : own_W l Z y bytes ml ret R n0 Q h cells slots pc' Ls st) : own_W l Z y bytes ml ret R n0 Q h cells slots pc Ls (.int u :: st) :=
  own_pure (fun p e below T t m c hA hx hb hr => XS.ifYes hA hx rfl rfl (hb ▸ hd) rfl (XT.i0_lt_t hc) ho hp hr) k
theorem own_if_lt_f {u : Int32} {o : Int} (hd : decode bytes pc = .ok (.ifCond .lt o, 3)) (hc : ¬ u < 0) (hp : pc + 3 = pc') (k : own_W l Z y bytes ml ret R n0 Q h cells slots pc' Ls st) : own_W l Z y bytes ml ret R n0 Q h cells slots pc Ls (.int u :: st) :=
  own_pure (fun p e below T t m c hA hx hb hr => by subst hp; exact XS.ifNo hA hx rfl (hb ▸ hd) rfl (XT.i0_lt_f hc) hr) k
theorem own_if_lt {u : Int32} {o : Int} {pf : Nat} (hd : decode bytes pc = .ok (.ifCond .lt o, 3)) (ho : 0 ≤ (pc : Int) + o) (hp : ((pc : Int) + o).toNat = pc') (hq : pc + 3 = pf) (kt : u < 0 → own_W l Z y bytes ml ret R n0 Q h cells slots pc' Ls st) (kf : ¬ u < 0 → own_W l Z y bytes ml ret R n0 Q h cells slots pf Ls st) : own_W l Z y bytes ml ret R n0 Q h cells slots pc Ls (.int u :: st) := by
  by_cases hc : u < 0
  · exact own_if_lt_t hd hc ho hp (kt hc)
  · exact own_if_lt_f hd (by first | exact hc | exact Decidable.not_not.mp hc) hq (kf (by first | exact hc | exact Decidable.not_not.mp hc))
theorem own_ic_lt_t {u w : Int32} {o : Int} (hd : decode bytes pc = .ok (.if_icmp .lt o, 3)) (hc : u < w) (ho : 0 ≤ (pc : Int) + o) (hp : ((pc : Int) + o).toNat = pc') (k : own_W l Z y bytes ml ret R n0 Q h cells slots pc' Ls st) : own_W l Z y bytes ml ret R n0 Q h cells slots pc Ls (.int w :: .int u :: st) :=
  own_pure (fun p e below T t m c hA hx hb hr => XS.icmpYes hA hx rfl rfl (hb ▸ hd) rfl (XT.ii_lt_t hc) ho hp hr) k
theorem own_ic_lt_f {u w : Int32} {o : Int} (hd : decode bytes pc = .ok (.if_icmp .lt o, 3)) (hc : ¬ u < w) (hp : pc + 3 = pc') (k : own_W l Z y bytes ml ret R n0 Q h cells slots pc' Ls st) : own_W l Z y bytes ml ret R n0 Q h cells slots pc Ls (.int w :: .int u :: st) :=
  own_pure (fun p e below T t m c hA hx hb hr => by subst hp; exact XS.icmpNo hA hx rfl (hb ▸ hd) rfl (XT.ii_lt_f hc) hr) k
theorem own_ic_lt {u w : Int32} {o : Int} {pf : Nat} (hd : decode bytes pc = .ok (.if_icmp .lt o, 3)) (ho : 0 ≤ (pc : Int) + o) (hp : ((pc : Int) + o).toNat = pc') (hq : pc + 3 = pf) (kt : u < w → own_W l Z y bytes ml ret R n0 Q h cells slots pc' Ls st) (kf : ¬ u < w → own_W l Z y bytes ml ret R n0 Q h cells slots pf Ls st) : own_W l Z y bytes ml ret R n0 Q h cells slots pc Ls (.int w :: .int u :: st) := by
  by_cases hc : u < w
  · exact own_ic_lt_t hd hc ho hp (kt hc)
  · exact own_ic_lt_f hd (by first | exact hc | exact Decidable.not_not.mp hc) hq (kf (by first | exact hc | exact Decidable.not_not.mp hc))
theorem own_il_lt_t {u w : Int64} {o : Int} (hd : decode bytes pc = .ok (.ifCond .lt o, 3)) (hc : u < w) (ho : 0 ≤ (pc : Int) + o) (hp : ((pc : Int) + o).toNat = pc') (k : own_W l Z y bytes ml ret R n0 Q h cells slots pc' Ls st) : own_W l Z y bytes ml ret R n0 Q h cells slots pc Ls (.int (XT.cmpL u w) :: st) :=
  own_pure (fun p e below T t m c hA hx hb hr => XS.ifYes hA hx rfl rfl (hb ▸ hd) rfl (XT.ll_lt_t hc) ho hp hr) k
theorem own_il_lt_f {u w : Int64} {o : Int} (hd : decode bytes pc = .ok (.ifCond .lt o, 3)) (hc : ¬ u < w) (hp : pc + 3 = pc') (k : own_W l Z y bytes ml ret R n0 Q h cells slots pc' Ls st) : own_W l Z y bytes ml ret R n0 Q h cells slots pc Ls (.int (XT.cmpL u w) :: st) :=
  own_pure (fun p e below T t m c hA hx hb hr => by subst hp; exact XS.ifNo hA hx rfl (hb ▸ hd) rfl (XT.ll_lt_f hc) hr) k
theorem own_il_lt {u w : Int64} {o : Int} {pf : Nat} (hd : decode bytes pc = .ok (.ifCond .lt o, 3)) (ho : 0 ≤ (pc : Int) + o) (hp : ((pc : Int) + o).toNat = pc') (hq : pc + 3 = pf) (kt : u < w → own_W l Z y bytes ml ret R n0 Q h cells slots pc' Ls st) (kf : ¬ u < w → own_W l Z y bytes ml ret R n0 Q h cells slots pf Ls st) : own_W l Z y bytes ml ret R n0 Q h cells slots pc Ls (.int (XT.cmpL u w) :: st) := by
  by_cases hc : u < w
  · exact own_il_lt_t hd hc ho hp (kt hc)
  · exact own_il_lt_f hd (by first | exact hc | exact Decidable.not_not.mp hc) hq (kf (by first | exact hc | exact Decidable.not_not.mp hc))
theorem own_if_ge_t {u : Int32} {o : Int} (hd : decode bytes pc = .ok (.ifCond .ge o, 3)) (hc : ¬ u < 0) (ho : 0 ≤ (pc : Int) + o) (hp : ((pc : Int) + o).toNat = pc') (k : own_W l Z y bytes ml ret R n0 Q h cells slots pc' Ls st) : own_W l Z y bytes ml ret R n0 Q h cells slots pc Ls (.int u :: st) :=
  own_pure (fun p e below T t m c hA hx hb hr => XS.ifYes hA hx rfl rfl (hb ▸ hd) rfl (XT.i0_ge_t hc) ho hp hr) k
theorem own_if_ge_f {u : Int32} {o : Int} (hd : decode bytes pc = .ok (.ifCond .ge o, 3)) (hc : u < 0) (hp : pc + 3 = pc') (k : own_W l Z y bytes ml ret R n0 Q h cells slots pc' Ls st) : own_W l Z y bytes ml ret R n0 Q h cells slots pc Ls (.int u :: st) :=
  own_pure (fun p e below T t m c hA hx hb hr => by subst hp; exact XS.ifNo hA hx rfl (hb ▸ hd) rfl (XT.i0_ge_f hc) hr) k
theorem own_if_ge {u : Int32} {o : Int} {pf : Nat} (hd : decode bytes pc = .ok (.ifCond .ge o, 3)) (ho : 0 ≤ (pc : Int) + o) (hp : ((pc : Int) + o).toNat = pc') (hq : pc + 3 = pf) (kt : ¬ u < 0 → own_W l Z y bytes ml ret R n0 Q h cells slots pc' Ls st) (kf : u < 0 → own_W l Z y bytes ml ret R n0 Q h cells slots pf Ls st) : own_W l Z y bytes ml ret R n0 Q h cells slots pc Ls (.int u :: st) := by
  by_cases hc : ¬ u < 0
  · exact own_if_ge_t hd hc ho hp (kt hc)
  · exact own_if_ge_f hd (by first | exact hc | exact Decidable.not_not.mp hc) hq (kf (by first | exact hc | exact Decidable.not_not.mp hc))
theorem own_ic_ge_t {u w : Int32} {o : Int} (hd : decode bytes pc = .ok (.if_icmp .ge o, 3)) (hc : ¬ u < w) (ho : 0 ≤ (pc : Int) + o) (hp : ((pc : Int) + o).toNat = pc') (k : own_W l Z y bytes ml ret R n0 Q h cells slots pc' Ls st) : own_W l Z y bytes ml ret R n0 Q h cells slots pc Ls (.int w :: .int u :: st) :=
  own_pure (fun p e below T t m c hA hx hb hr => XS.icmpYes hA hx rfl rfl (hb ▸ hd) rfl (XT.ii_ge_t hc) ho hp hr) k
theorem own_ic_ge_f {u w : Int32} {o : Int} (hd : decode bytes pc = .ok (.if_icmp .ge o, 3)) (hc : u < w) (hp : pc + 3 = pc') (k : own_W l Z y bytes ml ret R n0 Q h cells slots pc' Ls st) : own_W l Z y bytes ml ret R n0 Q h cells slots pc Ls (.int w :: .int u :: st) :=
  own_pure (fun p e below T t m c hA hx hb hr => by subst hp; exact XS.icmpNo hA hx rfl (hb ▸ hd) rfl (XT.ii_ge_f hc) hr) k
theorem own_ic_ge {u w : Int32} {o : Int} {pf : Nat} (hd : decode bytes pc = .ok (.if_icmp .ge o, 3)) (ho : 0 ≤ (pc : Int) + o) (hp : ((pc : Int) + o).toNat = pc') (hq : pc + 3 = pf) (kt : ¬ u < w → own_W l Z y bytes ml ret R n0 Q h cells slots pc' Ls st) (kf : u < w → own_W l Z y bytes ml ret R n0 Q h cells slots pf Ls st) : own_W l Z y bytes ml ret R n0 Q h cells slots pc Ls (.int w :: .int u :: st) := by
  by_cases hc : ¬ u < w
  · exact own_ic_ge_t hd hc ho hp (kt hc)
  · exact own_ic_ge_f hd (by first | exact hc | exact Decidable.not_not.mp hc) hq (kf (by first | exact hc | exact Decidable.not_not.mp hc))
theorem own_il_ge_t {u w : Int64} {o : Int} (hd : decode bytes pc = .ok (.ifCond .ge o, 3)) (hc : ¬ u < w) (ho : 0 ≤ (pc : Int) + o) (hp : ((pc : Int) + o).toNat = pc') (k : own_W l Z y bytes ml ret R n0 Q h cells slots pc' Ls st) : own_W l Z y bytes ml ret R n0 Q h cells slots pc Ls (.int (XT.cmpL u w) :: st) :=
  own_pure (fun p e below T t m c hA hx hb hr => XS.ifYes hA hx rfl rfl (hb ▸ hd) rfl (XT.ll_ge_t hc) ho hp hr) k
theorem own_il_ge_f {u w : Int64} {o : Int} (hd : decode bytes pc = .ok (.ifCond .ge o, 3)) (hc : u < w) (hp : pc + 3 = pc') (k : own_W l Z y bytes ml ret R n0 Q h cells slots pc' Ls st) : own_W l Z y bytes ml ret R n0 Q h cells slots pc Ls (.int (XT.cmpL u w) :: st) :=
  own_pure (fun p e below T t m c hA hx hb hr => by subst hp; exact XS.ifNo hA hx rfl (hb ▸ hd) rfl (XT.ll_ge_f hc) hr) k
theorem own_il_ge {u w : Int64} {o : Int} {pf : Nat} (hd : decode bytes pc = .ok (.ifCond .ge o, 3)) (ho : 0 ≤ (pc : Int) + o) (hp : ((pc : Int) + o).toNat = pc') (hq : pc + 3 = pf) (kt : ¬ u < w → own_W l Z y bytes ml ret R n0 Q h cells slots pc' Ls st) (kf : u < w → own_W l Z y bytes ml ret R n0 Q h cells slots pf Ls st) : own_W l Z y bytes ml ret R n0 Q h cells slots pc Ls (.int (XT.cmpL u w) :: st) := by
  by_cases hc : ¬ u < w
  · exact own_il_ge_t hd hc ho hp (kt hc)
  · exact own_il_ge_f hd (by first | exact hc | exact Decidable.not_not.mp hc) hq (kf (by first | exact hc | exact Decidable.not_not.mp hc))
theorem own_if_gt_t {u : Int32} {o : Int} (hd : decode bytes pc = .ok (.ifCond .gt o, 3)) (hc : 0 < u) (ho : 0 ≤ (pc : Int) + o) (hp : ((pc : Int) + o).toNat = pc') (k : own_W l Z y bytes ml ret R n0 Q h cells slots pc' Ls st) : own_W l Z y bytes ml ret R n0 Q h cells slots pc Ls (.int u :: st) :=
  own_pure (fun p e below T t m c hA hx hb hr => XS.ifYes hA hx rfl rfl (hb ▸ hd) rfl (XT.i0_gt_t hc) ho hp hr) k
theorem own_if_gt_f {u : Int32} {o : Int} (hd : decode bytes pc = .ok (.ifCond .gt o, 3)) (hc : ¬ 0 < u) (hp : pc + 3 = pc') (k : own_W l Z y bytes ml ret R n0 Q h cells slots pc' Ls st) : own_W l Z y bytes ml ret R n0 Q h cells slots pc Ls (.int u :: st) :=
  own_pure (fun p e below T t m c hA hx hb hr => by subst hp; exact XS.ifNo hA hx rfl (hb ▸ hd) rfl (XT.i0_gt_f hc) hr) k
theorem own_if_gt {u : Int32} {o : Int} {pf : Nat} (hd : decode bytes pc = .ok (.ifCond .gt o, 3)) (ho : 0 ≤ (pc : Int) + o) (hp : ((pc : Int) + o).toNat = pc') (hq : pc + 3 = pf) (kt : 0 < u → own_W l Z y bytes ml ret R n0 Q h cells slots pc' Ls st) (kf : ¬ 0 < u → own_W l Z y bytes ml ret R n0 Q h cells slots pf Ls st) : own_W l Z y bytes ml ret R n0 Q h cells slots pc Ls (.int u :: st) := by
  by_cases hc : 0 < u
  · exact own_if_gt_t hd hc ho hp (kt hc)
  · exact own_if_gt_f hd (by first | exact hc | exact Decidable.not_not.mp hc) hq (kf (by first | exact hc | exact Decidable.not_not.mp hc))
theorem own_ic_gt_t {u w : Int32} {o : Int} (hd : decode bytes pc = .ok (.if_icmp .gt o, 3)) (hc : w < u) (ho : 0 ≤ (pc : Int) + o) (hp : ((pc : Int) + o).toNat = pc') (k : own_W l Z y bytes ml ret R n0 Q h cells slots pc' Ls st) : own_W l Z y bytes ml ret R n0 Q h cells slots pc Ls (.int w :: .int u :: st) :=
  own_pure (fun p e below T t m c hA hx hb hr => XS.icmpYes hA hx rfl rfl (hb ▸ hd) rfl (XT.ii_gt_t hc) ho hp hr) k
theorem own_ic_gt_f {u w : Int32} {o : Int} (hd : decode bytes pc = .ok (.if_icmp .gt o, 3)) (hc : ¬ w < u) (hp : pc + 3 = pc') (k : own_W l Z y bytes ml ret R n0 Q h cells slots pc' Ls st) : own_W l Z y bytes ml ret R n0 Q h cells slots pc Ls (.int w :: .int u :: st) :=
  own_pure (fun p e below T t m c hA hx hb hr => by subst hp; exact XS.icmpNo hA hx rfl (hb ▸ hd) rfl (XT.ii_gt_f hc) hr) k
theorem own_ic_gt {u w : Int32} {o : Int} {pf : Nat} (hd : decode bytes pc = .ok (.if_icmp .gt o, 3)) (ho : 0 ≤ (pc : Int) + o) (hp : ((pc : Int) + o).toNat = pc') (hq : pc + 3 = pf) (kt : w < u → own_W l Z y bytes ml ret R n0 Q h cells slots pc' Ls st) (kf : ¬ w < u → own_W l Z y bytes ml ret R n0 Q h cells slots pf Ls st) : own_W l Z y bytes ml ret R n0 Q h cells slots pc Ls (.int w :: .int u :: st) := by
  by_cases hc : w < u
  · exact own_ic_gt_t hd hc ho hp (kt hc)
  · exact own_ic_gt_f hd (by first | exact hc | exact Decidable.not_not.mp hc) hq (kf (by first | exact hc | exact Decidable.not_not.mp hc))
theorem own_il_gt_t {u w : Int64} {o : Int} (hd : decode bytes pc = .ok (.ifCond .gt o, 3)) (hc : w < u) (ho : 0 ≤ (pc : Int) + o) (hp : ((pc : Int) + o).toNat = pc') (k : own_W l Z y bytes ml ret R n0 Q h cells slots pc' Ls st) : own_W l Z y bytes ml ret R n0 Q h cells slots pc Ls (.int (XT.cmpL u w) :: st) :=
  own_pure (fun p e below T t m c hA hx hb hr => XS.ifYes hA hx rfl rfl (hb ▸ hd) rfl (XT.ll_gt_t hc) ho hp hr) k
theorem own_il_gt_f {u w : Int64} {o : Int} (hd : decode bytes pc = .ok (.ifCond .gt o, 3)) (hc : ¬ w < u) (hp : pc + 3 = pc') (k : own_W l Z y bytes ml ret R n0 Q h cells slots pc' Ls st) : own_W l Z y bytes ml ret R n0 Q h cells slots pc Ls (.int (XT.cmpL u w) :: st) :=
  own_pure (fun p e below T t m c hA hx hb hr => by subst hp; exact XS.ifNo hA hx rfl (hb ▸ hd) rfl (XT.ll_gt_f hc) hr) k
theorem own_il_gt {u w : Int64} {o : Int} {pf : Nat} (hd : decode bytes pc = .ok (.ifCond .gt o, 3)) (ho : 0 ≤ (pc : Int) + o) (hp : ((pc : Int) + o).toNat = pc') (hq : pc + 3 = pf) (kt : w < u → own_W l Z y bytes ml ret R n0 Q h cells slots pc' Ls st) (kf : ¬ w < u → own_W l Z y bytes ml ret R n0 Q h cells slots pf Ls st) : own_W l Z y bytes ml ret R n0 Q h cells slots pc Ls (.int (XT.cmpL u w) :: st) := by
  by_cases hc : w < u
  · exact own_il_gt_t hd hc ho hp (kt hc)
  · exact own_il_gt_f hd (by first | exact hc | exact Decidable.not_not.mp hc) hq (kf (by first | exact hc | exact Decidable.not_not.mp hc))
theorem own_if_le_t {u : Int32} {o : Int} (hd : decode bytes pc = .ok (.ifCond .le o, 3)) (hc : ¬ 0 < u) (ho : 0 ≤ (pc : Int) + o) (hp : ((pc : Int) + o).toNat = pc') (k : own_W l Z y bytes ml ret R n0 Q h cells slots pc' Ls st) : own_W l Z y bytes ml ret R n0 Q h cells slots pc Ls (.int u :: st) :=
  own_pure (fun p e below T t m c hA hx hb hr => XS.ifYes hA hx rfl rfl (hb ▸ hd) rfl (XT.i0_le_t hc) ho hp hr) k
theorem own_if_le_f {u : Int32} {o : Int} (hd : decode bytes pc = .ok (.ifCond .le o, 3)) (hc : 0 < u) (hp : pc + 3 = pc') (k : own_W l Z y bytes ml ret R n0 Q h cells slots pc' Ls st) : own_W l Z y bytes ml ret R n0 Q h cells slots pc Ls (.int u :: st) :=
  own_pure (fun p e below T t m c hA hx hb hr => by subst hp; exact XS.ifNo hA hx rfl (hb ▸ hd) rfl (XT.i0_le_f hc) hr) k
theorem own_if_le {u : Int32} {o : Int} {pf : Nat} (hd : decode bytes pc = .ok (.ifCond .le o, 3)) (ho : 0 ≤ (pc : Int) + o) (hp : ((pc : Int) + o).toNat = pc') (hq : pc + 3 = pf) (kt : ¬ 0 < u → own_W l Z y bytes ml ret R n0 Q h cells slots pc' Ls st) (kf : 0 < u → own_W l Z y bytes ml ret R n0 Q h cells slots pf Ls st) : own_W l Z y bytes ml ret R n0 Q h cells slots pc Ls (.int u :: st) := by
  by_cases hc : ¬ 0 < u
  · exact own_if_le_t hd hc ho hp (kt hc)
  · exact own_if_le_f hd (by first | exact hc | exact Decidable.not_not.mp hc) hq (kf (by first | exact hc | exact Decidable.not_not.mp hc))
theorem own_ic_le_t {u w : Int32} {o : Int} (hd : decode bytes pc = .ok (.if_icmp .le o, 3)) (hc : ¬ w < u) (ho : 0 ≤ (pc : Int) + o) (hp : ((pc : Int) + o).toNat = pc') (k : own_W l Z y bytes ml ret R n0 Q h cells slots pc' Ls st) : own_W l Z y bytes ml ret R n0 Q h cells slots pc Ls (.int w :: .int u :: st) :=
  own_pure (fun p e below T t m c hA hx hb hr => XS.icmpYes hA hx rfl rfl (hb ▸ hd) rfl (XT.ii_le_t hc) ho hp hr) k
theorem own_ic_le_f {u w : Int32} {o : Int} (hd : decode bytes pc = .ok (.if_icmp .le o, 3)) (hc : w < u) (hp : pc + 3 = pc') (k : own_W l Z y bytes ml ret R n0 Q h cells slots pc' Ls st) : own_W l Z y bytes ml ret R n0 Q h cells slots pc Ls (.int w :: .int u :: st) :=
  own_pure (fun p e below T t m c hA hx hb hr => by subst hp; exact XS.icmpNo hA hx rfl (hb ▸ hd) rfl (XT.ii_le_f hc) hr) k
theorem own_ic_le {u w : Int32} {o : Int} {pf : Nat} (hd : decode bytes pc = .ok (.if_icmp .le o, 3)) (ho : 0 ≤ (pc : Int) + o) (hp : ((pc : Int) + o).toNat = pc') (hq : pc + 3 = pf) (kt : ¬ w < u → own_W l Z y bytes ml ret R n0 Q h cells slots pc' Ls st) (kf : w < u → own_W l Z y bytes ml ret R n0 Q h cells slots pf Ls st) : own_W l Z y bytes ml ret R n0 Q h cells slots pc Ls (.int w :: .int u :: st) := by
  by_cases hc : ¬ w < u
  · exact own_ic_le_t hd hc ho hp (kt hc)
  · exact own_ic_le_f hd (by first | exact hc | exact Decidable.not_not.mp hc) hq (kf (by first | exact hc | exact Decidable.not_not.mp hc))
theorem own_il_le_t {u w : Int64} {o : Int} (hd : decode bytes pc = .ok (.ifCond .le o, 3)) (hc : ¬ w < u) (ho : 0 ≤ (pc : Int) + o) (hp : ((pc : Int) + o).toNat = pc') (k : own_W l Z y bytes ml ret R n0 Q h cells slots pc' Ls st) : own_W l Z y bytes ml ret R n0 Q h cells slots pc Ls (.int (XT.cmpL u w) :: st) :=
  own_pure (fun p e below T t m c hA hx hb hr => XS.ifYes hA hx rfl rfl (hb ▸ hd) rfl (XT.ll_le_t hc) ho hp hr) k
theorem own_il_le_f {u w : Int64} {o : Int} (hd : decode bytes pc = .ok (.ifCond .le o, 3)) (hc : w < u) (hp : pc + 3 = pc') (k : own_W l Z y bytes ml ret R n0 Q h cells slots pc' Ls st) : own_W l Z y bytes ml ret R n0 Q h cells slots pc Ls (.int (XT.cmpL u w) :: st) :=
  own_pure (fun p e below T t m c hA hx hb hr => by subst hp; exact XS.ifNo hA hx rfl (hb ▸ hd) rfl (XT.ll_le_f hc) hr) k
theorem own_il_le {u w : Int64} {o : Int} {pf : Nat} (hd : decode bytes pc = .ok (.ifCond .le o, 3)) (ho : 0 ≤ (pc : Int) + o) (hp : ((pc : Int) + o).toNat = pc') (hq : pc + 3 = pf) (kt : ¬ w < u → own_W l Z y bytes ml ret R n0 Q h cells slots pc' Ls st) (kf : w < u → own_W l Z y bytes ml ret R n0 Q h cells slots pf Ls st) : own_W l Z y bytes ml ret R n0 Q h cells slots pc Ls (.int (XT.cmpL u w) :: st) := by
  by_cases hc : ¬ w < u
  · exact own_il_le_t hd hc ho hp (kt hc)
  · exact own_il_le_f hd (by first | exact hc | exact Decidable.not_not.mp hc) hq (kf (by first | exact hc | exact Decidable.not_not.mp hc))
theorem own_ifnull_f {u : Addr} {o : Int} (hd : decode bytes pc = .ok (.ifnull o, 3)) (hp : pc + 3 = pc') (k : own_W l Z y bytes ml ret R n0 Q h cells slots pc' Ls st) : own_W l Z y bytes ml ret R n0 Q h cells slots pc Ls (.ref u :: st) :=
  own_pure (fun p e below T t m c hA hx hb hr => by subst hp; exact XS.ifnullNo hA hx rfl (hb ▸ hd) rfl hr) k
theorem own_ifnonnull_t {u : Addr} {o : Int} (hd : decode bytes pc = .ok (.ifnonnull o, 3)) (ho : 0 ≤ (pc : Int) + o) (hp : ((pc : Int) + o).toNat = pc') (k : own_W l Z y bytes ml ret R n0 Q h cells slots pc' Ls st) : own_W l Z y bytes ml ret R n0 Q h cells slots pc Ls (.ref u :: st) :=
  own_pure (fun p e below T t m c hA hx hb hr => XT.ifnonnullYes hA hx rfl rfl (hb ▸ hd) rfl ho hp hr) k
theorem own_ldcI {idx : Nat} {u : Int32} (w : (Jvm.Cond.constant y.cls idx u).before a0 Z = true) (hd : decode bytes pc = .ok (.ldc idx, 2)) (hp : pc + 2 = pc') (k : own_W l Z y bytes ml ret R n0 Q h cells slots pc' Ls (.int u :: st)) : own_W l Z y bytes ml ret R n0 Q h cells slots pc Ls st := by
  intro p e s m args below meth c T locs hx hZ hown hby hml hret hlk hnm hce hsl X eT N
  subst hp
  obtain ⟨s₂, o, h1, h2⟩ := k p e s m args below meth c T locs hx hZ hown hby hml hret hlk hnm hce hsl X eT N
  exact ⟨s₂, o, X.ldcInt hx hown (mvT hZ w) (g := mkF m pc Ls st) rfl (hb hby hd) _ h1, h2⟩
theorem own_ldcWI {idx : Nat} {u : Int32} (w : (Jvm.Cond.constant y.cls idx u).before a0 Z = true) (hd : decode bytes pc = .ok (.ldc_w idx, 3)) (hp : pc + 3 = pc') (k : own_W l Z y bytes ml ret R n0 Q h cells slots pc' Ls (.int u :: st)) : own_W l Z y bytes ml ret R n0 Q h cells slots pc Ls st := by
  intro p e s m args below meth c T locs hx hZ hown hby hml hret hlk hnm hce hsl X eT N
  subst hp
  obtain ⟨s₂, o, h1, h2⟩ := k p e s m args below meth c T locs hx hZ hown hby hml hret hlk hnm hce hsl X eT N
  exact ⟨s₂, o, X.ldcWInt hx hown (mvT hZ w) (g := mkF m pc Ls st) rfl (hb hby hd) _ h1, h2⟩
theorem own_ldc2 {idx : Nat} {u : Int64} (w : (Jvm.Cond.constantLong y.cls idx u).before a0 Z = true) (hd : decode bytes pc = .ok (.ldc2_w idx, 3)) (hp : pc + 3 = pc') (k : own_W l Z y bytes ml ret R n0 Q h cells slots pc' Ls (.long u :: st)) : own_W l Z y bytes ml ret R n0 Q h cells slots pc Ls st := by
  intro p e s m args below meth c T locs hx hZ hown hby hml hret hlk hnm hce hsl X eT N
  subst hp
  obtain ⟨s₂, o, h1, h2⟩ := k p e s m args below meth c T locs hx hZ hown hby hml hret hlk hnm hce hsl X eT N
  exact ⟨s₂, o, X.ldc2Long hx hown (mvT hZ w) (g := mkF m pc Ls st) rfl (hb hby hd) _ h1, h2⟩
theorem own_iret {u : Int32} (hr0 : ret = some .int) (hd : decode bytes pc = .ok (.ireturn, 1)) (hq : Q (some (.int u)) h) : own_W l Z y bytes ml ret R n0 Q h cells slots pc Ls (.int u :: st) := by
  intro p e s m args below meth c T locs hx hZ hown hby hml hret hlk hnm hce hsl X eT N
  subst hr0
  obtain ⟨fs, hr, hrun, hended, hW, hsame⟩ := X.leave (v := some (.int u)) (fun h => by rw [hret] at h; cases h) hlk
  refine ⟨_, _, ?_, hrun, hended, _, _, rfl, ⟨?_, N⟩, ⟨_, rfl⟩, hW, hsame.mono hce hsl⟩
  · exact retOut X hx hret rfl (Or.inl ⟨rfl, Or.inl rfl, _, rfl⟩) (hb hby hd) hr
  · rw [show (T.setFrames fs).heap = h from eT]; exact hq
theorem own_zret {u : Int32} {t : FieldType} (hr0 : ret = some t) (ht : t = .boolean ∨ t = .byte ∨ t = .char ∨ t = .short) (hd : decode bytes pc = .ok (.ireturn, 1)) (hq : Q (some (.int (nar t u))) h) : own_W l Z y bytes ml ret R n0 Q h cells slots pc Ls (.int u :: st) := by
  intro p e s m args below meth c T locs hx hZ hown hby hml hret hlk hnm hce hsl X eT N
  subst hr0
  obtain ⟨fs, hr, hrun, hended, hW, hsame⟩ := X.leave (v := some (.int (nar t u))) (fun h => by rw [hret] at h; cases h) hlk
  refine ⟨_, _, ?_, hrun, hended, _, _, rfl, ⟨?_, N⟩, ⟨_, rfl⟩, hW, hsame.mono hce hsl⟩
  · exact retN X hx hret ht (hb hby hd) hr
  · rw [show (T.setFrames fs).heap = h from eT]; exact hq
theorem own_bret {u v : Int32} (hr0 : ret = some .boolean) (hv : u &&& 1 = v) (hd : decode bytes pc = .ok (.ireturn, 1)) (hq : Q (some (.int v)) h) : own_W l Z y bytes ml ret R n0 Q h cells slots pc Ls (.int u :: st) :=
  own_zret hr0 (Or.inl rfl) hd (by subst hv; exact hq)
theorem own_lret {u : Int64} (hr0 : ret = some .long) (hd : decode bytes pc = .ok (.lreturn, 1)) (hq : Q (some (.long u)) h) : own_W l Z y bytes ml ret R n0 Q h cells slots pc Ls (.long u :: st) := by
  intro p e s m args below meth c T locs hx hZ hown hby hml hret hlk hnm hce hsl X eT N
  subst hr0
  obtain ⟨fs, hr, hrun, hended, hW, hsame⟩ := X.leave (v := some (.long u)) (fun h => by rw [hret] at h; cases h) hlk
  refine ⟨_, _, ?_, hrun, hended, _, _, rfl, ⟨?_, N⟩, ⟨_, rfl⟩, hW, hsame.mono hce hsl⟩
  · exact retOut X hx hret rfl (Or.inr (Or.inl ⟨rfl, rfl, _, rfl⟩)) (hb hby hd) hr
  · rw [show (T.setFrames fs).heap = h from eT]; exact hq
theorem own_aret {u : Addr} {t : FieldType} (hr0 : ret = some t) (ht : t.isReference = true) (hn : narrow t (.ref u) = .ref u) (hd : decode bytes pc = .ok (.areturn, 1)) (hq : Q (some (.ref u)) h) : own_W l Z y bytes ml ret R n0 Q h cells slots pc Ls (.ref u :: st) := by
  intro p e s m args below meth c T locs hx hZ hown hby hml hret hlk hnm hce hsl X eT N
  subst hr0
  obtain ⟨fs, hr, hrun, hended, hW, hsame⟩ := X.leave (v := some (.ref u)) (fun h => by rw [hret] at h; cases h) hlk
  refine ⟨_, _, ?_, hrun, hended, _, _, rfl, ⟨?_, N⟩, ⟨_, rfl⟩, hW, hsame.mono hce hsl⟩
  · exact retOut X hx hret hn (Or.inr (Or.inr (Or.inr (Or.inr ⟨rfl, ht, rfl⟩)))) (hb hby hd) hr
  · rw [show (T.setFrames fs).heap = h from eT]; exact hq
theorem own_ret (hr0 : ret = none) (hd : decode bytes pc = .ok (.return_, 1)) (hq : Q none h) : own_W l Z y bytes ml ret R n0 Q h cells slots pc Ls [] := by
  intro p e s m args below meth c T locs hx hZ hown hby hml hret hlk hnm hce hsl X eT N
  subst hr0
  obtain ⟨fs, hr, hrun, hended, hW, hsame⟩ := X.leave (v := none) (fun _ => rfl) hlk
  refine ⟨_, _, ?_, hrun, hended, _, _, rfl, ⟨?_, N⟩, ⟨_, rfl⟩, hW, hsame.mono hce hsl⟩
  · exact X.returnOut hx hret (hb hby hd) hr
  · rw [show (T.setFrames fs).heap = h from eT]; exact hq
theorem own_getF {O n d : String} {idx : Nat} {a : Addr} {v : Value} (w : (Jvm.Cond.fieldLink y.cls idx O n d).before a0 Z = true) (F : Fld Z h a O n d v) (hd : decode bytes pc = .ok (.getfield idx, 3)) (hp : pc + 3 = pc') (k : own_W l Z y bytes ml ret R n0 Q h cells slots pc' Ls (v :: st)) : own_W l Z y bytes ml ret R n0 Q h cells slots pc Ls (.ref a :: st) := by
  intro p e s m args below meth c T locs hx hZ hown hby hml hret hlk hnm hce hsl X eT N
  subst hp
  obtain ⟨T', X', e', st'⟩ := getF X hx hZ hown (host := "") (Or.inl w) Via.refl eT F (g := mkF m pc Ls (.ref a :: st)) rfl rfl (hb hby hd)
  obtain ⟨s₂, o, h1, h2⟩ := k p e s m args below meth c T' locs hx hZ hown hby hml hret hlk hnm hce hsl X' e' N
  exact ⟨s₂, o, st' _ h1, h2⟩
theorem own_putF {O n d C : String} {idx kk : Nat} {a : Addr} {v old : Value} {ty : FieldType} (w : (Jvm.Cond.fieldLink y.cls idx O n d).before a0 Z = true) (F : Fld Z h a O n d old) (E : Exa Z h a C) (L : (Jvm.Cond.lays C O n d).before a0 Z = true ∨ ((Jvm.Cond.laysFinal C O n d).before a0 Z = true ∧ y.cls = O ∧ y.name = "<init>")) (wi : (Jvm.Cond.instantiable C kk).before a0 Z = true)
    (ge : n0 ≤ a) (hty : parseFieldDescriptor d = some ty) (hn : narrow ty v = v) (hf : fits ty v = true) (hd : decode bytes pc = .ok (.putfield idx, 3)) (hp : pc + 3 = pc')
    (k : ∀ h', Wr h h' a (Jvm.RoadKit.slotOf Z O n d) v → Keep h h' [a] → own_W l Z y bytes ml ret R n0 Q h' cells slots pc' Ls st) : own_W l Z y bytes ml ret R n0 Q h cells slots pc Ls (v :: .ref a :: st) := by
  intro p e s m args below meth c T locs hx hZ hown hby hml hret hlk hnm hce hsl X eT N
  subst hp
  obtain ⟨T', h', X', e', W', st'⟩ := putF X hx hZ hown (host := "") (Or.inl w) Via.refl eT F E (L.imp id fun q => ⟨q.1, q.2.1, hnm.trans q.2.2⟩) wi hty hn hf (g := mkF m pc Ls (v :: .ref a :: st)) rfl rfl (hb hby hd)
  obtain ⟨s₂, o, h1, h2⟩ := k h' W' (Keep.of_wr W') p e s m args below meth c T' _ hx hZ hown hby hml hret hlk hnm hce hsl X' e' (Fr.snoc X' N ge)
  exact ⟨s₂, o, st' _ h1, h2⟩
theorem own_new {C : String} {idx n : Nat} (w : (Jvm.Cond.classLink y.cls idx C).before a0 Z = true) (wi : (Jvm.Cond.instantiable C n).before a0 Z = true) (wz : (Jvm.Cond.initialized C).before a0 Z = true) (hd : decode bytes pc = .ok (.new idx, 3)) (hp : pc + 3 = pc') (hc : cells + 1 ≤ R.cells) (hl : slots + n ≤ R.slots)
    (k : ∀ (h' : Heap) (a : Addr), h.size ≤ a → a < h'.size → Ext h h' → Exa Z h' a C → (∀ {O nm d : String} {ty : FieldType}, Laid Z a0 C O nm d → parseFieldDescriptor d = some ty → Fld Z h' a O nm d (defaultValue ty)) → own_W l Z y bytes ml ret R n0 Q h' (cells + 1) (slots + n) pc' Ls (.ref a :: st)) : own_W l Z y bytes ml ret R n0 Q h cells slots pc Ls st := by
  intro p e s m args below meth c T locs hx hZ hown hby hml hret hlk hnm hce hsl X eT N
  subst hp
  obtain ⟨T', h', X', e', E', A', D', -, st'⟩ := newO X hx hZ hown w wi wz eT (g := mkF m pc Ls st) rfl (hb hby hd) hc hl
  obtain ⟨s₂, o, h1, h2⟩ := k h' h.size (Nat.le_refl _) A'.lt E' A' D' p e s m args below meth c T' _ hx hZ hown hby hml hret hlk hnm hc hl X' e' N
  exact ⟨s₂, o, st' _ h1, h2⟩
theorem own_initO {idx W : Nat} {a : Addr} (w1 : (Jvm.Cond.methodLink y.cls idx Lib.objectInit).before a0 Z = true) (w2 : (Jvm.Cond.instanceMethod Lib.objectInit).before a0 Z = true) (w3 : (Jvm.Cond.code Lib.objectInit ⟨#[0xb1]⟩ 1 none).before a0 Z = true) (hd : decode bytes pc = .ok (.invokespecial idx, 3)) (hp : pc + 3 = pc')
    (hsz : Ls.size = ml) (hf : 1 ≤ R.frames) (hW : (st.map fun v => v.category).sum ≤ W) (hl : W + 12 ≤ R.locals) (k : own_W l Z y bytes ml ret R n0 Q h cells slots pc' Ls st) : own_W l Z y bytes ml ret R n0 Q h cells slots pc Ls (.ref a :: st) := by
  intro p e s m args below meth c T locs hx hZ hown hby hml hret hlk hnm hce hsl X eT N
  subst hp
  obtain ⟨T', X', e', st'⟩ := initO X hx hZ hown w1 w2 w3 eT (g := mkF m pc Ls (.ref a :: st)) rfl (by rw [hml]; exact hsz) rfl (hb hby hd) hf (W := W) (by show 2 * 0 + _ ≤ _; omega) hl
  obtain ⟨s₂, o, h1, h2⟩ := k p e s m args below meth c T' locs hx hZ hown hby hml hret hlk hnm hce hsl X' e' N
  exact ⟨s₂, o, st' _ h1, h2⟩
/-- an array of this component type with just these components -/
def own_A (Z : State) (h : Heap) (a : Addr) (ty : FieldType) (vs : List Value) : Prop := ∃ c : Cell, Arr Z h a c ty ∧ c.slots.toList = vs ∧ vs.length < 2 ^ 31 ∧ ∀ v ∈ vs, fits ty v = true
theorem own_A.lt {a : Addr} {ty : FieldType} {vs : List Value} (A : own_A Z h a ty vs) : a < h.size := by obtain ⟨c, A, -⟩ := A; exact A.lt
theorem own_A.ext {h' : Heap} {a : Addr} {ty : FieldType} {vs : List Value} (A : own_A Z h a ty vs) (E : Ext h h') : own_A Z h' a ty vs := by obtain ⟨c, A, r⟩ := A; exact ⟨c, A.ext E, r⟩
theorem own_A.keep {h' : Heap} {a : Addr} {ty : FieldType} {vs : List Value} {ws : List Addr} (A : own_A Z h a ty vs) (K : Keep h h' ws) (q : a ∉ ws) : own_A Z h' a ty vs := by obtain ⟨c, A, r⟩ := A; exact ⟨c, ⟨K.2.1 a c A.1 q, A.2⟩, r⟩
theorem own_A.cast {a : Addr} {ty : FieldType} {vs vs' : List Value} (A : own_A Z h a ty vs) (q : vs = vs') : own_A Z h a ty vs' := q ▸ A
theorem own_size {c : Cell} {vs : List Value} (q : c.slots.toList = vs) : c.slots.size = vs.length := by rw [← q]; simp
theorem own_in {c : Cell} {vs : List Value} {j : Int32} (q : c.slots.toList = vs) (h0 : ¬ j < 0) (h1 : j.toNatClampNeg < vs.length) : ¬ (j < 0 ∨ c.slots.size ≤ j.toNatClampNeg) := by rw [own_size q]; rintro (u | u); exact h0 u; omega
theorem own_get {c : Cell} {vs : List Value} {j : Nat} {v : Value} (q : c.slots.toList = vs) (h1 : vs[j]? = some v) : c.slots[j]? = some v := by rw [← Array.getElem?_toList, q]; exact h1
theorem own_A.set {h' : Heap} {a : Addr} {ty : FieldType} {vs : List Value} {j : Nat} {v : Value} {c : Cell} (A : Arr Z h a c ty) (q : c.slots.toList = vs) (hl : vs.length < 2 ^ 31) (hft : ∀ v ∈ vs, fits ty v = true) (hv : fits ty v = true) (W : Wr h h' a j v) : own_A Z h' a ty (vs.set j v) := by
  refine ⟨_, A.same W, ?_, by simpa using hl, fun w hw => (List.mem_or_eq_of_mem_set hw).elim (hft w) fun e => e ▸ hv⟩
  rw [← q]; simp [Cell.setSlot]
theorem own_fitd (ty : FieldType) : fits ty (defaultValue ty) = true := by cases ty <;> rfl
theorem own_len {a : Addr} {ty : FieldType} {vs : List Value} {n : Int32} (A : own_A Z h a ty vs) (hn : vs.length.toInt32 = n) (hd : decode bytes pc = .ok (.arraylength, 1)) (hp : pc + 1 = pc') (k : own_W l Z y bytes ml ret R n0 Q h cells slots pc' Ls (.int n :: st)) : own_W l Z y bytes ml ret R n0 Q h cells slots pc Ls (.ref a :: st) := by
  intro p e s m args below meth c T locs hx hZ hown hby hml hret hlk hnm hce hsl X eT N
  subst hp hn
  obtain ⟨cl, A, q, hl, hft⟩ := A
  obtain ⟨s₂, o, h1, h2⟩ := k p e s m args below meth c T locs hx hZ hown hby hml hret hlk hnm hce hsl X eT N
  refine ⟨s₂, o, X.arraylength hx (by rw [eT]; exact A.1) (State.isArrayOf_alike hZ.alike A.2.1) (g := mkF m pc Ls (.ref a :: st)) rfl rfl (hb hby hd) _ ?_, h2⟩
  rw [own_size q]; exact h1
theorem own_iaload {a : Addr} {vs : List Value} {j : Int32} {v : Value} (A : own_A Z h a .int vs) (h0 : ¬ j < 0) (hv : vs[j.toNatClampNeg]? = some v) (hd : decode bytes pc = .ok (.iaload, 1)) (hp : pc + 1 = pc') (k : own_W l Z y bytes ml ret R n0 Q h cells slots pc' Ls (v :: st)) : own_W l Z y bytes ml ret R n0 Q h cells slots pc Ls (.int j :: .ref a :: st) := by
  intro p e s m args below meth c T locs hx hZ hown hby hml hret hlk hnm hce hsl X eT N
  subst hp
  obtain ⟨cl, A, q, hl, hft⟩ := A
  obtain ⟨s₂, o, h1, h2⟩ := k p e s m args below meth c T locs hx hZ hown hby hml hret hlk hnm hce hsl X eT N
  exact ⟨s₂, o, X.iaload hx (by rw [eT]; exact A.1) (State.isArrayOf_alike hZ.alike A.2.1) A.2.2 (own_in q h0 (List.getElem?_eq_some_iff.mp hv).1) (own_get q hv) (g := mkF m pc Ls (.int j :: .ref a :: st)) rfl rfl (hb hby hd) _ h1, h2⟩
theorem own_laload {a : Addr} {vs : List Value} {j : Int32} {v : Value} (A : own_A Z h a .long vs) (h0 : ¬ j < 0) (hv : vs[j.toNatClampNeg]? = some v) (hd : decode bytes pc = .ok (.laload, 1)) (hp : pc + 1 = pc') (k : own_W l Z y bytes ml ret R n0 Q h cells slots pc' Ls (v :: st)) : own_W l Z y bytes ml ret R n0 Q h cells slots pc Ls (.int j :: .ref a :: st) := by
  intro p e s m args below meth c T locs hx hZ hown hby hml hret hlk hnm hce hsl X eT N
  subst hp
  obtain ⟨cl, A, q, hl, hft⟩ := A
  obtain ⟨s₂, o, h1, h2⟩ := k p e s m args below meth c T locs hx hZ hown hby hml hret hlk hnm hce hsl X eT N
  exact ⟨s₂, o, X.laload hx (by rw [eT]; exact A.1) (State.isArrayOf_alike hZ.alike A.2.1) A.2.2 (own_in q h0 (List.getElem?_eq_some_iff.mp hv).1) (own_get q hv) (g := mkF m pc Ls (.int j :: .ref a :: st)) rfl rfl (hb hby hd) _ h1, h2⟩
theorem own_caload {a : Addr} {vs : List Value} {j : Int32} {v : Value} (A : own_A Z h a .char vs) (h0 : ¬ j < 0) (hv : vs[j.toNatClampNeg]? = some v) (hd : decode bytes pc = .ok (.caload, 1)) (hp : pc + 1 = pc') (k : own_W l Z y bytes ml ret R n0 Q h cells slots pc' Ls (v :: st)) : own_W l Z y bytes ml ret R n0 Q h cells slots pc Ls (.int j :: .ref a :: st) := by
  intro p e s m args below meth c T locs hx hZ hown hby hml hret hlk hnm hce hsl X eT N
  subst hp
  obtain ⟨cl, A, q, hl, hft⟩ := A
  obtain ⟨s₂, o, h1, h2⟩ := k p e s m args below meth c T locs hx hZ hown hby hml hret hlk hnm hce hsl X eT N
  exact ⟨s₂, o, X.caload hx (by rw [eT]; exact A.1) (State.isArrayOf_alike hZ.alike A.2.1) A.2.2 (own_in q h0 (List.getElem?_eq_some_iff.mp hv).1) (own_get q hv) (g := mkF m pc Ls (.int j :: .ref a :: st)) rfl rfl (hb hby hd) _ h1, h2⟩
theorem own_baload {a : Addr} {vs : List Value} {j : Int32} {v : Value} (A : own_A Z h a .byte vs) (h0 : ¬ j < 0) (hv : vs[j.toNatClampNeg]? = some v) (hd : decode bytes pc = .ok (.baload, 1)) (hp : pc + 1 = pc') (k : own_W l Z y bytes ml ret R n0 Q h cells slots pc' Ls (v :: st)) : own_W l Z y bytes ml ret R n0 Q h cells slots pc Ls (.int j :: .ref a :: st) := by
  intro p e s m args below meth c T locs hx hZ hown hby hml hret hlk hnm hce hsl X eT N
  subst hp
  obtain ⟨cl, A, q, hl, hft⟩ := A
  obtain ⟨s₂, o, h1, h2⟩ := k p e s m args below meth c T locs hx hZ hown hby hml hret hlk hnm hce hsl X eT N
  exact ⟨s₂, o, X.baloadBytes hx (by rw [eT]; exact A.1) (State.isArrayOf_alike hZ.alike A.2.1) A.2.2 (own_in q h0 (List.getElem?_eq_some_iff.mp hv).1) (own_get q hv) (g := mkF m pc Ls (.int j :: .ref a :: st)) rfl rfl (hb hby hd) _ h1, h2⟩
theorem own_zaload {a : Addr} {vs : List Value} {j : Int32} {v : Value} (A : own_A Z h a .boolean vs) (h0 : ¬ j < 0) (hv : vs[j.toNatClampNeg]? = some v) (hd : decode bytes pc = .ok (.baload, 1)) (hp : pc + 1 = pc') (k : own_W l Z y bytes ml ret R n0 Q h cells slots pc' Ls (v :: st)) : own_W l Z y bytes ml ret R n0 Q h cells slots pc Ls (.int j :: .ref a :: st) := by
  intro p e s m args below meth c T locs hx hZ hown hby hml hret hlk hnm hce hsl X eT N
  subst hp
  obtain ⟨cl, A, q, hl, hft⟩ := A
  obtain ⟨s₂, o, h1, h2⟩ := k p e s m args below meth c T locs hx hZ hown hby hml hret hlk hnm hce hsl X eT N
  exact ⟨s₂, o, X.baloadBooleans hx (by rw [eT]; exact A.1) (State.isArrayOf_alike hZ.alike A.2.1) A.2.2 (own_in q h0 (List.getElem?_eq_some_iff.mp hv).1) (own_get q hv) (g := mkF m pc Ls (.int j :: .ref a :: st)) rfl rfl (hb hby hd) _ h1, h2⟩
theorem own_iastore {a : Addr} {vs : List Value} {j : Int32} {u : Int32} (A : own_A Z h a .int vs) (h0 : ¬ j < 0) (h1 : j.toNatClampNeg < vs.length) (ge : n0 ≤ a) (hd : decode bytes pc = .ok (.iastore, 1)) (hp : pc + 1 = pc') (k : ∀ h', Keep h h' [a] → own_A Z h' a .int (vs.set j.toNatClampNeg (.int u)) → own_W l Z y bytes ml ret R n0 Q h' cells slots pc' Ls st) : own_W l Z y bytes ml ret R n0 Q h cells slots pc Ls (.int u :: .int j :: .ref a :: st) := by
  intro p e s m args below meth c T locs hx hZ hown hby hml hret hlk hnm hce hsl X eT N
  subst hp
  obtain ⟨cl, A, q, hl, hft⟩ := A
  obtain ⟨T', h', X', e', W', st'⟩ := stI X hx hZ eT A (own_in q h0 h1) (g := mkF m pc Ls (.int u :: .int j :: .ref a :: st)) rfl rfl (hb hby hd)
  obtain ⟨s₂, o, h1, h2⟩ := k h' (Keep.of_wr W') (own_A.set A q hl hft rfl W') p e s m args below meth c T' _ hx hZ hown hby hml hret hlk hnm hce hsl X' e' (Fr.snoc X' N ge)
  exact ⟨s₂, o, st' _ h1, h2⟩
theorem own_lastore {a : Addr} {vs : List Value} {j : Int32} {u : Int64} (A : own_A Z h a .long vs) (h0 : ¬ j < 0) (h1 : j.toNatClampNeg < vs.length) (ge : n0 ≤ a) (hd : decode bytes pc = .ok (.lastore, 1)) (hp : pc + 1 = pc') (k : ∀ h', Keep h h' [a] → own_A Z h' a .long (vs.set j.toNatClampNeg (.long u)) → own_W l Z y bytes ml ret R n0 Q h' cells slots pc' Ls st) : own_W l Z y bytes ml ret R n0 Q h cells slots pc Ls (.long u :: .int j :: .ref a :: st) := by
  intro p e s m args below meth c T locs hx hZ hown hby hml hret hlk hnm hce hsl X eT N
  subst hp
  obtain ⟨cl, A, q, hl, hft⟩ := A
  obtain ⟨T', h', X', e', W', st'⟩ := stJ X hx hZ eT A (own_in q h0 h1) (g := mkF m pc Ls (.long u :: .int j :: .ref a :: st)) rfl rfl (hb hby hd)
  obtain ⟨s₂, o, h1, h2⟩ := k h' (Keep.of_wr W') (own_A.set A q hl hft rfl W') p e s m args below meth c T' _ hx hZ hown hby hml hret hlk hnm hce hsl X' e' (Fr.snoc X' N ge)
  exact ⟨s₂, o, st' _ h1, h2⟩
theorem own_castore {a : Addr} {vs : List Value} {j : Int32} {u : Int32} (A : own_A Z h a .char vs) (h0 : ¬ j < 0) (h1 : j.toNatClampNeg < vs.length) (ge : n0 ≤ a) (hd : decode bytes pc = .ok (.castore, 1)) (hp : pc + 1 = pc') (k : ∀ h', Keep h h' [a] → own_A Z h' a .char (vs.set j.toNatClampNeg (.int (nar .char u))) → own_W l Z y bytes ml ret R n0 Q h' cells slots pc' Ls st) : own_W l Z y bytes ml ret R n0 Q h cells slots pc Ls (.int u :: .int j :: .ref a :: st) := by
  intro p e s m args below meth c T locs hx hZ hown hby hml hret hlk hnm hce hsl X eT N
  subst hp
  obtain ⟨cl, A, q, hl, hft⟩ := A
  obtain ⟨T', h', X', e', W', st'⟩ := stC X hx hZ eT A (own_in q h0 h1) (g := mkF m pc Ls (.int u :: .int j :: .ref a :: st)) rfl rfl (hb hby hd)
  obtain ⟨s₂, o, h1, h2⟩ := k h' (Keep.of_wr W') (own_A.set A q hl hft (fits_nar_char u) W') p e s m args below meth c T' _ hx hZ hown hby hml hret hlk hnm hce hsl X' e' (Fr.snoc X' N ge)
  exact ⟨s₂, o, st' _ h1, h2⟩
theorem own_bastore {a : Addr} {vs : List Value} {j : Int32} {u : Int32} (A : own_A Z h a .byte vs) (h0 : ¬ j < 0) (h1 : j.toNatClampNeg < vs.length) (ge : n0 ≤ a) (hd : decode bytes pc = .ok (.bastore, 1)) (hp : pc + 1 = pc') (k : ∀ h', Keep h h' [a] → own_A Z h' a .byte (vs.set j.toNatClampNeg (.int (nar .byte u))) → own_W l Z y bytes ml ret R n0 Q h' cells slots pc' Ls st) : own_W l Z y bytes ml ret R n0 Q h cells slots pc Ls (.int u :: .int j :: .ref a :: st) := by
  intro p e s m args below meth c T locs hx hZ hown hby hml hret hlk hnm hce hsl X eT N
  subst hp
  obtain ⟨cl, A, q, hl, hft⟩ := A
  obtain ⟨T', h', X', e', W', st'⟩ := stB X hx hZ eT A (own_in q h0 h1) (g := mkF m pc Ls (.int u :: .int j :: .ref a :: st)) rfl rfl (hb hby hd)
  obtain ⟨s₂, o, h1, h2⟩ := k h' (Keep.of_wr W') (own_A.set A q hl hft (fits_nar_byte u) W') p e s m args below meth c T' _ hx hZ hown hby hml hret hlk hnm hce hsl X' e' (Fr.snoc X' N ge)
  exact ⟨s₂, o, st' _ h1, h2⟩
theorem own_zastore {a : Addr} {vs : List Value} {j : Int32} {u : Int32} (A : own_A Z h a .boolean vs) (h0 : ¬ j < 0) (h1 : j.toNatClampNeg < vs.length) (ge : n0 ≤ a) (hd : decode bytes pc = .ok (.bastore, 1)) (hp : pc + 1 = pc') (k : ∀ h', Keep h h' [a] → own_A Z h' a .boolean (vs.set j.toNatClampNeg (.int (nar .boolean u))) → own_W l Z y bytes ml ret R n0 Q h' cells slots pc' Ls st) : own_W l Z y bytes ml ret R n0 Q h cells slots pc Ls (.int u :: .int j :: .ref a :: st) := by
  intro p e s m args below meth c T locs hx hZ hown hby hml hret hlk hnm hce hsl X eT N
  subst hp
  obtain ⟨cl, A, q, hl, hft⟩ := A
  obtain ⟨T', h', X', e', W', st'⟩ := stZ X hx hZ eT A (own_in q h0 h1) (g := mkF m pc Ls (.int u :: .int j :: .ref a :: st)) rfl rfl (hb hby hd)
  obtain ⟨s₂, o, h1, h2⟩ := k h' (Keep.of_wr W') (own_A.set A q hl hft (fits_nar_bool u) W') p e s m args below meth c T' _ hx hZ hown hby hml hret hlk hnm hce hsl X' e' (Fr.snoc X' N ge)
  exact ⟨s₂, o, st' _ h1, h2⟩
theorem own_newarrE {aty : ArrayType} {ty : FieldType} {n : Int32} {cap : Nat} (w : (Jvm.Cond.arrayClass ty).before a0 Z = true) (ht : newarray.typeOf aty = ty) (hd : decode bytes pc = .ok (.newarray aty, 2)) (hp : pc + 2 = pc') (hn : ¬ n < 0) (hcap : n.toNatClampNeg ≤ cap) (hb8 : cap * 8 ≤ 536870912) (hc : cells + 1 ≤ R.cells) (hl : slots + cap ≤ R.slots)
    (k : ∀ (h' : Heap) (a : Addr), h.size ≤ a → a < h'.size → Ext h h' → own_A Z h' a ty (List.replicate n.toNatClampNeg (defaultValue ty)) → Exa Z h' a ("[" ++ ty.toString) → own_W l Z y bytes ml ret R n0 Q h' (cells + 1) (slots + cap) pc' Ls (.ref a :: st)) : own_W l Z y bytes ml ret R n0 Q h cells slots pc Ls (.int n :: st) := by
  intro p e s m args below meth c T locs hx hZ hown hby hml hret hlk hnm hce hsl X eT N
  subst hp ht
  have hcb : componentBytes (newarray.typeOf aty) ≤ 8 := by cases aty <;> decide
  obtain ⟨cA, kA, comp, g1, g2, g3, X', st'⟩ := X.newarrayPrim hx (mvA hZ w) (g := mkF m pc Ls (.int n :: st)) rfl (hb hby hd) rfl hn (Nat.le_trans (Nat.mul_le_mul hcap hcb) hb8) hc (by omega)
  rw [hZ.alike.findClass] at g1
  obtain ⟨kZ, z1, -⟩ := Vm.findClass_spec g1
  obtain ⟨k', z2, z3⟩ := hZ.alike.2.2 _ _ z1
  cases g2.symm.trans z2
  have kk : kZ.kind = .array comp (newarray.typeOf aty) := by rw [← g3, z3]
  have hN : (T.heap.push ({ cls := cA, slots := Array.replicate n.toNatClampNeg (defaultValue (newarray.typeOf aty)), vm := .none } : Cell))[T.heap.size]? = some { cls := cA, slots := Array.replicate n.toNatClampNeg (defaultValue (newarray.typeOf aty)), vm := .none } := by simp
  have E' : Ext h (T.heap.push ({ cls := cA, slots := Array.replicate n.toNatClampNeg (defaultValue (newarray.typeOf aty)), vm := .none } : Cell)) := by
    subst eT
    refine ⟨by simp, fun b cc hb' => ?_⟩
    rw [Array.getElem?_push_lt (Array.getElem?_eq_some_iff.mp hb').1]; exact (Array.getElem?_eq_getElem _).symm.trans hb'
  have A' : own_A Z (T.heap.push ({ cls := cA, slots := Array.replicate n.toNatClampNeg (defaultValue (newarray.typeOf aty)), vm := .none } : Cell)) T.heap.size (newarray.typeOf aty) (List.replicate n.toNatClampNeg (defaultValue (newarray.typeOf aty))) :=
    ⟨_, ⟨hN, ⟨by simp, kZ, z1, comp, kk⟩, by simp⟩, by simp, by simp only [List.length_replicate]; exact (back32 hn).2, fun v hv => by rw [(List.mem_replicate.mp hv).2]; exact own_fitd _⟩
  have X2 := X'.more (Nat.le_refl _) (Nat.add_le_add_left hcap slots)
  obtain ⟨s₂, o, h1, h2⟩ := k _ T.heap.size (by rw [eT]; exact Nat.le_refl _) A'.lt E' A' ⟨_, kZ, hN, g1, z1, rfl, fun q => by rw [kk] at q; cases q⟩ p e s m args below meth c _ _ hx hZ hown hby hml hret hlk hnm hc hl X2 rfl N
  exact ⟨s₂, o, st' _ h1, h2⟩
theorem own_newarr {aty : ArrayType} {ty : FieldType} {n : Int32} {cap : Nat} (w : (Jvm.Cond.arrayClass ty).before a0 Z = true) (ht : newarray.typeOf aty = ty) (hd : decode bytes pc = .ok (.newarray aty, 2)) (hp : pc + 2 = pc') (hn : ¬ n < 0) (hcap : n.toNatClampNeg ≤ cap) (hb8 : cap * 8 ≤ 536870912) (hc : cells + 1 ≤ R.cells) (hl : slots + cap ≤ R.slots)
    (k : ∀ (h' : Heap) (a : Addr), h.size ≤ a → a < h'.size → Ext h h' → own_A Z h' a ty (List.replicate n.toNatClampNeg (defaultValue ty)) → own_W l Z y bytes ml ret R n0 Q h' (cells + 1) (slots + cap) pc' Ls (.ref a :: st)) : own_W l Z y bytes ml ret R n0 Q h cells slots pc Ls (.int n :: st) :=
  own_newarrE w ht hd hp hn hcap hb8 hc hl fun h' a q1 q2 q3 q4 _ => k h' a q1 q2 q3 q4
theorem own_cast {idx : Nat} {K : String} {a : Addr} (w : (Jvm.Cond.classLink y.cls idx K).before a0 Z = true) (F : Ins Z h a K true) (hd : decode bytes pc = .ok (.checkcast idx, 3)) (hp : pc + 3 = pc') (k : own_W l Z y bytes ml ret R n0 Q h cells slots pc' Ls (.ref a :: st)) : own_W l Z y bytes ml ret R n0 Q h cells slots pc Ls (.ref a :: st) := by
  intro p e s m args below meth c T locs hx hZ hown hby hml hret hlk hnm hce hsl X eT N
  subst hp
  obtain ⟨T', X', e', st'⟩ := castY X hx hZ hown w eT F (g := mkF m pc Ls (.ref a :: st)) rfl rfl (hb hby hd)
  obtain ⟨s₂, o, h1, h2⟩ := k p e s m args below meth c T' locs hx hZ hown hby hml hret hlk hnm hce hsl X' e' N
  exact ⟨s₂, o, st' _ h1, h2⟩
theorem own_clone {ad : String} {idx W cap : Nat} {a : Addr} {ty : FieldType} {vs : List Value} (w1 : (Jvm.Cond.methodLink y.cls idx ⟨ad, "clone", "()Ljava/lang/Object;"⟩).before a0 Z = true) (w2 : (Jvm.Cond.sameMethod ad "java/lang/Object" "clone" "()Ljava/lang/Object;").before a0 Z = true) (w3 : (Jvm.Cond.native ⟨"java/lang/Object", "clone", "()Ljava/lang/Object;"⟩).before a0 Z = true)
    (w4 : (Jvm.Cond.instanceMethod ⟨"java/lang/Object", "clone", "()Ljava/lang/Object;"⟩).before a0 Z = true) (w5 : (Jvm.Cond.selects ad ⟨ad, "clone", "()Ljava/lang/Object;"⟩ ⟨"java/lang/Object", "clone", "()Ljava/lang/Object;"⟩).before a0 Z = true) (w6 : (Jvm.Cond.castable ad "java/lang/Cloneable").before a0 Z = true)
    (A : own_A Z h a ty vs) (E : Exa Z h a ad) (hd : decode bytes pc = .ok (.invokevirtual idx, 3)) (hp : pc + 3 = pc') (hsz : Ls.size = ml) (hf : 1 ≤ R.frames) (hW : (st.map fun v => v.category).sum ≤ W) (hl : W + 14 ≤ R.locals) (hcap : vs.length ≤ cap) (hc : cells + 1 ≤ R.cells) (hsl' : slots + cap ≤ R.slots)
    (k : ∀ (h' : Heap) (b : Addr), h.size ≤ b → b < h'.size → Ext h h' → own_A Z h' b ty vs → Exa Z h' b ad → own_W l Z y bytes ml ret R n0 Q h' (cells + 1) (slots + cap) pc' Ls (.ref b :: st)) : own_W l Z y bytes ml ret R n0 Q h cells slots pc Ls (.ref a :: st) := by
  intro p e s m args below meth c T locs hx hZ hown hby hml hret hlk hnm hce hsl X eT N
  subst hp
  obtain ⟨cl, A, q, hlen, hft⟩ := A
  have F : FitC Z cl := fun i v hv => by
    obtain ⟨-, k, hk, comp, hkind⟩ := A.2.1
    have e1 : Z.slotType? cl.cls .none i = some ty := by simp [State.slotType?, hk, hkind]
    have mem : v ∈ vs := by rw [← q]; rw [← Array.getElem?_toList] at hv; exact List.mem_of_getElem? hv
    simpa [State.fitsSlot, e1] using hft v mem
  obtain ⟨T', h', X', e', E', A', E2, st'⟩ := cloneA X hx hZ hown w1 w2 w3 w4 w5 w6 eT A E F (g := mkF m pc Ls (.ref a :: st)) rfl (by rw [hml]; exact hsz) rfl (hb hby hd) hf (W := W) (by show 2 * 0 + _ ≤ _; omega) hl (cap := cap) (by rw [own_size q]; exact hcap) hc hsl'
  obtain ⟨s₂, o, h1, h2⟩ := k h' h.size (Nat.le_refl _) A'.lt E' ⟨_, A', q, hlen, hft⟩ E2 p e s m args below meth c T' locs hx hZ hown hby hml hret hlk hnm hc hsl' X' e' N
  exact ⟨s₂, o, st' _ h1, h2⟩
theorem own_getD {α : Type} (l : List α) (d : α) {i : Nat} (h : i < l.length) : l.getD i d = l[i] := by
  rw [List.getD_eq_getElem?_getD, List.getElem?_eq_getElem h]; rfl
theorem own_len32 {n : Nat} (h : n < 2 ^ 31) : n.toInt32.toNatClampNeg = n ∧ ¬ n.toInt32 < 0 := by
  have e := len_toInt h
  have z : (0 : Int32).toInt = 0 := rfl
  exact ⟨by rw [Int32.toNatClampNeg, e]; rfl, by rw [Int32.lt_iff_toInt_lt, e, z]; omega⟩
theorem own_A.arv {a : Addr} {ty : FieldType} {vs : List Value} (A : own_A Z h a ty vs) (d : Value) : ∃ k, Arv Z h a k ty vs.length.toInt32 vs d := by
  obtain ⟨c, A, q, hl, hft⟩ := A
  have e := own_len32 hl
  refine ⟨c.cls, c, A, rfl, by rw [e.1]; exact own_size q, e.2, fun k hk => ?_, fun k hk => ?_⟩
  · rw [own_size q] at hk
    refine own_get q ?_
    rw [own_getD _ _ hk]; exact List.getElem?_eq_getElem hk
  · rw [own_size q] at hk
    rw [own_getD _ _ hk]; exact hft _ (List.getElem_mem hk)
theorem own_A.ofArv {a : Addr} {ty : FieldType} {vs : List Value} {k : ClassId} {z : Int32} {d : Value} (A : Arv Z h a k ty z vs d) (hz : z.toNatClampNeg = vs.length) (hl : vs.length < 2 ^ 31) : own_A Z h a ty vs := by
  obtain ⟨c, A, -, hs, -, H, G⟩ := A
  have e : c.slots.toList = vs := by
    apply List.ext_getElem?
    intro i
    by_cases hi : i < vs.length
    · rw [Array.getElem?_toList, H i (by omega), own_getD _ _ hi, List.getElem?_eq_getElem hi]
    · rw [List.getElem?_eq_none (by rw [Array.length_toList]; omega), List.getElem?_eq_none (by omega)]
  refine ⟨c, A, e, hl, fun v hv => ?_⟩
  obtain ⟨i, hi, rfl⟩ := List.mem_iff_getElem.mp hv
  have := G i (by omega)
  rwa [own_getD _ _ hi] at this
theorem own_slice (vs : List Value) (d : Value) (p n : Nat) (h : p + n ≤ vs.length) : (vs.drop p).take n = (List.range n).map fun i => vs.getD (p + i) d := by
  apply List.ext_getElem
  · simp; omega
  · intro i h1 h2
    simp only [List.length_map, List.length_range] at h2
    simp [List.getD_eq_getElem?_getD, show p + i < vs.length by omega]
theorem own_acopy {idx W : Nat} {a b : Addr} {ty : FieldType} {vs vd : List Value} {sp dp nn : Int32} (w1 : (Jvm.Cond.methodLink y.cls idx Jvm.Stand.acN).before a0 Z = true) (w2 : (Jvm.Cond.native Jvm.Stand.acN).before a0 Z = true) (w3 : (Jvm.Cond.static Jvm.Stand.acN).before a0 Z = true) (w4 : (Jvm.Cond.initialized "java/lang/System").before a0 Z = true)
    (A : own_A Z h a ty vs) (B : own_A Z h b ty vd) (hty : refKind ty = false) (h1 : ¬ sp < 0) (h2 : ¬ dp < 0) (h3 : ¬ nn < 0) (h4 : sp.toNatClampNeg + nn.toNatClampNeg ≤ vs.length) (h5 : dp.toNatClampNeg + nn.toNatClampNeg ≤ vd.length) (ge : n0 ≤ b)
    (hd : decode bytes pc = .ok (.invokestatic idx, 3)) (hp : pc + 3 = pc') (hsz : Ls.size = ml) (hf : 1 ≤ R.frames) (hW : (st.map fun v => v.category).sum ≤ W) (hlo : W + (nativeFrameWords "java/lang/System" "arraycopy" 5 + 11) ≤ R.locals)
    (k : ∀ h', Keep h h' [b] → own_A Z h' b ty (vd.take dp.toNatClampNeg ++ (vs.drop sp.toNatClampNeg).take nn.toNatClampNeg ++ vd.drop (dp.toNatClampNeg + nn.toNatClampNeg)) → own_W l Z y bytes ml ret R n0 Q h' cells slots pc' Ls st) : own_W l Z y bytes ml ret R n0 Q h cells slots pc Ls (.int nn :: .int dp :: .ref b :: .int sp :: .ref a :: st) := by
  intro p e s m args below meth c T locs hx hZ hown hby hml hret hlk hnm hce hsl X eT N
  subst hp
  have hlv : vs.length < 2 ^ 31 := by obtain ⟨_, _, _, q, _⟩ := A; exact q
  have hld : vd.length < 2 ^ 31 := by obtain ⟨_, _, _, q, _⟩ := B; exact q
  obtain ⟨k1, A1⟩ := A.arv .null
  obtain ⟨k2, B1⟩ := B.arv .null
  have e1 := own_len32 hlv
  have e2 := own_len32 hld
  obtain ⟨T', h', L, X', e', N', K', B', st'⟩ := cpA X hx hZ hown w1 w2 w3 w4 eT A1 B1 (Or.inl ⟨rfl, hty⟩) h1 h2 h3 (by rw [e1.1]; exact h4) (by rw [e2.1]; exact h5) (own_slice vs .null _ _ h4) h5 N ge (g := mkF m pc Ls (.int nn :: .int dp :: .ref b :: .int sp :: .ref a :: st)) rfl (by rw [hml]; exact hsz) rfl (hb hby hd) hf (W := W) (by show 2 * 0 + _ ≤ _; omega) hlo
  have hlen : (vd.take dp.toNatClampNeg ++ (vs.drop sp.toNatClampNeg).take nn.toNatClampNeg ++ vd.drop (dp.toNatClampNeg + nn.toNatClampNeg)).length = vd.length := by
    simp only [List.length_append, List.length_take, List.length_drop]; omega
  obtain ⟨s₂, o, q1, q2⟩ := k h' K' (own_A.ofArv B' (by rw [e2.1, hlen]) (by rw [hlen]; exact hld)) p e s m args below meth c T' L hx hZ hown hby hml hret hlk hnm hce hsl X' e' N'
  exact ⟨s₂, o, st' _ q1, q2⟩
theorem own_met {z : MethodName} {rm : Room} {argsL : List Value} {Lc : Array Slot} (hC : own_W l Z z bytes ml ret rm n0 Q h 0 0 0 Lc []) (pn : plainFor z = true) (hent : Jvm.Sym.laidSlots argsL ++ List.replicate (ml - (Jvm.Sym.laidSlots argsL).length) .unset = Lc.toList) (ws : List Jvm.Cond) :
    MetFree l z (head1 (Jvm.Cond.code z bytes ml ret :: ws) rm) (fun a U => a = argsL.toArray ∧ Z.Warmed39 U.vm ∧ U.heap = h) (fun _ _ _ _ _ => True) (fun _ U o U' => ∃ v L, o = .returned v ∧ (Q v U'.heap ∧ Fr n0 L) ∧ FrameEnd U o U' L rm.cells rm.slots) := by
  refine MetFree.of_bodySF pn hisR ?_
  intro p e s m args below meth c s₁ Bd hml0 hP hK
  obtain ⟨rfl, hZ, hh⟩ := hP
  obtain ⟨s₂, o, h1, h2, h3, h4⟩ := hC p e s m _ below meth c s₁ [] Bd.exec hZ (findClass_of_methodNamed Bd.named) Bd.bytes hml0 Bd.returns Bd.notSynchronized (name_of_methodNamed Bd.named Bd.method).1 (Nat.zero_le _) (Nat.zero_le _) (Stand.of_body Bd) (by rw [← hh, Bd.state]; rfl) (Fr.nil n0)
  exact ⟨s₂, o, (XT.entry (by simpa using hent)).trans h1, h2, h3, h4⟩
theorem own_static {z : MethodName} {bytes' : ByteArray} {ml' : Nat} {ret' : Option FieldType} {rm : Room} {Qc : Option Value → Heap → Prop} {Lc : Array Slot} {argsL rest : List Value} {ps : List FieldType} {rt : Option FieldType} {idx W : Nat} (hC : own_W l Z z bytes' ml' ret' rm n0 Qc h 0 0 0 Lc []) (w1 : (Jvm.Cond.methodLink y.cls idx z).before a0 Z = true) (w2 : (Jvm.Cond.static z).before a0 Z = true) (w3 : (Jvm.Cond.initialized z.cls).before a0 Z = true) (w4 : (Jvm.Cond.code z bytes' ml' ret').before a0 Z = true) (pn : plainFor z = true) (hy : z.cls ≠ "java/lang/invoke/MethodHandle" ∧ z.cls ≠ "java/lang/invoke/VarHandle") (pd : parseMethodDescriptor z.desc = some ⟨ps, rt⟩) (hlen : argsL.length = ps.length)
    (hst : st = argsL.reverse ++ rest) (hent : Jvm.Sym.laidSlots argsL ++ List.replicate (ml' - (Jvm.Sym.laidSlots argsL).length) .unset = Lc.toList) (hW : (rest.map fun v => v.category).sum ≤ W) (hfr : rm.frames + 1 ≤ R.frames) (hlo : W + (ml' + 11) + rm.locals ≤ R.locals) (hce' : cells + rm.cells ≤ R.cells) (hsl' : slots + rm.slots ≤ R.slots) (hsz : Ls.size = ml) (hd : decode bytes pc = .ok (.invokestatic idx, 3)) (hp : pc + 3 = pc') (k : ∀ v h', Qc v h' → own_W l Z y bytes ml ret R n0 Q h' (cells + rm.cells) (slots + rm.slots) pc' Ls (v.toList ++ rest)) : own_W l Z y bytes ml ret R n0 Q h cells slots pc Ls st := by
  intro p e s m args below meth c T locs hx hZ hown hby hml hret hlk hnm hce hsl X eT N
  subst hp
  obtain ⟨v, vm₁, ⟨T1, L1, k1, n1⟩, -, X1, ⟨Lc1, hQ1, l1, y1, z1⟩, st1⟩ := Jvm.LawKit.callS X hx (y := z) hown (mvT hZ w1) (mvT hZ w2) (mvT hZ w3) (mvT hZ w4) hy (backOf (W := W) (Q := fun v h L => Qc v h ∧ Fr n0 L) (own_met hC pn hent []) hZ w4 w3 hfr hlo) (g := mkF m pc Ls st) rfl (by rw [hml]; exact hsz) (argsL := argsL) (rest := rest) (lenOf pd hlen) hst (by show 2 * 0 + _ ≤ _; omega) (hb hby hd) (fun _ _ => ⟨rfl, eT, hce', hsl'⟩)
  dsimp only [Pt.U, Pt.locs, Pt.cells, Pt.slots] at X1 l1 y1 z1 st1 hQ1
  subst l1 y1 z1
  obtain ⟨s₂, o, h1, h2⟩ := k v T1.heap hQ1.1 p e s m args below meth c T1 _ hx hZ hown hby hml hret hlk hnm hce' hsl' X1 rfl (Fr.app N hQ1.2)
  exact ⟨s₂, o, st1 _ h1, h2⟩
theorem own_special {z : MethodName} {bytes' : ByteArray} {ml' : Nat} {ret' : Option FieldType} {rm : Room} {Qc : Option Value → Heap → Prop} {Lc : Array Slot} {argsL rest : List Value} {ps : List FieldType} {rt : Option FieldType} {idx W : Nat} {a : Addr} (hC : own_W l Z z bytes' ml' none rm n0 Qc h 0 0 0 Lc []) (w1 : (Jvm.Cond.methodLink y.cls idx z).before a0 Z = true) (w2 : (Jvm.Cond.instanceMethod z).before a0 Z = true) (w3 : (Jvm.Cond.initialized z.cls).before a0 Z = true) (w4 : (Jvm.Cond.code z bytes' ml' none).before a0 Z = true) (hzn : z.name = "<init>") (pn : plainFor z = true) (hy : z.cls ≠ "java/lang/invoke/MethodHandle" ∧ z.cls ≠ "java/lang/invoke/VarHandle") (pd : parseMethodDescriptor z.desc = some ⟨ps, rt⟩) (hlen : argsL.length = ps.length)
    (hst : st = argsL.reverse ++ .ref a :: rest) (hent : Jvm.Sym.laidSlots (.ref a :: argsL) ++ List.replicate (ml' - (Jvm.Sym.laidSlots (.ref a :: argsL)).length) .unset = Lc.toList) (hW : (rest.map fun v => v.category).sum ≤ W) (hfr : rm.frames + 1 ≤ R.frames) (hlo : W + (ml' + 11) + rm.locals ≤ R.locals) (hce' : cells + rm.cells ≤ R.cells) (hsl' : slots + rm.slots ≤ R.slots) (hsz : Ls.size = ml) (hd : decode bytes pc = .ok (.invokespecial idx, 3)) (hp : pc + 3 = pc') (k : ∀ v h', Qc v h' → own_W l Z y bytes ml ret R n0 Q h' (cells + rm.cells) (slots + rm.slots) pc' Ls (v.toList ++ rest)) : own_W l Z y bytes ml ret R n0 Q h cells slots pc Ls st := by
  intro p e s m args below meth c T locs hx hZ hown hby hml hret hlk hnm hce hsl X eT N
  subst hp
  obtain ⟨v, vm₁, ⟨T1, L1, k1, n1⟩, -, X1, ⟨Lc1, hQ1, l1, y1, z1⟩, st1⟩ := X.specialBack hx (y := z) hzn hown (mvT hZ w1) (mvT hZ w2) (mvT hZ w4) hy (backOf (W := W) (Q := fun v h L => Qc v h ∧ Fr n0 L) (own_met hC pn hent []) hZ w4 w3 hfr hlo) (g := mkF m pc Ls st) rfl (by rw [hml]; exact hsz) (Steps.refl _) (a := a) (argsL := argsL) (rest := rest) (lenOf pd hlen) hst (by show 2 * 0 + _ ≤ _; omega) (hb hby hd) (fun _ _ => ⟨rfl, eT, hce', hsl'⟩)
  dsimp only [Pt.U, Pt.locs, Pt.cells, Pt.slots] at X1 l1 y1 z1 st1 hQ1
  subst l1 y1 z1
  obtain ⟨s₂, o, h1, h2⟩ := k v T1.heap hQ1.1 p e s m args below meth c T1 _ hx hZ hown hby hml hret hlk hnm hce' hsl' X1 rfl (Fr.app N hQ1.2)
  exact ⟨s₂, o, st1.trans h1, h2⟩
theorem own_virtual {z : MethodName} {bytes' : ByteArray} {ml' : Nat} {ret' : Option FieldType} {rm : Room} {Qc : Option Value → Heap → Prop} {Lc : Array Slot} {argsL rest : List Value} {ps : List FieldType} {rt : Option FieldType} {idx W : Nat} {a : Addr} {C : String} (hC : own_W l Z z bytes' ml' ret' rm n0 Qc h 0 0 0 Lc []) (E : Exa Z h a C) (w1 : (Jvm.Cond.methodLink y.cls idx z).before a0 Z = true) (w2 : (Jvm.Cond.declares z).before a0 Z = true) (w5 : (Jvm.Cond.selects C z z).before a0 Z = true) (w6 : (Jvm.Cond.instanceMethod z).before a0 Z = true) (w3 : (Jvm.Cond.initialized z.cls).before a0 Z = true) (w4 : (Jvm.Cond.code z bytes' ml' ret').before a0 Z = true) (pn : plainFor z = true) (hy : z.cls ≠ "java/lang/invoke/MethodHandle" ∧ z.cls ≠ "java/lang/invoke/VarHandle") (pd : parseMethodDescriptor z.desc = some ⟨ps, rt⟩) (hlen : argsL.length = ps.length)
    (hst : st = argsL.reverse ++ .ref a :: rest) (hent : Jvm.Sym.laidSlots (.ref a :: argsL) ++ List.replicate (ml' - (Jvm.Sym.laidSlots (.ref a :: argsL)).length) .unset = Lc.toList) (hW : (rest.map fun v => v.category).sum ≤ W) (hfr : rm.frames + 1 ≤ R.frames) (hlo : W + (ml' + 11) + rm.locals ≤ R.locals) (hce' : cells + rm.cells ≤ R.cells) (hsl' : slots + rm.slots ≤ R.slots) (hsz : Ls.size = ml) (hd : decode bytes pc = .ok (.invokevirtual idx, 3)) (hp : pc + 3 = pc') (k : ∀ v h', Qc v h' → own_W l Z y bytes ml ret R n0 Q h' (cells + rm.cells) (slots + rm.slots) pc' Ls (v.toList ++ rest)) : own_W l Z y bytes ml ret R n0 Q h cells slots pc Ls st := by
  intro p e s m args below meth c T locs hx hZ hown hby hml hret hlk hnm hce hsl X eT N
  subst hp
  obtain ⟨cq, kq, qa, qb, qc⟩ := isOf hZ eT E
  obtain ⟨v, vm₁, ⟨T1, L1, k1, n1⟩, -, X1, ⟨Lc1, hQ1, l1, y1, z1⟩, st1⟩ := X.virtualBack hx (y := z) (z := z) hown (mvT hZ w1) (mvT hZ w2) (notFace_of_selects (args := #[]) (mvT hZ w5)) (mvT hZ w5) (mvT hZ w6) hy (backOf (W := W) (Q := fun v h L => Qc v h ∧ Fr n0 L) (own_met hC pn hent []) hZ w4 w3 hfr hlo) qa qc (g := mkF m pc Ls st) rfl (by rw [hml]; exact hsz) (Steps.refl _) (argsL := argsL) (rest := rest) (lenOf pd hlen) hst (by show 2 * 0 + _ ≤ _; omega) (hb hby hd) (fun _ _ => ⟨rfl, eT, hce', hsl'⟩)
  dsimp only [Pt.U, Pt.locs, Pt.cells, Pt.slots] at X1 l1 y1 z1 st1 hQ1
  subst l1 y1 z1
  obtain ⟨s₂, o, h1, h2⟩ := k v T1.heap hQ1.1 p e s m args below meth c T1 _ hx hZ hown hby hml hret hlk hnm hce' hsl' X1 rfl (Fr.app N hQ1.2)
  exact ⟨s₂, o, st1.trans h1, h2⟩
theorem own_private {z : MethodName} {bytes' : ByteArray} {ml' : Nat} {ret' : Option FieldType} {rm : Room} {Qc : Option Value → Heap → Prop} {Lc : Array Slot} {argsL rest : List Value} {ps : List FieldType} {rt : Option FieldType} {idx W : Nat} {a : Addr} {C : String} {kk : Nat} (hC : own_W l Z z bytes' ml' ret' rm n0 Qc h 0 0 0 Lc []) (E : Exa Z h a C) (w1 : (Jvm.Cond.methodLink y.cls idx z).before a0 Z = true) (w6 : (Jvm.Cond.instanceMethod z).before a0 Z = true) (wp : (Jvm.Cond.privateMethod z).before a0 Z = true) (wi : (Jvm.Cond.instantiable z.cls kk).before a0 Z = true) (w3 : (Jvm.Cond.initialized z.cls).before a0 Z = true) (w4 : (Jvm.Cond.code z bytes' ml' ret').before a0 Z = true) (pn : plainFor z = true) (hy : z.cls ≠ "java/lang/invoke/MethodHandle" ∧ z.cls ≠ "java/lang/invoke/VarHandle") (pd : parseMethodDescriptor z.desc = some ⟨ps, rt⟩) (hlen : argsL.length = ps.length)
    (hst : st = argsL.reverse ++ .ref a :: rest) (hent : Jvm.Sym.laidSlots (.ref a :: argsL) ++ List.replicate (ml' - (Jvm.Sym.laidSlots (.ref a :: argsL)).length) .unset = Lc.toList) (hW : (rest.map fun v => v.category).sum ≤ W) (hfr : rm.frames + 1 ≤ R.frames) (hlo : W + (ml' + 11) + rm.locals ≤ R.locals) (hce' : cells + rm.cells ≤ R.cells) (hsl' : slots + rm.slots ≤ R.slots) (hsz : Ls.size = ml) (hd : decode bytes pc = .ok (.invokevirtual idx, 3)) (hp : pc + 3 = pc') (k : ∀ v h', Qc v h' → own_W l Z y bytes ml ret R n0 Q h' (cells + rm.cells) (slots + rm.slots) pc' Ls (v.toList ++ rest)) : own_W l Z y bytes ml ret R n0 Q h cells slots pc Ls st := by
  intro p e s m args below meth c T locs hx hZ hown hby hml hret hlk hnm hce hsl X eT N
  subst hp
  obtain ⟨c2, k2, i1, i2, i3, i4, -⟩ := Cond.instantiable_spec (mvT (args := args) hZ wi)
  have hpr := Cond.privateMethod_at (mvP (args := #[]) hZ wp)
  have hsel := Jvm.Stand.selects_self_of_private (args := args) i1 i2 (Bool.or_eq_false_iff.mp i4).1 hpr (mvT hZ w6) hy
  obtain ⟨cell, qc, qo⟩ := E.cell
  obtain ⟨v, vm₁, ⟨T1, L1, k1, n1⟩, -, X1, ⟨Lc1, hQ1, l1, y1, z1⟩, st1⟩ := X.privateBack hx (y := z) hown (mvT hZ w1) (mvT hZ w6) hsel hpr (mvT hZ w4) hy (backOf (W := W) (Q := fun v h L => Qc v h ∧ Fr n0 L) (own_met hC pn hent []) hZ w4 w3 hfr hlo) (g := mkF m pc Ls st) rfl (by rw [hml]; exact hsz) (Steps.refl _) (a := a) (by rw [eT]; exact qc) qo (argsL := argsL) (rest := rest) (lenOf pd hlen) hst (by show 2 * 0 + _ ≤ _; omega) (hb hby hd) (fun _ _ => ⟨rfl, eT, hce', hsl'⟩)
  dsimp only [Pt.U, Pt.locs, Pt.cells, Pt.slots] at X1 l1 y1 z1 st1 hQ1
  subst l1 y1 z1
  obtain ⟨s₂, o, h1, h2⟩ := k v T1.heap hQ1.1 p e s m args below meth c T1 _ hx hZ hown hby hml hret hlk hnm hce' hsl' X1 rfl (Fr.app N hQ1.2)
  exact ⟨s₂, o, st1.trans h1, h2⟩
theorem own_refBack {p : Program} {e : Env} {s : State} {m : MethodId} {args : Array Value} {below : List Frame} {meth : Method} {c : Code} {T : State} {locs : List Loc} (X : Stand p l e R s m args below meth c T locs cells slots) (hexec : p.tables.exec = Jvm.exec) (hZ : Z.Warmed39 s.vm) {own : String} {index : Nat} {z : MethodName} (hzn : z.name = "<init>")
    (hown : s.vm.findClass own = some m.cls) (w1 : (Jvm.Cond.methodRef own index z).before a0 Z = true) (w2 : (Jvm.Cond.instanceMethod z).before a0 Z = true) {bytes' : ByteArray} {maxL : Nat} (w4 : (Jvm.Cond.code z bytes' maxL none).before a0 Z = true)
    (hy : z.cls ≠ "java/lang/invoke/MethodHandle" ∧ z.cls ≠ "java/lang/invoke/VarHandle") {W : Nat} {Pre : Pt → Array Value → Prop} {Post : Pt → Array Value → Option Value → Pt → Prop} (hK : Back l R p e below s args z 3 W Pre Post)
    {g : JFrame} (hg : g.method = m) (hsize : g.locals.size = c.maxLocals) {a : Addr} {argsL rest : List Value} (hlen : ∀ sig, parseMethodDescriptor z.desc = some sig → argsL.length = sig.parameters.length) (hstack : g.stack = argsL.reverse ++ .ref a :: rest) (hW : 2 * g.monitorRoom + (rest.map fun v => v.category).sum ≤ W)
    (hdg : decode c.code g.pc = .ok (.invokespecial index, 3)) (hpre : Pre ⟨T, locs, cells, slots⟩ (.ref a :: argsL).toArray) :
    ∃ (v : Option Value) (B : Pt), Stand p l e R s m args below meth c B.U B.locs B.cells B.slots ∧ Post ⟨T, locs, cells, slots⟩ (.ref a :: argsL).toArray v B ∧ Steps p.tables e below (T.setTop g) (B.U.setTop { g with pc := g.pc + 3, stack := v.toList ++ rest }) := by
  obtain ⟨obj, methO, hnO, hmO, hstO, habO⟩ := Cond.instanceMethod_spec (mvT (args := args) hZ w2)
  obtain ⟨methO', cO, hmO', hcO, -, -, -, -, -, hsigO⟩ := Cond.code_spec hnO (mvT (args := args) hZ w4)
  cases hmO.symm.trans hmO'
  obtain ⟨kO, hkO, hnameO⟩ := className_of_methodNamed hnO
  obtain ⟨hnameMO, hdescO⟩ := name_of_methodNamed hnO hmO
  have hU : Z.Warmed39 T.vm := wtrans hZ X.warmed
  obtain ⟨objZ, methZ, hnZ, -⟩ := Cond.instanceMethod_spec w2
  have hT := Cond.methodRef_warmed39 hU hnZ hy w1
  have hownT : (Z.setVm T.vm).vm.findClass own = some m.cls := by show T.vm.findClass own = _; rw [X.warmed.alike.findClass]; exact hown
  obtain ⟨m', c', f1, f2, f3, f4⟩ := Cond.methodRef_named (s := Z.setVm T.vm) e hownT hT
  have hnT : T.methodNamed? z = some obj := X.named hnO
  have hn' : (Z.setVm T.vm).methodNamed? z = some obj := hnT
  cases (State.methodFound?_of_named hn' hy).symm.trans f1
  cases (findClass_of_methodNamed hn').symm.trans f3
  obtain ⟨kO', hkT, -⟩ := X.warmed.alike.2.2 _ _ hkO
  have hmT : T.vm.method? obj = some methO := by rw [X.warmed.alike.method?]; exact hmO
  have hfound : lookupSpecial T.vm obj.cls "<init>" methO.desc = .method obj := by rw [hdescO, ← hzn]; exact lookupSpecial_of_named hnT hmT hstO
  have hstep : ∀ target, (∀ acts, Steps p.tables e below (doInvoke e (T.setTop { g with stack := rest }) acts obj (.ref a :: argsL).toArray).1 target) → Steps p.tables e below (T.setTop g) target := by
    intro target hrest
    subst hg
    jvm_step X.here [hexec, hdg, invokespecial.wp_init (e := e) (s := T) (k := kO') (meth := methO) (m := obj) (a := a) (args := argsL) (rest := rest) (f := g) X.here.top f4 f2 hkT hmT (by rw [hnameMO]; exact hzn) hstO habO hfound (hlen _ hsigO) hstack]
    exact hrest
  obtain ⟨v, B, X', hpost, hsteps⟩ := hK m meth c ⟨T, locs, cells, slots⟩ { g with stack := rest } (.invokespecial index) obj (.ref a :: argsL).toArray X hg hsize hdg hW hnT hpre
  exact ⟨v, B, X', hpost, hstep _ fun acts => by rw [doInvoke_state]; exact hsteps⟩
theorem own_specialRef {z : MethodName} {bytes' : ByteArray} {ml' : Nat} {ret' : Option FieldType} {rm : Room} {Qc : Option Value → Heap → Prop} {Lc : Array Slot} {argsL rest : List Value} {ps : List FieldType} {rt : Option FieldType} {idx W : Nat} {a : Addr} (hC : own_W l Z z bytes' ml' none rm n0 Qc h 0 0 0 Lc []) (w1 : (Jvm.Cond.methodRef y.cls idx z).before a0 Z = true) (w2 : (Jvm.Cond.instanceMethod z).before a0 Z = true) (w3 : (Jvm.Cond.initialized z.cls).before a0 Z = true) (w4 : (Jvm.Cond.code z bytes' ml' none).before a0 Z = true) (hzn : z.name = "<init>") (pn : plainFor z = true) (hy : z.cls ≠ "java/lang/invoke/MethodHandle" ∧ z.cls ≠ "java/lang/invoke/VarHandle") (pd : parseMethodDescriptor z.desc = some ⟨ps, rt⟩) (hlen : argsL.length = ps.length)
    (hst : st = argsL.reverse ++ .ref a :: rest) (hent : Jvm.Sym.laidSlots (.ref a :: argsL) ++ List.replicate (ml' - (Jvm.Sym.laidSlots (.ref a :: argsL)).length) .unset = Lc.toList) (hW : (rest.map fun v => v.category).sum ≤ W) (hfr : rm.frames + 1 ≤ R.frames) (hlo : W + (ml' + 11) + rm.locals ≤ R.locals) (hce' : cells + rm.cells ≤ R.cells) (hsl' : slots + rm.slots ≤ R.slots) (hsz : Ls.size = ml) (hd : decode bytes pc = .ok (.invokespecial idx, 3)) (hp : pc + 3 = pc') (k : ∀ v h', Qc v h' → own_W l Z y bytes ml ret R n0 Q h' (cells + rm.cells) (slots + rm.slots) pc' Ls (v.toList ++ rest)) : own_W l Z y bytes ml ret R n0 Q h cells slots pc Ls st := by
  intro p e s m args below meth c T locs hx hZ hown hby hml hret hlk hnm hce hsl X eT N
  subst hp
  obtain ⟨v, ⟨T1, L1, k1, n1⟩, X1, ⟨Lc1, hQ1, l1, y1, z1⟩, st1⟩ := own_refBack X hx hZ hzn hown w1 w2 w4 hy (backOf (W := W) (Q := fun v h L => Qc v h ∧ Fr n0 L) (own_met hC pn hent []) hZ w4 w3 hfr hlo) (g := mkF m pc Ls st) rfl (by rw [hml]; exact hsz) (a := a) (argsL := argsL) (rest := rest) (lenOf pd hlen) hst (by show 2 * 0 + _ ≤ _; omega) (hb hby hd) ⟨rfl, eT, hce', hsl'⟩
  dsimp only [Pt.U, Pt.locs, Pt.cells, Pt.slots] at X1 l1 y1 z1 st1 hQ1
  subst l1 y1 z1
  obtain ⟨s₂, o, h1, h2⟩ := k v T1.heap hQ1.1 p e s m args below meth c T1 _ hx hZ hown hby hml hret hlk hnm hce' hsl' X1 rfl (Fr.app N hQ1.2)
  exact ⟨s₂, o, st1.trans h1, h2⟩
end OwnW
-- LAYER END
theorem d1_0 : decode prog_112_method_1_code 0 = .ok (.aload_n 0, 1) := by decide +kernel
theorem d1_1 : decode prog_112_method_1_code 1 = .ok (.invokespecial 1, 3) := by decide +kernel
theorem d1_4 : decode prog_112_method_1_code 4 = .ok (.aload_n 0, 1) := by decide +kernel
theorem d1_5 : decode prog_112_method_1_code 5 = .ok (.iload_n 1, 1) := by decide +kernel
theorem d1_6 : decode prog_112_method_1_code 6 = .ok (.putfield 7, 3) := by decide +kernel
theorem d1_9 : decode prog_112_method_1_code 9 = .ok (.aload_n 0, 1) := by decide +kernel
theorem d1_10 : decode prog_112_method_1_code 10 = .ok (.iload_n 2, 1) := by decide +kernel
theorem d1_11 : decode prog_112_method_1_code 11 = .ok (.putfield 13, 3) := by decide +kernel
theorem d1_14 : decode prog_112_method_1_code 14 = .ok (.aload_n 0, 1) := by decide +kernel
theorem d1_15 : decode prog_112_method_1_code 15 = .ok (.iload_n 3, 1) := by decide +kernel
theorem d1_16 : decode prog_112_method_1_code 16 = .ok (.putfield 16, 3) := by decide +kernel
theorem d1_19 : decode prog_112_method_1_code 19 = .ok (.aload_n 0, 1) := by decide +kernel
theorem d1_20 : decode prog_112_method_1_code 20 = .ok (.iload 4, 2) := by decide +kernel
theorem d1_22 : decode prog_112_method_1_code 22 = .ok (.putfield 19, 3) := by decide +kernel
theorem d1_25 : decode prog_112_method_1_code 25 = .ok (.aload_n 0, 1) := by decide +kernel
theorem d1_26 : decode prog_112_method_1_code 26 = .ok (.iload 5, 2) := by decide +kernel
theorem d1_28 : decode prog_112_method_1_code 28 = .ok (.putfield 22, 3) := by decide +kernel
theorem d1_31 : decode prog_112_method_1_code 31 = .ok (.aload_n 0, 1) := by decide +kernel
theorem d1_32 : decode prog_112_method_1_code 32 = .ok (.iload 6, 2) := by decide +kernel
theorem d1_34 : decode prog_112_method_1_code 34 = .ok (.putfield 25, 3) := by decide +kernel
theorem d1_37 : decode prog_112_method_1_code 37 = .ok (.aload_n 0, 1) := by decide +kernel
theorem d1_38 : decode prog_112_method_1_code 38 = .ok (.iload 7, 2) := by decide +kernel
theorem d1_40 : decode prog_112_method_1_code 40 = .ok (.putfield 28, 3) := by decide +kernel
theorem d1_43 : decode prog_112_method_1_code 43 = .ok (.return_, 1) := by decide +kernel
theorem d2_0 : decode jdk_30_method_1_code 0 = .ok (.aload_n 0, 1) := by decide +kernel
theorem d2_1 : decode jdk_30_method_1_code 1 = .ok (.invokespecial 1, 3) := by decide +kernel
theorem d2_4 : decode jdk_30_method_1_code 4 = .ok (.return_, 1) := by decide +kernel
theorem d3_0 : decode object_method_1_code 0 = .ok (.return_, 1) := by decide +kernel
theorem d4_0 : decode prog_112_method_3_code 0 = .ok (.bipush 15, 2) := by decide +kernel
theorem d4_2 : decode prog_112_method_3_code 2 = .ok (.newarray .byte, 2) := by decide +kernel
theorem d4_4 : decode prog_112_method_3_code 4 = .ok (.dup, 1) := by decide +kernel
theorem d4_5 : decode prog_112_method_3_code 5 = .ok (.iconst 0, 1) := by decide +kernel
theorem d4_6 : decode prog_112_method_3_code 6 = .ok (.iconst 0, 1) := by decide +kernel
theorem d4_7 : decode prog_112_method_3_code 7 = .ok (.bastore, 1) := by decide +kernel
theorem d4_8 : decode prog_112_method_3_code 8 = .ok (.dup, 1) := by decide +kernel
theorem d4_9 : decode prog_112_method_3_code 9 = .ok (.iconst 1, 1) := by decide +kernel
theorem d4_10 : decode prog_112_method_3_code 10 = .ok (.bipush 15, 2) := by decide +kernel
theorem d4_12 : decode prog_112_method_3_code 12 = .ok (.bastore, 1) := by decide +kernel
theorem d4_13 : decode prog_112_method_3_code 13 = .ok (.dup, 1) := by decide +kernel
theorem d4_14 : decode prog_112_method_3_code 14 = .ok (.iconst 2, 1) := by decide +kernel
theorem d4_15 : decode prog_112_method_3_code 15 = .ok (.aload_n 0, 1) := by decide +kernel
theorem d4_16 : decode prog_112_method_3_code 16 = .ok (.getfield 7, 3) := by decide +kernel
theorem d4_19 : decode prog_112_method_3_code 19 = .ok (.i2b, 1) := by decide +kernel
theorem d4_20 : decode prog_112_method_3_code 20 = .ok (.bastore, 1) := by decide +kernel
theorem d4_21 : decode prog_112_method_3_code 21 = .ok (.dup, 1) := by decide +kernel
theorem d4_22 : decode prog_112_method_3_code 22 = .ok (.iconst 3, 1) := by decide +kernel
theorem d4_23 : decode prog_112_method_3_code 23 = .ok (.aload_n 0, 1) := by decide +kernel
theorem d4_24 : decode prog_112_method_3_code 24 = .ok (.getfield 13, 3) := by decide +kernel
theorem d4_27 : decode prog_112_method_3_code 27 = .ok (.bipush 8, 2) := by decide +kernel
theorem d4_29 : decode prog_112_method_3_code 29 = .ok (.ishr, 1) := by decide +kernel
theorem d4_30 : decode prog_112_method_3_code 30 = .ok (.i2b, 1) := by decide +kernel
theorem d4_31 : decode prog_112_method_3_code 31 = .ok (.bastore, 1) := by decide +kernel
theorem d4_32 : decode prog_112_method_3_code 32 = .ok (.dup, 1) := by decide +kernel
theorem d4_33 : decode prog_112_method_3_code 33 = .ok (.iconst 4, 1) := by decide +kernel
theorem d4_34 : decode prog_112_method_3_code 34 = .ok (.aload_n 0, 1) := by decide +kernel
theorem d4_35 : decode prog_112_method_3_code 35 = .ok (.getfield 13, 3) := by decide +kernel
theorem d4_38 : decode prog_112_method_3_code 38 = .ok (.i2b, 1) := by decide +kernel
theorem d4_39 : decode prog_112_method_3_code 39 = .ok (.bastore, 1) := by decide +kernel
theorem d4_40 : decode prog_112_method_3_code 40 = .ok (.dup, 1) := by decide +kernel
theorem d4_41 : decode prog_112_method_3_code 41 = .ok (.iconst 5, 1) := by decide +kernel
theorem d4_42 : decode prog_112_method_3_code 42 = .ok (.aload_n 0, 1) := by decide +kernel
theorem d4_43 : decode prog_112_method_3_code 43 = .ok (.getfield 16, 3) := by decide +kernel
theorem d4_46 : decode prog_112_method_3_code 46 = .ok (.bipush 8, 2) := by decide +kernel
theorem d4_48 : decode prog_112_method_3_code 48 = .ok (.ishr, 1) := by decide +kernel
theorem d4_49 : decode prog_112_method_3_code 49 = .ok (.i2b, 1) := by decide +kernel
theorem d4_50 : decode prog_112_method_3_code 50 = .ok (.bastore, 1) := by decide +kernel
theorem d4_51 : decode prog_112_method_3_code 51 = .ok (.dup, 1) := by decide +kernel
theorem d4_52 : decode prog_112_method_3_code 52 = .ok (.bipush 6, 2) := by decide +kernel
theorem d4_54 : decode prog_112_method_3_code 54 = .ok (.aload_n 0, 1) := by decide +kernel
theorem d4_55 : decode prog_112_method_3_code 55 = .ok (.getfield 16, 3) := by decide +kernel
theorem d4_58 : decode prog_112_method_3_code 58 = .ok (.i2b, 1) := by decide +kernel
theorem d4_59 : decode prog_112_method_3_code 59 = .ok (.bastore, 1) := by decide +kernel
theorem d4_60 : decode prog_112_method_3_code 60 = .ok (.dup, 1) := by decide +kernel
theorem d4_61 : decode prog_112_method_3_code 61 = .ok (.bipush 7, 2) := by decide +kernel
theorem d4_63 : decode prog_112_method_3_code 63 = .ok (.iconst 4, 1) := by decide +kernel
theorem d4_64 : decode prog_112_method_3_code 64 = .ok (.bastore, 1) := by decide +kernel
theorem d4_65 : decode prog_112_method_3_code 65 = .ok (.dup, 1) := by decide +kernel
theorem d4_66 : decode prog_112_method_3_code 66 = .ok (.bipush 8, 2) := by decide +kernel
theorem d4_68 : decode prog_112_method_3_code 68 = .ok (.bipush 6, 2) := by decide +kernel
theorem d4_70 : decode prog_112_method_3_code 70 = .ok (.bastore, 1) := by decide +kernel
theorem d4_71 : decode prog_112_method_3_code 71 = .ok (.dup, 1) := by decide +kernel
theorem d4_72 : decode prog_112_method_3_code 72 = .ok (.bipush 9, 2) := by decide +kernel
theorem d4_74 : decode prog_112_method_3_code 74 = .ok (.aload_n 0, 1) := by decide +kernel
theorem d4_75 : decode prog_112_method_3_code 75 = .ok (.getfield 19, 3) := by decide +kernel
theorem d4_78 : decode prog_112_method_3_code 78 = .ok (.bipush 8, 2) := by decide +kernel
theorem d4_80 : decode prog_112_method_3_code 80 = .ok (.ishr, 1) := by decide +kernel
theorem d4_81 : decode prog_112_method_3_code 81 = .ok (.i2b, 1) := by decide +kernel
theorem d4_82 : decode prog_112_method_3_code 82 = .ok (.bastore, 1) := by decide +kernel
theorem d4_83 : decode prog_112_method_3_code 83 = .ok (.dup, 1) := by decide +kernel
theorem d4_84 : decode prog_112_method_3_code 84 = .ok (.bipush 10, 2) := by decide +kernel
theorem d4_86 : decode prog_112_method_3_code 86 = .ok (.aload_n 0, 1) := by decide +kernel
theorem d4_87 : decode prog_112_method_3_code 87 = .ok (.getfield 19, 3) := by decide +kernel
theorem d4_90 : decode prog_112_method_3_code 90 = .ok (.i2b, 1) := by decide +kernel
theorem d4_91 : decode prog_112_method_3_code 91 = .ok (.bastore, 1) := by decide +kernel
theorem d4_92 : decode prog_112_method_3_code 92 = .ok (.dup, 1) := by decide +kernel
theorem d4_93 : decode prog_112_method_3_code 93 = .ok (.bipush 11, 2) := by decide +kernel
theorem d4_95 : decode prog_112_method_3_code 95 = .ok (.aload_n 0, 1) := by decide +kernel
theorem d4_96 : decode prog_112_method_3_code 96 = .ok (.getfield 22, 3) := by decide +kernel
theorem d4_99 : decode prog_112_method_3_code 99 = .ok (.bipush 8, 2) := by decide +kernel
theorem d4_101 : decode prog_112_method_3_code 101 = .ok (.ishr, 1) := by decide +kernel
theorem d4_102 : decode prog_112_method_3_code 102 = .ok (.i2b, 1) := by decide +kernel
theorem d4_103 : decode prog_112_method_3_code 103 = .ok (.bastore, 1) := by decide +kernel
theorem d4_104 : decode prog_112_method_3_code 104 = .ok (.dup, 1) := by decide +kernel
theorem d4_105 : decode prog_112_method_3_code 105 = .ok (.bipush 12, 2) := by decide +kernel
theorem d4_107 : decode prog_112_method_3_code 107 = .ok (.aload_n 0, 1) := by decide +kernel
theorem d4_108 : decode prog_112_method_3_code 108 = .ok (.getfield 22, 3) := by decide +kernel
theorem d4_111 : decode prog_112_method_3_code 111 = .ok (.i2b, 1) := by decide +kernel
theorem d4_112 : decode prog_112_method_3_code 112 = .ok (.bastore, 1) := by decide +kernel
theorem d4_113 : decode prog_112_method_3_code 113 = .ok (.dup, 1) := by decide +kernel
theorem d4_114 : decode prog_112_method_3_code 114 = .ok (.bipush 13, 2) := by decide +kernel
theorem d4_116 : decode prog_112_method_3_code 116 = .ok (.aload_n 0, 1) := by decide +kernel
theorem d4_117 : decode prog_112_method_3_code 117 = .ok (.getfield 25, 3) := by decide +kernel
theorem d4_120 : decode prog_112_method_3_code 120 = .ok (.i2b, 1) := by decide +kernel
theorem d4_121 : decode prog_112_method_3_code 121 = .ok (.bastore, 1) := by decide +kernel
theorem d4_122 : decode prog_112_method_3_code 122 = .ok (.dup, 1) := by decide +kernel
theorem d4_123 : decode prog_112_method_3_code 123 = .ok (.bipush 14, 2) := by decide +kernel
theorem d4_125 : decode prog_112_method_3_code 125 = .ok (.aload_n 0, 1) := by decide +kernel
theorem d4_126 : decode prog_112_method_3_code 126 = .ok (.getfield 28, 3) := by decide +kernel
theorem d4_129 : decode prog_112_method_3_code 129 = .ok (.i2b, 1) := by decide +kernel
theorem d4_130 : decode prog_112_method_3_code 130 = .ok (.bastore, 1) := by decide +kernel
theorem d4_131 : decode prog_112_method_3_code 131 = .ok (.areturn, 1) := by decide +kernel
theorem d5_0 : decode method_2_code 0 = .ok (.aload_n 0, 1) := by decide +kernel
theorem d5_1 : decode method_2_code 1 = .ok (.iload_n 1, 1) := by decide +kernel
theorem d5_2 : decode method_2_code 2 = .ok (.baload, 1) := by decide +kernel
theorem d5_3 : decode method_2_code 3 = .ok (.sipush 255, 3) := by decide +kernel
theorem d5_6 : decode method_2_code 6 = .ok (.iand, 1) := by decide +kernel
theorem d5_7 : decode method_2_code 7 = .ok (.istore_n 2, 1) := by decide +kernel
theorem d5_8 : decode method_2_code 8 = .ok (.aload_n 0, 1) := by decide +kernel
theorem d5_9 : decode method_2_code 9 = .ok (.iload_n 1, 1) := by decide +kernel
theorem d5_10 : decode method_2_code 10 = .ok (.iconst 1, 1) := by decide +kernel
theorem d5_11 : decode method_2_code 11 = .ok (.iadd, 1) := by decide +kernel
theorem d5_12 : decode method_2_code 12 = .ok (.baload, 1) := by decide +kernel
theorem d5_13 : decode method_2_code 13 = .ok (.sipush 255, 3) := by decide +kernel
theorem d5_16 : decode method_2_code 16 = .ok (.iand, 1) := by decide +kernel
theorem d5_17 : decode method_2_code 17 = .ok (.istore_n 3, 1) := by decide +kernel
theorem d5_18 : decode method_2_code 18 = .ok (.iload_n 2, 1) := by decide +kernel
theorem d5_19 : decode method_2_code 19 = .ok (.sipush 256, 3) := by decide +kernel
theorem d5_22 : decode method_2_code 22 = .ok (.imul, 1) := by decide +kernel
theorem d5_23 : decode method_2_code 23 = .ok (.iload_n 3, 1) := by decide +kernel
theorem d5_24 : decode method_2_code 24 = .ok (.iadd, 1) := by decide +kernel
theorem d5_25 : decode method_2_code 25 = .ok (.ireturn, 1) := by decide +kernel
theorem own_pn0 : plainName "com/example/fieldtap/fieldtap/type4/CapabilityContainerBytesPinLaw" = true := by decide +kernel
theorem own_pn1 : plainName "com/example/fieldtap/fieldtap/type4/CapabilityContainer" = true := by decide +kernel
theorem own_pn2 : plainName "java/lang/Record" = true := by decide +kernel
theorem own_pd0 : parseMethodDescriptor "(IIIIIJ)Z" = some ⟨[.int, .int, .int, .int, .int, .long], (some .boolean)⟩ := by decide +kernel
theorem own_pd1 : parseMethodDescriptor "(IIIIIII)V" = some ⟨[.int, .int, .int, .int, .int, .int, .int], none⟩ := by decide +kernel
theorem own_pd2 : parseMethodDescriptor "()V" = some ⟨[], none⟩ := by decide +kernel
theorem own_pd3 : parseMethodDescriptor "()[B" = some ⟨[], (some (.array .byte))⟩ := by decide +kernel
theorem own_pd4 : parseMethodDescriptor "([BI)I" = some ⟨[(.array .byte), .int], (some .int)⟩ := by decide +kernel
theorem own_b8 (u : Int32) : (nar .byte u.toInt8.toInt32) &&& 255 = u &&& 255 := by
  show u.toInt8.toInt32.toInt8.toInt32 &&& 255 = u &&& 255
  have e : u.toInt8.toInt32.toInt8 = u.toInt8 := by simp
  rw [e, ← Int32.toBitVec_inj, Int32.toBitVec_and, Int32.toBitVec_and, Int8.toBitVec_toInt32, Int32.toBitVec_toInt8]
  generalize u.toBitVec = v
  show (v.signExtend 8).signExtend 32 &&& 255#32 = v &&& 255#32
  apply BitVec.eq_of_getLsbD_eq
  intro i hi
  have q : ∀ i : Fin 32, 8 ≤ i.val → (255#32).getLsbD i.val = false := by decide
  rw [BitVec.getLsbD_and, BitVec.getLsbD_and]
  by_cases h8 : i < 8
  · rw [BitVec.getLsbD_signExtend, BitVec.getLsbD_signExtend]
    simp [hi, h8]
  · rw [q ⟨i, hi⟩ (by simpa using h8)]; simp
def own_two (p q : Int32) : Int32 := (p &&& 255) * 256 + (q &&& 255)
theorem own_16 (u : Int32) : own_two (nar .byte (u >>> ((8 : Int32) &&& 31)).toInt8.toInt32) (nar .byte u.toInt8.toInt32) = u &&& 65535 := by
  unfold own_two
  rw [own_b8, own_b8]
  have e1 := c_mask (u >>> ((8 : Int32) &&& 31)) 255 8 (by decide) (by decide)
  have e2 := c_mask u 255 8 (by decide) (by decide)
  have e3 := c_mask u 65535 16 (by decide) (by decide)
  have e4 := c_ishr u 8 8 (by decide)
  have e5 := c_imul ((u >>> ((8 : Int32) &&& 31)) &&& 255) 256
  have e6 := c_iadd (((u >>> ((8 : Int32) &&& 31)) &&& 255) * 256) (u &&& 255)
  have e7 : (256 : Int32).toInt = 256 := rfl
  rw [e7] at e5
  have r1 := rng32 u
  have r2 := rng32 (((u >>> ((8 : Int32) &&& 31)) &&& 255) * 256)
  have r3 := rng32 ((((u >>> ((8 : Int32) &&& 31)) &&& 255) * 256) + (u &&& 255))
  rw [← Int32.toInt_inj]
  omega
set_option maxRecDepth 65536 in
set_option maxHeartbeats 40000000 in
theorem own_rec (l : Launch) (Z : State) (a0 : Array Value) (hw : ∀ d ∈ tables_1, d.before a0 Z = true) (a : Addr) (h0 : Heap) (n0 : Nat) (hn0 : n0 ≤ h0.size) :
    own_W l Z (⟨"java/lang/Record", "<init>", "()V"⟩ : MethodName) jdk_30_method_1_code 1 none ({ frames := 1, cells := 0, slots := 0, locals := 12 } : Room) n0 (fun v h => v = none ∧ h0 = h) h0 0 0 0 #[.val (.ref a)] [] := by
  refine own_aloadN (pc' := 1) d2_0 rfl rfl ?_
  refine own_initO (pc' := 4) (W := 0) (hw _ (List.mem_of_getElem? (i := 11) rfl)) (hw _ (List.mem_of_getElem? (i := 12) rfl)) (hw _ (List.mem_of_getElem? (i := 13) rfl)) d2_1 rfl rfl (by decide) (Nat.le_refl _) (by decide) ?_
  exact own_ret rfl d2_4 ⟨rfl, rfl⟩
set_option maxRecDepth 65536 in
set_option maxHeartbeats 40000000 in
theorem own_mk (l : Launch) (Z : State) (a0 : Array Value) (hw : ∀ d ∈ tables_1, d.before a0 Z = true) (a : Addr) (y0 y1 y2 y3 y4 y5 y6 : Int32) (h0 : Heap) (n0 : Nat) (hn0 : n0 ≤ h0.size) (ge_a : n0 ≤ a) (E_a : Exa Z h0 a "com/example/fieldtap/fieldtap/type4/CapabilityContainer") (F_a_version : Fld Z h0 a "com/example/fieldtap/fieldtap/type4/CapabilityContainer" "version" "I" (.int 0)) (F_a_maxRead : Fld Z h0 a "com/example/fieldtap/fieldtap/type4/CapabilityContainer" "maxRead" "I" (.int 0)) (F_a_maxUpdate : Fld Z h0 a "com/example/fieldtap/fieldtap/type4/CapabilityContainer" "maxUpdate" "I" (.int 0)) (F_a_ndefFile : Fld Z h0 a "com/example/fieldtap/fieldtap/type4/CapabilityContainer" "ndefFile" "I" (.int 0)) (F_a_ndefFileSize : Fld Z h0 a "com/example/fieldtap/fieldtap/type4/CapabilityContainer" "ndefFileSize" "I" (.int 0)) (F_a_readAccess : Fld Z h0 a "com/example/fieldtap/fieldtap/type4/CapabilityContainer" "readAccess" "I" (.int 0)) (F_a_writeAccess : Fld Z h0 a "com/example/fieldtap/fieldtap/type4/CapabilityContainer" "writeAccess" "I" (.int 0)) :
    own_W l Z (⟨"com/example/fieldtap/fieldtap/type4/CapabilityContainer", "<init>", "(IIIIIII)V"⟩ : MethodName) prog_112_method_1_code 8 none ({ frames := 2, cells := 0, slots := 0, locals := 24 } : Room) n0 (fun v h => v = none ∧ Keep h0 h [a] ∧ Exa Z h a "com/example/fieldtap/fieldtap/type4/CapabilityContainer" ∧ Fld Z h a "com/example/fieldtap/fieldtap/type4/CapabilityContainer" "version" "I" (.int y0) ∧ Fld Z h a "com/example/fieldtap/fieldtap/type4/CapabilityContainer" "maxRead" "I" (.int y1) ∧ Fld Z h a "com/example/fieldtap/fieldtap/type4/CapabilityContainer" "maxUpdate" "I" (.int y2) ∧ Fld Z h a "com/example/fieldtap/fieldtap/type4/CapabilityContainer" "ndefFile" "I" (.int y3) ∧ Fld Z h a "com/example/fieldtap/fieldtap/type4/CapabilityContainer" "ndefFileSize" "I" (.int y4) ∧ Fld Z h a "com/example/fieldtap/fieldtap/type4/CapabilityContainer" "readAccess" "I" (.int y5) ∧ Fld Z h a "com/example/fieldtap/fieldtap/type4/CapabilityContainer" "writeAccess" "I" (.int y6)) h0 0 0 0 #[.val (.ref a), .val (.int y0), .val (.int y1), .val (.int y2), .val (.int y3), .val (.int y4), .val (.int y5), .val (.int y6)] [] := by
  refine own_aloadN (pc' := 1) d1_0 rfl rfl ?_
  refine own_special (ret' := none) (own_rec l Z a0 hw a h0 n0 hn0) (hw _ (List.mem_of_getElem? (i := 6) rfl)) (hw _ (List.mem_of_getElem? (i := 7) rfl)) (hw _ (List.mem_of_getElem? (i := 9) rfl)) (hw _ (List.mem_of_getElem? (i := 10) rfl)) rfl (plainFor_of_name own_pn2) (by decide) own_pd2 rfl (argsL := []) (rest := []) rfl rfl (W := 0) (Nat.le_refl _) (by decide) (by decide) (by decide) (by decide) rfl d1_1 (pc' := 4) rfl (fun v_ h1 hq => ?_)
  obtain ⟨rfl, rfl⟩ := hq
  show own_W l Z (⟨"com/example/fieldtap/fieldtap/type4/CapabilityContainer", "<init>", "(IIIIIII)V"⟩ : MethodName) prog_112_method_1_code 8 none ({ frames := 2, cells := 0, slots := 0, locals := 24 } : Room) n0 (fun v h => v = none ∧ Keep h0 h [a] ∧ Exa Z h a "com/example/fieldtap/fieldtap/type4/CapabilityContainer" ∧ Fld Z h a "com/example/fieldtap/fieldtap/type4/CapabilityContainer" "version" "I" (.int y0) ∧ Fld Z h a "com/example/fieldtap/fieldtap/type4/CapabilityContainer" "maxRead" "I" (.int y1) ∧ Fld Z h a "com/example/fieldtap/fieldtap/type4/CapabilityContainer" "maxUpdate" "I" (.int y2) ∧ Fld Z h a "com/example/fieldtap/fieldtap/type4/CapabilityContainer" "ndefFile" "I" (.int y3) ∧ Fld Z h a "com/example/fieldtap/fieldtap/type4/CapabilityContainer" "ndefFileSize" "I" (.int y4) ∧ Fld Z h a "com/example/fieldtap/fieldtap/type4/CapabilityContainer" "readAccess" "I" (.int y5) ∧ Fld Z h a "com/example/fieldtap/fieldtap/type4/CapabilityContainer" "writeAccess" "I" (.int y6)) h0 0 0 4 #[.val (.ref a), .val (.int y0), .val (.int y1), .val (.int y2), .val (.int y3), .val (.int y4), .val (.int y5), .val (.int y6)] []
  refine own_aloadN (pc' := 5) d1_4 rfl rfl ?_
  refine own_iloadN (pc' := 6) d1_5 rfl rfl ?_
  refine own_putF (pc' := 9) (hw _ (List.mem_of_getElem? (i := 14) rfl)) F_a_version E_a (Or.inr ⟨(hw _ (List.mem_of_getElem? (i := 15) rfl)), rfl, rfl⟩) (hw _ (List.mem_of_getElem? (i := 1) rfl)) ge_a (ty := .int) (by decide) rfl rfl d1_6 rfl (fun h2 Wr3 K4 => ?_)
  replace E_a := E_a.wr Wr3
  replace F_a_version := F_a_version.same Wr3
  replace F_a_maxRead := F_a_maxRead.other Wr3 (Or.inr (slot_ne (a0 := a0) (Or.inr (hw _ (List.mem_of_getElem? (i := 17) rfl))) (Or.inr (hw _ (List.mem_of_getElem? (i := 15) rfl))) (by decide) (t := .int) (by decide) (t' := .int) (by decide)))
  replace F_a_maxUpdate := F_a_maxUpdate.other Wr3 (Or.inr (slot_ne (a0 := a0) (Or.inr (hw _ (List.mem_of_getElem? (i := 19) rfl))) (Or.inr (hw _ (List.mem_of_getElem? (i := 15) rfl))) (by decide) (t := .int) (by decide) (t' := .int) (by decide)))
  replace F_a_ndefFile := F_a_ndefFile.other Wr3 (Or.inr (slot_ne (a0 := a0) (Or.inr (hw _ (List.mem_of_getElem? (i := 21) rfl))) (Or.inr (hw _ (List.mem_of_getElem? (i := 15) rfl))) (by decide) (t := .int) (by decide) (t' := .int) (by decide)))
  replace F_a_ndefFileSize := F_a_ndefFileSize.other Wr3 (Or.inr (slot_ne (a0 := a0) (Or.inr (hw _ (List.mem_of_getElem? (i := 23) rfl))) (Or.inr (hw _ (List.mem_of_getElem? (i := 15) rfl))) (by decide) (t := .int) (by decide) (t' := .int) (by decide)))
  replace F_a_readAccess := F_a_readAccess.other Wr3 (Or.inr (slot_ne (a0 := a0) (Or.inr (hw _ (List.mem_of_getElem? (i := 25) rfl))) (Or.inr (hw _ (List.mem_of_getElem? (i := 15) rfl))) (by decide) (t := .int) (by decide) (t' := .int) (by decide)))
  replace F_a_writeAccess := F_a_writeAccess.other Wr3 (Or.inr (slot_ne (a0 := a0) (Or.inr (hw _ (List.mem_of_getElem? (i := 27) rfl))) (Or.inr (hw _ (List.mem_of_getElem? (i := 15) rfl))) (by decide) (t := .int) (by decide) (t' := .int) (by decide)))
  replace hn0 : n0 ≤ h2.size := Nat.le_trans hn0 K4.1
  refine own_aloadN (pc' := 10) d1_9 rfl rfl ?_
  refine own_iloadN (pc' := 11) d1_10 rfl rfl ?_
  refine own_putF (pc' := 14) (hw _ (List.mem_of_getElem? (i := 16) rfl)) F_a_maxRead E_a (Or.inr ⟨(hw _ (List.mem_of_getElem? (i := 17) rfl)), rfl, rfl⟩) (hw _ (List.mem_of_getElem? (i := 1) rfl)) ge_a (ty := .int) (by decide) rfl rfl d1_11 rfl (fun h5 Wr6 K7 => ?_)
  replace E_a := E_a.wr Wr6
  replace F_a_version := F_a_version.other Wr6 (Or.inr (slot_ne (a0 := a0) (Or.inr (hw _ (List.mem_of_getElem? (i := 15) rfl))) (Or.inr (hw _ (List.mem_of_getElem? (i := 17) rfl))) (by decide) (t := .int) (by decide) (t' := .int) (by decide)))
  replace F_a_maxRead := F_a_maxRead.same Wr6
  replace F_a_maxUpdate := F_a_maxUpdate.other Wr6 (Or.inr (slot_ne (a0 := a0) (Or.inr (hw _ (List.mem_of_getElem? (i := 19) rfl))) (Or.inr (hw _ (List.mem_of_getElem? (i := 17) rfl))) (by decide) (t := .int) (by decide) (t' := .int) (by decide)))
  replace F_a_ndefFile := F_a_ndefFile.other Wr6 (Or.inr (slot_ne (a0 := a0) (Or.inr (hw _ (List.mem_of_getElem? (i := 21) rfl))) (Or.inr (hw _ (List.mem_of_getElem? (i := 17) rfl))) (by decide) (t := .int) (by decide) (t' := .int) (by decide)))
  replace F_a_ndefFileSize := F_a_ndefFileSize.other Wr6 (Or.inr (slot_ne (a0 := a0) (Or.inr (hw _ (List.mem_of_getElem? (i := 23) rfl))) (Or.inr (hw _ (List.mem_of_getElem? (i := 17) rfl))) (by decide) (t := .int) (by decide) (t' := .int) (by decide)))
  replace F_a_readAccess := F_a_readAccess.other Wr6 (Or.inr (slot_ne (a0 := a0) (Or.inr (hw _ (List.mem_of_getElem? (i := 25) rfl))) (Or.inr (hw _ (List.mem_of_getElem? (i := 17) rfl))) (by decide) (t := .int) (by decide) (t' := .int) (by decide)))
  replace F_a_writeAccess := F_a_writeAccess.other Wr6 (Or.inr (slot_ne (a0 := a0) (Or.inr (hw _ (List.mem_of_getElem? (i := 27) rfl))) (Or.inr (hw _ (List.mem_of_getElem? (i := 17) rfl))) (by decide) (t := .int) (by decide) (t' := .int) (by decide)))
  replace hn0 : n0 ≤ h5.size := Nat.le_trans hn0 K7.1
  refine own_aloadN (pc' := 15) d1_14 rfl rfl ?_
  refine own_iloadN (pc' := 16) d1_15 rfl rfl ?_
  refine own_putF (pc' := 19) (hw _ (List.mem_of_getElem? (i := 18) rfl)) F_a_maxUpdate E_a (Or.inr ⟨(hw _ (List.mem_of_getElem? (i := 19) rfl)), rfl, rfl⟩) (hw _ (List.mem_of_getElem? (i := 1) rfl)) ge_a (ty := .int) (by decide) rfl rfl d1_16 rfl (fun h8 Wr9 K10 => ?_)
  replace E_a := E_a.wr Wr9
  replace F_a_version := F_a_version.other Wr9 (Or.inr (slot_ne (a0 := a0) (Or.inr (hw _ (List.mem_of_getElem? (i := 15) rfl))) (Or.inr (hw _ (List.mem_of_getElem? (i := 19) rfl))) (by decide) (t := .int) (by decide) (t' := .int) (by decide)))
  replace F_a_maxRead := F_a_maxRead.other Wr9 (Or.inr (slot_ne (a0 := a0) (Or.inr (hw _ (List.mem_of_getElem? (i := 17) rfl))) (Or.inr (hw _ (List.mem_of_getElem? (i := 19) rfl))) (by decide) (t := .int) (by decide) (t' := .int) (by decide)))
  replace F_a_maxUpdate := F_a_maxUpdate.same Wr9
  replace F_a_ndefFile := F_a_ndefFile.other Wr9 (Or.inr (slot_ne (a0 := a0) (Or.inr (hw _ (List.mem_of_getElem? (i := 21) rfl))) (Or.inr (hw _ (List.mem_of_getElem? (i := 19) rfl))) (by decide) (t := .int) (by decide) (t' := .int) (by decide)))
  replace F_a_ndefFileSize := F_a_ndefFileSize.other Wr9 (Or.inr (slot_ne (a0 := a0) (Or.inr (hw _ (List.mem_of_getElem? (i := 23) rfl))) (Or.inr (hw _ (List.mem_of_getElem? (i := 19) rfl))) (by decide) (t := .int) (by decide) (t' := .int) (by decide)))
  replace F_a_readAccess := F_a_readAccess.other Wr9 (Or.inr (slot_ne (a0 := a0) (Or.inr (hw _ (List.mem_of_getElem? (i := 25) rfl))) (Or.inr (hw _ (List.mem_of_getElem? (i := 19) rfl))) (by decide) (t := .int) (by decide) (t' := .int) (by decide)))
  replace F_a_writeAccess := F_a_writeAccess.other Wr9 (Or.inr (slot_ne (a0 := a0) (Or.inr (hw _ (List.mem_of_getElem? (i := 27) rfl))) (Or.inr (hw _ (List.mem_of_getElem? (i := 19) rfl))) (by decide) (t := .int) (by decide) (t' := .int) (by decide)))
  replace hn0 : n0 ≤ h8.size := Nat.le_trans hn0 K10.1
  refine own_aloadN (pc' := 20) d1_19 rfl rfl ?_
  refine own_iload (pc' := 22) d1_20 rfl rfl ?_
  refine own_putF (pc' := 25) (hw _ (List.mem_of_getElem? (i := 20) rfl)) F_a_ndefFile E_a (Or.inr ⟨(hw _ (List.mem_of_getElem? (i := 21) rfl)), rfl, rfl⟩) (hw _ (List.mem_of_getElem? (i := 1) rfl)) ge_a (ty := .int) (by decide) rfl rfl d1_22 rfl (fun h11 Wr12 K13 => ?_)
  replace E_a := E_a.wr Wr12
  replace F_a_version := F_a_version.other Wr12 (Or.inr (slot_ne (a0 := a0) (Or.inr (hw _ (List.mem_of_getElem? (i := 15) rfl))) (Or.inr (hw _ (List.mem_of_getElem? (i := 21) rfl))) (by decide) (t := .int) (by decide) (t' := .int) (by decide)))
  replace F_a_maxRead := F_a_maxRead.other Wr12 (Or.inr (slot_ne (a0 := a0) (Or.inr (hw _ (List.mem_of_getElem? (i := 17) rfl))) (Or.inr (hw _ (List.mem_of_getElem? (i := 21) rfl))) (by decide) (t := .int) (by decide) (t' := .int) (by decide)))
  replace F_a_maxUpdate := F_a_maxUpdate.other Wr12 (Or.inr (slot_ne (a0 := a0) (Or.inr (hw _ (List.mem_of_getElem? (i := 19) rfl))) (Or.inr (hw _ (List.mem_of_getElem? (i := 21) rfl))) (by decide) (t := .int) (by decide) (t' := .int) (by decide)))
  replace F_a_ndefFile := F_a_ndefFile.same Wr12
  replace F_a_ndefFileSize := F_a_ndefFileSize.other Wr12 (Or.inr (slot_ne (a0 := a0) (Or.inr (hw _ (List.mem_of_getElem? (i := 23) rfl))) (Or.inr (hw _ (List.mem_of_getElem? (i := 21) rfl))) (by decide) (t := .int) (by decide) (t' := .int) (by decide)))
  replace F_a_readAccess := F_a_readAccess.other Wr12 (Or.inr (slot_ne (a0 := a0) (Or.inr (hw _ (List.mem_of_getElem? (i := 25) rfl))) (Or.inr (hw _ (List.mem_of_getElem? (i := 21) rfl))) (by decide) (t := .int) (by decide) (t' := .int) (by decide)))
  replace F_a_writeAccess := F_a_writeAccess.other Wr12 (Or.inr (slot_ne (a0 := a0) (Or.inr (hw _ (List.mem_of_getElem? (i := 27) rfl))) (Or.inr (hw _ (List.mem_of_getElem? (i := 21) rfl))) (by decide) (t := .int) (by decide) (t' := .int) (by decide)))
  replace hn0 : n0 ≤ h11.size := Nat.le_trans hn0 K13.1
  refine own_aloadN (pc' := 26) d1_25 rfl rfl ?_
  refine own_iload (pc' := 28) d1_26 rfl rfl ?_
  refine own_putF (pc' := 31) (hw _ (List.mem_of_getElem? (i := 22) rfl)) F_a_ndefFileSize E_a (Or.inr ⟨(hw _ (List.mem_of_getElem? (i := 23) rfl)), rfl, rfl⟩) (hw _ (List.mem_of_getElem? (i := 1) rfl)) ge_a (ty := .int) (by decide) rfl rfl d1_28 rfl (fun h14 Wr15 K16 => ?_)
  replace E_a := E_a.wr Wr15
  replace F_a_version := F_a_version.other Wr15 (Or.inr (slot_ne (a0 := a0) (Or.inr (hw _ (List.mem_of_getElem? (i := 15) rfl))) (Or.inr (hw _ (List.mem_of_getElem? (i := 23) rfl))) (by decide) (t := .int) (by decide) (t' := .int) (by decide)))
  replace F_a_maxRead := F_a_maxRead.other Wr15 (Or.inr (slot_ne (a0 := a0) (Or.inr (hw _ (List.mem_of_getElem? (i := 17) rfl))) (Or.inr (hw _ (List.mem_of_getElem? (i := 23) rfl))) (by decide) (t := .int) (by decide) (t' := .int) (by decide)))
  replace F_a_maxUpdate := F_a_maxUpdate.other Wr15 (Or.inr (slot_ne (a0 := a0) (Or.inr (hw _ (List.mem_of_getElem? (i := 19) rfl))) (Or.inr (hw _ (List.mem_of_getElem? (i := 23) rfl))) (by decide) (t := .int) (by decide) (t' := .int) (by decide)))
  replace F_a_ndefFile := F_a_ndefFile.other Wr15 (Or.inr (slot_ne (a0 := a0) (Or.inr (hw _ (List.mem_of_getElem? (i := 21) rfl))) (Or.inr (hw _ (List.mem_of_getElem? (i := 23) rfl))) (by decide) (t := .int) (by decide) (t' := .int) (by decide)))
  replace F_a_ndefFileSize := F_a_ndefFileSize.same Wr15
  replace F_a_readAccess := F_a_readAccess.other Wr15 (Or.inr (slot_ne (a0 := a0) (Or.inr (hw _ (List.mem_of_getElem? (i := 25) rfl))) (Or.inr (hw _ (List.mem_of_getElem? (i := 23) rfl))) (by decide) (t := .int) (by decide) (t' := .int) (by decide)))
  replace F_a_writeAccess := F_a_writeAccess.other Wr15 (Or.inr (slot_ne (a0 := a0) (Or.inr (hw _ (List.mem_of_getElem? (i := 27) rfl))) (Or.inr (hw _ (List.mem_of_getElem? (i := 23) rfl))) (by decide) (t := .int) (by decide) (t' := .int) (by decide)))
  replace hn0 : n0 ≤ h14.size := Nat.le_trans hn0 K16.1
  refine own_aloadN (pc' := 32) d1_31 rfl rfl ?_
  refine own_iload (pc' := 34) d1_32 rfl rfl ?_
  refine own_putF (pc' := 37) (hw _ (List.mem_of_getElem? (i := 24) rfl)) F_a_readAccess E_a (Or.inr ⟨(hw _ (List.mem_of_getElem? (i := 25) rfl)), rfl, rfl⟩) (hw _ (List.mem_of_getElem? (i := 1) rfl)) ge_a (ty := .int) (by decide) rfl rfl d1_34 rfl (fun h17 Wr18 K19 => ?_)
  replace E_a := E_a.wr Wr18
  replace F_a_version := F_a_version.other Wr18 (Or.inr (slot_ne (a0 := a0) (Or.inr (hw _ (List.mem_of_getElem? (i := 15) rfl))) (Or.inr (hw _ (List.mem_of_getElem? (i := 25) rfl))) (by decide) (t := .int) (by decide) (t' := .int) (by decide)))
  replace F_a_maxRead := F_a_maxRead.other Wr18 (Or.inr (slot_ne (a0 := a0) (Or.inr (hw _ (List.mem_of_getElem? (i := 17) rfl))) (Or.inr (hw _ (List.mem_of_getElem? (i := 25) rfl))) (by decide) (t := .int) (by decide) (t' := .int) (by decide)))
  replace F_a_maxUpdate := F_a_maxUpdate.other Wr18 (Or.inr (slot_ne (a0 := a0) (Or.inr (hw _ (List.mem_of_getElem? (i := 19) rfl))) (Or.inr (hw _ (List.mem_of_getElem? (i := 25) rfl))) (by decide) (t := .int) (by decide) (t' := .int) (by decide)))
  replace F_a_ndefFile := F_a_ndefFile.other Wr18 (Or.inr (slot_ne (a0 := a0) (Or.inr (hw _ (List.mem_of_getElem? (i := 21) rfl))) (Or.inr (hw _ (List.mem_of_getElem? (i := 25) rfl))) (by decide) (t := .int) (by decide) (t' := .int) (by decide)))
  replace F_a_ndefFileSize := F_a_ndefFileSize.other Wr18 (Or.inr (slot_ne (a0 := a0) (Or.inr (hw _ (List.mem_of_getElem? (i := 23) rfl))) (Or.inr (hw _ (List.mem_of_getElem? (i := 25) rfl))) (by decide) (t := .int) (by decide) (t' := .int) (by decide)))
  replace F_a_readAccess := F_a_readAccess.same Wr18
  replace F_a_writeAccess := F_a_writeAccess.other Wr18 (Or.inr (slot_ne (a0 := a0) (Or.inr (hw _ (List.mem_of_getElem? (i := 27) rfl))) (Or.inr (hw _ (List.mem_of_getElem? (i := 25) rfl))) (by decide) (t := .int) (by decide) (t' := .int) (by decide)))
  replace hn0 : n0 ≤ h17.size := Nat.le_trans hn0 K19.1
  refine own_aloadN (pc' := 38) d1_37 rfl rfl ?_
  refine own_iload (pc' := 40) d1_38 rfl rfl ?_
  refine own_putF (pc' := 43) (hw _ (List.mem_of_getElem? (i := 26) rfl)) F_a_writeAccess E_a (Or.inr ⟨(hw _ (List.mem_of_getElem? (i := 27) rfl)), rfl, rfl⟩) (hw _ (List.mem_of_getElem? (i := 1) rfl)) ge_a (ty := .int) (by decide) rfl rfl d1_40 rfl (fun h20 Wr21 K22 => ?_)
  replace E_a := E_a.wr Wr21
  replace F_a_version := F_a_version.other Wr21 (Or.inr (slot_ne (a0 := a0) (Or.inr (hw _ (List.mem_of_getElem? (i := 15) rfl))) (Or.inr (hw _ (List.mem_of_getElem? (i := 27) rfl))) (by decide) (t := .int) (by decide) (t' := .int) (by decide)))
  replace F_a_maxRead := F_a_maxRead.other Wr21 (Or.inr (slot_ne (a0 := a0) (Or.inr (hw _ (List.mem_of_getElem? (i := 17) rfl))) (Or.inr (hw _ (List.mem_of_getElem? (i := 27) rfl))) (by decide) (t := .int) (by decide) (t' := .int) (by decide)))
  replace F_a_maxUpdate := F_a_maxUpdate.other Wr21 (Or.inr (slot_ne (a0 := a0) (Or.inr (hw _ (List.mem_of_getElem? (i := 19) rfl))) (Or.inr (hw _ (List.mem_of_getElem? (i := 27) rfl))) (by decide) (t := .int) (by decide) (t' := .int) (by decide)))
  replace F_a_ndefFile := F_a_ndefFile.other Wr21 (Or.inr (slot_ne (a0 := a0) (Or.inr (hw _ (List.mem_of_getElem? (i := 21) rfl))) (Or.inr (hw _ (List.mem_of_getElem? (i := 27) rfl))) (by decide) (t := .int) (by decide) (t' := .int) (by decide)))
  replace F_a_ndefFileSize := F_a_ndefFileSize.other Wr21 (Or.inr (slot_ne (a0 := a0) (Or.inr (hw _ (List.mem_of_getElem? (i := 23) rfl))) (Or.inr (hw _ (List.mem_of_getElem? (i := 27) rfl))) (by decide) (t := .int) (by decide) (t' := .int) (by decide)))
  replace F_a_readAccess := F_a_readAccess.other Wr21 (Or.inr (slot_ne (a0 := a0) (Or.inr (hw _ (List.mem_of_getElem? (i := 25) rfl))) (Or.inr (hw _ (List.mem_of_getElem? (i := 27) rfl))) (by decide) (t := .int) (by decide) (t' := .int) (by decide)))
  replace F_a_writeAccess := F_a_writeAccess.same Wr21
  replace hn0 : n0 ≤ h20.size := Nat.le_trans hn0 K22.1
  exact own_ret rfl d1_43 ⟨rfl, ((((((((Keep.refl h0 [a]).trans K4 (fun x hx => Or.inl hx)).trans K7 (fun x hx => Or.inl hx)).trans K10 (fun x hx => Or.inl hx)).trans K13 (fun x hx => Or.inl hx)).trans K16 (fun x hx => Or.inl hx)).trans K19 (fun x hx => Or.inl hx)).trans K22 (fun x hx => Or.inl hx)), E_a, F_a_version, F_a_maxRead, F_a_maxUpdate, F_a_ndefFile, F_a_ndefFileSize, F_a_readAccess, F_a_writeAccess⟩
set_option maxRecDepth 65536 in
set_option maxHeartbeats 40000000 in
theorem own_bytes (l : Launch) (Z : State) (a0 : Array Value) (hw : ∀ d ∈ tables_1, d.before a0 Z = true) (a : Addr) (y0 y1 y2 y3 y4 y5 y6 : Int32) (h0 : Heap) (n0 : Nat) (hn0 : n0 ≤ h0.size) (F_a_version : Fld Z h0 a "com/example/fieldtap/fieldtap/type4/CapabilityContainer" "version" "I" (.int y0)) (F_a_maxRead : Fld Z h0 a "com/example/fieldtap/fieldtap/type4/CapabilityContainer" "maxRead" "I" (.int y1)) (F_a_maxUpdate : Fld Z h0 a "com/example/fieldtap/fieldtap/type4/CapabilityContainer" "maxUpdate" "I" (.int y2)) (F_a_ndefFile : Fld Z h0 a "com/example/fieldtap/fieldtap/type4/CapabilityContainer" "ndefFile" "I" (.int y3)) (F_a_ndefFileSize : Fld Z h0 a "com/example/fieldtap/fieldtap/type4/CapabilityContainer" "ndefFileSize" "I" (.int y4)) (F_a_readAccess : Fld Z h0 a "com/example/fieldtap/fieldtap/type4/CapabilityContainer" "readAccess" "I" (.int y5)) (F_a_writeAccess : Fld Z h0 a "com/example/fieldtap/fieldtap/type4/CapabilityContainer" "writeAccess" "I" (.int y6)) :
    own_W l Z (⟨"com/example/fieldtap/fieldtap/type4/CapabilityContainer", "bytes", "()[B"⟩ : MethodName) prog_112_method_3_code 1 (some (.array .byte)) ({ frames := 0, cells := 1, slots := 15, locals := 0 } : Room) n0 (fun v h => ∃ r : Addr, v = some (.ref r) ∧ h0.size ≤ r ∧ Keep h0 h [] ∧ own_A Z h r .byte [.int (nar .byte (0 : Int32)), .int (nar .byte (15 : Int32)), .int (nar .byte (y0.toInt8.toInt32)), .int (nar .byte ((y1 >>> ((8 : Int32) &&& 31)).toInt8.toInt32)), .int (nar .byte (y1.toInt8.toInt32)), .int (nar .byte ((y2 >>> ((8 : Int32) &&& 31)).toInt8.toInt32)), .int (nar .byte (y2.toInt8.toInt32)), .int (nar .byte (4 : Int32)), .int (nar .byte (6 : Int32)), .int (nar .byte ((y3 >>> ((8 : Int32) &&& 31)).toInt8.toInt32)), .int (nar .byte (y3.toInt8.toInt32)), .int (nar .byte ((y4 >>> ((8 : Int32) &&& 31)).toInt8.toInt32)), .int (nar .byte (y4.toInt8.toInt32)), .int (nar .byte (y5.toInt8.toInt32)), .int (nar .byte (y6.toInt8.toInt32))]) h0 0 0 0 #[.val (.ref a)] [] := by
  refine own_bipush (15 : Int32) (pc' := 2) d4_0 rfl rfl ?_
  refine own_newarr (pc' := 4) (ty := .byte) (cap := 15) (hw _ (List.mem_of_getElem? (i := 33) rfl)) rfl d4_2 rfl (by decide) (by decide) (by decide) (by decide) (by decide) (fun h23 r gt_r lt_r E24 A_r => ?_)
  have ge_r : n0 ≤ r := Nat.le_trans hn0 gt_r
  have ne_a_r : a ≠ r := Nat.ne_of_lt (by have q := Nat.lt_of_lt_of_le F_a_version.lt (Nat.le_refl _); omega)
  replace F_a_version := F_a_version.ext E24
  replace F_a_maxRead := F_a_maxRead.ext E24
  replace F_a_maxUpdate := F_a_maxUpdate.ext E24
  replace F_a_ndefFile := F_a_ndefFile.ext E24
  replace F_a_ndefFileSize := F_a_ndefFileSize.ext E24
  replace F_a_readAccess := F_a_readAccess.ext E24
  replace F_a_writeAccess := F_a_writeAccess.ext E24
  replace hn0 : n0 ≤ h23.size := Nat.le_trans hn0 E24.1
  replace A_r : own_A Z h23 r .byte [.int (0 : Int32), .int (0 : Int32), .int (0 : Int32), .int (0 : Int32), .int (0 : Int32), .int (0 : Int32), .int (0 : Int32), .int (0 : Int32), .int (0 : Int32), .int (0 : Int32), .int (0 : Int32), .int (0 : Int32), .int (0 : Int32), .int (0 : Int32), .int (0 : Int32)] := A_r.cast rfl
  refine own_dup (pc' := 5) d4_4 rfl rfl ?_
  refine own_iconst (0 : Int32) (pc' := 6) d4_5 rfl rfl ?_
  refine own_iconst (0 : Int32) (pc' := 7) d4_6 rfl rfl ?_
  refine own_bastore (pc' := 8) A_r (by decide) (by first | decide | (simp only [List.length_cons, List.length_nil, List.length_set, List.length_replicate]; decide)) ge_r d4_7 rfl (fun h25 K26 A_new => ?_)
  replace F_a_version := F_a_version.keep K26 (ninS ne_a_r nin0)
  replace F_a_maxRead := F_a_maxRead.keep K26 (ninS ne_a_r nin0)
  replace F_a_maxUpdate := F_a_maxUpdate.keep K26 (ninS ne_a_r nin0)
  replace F_a_ndefFile := F_a_ndefFile.keep K26 (ninS ne_a_r nin0)
  replace F_a_ndefFileSize := F_a_ndefFileSize.keep K26 (ninS ne_a_r nin0)
  replace F_a_readAccess := F_a_readAccess.keep K26 (ninS ne_a_r nin0)
  replace F_a_writeAccess := F_a_writeAccess.keep K26 (ninS ne_a_r nin0)
  replace hn0 : n0 ≤ h25.size := Nat.le_trans hn0 K26.1
  replace A_r : own_A Z h25 r .byte [.int (nar .byte (0 : Int32)), .int (0 : Int32), .int (0 : Int32), .int (0 : Int32), .int (0 : Int32), .int (0 : Int32), .int (0 : Int32), .int (0 : Int32), .int (0 : Int32), .int (0 : Int32), .int (0 : Int32), .int (0 : Int32), .int (0 : Int32), .int (0 : Int32), .int (0 : Int32)] := A_new.cast rfl
  refine own_dup (pc' := 9) d4_8 rfl rfl ?_
  refine own_iconst (1 : Int32) (pc' := 10) d4_9 rfl rfl ?_
  refine own_bipush (15 : Int32) (pc' := 12) d4_10 rfl rfl ?_
  refine own_bastore (pc' := 13) A_r (by decide) (by first | decide | (simp only [List.length_cons, List.length_nil, List.length_set, List.length_replicate]; decide)) ge_r d4_12 rfl (fun h27 K28 A_new => ?_)
  replace F_a_version := F_a_version.keep K28 (ninS ne_a_r nin0)
  replace F_a_maxRead := F_a_maxRead.keep K28 (ninS ne_a_r nin0)
  replace F_a_maxUpdate := F_a_maxUpdate.keep K28 (ninS ne_a_r nin0)
  replace F_a_ndefFile := F_a_ndefFile.keep K28 (ninS ne_a_r nin0)
  replace F_a_ndefFileSize := F_a_ndefFileSize.keep K28 (ninS ne_a_r nin0)
  replace F_a_readAccess := F_a_readAccess.keep K28 (ninS ne_a_r nin0)
  replace F_a_writeAccess := F_a_writeAccess.keep K28 (ninS ne_a_r nin0)
  replace hn0 : n0 ≤ h27.size := Nat.le_trans hn0 K28.1
  replace A_r : own_A Z h27 r .byte [.int (nar .byte (0 : Int32)), .int (nar .byte (15 : Int32)), .int (0 : Int32), .int (0 : Int32), .int (0 : Int32), .int (0 : Int32), .int (0 : Int32), .int (0 : Int32), .int (0 : Int32), .int (0 : Int32), .int (0 : Int32), .int (0 : Int32), .int (0 : Int32), .int (0 : Int32), .int (0 : Int32)] := A_new.cast rfl
  refine own_dup (pc' := 14) d4_13 rfl rfl ?_
  refine own_iconst (2 : Int32) (pc' := 15) d4_14 rfl rfl ?_
  refine own_aloadN (pc' := 16) d4_15 rfl rfl ?_
  refine own_getF (pc' := 19) (hw _ (List.mem_of_getElem? (i := 14) rfl)) F_a_version d4_16 rfl ?_
  refine own_i2b (pc' := 20) d4_19 rfl ?_
  refine own_bastore (pc' := 21) A_r (by decide) (by first | decide | (simp only [List.length_cons, List.length_nil, List.length_set, List.length_replicate]; decide)) ge_r d4_20 rfl (fun h29 K30 A_new => ?_)
  replace F_a_version := F_a_version.keep K30 (ninS ne_a_r nin0)
  replace F_a_maxRead := F_a_maxRead.keep K30 (ninS ne_a_r nin0)
  replace F_a_maxUpdate := F_a_maxUpdate.keep K30 (ninS ne_a_r nin0)
  replace F_a_ndefFile := F_a_ndefFile.keep K30 (ninS ne_a_r nin0)
  replace F_a_ndefFileSize := F_a_ndefFileSize.keep K30 (ninS ne_a_r nin0)
  replace F_a_readAccess := F_a_readAccess.keep K30 (ninS ne_a_r nin0)
  replace F_a_writeAccess := F_a_writeAccess.keep K30 (ninS ne_a_r nin0)
  replace hn0 : n0 ≤ h29.size := Nat.le_trans hn0 K30.1
  replace A_r : own_A Z h29 r .byte [.int (nar .byte (0 : Int32)), .int (nar .byte (15 : Int32)), .int (nar .byte (y0.toInt8.toInt32)), .int (0 : Int32), .int (0 : Int32), .int (0 : Int32), .int (0 : Int32), .int (0 : Int32), .int (0 : Int32), .int (0 : Int32), .int (0 : Int32), .int (0 : Int32), .int (0 : Int32), .int (0 : Int32), .int (0 : Int32)] := A_new.cast rfl
  refine own_dup (pc' := 22) d4_21 rfl rfl ?_
  refine own_iconst (3 : Int32) (pc' := 23) d4_22 rfl rfl ?_
  refine own_aloadN (pc' := 24) d4_23 rfl rfl ?_
  refine own_getF (pc' := 27) (hw _ (List.mem_of_getElem? (i := 16) rfl)) F_a_maxRead d4_24 rfl ?_
  refine own_bipush (8 : Int32) (pc' := 29) d4_27 rfl rfl ?_
  refine own_ishr (pc' := 30) d4_29 rfl ?_
  refine own_i2b (pc' := 31) d4_30 rfl ?_
  refine own_bastore (pc' := 32) A_r (by decide) (by first | decide | (simp only [List.length_cons, List.length_nil, List.length_set, List.length_replicate]; decide)) ge_r d4_31 rfl (fun h31 K32 A_new => ?_)
  replace F_a_version := F_a_version.keep K32 (ninS ne_a_r nin0)
  replace F_a_maxRead := F_a_maxRead.keep K32 (ninS ne_a_r nin0)
  replace F_a_maxUpdate := F_a_maxUpdate.keep K32 (ninS ne_a_r nin0)
  replace F_a_ndefFile := F_a_ndefFile.keep K32 (ninS ne_a_r nin0)
  replace F_a_ndefFileSize := F_a_ndefFileSize.keep K32 (ninS ne_a_r nin0)
  replace F_a_readAccess := F_a_readAccess.keep K32 (ninS ne_a_r nin0)
  replace F_a_writeAccess := F_a_writeAccess.keep K32 (ninS ne_a_r nin0)
  replace hn0 : n0 ≤ h31.size := Nat.le_trans hn0 K32.1
  replace A_r : own_A Z h31 r .byte [.int (nar .byte (0 : Int32)), .int (nar .byte (15 : Int32)), .int (nar .byte (y0.toInt8.toInt32)), .int (nar .byte ((y1 >>> ((8 : Int32) &&& 31)).toInt8.toInt32)), .int (0 : Int32), .int (0 : Int32), .int (0 : Int32), .int (0 : Int32), .int (0 : Int32), .int (0 : Int32), .int (0 : Int32), .int (0 : Int32), .int (0 : Int32), .int (0 : Int32), .int (0 : Int32)] := A_new.cast rfl
  refine own_dup (pc' := 33) d4_32 rfl rfl ?_
  refine own_iconst (4 : Int32) (pc' := 34) d4_33 rfl rfl ?_
  refine own_aloadN (pc' := 35) d4_34 rfl rfl ?_
  refine own_getF (pc' := 38) (hw _ (List.mem_of_getElem? (i := 16) rfl)) F_a_maxRead d4_35 rfl ?_
  refine own_i2b (pc' := 39) d4_38 rfl ?_
  refine own_bastore (pc' := 40) A_r (by decide) (by first | decide | (simp only [List.length_cons, List.length_nil, List.length_set, List.length_replicate]; decide)) ge_r d4_39 rfl (fun h33 K34 A_new => ?_)
  replace F_a_version := F_a_version.keep K34 (ninS ne_a_r nin0)
  replace F_a_maxRead := F_a_maxRead.keep K34 (ninS ne_a_r nin0)
  replace F_a_maxUpdate := F_a_maxUpdate.keep K34 (ninS ne_a_r nin0)
  replace F_a_ndefFile := F_a_ndefFile.keep K34 (ninS ne_a_r nin0)
  replace F_a_ndefFileSize := F_a_ndefFileSize.keep K34 (ninS ne_a_r nin0)
  replace F_a_readAccess := F_a_readAccess.keep K34 (ninS ne_a_r nin0)
  replace F_a_writeAccess := F_a_writeAccess.keep K34 (ninS ne_a_r nin0)
  replace hn0 : n0 ≤ h33.size := Nat.le_trans hn0 K34.1
  replace A_r : own_A Z h33 r .byte [.int (nar .byte (0 : Int32)), .int (nar .byte (15 : Int32)), .int (nar .byte (y0.toInt8.toInt32)), .int (nar .byte ((y1 >>> ((8 : Int32) &&& 31)).toInt8.toInt32)), .int (nar .byte (y1.toInt8.toInt32)), .int (0 : Int32), .int (0 : Int32), .int (0 : Int32), .int (0 : Int32), .int (0 : Int32), .int (0 : Int32), .int (0 : Int32), .int (0 : Int32), .int (0 : Int32), .int (0 : Int32)] := A_new.cast rfl
  refine own_dup (pc' := 41) d4_40 rfl rfl ?_
  refine own_iconst (5 : Int32) (pc' := 42) d4_41 rfl rfl ?_
  refine own_aloadN (pc' := 43) d4_42 rfl rfl ?_
  refine own_getF (pc' := 46) (hw _ (List.mem_of_getElem? (i := 18) rfl)) F_a_maxUpdate d4_43 rfl ?_
  refine own_bipush (8 : Int32) (pc' := 48) d4_46 rfl rfl ?_
  refine own_ishr (pc' := 49) d4_48 rfl ?_
  refine own_i2b (pc' := 50) d4_49 rfl ?_
  refine own_bastore (pc' := 51) A_r (by decide) (by first | decide | (simp only [List.length_cons, List.length_nil, List.length_set, List.length_replicate]; decide)) ge_r d4_50 rfl (fun h35 K36 A_new => ?_)
  replace F_a_version := F_a_version.keep K36 (ninS ne_a_r nin0)
  replace F_a_maxRead := F_a_maxRead.keep K36 (ninS ne_a_r nin0)
  replace F_a_maxUpdate := F_a_maxUpdate.keep K36 (ninS ne_a_r nin0)
  replace F_a_ndefFile := F_a_ndefFile.keep K36 (ninS ne_a_r nin0)
  replace F_a_ndefFileSize := F_a_ndefFileSize.keep K36 (ninS ne_a_r nin0)
  replace F_a_readAccess := F_a_readAccess.keep K36 (ninS ne_a_r nin0)
  replace F_a_writeAccess := F_a_writeAccess.keep K36 (ninS ne_a_r nin0)
  replace hn0 : n0 ≤ h35.size := Nat.le_trans hn0 K36.1
  replace A_r : own_A Z h35 r .byte [.int (nar .byte (0 : Int32)), .int (nar .byte (15 : Int32)), .int (nar .byte (y0.toInt8.toInt32)), .int (nar .byte ((y1 >>> ((8 : Int32) &&& 31)).toInt8.toInt32)), .int (nar .byte (y1.toInt8.toInt32)), .int (nar .byte ((y2 >>> ((8 : Int32) &&& 31)).toInt8.toInt32)), .int (0 : Int32), .int (0 : Int32), .int (0 : Int32), .int (0 : Int32), .int (0 : Int32), .int (0 : Int32), .int (0 : Int32), .int (0 : Int32), .int (0 : Int32)] := A_new.cast rfl
  refine own_dup (pc' := 52) d4_51 rfl rfl ?_
  refine own_bipush (6 : Int32) (pc' := 54) d4_52 rfl rfl ?_
  refine own_aloadN (pc' := 55) d4_54 rfl rfl ?_
  refine own_getF (pc' := 58) (hw _ (List.mem_of_getElem? (i := 18) rfl)) F_a_maxUpdate d4_55 rfl ?_
  refine own_i2b (pc' := 59) d4_58 rfl ?_
  refine own_bastore (pc' := 60) A_r (by decide) (by first | decide | (simp only [List.length_cons, List.length_nil, List.length_set, List.length_replicate]; decide)) ge_r d4_59 rfl (fun h37 K38 A_new => ?_)
  replace F_a_version := F_a_version.keep K38 (ninS ne_a_r nin0)
  replace F_a_maxRead := F_a_maxRead.keep K38 (ninS ne_a_r nin0)
  replace F_a_maxUpdate := F_a_maxUpdate.keep K38 (ninS ne_a_r nin0)
  replace F_a_ndefFile := F_a_ndefFile.keep K38 (ninS ne_a_r nin0)
  replace F_a_ndefFileSize := F_a_ndefFileSize.keep K38 (ninS ne_a_r nin0)
  replace F_a_readAccess := F_a_readAccess.keep K38 (ninS ne_a_r nin0)
  replace F_a_writeAccess := F_a_writeAccess.keep K38 (ninS ne_a_r nin0)
  replace hn0 : n0 ≤ h37.size := Nat.le_trans hn0 K38.1
  replace A_r : own_A Z h37 r .byte [.int (nar .byte (0 : Int32)), .int (nar .byte (15 : Int32)), .int (nar .byte (y0.toInt8.toInt32)), .int (nar .byte ((y1 >>> ((8 : Int32) &&& 31)).toInt8.toInt32)), .int (nar .byte (y1.toInt8.toInt32)), .int (nar .byte ((y2 >>> ((8 : Int32) &&& 31)).toInt8.toInt32)), .int (nar .byte (y2.toInt8.toInt32)), .int (0 : Int32), .int (0 : Int32), .int (0 : Int32), .int (0 : Int32), .int (0 : Int32), .int (0 : Int32), .int (0 : Int32), .int (0 : Int32)] := A_new.cast rfl
  refine own_dup (pc' := 61) d4_60 rfl rfl ?_
  refine own_bipush (7 : Int32) (pc' := 63) d4_61 rfl rfl ?_
  refine own_iconst (4 : Int32) (pc' := 64) d4_63 rfl rfl ?_
  refine own_bastore (pc' := 65) A_r (by decide) (by first | decide | (simp only [List.length_cons, List.length_nil, List.length_set, List.length_replicate]; decide)) ge_r d4_64 rfl (fun h39 K40 A_new => ?_)
  replace F_a_version := F_a_version.keep K40 (ninS ne_a_r nin0)
  replace F_a_maxRead := F_a_maxRead.keep K40 (ninS ne_a_r nin0)
  replace F_a_maxUpdate := F_a_maxUpdate.keep K40 (ninS ne_a_r nin0)
  replace F_a_ndefFile := F_a_ndefFile.keep K40 (ninS ne_a_r nin0)
  replace F_a_ndefFileSize := F_a_ndefFileSize.keep K40 (ninS ne_a_r nin0)
  replace F_a_readAccess := F_a_readAccess.keep K40 (ninS ne_a_r nin0)
  replace F_a_writeAccess := F_a_writeAccess.keep K40 (ninS ne_a_r nin0)
  replace hn0 : n0 ≤ h39.size := Nat.le_trans hn0 K40.1
  replace A_r : own_A Z h39 r .byte [.int (nar .byte (0 : Int32)), .int (nar .byte (15 : Int32)), .int (nar .byte (y0.toInt8.toInt32)), .int (nar .byte ((y1 >>> ((8 : Int32) &&& 31)).toInt8.toInt32)), .int (nar .byte (y1.toInt8.toInt32)), .int (nar .byte ((y2 >>> ((8 : Int32) &&& 31)).toInt8.toInt32)), .int (nar .byte (y2.toInt8.toInt32)), .int (nar .byte (4 : Int32)), .int (0 : Int32), .int (0 : Int32), .int (0 : Int32), .int (0 : Int32), .int (0 : Int32), .int (0 : Int32), .int (0 : Int32)] := A_new.cast rfl
  refine own_dup (pc' := 66) d4_65 rfl rfl ?_
  refine own_bipush (8 : Int32) (pc' := 68) d4_66 rfl rfl ?_
  refine own_bipush (6 : Int32) (pc' := 70) d4_68 rfl rfl ?_
  refine own_bastore (pc' := 71) A_r (by decide) (by first | decide | (simp only [List.length_cons, List.length_nil, List.length_set, List.length_replicate]; decide)) ge_r d4_70 rfl (fun h41 K42 A_new => ?_)
  replace F_a_version := F_a_version.keep K42 (ninS ne_a_r nin0)
  replace F_a_maxRead := F_a_maxRead.keep K42 (ninS ne_a_r nin0)
  replace F_a_maxUpdate := F_a_maxUpdate.keep K42 (ninS ne_a_r nin0)
  replace F_a_ndefFile := F_a_ndefFile.keep K42 (ninS ne_a_r nin0)
  replace F_a_ndefFileSize := F_a_ndefFileSize.keep K42 (ninS ne_a_r nin0)
  replace F_a_readAccess := F_a_readAccess.keep K42 (ninS ne_a_r nin0)
  replace F_a_writeAccess := F_a_writeAccess.keep K42 (ninS ne_a_r nin0)
  replace hn0 : n0 ≤ h41.size := Nat.le_trans hn0 K42.1
  replace A_r : own_A Z h41 r .byte [.int (nar .byte (0 : Int32)), .int (nar .byte (15 : Int32)), .int (nar .byte (y0.toInt8.toInt32)), .int (nar .byte ((y1 >>> ((8 : Int32) &&& 31)).toInt8.toInt32)), .int (nar .byte (y1.toInt8.toInt32)), .int (nar .byte ((y2 >>> ((8 : Int32) &&& 31)).toInt8.toInt32)), .int (nar .byte (y2.toInt8.toInt32)), .int (nar .byte (4 : Int32)), .int (nar .byte (6 : Int32)), .int (0 : Int32), .int (0 : Int32), .int (0 : Int32), .int (0 : Int32), .int (0 : Int32), .int (0 : Int32)] := A_new.cast rfl
  refine own_dup (pc' := 72) d4_71 rfl rfl ?_
  refine own_bipush (9 : Int32) (pc' := 74) d4_72 rfl rfl ?_
  refine own_aloadN (pc' := 75) d4_74 rfl rfl ?_
  refine own_getF (pc' := 78) (hw _ (List.mem_of_getElem? (i := 20) rfl)) F_a_ndefFile d4_75 rfl ?_
  refine own_bipush (8 : Int32) (pc' := 80) d4_78 rfl rfl ?_
  refine own_ishr (pc' := 81) d4_80 rfl ?_
  refine own_i2b (pc' := 82) d4_81 rfl ?_
  refine own_bastore (pc' := 83) A_r (by decide) (by first | decide | (simp only [List.length_cons, List.length_nil, List.length_set, List.length_replicate]; decide)) ge_r d4_82 rfl (fun h43 K44 A_new => ?_)
  replace F_a_version := F_a_version.keep K44 (ninS ne_a_r nin0)
  replace F_a_maxRead := F_a_maxRead.keep K44 (ninS ne_a_r nin0)
  replace F_a_maxUpdate := F_a_maxUpdate.keep K44 (ninS ne_a_r nin0)
  replace F_a_ndefFile := F_a_ndefFile.keep K44 (ninS ne_a_r nin0)
  replace F_a_ndefFileSize := F_a_ndefFileSize.keep K44 (ninS ne_a_r nin0)
  replace F_a_readAccess := F_a_readAccess.keep K44 (ninS ne_a_r nin0)
  replace F_a_writeAccess := F_a_writeAccess.keep K44 (ninS ne_a_r nin0)
  replace hn0 : n0 ≤ h43.size := Nat.le_trans hn0 K44.1
  replace A_r : own_A Z h43 r .byte [.int (nar .byte (0 : Int32)), .int (nar .byte (15 : Int32)), .int (nar .byte (y0.toInt8.toInt32)), .int (nar .byte ((y1 >>> ((8 : Int32) &&& 31)).toInt8.toInt32)), .int (nar .byte (y1.toInt8.toInt32)), .int (nar .byte ((y2 >>> ((8 : Int32) &&& 31)).toInt8.toInt32)), .int (nar .byte (y2.toInt8.toInt32)), .int (nar .byte (4 : Int32)), .int (nar .byte (6 : Int32)), .int (nar .byte ((y3 >>> ((8 : Int32) &&& 31)).toInt8.toInt32)), .int (0 : Int32), .int (0 : Int32), .int (0 : Int32), .int (0 : Int32), .int (0 : Int32)] := A_new.cast rfl
  refine own_dup (pc' := 84) d4_83 rfl rfl ?_
  refine own_bipush (10 : Int32) (pc' := 86) d4_84 rfl rfl ?_
  refine own_aloadN (pc' := 87) d4_86 rfl rfl ?_
  refine own_getF (pc' := 90) (hw _ (List.mem_of_getElem? (i := 20) rfl)) F_a_ndefFile d4_87 rfl ?_
  refine own_i2b (pc' := 91) d4_90 rfl ?_
  refine own_bastore (pc' := 92) A_r (by decide) (by first | decide | (simp only [List.length_cons, List.length_nil, List.length_set, List.length_replicate]; decide)) ge_r d4_91 rfl (fun h45 K46 A_new => ?_)
  replace F_a_version := F_a_version.keep K46 (ninS ne_a_r nin0)
  replace F_a_maxRead := F_a_maxRead.keep K46 (ninS ne_a_r nin0)
  replace F_a_maxUpdate := F_a_maxUpdate.keep K46 (ninS ne_a_r nin0)
  replace F_a_ndefFile := F_a_ndefFile.keep K46 (ninS ne_a_r nin0)
  replace F_a_ndefFileSize := F_a_ndefFileSize.keep K46 (ninS ne_a_r nin0)
  replace F_a_readAccess := F_a_readAccess.keep K46 (ninS ne_a_r nin0)
  replace F_a_writeAccess := F_a_writeAccess.keep K46 (ninS ne_a_r nin0)
  replace hn0 : n0 ≤ h45.size := Nat.le_trans hn0 K46.1
  replace A_r : own_A Z h45 r .byte [.int (nar .byte (0 : Int32)), .int (nar .byte (15 : Int32)), .int (nar .byte (y0.toInt8.toInt32)), .int (nar .byte ((y1 >>> ((8 : Int32) &&& 31)).toInt8.toInt32)), .int (nar .byte (y1.toInt8.toInt32)), .int (nar .byte ((y2 >>> ((8 : Int32) &&& 31)).toInt8.toInt32)), .int (nar .byte (y2.toInt8.toInt32)), .int (nar .byte (4 : Int32)), .int (nar .byte (6 : Int32)), .int (nar .byte ((y3 >>> ((8 : Int32) &&& 31)).toInt8.toInt32)), .int (nar .byte (y3.toInt8.toInt32)), .int (0 : Int32), .int (0 : Int32), .int (0 : Int32), .int (0 : Int32)] := A_new.cast rfl
  refine own_dup (pc' := 93) d4_92 rfl rfl ?_
  refine own_bipush (11 : Int32) (pc' := 95) d4_93 rfl rfl ?_
  refine own_aloadN (pc' := 96) d4_95 rfl rfl ?_
  refine own_getF (pc' := 99) (hw _ (List.mem_of_getElem? (i := 22) rfl)) F_a_ndefFileSize d4_96 rfl ?_
  refine own_bipush (8 : Int32) (pc' := 101) d4_99 rfl rfl ?_
  refine own_ishr (pc' := 102) d4_101 rfl ?_
  refine own_i2b (pc' := 103) d4_102 rfl ?_
  refine own_bastore (pc' := 104) A_r (by decide) (by first | decide | (simp only [List.length_cons, List.length_nil, List.length_set, List.length_replicate]; decide)) ge_r d4_103 rfl (fun h47 K48 A_new => ?_)
  replace F_a_version := F_a_version.keep K48 (ninS ne_a_r nin0)
  replace F_a_maxRead := F_a_maxRead.keep K48 (ninS ne_a_r nin0)
  replace F_a_maxUpdate := F_a_maxUpdate.keep K48 (ninS ne_a_r nin0)
  replace F_a_ndefFile := F_a_ndefFile.keep K48 (ninS ne_a_r nin0)
  replace F_a_ndefFileSize := F_a_ndefFileSize.keep K48 (ninS ne_a_r nin0)
  replace F_a_readAccess := F_a_readAccess.keep K48 (ninS ne_a_r nin0)
  replace F_a_writeAccess := F_a_writeAccess.keep K48 (ninS ne_a_r nin0)
  replace hn0 : n0 ≤ h47.size := Nat.le_trans hn0 K48.1
  replace A_r : own_A Z h47 r .byte [.int (nar .byte (0 : Int32)), .int (nar .byte (15 : Int32)), .int (nar .byte (y0.toInt8.toInt32)), .int (nar .byte ((y1 >>> ((8 : Int32) &&& 31)).toInt8.toInt32)), .int (nar .byte (y1.toInt8.toInt32)), .int (nar .byte ((y2 >>> ((8 : Int32) &&& 31)).toInt8.toInt32)), .int (nar .byte (y2.toInt8.toInt32)), .int (nar .byte (4 : Int32)), .int (nar .byte (6 : Int32)), .int (nar .byte ((y3 >>> ((8 : Int32) &&& 31)).toInt8.toInt32)), .int (nar .byte (y3.toInt8.toInt32)), .int (nar .byte ((y4 >>> ((8 : Int32) &&& 31)).toInt8.toInt32)), .int (0 : Int32), .int (0 : Int32), .int (0 : Int32)] := A_new.cast rfl
  refine own_dup (pc' := 105) d4_104 rfl rfl ?_
  refine own_bipush (12 : Int32) (pc' := 107) d4_105 rfl rfl ?_
  refine own_aloadN (pc' := 108) d4_107 rfl rfl ?_
  refine own_getF (pc' := 111) (hw _ (List.mem_of_getElem? (i := 22) rfl)) F_a_ndefFileSize d4_108 rfl ?_
  refine own_i2b (pc' := 112) d4_111 rfl ?_
  refine own_bastore (pc' := 113) A_r (by decide) (by first | decide | (simp only [List.length_cons, List.length_nil, List.length_set, List.length_replicate]; decide)) ge_r d4_112 rfl (fun h49 K50 A_new => ?_)
  replace F_a_version := F_a_version.keep K50 (ninS ne_a_r nin0)
  replace F_a_maxRead := F_a_maxRead.keep K50 (ninS ne_a_r nin0)
  replace F_a_maxUpdate := F_a_maxUpdate.keep K50 (ninS ne_a_r nin0)
  replace F_a_ndefFile := F_a_ndefFile.keep K50 (ninS ne_a_r nin0)
  replace F_a_ndefFileSize := F_a_ndefFileSize.keep K50 (ninS ne_a_r nin0)
  replace F_a_readAccess := F_a_readAccess.keep K50 (ninS ne_a_r nin0)
  replace F_a_writeAccess := F_a_writeAccess.keep K50 (ninS ne_a_r nin0)
  replace hn0 : n0 ≤ h49.size := Nat.le_trans hn0 K50.1
  replace A_r : own_A Z h49 r .byte [.int (nar .byte (0 : Int32)), .int (nar .byte (15 : Int32)), .int (nar .byte (y0.toInt8.toInt32)), .int (nar .byte ((y1 >>> ((8 : Int32) &&& 31)).toInt8.toInt32)), .int (nar .byte (y1.toInt8.toInt32)), .int (nar .byte ((y2 >>> ((8 : Int32) &&& 31)).toInt8.toInt32)), .int (nar .byte (y2.toInt8.toInt32)), .int (nar .byte (4 : Int32)), .int (nar .byte (6 : Int32)), .int (nar .byte ((y3 >>> ((8 : Int32) &&& 31)).toInt8.toInt32)), .int (nar .byte (y3.toInt8.toInt32)), .int (nar .byte ((y4 >>> ((8 : Int32) &&& 31)).toInt8.toInt32)), .int (nar .byte (y4.toInt8.toInt32)), .int (0 : Int32), .int (0 : Int32)] := A_new.cast rfl
  refine own_dup (pc' := 114) d4_113 rfl rfl ?_
  refine own_bipush (13 : Int32) (pc' := 116) d4_114 rfl rfl ?_
  refine own_aloadN (pc' := 117) d4_116 rfl rfl ?_
  refine own_getF (pc' := 120) (hw _ (List.mem_of_getElem? (i := 24) rfl)) F_a_readAccess d4_117 rfl ?_
  refine own_i2b (pc' := 121) d4_120 rfl ?_
  refine own_bastore (pc' := 122) A_r (by decide) (by first | decide | (simp only [List.length_cons, List.length_nil, List.length_set, List.length_replicate]; decide)) ge_r d4_121 rfl (fun h51 K52 A_new => ?_)
  replace F_a_version := F_a_version.keep K52 (ninS ne_a_r nin0)
  replace F_a_maxRead := F_a_maxRead.keep K52 (ninS ne_a_r nin0)
  replace F_a_maxUpdate := F_a_maxUpdate.keep K52 (ninS ne_a_r nin0)
  replace F_a_ndefFile := F_a_ndefFile.keep K52 (ninS ne_a_r nin0)
  replace F_a_ndefFileSize := F_a_ndefFileSize.keep K52 (ninS ne_a_r nin0)
  replace F_a_readAccess := F_a_readAccess.keep K52 (ninS ne_a_r nin0)
  replace F_a_writeAccess := F_a_writeAccess.keep K52 (ninS ne_a_r nin0)
  replace hn0 : n0 ≤ h51.size := Nat.le_trans hn0 K52.1
  replace A_r : own_A Z h51 r .byte [.int (nar .byte (0 : Int32)), .int (nar .byte (15 : Int32)), .int (nar .byte (y0.toInt8.toInt32)), .int (nar .byte ((y1 >>> ((8 : Int32) &&& 31)).toInt8.toInt32)), .int (nar .byte (y1.toInt8.toInt32)), .int (nar .byte ((y2 >>> ((8 : Int32) &&& 31)).toInt8.toInt32)), .int (nar .byte (y2.toInt8.toInt32)), .int (nar .byte (4 : Int32)), .int (nar .byte (6 : Int32)), .int (nar .byte ((y3 >>> ((8 : Int32) &&& 31)).toInt8.toInt32)), .int (nar .byte (y3.toInt8.toInt32)), .int (nar .byte ((y4 >>> ((8 : Int32) &&& 31)).toInt8.toInt32)), .int (nar .byte (y4.toInt8.toInt32)), .int (nar .byte (y5.toInt8.toInt32)), .int (0 : Int32)] := A_new.cast rfl
  refine own_dup (pc' := 123) d4_122 rfl rfl ?_
  refine own_bipush (14 : Int32) (pc' := 125) d4_123 rfl rfl ?_
  refine own_aloadN (pc' := 126) d4_125 rfl rfl ?_
  refine own_getF (pc' := 129) (hw _ (List.mem_of_getElem? (i := 26) rfl)) F_a_writeAccess d4_126 rfl ?_
  refine own_i2b (pc' := 130) d4_129 rfl ?_
  refine own_bastore (pc' := 131) A_r (by decide) (by first | decide | (simp only [List.length_cons, List.length_nil, List.length_set, List.length_replicate]; decide)) ge_r d4_130 rfl (fun h53 K54 A_new => ?_)
  replace F_a_version := F_a_version.keep K54 (ninS ne_a_r nin0)
  replace F_a_maxRead := F_a_maxRead.keep K54 (ninS ne_a_r nin0)
  replace F_a_maxUpdate := F_a_maxUpdate.keep K54 (ninS ne_a_r nin0)
  replace F_a_ndefFile := F_a_ndefFile.keep K54 (ninS ne_a_r nin0)
  replace F_a_ndefFileSize := F_a_ndefFileSize.keep K54 (ninS ne_a_r nin0)
  replace F_a_readAccess := F_a_readAccess.keep K54 (ninS ne_a_r nin0)
  replace F_a_writeAccess := F_a_writeAccess.keep K54 (ninS ne_a_r nin0)
  replace hn0 : n0 ≤ h53.size := Nat.le_trans hn0 K54.1
  replace A_r : own_A Z h53 r .byte [.int (nar .byte (0 : Int32)), .int (nar .byte (15 : Int32)), .int (nar .byte (y0.toInt8.toInt32)), .int (nar .byte ((y1 >>> ((8 : Int32) &&& 31)).toInt8.toInt32)), .int (nar .byte (y1.toInt8.toInt32)), .int (nar .byte ((y2 >>> ((8 : Int32) &&& 31)).toInt8.toInt32)), .int (nar .byte (y2.toInt8.toInt32)), .int (nar .byte (4 : Int32)), .int (nar .byte (6 : Int32)), .int (nar .byte ((y3 >>> ((8 : Int32) &&& 31)).toInt8.toInt32)), .int (nar .byte (y3.toInt8.toInt32)), .int (nar .byte ((y4 >>> ((8 : Int32) &&& 31)).toInt8.toInt32)), .int (nar .byte (y4.toInt8.toInt32)), .int (nar .byte (y5.toInt8.toInt32)), .int (nar .byte (y6.toInt8.toInt32))] := A_new.cast rfl
  exact own_aret rfl rfl rfl d4_131 ⟨r, rfl, gt_r, (((((((((((((((((Keep.refl h0 []).ext E24).trans K26 (allS (Or.inr gt_r) all0)).trans K28 (allS (Or.inr gt_r) all0)).trans K30 (allS (Or.inr gt_r) all0)).trans K32 (allS (Or.inr gt_r) all0)).trans K34 (allS (Or.inr gt_r) all0)).trans K36 (allS (Or.inr gt_r) all0)).trans K38 (allS (Or.inr gt_r) all0)).trans K40 (allS (Or.inr gt_r) all0)).trans K42 (allS (Or.inr gt_r) all0)).trans K44 (allS (Or.inr gt_r) all0)).trans K46 (allS (Or.inr gt_r) all0)).trans K48 (allS (Or.inr gt_r) all0)).trans K50 (allS (Or.inr gt_r) all0)).trans K52 (allS (Or.inr gt_r) all0)).trans K54 (allS (Or.inr gt_r) all0)), A_r⟩
set_option maxRecDepth 65536 in
set_option maxHeartbeats 40000000 in
theorem own_twoW (l : Launch) (Z : State) (a0 : Array Value) (hw : ∀ d ∈ tables_1, d.before a0 Z = true) (a : Addr) (vs : List Value) (j p q : Int32) (h0 : Heap) (n0 : Nat) (hn0 : n0 ≤ h0.size) (A_a : own_A Z h0 a .byte vs) (hj : ¬ j < 0) (hp : vs[j.toNatClampNeg]? = some (.int p)) (hj1 : ¬ (j + 1) < 0) (hq : vs[(j + 1).toNatClampNeg]? = some (.int q)) :
    own_W l Z (⟨"com/example/fieldtap/fieldtap/type4/CapabilityContainerBytesPinLaw", "two", "([BI)I"⟩ : MethodName) method_2_code 4 (some .int) ({ frames := 0, cells := 0, slots := 0, locals := 0 } : Room) n0 (fun v h => v = some (.int (own_two p q)) ∧ h0 = h) h0 0 0 0 #[.val (.ref a), .val (.int j), .unset, .unset] [] := by
  refine own_aloadN (pc' := 1) d5_0 rfl rfl ?_
  refine own_iloadN (pc' := 2) d5_1 rfl rfl ?_
  refine own_baload (pc' := 3) (v := .int p) A_a hj hp d5_2 rfl ?_
  refine own_sipush (255 : Int32) (pc' := 6) d5_3 rfl rfl ?_
  refine own_iand (pc' := 7) d5_6 rfl ?_
  refine own_istoreN (pc' := 8) (Ls' := #[.val (.ref a), .val (.int j), .val (.int (p &&& (255 : Int32))), .unset]) d5_7 rfl rfl ?_
  refine own_aloadN (pc' := 9) d5_8 rfl rfl ?_
  refine own_iloadN (pc' := 10) d5_9 rfl rfl ?_
  refine own_iconst (1 : Int32) (pc' := 11) d5_10 rfl rfl ?_
  refine own_iadd (pc' := 12) d5_11 rfl ?_
  refine own_baload (pc' := 13) (v := .int q) A_a hj1 hq d5_12 rfl ?_
  refine own_sipush (255 : Int32) (pc' := 16) d5_13 rfl rfl ?_
  refine own_iand (pc' := 17) d5_16 rfl ?_
  refine own_istoreN (pc' := 18) (Ls' := #[.val (.ref a), .val (.int j), .val (.int (p &&& (255 : Int32))), .val (.int (q &&& (255 : Int32)))]) d5_17 rfl rfl ?_
  refine own_iloadN (pc' := 19) d5_18 rfl rfl ?_
  refine own_sipush (256 : Int32) (pc' := 22) d5_19 rfl rfl ?_
  refine own_imul (pc' := 23) d5_22 rfl ?_
  refine own_iloadN (pc' := 24) d5_23 rfl rfl ?_
  refine own_iadd (pc' := 25) d5_24 rfl ?_
  exact own_iret rfl d5_25 ⟨rfl, rfl⟩
set_option maxRecDepth 65536 in
set_option maxHeartbeats 40000000 in
theorem own_law (l : Launch) (Z : State) (a0 : Array Value) (hw : ∀ d ∈ tables_1, d.before a0 Z = true) (x0 x1 x2 x3 x4 : Int32) (x5 : Int64) (h0 : Heap) (n0 : Nat) (hn0 : n0 ≤ h0.size) :
    own_W l Z x code maxLocals ret room_1 n0 (fun v h => v = some (.int 1)) h0 0 0 0 #[.val (.int x0), .val (.int x1), .val (.int x2), .val (.int x3), .val (.int x4), .val (.long x5), .second, .unset, .unset, .unset, .unset, .unset, .unset, .unset, .unset, .unset] [] := by
  refine own_lload (pc' := 2) at_0 rfl rfl ?_
  refine own_l2i (pc' := 3) at_2 rfl ?_
  generalize hra : (x5.toInt32) = ra
  refine own_istore (pc' := 5) (Ls' := #[.val (.int x0), .val (.int x1), .val (.int x2), .val (.int x3), .val (.int x4), .val (.long x5), .second, .val (.int ra), .unset, .unset, .unset, .unset, .unset, .unset, .unset, .unset]) at_3 rfl rfl ?_
  refine own_lload (pc' := 7) at_5 rfl rfl ?_
  refine own_bipush (32 : Int32) (pc' := 9) at_7 rfl rfl ?_
  refine own_lushr (pc' := 10) at_9 rfl ?_
  refine own_l2i (pc' := 11) at_10 rfl ?_
  generalize hwa : ((XT.ushrL x5 (32 : Int32)).toInt32) = wa
  refine own_istore (pc' := 13) (Ls' := #[.val (.int x0), .val (.int x1), .val (.int x2), .val (.int x3), .val (.int x4), .val (.long x5), .second, .val (.int ra), .val (.int wa), .unset, .unset, .unset, .unset, .unset, .unset, .unset]) at_11 rfl rfl ?_
  refine own_new (pc' := 16) (hw _ (List.mem_of_getElem? (i := 0) rfl)) (hw _ (List.mem_of_getElem? (i := 1) rfl)) (hw _ (List.mem_of_getElem? (i := 2) rfl)) at_13 rfl (by decide) (by decide) (fun h55 a gt_a lt_a E56 E_a D_a => ?_)
  have ge_a : n0 ≤ a := Nat.le_trans hn0 gt_a
  replace hn0 : n0 ≤ h55.size := Nat.le_trans hn0 E56.1
  have F_a_version : Fld Z h55 a "com/example/fieldtap/fieldtap/type4/CapabilityContainer" "version" "I" (.int (0 : Int32)) := D_a (Or.inr (hw _ (List.mem_of_getElem? (i := 15) rfl))) (ty := .int) (by decide)
  have F_a_maxRead : Fld Z h55 a "com/example/fieldtap/fieldtap/type4/CapabilityContainer" "maxRead" "I" (.int (0 : Int32)) := D_a (Or.inr (hw _ (List.mem_of_getElem? (i := 17) rfl))) (ty := .int) (by decide)
  have F_a_maxUpdate : Fld Z h55 a "com/example/fieldtap/fieldtap/type4/CapabilityContainer" "maxUpdate" "I" (.int (0 : Int32)) := D_a (Or.inr (hw _ (List.mem_of_getElem? (i := 19) rfl))) (ty := .int) (by decide)
  have F_a_ndefFile : Fld Z h55 a "com/example/fieldtap/fieldtap/type4/CapabilityContainer" "ndefFile" "I" (.int (0 : Int32)) := D_a (Or.inr (hw _ (List.mem_of_getElem? (i := 21) rfl))) (ty := .int) (by decide)
  have F_a_ndefFileSize : Fld Z h55 a "com/example/fieldtap/fieldtap/type4/CapabilityContainer" "ndefFileSize" "I" (.int (0 : Int32)) := D_a (Or.inr (hw _ (List.mem_of_getElem? (i := 23) rfl))) (ty := .int) (by decide)
  have F_a_readAccess : Fld Z h55 a "com/example/fieldtap/fieldtap/type4/CapabilityContainer" "readAccess" "I" (.int (0 : Int32)) := D_a (Or.inr (hw _ (List.mem_of_getElem? (i := 25) rfl))) (ty := .int) (by decide)
  have F_a_writeAccess : Fld Z h55 a "com/example/fieldtap/fieldtap/type4/CapabilityContainer" "writeAccess" "I" (.int (0 : Int32)) := D_a (Or.inr (hw _ (List.mem_of_getElem? (i := 27) rfl))) (ty := .int) (by decide)
  refine own_dup (pc' := 17) at_16 rfl rfl ?_
  refine own_iloadN (pc' := 18) at_17 rfl rfl ?_
  refine own_iloadN (pc' := 19) at_18 rfl rfl ?_
  refine own_iloadN (pc' := 20) at_19 rfl rfl ?_
  refine own_iloadN (pc' := 21) at_20 rfl rfl ?_
  refine own_iload (pc' := 23) at_21 rfl rfl ?_
  refine own_iload (pc' := 25) at_23 rfl rfl ?_
  refine own_iload (pc' := 27) at_25 rfl rfl ?_
  refine own_special (ret' := none) (own_mk l Z a0 hw a x0 x1 x2 x3 x4 ra wa h55 n0 hn0 ge_a E_a F_a_version F_a_maxRead F_a_maxUpdate F_a_ndefFile F_a_ndefFileSize F_a_readAccess F_a_writeAccess) (hw _ (List.mem_of_getElem? (i := 3) rfl)) (hw _ (List.mem_of_getElem? (i := 4) rfl)) (hw _ (List.mem_of_getElem? (i := 2) rfl)) (hw _ (List.mem_of_getElem? (i := 5) rfl)) rfl (plainFor_of_name own_pn1) (by decide) own_pd1 rfl (argsL := [.int x0, .int x1, .int x2, .int x3, .int x4, .int ra, .int wa]) (rest := [.ref a]) rfl rfl (W := 1) (Nat.le_refl _) (by decide) (by decide) (by decide) (by decide) rfl at_27 (pc' := 30) rfl (fun v_ h57 hq => ?_)
  obtain ⟨rfl, K_1, E_1, F_0, F_1, F_2, F_3, F_4, F_5, F_6⟩ := hq
  show own_W l Z x code maxLocals ret room_1 n0 (fun v h => v = some (.int 1)) h57 1 7 30 #[.val (.int x0), .val (.int x1), .val (.int x2), .val (.int x3), .val (.int x4), .val (.long x5), .second, .val (.int ra), .val (.int wa), .unset, .unset, .unset, .unset, .unset, .unset, .unset] [.ref a]
  replace E_a := E_1
  replace F_a_version := F_0
  replace F_a_maxRead := F_1
  replace F_a_maxUpdate := F_2
  replace F_a_ndefFile := F_3
  replace F_a_ndefFileSize := F_4
  replace F_a_readAccess := F_5
  replace F_a_writeAccess := F_6
  replace hn0 : n0 ≤ h57.size := Nat.le_trans hn0 K_1.1
  refine own_astore (pc' := 32) (Ls' := #[.val (.int x0), .val (.int x1), .val (.int x2), .val (.int x3), .val (.int x4), .val (.long x5), .second, .val (.int ra), .val (.int wa), .val (.ref a), .unset, .unset, .unset, .unset, .unset, .unset]) at_30 rfl rfl ?_
  refine own_aload (pc' := 34) at_32 rfl rfl ?_
  refine own_virtual (own_bytes l Z a0 hw a x0 x1 x2 x3 x4 ra wa h57 n0 hn0 F_a_version F_a_maxRead F_a_maxUpdate F_a_ndefFile F_a_ndefFileSize F_a_readAccess F_a_writeAccess) E_a (hw _ (List.mem_of_getElem? (i := 28) rfl)) (hw _ (List.mem_of_getElem? (i := 29) rfl)) (hw _ (List.mem_of_getElem? (i := 31) rfl)) (hw _ (List.mem_of_getElem? (i := 30) rfl)) (hw _ (List.mem_of_getElem? (i := 2) rfl)) (hw _ (List.mem_of_getElem? (i := 32) rfl)) (plainFor_of_name own_pn1) (by decide) own_pd3 rfl (argsL := []) (rest := []) rfl rfl (W := 0) (Nat.le_refl _) (by decide) (by decide) (by decide) (by decide) rfl at_34 (pc' := 37) rfl (fun v_ h58 hq => ?_)
  obtain ⟨r, rfl, gt_r, K_2, A_r⟩ := hq
  show own_W l Z x code maxLocals ret room_1 n0 (fun v h => v = some (.int 1)) h58 2 22 37 #[.val (.int x0), .val (.int x1), .val (.int x2), .val (.int x3), .val (.int x4), .val (.long x5), .second, .val (.int ra), .val (.int wa), .val (.ref a), .unset, .unset, .unset, .unset, .unset, .unset] [.ref r]
  replace hn0 : n0 ≤ h58.size := Nat.le_trans hn0 K_2.1
  refine own_astore (pc' := 39) (Ls' := #[.val (.int x0), .val (.int x1), .val (.int x2), .val (.int x3), .val (.int x4), .val (.long x5), .second, .val (.int ra), .val (.int wa), .val (.ref a), .val (.ref r), .unset, .unset, .unset, .unset, .unset]) at_37 rfl rfl ?_
  refine own_aload (pc' := 41) at_39 rfl rfl ?_
  refine own_ifnull_f (pc' := 44) at_41 rfl ?_
  refine own_aload (pc' := 46) at_44 rfl rfl ?_
  refine own_len (pc' := 47) (n := (15 : Int32)) A_r rfl at_46 rfl ?_
  refine own_bipush (15 : Int32) (pc' := 49) at_47 rfl rfl ?_
  refine own_ic_eq_t (pc' := 54) at_49 rfl (by decide) (by decide) ?_
  refine own_aload (pc' := 56) at_54 rfl rfl ?_
  refine own_iconst (0 : Int32) (pc' := 57) at_56 rfl rfl ?_
  refine own_baload (pc' := 58) (v := .int (nar .byte (0 : Int32))) A_r (by decide) rfl at_57 rfl ?_
  refine own_sipush (255 : Int32) (pc' := 61) at_58 rfl rfl ?_
  refine own_iand (pc' := 62) at_61 rfl ?_
  refine own_if_ne_f (pc' := 65) at_62 (by decide) rfl ?_
  refine own_aload (pc' := 67) at_65 rfl rfl ?_
  refine own_iconst (1 : Int32) (pc' := 68) at_67 rfl rfl ?_
  refine own_baload (pc' := 69) (v := .int (nar .byte (15 : Int32))) A_r (by decide) rfl at_68 rfl ?_
  refine own_sipush (255 : Int32) (pc' := 72) at_69 rfl rfl ?_
  refine own_iand (pc' := 73) at_72 rfl ?_
  refine own_bipush (15 : Int32) (pc' := 75) at_73 rfl rfl ?_
  refine own_ic_ne_f (pc' := 78) at_75 (by decide) rfl ?_
  refine own_aload (pc' := 80) at_78 rfl rfl ?_
  refine own_iconst (2 : Int32) (pc' := 81) at_80 rfl rfl ?_
  refine own_baload (pc' := 82) (v := .int (nar .byte (x0.toInt8.toInt32))) A_r (by decide) rfl at_81 rfl ?_
  refine own_sipush (255 : Int32) (pc' := 85) at_82 rfl rfl ?_
  refine own_iand (pc' := 86) at_85 rfl ?_
  refine own_iloadN (pc' := 87) at_86 rfl rfl ?_
  refine own_sipush (255 : Int32) (pc' := 90) at_87 rfl rfl ?_
  refine own_iand (pc' := 91) at_90 rfl ?_
  refine own_ic_ne_f (pc' := 94) at_91 (own_b8 x0) rfl ?_
  refine own_iconst (1 : Int32) (pc' := 95) at_94 rfl rfl ?_
  refine own_goto (pc' := 99) at_95 (by decide) (by decide) ?_
  refine own_istore (pc' := 101) (Ls' := #[.val (.int x0), .val (.int x1), .val (.int x2), .val (.int x3), .val (.int x4), .val (.long x5), .second, .val (.int ra), .val (.int wa), .val (.ref a), .val (.ref r), .val (.int (1 : Int32)), .unset, .unset, .unset, .unset]) at_99 rfl rfl ?_
  refine own_aload (pc' := 103) at_101 rfl rfl ?_
  refine own_iconst (3 : Int32) (pc' := 104) at_103 rfl rfl ?_
  refine own_static (own_twoW l Z a0 hw r _ (3 : Int32) (nar .byte ((x1 >>> ((8 : Int32) &&& 31)).toInt8.toInt32)) (nar .byte (x1.toInt8.toInt32)) h58 n0 hn0 A_r (by decide) rfl (by decide) rfl) (hw _ (List.mem_of_getElem? (i := 34) rfl)) (hw _ (List.mem_of_getElem? (i := 35) rfl)) (hw _ (List.mem_of_getElem? (i := 36) rfl)) (hw _ (List.mem_of_getElem? (i := 37) rfl)) (plainFor_of_name own_pn0) (by decide) own_pd4 rfl (argsL := [.ref r, .int (3 : Int32)]) (rest := []) rfl rfl (W := 0) (Nat.le_refl _) (by decide) (by decide) (by decide) (by decide) rfl at_104 (pc' := 107) rfl (fun v_ h59 hq => ?_)
  obtain ⟨rfl, rfl⟩ := hq
  show own_W l Z x code maxLocals ret room_1 n0 (fun v h => v = some (.int 1)) h58 2 22 107 #[.val (.int x0), .val (.int x1), .val (.int x2), .val (.int x3), .val (.int x4), .val (.long x5), .second, .val (.int ra), .val (.int wa), .val (.ref a), .val (.ref r), .val (.int (1 : Int32)), .unset, .unset, .unset, .unset] [.int (own_two (nar .byte ((x1 >>> ((8 : Int32) &&& 31)).toInt8.toInt32)) (nar .byte (x1.toInt8.toInt32)))]
  refine own_iloadN (pc' := 108) at_107 rfl rfl ?_
  refine own_ldcI (pc' := 110) (u := (65535 : Int32)) (hw _ (List.mem_of_getElem? (i := 38) rfl)) at_108 rfl ?_
  refine own_iand (pc' := 111) at_110 rfl ?_
  refine own_ic_ne_f (pc' := 114) at_111 (own_16 x1) rfl ?_
  refine own_aload (pc' := 116) at_114 rfl rfl ?_
  refine own_iconst (5 : Int32) (pc' := 117) at_116 rfl rfl ?_
  refine own_static (own_twoW l Z a0 hw r _ (5 : Int32) (nar .byte ((x2 >>> ((8 : Int32) &&& 31)).toInt8.toInt32)) (nar .byte (x2.toInt8.toInt32)) h58 n0 hn0 A_r (by decide) rfl (by decide) rfl) (hw _ (List.mem_of_getElem? (i := 34) rfl)) (hw _ (List.mem_of_getElem? (i := 35) rfl)) (hw _ (List.mem_of_getElem? (i := 36) rfl)) (hw _ (List.mem_of_getElem? (i := 37) rfl)) (plainFor_of_name own_pn0) (by decide) own_pd4 rfl (argsL := [.ref r, .int (5 : Int32)]) (rest := []) rfl rfl (W := 0) (Nat.le_refl _) (by decide) (by decide) (by decide) (by decide) rfl at_117 (pc' := 120) rfl (fun v_ h60 hq => ?_)
  obtain ⟨rfl, rfl⟩ := hq
  show own_W l Z x code maxLocals ret room_1 n0 (fun v h => v = some (.int 1)) h58 2 22 120 #[.val (.int x0), .val (.int x1), .val (.int x2), .val (.int x3), .val (.int x4), .val (.long x5), .second, .val (.int ra), .val (.int wa), .val (.ref a), .val (.ref r), .val (.int (1 : Int32)), .unset, .unset, .unset, .unset] [.int (own_two (nar .byte ((x2 >>> ((8 : Int32) &&& 31)).toInt8.toInt32)) (nar .byte (x2.toInt8.toInt32)))]
  refine own_iloadN (pc' := 121) at_120 rfl rfl ?_
  refine own_ldcI (pc' := 123) (u := (65535 : Int32)) (hw _ (List.mem_of_getElem? (i := 38) rfl)) at_121 rfl ?_
  refine own_iand (pc' := 124) at_123 rfl ?_
  refine own_ic_ne_f (pc' := 127) at_124 (own_16 x2) rfl ?_
  refine own_iconst (1 : Int32) (pc' := 128) at_127 rfl rfl ?_
  refine own_goto (pc' := 132) at_128 (by decide) (by decide) ?_
  refine own_istore (pc' := 134) (Ls' := #[.val (.int x0), .val (.int x1), .val (.int x2), .val (.int x3), .val (.int x4), .val (.long x5), .second, .val (.int ra), .val (.int wa), .val (.ref a), .val (.ref r), .val (.int (1 : Int32)), .val (.int (1 : Int32)), .unset, .unset, .unset]) at_132 rfl rfl ?_
  refine own_aload (pc' := 136) at_134 rfl rfl ?_
  refine own_bipush (7 : Int32) (pc' := 138) at_136 rfl rfl ?_
  refine own_baload (pc' := 139) (v := .int (nar .byte (4 : Int32))) A_r (by decide) rfl at_138 rfl ?_
  refine own_sipush (255 : Int32) (pc' := 142) at_139 rfl rfl ?_
  refine own_iand (pc' := 143) at_142 rfl ?_
  refine own_iconst (4 : Int32) (pc' := 144) at_143 rfl rfl ?_
  refine own_ic_ne_f (pc' := 147) at_144 (by decide) rfl ?_
  refine own_aload (pc' := 149) at_147 rfl rfl ?_
  refine own_bipush (8 : Int32) (pc' := 151) at_149 rfl rfl ?_
  refine own_baload (pc' := 152) (v := .int (nar .byte (6 : Int32))) A_r (by decide) rfl at_151 rfl ?_
  refine own_sipush (255 : Int32) (pc' := 155) at_152 rfl rfl ?_
  refine own_iand (pc' := 156) at_155 rfl ?_
  refine own_bipush (6 : Int32) (pc' := 158) at_156 rfl rfl ?_
  refine own_ic_ne_f (pc' := 161) at_158 (by decide) rfl ?_
  refine own_iconst (1 : Int32) (pc' := 162) at_161 rfl rfl ?_
  refine own_goto (pc' := 166) at_162 (by decide) (by decide) ?_
  refine own_istore (pc' := 168) (Ls' := #[.val (.int x0), .val (.int x1), .val (.int x2), .val (.int x3), .val (.int x4), .val (.long x5), .second, .val (.int ra), .val (.int wa), .val (.ref a), .val (.ref r), .val (.int (1 : Int32)), .val (.int (1 : Int32)), .val (.int (1 : Int32)), .unset, .unset]) at_166 rfl rfl ?_
  refine own_aload (pc' := 170) at_168 rfl rfl ?_
  refine own_bipush (9 : Int32) (pc' := 172) at_170 rfl rfl ?_
  refine own_static (own_twoW l Z a0 hw r _ (9 : Int32) (nar .byte ((x3 >>> ((8 : Int32) &&& 31)).toInt8.toInt32)) (nar .byte (x3.toInt8.toInt32)) h58 n0 hn0 A_r (by decide) rfl (by decide) rfl) (hw _ (List.mem_of_getElem? (i := 34) rfl)) (hw _ (List.mem_of_getElem? (i := 35) rfl)) (hw _ (List.mem_of_getElem? (i := 36) rfl)) (hw _ (List.mem_of_getElem? (i := 37) rfl)) (plainFor_of_name own_pn0) (by decide) own_pd4 rfl (argsL := [.ref r, .int (9 : Int32)]) (rest := []) rfl rfl (W := 0) (Nat.le_refl _) (by decide) (by decide) (by decide) (by decide) rfl at_172 (pc' := 175) rfl (fun v_ h61 hq => ?_)
  obtain ⟨rfl, rfl⟩ := hq
  show own_W l Z x code maxLocals ret room_1 n0 (fun v h => v = some (.int 1)) h58 2 22 175 #[.val (.int x0), .val (.int x1), .val (.int x2), .val (.int x3), .val (.int x4), .val (.long x5), .second, .val (.int ra), .val (.int wa), .val (.ref a), .val (.ref r), .val (.int (1 : Int32)), .val (.int (1 : Int32)), .val (.int (1 : Int32)), .unset, .unset] [.int (own_two (nar .byte ((x3 >>> ((8 : Int32) &&& 31)).toInt8.toInt32)) (nar .byte (x3.toInt8.toInt32)))]
  refine own_iloadN (pc' := 176) at_175 rfl rfl ?_
  refine own_ldcI (pc' := 178) (u := (65535 : Int32)) (hw _ (List.mem_of_getElem? (i := 38) rfl)) at_176 rfl ?_
  refine own_iand (pc' := 179) at_178 rfl ?_
  refine own_ic_ne_f (pc' := 182) at_179 (own_16 x3) rfl ?_
  refine own_aload (pc' := 184) at_182 rfl rfl ?_
  refine own_bipush (11 : Int32) (pc' := 186) at_184 rfl rfl ?_
  refine own_static (own_twoW l Z a0 hw r _ (11 : Int32) (nar .byte ((x4 >>> ((8 : Int32) &&& 31)).toInt8.toInt32)) (nar .byte (x4.toInt8.toInt32)) h58 n0 hn0 A_r (by decide) rfl (by decide) rfl) (hw _ (List.mem_of_getElem? (i := 34) rfl)) (hw _ (List.mem_of_getElem? (i := 35) rfl)) (hw _ (List.mem_of_getElem? (i := 36) rfl)) (hw _ (List.mem_of_getElem? (i := 37) rfl)) (plainFor_of_name own_pn0) (by decide) own_pd4 rfl (argsL := [.ref r, .int (11 : Int32)]) (rest := []) rfl rfl (W := 0) (Nat.le_refl _) (by decide) (by decide) (by decide) (by decide) rfl at_186 (pc' := 189) rfl (fun v_ h62 hq => ?_)
  obtain ⟨rfl, rfl⟩ := hq
  show own_W l Z x code maxLocals ret room_1 n0 (fun v h => v = some (.int 1)) h58 2 22 189 #[.val (.int x0), .val (.int x1), .val (.int x2), .val (.int x3), .val (.int x4), .val (.long x5), .second, .val (.int ra), .val (.int wa), .val (.ref a), .val (.ref r), .val (.int (1 : Int32)), .val (.int (1 : Int32)), .val (.int (1 : Int32)), .unset, .unset] [.int (own_two (nar .byte ((x4 >>> ((8 : Int32) &&& 31)).toInt8.toInt32)) (nar .byte (x4.toInt8.toInt32)))]
  refine own_iload (pc' := 191) at_189 rfl rfl ?_
  refine own_ldcI (pc' := 193) (u := (65535 : Int32)) (hw _ (List.mem_of_getElem? (i := 38) rfl)) at_191 rfl ?_
  refine own_iand (pc' := 194) at_193 rfl ?_
  refine own_ic_ne_f (pc' := 197) at_194 (own_16 x4) rfl ?_
  refine own_iconst (1 : Int32) (pc' := 198) at_197 rfl rfl ?_
  refine own_goto (pc' := 202) at_198 (by decide) (by decide) ?_
  refine own_istore (pc' := 204) (Ls' := #[.val (.int x0), .val (.int x1), .val (.int x2), .val (.int x3), .val (.int x4), .val (.long x5), .second, .val (.int ra), .val (.int wa), .val (.ref a), .val (.ref r), .val (.int (1 : Int32)), .val (.int (1 : Int32)), .val (.int (1 : Int32)), .val (.int (1 : Int32)), .unset]) at_202 rfl rfl ?_
  refine own_aload (pc' := 206) at_204 rfl rfl ?_
  refine own_bipush (13 : Int32) (pc' := 208) at_206 rfl rfl ?_
  refine own_baload (pc' := 209) (v := .int (nar .byte (ra.toInt8.toInt32))) A_r (by decide) rfl at_208 rfl ?_
  refine own_sipush (255 : Int32) (pc' := 212) at_209 rfl rfl ?_
  refine own_iand (pc' := 213) at_212 rfl ?_
  refine own_iload (pc' := 215) at_213 rfl rfl ?_
  refine own_sipush (255 : Int32) (pc' := 218) at_215 rfl rfl ?_
  refine own_iand (pc' := 219) at_218 rfl ?_
  refine own_ic_ne_f (pc' := 222) at_219 (own_b8 ra) rfl ?_
  refine own_aload (pc' := 224) at_222 rfl rfl ?_
  refine own_bipush (14 : Int32) (pc' := 226) at_224 rfl rfl ?_
  refine own_baload (pc' := 227) (v := .int (nar .byte (wa.toInt8.toInt32))) A_r (by decide) rfl at_226 rfl ?_
  refine own_sipush (255 : Int32) (pc' := 230) at_227 rfl rfl ?_
  refine own_iand (pc' := 231) at_230 rfl ?_
  refine own_iload (pc' := 233) at_231 rfl rfl ?_
  refine own_sipush (255 : Int32) (pc' := 236) at_233 rfl rfl ?_
  refine own_iand (pc' := 237) at_236 rfl ?_
  refine own_ic_ne_f (pc' := 240) at_237 (own_b8 wa) rfl ?_
  refine own_iconst (1 : Int32) (pc' := 241) at_240 rfl rfl ?_
  refine own_goto (pc' := 245) at_241 (by decide) (by decide) ?_
  refine own_istore (pc' := 247) (Ls' := #[.val (.int x0), .val (.int x1), .val (.int x2), .val (.int x3), .val (.int x4), .val (.long x5), .second, .val (.int ra), .val (.int wa), .val (.ref a), .val (.ref r), .val (.int (1 : Int32)), .val (.int (1 : Int32)), .val (.int (1 : Int32)), .val (.int (1 : Int32)), .val (.int (1 : Int32))]) at_245 rfl rfl ?_
  refine own_iload (pc' := 249) at_247 rfl rfl ?_
  refine own_if_eq_f (pc' := 252) at_249 (by decide) rfl ?_
  refine own_iload (pc' := 254) at_252 rfl rfl ?_
  refine own_if_eq_f (pc' := 257) at_254 (by decide) rfl ?_
  refine own_iload (pc' := 259) at_257 rfl rfl ?_
  refine own_if_eq_f (pc' := 262) at_259 (by decide) rfl ?_
  refine own_iload (pc' := 264) at_262 rfl rfl ?_
  refine own_if_eq_f (pc' := 267) at_264 (by decide) rfl ?_
  refine own_iload (pc' := 269) at_267 rfl rfl ?_
  refine own_if_eq_f (pc' := 272) at_269 (by decide) rfl ?_
  refine own_iconst (1 : Int32) (pc' := 273) at_272 rfl rfl ?_
  refine own_goto (pc' := 277) at_273 (by decide) (by decide) ?_
  exact own_bret (v := (1 : Int32)) rfl (by first | rfl | decide | assumption) at_277 rfl
set_option maxRecDepth 65536 in
set_option maxHeartbeats 40000000 in
theorem comes_1 {Post : Tables → Env → Array Value → State → Outcome → State → Prop} (hpost : ∀ tb e args s v u, (limb_1_1.after args s (.returned v) u = true ∧ limb_1_2.after args s (.returned v) u = true ∧ True) → FrameEnd s (.returned v) u (Jvm.fieldLocs frame_1_writes args s ++ Jvm.arrayLocs frame_1_arrays args s ++ Jvm.staticLocs frame_1_statics s) 16 128 → Post tb e args s (.returned v) u) :
    ArmFor flags0 classFile x code maxLocals ret World_1 tables_1 room_1 Calls_1 rest_1 Pre_1 Post := by
  intro l hfl _ _ p e ha hc hk s m args below hf hA hF happ hP
  obtain ⟨hcalls, hrest, hpre⟩ := hP
  obtain ⟨-, -, -, hnamed, -, -, -, hat⟩ := (Spec.applies_iff hf).mp happ
  obtain ⟨hg, hn⟩ := and_e (Cond.before_iff.mp (show (Jvm.Cond.and given_1 narrow_1).before args s = true from hpre))
  obtain ⟨hcount, hg0⟩ := and_e hg
  obtain ⟨w0, w1, w2, w3, w4, w5, rfl⟩ : ∃ w0 w1 w2 w3 w4 w5 : Value, args = #[w0, w1, w2, w3, w4, w5] := by
    have hs : args.size = 6 := by simpa [Cond.value, given_1] using hcount
    obtain ⟨L⟩ := args
    match L, hs with
    | [w0, w1, w2, w3, w4, w5], _ => exact ⟨w0, w1, w2, w3, w4, w5, rfl⟩
  have hw := fun d (hd : d ∈ tables_1) => atoms_spec (ws := Jvm.Cond.code x code maxLocals ret :: tables_1) hat d (List.mem_cons_of_mem _ hd)
  obtain ⟨hg0v, hg1⟩ := and_e hg0
  obtain ⟨x0, e0⟩ := is_v hg0v
  obtain rfl : w0 = (.int x0) := Option.some.inj e0
  obtain ⟨hg1v, hg2⟩ := and_e hg1
  obtain ⟨x1, e1⟩ := is_v hg1v
  obtain rfl : w1 = (.int x1) := Option.some.inj e1
  obtain ⟨hg2v, hg3⟩ := and_e hg2
  obtain ⟨x2, e2⟩ := is_v hg2v
  obtain rfl : w2 = (.int x2) := Option.some.inj e2
  obtain ⟨hg3v, hg4⟩ := and_e hg3
  obtain ⟨x3, e3⟩ := is_v hg3v
  obtain rfl : w3 = (.int x3) := Option.some.inj e3
  obtain ⟨hg4v, hg5⟩ := and_e hg4
  obtain ⟨x4, e4⟩ := is_v hg4v
  obtain rfl : w4 = (.int x4) := Option.some.inj e4
  obtain ⟨x5, e5⟩ := isL_v hg5
  obtain rfl : w5 = (.long x5) := Option.some.inj e5
  obtain ⟨n, o, h1, h2, h3, _, L, rfl, ⟨hq1, N⟩, hq⟩ := own_met (argsL := [.int x0, .int x1, .int x2, .int x3, .int x4, .long x5]) (own_law l s _ hw x0 x1 x2 x3 x4 x5 s.heap s.heap.size (Nat.le_refl _)) (plainFor_of_name own_pn0) rfl tables_1 p e ha hc hk s m _ below hf ((Spec.applies_iff_loose hf).mp happ).1 ⟨rfl, State.Warmed39.refl s, rfl⟩ trivial
  subst hq1
  refine ⟨n, _, h1, h2, h3, hpost _ _ _ _ _ _ ⟨Cond.after_iff.mpr rfl, Cond.after_iff.mpr (eq_i res_at (Term.int_eval (1)) rfl), trivial⟩ ⟨hq.1, hq.2.1, (hq.2.2.sift fun y hy => Or.inr (N y hy)).mono (by decide) (by decide)⟩⟩
theorem main_1_1 : Claimed_1_1 := comes_1 fun _ _ _ _ _ _ h hF => ⟨h.1, hF⟩
theorem main_1_2 : Claimed_1_2 := comes_1 fun _ _ _ _ _ _ h hF => ⟨h.2.1, hF⟩
end Jvm.Pilot.@@N@@
namespace Jvm.Pilot.@@N@@
open Jvm Jvm.ClassFile Sem Op Lib Jvm.Free Jvm.Stand Jvm.Pilot.@@N@@.Jvm.D
/-! MADE BY PROGRAM (witnessworld.py) out of the Statement's table words and the real class files: 10 classes; the members and pool entries that the words name. The judged class is class 1, her method 2. -/
namespace start1
open Jvm.ClassFile
def u (s : String) : CpInfo := .utf8 (stringToUtf16 s)
/-- a pool by its gaps: so many unusable entries, then the entry; so many at the end -/
def gap : Nat → List CpInfo → List CpInfo
  | 0, r => r
  | n + 1, r => .unusable :: gap n r
def poolList (es : List (Nat × CpInfo)) (last : Nat) : List CpInfo := es.foldr (fun e r => gap e.1 (e.2 :: r)) (gap last [])
def pool (es : List (Nat × CpInfo)) (last : Nat) : Array CpInfo := ⟨poolList es last⟩
def fileOf (pool : Array CpInfo) (this : Nat) (attrs : Array Attribute := #[]) (ms : Array MethodInfo := #[]) (fl : Nat := 33) (sup : Nat := 0) (ifs : Array Nat := #[]) (fds : Array FieldInfo := #[]) : ClassFile where
  minorVersion := 0
  majorVersion := 65
  constantPool := pool
  accessFlags := fl
  thisClass := this
  superClass := sup
  interfaces := ifs
  fields := fds
  methods := ms
  attributes := attrs
def plain (name : String) (sup : Option ClassId) : Class where
  name := name
  kind := .ordinary
  loader := none
  accessFlags := 33
  super := sup
  interfaces := #[]
  cf := none
  fields := #[]
  methods := #[]
  instanceTypes := #[]
  staticTypes := #[]
  resolved := #[]
  callSites := []
  init := .initialized
  statics := none
  mirror := none

def pool0 : Array CpInfo := pool [(5, u "<init>"), (0, u "()V"), (1, .class_ 10), (1, u "java/lang/Object")] 113

def k0c0 : Code := { maxStack := 0, maxLocals := 1, code := object_method_1_code, exceptionTable := #[], attributes := #[] }
def k0m0 : Method := { name := "<init>", desc := "()V", sig := { parameters := [], returnType := none }, accessFlags := 1, code := some k0c0 }
/-- java/lang/Object -/
def k0 : Class := { plain "java/lang/Object" none with
  accessFlags := 33
  interfaces := #[]
  cf := some (fileOf pool0 8 #[] #[{ accessFlags := 1, nameIndex := 5, descriptorIndex := 6, attributes := #[] }] 33 0 #[] #[])
  fields := #[]
  methods := #[k0m0]
  instanceTypes := #[]
  staticTypes := #[]
  resolved := Array.replicate 124 none
  statics := none }

def pool1 : Array CpInfo := pool [(2, .class_ 4), (1, u "java/lang/Object"), (0, u "<init>"), (0, u "()V"), (0, .class_ 8), (0, u "com/example/fieldtap/fieldtap/type4/CapabilityContainer"), (0, .methodref 7 10), (0, .nameAndType 5 11), (0, u "(IIIIIII)V"), (0, .methodref 7 13), (0, .nameAndType 14 15), (0, u "bytes"), (0, u "()[B"), (0, .methodref 17 18), (0, .class_ 19), (0, .nameAndType 20 21), (0, u "com/example/fieldtap/fieldtap/type4/CapabilityContainerBytesPinLaw"), (0, u "two"), (0, u "([BI)I"), (0, .integer 65535), (2, u "law"), (0, u "(IIIIIJ)Z")] 5

def k1m0 : Method := { name := "<init>", desc := "()V", sig := { parameters := [], returnType := none }, accessFlags := 2, code := none }
def k1c1 : Code := { maxStack := 3, maxLocals := 4, code := method_2_code, exceptionTable := #[], attributes := #[] }
def k1m1 : Method := { name := "two", desc := "([BI)I", sig := { parameters := [(.array .byte), .int], returnType := some .int }, accessFlags := 10, code := some k1c1 }
def k1c2 : Code := { maxStack := 9, maxLocals := 16, code := code, exceptionTable := #[], attributes := #[] }
def k1m2 : Method := { name := "law", desc := "(IIIIIJ)Z", sig := { parameters := [.int, .int, .int, .int, .int, .long], returnType := some .boolean }, accessFlags := 9, code := some k1c2 }
/-- com/example/fieldtap/fieldtap/type4/CapabilityContainerBytesPinLaw -/
def k1 : Class := { plain "com/example/fieldtap/fieldtap/type4/CapabilityContainerBytesPinLaw" (some 0) with
  accessFlags := 49
  interfaces := #[]
  cf := some (fileOf pool1 17 #[] #[{ accessFlags := 2, nameIndex := 5, descriptorIndex := 6, attributes := #[] }, { accessFlags := 10, nameIndex := 20, descriptorIndex := 21, attributes := #[] }, { accessFlags := 9, nameIndex := 25, descriptorIndex := 26, attributes := #[] }] 49 2 #[] #[])
  fields := #[]
  methods := #[k1m0, k1m1, k1m2]
  instanceTypes := #[]
  staticTypes := #[]
  resolved := Array.replicate 32 none
  statics := none }

def pool2 : Array CpInfo := pool [(1, .methodref 2 3), (0, .class_ 4), (0, .nameAndType 5 6), (0, u "java/lang/Object"), (0, u "<init>"), (0, u "()V"), (0, .class_ 8), (0, u "java/lang/Record")] 13

def k2c0 : Code := { maxStack := 1, maxLocals := 1, code := jdk_30_method_1_code, exceptionTable := #[], attributes := #[] }
def k2m0 : Method := { name := "<init>", desc := "()V", sig := { parameters := [], returnType := none }, accessFlags := 4, code := some k2c0 }
/-- java/lang/Record -/
def k2 : Class := { plain "java/lang/Record" (some 0) with
  accessFlags := 1057
  interfaces := #[]
  cf := some (fileOf pool2 7 #[] #[{ accessFlags := 4, nameIndex := 5, descriptorIndex := 6, attributes := #[] }] 1057 2 #[] #[])
  fields := #[]
  methods := #[k2m0]
  instanceTypes := #[]
  staticTypes := #[]
  resolved := Array.replicate 22 none
  statics := none }

def pool3 : Array CpInfo := pool [(1, .methodref 2 3), (0, .class_ 4), (0, .nameAndType 5 6), (0, u "java/lang/Record"), (0, u "<init>"), (0, u "()V"), (0, .fieldref 8 9), (0, .class_ 10), (0, .nameAndType 11 12), (0, u "com/example/fieldtap/fieldtap/type4/CapabilityContainer"), (0, u "version"), (0, u "I"), (0, .fieldref 8 14), (0, .nameAndType 15 12), (0, u "maxRead"), (0, .fieldref 8 17), (0, .nameAndType 18 12), (0, u "maxUpdate"), (0, .fieldref 8 20), (0, .nameAndType 21 12), (0, u "ndefFile"), (0, .fieldref 8 23), (0, .nameAndType 24 12), (0, u "ndefFileSize"), (0, .fieldref 8 26), (0, .nameAndType 27 12), (0, u "readAccess"), (0, .fieldref 8 29), (0, .nameAndType 30 12), (0, u "writeAccess"), (15, u "(IIIIIII)V"), (29, u "RESERVED_FILES"), (0, u "Ljava/util/Set;"), (38, u "LENGTH"), (2, u "GRANTED"), (1, u "DENIED"), (1, u "MAJOR_VERSION"), (1, u "MIN_MAX_READ"), (0, u "NDEF_FILE_CONTROL_TAG"), (1, u "NDEF_FILE_CONTROL_LENGTH"), (3, u "MIN_FILE_SIZE"), (1, u "MAX_FILE_SIZE"), (7, u "bytes"), (0, u "()[B")] 39

def k3c0 : Code := { maxStack := 2, maxLocals := 8, code := prog_112_method_1_code, exceptionTable := #[], attributes := #[] }
def k3m0 : Method := { name := "<init>", desc := "(IIIIIII)V", sig := { parameters := [.int, .int, .int, .int, .int, .int, .int], returnType := none }, accessFlags := 0, code := some k3c0 }
def k3c1 : Code := { maxStack := 5, maxLocals := 1, code := prog_112_method_3_code, exceptionTable := #[], attributes := #[] }
def k3m1 : Method := { name := "bytes", desc := "()[B", sig := { parameters := [], returnType := some (.array .byte) }, accessFlags := 0, code := some k3c1 }
/-- com/example/fieldtap/fieldtap/type4/CapabilityContainer -/
def k3 : Class := { plain "com/example/fieldtap/fieldtap/type4/CapabilityContainer" (some 2) with
  accessFlags := 48
  interfaces := #[]
  cf := some (fileOf pool3 8 #[] #[{ accessFlags := 0, nameIndex := 5, descriptorIndex := 46, attributes := #[] }, { accessFlags := 0, nameIndex := 142, descriptorIndex := 143, attributes := #[] }] 48 2 #[] #[{ accessFlags := 18, nameIndex := 11, descriptorIndex := 12, attributes := #[] }, { accessFlags := 18, nameIndex := 15, descriptorIndex := 12, attributes := #[] }, { accessFlags := 18, nameIndex := 18, descriptorIndex := 12, attributes := #[] }, { accessFlags := 18, nameIndex := 21, descriptorIndex := 12, attributes := #[] }, { accessFlags := 18, nameIndex := 24, descriptorIndex := 12, attributes := #[] }, { accessFlags := 18, nameIndex := 27, descriptorIndex := 12, attributes := #[] }, { accessFlags := 18, nameIndex := 30, descriptorIndex := 12, attributes := #[] }, { accessFlags := 24, nameIndex := 116, descriptorIndex := 12, attributes := #[] }, { accessFlags := 24, nameIndex := 119, descriptorIndex := 12, attributes := #[] }, { accessFlags := 24, nameIndex := 121, descriptorIndex := 12, attributes := #[] }, { accessFlags := 26, nameIndex := 123, descriptorIndex := 12, attributes := #[] }, { accessFlags := 26, nameIndex := 125, descriptorIndex := 12, attributes := #[] }, { accessFlags := 26, nameIndex := 126, descriptorIndex := 12, attributes := #[] }, { accessFlags := 26, nameIndex := 128, descriptorIndex := 12, attributes := #[] }, { accessFlags := 26, nameIndex := 76, descriptorIndex := 77, attributes := #[] }, { accessFlags := 26, nameIndex := 132, descriptorIndex := 12, attributes := #[] }, { accessFlags := 26, nameIndex := 134, descriptorIndex := 12, attributes := #[] }])
  fields := #[{ name := "version", type := .int, accessFlags := 18, slot := 0, constantValue := 0 }, { name := "maxRead", type := .int, accessFlags := 18, slot := 1, constantValue := 0 }, { name := "maxUpdate", type := .int, accessFlags := 18, slot := 2, constantValue := 0 }, { name := "ndefFile", type := .int, accessFlags := 18, slot := 3, constantValue := 0 }, { name := "ndefFileSize", type := .int, accessFlags := 18, slot := 4, constantValue := 0 }, { name := "readAccess", type := .int, accessFlags := 18, slot := 5, constantValue := 0 }, { name := "writeAccess", type := .int, accessFlags := 18, slot := 6, constantValue := 0 }, { name := "LENGTH", type := .int, accessFlags := 24, slot := 0, constantValue := 0 }, { name := "GRANTED", type := .int, accessFlags := 24, slot := 1, constantValue := 0 }, { name := "DENIED", type := .int, accessFlags := 24, slot := 2, constantValue := 0 }, { name := "MAJOR_VERSION", type := .int, accessFlags := 26, slot := 3, constantValue := 0 }, { name := "MIN_MAX_READ", type := .int, accessFlags := 26, slot := 4, constantValue := 0 }, { name := "NDEF_FILE_CONTROL_TAG", type := .int, accessFlags := 26, slot := 5, constantValue := 0 }, { name := "NDEF_FILE_CONTROL_LENGTH", type := .int, accessFlags := 26, slot := 6, constantValue := 0 }, { name := "RESERVED_FILES", type := (.object "java/util/Set"), accessFlags := 26, slot := 7, constantValue := 0 }, { name := "MIN_FILE_SIZE", type := .int, accessFlags := 26, slot := 8, constantValue := 0 }, { name := "MAX_FILE_SIZE", type := .int, accessFlags := 26, slot := 9, constantValue := 0 }]
  methods := #[k3m0, k3m1]
  instanceTypes := #[.int, .int, .int, .int, .int, .int, .int]
  staticTypes := #[.int, .int, .int, .int, .int, .int, .int, (.object "java/util/Set"), .int, .int]
  resolved := Array.replicate 183 none
  statics := none }

def pool4 : Array CpInfo := pool [(1, u "java/lang/Cloneable"), (0, .class_ 1), (0, u "java/lang/Object"), (0, .class_ 3)] 3

/-- java/lang/Cloneable -/
def k4 : Class := { plain "java/lang/Cloneable" (some 0) with
  accessFlags := 1537
  interfaces := #[]
  cf := some (fileOf pool4 2 #[] #[] 1537 4 #[] #[])
  fields := #[]
  methods := #[]
  instanceTypes := #[]
  staticTypes := #[]
  resolved := Array.replicate 8 none
  statics := none }

def pool5 : Array CpInfo := pool [(1, u "java/io/Serializable"), (0, .class_ 1), (0, u "java/lang/Object"), (0, .class_ 3)] 3

/-- java/io/Serializable -/
def k5 : Class := { plain "java/io/Serializable" (some 0) with
  accessFlags := 1537
  interfaces := #[]
  cf := some (fileOf pool5 2 #[] #[] 1537 4 #[] #[])
  fields := #[]
  methods := #[]
  instanceTypes := #[]
  staticTypes := #[]
  resolved := Array.replicate 8 none
  statics := none }

/-- the primitive byte -/
def k6 : Class := { plain "byte" none with kind := .primitive 'B', accessFlags := 0x411 }
/-- [B -/
def k7 : Class := { plain "[B" (some 0) with kind := .array 6 .byte, interfaces := #[4, 5], accessFlags := 1041 }

/-- the primitive int -/
def k8 : Class := { plain "int" none with kind := .primitive 'I', accessFlags := 0x411 }
/-- [I -/
def k9 : Class := { plain "[I" (some 0) with kind := .array 8 .int, interfaces := #[4, 5], accessFlags := 1041 }

def heap : Heap := #[]
def classes : Array Class := #[k0, k1, k2, k3, k4, k5, k6, k7, k8, k9]
def interned : List (Array UInt16 × Addr) := []
def slotsUsed : Nat := 0
def theMethod : MethodId := ⟨1, 2⟩
def args0 : Array Value := #[.int 5, .int 5, .int 5, .int 5, .int 5, .long 7]
def aboutOver (below : List Frame) : State where
  vm := { classes := classes, interned := interned.toArray }
  heap := heap
  slotsUsed := slotsUsed
  threads := #[{ frames := .invoking theMethod args0 :: below }]
def below0 : List Frame := [.native { method := ⟨0, 0⟩, args := #[] }]
def about1 : State := aboutOver below0
def p0 : Program := .bare "" "" ""
def e0 : Env := launch0.env 0 0 0
theorem w_frames : about1.frames = Frame.invoking theMethod args0 :: below0 := rfl
set_option maxRecDepth 65536 in
theorem w_args : argsFit about1.vm theMethod args0 = true := by decide +kernel
set_option maxRecDepth 65536 in
theorem w_heap : heapFits about1 = true := by decide +kernel
set_option maxRecDepth 65536 in
theorem w_runnable : about1.curStatus? = some .runnable := by decide +kernel
set_option maxRecDepth 65536 in
theorem w_alone : about1.alone = true := by decide +kernel
set_option maxRecDepth 65536 in
theorem w_named : about1.methodNamed? x = some theMethod := by decide +kernel
set_option maxRecDepth 65536 in
theorem w_hears : about1.hears theMethod below0 = true := by decide +kernel
set_option maxRecDepth 65536 in
theorem w_ripe : about1.ripe theMethod args0 below0 = true := by decide +kernel
theorem w_running : about1.status = .running := rfl
set_option maxRecDepth 65536 in
theorem w_room : about1.hasRoom e0.platform room_1 = true :=
  launch0.hasRoom_least _ room_1 (by decide +kernel) (by decide +kernel) (by decide +kernel) (by decide +kernel) (by decide +kernel) (by decide +kernel)
theorem allAtoms_all (ts : List Jvm.Cond) (a : Array Jvm.Value) (st : Jvm.State) : (allAtoms ts).before a st = ts.all (fun c => c.before a st) := by
  induction ts with
  | nil => rfl
  | cons c t ih =>
    show (Jvm.Cond.and c (allAtoms t)).before a st = _
    rw [Jvm.Cond.before_and, ih, List.all_cons]
def words1 : List Jvm.Cond := Jvm.Cond.code x code maxLocals ret :: tables_1
/-- a 'code' word, met by the world's own term for the bytes: nothing is compared byte by byte -/
theorem code_word {y : MethodName} {bytes : ByteArray} {mx : Nat} {rt : Option FieldType} {a : Array Value} {s : State} {m : MethodId} {meth : Method} {c : Code} (h1 : s.methodNamed? y = some m) (h2 : s.vm.method? m = some meth) (h3 : meth.code = some c) (h4 : c.code = bytes)
    (h5 : (c.maxLocals == mx && c.exceptionTable.isEmpty && decide (c.maxStack ≤ mostOperands) && decide (meth.sig.returnType = rt) && !meth.locks && decide (parseMethodDescriptor y.desc = some meth.sig)) = true) : (Jvm.Cond.code y bytes mx rt).before a s = true := by
  simp only [Bool.and_eq_true, beq_iff_eq, Bool.not_eq_true', decide_eq_true_eq] at h5
  obtain ⟨⟨⟨⟨⟨g1, g2⟩, g3⟩, g4⟩, g5⟩, g6⟩ := h5
  simp [Cond.before, Cond.holds, Cond.value, h1, h2, h3, h4, g1, g2, g3, g4, g5, g6]
def isCode : Jvm.Cond → Bool
  | .code _ _ _ _ => true
  | _ => false
theorem all_split {L : List Jvm.Cond} {P : Jvm.Cond → Bool} (h1 : L.all (fun c => isCode c || P c) = true) (h2 : ∀ c ∈ L.filter isCode, P c = true) : L.all P = true := by
  refine List.all_eq_true.mpr fun c hc => ?_
  have h := List.all_eq_true.mp h1 c hc
  rcases Bool.eq_false_or_eq_true (isCode c) with hi | hi
  · exact h2 c (List.mem_filter.mpr ⟨hc, hi⟩)
  · simpa [hi] using h
set_option maxRecDepth 65536 in
theorem w_c0 : (Jvm.Cond.code x code maxLocals ret).before args0 about1 = true := code_word (m := ⟨1, 2⟩) (meth := k1m2) (c := k1c2) (by decide +kernel) rfl rfl rfl (by decide +kernel)
set_option maxRecDepth 65536 in
theorem w_c1 : (Jvm.Cond.code ({ cls := "com/example/fieldtap/fieldtap/type4/CapabilityContainer", name := "<init>", desc := "(IIIIIII)V" } : Jvm.MethodName) prog_112_method_1_code (8 : Nat) (Option.none : Option Jvm.ClassFile.FieldType)).before args0 about1 = true := code_word (m := ⟨3, 0⟩) (meth := k3m0) (c := k3c0) (by decide +kernel) rfl rfl rfl (by decide +kernel)
set_option maxRecDepth 65536 in
theorem w_c2 : (Jvm.Cond.code ({ cls := "java/lang/Record", name := "<init>", desc := "()V" } : Jvm.MethodName) jdk_30_method_1_code (1 : Nat) (Option.none : Option Jvm.ClassFile.FieldType)).before args0 about1 = true := code_word (m := ⟨2, 0⟩) (meth := k2m0) (c := k2c0) (by decide +kernel) rfl rfl rfl (by decide +kernel)
set_option maxRecDepth 65536 in
theorem w_c3 : (Jvm.Cond.code ({ cls := "java/lang/Object", name := "<init>", desc := "()V" } : Jvm.MethodName) object_method_1_code (1 : Nat) (Option.none : Option Jvm.ClassFile.FieldType)).before args0 about1 = true := code_word (m := ⟨0, 0⟩) (meth := k0m0) (c := k0c0) (by decide +kernel) rfl rfl rfl (by decide +kernel)
set_option maxRecDepth 65536 in
theorem w_c4 : (Jvm.Cond.code ({ cls := "com/example/fieldtap/fieldtap/type4/CapabilityContainer", name := "bytes", desc := "()[B" } : Jvm.MethodName) prog_112_method_3_code (1 : Nat) (Option.some (Jvm.ClassFile.FieldType.array Jvm.ClassFile.FieldType.byte))).before args0 about1 = true := code_word (m := ⟨3, 1⟩) (meth := k3m1) (c := k3c1) (by decide +kernel) rfl rfl rfl (by decide +kernel)
set_option maxRecDepth 65536 in
theorem w_c5 : (Jvm.Cond.code ({ cls := "com/example/fieldtap/fieldtap/type4/CapabilityContainerBytesPinLaw", name := "two", desc := "([BI)I" } : Jvm.MethodName) method_2_code (4 : Nat) (Option.some Jvm.ClassFile.FieldType.int)).before args0 about1 = true := code_word (m := ⟨1, 1⟩) (meth := k1m1) (c := k1c1) (by decide +kernel) rfl rfl rfl (by decide +kernel)
def codes1 : List Jvm.Cond := [Jvm.Cond.code x code maxLocals ret, Jvm.Cond.code ({ cls := "com/example/fieldtap/fieldtap/type4/CapabilityContainer", name := "<init>", desc := "(IIIIIII)V" } : Jvm.MethodName) prog_112_method_1_code (8 : Nat) (Option.none : Option Jvm.ClassFile.FieldType), Jvm.Cond.code ({ cls := "java/lang/Record", name := "<init>", desc := "()V" } : Jvm.MethodName) jdk_30_method_1_code (1 : Nat) (Option.none : Option Jvm.ClassFile.FieldType), Jvm.Cond.code ({ cls := "java/lang/Object", name := "<init>", desc := "()V" } : Jvm.MethodName) object_method_1_code (1 : Nat) (Option.none : Option Jvm.ClassFile.FieldType), Jvm.Cond.code ({ cls := "com/example/fieldtap/fieldtap/type4/CapabilityContainer", name := "bytes", desc := "()[B" } : Jvm.MethodName) prog_112_method_3_code (1 : Nat) (Option.some (Jvm.ClassFile.FieldType.array Jvm.ClassFile.FieldType.byte)), Jvm.Cond.code ({ cls := "com/example/fieldtap/fieldtap/type4/CapabilityContainerBytesPinLaw", name := "two", desc := "([BI)I" } : Jvm.MethodName) method_2_code (4 : Nat) (Option.some Jvm.ClassFile.FieldType.int)]
set_option maxRecDepth 65536 in
theorem codes_eq : words1.filter isCode = codes1 := rfl
theorem w_codes : ∀ c ∈ words1.filter isCode, c.before args0 about1 = true := by
  rw [codes_eq]
  intro c hc
  simp only [codes1, List.mem_cons, List.not_mem_nil, or_false] at hc
  rcases hc with rfl | rfl | rfl | rfl | rfl | rfl
  · exact w_c0
  · exact w_c1
  · exact w_c2
  · exact w_c3
  · exact w_c4
  · exact w_c5
set_option maxRecDepth 65536 in
theorem w_t1 : (words1.take 24).all (fun c => isCode c || c.before args0 about1) = true := by decide +kernel
set_option maxRecDepth 65536 in
theorem w_t2 : (words1.drop 24).all (fun c => isCode c || c.before args0 about1) = true := by decide +kernel
theorem w_tables : (allAtoms (Jvm.Cond.code x code maxLocals ret :: tables_1)).before args0 about1 = true := by
  rw [allAtoms_all]
  show words1.all (fun c => c.before args0 about1) = true
  refine all_split ?_ w_codes
  rw [← List.take_append_drop 24 words1, List.all_append, w_t1, w_t2]
  rfl
set_option maxRecDepth 65536 in
theorem w_case : (Jvm.Cond.and given_1 narrow_1).before args0 about1 = true := by decide +kernel
theorem w_applies : (headSpec (Jvm.Cond.code x code maxLocals ret :: tables_1) room_1).applies x e0.platform about1 = true :=
  (Spec.applies_iff w_frames).mpr ⟨w_running, w_runnable, w_alone, w_named, w_hears, w_ripe, w_room, w_tables⟩
theorem atStart : AtStart classFile x code maxLocals ret World_1 tables_1 room_1 Calls_1 rest_1 Pre_1 launch0 p0 e0 about1 theMethod args0 below0 :=
  ⟨lists_1, trivial, launch0.admits_env _ _ _, launch0.least_env, fairChoices_fair.cas, fairChoices_fair.clock, w_frames, w_args, w_heap, w_applies, trivial, trivial, w_case⟩
end start1
theorem witness_1 : WitnessClaimed_1 := ⟨start1.p0, start1.e0, start1.about1, start1.theMethod, start1.args0, start1.below0, start1.atStart⟩
end Jvm.Pilot.@@N@@

import JvmDerived
import JvmDerived.Pilot.@@N@@Statement
import JvmDerived.Pilot.@@N@@Code
set_option linter.unusedVariables false
set_option linter.unusedSimpArgs false
namespace Jvm.Pilot.@@N@@
open Jvm Jvm.ClassFile Sem Op Lib Jvm.Free Jvm.Stand Jvm.LawKit Jvm.RoadKit Bundle Jvm.Pilot.@@N@@.Jvm.D
-- LAYER BEGIN
section OwnW
variable {l : Launch} {Z : State} {y : MethodName} {bytes : ByteArray} {ml : Nat} {ret : Option FieldType} {R : Room} {n0 : Nat} {Q : Option Value → Heap → Prop} {h : Heap} {cells slots pc pc' : Nat} {Ls Ls' : Array Slot} {st st' : List Value} {a0 : Array Value}
/-- from this point of the body (heap h, so many cells and slots made, at pc with these locals and this stack) every run returns; Q holds of the value and the heap; all that was written lies at or above n0 -/
def own_W (l : Launch) (Z : State) (y : MethodName) (bytes : ByteArray) (ml : Nat) (ret : Option FieldType) (R : Room) (n0 : Nat) (Q : Option Value → Heap → Prop) (h : Heap) (cells slots pc : Nat) (Ls : Array Slot) (st : List Value) : Prop :=
  ∀ (p : Program) (e : Env) (s : State) (m : MethodId) (args : Array Value) (below : List Frame) (meth : Method) (c : Code) (T : State) (locs : List Loc),
    p.tables.exec = Jvm.exec → Z.Warmed39 s.vm → s.vm.findClass y.cls = some m.cls → c.code = bytes → c.maxLocals = ml → meth.sig.returnType = ret → meth.locks = false → meth.name = y.name → cells ≤ R.cells → slots ≤ R.slots →
    Stand p l e R s m args below meth c T locs cells slots → T.heap = h → Fr n0 locs →
    ∃ s₂ o, Steps p.tables e below (T.setTop (mkF m pc Ls st)) s₂ ∧ s₂.status = .running ∧ Ended s₂ below o ∧ ∃ v L, o = .returned v ∧ (Q v s₂.heap ∧ Fr n0 L) ∧ FrameEnd s o s₂ L R.cells R.slots
theorem own_pure (hs : ∀ (p : Program) (e : Env) (below : List Frame) (T target : State) (m : MethodId) (c : Code), At T m c below → p.tables.exec = Jvm.exec → c.code = bytes → Steps p.tables e below (T.setTop (mkF m pc' Ls' st')) target → Steps p.tables e below (T.setTop (mkF m pc Ls st)) target)
    (k : own_W l Z y bytes ml ret R n0 Q h cells slots pc' Ls' st') : own_W l Z y bytes ml ret R n0 Q h cells slots pc Ls st := by
  intro p e s m args below meth c T locs hx hZ hown hby hml hret hlk hnm hce hsl X eT N
  obtain ⟨s₂, o, h1, h2⟩ := k p e s m args below meth c T locs hx hZ hown hby hml hret hlk hnm hce hsl X eT N
  exact ⟨s₂, o, hs p e below T s₂ m c X.here hx hby h1, h2⟩
theorem own_more {cells' slots' : Nat} (hc : cells ≤ cells') (hs : slots ≤ slots') (hc' : cells' ≤ R.cells) (hs' : slots' ≤ R.slots) (k : own_W l Z y bytes ml ret R n0 Q h cells' slots' pc Ls st) : own_W l Z y bytes ml ret R n0 Q h cells slots pc Ls st := by
  intro p e s m args below meth c T locs hx hZ hown hby hml hret hlk hnm hce hsl X eT N
  exact k p e s m args below meth c T locs hx hZ hown hby hml hret hlk hnm hc' hs' (X.more hc hs) eT N
theorem own_weak {Q' : Option Value → Heap → Prop} (hq : ∀ v h, Q' v h → Q v h) (k : own_W l Z y bytes ml ret R n0 Q' h cells slots pc Ls st) : own_W l Z y bytes ml ret R n0 Q h cells slots pc Ls st := by
  intro p e s m args below meth c T locs hx hZ hown hby hml hret hlk hnm hce hsl X eT N
  obtain ⟨s₂, o, h1, h2, h3, v, L, h4, ⟨h5, h6⟩, h7⟩ := k p e s m args below meth c T locs hx hZ hown hby hml hret hlk hnm hce hsl X eT N
  exact ⟨s₂, o, h1, h2, h3, v, L, h4, ⟨hq _ _ h5, h6⟩, h7⟩
theorem own_iloadN {i : Fin 4} {u : Int32} (hd : decode bytes pc = .ok (.iload_n i, 1)) (hp : pc + 1 = pc') (hl : Ls[i.val]? = some (.val (.int u))) (k : own_W l Z y bytes ml ret R n0 Q h cells slots pc' Ls (.int u :: st)) : own_W l Z y bytes ml ret R n0 Q h cells slots pc Ls (st) :=
  own_pure (fun p e below T t m c hA hx hb hr => by subst hp; exact XS.iloadN hA hx rfl (hb ▸ hd) hl hr) k
theorem own_iload {i : Nat} {u : Int32} (hd : decode bytes pc = .ok (.iload i, 2)) (hp : pc + 2 = pc') (hl : Ls[i]? = some (.val (.int u))) (k : own_W l Z y bytes ml ret R n0 Q h cells slots pc' Ls (.int u :: st)) : own_W l Z y bytes ml ret R n0 Q h cells slots pc Ls (st) :=
  own_pure (fun p e below T t m c hA hx hb hr => by subst hp; exact XS.iload hA hx rfl (hb ▸ hd) hl hr) k
theorem own_lloadN {i : Fin 4} {u : Int64} (hd : decode bytes pc = .ok (.lload_n i, 1)) (hp : pc + 1 = pc') (hl : Ls[i.val]? = some (.val (.long u))) (k : own_W l Z y bytes ml ret R n0 Q h cells slots pc' Ls (.long u :: st)) : own_W l Z y bytes ml ret R n0 Q h cells slots pc Ls (st) :=
  own_pure (fun p e below T t m c hA hx hb hr => by subst hp; exact XT.lloadN hA hx rfl (hb ▸ hd) hl hr) k
theorem own_lload {i : Nat} {u : Int64} (hd : decode bytes pc = .ok (.lload i, 2)) (hp : pc + 2 = pc') (hl : Ls[i]? = some (.val (.long u))) (k : own_W l Z y bytes ml ret R n0 Q h cells slots pc' Ls (.long u :: st)) : own_W l Z y bytes ml ret R n0 Q h cells slots pc Ls (st) :=
  own_pure (fun p e below T t m c hA hx hb hr => by subst hp; exact XT.lload hA hx rfl (hb ▸ hd) hl hr) k
theorem own_aloadN {i : Fin 4} {u : Addr} (hd : decode bytes pc = .ok (.aload_n i, 1)) (hp : pc + 1 = pc') (hl : Ls[i.val]? = some (.val (.ref u))) (k : own_W l Z y bytes ml ret R n0 Q h cells slots pc' Ls (.ref u :: st)) : own_W l Z y bytes ml ret R n0 Q h cells slots pc Ls (st) :=
  own_pure (fun p e below T t m c hA hx hb hr => by subst hp; exact XS.aloadN hA hx rfl (hb ▸ hd) hl rfl hr) k
theorem own_aload {i : Nat} {u : Addr} (hd : decode bytes pc = .ok (.aload i, 2)) (hp : pc + 2 = pc') (hl : Ls[i]? = some (.val (.ref u))) (k : own_W l Z y bytes ml ret R n0 Q h cells slots pc' Ls (.ref u :: st)) : own_W l Z y bytes ml ret R n0 Q h cells slots pc Ls (st) :=
  own_pure (fun p e below T t m c hA hx hb hr => by subst hp; exact XS.aload hA hx rfl (hb ▸ hd) hl rfl hr) k
theorem own_istoreN {i : Fin 4} {u : Int32} (hd : decode bytes pc = .ok (.istore_n i, 1)) (hp : pc + 1 = pc') (hl : storeLocals Ls i.val (.int u) = some Ls') (k : own_W l Z y bytes ml ret R n0 Q h cells slots pc' Ls' (st)) : own_W l Z y bytes ml ret R n0 Q h cells slots pc Ls (.int u :: st) :=
  own_pure (fun p e below T t m c hA hx hb hr => by subst hp; exact XS.istoreN hA hx rfl (hb ▸ hd) rfl hl hr) k
theorem own_istore {i : Nat} {u : Int32} (hd : decode bytes pc = .ok (.istore i, 2)) (hp : pc + 2 = pc') (hl : storeLocals Ls i (.int u) = some Ls') (k : own_W l Z y bytes ml ret R n0 Q h cells slots pc' Ls' (st)) : own_W l Z y bytes ml ret R n0 Q h cells slots pc Ls (.int u :: st) :=
  own_pure (fun p e below T t m c hA hx hb hr => by subst hp; exact XS.istore hA hx rfl (hb ▸ hd) rfl hl hr) k
theorem own_lstoreN {i : Fin 4} {u : Int64} (hd : decode bytes pc = .ok (.lstore_n i, 1)) (hp : pc + 1 = pc') (hl : storeLocals Ls i.val (.long u) = some Ls') (k : own_W l Z y bytes ml ret R n0 Q h cells slots pc' Ls' (st)) : own_W l Z y bytes ml ret R n0 Q h cells slots pc Ls (.long u :: st) :=
  own_pure (fun p e below T t m c hA hx hb hr => by subst hp; exact XT.lstoreN hA hx rfl (hb ▸ hd) rfl hl hr) k
theorem own_lstore {i : Nat} {u : Int64} (hd : decode bytes pc = .ok (.lstore i, 2)) (hp : pc + 2 = pc') (hl : storeLocals Ls i (.long u) = some Ls') (k : own_W l Z y bytes ml ret R n0 Q h cells slots pc' Ls' (st)) : own_W l Z y bytes ml ret R n0 Q h cells slots pc Ls (.long u :: st) :=
  own_pure (fun p e below T t m c hA hx hb hr => by subst hp; exact XT.lstore hA hx rfl (hb ▸ hd) rfl hl hr) k
theorem own_astoreN {i : Fin 4} {u : Addr} (hd : decode bytes pc = .ok (.astore_n i, 1)) (hp : pc + 1 = pc') (hl : storeLocals Ls i.val (.ref u) = some Ls') (k : own_W l Z y bytes ml ret R n0 Q h cells slots pc' Ls' (st)) : own_W l Z y bytes ml ret R n0 Q h cells slots pc Ls (.ref u :: st) :=
  own_pure (fun p e below T t m c hA hx hb hr => by subst hp; exact XS.astoreN hA hx rfl (hb ▸ hd) rfl rfl hl hr) k
theorem own_astore {i : Nat} {u : Addr} (hd : decode bytes pc = .ok (.astore i, 2)) (hp : pc + 2 = pc') (hl : storeLocals Ls i (.ref u) = some Ls') (k : own_W l Z y bytes ml ret R n0 Q h cells slots pc' Ls' (st)) : own_W l Z y bytes ml ret R n0 Q h cells slots pc Ls (.ref u :: st) :=
  own_pure (fun p e below T t m c hA hx hb hr => by subst hp; exact XS.astore hA hx rfl (hb ▸ hd) rfl rfl hl hr) k
theorem own_iinc {i : Nat} {cst : Int} {u w : Int32} (hd : decode bytes pc = .ok (.iinc i cst, 3)) (hp : pc + 3 = pc') (hv : Int32.ofInt cst = w) (hl : Ls[i]? = some (.val (.int u))) (hl' : storeLocals Ls i (.int (u + w)) = some Ls') (k : own_W l Z y bytes ml ret R n0 Q h cells slots pc' Ls' st) : own_W l Z y bytes ml ret R n0 Q h cells slots pc Ls st :=
  own_pure (fun p e below T t m c hA hx hb hr => by subst hp; exact XT.iincV hA hx rfl w (hb ▸ hd) hv hl hl' hr) k
theorem own_iconst {i : Int} (u : Int32) (hd : decode bytes pc = .ok (.iconst i, 1)) (hp : pc + 1 = pc') (hv : Int32.ofInt i = u) (k : own_W l Z y bytes ml ret R n0 Q h cells slots pc' Ls (.int u :: st)) : own_W l Z y bytes ml ret R n0 Q h cells slots pc Ls st :=
  own_pure (fun p e below T t m c hA hx hb hr => by subst hp; exact XT.iconstV hA hx rfl u (hb ▸ hd) hv hr) k
theorem own_bipush {i : Int} (u : Int32) (hd : decode bytes pc = .ok (.bipush i, 2)) (hp : pc + 2 = pc') (hv : (Int8.ofInt i).toInt32 = u) (k : own_W l Z y bytes ml ret R n0 Q h cells slots pc' Ls (.int u :: st)) : own_W l Z y bytes ml ret R n0 Q h cells slots pc Ls st :=
  own_pure (fun p e below T t m c hA hx hb hr => by subst hp; exact XT.bipushV hA hx rfl u (hb ▸ hd) hv hr) k
theorem own_sipush {i : Int} (u : Int32) (hd : decode bytes pc = .ok (.sipush i, 3)) (hp : pc + 3 = pc') (hv : (Int16.ofInt i).toInt32 = u) (k : own_W l Z y bytes ml ret R n0 Q h cells slots pc' Ls (.int u :: st)) : own_W l Z y bytes ml ret R n0 Q h cells slots pc Ls st :=
  own_pure (fun p e below T t m c hA hx hb hr => by subst hp; exact XT.sipushV hA hx rfl u (hb ▸ hd) hv hr) k
theorem own_lconst {i : Fin 2} (u : Int64) (hd : decode bytes pc = .ok (.lconst i, 1)) (hp : pc + 1 = pc') (hv : Int64.ofNat i = u) (k : own_W l Z y bytes ml ret R n0 Q h cells slots pc' Ls (.long u :: st)) : own_W l Z y bytes ml ret R n0 Q h cells slots pc Ls st :=
  own_pure (fun p e below T t m c hA hx hb hr => by subst hp; exact XT.lconstV hA hx rfl u (hb ▸ hd) hv hr) k
theorem own_aconstNull (hd : decode bytes pc = .ok (.aconst_null, 1)) (hp : pc + 1 = pc') (k : own_W l Z y bytes ml ret R n0 Q h cells slots pc' Ls (.null :: st)) : own_W l Z y bytes ml ret R n0 Q h cells slots pc Ls (st) :=
  own_pure (fun p e below T t m c hA hx hb hr => by subst hp; exact XS.aconstNull hA hx rfl (hb ▸ hd)  hr) k
theorem own_iadd {u w : Int32} (hd : decode bytes pc = .ok (.iadd, 1)) (hp : pc + 1 = pc') (k : own_W l Z y bytes ml ret R n0 Q h cells slots pc' Ls (.int (u + w) :: st)) : own_W l Z y bytes ml ret R n0 Q h cells slots pc Ls (.int w :: .int u :: st) :=
  own_pure (fun p e below T t m c hA hx hb hr => by subst hp; exact XS.iadd hA hx rfl (hb ▸ hd) rfl hr) k
theorem own_isub {u w : Int32} (hd : decode bytes pc = .ok (.isub, 1)) (hp : pc + 1 = pc') (k : own_W l Z y bytes ml ret R n0 Q h cells slots pc' Ls (.int (u - w) :: st)) : own_W l Z y bytes ml ret R n0 Q h cells slots pc Ls (.int w :: .int u :: st) :=
  own_pure (fun p e below T t m c hA hx hb hr => by subst hp; exact XS.isub hA hx rfl (hb ▸ hd) rfl hr) k
theorem own_imul {u w : Int32} (hd : decode bytes pc = .ok (.imul, 1)) (hp : pc + 1 = pc') (k : own_W l Z y bytes ml ret R n0 Q h cells slots pc' Ls (.int (u * w) :: st)) : own_W l Z y bytes ml ret R n0 Q h cells slots pc Ls (.int w :: .int u :: st) :=
  own_pure (fun p e below T t m c hA hx hb hr => by subst hp; exact XS.imul hA hx rfl (hb ▸ hd) rfl hr) k
theorem own_iand {u w : Int32} (hd : decode bytes pc = .ok (.iand, 1)) (hp : pc + 1 = pc') (k : own_W l Z y bytes ml ret R n0 Q h cells slots pc' Ls (.int (u &&& w) :: st)) : own_W l Z y bytes ml ret R n0 Q h cells slots pc Ls (.int w :: .int u :: st) :=
  own_pure (fun p e below T t m c hA hx hb hr => by subst hp; exact XS.iand hA hx rfl (hb ▸ hd) rfl hr) k
theorem own_ior {u w : Int32} (hd : decode bytes pc = .ok (.ior, 1)) (hp : pc + 1 = pc') (k : own_W l Z y bytes ml ret R n0 Q h cells slots pc' Ls (.int (u ||| w) :: st)) : own_W l Z y bytes ml ret R n0 Q h cells slots pc Ls (.int w :: .int u :: st) :=
  own_pure (fun p e below T t m c hA hx hb hr => by subst hp; exact XT.ior hA hx rfl (hb ▸ hd) rfl hr) k
theorem own_ixor {u w : Int32} (hd : decode bytes pc = .ok (.ixor, 1)) (hp : pc + 1 = pc') (k : own_W l Z y bytes ml ret R n0 Q h cells slots pc' Ls (.int (u ^^^ w) :: st)) : own_W l Z y bytes ml ret R n0 Q h cells slots pc Ls (.int w :: .int u :: st) :=
  own_pure (fun p e below T t m c hA hx hb hr => by subst hp; exact XT.ixor hA hx rfl (hb ▸ hd) rfl hr) k
theorem own_ishl {u w : Int32} (hd : decode bytes pc = .ok (.ishl, 1)) (hp : pc + 1 = pc') (k : own_W l Z y bytes ml ret R n0 Q h cells slots pc' Ls (.int (u <<< (w &&& 31)) :: st)) : own_W l Z y bytes ml ret R n0 Q h cells slots pc Ls (.int w :: .int u :: st) :=
  own_pure (fun p e below T t m c hA hx hb hr => by subst hp; exact XT.ishl hA hx rfl (hb ▸ hd) rfl hr) k
theorem own_ishr {u w : Int32} (hd : decode bytes pc = .ok (.ishr, 1)) (hp : pc + 1 = pc') (k : own_W l Z y bytes ml ret R n0 Q h cells slots pc' Ls (.int (u >>> (w &&& 31)) :: st)) : own_W l Z y bytes ml ret R n0 Q h cells slots pc Ls (.int w :: .int u :: st) :=
  own_pure (fun p e below T t m c hA hx hb hr => by subst hp; exact XT.ishr hA hx rfl (hb ▸ hd) rfl hr) k
theorem own_iushr {u w : Int32} (hd : decode bytes pc = .ok (.iushr, 1)) (hp : pc + 1 = pc') (k : own_W l Z y bytes ml ret R n0 Q h cells slots pc' Ls (.int (XT.ushr u w) :: st)) : own_W l Z y bytes ml ret R n0 Q h cells slots pc Ls (.int w :: .int u :: st) :=
  own_pure (fun p e below T t m c hA hx hb hr => by subst hp; exact XT.iushr hA hx rfl (hb ▸ hd) rfl hr) k
theorem own_idiv {u w : Int32} (hd : decode bytes pc = .ok (.idiv, 1)) (hp : pc + 1 = pc') (hw : w ≠ 0) (k : own_W l Z y bytes ml ret R n0 Q h cells slots pc' Ls (.int (u / w) :: st)) : own_W l Z y bytes ml ret R n0 Q h cells slots pc Ls (.int w :: .int u :: st) :=
  own_pure (fun p e below T t m c hA hx hb hr => by subst hp; exact XS.idiv hA hx rfl (hb ▸ hd) rfl hw hr) k
theorem own_irem {u w : Int32} (hd : decode bytes pc = .ok (.irem, 1)) (hp : pc + 1 = pc') (hw : w ≠ 0) (k : own_W l Z y bytes ml ret R n0 Q h cells slots pc' Ls (.int (u % w) :: st)) : own_W l Z y bytes ml ret R n0 Q h cells slots pc Ls (.int w :: .int u :: st) :=
  own_pure (fun p e below T t m c hA hx hb hr => by subst hp; exact XS.irem hA hx rfl (hb ▸ hd) rfl hw (by rw [irem_eq_mod u w]; exact hr)) k
theorem own_ineg {u : Int32} (hd : decode bytes pc = .ok (.ineg, 1)) (hp : pc + 1 = pc') (k : own_W l Z y bytes ml ret R n0 Q h cells slots pc' Ls (.int (-u) :: st)) : own_W l Z y bytes ml ret R n0 Q h cells slots pc Ls (.int u :: st) :=
  own_pure (fun p e below T t m c hA hx hb hr => by subst hp; exact XS.ineg hA hx rfl (hb ▸ hd) rfl hr) k
theorem own_ladd {u w : Int64} (hd : decode bytes pc = .ok (.ladd, 1)) (hp : pc + 1 = pc') (k : own_W l Z y bytes ml ret R n0 Q h cells slots pc' Ls (.long (u + w) :: st)) : own_W l Z y bytes ml ret R n0 Q h cells slots pc Ls (.long w :: .long u :: st) :=
  own_pure (fun p e below T t m c hA hx hb hr => by subst hp; exact XT.ladd hA hx rfl (hb ▸ hd) rfl hr) k
theorem own_lsub {u w : Int64} (hd : decode bytes pc = .ok (.lsub, 1)) (hp : pc + 1 = pc') (k : own_W l Z y bytes ml ret R n0 Q h cells slots pc' Ls (.long (u - w) :: st)) : own_W l Z y bytes ml ret R n0 Q h cells slots pc Ls (.long w :: .long u :: st) :=
  own_pure (fun p e below T t m c hA hx hb hr => by subst hp; exact XT.lsub hA hx rfl (hb ▸ hd) rfl hr) k
theorem own_lmul {u w : Int64} (hd : decode bytes pc = .ok (.lmul, 1)) (hp : pc + 1 = pc') (k : own_W l Z y bytes ml ret R n0 Q h cells slots pc' Ls (.long (u * w) :: st)) : own_W l Z y bytes ml ret R n0 Q h cells slots pc Ls (.long w :: .long u :: st) :=
  own_pure (fun p e below T t m c hA hx hb hr => by subst hp; exact XT.lmul hA hx rfl (hb ▸ hd) rfl hr) k
theorem own_land {u w : Int64} (hd : decode bytes pc = .ok (.land, 1)) (hp : pc + 1 = pc') (k : own_W l Z y bytes ml ret R n0 Q h cells slots pc' Ls (.long (u &&& w) :: st)) : own_W l Z y bytes ml ret R n0 Q h cells slots pc Ls (.long w :: .long u :: st) :=
  own_pure (fun p e below T t m c hA hx hb hr => by subst hp; exact XT.land hA hx rfl (hb ▸ hd) rfl hr) k
theorem own_lor {u w : Int64} (hd : decode bytes pc = .ok (.lor, 1)) (hp : pc + 1 = pc') (k : own_W l Z y bytes ml ret R n0 Q h cells slots pc' Ls (.long (u ||| w) :: st)) : own_W l Z y bytes ml ret R n0 Q h cells slots pc Ls (.long w :: .long u :: st) :=
  own_pure (fun p e below T t m c hA hx hb hr => by subst hp; exact XT.lor hA hx rfl (hb ▸ hd) rfl hr) k
theorem own_lxor {u w : Int64} (hd : decode bytes pc = .ok (.lxor, 1)) (hp : pc + 1 = pc') (k : own_W l Z y bytes ml ret R n0 Q h cells slots pc' Ls (.long (u ^^^ w) :: st)) : own_W l Z y bytes ml ret R n0 Q h cells slots pc Ls (.long w :: .long u :: st) :=
  own_pure (fun p e below T t m c hA hx hb hr => by subst hp; exact XT.lxor hA hx rfl (hb ▸ hd) rfl hr) k
theorem own_lrem {u w : Int64} (hd : decode bytes pc = .ok (.lrem, 1)) (hp : pc + 1 = pc') (hw : w ≠ 0) (k : own_W l Z y bytes ml ret R n0 Q h cells slots pc' Ls (.long (u % w) :: st)) : own_W l Z y bytes ml ret R n0 Q h cells slots pc Ls (.long w :: .long u :: st) :=
  own_pure (fun p e below T t m c hA hx hb hr => by subst hp; exact XT.lrem hA hx rfl (hb ▸ hd) rfl hw (by rw [lrem_mod u w]; exact hr)) k
theorem own_lshl {u : Int64} {w : Int32} (hd : decode bytes pc = .ok (.lshl, 1)) (hp : pc + 1 = pc') (k : own_W l Z y bytes ml ret R n0 Q h cells slots pc' Ls (.long (u <<< (w.toInt64 &&& 63)) :: st)) : own_W l Z y bytes ml ret R n0 Q h cells slots pc Ls (.int w :: .long u :: st) :=
  own_pure (fun p e below T t m c hA hx hb hr => by subst hp; exact XT.lshl hA hx rfl (hb ▸ hd) rfl hr) k
theorem own_lshr {u : Int64} {w : Int32} (hd : decode bytes pc = .ok (.lshr, 1)) (hp : pc + 1 = pc') (k : own_W l Z y bytes ml ret R n0 Q h cells slots pc' Ls (.long (u >>> (w.toInt64 &&& 63)) :: st)) : own_W l Z y bytes ml ret R n0 Q h cells slots pc Ls (.int w :: .long u :: st) :=
  own_pure (fun p e below T t m c hA hx hb hr => by subst hp; exact XT.lshr hA hx rfl (hb ▸ hd) rfl hr) k
theorem own_lushr {u : Int64} {w : Int32} (hd : decode bytes pc = .ok (.lushr, 1)) (hp : pc + 1 = pc') (k : own_W l Z y bytes ml ret R n0 Q h cells slots pc' Ls (.long (XT.ushrL u w) :: st)) : own_W l Z y bytes ml ret R n0 Q h cells slots pc Ls (.int w :: .long u :: st) :=
  own_pure (fun p e below T t m c hA hx hb hr => by subst hp; exact XT.lushr hA hx rfl (hb ▸ hd) rfl hr) k
theorem own_i2l {u : Int32} (hd : decode bytes pc = .ok (.i2l, 1)) (hp : pc + 1 = pc') (k : own_W l Z y bytes ml ret R n0 Q h cells slots pc' Ls (.long u.toInt64 :: st)) : own_W l Z y bytes ml ret R n0 Q h cells slots pc Ls (.int u :: st) :=
  own_pure (fun p e below T t m c hA hx hb hr => by subst hp; exact XT.i2l hA hx rfl (hb ▸ hd) rfl hr) k
theorem own_l2i {u : Int64} (hd : decode bytes pc = .ok (.l2i, 1)) (hp : pc + 1 = pc') (k : own_W l Z y bytes ml ret R n0 Q h cells slots pc' Ls (.int u.toInt32 :: st)) : own_W l Z y bytes ml ret R n0 Q h cells slots pc Ls (.long u :: st) :=
  own_pure (fun p e below T t m c hA hx hb hr => by subst hp; exact XT.l2i hA hx rfl (hb ▸ hd) rfl hr) k
theorem own_i2b {u : Int32} (hd : decode bytes pc = .ok (.i2b, 1)) (hp : pc + 1 = pc') (k : own_W l Z y bytes ml ret R n0 Q h cells slots pc' Ls (.int u.toInt8.toInt32 :: st)) : own_W l Z y bytes ml ret R n0 Q h cells slots pc Ls (.int u :: st) :=
  own_pure (fun p e below T t m c hA hx hb hr => by subst hp; exact XT.i2b hA hx rfl (hb ▸ hd) rfl hr) k
theorem own_i2c {u : Int32} (hd : decode bytes pc = .ok (.i2c, 1)) (hp : pc + 1 = pc') (k : own_W l Z y bytes ml ret R n0 Q h cells slots pc' Ls (.int u.toUInt32.toUInt16.toUInt32.toInt32 :: st)) : own_W l Z y bytes ml ret R n0 Q h cells slots pc Ls (.int u :: st) :=
  own_pure (fun p e below T t m c hA hx hb hr => by subst hp; exact XT.i2c hA hx rfl (hb ▸ hd) rfl hr) k
theorem own_lcmp {u w : Int64} (hd : decode bytes pc = .ok (.lcmp, 1)) (hp : pc + 1 = pc') (k : own_W l Z y bytes ml ret R n0 Q h cells slots pc' Ls (.int (XT.cmpL u w) :: st)) : own_W l Z y bytes ml ret R n0 Q h cells slots pc Ls (.long w :: .long u :: st) :=
  own_pure (fun p e below T t m c hA hx hb hr => by subst hp; exact XT.lcmp hA hx rfl (hb ▸ hd) rfl hr) k
theorem own_dup {u : Value} (hd : decode bytes pc = .ok (.dup, 1)) (hp : pc + 1 = pc') (hc : u.category = 1) (k : own_W l Z y bytes ml ret R n0 Q h cells slots pc' Ls (u :: u :: st)) : own_W l Z y bytes ml ret R n0 Q h cells slots pc Ls (u :: st) :=
  own_pure (fun p e below T t m c hA hx hb hr => by subst hp; exact XS.dup hA hx rfl (hb ▸ hd) rfl hc hr) k
theorem own_pop {u : Value} (hd : decode bytes pc = .ok (.pop, 1)) (hp : pc + 1 = pc') (hc : u.category = 1) (k : own_W l Z y bytes ml ret R n0 Q h cells slots pc' Ls (st)) : own_W l Z y bytes ml ret R n0 Q h cells slots pc Ls (u :: st) :=
  own_pure (fun p e below T t m c hA hx hb hr => by subst hp; exact XT.pop hA hx rfl (hb ▸ hd) rfl hc hr) k
theorem own_dupX1 {u w : Value} (hd : decode bytes pc = .ok (.dup_x1, 1)) (hp : pc + 1 = pc') (hc : u.category = 1) (hc' : w.category = 1) (k : own_W l Z y bytes ml ret R n0 Q h cells slots pc' Ls (u :: w :: u :: st)) : own_W l Z y bytes ml ret R n0 Q h cells slots pc Ls (u :: w :: st) :=
  own_pure (fun p e below T t m c hA hx hb hr => by subst hp; exact XT.dupX1 hA hx rfl (hb ▸ hd) rfl hc hc' hr) k
theorem own_dup2 {u w : Value} (hd : decode bytes pc = .ok (.dup2, 1)) (hp : pc + 1 = pc') (hc : u.category = 1) (hc' : w.category = 1) (k : own_W l Z y bytes ml ret R n0 Q h cells slots pc' Ls (u :: w :: u :: w :: st)) : own_W l Z y bytes ml ret R n0 Q h cells slots pc Ls (u :: w :: st) :=
  own_pure (fun p e below T t m c hA hx hb hr => by subst hp; exact XT.dup2 hA hx rfl (hb ▸ hd) rfl hc hc' hr) k
theorem own_dup2L {u : Int64} (hd : decode bytes pc = .ok (.dup2, 1)) (hp : pc + 1 = pc') (k : own_W l Z y bytes ml ret R n0 Q h cells slots pc' Ls (.long u :: .long u :: st)) : own_W l Z y bytes ml ret R n0 Q h cells slots pc Ls (.long u :: st) :=
  own_pure (fun p e below T t m c hA hx hb hr => by subst hp; exact XT.dup2L hA hx rfl (hb ▸ hd) rfl hr) k
theorem own_pop2step {tb : Tables} [Ours tb] {e : Env} {below : List Frame} {T target : State} {m : MethodId} {c : Code} {g : JFrame} (h : At T m c below) (hx : tb.exec = Jvm.exec) (hg : g.method = m) {u : Int64} {rest : List Value} (hd : decode c.code g.pc = .ok (.pop2, 1)) (hs : g.stack = .long u :: rest)
    (hr : Steps tb e below (T.setTop { g with pc := g.pc + 1, stack := rest }) target) : Steps tb e below (T.setTop g) target := by
  subst hg
  jvm_step h [h.top, hx, hd, hs, pop2.wp_sem, Value.category]
  exact hr
theorem own_pop2L {u : Int64} (hd : decode bytes pc = .ok (.pop2, 1)) (hp : pc + 1 = pc') (k : own_W l Z y bytes ml ret R n0 Q h cells slots pc' Ls (st)) : own_W l Z y bytes ml ret R n0 Q h cells slots pc Ls (.long u :: st) :=
  own_pure (fun p e below T t m c hA hx hb hr => by subst hp; exact own_pop2step hA hx rfl (hb ▸ hd) rfl hr) k
theorem own_dupX2step {tb : Tables} [Ours tb] {e : Env} {below : List Frame} {T target : State} {m : MethodId} {c : Code} {g : JFrame} (h : At T m c below) (hx : tb.exec = Jvm.exec) (hg : g.method = m) {x y z : Value} {rest : List Value} (hd : decode c.code g.pc = .ok (.dup_x2, 1)) (hs : g.stack = x :: y :: z :: rest) (hc : x.category = 1) (hc' : y.category = 1) (hc'' : z.category = 1)
    (hr : Steps tb e below (T.setTop { g with pc := g.pc + 1, stack := x :: y :: z :: x :: rest }) target) : Steps tb e below (T.setTop g) target := by
  subst hg
  jvm_step h [h.top, hx, hd, hs, dup_x2.wp_sem, hc, hc', hc'']
  exact hr
theorem own_dupX2 {u w x : Value} (hd : decode bytes pc = .ok (.dup_x2, 1)) (hp : pc + 1 = pc') (hc : u.category = 1) (hc' : w.category = 1) (hc'' : x.category = 1) (k : own_W l Z y bytes ml ret R n0 Q h cells slots pc' Ls (u :: w :: x :: u :: st)) : own_W l Z y bytes ml ret R n0 Q h cells slots pc Ls (u :: w :: x :: st) :=
  own_pure (fun p e below T t m c hA hx hb hr => by subst hp; exact own_dupX2step hA hx rfl (hb ▸ hd) rfl hc hc' hc'' hr) k
theorem own_goto {o : Int} (hd : decode bytes pc = .ok (.goto o, 3)) (ho : 0 ≤ (pc : Int) + o) (hp : ((pc : Int) + o).toNat = pc') (k : own_W l Z y bytes ml ret R n0 Q h cells slots pc' Ls st) : own_W l Z y bytes ml ret R n0 Q h cells slots pc Ls st :=
  own_pure (fun p e below T t m c hA hx hb hr => XS.goto hA hx rfl rfl (hb ▸ hd) ho hp hr) k
theorem own_if_eq_t {u : Int32} {o : Int} (hd : decode bytes pc = .ok (.ifCond .eq o, 3)) (hc : u = 0) (ho : 0 ≤ (pc : Int) + o) (hp : ((pc : Int) + o).toNat = pc') (k : own_W l Z y bytes ml ret R n0 Q h cells slots pc' Ls st) : own_W l Z y bytes ml ret R n0 Q h cells slots pc Ls (.int u :: st) :=
  own_pure (fun p e below T t m c hA hx hb hr => XS.ifYes hA hx rfl rfl (hb ▸ hd) rfl (XT.i0_eq_t hc) ho hp hr) k
theorem own_if_eq_f {u : Int32} {o : Int} (hd : decode bytes pc = .ok (.ifCond .eq o, 3)) (hc : ¬ u = 0) (hp : pc + 3 = pc') (k : own_W l Z y bytes ml ret R n0 Q h cells slots pc' Ls st) : own_W l Z y bytes ml ret R n0 Q h cells slots pc Ls (.int u :: st) :=
  own_pure (fun p e below T t m c hA hx hb hr => by subst hp; exact XS.ifNo hA hx rfl (hb ▸ hd) rfl (XT.i0_eq_f hc) hr) k
theorem own_if_eq {u : Int32} {o : Int} {pf : Nat} (hd : decode bytes pc = .ok (.ifCond .eq o, 3)) (ho : 0 ≤ (pc : Int) + o) (hp : ((pc : Int) + o).toNat = pc') (hq : pc + 3 = pf) (kt : u = 0 → own_W l Z y bytes ml ret R n0 Q h cells slots pc' Ls st) (kf : ¬ u = 0 → own_W l Z y bytes ml ret R n0 Q h cells slots pf Ls st) : own_W l Z y bytes ml ret R n0 Q h cells slots pc Ls (.int u :: st) := by
  by_cases hc : u = 0
  · exact own_if_eq_t hd hc ho hp (kt hc)
  · exact own_if_eq_f hd (by first | exact hc | exact Decidable.not_not.mp hc) hq (kf (by first | exact hc | exact Decidable.not_not.mp hc))
theorem own_ic_eq_t {u w : Int32} {o : Int} (hd : decode bytes pc = .ok (.if_icmp .eq o, 3)) (hc : u = w) (ho : 0 ≤ (pc : Int) + o) (hp : ((pc : Int) + o).toNat = pc') (k : own_W l Z y bytes ml ret R n0 Q h cells slots pc' Ls st) : own_W l Z y bytes ml ret R n0 Q h cells slots pc Ls (.int w :: .int u :: st) :=
  own_pure (fun p e below T t m c hA hx hb hr => XS.icmpYes hA hx rfl rfl (hb ▸ hd) rfl (XT.ii_eq_t hc) ho hp hr) k
theorem own_ic_eq_f {u w : Int32} {o : Int} (hd : decode bytes pc = .ok (.if_icmp .eq o, 3)) (hc : ¬ u = w) (hp : pc + 3 = pc') (k : own_W l Z y bytes ml ret R n0 Q h cells slots pc' Ls st) : own_W l Z y bytes ml ret R n0 Q h cells slots pc Ls (.int w :: .int u :: st) :=
  own_pure (fun p e below T t m c hA hx hb hr => by subst hp; exact XS.icmpNo hA hx rfl (hb ▸ hd) rfl (XT.ii_eq_f hc) hr) k
theorem own_ic_eq {u w : Int32} {o : Int} {pf : Nat} (hd : decode bytes pc = .ok (.if_icmp .eq o, 3)) (ho : 0 ≤ (pc : Int) + o) (hp : ((pc : Int) + o).toNat = pc') (hq : pc + 3 = pf) (kt : u = w → own_W l Z y bytes ml ret R n0 Q h cells slots pc' Ls st) (kf : ¬ u = w → own_W l Z y bytes ml ret R n0 Q h cells slots pf Ls st) : own_W l Z y bytes ml ret R n0 Q h cells slots pc Ls (.int w :: .int u :: st) := by
  by_cases hc : u = w
  · exact own_ic_eq_t hd hc ho hp (kt hc)
  · exact own_ic_eq_f hd (by first | exact hc | exact Decidable.not_not.mp hc) hq (kf (by first | exact hc | exact Decidable.not_not.mp hc))
theorem own_il_eq_t {u w : Int64} {o : Int} (hd : decode bytes pc = .ok (.ifCond .eq o, 3)) (hc : u = w) (ho : 0 ≤ (pc : Int) + o) (hp : ((pc : Int) + o).toNat = pc') (k : own_W l Z y bytes ml ret R n0 Q h cells slots pc' Ls st) : own_W l Z y bytes ml ret R n0 Q h cells slots pc Ls (.int (XT.cmpL u w) :: st) :=
  own_pure (fun p e below T t m c hA hx hb hr => XS.ifYes hA hx rfl rfl (hb ▸ hd) rfl (XT.ll_eq_t hc) ho hp hr) k
theorem own_il_eq_f {u w : Int64} {o : Int} (hd : decode bytes pc = .ok (.ifCond .eq o, 3)) (hc : ¬ u = w) (hp : pc + 3 = pc') (k : own_W l Z y bytes ml ret R n0 Q h cells slots pc' Ls st) : own_W l Z y bytes ml ret R n0 Q h cells slots pc Ls (.int (XT.cmpL u w) :: st) :=
  own_pure (fun p e below T t m c hA hx hb hr => by subst hp; exact XS.ifNo hA hx rfl (hb ▸ hd) rfl (XT.ll_eq_f hc) hr) k
theorem own_il_eq {u w : Int64} {o : Int} {pf : Nat} (hd : decode bytes pc = .ok (.ifCond .eq o, 3)) (ho : 0 ≤ (pc : Int) + o) (hp : ((pc : Int) + o).toNat = pc') (hq : pc + 3 = pf) (kt : u = w → own_W l Z y bytes ml ret R n0 Q h cells slots pc' Ls st) (kf : ¬ u = w → own_W l Z y bytes ml ret R n0 Q h cells slots pf Ls st) : own_W l Z y bytes ml ret R n0 Q h cells slots pc Ls (.int (XT.cmpL u w) :: st) := by
  by_cases hc : u = w
  · exact own_il_eq_t hd hc ho hp (kt hc)
  · exact own_il_eq_f hd (by first | exact hc | exact Decidable.not_not.mp hc) hq (kf (by first | exact hc | exact Decidable.not_not.mp hc))
theorem own_if_ne_t {u : Int32} {o : Int} (hd : decode bytes pc = .ok (.ifCond .ne o, 3)) (hc : ¬ u = 0) (ho : 0 ≤ (pc : Int) + o) (hp : ((pc : Int) + o).toNat = pc') (k : own_W l Z y bytes ml ret R n0 Q h cells slots pc' Ls st) : own_W l Z y bytes ml ret R n0 Q h cells slots pc Ls (.int u :: st) :=
  own_pure (fun p e below T t m c hA hx hb hr => XS.ifYes hA hx rfl rfl (hb ▸ hd) rfl (XT.i0_ne_t hc) ho hp hr) k
theorem own_if_ne_f {u : Int32} {o : Int} (hd : decode bytes pc = .ok (.ifCond .ne o, 3)) (hc : u = 0) (hp : pc + 3 = pc') (k : own_W l Z y bytes ml ret R n0 Q h cells slots pc' Ls st) : own_W l Z y bytes ml ret R n0 Q h cells slots pc Ls (.int u :: st) :=
  own_pure (fun p e below T t m c hA hx hb hr => by subst hp; exact XS.ifNo hA hx rfl (hb ▸ hd) rfl (XT.i0_ne_f hc) hr) k
theorem own_if_ne {u : Int32} {o : Int} {pf : Nat} (hd : decode bytes pc = .ok (.ifCond .ne o, 3)) (ho : 0 ≤ (pc : Int) + o) (hp : ((pc : Int) + o).toNat = pc') (hq : pc + 3 = pf) (kt : ¬ u = 0 → own_W l Z y bytes ml ret R n0 Q h cells slots pc' Ls st) (kf : u = 0 → own_W l Z y bytes ml ret R n0 Q h cells slots pf Ls st) : own_W l Z y bytes ml ret R n0 Q h cells slots pc Ls (.int u :: st) := by
  by_cases hc : ¬ u = 0
  · exact own_if_ne_t hd hc ho hp (kt hc)
  · exact own_if_ne_f hd (by first | exact hc | exact Decidable.not_not.mp hc) hq (kf (by first | exact hc | exact Decidable.not_not.mp hc))
theorem own_ic_ne_t {u w : Int32} {o : Int} (hd : decode bytes pc = .ok (.if_icmp .ne o, 3)) (hc : ¬ u = w) (ho : 0 ≤ (pc : Int) + o) (hp : ((pc : Int) + o).toNat = pc') (k : own_W l Z y bytes ml ret R n0 Q h cells slots pc' Ls st) : own_W l Z y bytes ml ret R n0 Q h cells slots pc Ls (.int w :: .int u :: st) :=
  own_pure (fun p e below T t m c hA hx hb hr => XS.icmpYes hA hx rfl rfl (hb ▸ hd) rfl (XT.ii_ne_t hc) ho hp hr) k
theorem own_ic_ne_f {u w : Int32} {o : Int} (hd : decode bytes pc = .ok (.if_icmp .ne o, 3)) (hc : u = w) (hp : pc + 3 = pc') (k : own_W l Z y bytes ml ret R n0 Q h cells slots pc' Ls st) : own_W l Z y bytes ml ret R n0 Q h cells slots pc Ls (.int w :: .int u :: st) :=
  own_pure (fun p e below T t m c hA hx hb hr => by subst hp; exact XS.icmpNo hA hx rfl (hb ▸ hd) rfl (XT.ii_ne_f hc) hr) k
theorem own_ic_ne {u w : Int32} {o : Int} {pf : Nat} (hd : decode bytes pc = .ok (.if_icmp .ne o, 3)) (ho : 0 ≤ (pc : Int) + o) (hp : ((pc : Int) + o).toNat = pc') (hq : pc + 3 = pf) (kt : ¬ u = w → own_W l Z y bytes ml ret R n0 Q h cells slots pc' Ls st) (kf : u = w → own_W l Z y bytes ml ret R n0 Q h cells slots pf Ls st) : own_W l Z y bytes ml ret R n0 Q h cells slots pc Ls (.int w :: .int u :: st) := by
  by_cases hc : ¬ u = w
  · exact own_ic_ne_t hd hc ho hp (kt hc)
  · exact own_ic_ne_f hd (by first | exact hc | exact Decidable.not_not.mp hc) hq (kf (by first | exact hc | exact Decidable.not_not.mp hc))
theorem own_il_ne_t {u w : Int64} {o : Int} (hd : decode bytes pc = .ok (.ifCond .ne o, 3)) (hc : ¬ u = w) (ho : 0 ≤ (pc : Int) + o) (hp : ((pc : Int) + o).toNat = pc') (k : own_W l Z y bytes ml ret R n0 Q h cells slots pc' Ls st) : own_W l Z y bytes ml ret R n0 Q h cells slots pc Ls (.int (XT.cmpL u w) :: st) :=
  own_pure (fun p e below T t m c hA hx hb hr => XS.ifYes hA hx rfl rfl (hb ▸ hd) rfl (XT.ll_ne_t hc) ho hp hr) k
theorem own_il_ne_f {u w : Int64} {o : Int} (hd : decode bytes pc = .ok (.ifCond .ne o, 3)) (hc : u = w) (hp : pc + 3 = pc') (k : own_W l Z y bytes ml ret R n0 Q h cells slots pc' Ls st) : own_W l Z y bytes ml ret R n0 Q h cells slots pc Ls (.int (XT.cmpL u w) :: st) :=
  own_pure (fun p e below T t m c hA hx hb hr => by subst hp; exact XS.ifNo hA hx rfl (hb ▸ hd) rfl (XT.ll_ne_f hc) hr) k
theorem own_il_ne {u w : Int64} {o : Int} {pf : Nat} (hd : decode bytes pc = .ok (.ifCond .ne o, 3)) (ho : 0 ≤ (pc : Int) + o) (hp : ((pc : Int) + o).toNat = pc') (hq : pc + 3 = pf) (kt : ¬ u = w → own_W l Z y bytes ml ret R n0 Q h cells slots pc' Ls st) (kf : u = w → own_W l Z y bytes ml ret R n0 Q h cells slots pf Ls st) : own_W l Z y bytes ml ret R n0 Q h cells slots pc Ls (.int (XT.cmpL u w) :: st) := by
  by_cases hc : ¬ u = w
  · exact own_il_ne_t hd hc ho hp (kt hc)
  · exact own_il_ne_f hd (by first | exact hc | exact Decidable.not_not.mp hc) hq (kf (by first | exact hc | exact Decidable.not_not.mp hc))
theorem own_if_lt_t {u : Int32} {o : Int} (hd : decode bytes pc = .ok (.ifCond .lt o, 3)) (hc : u < 0) (ho : 0 ≤ (pc : Int) + o) (hp : ((pc : Int) + o).toNat = pc') (k : own_W l Z y bytes ml ret R n0 Q h cells slots pc' Ls st) : own_W l Z y bytes ml ret R n0 Q h cells slots pc Ls (.int u :: st) :=
  own_pure (fun p e below T t m c hA hx hb hr => XS.ifYes hA hx rfl rfl (hb ▸ hd) rfl (XT.i0_lt_t hc) ho hp hr) k
theorem own_if_lt_f {u : Int32} {o : Int} (hd : decode bytes pc = .ok (.ifCond .lt o, 3)) (hc : ¬ u < 0) (hp : pc + 3 = pc') (k : own_W l Z y bytes ml ret R n0 Q h cells slots pc' Ls st) : own_W l Z y bytes ml ret R n0 Q h cells slots pc Ls (.int u :: st) :=
  own_pure (fun p e below T t m c hA hx hb hr => by subst hp; exact XS.ifNo hA hx rfl (hb ▸ hd) rfl (XT.i0_lt_f hc) hr) k
theorem own_if_lt {u : Int32} {o : Int} {pf : Nat} (hd : decode bytes pc = .ok (.ifCond .lt o, 3)) (ho : 0 ≤ (pc : Int) + o) (hp : ((pc : Int) + o).toNat = pc') (hq : pc + 3 = pf) (kt : u < 0 → own_W l Z y bytes ml ret R n0 Q h cells slots pc' Ls st) (kf : ¬ u < 0 → own_W l Z y bytes ml ret R n0 Q h cells slots pf Ls st) : own_W l Z y bytes ml ret R n0 Q h cells slots pc Ls (.int u :: st) := by
  by_cases hc : u < 0
  · exact own_if_lt_t hd hc ho hp (kt hc)
  · exact own_if_lt_f hd (by first | exact hc | exact Decidable.not_not.mp hc) hq (kf (by first | exact hc | exact Decidable.not_not.mp hc))
theorem own_ic_lt_t {u w : Int32} {o : Int} (hd : decode bytes pc = .ok (.if_icmp .lt o, 3)) (hc : u < w) (ho : 0 ≤ (pc : Int) + o) (hp : ((pc : Int) + o).toNat = pc') (k : own_W l Z y bytes ml ret R n0 Q h cells slots pc' Ls st) : own_W l Z y bytes ml ret R n0 Q h cells slots pc Ls (.int w :: .int u :: st) :=
  own_pure (fun p e below T t m c hA hx hb hr => XS.icmpYes hA hx rfl rfl (hb ▸ hd) rfl (XT.ii_lt_t hc) ho hp hr) k
theorem own_ic_lt_f {u w : Int32} {o : Int} (hd : decode bytes pc = .ok (.if_icmp .lt o, 3)) (hc : ¬ u < w) (hp : pc + 3 = pc') (k : own_W l Z y bytes ml ret R n0 Q h cells slots pc' Ls st) : own_W l Z y bytes ml ret R n0 Q h cells slots pc Ls (.int w :: .int u :: st) :=
  own_pure (fun p e below T t m c hA hx hb hr => by subst hp; exact XS.icmpNo hA hx rfl (hb ▸ hd) rfl (XT.ii_lt_f hc) hr) k
theorem own_ic_lt {u w : Int32} {o : Int} {pf : Nat} (hd : decode bytes pc = .ok (.if_icmp .lt o, 3)) (ho : 0 ≤ (pc : Int) + o) (hp : ((pc : Int) + o).toNat = pc') (hq : pc + 3 = pf) (kt : u < w → own_W l Z y bytes ml ret R n0 Q h cells slots pc' Ls st) (kf : ¬ u < w → own_W l Z y bytes ml ret R n0 Q h cells slots pf Ls st) : own_W l Z y bytes ml ret R n0 Q h cells slots pc Ls (.int w :: .int u :: st) := by
  by_cases hc : u < w
  · exact own_ic_lt_t hd hc ho hp (kt hc)
  · exact own_ic_lt_f hd (by first | exact hc | exact Decidable.not_not.mp hc) hq (kf (by first | exact hc | exact Decidable.not_not.mp hc))
theorem own_il_lt_t {u w : Int64} {o : Int} (hd : decode bytes pc = .ok (.ifCond .lt o, 3)) (hc : u < w) (ho : 0 ≤ (pc : Int) + o) (hp : ((pc : Int) + o).toNat = pc') (k : own_W l Z y bytes ml ret R n0 Q h cells slots pc' Ls st) : own_W l Z y bytes ml ret R n0 Q h cells slots pc Ls (.int (XT.cmpL u w) :: st) :=
  own_pure (fun p e below T t m c hA hx hb hr => XS.ifYes hA hx rfl rfl (hb ▸ hd) rfl (XT.ll_lt_t hc) ho hp hr) k
theorem own_il_lt_f {u w : Int64} {o : Int} (hd : decode bytes pc = .ok (.ifCond .lt o, 3)) (hc : ¬ u < w) (hp : pc + 3 = pc') (k : own_W l Z y bytes ml ret R n0 Q h cells slots pc' Ls st) : own_W l Z y bytes ml ret R n0 Q h cells slots pc Ls (.int (XT.cmpL u w) :: st) :=
  own_pure (fun p e below T t m c hA hx hb hr => by subst hp; exact XS.ifNo hA hx rfl (hb ▸ hd) rfl (XT.ll_lt_f hc) hr) k
theorem own_il_lt {u w : Int64} {o : Int} {pf : Nat} (hd : decode bytes pc = .ok (.ifCond .lt o, 3)) (ho : 0 ≤ (pc : Int) + o) (hp : ((pc : Int) + o).toNat = pc') (hq : pc + 3 = pf) (kt : u < w → own_W l Z y bytes ml ret R n0 Q h cells slots pc' Ls st) (kf : ¬ u < w → own_W l Z y bytes ml ret R n0 Q h cells slots pf Ls st) : own_W l Z y bytes ml ret R n0 Q h cells slots pc Ls (.int (XT.cmpL u w) :: st) := by
  by_cases hc : u < w
  · exact own_il_lt_t hd hc ho hp (kt hc)
  · exact own_il_lt_f hd (by first | exact hc | exact Decidable.not_not.mp hc) hq (kf (by first | exact hc | exact Decidable.not_not.mp hc))
theorem own_if_ge_t {u : Int32} {o : Int} (hd : decode bytes pc = .ok (.ifCond .ge o, 3)) (hc : ¬ u < 0) (ho : 0 ≤ (pc : Int) + o) (hp : ((pc : Int) + o).toNat = pc') (k : own_W l Z y bytes ml ret R n0 Q h cells slots pc' Ls st) : own_W l Z y bytes ml ret R n0 Q h cells slots pc Ls (.int u :: st) :=
  own_pure (fun p e below T t m c hA hx hb hr => XS.ifYes hA hx rfl rfl (hb ▸ hd) rfl (XT.i0_ge_t hc) ho hp hr) k
theorem own_if_ge_f {u : Int32} {o : Int} (hd : decode bytes pc = .ok (.ifCond .ge o, 3)) (hc : u < 0) (hp : pc + 3 = pc') (k : own_W l Z y bytes ml ret R n0 Q h cells slots pc' Ls st) : own_W l Z y bytes ml ret R n0 Q h cells slots pc Ls (.int u :: st) :=
  own_pure (fun p e below T t m c hA hx hb hr => by subst hp; exact XS.ifNo hA hx rfl (hb ▸ hd) rfl (XT.i0_ge_f hc) hr) k
theorem own_if_ge {u : Int32} {o : Int} {pf : Nat} (hd : decode bytes pc = .ok (.ifCond .ge o, 3)) (ho : 0 ≤ (pc : Int) + o) (hp : ((pc : Int) + o).toNat = pc') (hq : pc + 3 = pf) (kt : ¬ u < 0 → own_W l Z y bytes ml ret R n0 Q h cells slots pc' Ls st) (kf : u < 0 → own_W l Z y bytes ml ret R n0 Q h cells slots pf Ls st) : own_W l Z y bytes ml ret R n0 Q h cells slots pc Ls (.int u :: st) := by
  by_cases hc : ¬ u < 0
  · exact own_if_ge_t hd hc ho hp (kt hc)
  · exact own_if_ge_f hd (by first | exact hc | exact Decidable.not_not.mp hc) hq (kf (by first | exact hc | exact Decidable.not_not.mp hc))
theorem own_ic_ge_t {u w : Int32} {o : Int} (hd : decode bytes pc = .ok (.if_icmp .ge o, 3)) (hc : ¬ u < w) (ho : 0 ≤ (pc : Int) + o) (hp : ((pc : Int) + o).toNat = pc') (k : own_W l Z y bytes ml ret R n0 Q h cells slots pc' Ls st) : own_W l Z y bytes ml ret R n0 Q h cells slots pc Ls (.int w :: .int u :: st) :=
  own_pure (fun p e below T t m c hA hx hb hr => XS.icmpYes hA hx rfl rfl (hb ▸ hd) rfl (XT.ii_ge_t hc) ho hp hr) k
theorem own_ic_ge_f {u w : Int32} {o : Int} (hd : decode bytes pc = .ok (.if_icmp .ge o, 3)) (hc : u < w) (hp : pc + 3 = pc') (k : own_W l Z y bytes ml ret R n0 Q h cells slots pc' Ls st) : own_W l Z y bytes ml ret R n0 Q h cells slots pc Ls (.int w :: .int u :: st) :=
  own_pure (fun p e below T t m c hA hx hb hr => by subst hp; exact XS.icmpNo hA hx rfl (hb ▸ hd) rfl (XT.ii_ge_f hc) hr) k
theorem own_ic_ge {u w : Int32} {o : Int} {pf : Nat} (hd : decode bytes pc = .ok (.if_icmp .ge o, 3)) (ho : 0 ≤ (pc : Int) + o) (hp : ((pc : Int) + o).toNat = pc') (hq : pc + 3 = pf) (kt : ¬ u < w → own_W l Z y bytes ml ret R n0 Q h cells slots pc' Ls st) (kf : u < w → own_W l Z y bytes ml ret R n0 Q h cells slots pf Ls st) : own_W l Z y bytes ml ret R n0 Q h cells slots pc Ls (.int w :: .int u :: st) := by
  by_cases hc : ¬ u < w
  · exact own_ic_ge_t hd hc ho hp (kt hc)
  · exact own_ic_ge_f hd (by first | exact hc | exact Decidable.not_not.mp hc) hq (kf (by first | exact hc | exact Decidable.not_not.mp hc))
theorem own_il_ge_t {u w : Int64} {o : Int} (hd : decode bytes pc = .ok (.ifCond .ge o, 3)) (hc : ¬ u < w) (ho : 0 ≤ (pc : Int) + o) (hp : ((pc : Int) + o).toNat = pc') (k : own_W l Z y bytes ml ret R n0 Q h cells slots pc' Ls st) : own_W l Z y bytes ml ret R n0 Q h cells slots pc Ls (.int (XT.cmpL u w) :: st) :=
  own_pure (fun p e below T t m c hA hx hb hr => XS.ifYes hA hx rfl rfl (hb ▸ hd) rfl (XT.ll_ge_t hc) ho hp hr) k
theorem own_il_ge_f {u w : Int64} {o : Int} (hd : decode bytes pc = .ok (.ifCond .ge o, 3)) (hc : u < w) (hp : pc + 3 = pc') (k : own_W l Z y bytes ml ret R n0 Q h cells slots pc' Ls st) : own_W l Z y bytes ml ret R n0 Q h cells slots pc Ls (.int (XT.cmpL u w) :: st) :=
  own_pure (fun p e below T t m c hA hx hb hr => by subst hp; exact XS.ifNo hA hx rfl (hb ▸ hd) rfl (XT.ll_ge_f hc) hr) k
theorem own_il_ge {u w : Int64} {o : Int} {pf : Nat} (hd : decode bytes pc = .ok (.ifCond .ge o, 3)) (ho : 0 ≤ (pc : Int) + o) (hp : ((pc : Int) + o).toNat = pc') (hq : pc + 3 = pf) (kt : ¬ u < w → own_W l Z y bytes ml ret R n0 Q h cells slots pc' Ls st) (kf : u < w → own_W l Z y bytes ml ret R n0 Q h cells slots pf Ls st) : own_W l Z y bytes ml ret R n0 Q h cells slots pc Ls (.int (XT.cmpL u w) :: st) := by
  by_cases hc : ¬ u < w
  · exact own_il_ge_t hd hc ho hp (kt hc)
  · exact own_il_ge_f hd (by first | exact hc | exact Decidable.not_not.mp hc) hq (kf (by first | exact hc | exact Decidable.not_not.mp hc))
theorem own_if_gt_t {u : Int32} {o : Int} (hd : decode bytes pc = .ok (.ifCond .gt o, 3)) (hc : 0 < u) (ho : 0 ≤ (pc : Int) + o) (hp : ((pc : Int) + o).toNat = pc') (k : own_W l Z y bytes ml ret R n0 Q h cells slots pc' Ls st) : own_W l Z y bytes ml ret R n0 Q h cells slots pc Ls (.int u :: st) :=
  own_pure (fun p e below T t m c hA hx hb hr => XS.ifYes hA hx rfl rfl (hb ▸ hd) rfl (XT.i0_gt_t hc) ho hp hr) k
theorem own_if_gt_f {u : Int32} {o : Int} (hd : decode bytes pc = .ok (.ifCond .gt o, 3)) (hc : ¬ 0 < u) (hp : pc + 3 = pc') (k : own_W l Z y bytes ml ret R n0 Q h cells slots pc' Ls st) : own_W l Z y bytes ml ret R n0 Q h cells slots pc Ls (.int u :: st) :=
  own_pure (fun p e below T t m c hA hx hb hr => by subst hp; exact XS.ifNo hA hx rfl (hb ▸ hd) rfl (XT.i0_gt_f hc) hr) k
theorem own_if_gt {u : Int32} {o : Int} {pf : Nat} (hd : decode bytes pc = .ok (.ifCond .gt o, 3)) (ho : 0 ≤ (pc : Int) + o) (hp : ((pc : Int) + o).toNat = pc') (hq : pc + 3 = pf) (kt : 0 < u → own_W l Z y bytes ml ret R n0 Q h cells slots pc' Ls st) (kf : ¬ 0 < u → own_W l Z y bytes ml ret R n0 Q h cells slots pf Ls st) : own_W l Z y bytes ml ret R n0 Q h cells slots pc Ls (.int u :: st) := by
  by_cases hc : 0 < u
  · exact own_if_gt_t hd hc ho hp (kt hc)
  · exact own_if_gt_f hd (by first | exact hc | exact Decidable.not_not.mp hc) hq (kf (by first | exact hc | exact Decidable.not_not.mp hc))
theorem own_ic_gt_t {u w : Int32} {o : Int} (hd : decode bytes pc = .ok (.if_icmp .gt o, 3)) (hc : w < u) (ho : 0 ≤ (pc : Int) + o) (hp : ((pc : Int) + o).toNat = pc') (k : own_W l Z y bytes ml ret R n0 Q h cells slots pc' Ls st) : own_W l Z y bytes ml ret R n0 Q h cells slots pc Ls (.int w :: .int u :: st) :=
  own_pure (fun p e below T t m c hA hx hb hr => XS.icmpYes hA hx rfl rfl (hb ▸ hd) rfl (XT.ii_gt_t hc) ho hp hr) k
theorem own_ic_gt_f {u w : Int32} {o : Int} (hd : decode bytes pc = .ok (.if_icmp .gt o, 3)) (hc : ¬ w < u) (hp : pc + 3 = pc') (k : own_W l Z y bytes ml ret R n0 Q h cells slots pc' Ls st) : own_W l Z y bytes ml ret R n0 Q h cells slots pc Ls (.int w :: .int u :: st) :=
  own_pure (fun p e below T t m c hA hx hb hr => by subst hp; exact XS.icmpNo hA hx rfl (hb ▸ hd) rfl (XT.ii_gt_f hc) hr) k
theorem own_ic_gt {u w : Int32} {o : Int} {pf : Nat} (hd : decode bytes pc = .ok (.if_icmp .gt o, 3)) (ho : 0 ≤ (pc : Int) + o) (hp : ((pc : Int) + o).toNat = pc') (hq : pc + 3 = pf) (kt : w < u → own_W l Z y bytes ml ret R n0 Q h cells slots pc' Ls st) (kf : ¬ w < u → own_W l Z y bytes ml ret R n0 Q h cells slots pf Ls st) : own_W l Z y bytes ml ret R n0 Q h cells slots pc Ls (.int w :: .int u :: st) := by
  by_cases hc : w < u
  · exact own_ic_gt_t hd hc ho hp (kt hc)
  · exact own_ic_gt_f hd (by first | exact hc | exact Decidable.not_not.mp hc) hq (kf (by first | exact hc | exact Decidable.not_not.mp hc))
theorem own_il_gt_t {u w : Int64} {o : Int} (hd : decode bytes pc = .ok (.ifCond .gt o, 3)) (hc : w < u) (ho : 0 ≤ (pc : Int) + o) (hp : ((pc : Int) + o).toNat = pc') (k : own_W l Z y bytes ml ret R n0 Q h cells slots pc' Ls st) : own_W l Z y bytes ml ret R n0 Q h cells slots pc Ls (.int (XT.cmpL u w) :: st) :=
  own_pure (fun p e below T t m c hA hx hb hr => XS.ifYes hA hx rfl rfl (hb ▸ hd) rfl (XT.ll_gt_t hc) ho hp hr) k
theorem own_il_gt_f {u w : Int64} {o : Int} (hd : decode bytes pc = .ok (.ifCond .gt o, 3)) (hc : ¬ w < u) (hp : pc + 3 = pc') (k : own_W l Z y bytes ml ret R n0 Q h cells slots pc' Ls st) : own_W l Z y bytes ml ret R n0 Q h cells slots pc Ls (.int (XT.cmpL u w) :: st) :=
  own_pure (fun p e below T t m c hA hx hb hr => by subst hp; exact XS.ifNo hA hx rfl (hb ▸ hd) rfl (XT.ll_gt_f hc) hr) k
theorem own_il_gt {u w : Int64} {o : Int} {pf : Nat} (hd : decode bytes pc = .ok (.ifCond .gt o, 3)) (ho : 0 ≤ (pc : Int) + o) (hp : ((pc : Int) + o).toNat = pc') (hq : pc + 3 = pf) (kt : w < u → own_W l Z y bytes ml ret R n0 Q h cells slots pc' Ls st) (kf : ¬ w < u → own_W l Z y bytes ml ret R n0 Q h cells slots pf Ls st) : own_W l Z y bytes ml ret R n0 Q h cells slots pc Ls (.int (XT.cmpL u w) :: st) := by
  by_cases hc : w < u
  · exact own_il_gt_t hd hc ho hp (kt hc)
  · exact own_il_gt_f hd (by first | exact hc | exact Decidable.not_not.mp hc) hq (kf (by first | exact hc | exact Decidable.not_not.mp hc))
theorem own_if_le_t {u : Int32} {o : Int} (hd : decode bytes pc = .ok (.ifCond .le o, 3)) (hc : ¬ 0 < u) (ho : 0 ≤ (pc : Int) + o) (hp : ((pc : Int) + o).toNat = pc') (k : own_W l Z y bytes ml ret R n0 Q h cells slots pc' Ls st) : own_W l Z y bytes ml ret R n0 Q h cells slots pc Ls (.int u :: st) :=
  own_pure (fun p e below T t m c hA hx hb hr => XS.ifYes hA hx rfl rfl (hb ▸ hd) rfl (XT.i0_le_t hc) ho hp hr) k
theorem own_if_le_f {u : Int32} {o : Int} (hd : decode bytes pc = .ok (.ifCond .le o, 3)) (hc : 0 < u) (hp : pc + 3 = pc') (k : own_W l Z y bytes ml ret R n0 Q h cells slots pc' Ls st) : own_W l Z y bytes ml ret R n0 Q h cells slots pc Ls (.int u :: st) :=
  own_pure (fun p e below T t m c hA hx hb hr => by subst hp; exact XS.ifNo hA hx rfl (hb ▸ hd) rfl (XT.i0_le_f hc) hr) k
theorem own_if_le {u : Int32} {o : Int} {pf : Nat} (hd : decode bytes pc = .ok (.ifCond .le o, 3)) (ho : 0 ≤ (pc : Int) + o) (hp : ((pc : Int) + o).toNat = pc') (hq : pc + 3 = pf) (kt : ¬ 0 < u → own_W l Z y bytes ml ret R n0 Q h cells slots pc' Ls st) (kf : 0 < u → own_W l Z y bytes ml ret R n0 Q h cells slots pf Ls st) : own_W l Z y bytes ml ret R n0 Q h cells slots pc Ls (.int u :: st) := by
  by_cases hc : ¬ 0 < u
  · exact own_if_le_t hd hc ho hp (kt hc)
  · exact own_if_le_f hd (by first | exact hc | exact Decidable.not_not.mp hc) hq (kf (by first | exact hc | exact Decidable.not_not.mp hc))
theorem own_ic_le_t {u w : Int32} {o : Int} (hd : decode bytes pc = .ok (.if_icmp .le o, 3)) (hc : ¬ w < u) (ho : 0 ≤ (pc : Int) + o) (hp : ((pc : Int) + o).toNat = pc') (k : own_W l Z y bytes ml ret R n0 Q h cells slots pc' Ls st) : own_W l Z y bytes ml ret R n0 Q h cells slots pc Ls (.int w :: .int u :: st) :=
  own_pure (fun p e below T t m c hA hx hb hr => XS.icmpYes hA hx rfl rfl (hb ▸ hd) rfl (XT.ii_le_t hc) ho hp hr) k
theorem own_ic_le_f {u w : Int32} {o : Int} (hd : decode bytes pc = .ok (.if_icmp .le o, 3)) (hc : w < u) (hp : pc + 3 = pc') (k : own_W l Z y bytes ml ret R n0 Q h cells slots pc' Ls st) : own_W l Z y bytes ml ret R n0 Q h cells slots pc Ls (.int w :: .int u :: st) :=
  own_pure (fun p e below T t m c hA hx hb hr => by subst hp; exact XS.icmpNo hA hx rfl (hb ▸ hd) rfl (XT.ii_le_f hc) hr) k
theorem own_ic_le {u w : Int32} {o : Int} {pf : Nat} (hd : decode bytes pc = .ok (.if_icmp .le o, 3)) (ho : 0 ≤ (pc : Int) + o) (hp : ((pc : Int) + o).toNat = pc') (hq : pc + 3 = pf) (kt : ¬ w < u → own_W l Z y bytes ml ret R n0 Q h cells slots pc' Ls st) (kf : w < u → own_W l Z y bytes ml ret R n0 Q h cells slots pf Ls st) : own_W l Z y bytes ml ret R n0 Q h cells slots pc Ls (.int w :: .int u :: st) := by
  by_cases hc : ¬ w < u
  · exact own_ic_le_t hd hc ho hp (kt hc)
  · exact own_ic_le_f hd (by first | exact hc | exact Decidable.not_not.mp hc) hq (kf (by first | exact hc | exact Decidable.not_not.mp hc))
theorem own_il_le_t {u w : Int64} {o : Int} (hd : decode bytes pc = .ok (.ifCond .le o, 3)) (hc : ¬ w < u) (ho : 0 ≤ (pc : Int) + o) (hp : ((pc : Int) + o).toNat = pc') (k : own_W l Z y bytes ml ret R n0 Q h cells slots pc' Ls st) : own_W l Z y bytes ml ret R n0 Q h cells slots pc Ls (.int (XT.cmpL u w) :: st) :=
  own_pure (fun p e below T t m c hA hx hb hr => XS.ifYes hA hx rfl rfl (hb ▸ hd) rfl (XT.ll_le_t hc) ho hp hr) k
theorem own_il_le_f {u w : Int64} {o : Int} (hd : decode bytes pc = .ok (.ifCond .le o, 3)) (hc : w < u) (hp : pc + 3 = pc') (k : own_W l Z y bytes ml ret R n0 Q h cells slots pc' Ls st) : own_W l Z y bytes ml ret R n0 Q h cells slots pc Ls (.int (XT.cmpL u w) :: st) :=
  own_pure (fun p e below T t m c hA hx hb hr => by subst hp; exact XS.ifNo hA hx rfl (hb ▸ hd) rfl (XT.ll_le_f hc) hr) k
theorem own_il_le {u w : Int64} {o : Int} {pf : Nat} (hd : decode bytes pc = .ok (.ifCond .le o, 3)) (ho : 0 ≤ (pc : Int) + o) (hp : ((pc : Int) + o).toNat = pc') (hq : pc + 3 = pf) (kt : ¬ w < u → own_W l Z y bytes ml ret R n0 Q h cells slots pc' Ls st) (kf : w < u → own_W l Z y bytes ml ret R n0 Q h cells slots pf Ls st) : own_W l Z y bytes ml ret R n0 Q h cells slots pc Ls (.int (XT.cmpL u w) :: st) := by
  by_cases hc : ¬ w < u
  · exact own_il_le_t hd hc ho hp (kt hc)
  · exact own_il_le_f hd (by first | exact hc | exact Decidable.not_not.mp hc) hq (kf (by first | exact hc | exact Decidable.not_not.mp hc))
theorem own_ifnull_f {u : Addr} {o : Int} (hd : decode bytes pc = .ok (.ifnull o, 3)) (hp : pc + 3 = pc') (k : own_W l Z y bytes ml ret R n0 Q h cells slots pc' Ls st) : own_W l Z y bytes ml ret R n0 Q h cells slots pc Ls (.ref u :: st) :=
  own_pure (fun p e below T t m c hA hx hb hr => by subst hp; exact XS.ifnullNo hA hx rfl (hb ▸ hd) rfl hr) k
theorem own_ifnonnull_t {u : Addr} {o : Int} (hd : decode bytes pc = .ok (.ifnonnull o, 3)) (ho : 0 ≤ (pc : Int) + o) (hp : ((pc : Int) + o).toNat = pc') (k : own_W l Z y bytes ml ret R n0 Q h cells slots pc' Ls st) : own_W l Z y bytes ml ret R n0 Q h cells slots pc Ls (.ref u :: st) :=
  own_pure (fun p e below T t m c hA hx hb hr => XT.ifnonnullYes hA hx rfl rfl (hb ▸ hd) rfl ho hp hr) k
theorem own_ldcI {idx : Nat} {u : Int32} (w : (Jvm.Cond.constant y.cls idx u).before a0 Z = true) (hd : decode bytes pc = .ok (.ldc idx, 2)) (hp : pc + 2 = pc') (k : own_W l Z y bytes ml ret R n0 Q h cells slots pc' Ls (.int u :: st)) : own_W l Z y bytes ml ret R n0 Q h cells slots pc Ls st := by
  intro p e s m args below meth c T locs hx hZ hown hby hml hret hlk hnm hce hsl X eT N
  subst hp
  obtain ⟨s₂, o, h1, h2⟩ := k p e s m args below meth c T locs hx hZ hown hby hml hret hlk hnm hce hsl X eT N
  exact ⟨s₂, o, X.ldcInt hx hown (mvT hZ w) (g := mkF m pc Ls st) rfl (hb hby hd) _ h1, h2⟩
theorem own_ldcWI {idx : Nat} {u : Int32} (w : (Jvm.Cond.constant y.cls idx u).before a0 Z = true) (hd : decode bytes pc = .ok (.ldc_w idx, 3)) (hp : pc + 3 = pc') (k : own_W l Z y bytes ml ret R n0 Q h cells slots pc' Ls (.int u :: st)) : own_W l Z y bytes ml ret R n0 Q h cells slots pc Ls st := by
  intro p e s m args below meth c T locs hx hZ hown hby hml hret hlk hnm hce hsl X eT N
  subst hp
  obtain ⟨s₂, o, h1, h2⟩ := k p e s m args below meth c T locs hx hZ hown hby hml hret hlk hnm hce hsl X eT N
  exact ⟨s₂, o, X.ldcWInt hx hown (mvT hZ w) (g := mkF m pc Ls st) rfl (hb hby hd) _ h1, h2⟩
theorem own_ldc2 {idx : Nat} {u : Int64} (w : (Jvm.Cond.constantLong y.cls idx u).before a0 Z = true) (hd : decode bytes pc = .ok (.ldc2_w idx, 3)) (hp : pc + 3 = pc') (k : own_W l Z y bytes ml ret R n0 Q h cells slots pc' Ls (.long u :: st)) : own_W l Z y bytes ml ret R n0 Q h cells slots pc Ls st := by
  intro p e s m args below meth c T locs hx hZ hown hby hml hret hlk hnm hce hsl X eT N
  subst hp
  obtain ⟨s₂, o, h1, h2⟩ := k p e s m args below meth c T locs hx hZ hown hby hml hret hlk hnm hce hsl X eT N
  exact ⟨s₂, o, X.ldc2Long hx hown (mvT hZ w) (g := mkF m pc Ls st) rfl (hb hby hd) _ h1, h2⟩
theorem own_iret {u : Int32} (hr0 : ret = some .int) (hd : decode bytes pc = .ok (.ireturn, 1)) (hq : Q (some (.int u)) h) : own_W l Z y bytes ml ret R n0 Q h cells slots pc Ls (.int u :: st) := by
  intro p e s m args below meth c T locs hx hZ hown hby hml hret hlk hnm hce hsl X eT N
  subst hr0
  obtain ⟨fs, hr, hrun, hended, hW, hsame⟩ := X.leave (v := some (.int u)) (fun h => by rw [hret] at h; cases h) hlk
  refine ⟨_, _, ?_, hrun, hended, _, _, rfl, ⟨?_, N⟩, ⟨_, rfl⟩, hW, hsame.mono hce hsl⟩
  · exact retOut X hx hret rfl (Or.inl ⟨rfl, Or.inl rfl, _, rfl⟩) (hb hby hd) hr
  · rw [show (T.setFrames fs).heap = h from eT]; exact hq
theorem own_zret {u : Int32} {t : FieldType} (hr0 : ret = some t) (ht : t = .boolean ∨ t = .byte ∨ t = .char ∨ t = .short) (hd : decode bytes pc = .ok (.ireturn, 1)) (hq : Q (some (.int (nar t u))) h) : own_W l Z y bytes ml ret R n0 Q h cells slots pc Ls (.int u :: st) := by
  intro p e s m args below meth c T locs hx hZ hown hby hml hret hlk hnm hce hsl X eT N
  subst hr0
  obtain ⟨fs, hr, hrun, hended, hW, hsame⟩ := X.leave (v := some (.int (nar t u))) (fun h => by rw [hret] at h; cases h) hlk
  refine ⟨_, _, ?_, hrun, hended, _, _, rfl, ⟨?_, N⟩, ⟨_, rfl⟩, hW, hsame.mono hce hsl⟩
  · exact retN X hx hret ht (hb hby hd) hr
  · rw [show (T.setFrames fs).heap = h from eT]; exact hq
theorem own_bret {u v : Int32} (hr0 : ret = some .boolean) (hv : u &&& 1 = v) (hd : decode bytes pc = .ok (.ireturn, 1)) (hq : Q (some (.int v)) h) : own_W l Z y bytes ml ret R n0 Q h cells slots pc Ls (.int u :: st) :=
  own_zret hr0 (Or.inl rfl) hd (by subst hv; exact hq)
theorem own_lret {u : Int64} (hr0 : ret = some .long) (hd : decode bytes pc = .ok (.lreturn, 1)) (hq : Q (some (.long u)) h) : own_W l Z y bytes ml ret R n0 Q h cells slots pc Ls (.long u :: st) := by
  intro p e s m args below meth c T locs hx hZ hown hby hml hret hlk hnm hce hsl X eT N
  subst hr0
  obtain ⟨fs, hr, hrun, hended, hW, hsame⟩ := X.leave (v := some (.long u)) (fun h => by rw [hret] at h; cases h) hlk
  refine ⟨_, _, ?_, hrun, hended, _, _, rfl, ⟨?_, N⟩, ⟨_, rfl⟩, hW, hsame.mono hce hsl⟩
  · exact retOut X hx hret rfl (Or.inr (Or.inl ⟨rfl, rfl, _, rfl⟩)) (hb hby hd) hr
  · rw [show (T.setFrames fs).heap = h from eT]; exact hq
theorem own_aret {u : Addr} {t : FieldType} (hr0 : ret = some t) (ht : t.isReference = true) (hn : narrow t (.ref u) = .ref u) (hd : decode bytes pc = .ok (.areturn, 1)) (hq : Q (some (.ref u)) h) : own_W l Z y bytes ml ret R n0 Q h cells slots pc Ls (.ref u :: st) := by
  intro p e s m args below meth c T locs hx hZ hown hby hml hret hlk hnm hce hsl X eT N
  subst hr0
  obtain ⟨fs, hr, hrun, hended, hW, hsame⟩ := X.leave (v := some (.ref u)) (fun h => by rw [hret] at h; cases h) hlk
  refine ⟨_, _, ?_, hrun, hended, _, _, rfl, ⟨?_, N⟩, ⟨_, rfl⟩, hW, hsame.mono hce hsl⟩
  · exact retOut X hx hret hn (Or.inr (Or.inr (Or.inr (Or.inr ⟨rfl, ht, rfl⟩)))) (hb hby hd) hr
  · rw [show (T.setFrames fs).heap = h from eT]; exact hq
theorem own_ret (hr0 : ret = none) (hd : decode bytes pc = .ok (.return_, 1)) (hq : Q none h) : own_W l Z y bytes ml ret R n0 Q h cells slots pc Ls [] := by
  intro p e s m args below meth c T locs hx hZ hown hby hml hret hlk hnm hce hsl X eT N
  subst hr0
  obtain ⟨fs, hr, hrun, hended, hW, hsame⟩ := X.leave (v := none) (fun _ => rfl) hlk
  refine ⟨_, _, ?_, hrun, hended, _, _, rfl, ⟨?_, N⟩, ⟨_, rfl⟩, hW, hsame.mono hce hsl⟩
  · exact X.returnOut hx hret (hb hby hd) hr
  · rw [show (T.setFrames fs).heap = h from eT]; exact hq
theorem own_getF {O n d : String} {idx : Nat} {a : Addr} {v : Value} (w : (Jvm.Cond.fieldLink y.cls idx O n d).before a0 Z = true) (F : Fld Z h a O n d v) (hd : decode bytes pc = .ok (.getfield idx, 3)) (hp : pc + 3 = pc') (k : own_W l Z y bytes ml ret R n0 Q h cells slots pc' Ls (v :: st)) : own_W l Z y bytes ml ret R n0 Q h cells slots pc Ls (.ref a :: st) := by
  intro p e s m args below meth c T locs hx hZ hown hby hml hret hlk hnm hce hsl X eT N
  subst hp
  obtain ⟨T', X', e', st'⟩ := getF X hx hZ hown (host := "") (Or.inl w) Via.refl eT F (g := mkF m pc Ls (.ref a :: st)) rfl rfl (hb hby hd)
  obtain ⟨s₂, o, h1, h2⟩ := k p e s m args below meth c T' locs hx hZ hown hby hml hret hlk hnm hce hsl X' e' N
  exact ⟨s₂, o, st' _ h1, h2⟩
theorem own_putF {O n d C : String} {idx kk : Nat} {a : Addr} {v old : Value} {ty : FieldType} (w : (Jvm.Cond.fieldLink y.cls idx O n d).before a0 Z = true) (F : Fld Z h a O n d old) (E : Exa Z h a C) (L : (Jvm.Cond.lays C O n d).before a0 Z = true ∨ ((Jvm.Cond.laysFinal C O n d).before a0 Z = true ∧ y.cls = O ∧ y.name = "<init>")) (wi : (Jvm.Cond.instantiable C kk).before a0 Z = true)
    (ge : n0 ≤ a) (hty : parseFieldDescriptor d = some ty) (hn : narrow ty v = v) (hf : fits ty v = true) (hd : decode bytes pc = .ok (.putfield idx, 3)) (hp : pc + 3 = pc')
    (k : ∀ h', Wr h h' a (Jvm.RoadKit.slotOf Z O n d) v → Keep h h' [a] → own_W l Z y bytes ml ret R n0 Q h' cells slots pc' Ls st) : own_W l Z y bytes ml ret R n0 Q h cells slots pc Ls (v :: .ref a :: st) := by
  intro p e s m args below meth c T locs hx hZ hown hby hml hret hlk hnm hce hsl X eT N
  subst hp
  obtain ⟨T', h', X', e', W', st'⟩ := putF X hx hZ hown (host := "") (Or.inl w) Via.refl eT F E (L.imp id fun q => ⟨q.1, q.2.1, hnm.trans q.2.2⟩) wi hty hn hf (g := mkF m pc Ls (v :: .ref a :: st)) rfl rfl (hb hby hd)
  obtain ⟨s₂, o, h1, h2⟩ := k h' W' (Keep.of_wr W') p e s m args below meth c T' _ hx hZ hown hby hml hret hlk hnm hce hsl X' e' (Fr.snoc X' N ge)
  exact ⟨s₂, o, st' _ h1, h2⟩
theorem own_new {C : String} {idx n : Nat} (w : (Jvm.Cond.classLink y.cls idx C).before a0 Z = true) (wi : (Jvm.Cond.instantiable C n).before a0 Z = true) (wz : (Jvm.Cond.initialized C).before a0 Z = true) (hd : decode bytes pc = .ok (.new idx, 3)) (hp : pc + 3 = pc') (hc : cells + 1 ≤ R.cells) (hl : slots + n ≤ R.slots)
    (k : ∀ (h' : Heap) (a : Addr), h.size ≤ a → a < h'.size → Ext h h' → Exa Z h' a C → (∀ {O nm d : String} {ty : FieldType}, Laid Z a0 C O nm d → parseFieldDescriptor d = some ty → Fld Z h' a O nm d (defaultValue ty)) → own_W l Z y bytes ml ret R n0 Q h' (cells + 1) (slots + n) pc' Ls (.ref a :: st)) : own_W l Z y bytes ml ret R n0 Q h cells slots pc Ls st := by
  intro p e s m args below meth c T locs hx hZ hown hby hml hret hlk hnm hce hsl X eT N
  subst hp
  obtain ⟨T', h', X', e', E', A', D', -, st'⟩ := newO X hx hZ hown w wi wz eT (g := mkF m pc Ls st) rfl (hb hby hd) hc hl
  obtain ⟨s₂, o, h1, h2⟩ := k h' h.size (Nat.le_refl _) A'.lt E' A' D' p e s m args below meth c T' _ hx hZ hown hby hml hret hlk hnm hc hl X' e' N
  exact ⟨s₂, o, st' _ h1, h2⟩
theorem own_initO {idx W : Nat} {a : Addr} (w1 : (Jvm.Cond.methodLink y.cls idx Lib.objectInit).before a0 Z = true) (w2 : (Jvm.Cond.instanceMethod Lib.objectInit).before a0 Z = true) (w3 : (Jvm.Cond.code Lib.objectInit ⟨#[0xb1]⟩ 1 none).before a0 Z = true) (hd : decode bytes pc = .ok (.invokespecial idx, 3)) (hp : pc + 3 = pc')
    (hsz : Ls.size = ml) (hf : 1 ≤ R.frames) (hW : (st.map fun v => v.category).sum ≤ W) (hl : W + 12 ≤ R.locals) (k : own_W l Z y bytes ml ret R n0 Q h cells slots pc' Ls st) : own_W l Z y bytes ml ret R n0 Q h cells slots pc Ls (.ref a :: st) := by
  intro p e s m args below meth c T locs hx hZ hown hby hml hret hlk hnm hce hsl X eT N
  subst hp
  obtain ⟨T', X', e', st'⟩ := initO X hx hZ hown w1 w2 w3 eT (g := mkF m pc Ls (.ref a :: st)) rfl (by rw [hml]; exact hsz) rfl (hb hby hd) hf (W := W) (by show 2 * 0 + _ ≤ _; omega) hl
  obtain ⟨s₂, o, h1, h2⟩ := k p e s m args below meth c T' locs hx hZ hown hby hml hret hlk hnm hce hsl X' e' N
  exact ⟨s₂, o, st' _ h1, h2⟩
/-- an array of this component type with just these components -/
def own_A (Z : State) (h : Heap) (a : Addr) (ty : FieldType) (vs : List Value) : Prop := ∃ c : Cell, Arr Z h a c ty ∧ c.slots.toList = vs ∧ vs.length < 2 ^ 31 ∧ ∀ v ∈ vs, fits ty v = true
theorem own_A.lt {a : Addr} {ty : FieldType} {vs : List Value} (A : own_A Z h a ty vs) : a < h.size := by obtain ⟨c, A, -⟩ := A; exact A.lt
theorem own_A.ext {h' : Heap} {a : Addr} {ty : FieldType} {vs : List Value} (A : own_A Z h a ty vs) (E : Ext h h') : own_A Z h' a ty vs := by obtain ⟨c, A, r⟩ := A; exact ⟨c, A.ext E, r⟩
theorem own_A.keep {h' : Heap} {a : Addr} {ty : FieldType} {vs : List Value} {ws : List Addr} (A : own_A Z h a ty vs) (K : Keep h h' ws) (q : a ∉ ws) : own_A Z h' a ty vs := by obtain ⟨c, A, r⟩ := A; exact ⟨c, ⟨K.2.1 a c A.1 q, A.2⟩, r⟩
theorem own_A.cast {a : Addr} {ty : FieldType} {vs vs' : List Value} (A : own_A Z h a ty vs) (q : vs = vs') : own_A Z h a ty vs' := q ▸ A
theorem own_size {c : Cell} {vs : List Value} (q : c.slots.toList = vs) : c.slots.size = vs.length := by rw [← q]; simp
theorem own_in {c : Cell} {vs : List Value} {j : Int32} (q : c.slots.toList = vs) (h0 : ¬ j < 0) (h1 : j.toNatClampNeg < vs.length) : ¬ (j < 0 ∨ c.slots.size ≤ j.toNatClampNeg) := by rw [own_size q]; rintro (u | u); exact h0 u; omega
theorem own_get {c : Cell} {vs : List Value} {j : Nat} {v : Value} (q : c.slots.toList = vs) (h1 : vs[j]? = some v) : c.slots[j]? = some v := by rw [← Array.getElem?_toList, q]; exact h1
theorem own_A.set {h' : Heap} {a : Addr} {ty : FieldType} {vs : List Value} {j : Nat} {v : Value} {c : Cell} (A : Arr Z h a c ty) (q : c.slots.toList = vs) (hl : vs.length < 2 ^ 31) (hft : ∀ v ∈ vs, fits ty v = true) (hv : fits ty v = true) (W : Wr h h' a j v) : own_A Z h' a ty (vs.set j v) := by
  refine ⟨_, A.same W, ?_, by simpa using hl, fun w hw => (List.mem_or_eq_of_mem_set hw).elim (hft w) fun e => e ▸ hv⟩
  rw [← q]; simp [Cell.setSlot]
theorem own_fitd (ty : FieldType) : fits ty (defaultValue ty) = true := by cases ty <;> rfl
theorem own_len {a : Addr} {ty : FieldType} {vs : List Value} {n : Int32} (A : own_A Z h a ty vs) (hn : vs.length.toInt32 = n) (hd : decode bytes pc = .ok (.arraylength, 1)) (hp : pc + 1 = pc') (k : own_W l Z y bytes ml ret R n0 Q h cells slots pc' Ls (.int n :: st)) : own_W l Z y bytes ml ret R n0 Q h cells slots pc Ls (.ref a :: st) := by
  intro p e s m args below meth c T locs hx hZ hown hby hml hret hlk hnm hce hsl X eT N
  subst hp hn
  obtain ⟨cl, A, q, hl, hft⟩ := A
  obtain ⟨s₂, o, h1, h2⟩ := k p e s m args below meth c T locs hx hZ hown hby hml hret hlk hnm hce hsl X eT N
  refine ⟨s₂, o, X.arraylength hx (by rw [eT]; exact A.1) (State.isArrayOf_alike hZ.alike A.2.1) (g := mkF m pc Ls (.ref a :: st)) rfl rfl (hb hby hd) _ ?_, h2⟩
  rw [own_size q]; exact h1
theorem own_iaload {a : Addr} {vs : List Value} {j : Int32} {v : Value} (A : own_A Z h a .int vs) (h0 : ¬ j < 0) (hv : vs[j.toNatClampNeg]? = some v) (hd : decode bytes pc = .ok (.iaload, 1)) (hp : pc + 1 = pc') (k : own_W l Z y bytes ml ret R n0 Q h cells slots pc' Ls (v :: st)) : own_W l Z y bytes ml ret R n0 Q h cells slots pc Ls (.int j :: .ref a :: st) := by
  intro p e s m args below meth c T locs hx hZ hown hby hml hret hlk hnm hce hsl X eT N
  subst hp
  obtain ⟨cl, A, q, hl, hft⟩ := A
  obtain ⟨s₂, o, h1, h2⟩ := k p e s m args below meth c T locs hx hZ hown hby hml hret hlk hnm hce hsl X eT N
  exact ⟨s₂, o, X.iaload hx (by rw [eT]; exact A.1) (State.isArrayOf_alike hZ.alike A.2.1) A.2.2 (own_in q h0 (List.getElem?_eq_some_iff.mp hv).1) (own_get q hv) (g := mkF m pc Ls (.int j :: .ref a :: st)) rfl rfl (hb hby hd) _ h1, h2⟩
theorem own_laload {a : Addr} {vs : List Value} {j : Int32} {v : Value} (A : own_A Z h a .long vs) (h0 : ¬ j < 0) (hv : vs[j.toNatClampNeg]? = some v) (hd : decode bytes pc = .ok (.laload, 1)) (hp : pc + 1 = pc') (k : own_W l Z y bytes ml ret R n0 Q h cells slots pc' Ls (v :: st)) : own_W l Z y bytes ml ret R n0 Q h cells slots pc Ls (.int j :: .ref a :: st) := by
  intro p e s m args below meth c T locs hx hZ hown hby hml hret hlk hnm hce hsl X eT N
  subst hp
  obtain ⟨cl, A, q, hl, hft⟩ := A
  obtain ⟨s₂, o, h1, h2⟩ := k p e s m args below meth c T locs hx hZ hown hby hml hret hlk hnm hce hsl X eT N
  exact ⟨s₂, o, X.laload hx (by rw [eT]; exact A.1) (State.isArrayOf_alike hZ.alike A.2.1) A.2.2 (own_in q h0 (List.getElem?_eq_some_iff.mp hv).1) (own_get q hv) (g := mkF m pc Ls (.int j :: .ref a :: st)) rfl rfl (hb hby hd) _ h1, h2⟩
theorem own_caload {a : Addr} {vs : List Value} {j : Int32} {v : Value} (A : own_A Z h a .char vs) (h0 : ¬ j < 0) (hv : vs[j.toNatClampNeg]? = some v) (hd : decode bytes pc = .ok (.caload, 1)) (hp : pc + 1 = pc') (k : own_W l Z y bytes ml ret R n0 Q h cells slots pc' Ls (v :: st)) : own_W l Z y bytes ml ret R n0 Q h cells slots pc Ls (.int j :: .ref a :: st) := by
  intro p e s m args below meth c T locs hx hZ hown hby hml hret hlk hnm hce hsl X eT N
  subst hp
  obtain ⟨cl, A, q, hl, hft⟩ := A
  obtain ⟨s₂, o, h1, h2⟩ := k p e s m args below meth c T locs hx hZ hown hby hml hret hlk hnm hce hsl X eT N
  exact ⟨s₂, o, X.caload hx (by rw [eT]; exact A.1) (State.isArrayOf_alike hZ.alike A.2.1) A.2.2 (own_in q h0 (List.getElem?_eq_some_iff.mp hv).1) (own_get q hv) (g := mkF m pc Ls (.int j :: .ref a :: st)) rfl rfl (hb hby hd) _ h1, h2⟩
theorem own_baload {a : Addr} {vs : List Value} {j : Int32} {v : Value} (A : own_A Z h a .byte vs) (h0 : ¬ j < 0) (hv : vs[j.toNatClampNeg]? = some v) (hd : decode bytes pc = .ok (.baload, 1)) (hp : pc + 1 = pc') (k : own_W l Z y bytes ml ret R n0 Q h cells slots pc' Ls (v :: st)) : own_W l Z y bytes ml ret R n0 Q h cells slots pc Ls (.int j :: .ref a :: st) := by
  intro p e s m args below meth c T locs hx hZ hown hby hml hret hlk hnm hce hsl X eT N
  subst hp
  obtain ⟨cl, A, q, hl, hft⟩ := A
  obtain ⟨s₂, o, h1, h2⟩ := k p e s m args below meth c T locs hx hZ hown hby hml hret hlk hnm hce hsl X eT N
  exact ⟨s₂, o, X.baloadBytes hx (by rw [eT]; exact A.1) (State.isArrayOf_alike hZ.alike A.2.1) A.2.2 (own_in q h0 (List.getElem?_eq_some_iff.mp hv).1) (own_get q hv) (g := mkF m pc Ls (.int j :: .ref a :: st)) rfl rfl (hb hby hd) _ h1, h2⟩
theorem own_zaload {a : Addr} {vs : List Value} {j : Int32} {v : Value} (A : own_A Z h a .boolean vs) (h0 : ¬ j < 0) (hv : vs[j.toNatClampNeg]? = some v) (hd : decode bytes pc = .ok (.baload, 1)) (hp : pc + 1 = pc') (k : own_W l Z y bytes ml ret R n0 Q h cells slots pc' Ls (v :: st)) : own_W l Z y bytes ml ret R n0 Q h cells slots pc Ls (.int j :: .ref a :: st) := by
  intro p e s m args below meth c T locs hx hZ hown hby hml hret hlk hnm hce hsl X eT N
  subst hp
  obtain ⟨cl, A, q, hl, hft⟩ := A
  obtain ⟨s₂, o, h1, h2⟩ := k p e s m args below meth c T locs hx hZ hown hby hml hret hlk hnm hce hsl X eT N
  exact ⟨s₂, o, X.baloadBooleans hx (by rw [eT]; exact A.1) (State.isArrayOf_alike hZ.alike A.2.1) A.2.2 (own_in q h0 (List.getElem?_eq_some_iff.mp hv).1) (own_get q hv) (g := mkF m pc Ls (.int j :: .ref a :: st)) rfl rfl (hb hby hd) _ h1, h2⟩
theorem own_iastore {a : Addr} {vs : List Value} {j : Int32} {u : Int32} (A : own_A Z h a .int vs) (h0 : ¬ j < 0) (h1 : j.toNatClampNeg < vs.length) (ge : n0 ≤ a) (hd : decode bytes pc = .ok (.iastore, 1)) (hp : pc + 1 = pc') (k : ∀ h', Keep h h' [a] → own_A Z h' a .int (vs.set j.toNatClampNeg (.int u)) → own_W l Z y bytes ml ret R n0 Q h' cells slots pc' Ls st) : own_W l Z y bytes ml ret R n0 Q h cells slots pc Ls (.int u :: .int j :: .ref a :: st) := by
  intro p e s m args below meth c T locs hx hZ hown hby hml hret hlk hnm hce hsl X eT N
  subst hp
  obtain ⟨cl, A, q, hl, hft⟩ := A
  obtain ⟨T', h', X', e', W', st'⟩ := stI X hx hZ eT A (own_in q h0 h1) (g := mkF m pc Ls (.int u :: .int j :: .ref a :: st)) rfl rfl (hb hby hd)
  obtain ⟨s₂, o, h1, h2⟩ := k h' (Keep.of_wr W') (own_A.set A q hl hft rfl W') p e s m args below meth c T' _ hx hZ hown hby hml hret hlk hnm hce hsl X' e' (Fr.snoc X' N ge)
  exact ⟨s₂, o, st' _ h1, h2⟩
theorem own_lastore {a : Addr} {vs : List Value} {j : Int32} {u : Int64} (A : own_A Z h a .long vs) (h0 : ¬ j < 0) (h1 : j.toNatClampNeg < vs.length) (ge : n0 ≤ a) (hd : decode bytes pc = .ok (.lastore, 1)) (hp : pc + 1 = pc') (k : ∀ h', Keep h h' [a] → own_A Z h' a .long (vs.set j.toNatClampNeg (.long u)) → own_W l Z y bytes ml ret R n0 Q h' cells slots pc' Ls st) : own_W l Z y bytes ml ret R n0 Q h cells slots pc Ls (.long u :: .int j :: .ref a :: st) := by
  intro p e s m args below meth c T locs hx hZ hown hby hml hret hlk hnm hce hsl X eT N
  subst hp
  obtain ⟨cl, A, q, hl, hft⟩ := A
  obtain ⟨T', h', X', e', W', st'⟩ := stJ X hx hZ eT A (own_in q h0 h1) (g := mkF m pc Ls (.long u :: .int j :: .ref a :: st)) rfl rfl (hb hby hd)
  obtain ⟨s₂, o, h1, h2⟩ := k h' (Keep.of_wr W') (own_A.set A q hl hft rfl W') p e s m args below meth c T' _ hx hZ hown hby hml hret hlk hnm hce hsl X' e' (Fr.snoc X' N ge)
  exact ⟨s₂, o, st' _ h1, h2⟩
theorem own_castore {a : Addr} {vs : List Value} {j : Int32} {u : Int32} (A : own_A Z h a .char vs) (h0 : ¬ j < 0) (h1 : j.toNatClampNeg < vs.length) (ge : n0 ≤ a) (hd : decode bytes pc = .ok (.castore, 1)) (hp : pc + 1 = pc') (k : ∀ h', Keep h h' [a] → own_A Z h' a .char (vs.set j.toNatClampNeg (.int (nar .char u))) → own_W l Z y bytes ml ret R n0 Q h' cells slots pc' Ls st) : own_W l Z y bytes ml ret R n0 Q h cells slots pc Ls (.int u :: .int j :: .ref a :: st) := by
  intro p e s m args below meth c T locs hx hZ hown hby hml hret hlk hnm hce hsl X eT N
  subst hp
  obtain ⟨cl, A, q, hl, hft⟩ := A
  obtain ⟨T', h', X', e', W', st'⟩ := stC X hx hZ eT A (own_in q h0 h1) (g := mkF m pc Ls (.int u :: .int j :: .ref a :: st)) rfl rfl (hb hby hd)
  obtain ⟨s₂, o, h1, h2⟩ := k h' (Keep.of_wr W') (own_A.set A q hl hft (fits_nar_char u) W') p e s m args below meth c T' _ hx hZ hown hby hml hret hlk hnm hce hsl X' e' (Fr.snoc X' N ge)
  exact ⟨s₂, o, st' _ h1, h2⟩
theorem own_bastore {a : Addr} {vs : List Value} {j : Int32} {u : Int32} (A : own_A Z h a .byte vs) (h0 : ¬ j < 0) (h1 : j.toNatClampNeg < vs.length) (ge : n0 ≤ a) (hd : decode bytes pc = .ok (.bastore, 1)) (hp : pc + 1 = pc') (k : ∀ h', Keep h h' [a] → own_A Z h' a .byte (vs.set j.toNatClampNeg (.int (nar .byte u))) → own_W l Z y bytes ml ret R n0 Q h' cells slots pc' Ls st) : own_W l Z y bytes ml ret R n0 Q h cells slots pc Ls (.int u :: .int j :: .ref a :: st) := by
  intro p e s m args below meth c T locs hx hZ hown hby hml hret hlk hnm hce hsl X eT N
  subst hp
  obtain ⟨cl, A, q, hl, hft⟩ := A
  obtain ⟨T', h', X', e', W', st'⟩ := stB X hx hZ eT A (own_in q h0 h1) (g := mkF m pc Ls (.int u :: .int j :: .ref a :: st)) rfl rfl (hb hby hd)
  obtain ⟨s₂, o, h1, h2⟩ := k h' (Keep.of_wr W') (own_A.set A q hl hft (fits_nar_byte u) W') p e s m args below meth c T' _ hx hZ hown hby hml hret hlk hnm hce hsl X' e' (Fr.snoc X' N ge)
  exact ⟨s₂, o, st' _ h1, h2⟩
theorem own_zastore {a : Addr} {vs : List Value} {j : Int32} {u : Int32} (A : own_A Z h a .boolean vs) (h0 : ¬ j < 0) (h1 : j.toNatClampNeg < vs.length) (ge : n0 ≤ a) (hd : decode bytes pc = .ok (.bastore, 1)) (hp : pc + 1 = pc') (k : ∀ h', Keep h h' [a] → own_A Z h' a .boolean (vs.set j.toNatClampNeg (.int (nar .boolean u))) → own_W l Z y bytes ml ret R n0 Q h' cells slots pc' Ls st) : own_W l Z y bytes ml ret R n0 Q h cells slots pc Ls (.int u :: .int j :: .ref a :: st) := by
  intro p e s m args below meth c T locs hx hZ hown hby hml hret hlk hnm hce hsl X eT N
  subst hp
  obtain ⟨cl, A, q, hl, hft⟩ := A
  obtain ⟨T', h', X', e', W', st'⟩ := stZ X hx hZ eT A (own_in q h0 h1) (g := mkF m pc Ls (.int u :: .int j :: .ref a :: st)) rfl rfl (hb hby hd)
  obtain ⟨s₂, o, h1, h2⟩ := k h' (Keep.of_wr W') (own_A.set A q hl hft (fits_nar_bool u) W') p e s m args below meth c T' _ hx hZ hown hby hml hret hlk hnm hce hsl X' e' (Fr.snoc X' N ge)
  exact ⟨s₂, o, st' _ h1, h2⟩
theorem own_newarrE {aty : ArrayType} {ty : FieldType} {n : Int32} {cap : Nat} (w : (Jvm.Cond.arrayClass ty).before a0 Z = true) (ht : newarray.typeOf aty = ty) (hd : decode bytes pc = .ok (.newarray aty, 2)) (hp : pc + 2 = pc') (hn : ¬ n < 0) (hcap : n.toNatClampNeg ≤ cap) (hb8 : cap * 8 ≤ 536870912) (hc : cells + 1 ≤ R.cells) (hl : slots + cap ≤ R.slots)
    (k : ∀ (h' : Heap) (a : Addr), h.size ≤ a → a < h'.size → Ext h h' → own_A Z h' a ty (List.replicate n.toNatClampNeg (defaultValue ty)) → Exa Z h' a ("[" ++ ty.toString) → own_W l Z y bytes ml ret R n0 Q h' (cells + 1) (slots + cap) pc' Ls (.ref a :: st)) : own_W l Z y bytes ml ret R n0 Q h cells slots pc Ls (.int n :: st) := by
  intro p e s m args below meth c T locs hx hZ hown hby hml hret hlk hnm hce hsl X eT N
  subst hp ht
  have hcb : componentBytes (newarray.typeOf aty) ≤ 8 := by cases aty <;> decide
  obtain ⟨cA, kA, comp, g1, g2, g3, X', st'⟩ := X.newarrayPrim hx (mvA hZ w) (g := mkF m pc Ls (.int n :: st)) rfl (hb hby hd) rfl hn (Nat.le_trans (Nat.mul_le_mul hcap hcb) hb8) hc (by omega)
  rw [hZ.alike.findClass] at g1
  obtain ⟨kZ, z1, -⟩ := Vm.findClass_spec g1
  obtain ⟨k', z2, z3⟩ := hZ.alike.2.2 _ _ z1
  cases g2.symm.trans z2
  have kk : kZ.kind = .array comp (newarray.typeOf aty) := by rw [← g3, z3]
  have hN : (T.heap.push ({ cls := cA, slots := Array.replicate n.toNatClampNeg (defaultValue (newarray.typeOf aty)), vm := .none } : Cell))[T.heap.size]? = some { cls := cA, slots := Array.replicate n.toNatClampNeg (defaultValue (newarray.typeOf aty)), vm := .none } := by simp
  have E' : Ext h (T.heap.push ({ cls := cA, slots := Array.replicate n.toNatClampNeg (defaultValue (newarray.typeOf aty)), vm := .none } : Cell)) := by
    subst eT
    refine ⟨by simp, fun b cc hb' => ?_⟩
    rw [Array.getElem?_push_lt (Array.getElem?_eq_some_iff.mp hb').1]; exact (Array.getElem?_eq_getElem _).symm.trans hb'
  have A' : own_A Z (T.heap.push ({ cls := cA, slots := Array.replicate n.toNatClampNeg (defaultValue (newarray.typeOf aty)), vm := .none } : Cell)) T.heap.size (newarray.typeOf aty) (List.replicate n.toNatClampNeg (defaultValue (newarray.typeOf aty))) :=
    ⟨_, ⟨hN, ⟨by simp, kZ, z1, comp, kk⟩, by simp⟩, by simp, by simp only [List.length_replicate]; exact (back32 hn).2, fun v hv => by rw [(List.mem_replicate.mp hv).2]; exact own_fitd _⟩
  have X2 := X'.more (Nat.le_refl _) (Nat.add_le_add_left hcap slots)
  obtain ⟨s₂, o, h1, h2⟩ := k _ T.heap.size (by rw [eT]; exact Nat.le_refl _) A'.lt E' A' ⟨_, kZ, hN, g1, z1, rfl, fun q => by rw [kk] at q; cases q⟩ p e s m args below meth c _ _ hx hZ hown hby hml hret hlk hnm hc hl X2 rfl N
  exact ⟨s₂, o, st' _ h1, h2⟩
theorem own_newarr {aty : ArrayType} {ty : FieldType} {n : Int32} {cap : Nat} (w : (Jvm.Cond.arrayClass ty).before a0 Z = true) (ht : newarray.typeOf aty = ty) (hd : decode bytes pc = .ok (.newarray aty, 2)) (hp : pc + 2 = pc') (hn : ¬ n < 0) (hcap : n.toNatClampNeg ≤ cap) (hb8 : cap * 8 ≤ 536870912) (hc : cells + 1 ≤ R.cells) (hl : slots + cap ≤ R.slots)
    (k : ∀ (h' : Heap) (a : Addr), h.size ≤ a → a < h'.size → Ext h h' → own_A Z h' a ty (List.replicate n.toNatClampNeg (defaultValue ty)) → own_W l Z y bytes ml ret R n0 Q h' (cells + 1) (slots + cap) pc' Ls (.ref a :: st)) : own_W l Z y bytes ml ret R n0 Q h cells slots pc Ls (.int n :: st) :=
  own_newarrE w ht hd hp hn hcap hb8 hc hl fun h' a q1 q2 q3 q4 _ => k h' a q1 q2 q3 q4
theorem own_cast {idx : Nat} {K : String} {a : Addr} (w : (Jvm.Cond.classLink y.cls idx K).before a0 Z = true) (F : Ins Z h a K true) (hd : decode bytes pc = .ok (.checkcast idx, 3)) (hp : pc + 3 = pc') (k : own_W l Z y bytes ml ret R n0 Q h cells slots pc' Ls (.ref a :: st)) : own_W l Z y bytes ml ret R n0 Q h cells slots pc Ls (.ref a :: st) := by
  intro p e s m args below meth c T locs hx hZ hown hby hml hret hlk hnm hce hsl X eT N
  subst hp
  obtain ⟨T', X', e', st'⟩ := castY X hx hZ hown w eT F (g := mkF m pc Ls (.ref a :: st)) rfl rfl (hb hby hd)
  obtain ⟨s₂, o, h1, h2⟩ := k p e s m args below meth c T' locs hx hZ hown hby hml hret hlk hnm hce hsl X' e' N
  exact ⟨s₂, o, st' _ h1, h2⟩
theorem own_clone {ad : String} {idx W cap : Nat} {a : Addr} {ty : FieldType} {vs : List Value} (w1 : (Jvm.Cond.methodLink y.cls idx ⟨ad, "clone", "()Ljava/lang/Object;"⟩).before a0 Z = true) (w2 : (Jvm.Cond.sameMethod ad "java/lang/Object" "clone" "()Ljava/lang/Object;").before a0 Z = true) (w3 : (Jvm.Cond.native ⟨"java/lang/Object", "clone", "()Ljava/lang/Object;"⟩).before a0 Z = true)
    (w4 : (Jvm.Cond.instanceMethod ⟨"java/lang/Object", "clone", "()Ljava/lang/Object;"⟩).before a0 Z = true) (w5 : (Jvm.Cond.selects ad ⟨ad, "clone", "()Ljava/lang/Object;"⟩ ⟨"java/lang/Object", "clone", "()Ljava/lang/Object;"⟩).before a0 Z = true) (w6 : (Jvm.Cond.castable ad "java/lang/Cloneable").before a0 Z = true)
    (A : own_A Z h a ty vs) (E : Exa Z h a ad) (hd : decode bytes pc = .ok (.invokevirtual idx, 3)) (hp : pc + 3 = pc') (hsz : Ls.size = ml) (hf : 1 ≤ R.frames) (hW : (st.map fun v => v.category).sum ≤ W) (hl : W + 14 ≤ R.locals) (hcap : vs.length ≤ cap) (hc : cells + 1 ≤ R.cells) (hsl' : slots + cap ≤ R.slots)
    (k : ∀ (h' : Heap) (b : Addr), h.size ≤ b → b < h'.size → Ext h h' → own_A Z h' b ty vs → Exa Z h' b ad → own_W l Z y bytes ml ret R n0 Q h' (cells + 1) (slots + cap) pc' Ls (.ref b :: st)) : own_W l Z y bytes ml ret R n0 Q h cells slots pc Ls (.ref a :: st) := by
  intro p e s m args below meth c T locs hx hZ hown hby hml hret hlk hnm hce hsl X eT N
  subst hp
  obtain ⟨cl, A, q, hlen, hft⟩ := A
  have F : FitC Z cl := fun i v hv => by
    obtain ⟨-, k, hk, comp, hkind⟩ := A.2.1
    have e1 : Z.slotType? cl.cls .none i = some ty := by simp [State.slotType?, hk, hkind]
    have mem : v ∈ vs := by rw [← q]; rw [← Array.getElem?_toList] at hv; exact List.mem_of_getElem? hv
    simpa [State.fitsSlot, e1] using hft v mem
  obtain ⟨T', h', X', e', E', A', E2, st'⟩ := cloneA X hx hZ hown w1 w2 w3 w4 w5 w6 eT A E F (g := mkF m pc Ls (.ref a :: st)) rfl (by rw [hml]; exact hsz) rfl (hb hby hd) hf (W := W) (by show 2 * 0 + _ ≤ _; omega) hl (cap := cap) (by rw [own_size q]; exact hcap) hc hsl'
  obtain ⟨s₂, o, h1, h2⟩ := k h' h.size (Nat.le_refl _) A'.lt E' ⟨_, A', q, hlen, hft⟩ E2 p e s m args below meth c T' locs hx hZ hown hby hml hret hlk hnm hc hsl' X' e' N
  exact ⟨s₂, o, st' _ h1, h2⟩
theorem own_getD {α : Type} (l : List α) (d : α) {i : Nat} (h : i < l.length) : l.getD i d = l[i] := by
  rw [List.getD_eq_getElem?_getD, List.getElem?_eq_getElem h]; rfl
theorem own_len32 {n : Nat} (h : n < 2 ^ 31) : n.toInt32.toNatClampNeg = n ∧ ¬ n.toInt32 < 0 := by
  have e := len_toInt h
  have z : (0 : Int32).toInt = 0 := rfl
  exact ⟨by rw [Int32.toNatClampNeg, e]; rfl, by rw [Int32.lt_iff_toInt_lt, e, z]; omega⟩
theorem own_A.arv {a : Addr} {ty : FieldType} {vs : List Value} (A : own_A Z h a ty vs) (d : Value) : ∃ k, Arv Z h a k ty vs.length.toInt32 vs d := by
  obtain ⟨c, A, q, hl, hft⟩ := A
  have e := own_len32 hl
  refine ⟨c.cls, c, A, rfl, by rw [e.1]; exact own_size q, e.2, fun k hk => ?_, fun k hk => ?_⟩
  · rw [own_size q] at hk
    refine own_get q ?_
    rw [own_getD _ _ hk]; exact List.getElem?_eq_getElem hk
  · rw [own_size q] at hk
    rw [own_getD _ _ hk]; exact hft _ (List.getElem_mem hk)
theorem own_A.ofArv {a : Addr} {ty : FieldType} {vs : List Value} {k : ClassId} {z : Int32} {d : Value} (A : Arv Z h a k ty z vs d) (hz : z.toNatClampNeg = vs.length) (hl : vs.length < 2 ^ 31) : own_A Z h a ty vs := by
  obtain ⟨c, A, -, hs, -, H, G⟩ := A
  have e : c.slots.toList = vs := by
    apply List.ext_getElem?
    intro i
    by_cases hi : i < vs.length
    · rw [Array.getElem?_toList, H i (by omega), own_getD _ _ hi, List.getElem?_eq_getElem hi]
    · rw [List.getElem?_eq_none (by rw [Array.length_toList]; omega), List.getElem?_eq_none (by omega)]
  refine ⟨c, A, e, hl, fun v hv => ?_⟩
  obtain ⟨i, hi, rfl⟩ := List.mem_iff_getElem.mp hv
  have := G i (by omega)
  rwa [own_getD _ _ hi] at this
theorem own_slice (vs : List Value) (d : Value) (p n : Nat) (h : p + n ≤ vs.length) : (vs.drop p).take n = (List.range n).map fun i => vs.getD (p + i) d := by
  apply List.ext_getElem
  · simp; omega
  · intro i h1 h2
    simp only [List.length_map, List.length_range] at h2
    simp [List.getD_eq_getElem?_getD, show p + i < vs.length by omega]
theorem own_acopy {idx W : Nat} {a b : Addr} {ty : FieldType} {vs vd : List Value} {sp dp nn : Int32} (w1 : (Jvm.Cond.methodLink y.cls idx Jvm.Stand.acN).before a0 Z = true) (w2 : (Jvm.Cond.native Jvm.Stand.acN).before a0 Z = true) (w3 : (Jvm.Cond.static Jvm.Stand.acN).before a0 Z = true) (w4 : (Jvm.Cond.initialized "java/lang/System").before a0 Z = true)
    (A : own_A Z h a ty vs) (B : own_A Z h b ty vd) (hty : refKind ty = false) (h1 : ¬ sp < 0) (h2 : ¬ dp < 0) (h3 : ¬ nn < 0) (h4 : sp.toNatClampNeg + nn.toNatClampNeg ≤ vs.length) (h5 : dp.toNatClampNeg + nn.toNatClampNeg ≤ vd.length) (ge : n0 ≤ b)
    (hd : decode bytes pc = .ok (.invokestatic idx, 3)) (hp : pc + 3 = pc') (hsz : Ls.size = ml) (hf : 1 ≤ R.frames) (hW : (st.map fun v => v.category).sum ≤ W) (hlo : W + (nativeFrameWords "java/lang/System" "arraycopy" 5 + 11) ≤ R.locals)
    (k : ∀ h', Keep h h' [b] → own_A Z h' b ty (vd.take dp.toNatClampNeg ++ (vs.drop sp.toNatClampNeg).take nn.toNatClampNeg ++ vd.drop (dp.toNatClampNeg + nn.toNatClampNeg)) → own_W l Z y bytes ml ret R n0 Q h' cells slots pc' Ls st) : own_W l Z y bytes ml ret R n0 Q h cells slots pc Ls (.int nn :: .int dp :: .ref b :: .int sp :: .ref a :: st) := by
  intro p e s m args below meth c T locs hx hZ hown hby hml hret hlk hnm hce hsl X eT N
  subst hp
  have hlv : vs.length < 2 ^ 31 := by obtain ⟨_, _, _, q, _⟩ := A; exact q
  have hld : vd.length < 2 ^ 31 := by obtain ⟨_, _, _, q, _⟩ := B; exact q
  obtain ⟨k1, A1⟩ := A.arv .null
  obtain ⟨k2, B1⟩ := B.arv .null
  have e1 := own_len32 hlv
  have e2 := own_len32 hld
  obtain ⟨T', h', L, X', e', N', K', B', st'⟩ := cpA X hx hZ hown w1 w2 w3 w4 eT A1 B1 (Or.inl ⟨rfl, hty⟩) h1 h2 h3 (by rw [e1.1]; exact h4) (by rw [e2.1]; exact h5) (own_slice vs .null _ _ h4) h5 N ge (g := mkF m pc Ls (.int nn :: .int dp :: .ref b :: .int sp :: .ref a :: st)) rfl (by rw [hml]; exact hsz) rfl (hb hby hd) hf (W := W) (by show 2 * 0 + _ ≤ _; omega) hlo
  have hlen : (vd.take dp.toNatClampNeg ++ (vs.drop sp.toNatClampNeg).take nn.toNatClampNeg ++ vd.drop (dp.toNatClampNeg + nn.toNatClampNeg)).length = vd.length := by
    simp only [List.length_append, List.length_take, List.length_drop]; omega
  obtain ⟨s₂, o, q1, q2⟩ := k h' K' (own_A.ofArv B' (by rw [e2.1, hlen]) (by rw [hlen]; exact hld)) p e s m args below meth c T' L hx hZ hown hby hml hret hlk hnm hce hsl X' e' N'
  exact ⟨s₂, o, st' _ q1, q2⟩
theorem own_met {z : MethodName} {rm : Room} {argsL : List Value} {Lc : Array Slot} (hC : own_W l Z z bytes ml ret rm n0 Q h 0 0 0 Lc []) (pn : plainFor z = true) (hent : Jvm.Sym.laidSlots argsL ++ List.replicate (ml - (Jvm.Sym.laidSlots argsL).length) .unset = Lc.toList) (ws : List Jvm.Cond) :
    MetFree l z (head1 (Jvm.Cond.code z bytes ml ret :: ws) rm) (fun a U => a = argsL.toArray ∧ Z.Warmed39 U.vm ∧ U.heap = h) (fun _ _ _ _ _ => True) (fun _ U o U' => ∃ v L, o = .returned v ∧ (Q v U'.heap ∧ Fr n0 L) ∧ FrameEnd U o U' L rm.cells rm.slots) := by
  refine MetFree.of_bodySF pn hisR ?_
  intro p e s m args below meth c s₁ Bd hml0 hP hK
  obtain ⟨rfl, hZ, hh⟩ := hP
  obtain ⟨s₂, o, h1, h2, h3, h4⟩ := hC p e s m _ below meth c s₁ [] Bd.exec hZ (findClass_of_methodNamed Bd.named) Bd.bytes hml0 Bd.returns Bd.notSynchronized (name_of_methodNamed Bd.named Bd.method).1 (Nat.zero_le _) (Nat.zero_le _) (Stand.of_body Bd) (by rw [← hh, Bd.state]; rfl) (Fr.nil n0)
  exact ⟨s₂, o, (XT.entry (by simpa using hent)).trans h1, h2, h3, h4⟩
theorem own_static {z : MethodName} {bytes' : ByteArray} {ml' : Nat} {ret' : Option FieldType} {rm : Room} {Qc : Option Value → Heap → Prop} {Lc : Array Slot} {argsL rest : List Value} {ps : List FieldType} {rt : Option FieldType} {idx W : Nat} (hC : own_W l Z z bytes' ml' ret' rm n0 Qc h 0 0 0 Lc []) (w1 : (Jvm.Cond.methodLink y.cls idx z).before a0 Z = true) (w2 : (Jvm.Cond.static z).before a0 Z = true) (w3 : (Jvm.Cond.initialized z.cls).before a0 Z = true) (w4 : (Jvm.Cond.code z bytes' ml' ret').before a0 Z = true) (pn : plainFor z = true) (hy : z.cls ≠ "java/lang/invoke/MethodHandle" ∧ z.cls ≠ "java/lang/invoke/VarHandle") (pd : parseMethodDescriptor z.desc = some ⟨ps, rt⟩) (hlen : argsL.length = ps.length)
    (hst : st = argsL.reverse ++ rest) (hent : Jvm.Sym.laidSlots argsL ++ List.replicate (ml' - (Jvm.Sym.laidSlots argsL).length) .unset = Lc.toList) (hW : (rest.map fun v => v.category).sum ≤ W) (hfr : rm.frames + 1 ≤ R.frames) (hlo : W + (ml' + 11) + rm.locals ≤ R.locals) (hce' : cells + rm.cells ≤ R.cells) (hsl' : slots + rm.slots ≤ R.slots) (hsz : Ls.size = ml) (hd : decode bytes pc = .ok (.invokestatic idx, 3)) (hp : pc + 3 = pc') (k : ∀ v h', Qc v h' → own_W l Z y bytes ml ret R n0 Q h' (cells + rm.cells) (slots + rm.slots) pc' Ls (v.toList ++ rest)) : own_W l Z y bytes ml ret R n0 Q h cells slots pc Ls st := by
  intro p e s m args below meth c T locs hx hZ hown hby hml hret hlk hnm hce hsl X eT N
  subst hp
  obtain ⟨v, vm₁, ⟨T1, L1, k1, n1⟩, -, X1, ⟨Lc1, hQ1, l1, y1, z1⟩, st1⟩ := Jvm.LawKit.callS X hx (y := z) hown (mvT hZ w1) (mvT hZ w2) (mvT hZ w3) (mvT hZ w4) hy (backOf (W := W) (Q := fun v h L => Qc v h ∧ Fr n0 L) (own_met hC pn hent []) hZ w4 w3 hfr hlo) (g := mkF m pc Ls st) rfl (by rw [hml]; exact hsz) (argsL := argsL) (rest := rest) (lenOf pd hlen) hst (by show 2 * 0 + _ ≤ _; omega) (hb hby hd) (fun _ _ => ⟨rfl, eT, hce', hsl'⟩)
  dsimp only [Pt.U, Pt.locs, Pt.cells, Pt.slots] at X1 l1 y1 z1 st1 hQ1
  subst l1 y1 z1
  obtain ⟨s₂, o, h1, h2⟩ := k v T1.heap hQ1.1 p e s m args below meth c T1 _ hx hZ hown hby hml hret hlk hnm hce' hsl' X1 rfl (Fr.app N hQ1.2)
  exact ⟨s₂, o, st1 _ h1, h2⟩
theorem own_special {z : MethodName} {bytes' : ByteArray} {ml' : Nat} {ret' : Option FieldType} {rm : Room} {Qc : Option Value → Heap → Prop} {Lc : Array Slot} {argsL rest : List Value} {ps : List FieldType} {rt : Option FieldType} {idx W : Nat} {a : Addr} (hC : own_W l Z z bytes' ml' none rm n0 Qc h 0 0 0 Lc []) (w1 : (Jvm.Cond.methodLink y.cls idx z).before a0 Z = true) (w2 : (Jvm.Cond.instanceMethod z).before a0 Z = true) (w3 : (Jvm.Cond.initialized z.cls).before a0 Z = true) (w4 : (Jvm.Cond.code z bytes' ml' none).before a0 Z = true) (hzn : z.name = "<init>") (pn : plainFor z = true) (hy : z.cls ≠ "java/lang/invoke/MethodHandle" ∧ z.cls ≠ "java/lang/invoke/VarHandle") (pd : parseMethodDescriptor z.desc = some ⟨ps, rt⟩) (hlen : argsL.length = ps.length)
    (hst : st = argsL.reverse ++ .ref a :: rest) (hent : Jvm.Sym.laidSlots (.ref a :: argsL) ++ List.replicate (ml' - (Jvm.Sym.laidSlots (.ref a :: argsL)).length) .unset = Lc.toList) (hW : (rest.map fun v => v.category).sum ≤ W) (hfr : rm.frames + 1 ≤ R.frames) (hlo : W + (ml' + 11) + rm.locals ≤ R.locals) (hce' : cells + rm.cells ≤ R.cells) (hsl' : slots + rm.slots ≤ R.slots) (hsz : Ls.size = ml) (hd : decode bytes pc = .ok (.invokespecial idx, 3)) (hp : pc + 3 = pc') (k : ∀ v h', Qc v h' → own_W l Z y bytes ml ret R n0 Q h' (cells + rm.cells) (slots + rm.slots) pc' Ls (v.toList ++ rest)) : own_W l Z y bytes ml ret R n0 Q h cells slots pc Ls st := by
  intro p e s m args below meth c T locs hx hZ hown hby hml hret hlk hnm hce hsl X eT N
  subst hp
  obtain ⟨v, vm₁, ⟨T1, L1, k1, n1⟩, -, X1, ⟨Lc1, hQ1, l1, y1, z1⟩, st1⟩ := X.specialBack hx (y := z) hzn hown (mvT hZ w1) (mvT hZ w2) (mvT hZ w4) hy (backOf (W := W) (Q := fun v h L => Qc v h ∧ Fr n0 L) (own_met hC pn hent []) hZ w4 w3 hfr hlo) (g := mkF m pc Ls st) rfl (by rw [hml]; exact hsz) (Steps.refl _) (a := a) (argsL := argsL) (rest := rest) (lenOf pd hlen) hst (by show 2 * 0 + _ ≤ _; omega) (hb hby hd) (fun _ _ => ⟨rfl, eT, hce', hsl'⟩)
  dsimp only [Pt.U, Pt.locs, Pt.cells, Pt.slots] at X1 l1 y1 z1 st1 hQ1
  subst l1 y1 z1
  obtain ⟨s₂, o, h1, h2⟩ := k v T1.heap hQ1.1 p e s m args below meth c T1 _ hx hZ hown hby hml hret hlk hnm hce' hsl' X1 rfl (Fr.app N hQ1.2)
  exact ⟨s₂, o, st1.trans h1, h2⟩
theorem own_virtual {z : MethodName} {bytes' : ByteArray} {ml' : Nat} {ret' : Option FieldType} {rm : Room} {Qc : Option Value → Heap → Prop} {Lc : Array Slot} {argsL rest : List Value} {ps : List FieldType} {rt : Option FieldType} {idx W : Nat} {a : Addr} {C : String} (hC : own_W l Z z bytes' ml' ret' rm n0 Qc h 0 0 0 Lc []) (E : Exa Z h a C) (w1 : (Jvm.Cond.methodLink y.cls idx z).before a0 Z = true) (w2 : (Jvm.Cond.declares z).before a0 Z = true) (w5 : (Jvm.Cond.selects C z z).before a0 Z = true) (w6 : (Jvm.Cond.instanceMethod z).before a0 Z = true) (w3 : (Jvm.Cond.initialized z.cls).before a0 Z = true) (w4 : (Jvm.Cond.code z bytes' ml' ret').before a0 Z = true) (pn : plainFor z = true) (hy : z.cls ≠ "java/lang/invoke/MethodHandle" ∧ z.cls ≠ "java/lang/invoke/VarHandle") (pd : parseMethodDescriptor z.desc = some ⟨ps, rt⟩) (hlen : argsL.length = ps.length)
    (hst : st = argsL.reverse ++ .ref a :: rest) (hent : Jvm.Sym.laidSlots (.ref a :: argsL) ++ List.replicate (ml' - (Jvm.Sym.laidSlots (.ref a :: argsL)).length) .unset = Lc.toList) (hW : (rest.map fun v => v.category).sum ≤ W) (hfr : rm.frames + 1 ≤ R.frames) (hlo : W + (ml' + 11) + rm.locals ≤ R.locals) (hce' : cells + rm.cells ≤ R.cells) (hsl' : slots + rm.slots ≤ R.slots) (hsz : Ls.size = ml) (hd : decode bytes pc = .ok (.invokevirtual idx, 3)) (hp : pc + 3 = pc') (k : ∀ v h', Qc v h' → own_W l Z y bytes ml ret R n0 Q h' (cells + rm.cells) (slots + rm.slots) pc' Ls (v.toList ++ rest)) : own_W l Z y bytes ml ret R n0 Q h cells slots pc Ls st := by
  intro p e s m args below meth c T locs hx hZ hown hby hml hret hlk hnm hce hsl X eT N
  subst hp
  obtain ⟨cq, kq, qa, qb, qc⟩ := isOf hZ eT E
  obtain ⟨v, vm₁, ⟨T1, L1, k1, n1⟩, -, X1, ⟨Lc1, hQ1, l1, y1, z1⟩, st1⟩ := X.virtualBack hx (y := z) (z := z) hown (mvT hZ w1) (mvT hZ w2) (notFace_of_selects (args := #[]) (mvT hZ w5)) (mvT hZ w5) (mvT hZ w6) hy (backOf (W := W) (Q := fun v h L => Qc v h ∧ Fr n0 L) (own_met hC pn hent []) hZ w4 w3 hfr hlo) qa qc (g := mkF m pc Ls st) rfl (by rw [hml]; exact hsz) (Steps.refl _) (argsL := argsL) (rest := rest) (lenOf pd hlen) hst (by show 2 * 0 + _ ≤ _; omega) (hb hby hd) (fun _ _ => ⟨rfl, eT, hce', hsl'⟩)
  dsimp only [Pt.U, Pt.locs, Pt.cells, Pt.slots] at X1 l1 y1 z1 st1 hQ1
  subst l1 y1 z1
  obtain ⟨s₂, o, h1, h2⟩ := k v T1.heap hQ1.1 p e s m args below meth c T1 _ hx hZ hown hby hml hret hlk hnm hce' hsl' X1 rfl (Fr.app N hQ1.2)
  exact ⟨s₂, o, st1.trans h1, h2⟩
theorem own_private {z : MethodName} {bytes' : ByteArray} {ml' : Nat} {ret' : Option FieldType} {rm : Room} {Qc : Option Value → Heap → Prop} {Lc : Array Slot} {argsL rest : List Value} {ps : List FieldType} {rt : Option FieldType} {idx W : Nat} {a : Addr} {C : String} {kk : Nat} (hC : own_W l Z z bytes' ml' ret' rm n0 Qc h 0 0 0 Lc []) (E : Exa Z h a C) (w1 : (Jvm.Cond.methodLink y.cls idx z).before a0 Z = true) (w6 : (Jvm.Cond.instanceMethod z).before a0 Z = true) (wp : (Jvm.Cond.privateMethod z).before a0 Z = true) (wi : (Jvm.Cond.instantiable z.cls kk).before a0 Z = true) (w3 : (Jvm.Cond.initialized z.cls).before a0 Z = true) (w4 : (Jvm.Cond.code z bytes' ml' ret').before a0 Z = true) (pn : plainFor z = true) (hy : z.cls ≠ "java/lang/invoke/MethodHandle" ∧ z.cls ≠ "java/lang/invoke/VarHandle") (pd : parseMethodDescriptor z.desc = some ⟨ps, rt⟩) (hlen : argsL.length = ps.length)
    (hst : st = argsL.reverse ++ .ref a :: rest) (hent : Jvm.Sym.laidSlots (.ref a :: argsL) ++ List.replicate (ml' - (Jvm.Sym.laidSlots (.ref a :: argsL)).length) .unset = Lc.toList) (hW : (rest.map fun v => v.category).sum ≤ W) (hfr : rm.frames + 1 ≤ R.frames) (hlo : W + (ml' + 11) + rm.locals ≤ R.locals) (hce' : cells + rm.cells ≤ R.cells) (hsl' : slots + rm.slots ≤ R.slots) (hsz : Ls.size = ml) (hd : decode bytes pc = .ok (.invokevirtual idx, 3)) (hp : pc + 3 = pc') (k : ∀ v h', Qc v h' → own_W l Z y bytes ml ret R n0 Q h' (cells + rm.cells) (slots + rm.slots) pc' Ls (v.toList ++ rest)) : own_W l Z y bytes ml ret R n0 Q h cells slots pc Ls st := by
  intro p e s m args below meth c T locs hx hZ hown hby hml hret hlk hnm hce hsl X eT N
  subst hp
  obtain ⟨c2, k2, i1, i2, i3, i4, -⟩ := Cond.instantiable_spec (mvT (args := args) hZ wi)
  have hpr := Cond.privateMethod_at (mvP (args := #[]) hZ wp)
  have hsel := Jvm.Stand.selects_self_of_private (args := args) i1 i2 (Bool.or_eq_false_iff.mp i4).1 hpr (mvT hZ w6) hy
  obtain ⟨cell, qc, qo⟩ := E.cell
  obtain ⟨v, vm₁, ⟨T1, L1, k1, n1⟩, -, X1, ⟨Lc1, hQ1, l1, y1, z1⟩, st1⟩ := X.privateBack hx (y := z) hown (mvT hZ w1) (mvT hZ w6) hsel hpr (mvT hZ w4) hy (backOf (W := W) (Q := fun v h L => Qc v h ∧ Fr n0 L) (own_met hC pn hent []) hZ w4 w3 hfr hlo) (g := mkF m pc Ls st) rfl (by rw [hml]; exact hsz) (Steps.refl _) (a := a) (by rw [eT]; exact qc) qo (argsL := argsL) (rest := rest) (lenOf pd hlen) hst (by show 2 * 0 + _ ≤ _; omega) (hb hby hd) (fun _ _ => ⟨rfl, eT, hce', hsl'⟩)
  dsimp only [Pt.U, Pt.locs, Pt.cells, Pt.slots] at X1 l1 y1 z1 st1 hQ1
  subst l1 y1 z1
  obtain ⟨s₂, o, h1, h2⟩ := k v T1.heap hQ1.1 p e s m args below meth c T1 _ hx hZ hown hby hml hret hlk hnm hce' hsl' X1 rfl (Fr.app N hQ1.2)
  exact ⟨s₂, o, st1.trans h1, h2⟩
theorem own_refBack {p : Program} {e : Env} {s : State} {m : MethodId} {args : Array Value} {below : List Frame} {meth : Method} {c : Code} {T : State} {locs : List Loc} (X : Stand p l e R s m args below meth c T locs cells slots) (hexec : p.tables.exec = Jvm.exec) (hZ : Z.Warmed39 s.vm) {own : String} {index : Nat} {z : MethodName} (hzn : z.name = "<init>")
    (hown : s.vm.findClass own = some m.cls) (w1 : (Jvm.Cond.methodRef own index z).before a0 Z = true) (w2 : (Jvm.Cond.instanceMethod z).before a0 Z = true) {bytes' : ByteArray} {maxL : Nat} (w4 : (Jvm.Cond.code z bytes' maxL none).before a0 Z = true)
    (hy : z.cls ≠ "java/lang/invoke/MethodHandle" ∧ z.cls ≠ "java/lang/invoke/VarHandle") {W : Nat} {Pre : Pt → Array Value → Prop} {Post : Pt → Array Value → Option Value → Pt → Prop} (hK : Back l R p e below s args z 3 W Pre Post)
    {g : JFrame} (hg : g.method = m) (hsize : g.locals.size = c.maxLocals) {a : Addr} {argsL rest : List Value} (hlen : ∀ sig, parseMethodDescriptor z.desc = some sig → argsL.length = sig.parameters.length) (hstack : g.stack = argsL.reverse ++ .ref a :: rest) (hW : 2 * g.monitorRoom + (rest.map fun v => v.category).sum ≤ W)
    (hdg : decode c.code g.pc = .ok (.invokespecial index, 3)) (hpre : Pre ⟨T, locs, cells, slots⟩ (.ref a :: argsL).toArray) :
    ∃ (v : Option Value) (B : Pt), Stand p l e R s m args below meth c B.U B.locs B.cells B.slots ∧ Post ⟨T, locs, cells, slots⟩ (.ref a :: argsL).toArray v B ∧ Steps p.tables e below (T.setTop g) (B.U.setTop { g with pc := g.pc + 3, stack := v.toList ++ rest }) := by
  obtain ⟨obj, methO, hnO, hmO, hstO, habO⟩ := Cond.instanceMethod_spec (mvT (args := args) hZ w2)
  obtain ⟨methO', cO, hmO', hcO, -, -, -, -, -, hsigO⟩ := Cond.code_spec hnO (mvT (args := args) hZ w4)
  cases hmO.symm.trans hmO'
  obtain ⟨kO, hkO, hnameO⟩ := className_of_methodNamed hnO
  obtain ⟨hnameMO, hdescO⟩ := name_of_methodNamed hnO hmO
  have hU : Z.Warmed39 T.vm := wtrans hZ X.warmed
  obtain ⟨objZ, methZ, hnZ, -⟩ := Cond.instanceMethod_spec w2
  have hT := Cond.methodRef_warmed39 hU hnZ hy w1
  have hownT : (Z.setVm T.vm).vm.findClass own = some m.cls := by show T.vm.findClass own = _; rw [X.warmed.alike.findClass]; exact hown
  obtain ⟨m', c', f1, f2, f3, f4⟩ := Cond.methodRef_named (s := Z.setVm T.vm) e hownT hT
  have hnT : T.methodNamed? z = some obj := X.named hnO
  have hn' : (Z.setVm T.vm).methodNamed? z = some obj := hnT
  cases (State.methodFound?_of_named hn' hy).symm.trans f1
  cases (findClass_of_methodNamed hn').symm.trans f3
  obtain ⟨kO', hkT, -⟩ := X.warmed.alike.2.2 _ _ hkO
  have hmT : T.vm.method? obj = some methO := by rw [X.warmed.alike.method?]; exact hmO
  have hfound : lookupSpecial T.vm obj.cls "<init>" methO.desc = .method obj := by rw [hdescO, ← hzn]; exact lookupSpecial_of_named hnT hmT hstO
  have hstep : ∀ target, (∀ acts, Steps p.tables e below (doInvoke e (T.setTop { g with stack := rest }) acts obj (.ref a :: argsL).toArray).1 target) → Steps p.tables e below (T.setTop g) target := by
    intro target hrest
    subst hg
    jvm_step X.here [hexec, hdg, invokespecial.wp_init (e := e) (s := T) (k := kO') (meth := methO) (m := obj) (a := a) (args := argsL) (rest := rest) (f := g) X.here.top f4 f2 hkT hmT (by rw [hnameMO]; exact hzn) hstO habO hfound (hlen _ hsigO) hstack]
    exact hrest
  obtain ⟨v, B, X', hpost, hsteps⟩ := hK m meth c ⟨T, locs, cells, slots⟩ { g with stack := rest } (.invokespecial index) obj (.ref a :: argsL).toArray X hg hsize hdg hW hnT hpre
  exact ⟨v, B, X', hpost, hstep _ fun acts => by rw [doInvoke_state]; exact hsteps⟩
theorem own_specialRef {z : MethodName} {bytes' : ByteArray} {ml' : Nat} {ret' : Option FieldType} {rm : Room} {Qc : Option Value → Heap → Prop} {Lc : Array Slot} {argsL rest : List Value} {ps : List FieldType} {rt : Option FieldType} {idx W : Nat} {a : Addr} (hC : own_W l Z z bytes' ml' none rm n0 Qc h 0 0 0 Lc []) (w1 : (Jvm.Cond.methodRef y.cls idx z).before a0 Z = true) (w2 : (Jvm.Cond.instanceMethod z).before a0 Z = true) (w3 : (Jvm.Cond.initialized z.cls).before a0 Z = true) (w4 : (Jvm.Cond.code z bytes' ml' none).before a0 Z = true) (hzn : z.name = "<init>") (pn : plainFor z = true) (hy : z.cls ≠ "java/lang/invoke/MethodHandle" ∧ z.cls ≠ "java/lang/invoke/VarHandle") (pd : parseMethodDescriptor z.desc = some ⟨ps, rt⟩) (hlen : argsL.length = ps.length)
    (hst : st = argsL.reverse ++ .ref a :: rest) (hent : Jvm.Sym.laidSlots (.ref a :: argsL) ++ List.replicate (ml' - (Jvm.Sym.laidSlots (.ref a :: argsL)).length) .unset = Lc.toList) (hW : (rest.map fun v => v.category).sum ≤ W) (hfr : rm.frames + 1 ≤ R.frames) (hlo : W + (ml' + 11) + rm.locals ≤ R.locals) (hce' : cells + rm.cells ≤ R.cells) (hsl' : slots + rm.slots ≤ R.slots) (hsz : Ls.size = ml) (hd : decode bytes pc = .ok (.invokespecial idx, 3)) (hp : pc + 3 = pc') (k : ∀ v h', Qc v h' → own_W l Z y bytes ml ret R n0 Q h' (cells + rm.cells) (slots + rm.slots) pc' Ls (v.toList ++ rest)) : own_W l Z y bytes ml ret R n0 Q h cells slots pc Ls st := by
  intro p e s m args below meth c T locs hx hZ hown hby hml hret hlk hnm hce hsl X eT N
  subst hp
  obtain ⟨v, ⟨T1, L1, k1, n1⟩, X1, ⟨Lc1, hQ1, l1, y1, z1⟩, st1⟩ := own_refBack X hx hZ hzn hown w1 w2 w4 hy (backOf (W := W) (Q := fun v h L => Qc v h ∧ Fr n0 L) (own_met hC pn hent []) hZ w4 w3 hfr hlo) (g := mkF m pc Ls st) rfl (by rw [hml]; exact hsz) (a := a) (argsL := argsL) (rest := rest) (lenOf pd hlen) hst (by show 2 * 0 + _ ≤ _; omega) (hb hby hd) ⟨rfl, eT, hce', hsl'⟩
  dsimp only [Pt.U, Pt.locs, Pt.cells, Pt.slots] at X1 l1 y1 z1 st1 hQ1
  subst l1 y1 z1
  obtain ⟨s₂, o, h1, h2⟩ := k v T1.heap hQ1.1 p e s m args below meth c T1 _ hx hZ hown hby hml hret hlk hnm hce' hsl' X1 rfl (Fr.app N hQ1.2)
  exact ⟨s₂, o, st1.trans h1, h2⟩
end OwnW
-- LAYER END
theorem d1_0 : decode method_2_code 0 = .ok (.iconst 0, 1) := by decide +kernel
theorem d1_1 : decode method_2_code 1 = .ok (.istore_n 1, 1) := by decide +kernel
theorem d1_2 : decode method_2_code 2 = .ok (.iload_n 0, 1) := by decide +kernel
theorem d1_3 : decode method_2_code 3 = .ok (.iconst 1, 1) := by decide +kernel
theorem d1_4 : decode method_2_code 4 = .ok (.iand, 1) := by decide +kernel
theorem d1_5 : decode method_2_code 5 = .ok (.ifCond .eq 8, 3) := by decide +kernel
theorem d1_8 : decode method_2_code 8 = .ok (.iload_n 1, 1) := by decide +kernel
theorem d1_9 : decode method_2_code 9 = .ok (.bipush 29, 2) := by decide +kernel
theorem d1_11 : decode method_2_code 11 = .ok (.ixor, 1) := by decide +kernel
theorem d1_12 : decode method_2_code 12 = .ok (.istore_n 1, 1) := by decide +kernel
theorem d1_13 : decode method_2_code 13 = .ok (.iload_n 0, 1) := by decide +kernel
theorem d1_14 : decode method_2_code 14 = .ok (.iconst 2, 1) := by decide +kernel
theorem d1_15 : decode method_2_code 15 = .ok (.iand, 1) := by decide +kernel
theorem d1_16 : decode method_2_code 16 = .ok (.ifCond .eq 8, 3) := by decide +kernel
theorem d1_19 : decode method_2_code 19 = .ok (.iload_n 1, 1) := by decide +kernel
theorem d1_20 : decode method_2_code 20 = .ok (.bipush 58, 2) := by decide +kernel
theorem d1_22 : decode method_2_code 22 = .ok (.ixor, 1) := by decide +kernel
theorem d1_23 : decode method_2_code 23 = .ok (.istore_n 1, 1) := by decide +kernel
theorem d1_24 : decode method_2_code 24 = .ok (.iload_n 0, 1) := by decide +kernel
theorem d1_25 : decode method_2_code 25 = .ok (.iconst 4, 1) := by decide +kernel
theorem d1_26 : decode method_2_code 26 = .ok (.iand, 1) := by decide +kernel
theorem d1_27 : decode method_2_code 27 = .ok (.ifCond .eq 8, 3) := by decide +kernel
theorem d1_30 : decode method_2_code 30 = .ok (.iload_n 1, 1) := by decide +kernel
theorem d1_31 : decode method_2_code 31 = .ok (.bipush 116, 2) := by decide +kernel
theorem d1_33 : decode method_2_code 33 = .ok (.ixor, 1) := by decide +kernel
theorem d1_34 : decode method_2_code 34 = .ok (.istore_n 1, 1) := by decide +kernel
theorem d1_35 : decode method_2_code 35 = .ok (.iload_n 0, 1) := by decide +kernel
theorem d1_36 : decode method_2_code 36 = .ok (.bipush 8, 2) := by decide +kernel
theorem d1_38 : decode method_2_code 38 = .ok (.iand, 1) := by decide +kernel
theorem d1_39 : decode method_2_code 39 = .ok (.ifCond .eq 9, 3) := by decide +kernel
theorem d1_42 : decode method_2_code 42 = .ok (.iload_n 1, 1) := by decide +kernel
theorem d1_43 : decode method_2_code 43 = .ok (.sipush 232, 3) := by decide +kernel
theorem d1_46 : decode method_2_code 46 = .ok (.ixor, 1) := by decide +kernel
theorem d1_47 : decode method_2_code 47 = .ok (.istore_n 1, 1) := by decide +kernel
theorem d1_48 : decode method_2_code 48 = .ok (.iload_n 0, 1) := by decide +kernel
theorem d1_49 : decode method_2_code 49 = .ok (.bipush 16, 2) := by decide +kernel
theorem d1_51 : decode method_2_code 51 = .ok (.iand, 1) := by decide +kernel
theorem d1_52 : decode method_2_code 52 = .ok (.ifCond .eq 9, 3) := by decide +kernel
theorem d1_55 : decode method_2_code 55 = .ok (.iload_n 1, 1) := by decide +kernel
theorem d1_56 : decode method_2_code 56 = .ok (.sipush 205, 3) := by decide +kernel
theorem d1_59 : decode method_2_code 59 = .ok (.ixor, 1) := by decide +kernel
theorem d1_60 : decode method_2_code 60 = .ok (.istore_n 1, 1) := by decide +kernel
theorem d1_61 : decode method_2_code 61 = .ok (.iload_n 0, 1) := by decide +kernel
theorem d1_62 : decode method_2_code 62 = .ok (.bipush 32, 2) := by decide +kernel
theorem d1_64 : decode method_2_code 64 = .ok (.iand, 1) := by decide +kernel
theorem d1_65 : decode method_2_code 65 = .ok (.ifCond .eq 9, 3) := by decide +kernel
theorem d1_68 : decode method_2_code 68 = .ok (.iload_n 1, 1) := by decide +kernel
theorem d1_69 : decode method_2_code 69 = .ok (.sipush 135, 3) := by decide +kernel
theorem d1_72 : decode method_2_code 72 = .ok (.ixor, 1) := by decide +kernel
theorem d1_73 : decode method_2_code 73 = .ok (.istore_n 1, 1) := by decide +kernel
theorem d1_74 : decode method_2_code 74 = .ok (.iload_n 0, 1) := by decide +kernel
theorem d1_75 : decode method_2_code 75 = .ok (.bipush 64, 2) := by decide +kernel
theorem d1_77 : decode method_2_code 77 = .ok (.iand, 1) := by decide +kernel
theorem d1_78 : decode method_2_code 78 = .ok (.ifCond .eq 8, 3) := by decide +kernel
theorem d1_81 : decode method_2_code 81 = .ok (.iload_n 1, 1) := by decide +kernel
theorem d1_82 : decode method_2_code 82 = .ok (.bipush 19, 2) := by decide +kernel
theorem d1_84 : decode method_2_code 84 = .ok (.ixor, 1) := by decide +kernel
theorem d1_85 : decode method_2_code 85 = .ok (.istore_n 1, 1) := by decide +kernel
theorem d1_86 : decode method_2_code 86 = .ok (.iload_n 0, 1) := by decide +kernel
theorem d1_87 : decode method_2_code 87 = .ok (.sipush 128, 3) := by decide +kernel
theorem d1_90 : decode method_2_code 90 = .ok (.iand, 1) := by decide +kernel
theorem d1_91 : decode method_2_code 91 = .ok (.ifCond .eq 8, 3) := by decide +kernel
theorem d1_94 : decode method_2_code 94 = .ok (.iload_n 1, 1) := by decide +kernel
theorem d1_95 : decode method_2_code 95 = .ok (.bipush 38, 2) := by decide +kernel
theorem d1_97 : decode method_2_code 97 = .ok (.ixor, 1) := by decide +kernel
theorem d1_98 : decode method_2_code 98 = .ok (.istore_n 1, 1) := by decide +kernel
theorem d1_99 : decode method_2_code 99 = .ok (.iload_n 1, 1) := by decide +kernel
theorem d1_100 : decode method_2_code 100 = .ok (.ireturn, 1) := by decide +kernel
theorem d2_0 : decode prog_15_method_4_code 0 = .ok (.sipush 199, 3) := by decide +kernel
theorem d2_3 : decode prog_15_method_4_code 3 = .ok (.istore_n 1, 1) := by decide +kernel
theorem d2_4 : decode prog_15_method_4_code 4 = .ok (.iconst 1, 1) := by decide +kernel
theorem d2_5 : decode prog_15_method_4_code 5 = .ok (.istore_n 2, 1) := by decide +kernel
theorem d2_6 : decode prog_15_method_4_code 6 = .ok (.iload_n 2, 1) := by decide +kernel
theorem d2_7 : decode prog_15_method_4_code 7 = .ok (.aload_n 0, 1) := by decide +kernel
theorem d2_8 : decode prog_15_method_4_code 8 = .ok (.arraylength, 1) := by decide +kernel
theorem d2_9 : decode prog_15_method_4_code 9 = .ok (.if_icmp .ge 62, 3) := by decide +kernel
theorem d2_12 : decode prog_15_method_4_code 12 = .ok (.iload_n 1, 1) := by decide +kernel
theorem d2_13 : decode prog_15_method_4_code 13 = .ok (.aload_n 0, 1) := by decide +kernel
theorem d2_14 : decode prog_15_method_4_code 14 = .ok (.iload_n 2, 1) := by decide +kernel
theorem d2_15 : decode prog_15_method_4_code 15 = .ok (.baload, 1) := by decide +kernel
theorem d2_16 : decode prog_15_method_4_code 16 = .ok (.sipush 255, 3) := by decide +kernel
theorem d2_19 : decode prog_15_method_4_code 19 = .ok (.iand, 1) := by decide +kernel
theorem d2_20 : decode prog_15_method_4_code 20 = .ok (.ixor, 1) := by decide +kernel
theorem d2_21 : decode prog_15_method_4_code 21 = .ok (.istore_n 1, 1) := by decide +kernel
theorem d2_22 : decode prog_15_method_4_code 22 = .ok (.iconst 0, 1) := by decide +kernel
theorem d2_23 : decode prog_15_method_4_code 23 = .ok (.istore_n 3, 1) := by decide +kernel
theorem d2_24 : decode prog_15_method_4_code 24 = .ok (.iload_n 3, 1) := by decide +kernel
theorem d2_25 : decode prog_15_method_4_code 25 = .ok (.bipush 8, 2) := by decide +kernel
theorem d2_27 : decode prog_15_method_4_code 27 = .ok (.if_icmp .ge 38, 3) := by decide +kernel
theorem d2_30 : decode prog_15_method_4_code 30 = .ok (.iload_n 1, 1) := by decide +kernel
theorem d2_31 : decode prog_15_method_4_code 31 = .ok (.sipush 128, 3) := by decide +kernel
theorem d2_34 : decode prog_15_method_4_code 34 = .ok (.iand, 1) := by decide +kernel
theorem d2_35 : decode prog_15_method_4_code 35 = .ok (.ifCond .eq 16, 3) := by decide +kernel
theorem d2_38 : decode prog_15_method_4_code 38 = .ok (.iload_n 1, 1) := by decide +kernel
theorem d2_39 : decode prog_15_method_4_code 39 = .ok (.iconst 1, 1) := by decide +kernel
theorem d2_40 : decode prog_15_method_4_code 40 = .ok (.ishl, 1) := by decide +kernel
theorem d2_41 : decode prog_15_method_4_code 41 = .ok (.bipush 29, 2) := by decide +kernel
theorem d2_43 : decode prog_15_method_4_code 43 = .ok (.ixor, 1) := by decide +kernel
theorem d2_44 : decode prog_15_method_4_code 44 = .ok (.sipush 255, 3) := by decide +kernel
theorem d2_47 : decode prog_15_method_4_code 47 = .ok (.iand, 1) := by decide +kernel
theorem d2_48 : decode prog_15_method_4_code 48 = .ok (.goto 10, 3) := by decide +kernel
theorem d2_51 : decode prog_15_method_4_code 51 = .ok (.iload_n 1, 1) := by decide +kernel
theorem d2_52 : decode prog_15_method_4_code 52 = .ok (.iconst 1, 1) := by decide +kernel
theorem d2_53 : decode prog_15_method_4_code 53 = .ok (.ishl, 1) := by decide +kernel
theorem d2_54 : decode prog_15_method_4_code 54 = .ok (.sipush 255, 3) := by decide +kernel
theorem d2_57 : decode prog_15_method_4_code 57 = .ok (.iand, 1) := by decide +kernel
theorem d2_58 : decode prog_15_method_4_code 58 = .ok (.istore_n 1, 1) := by decide +kernel
theorem d2_59 : decode prog_15_method_4_code 59 = .ok (.iinc 3 1, 3) := by decide +kernel
theorem d2_62 : decode prog_15_method_4_code 62 = .ok (.goto (-38), 3) := by decide +kernel
theorem d2_65 : decode prog_15_method_4_code 65 = .ok (.iinc 2 1, 3) := by decide +kernel
theorem d2_68 : decode prog_15_method_4_code 68 = .ok (.goto (-62), 3) := by decide +kernel
theorem d2_71 : decode prog_15_method_4_code 71 = .ok (.iload_n 1, 1) := by decide +kernel
theorem d2_72 : decode prog_15_method_4_code 72 = .ok (.ireturn, 1) := by decide +kernel
theorem own_pn0 : plainName "com/example/fieldtap/fieldtap/classic/ApplicationDirectoryCrcPinLaw" = true := by decide +kernel
theorem own_pn1 : plainName "com/example/fieldtap/fieldtap/classic/ApplicationDirectory" = true := by decide +kernel
theorem own_pd0 : parseMethodDescriptor "(IIIIII)Z" = some ⟨[.int, .int, .int, .int, .int, .int], (some .boolean)⟩ := by decide +kernel
theorem own_pd1 : parseMethodDescriptor "(I)I" = some ⟨[.int], (some .int)⟩ := by decide +kernel
theorem own_pd2 : parseMethodDescriptor "([B)I" = some ⟨[(.array .byte)], (some .int)⟩ := by decide +kernel
theorem own_and63 (n : Nat) : n &&& 63 = n % 64 := Nat.and_two_pow_sub_one_eq_mod n 6
theorem own_and31 (n : Nat) : n &&& 31 = n % 32 := Nat.and_two_pow_sub_one_eq_mod n 5
theorem own_smod_small {w : Nat} (a : BitVec w) (m : BitVec w) (ha : a.msb = false) (hm : m.msb = false) : a.smod m = a.umod m := by
  simp [BitVec.smod, ha, hm]
theorem own_q64 (w : Int32) : ((w.toInt64 &&& 63).toBitVec.smod 64).toNat = w.toBitVec.toNat % 64 := by
  have h1 : (w.toInt64 &&& 63).toBitVec = BitVec.ofNat 64 (w.toBitVec.toNat % 64) := by
    apply BitVec.eq_of_toNat_eq
    simp only [Int64.toBitVec_and, Int32.toBitVec_toInt64, BitVec.toNat_and]
    show (w.toBitVec.signExtend 64).toNat &&& 63 = _
    rw [own_and63, BitVec.toNat_signExtend]
    have := w.toBitVec.isLt
    simp
    split <;> omega
  rw [h1, own_smod_small]
  · simp
  · rw [BitVec.msb_eq_false_iff_two_mul_lt]; simp; omega
  · decide
theorem own_lshl_bv (x : Int64) (w : Int32) : (x <<< (w.toInt64 &&& 63)).toBitVec = x.toBitVec <<< (w.toBitVec.toNat % 64) := by
  rw [Int64.toBitVec_shiftLeft]
  show x.toBitVec <<< ((w.toInt64 &&& 63).toBitVec.smod 64).toNat = _
  rw [own_q64]
theorem own_lshr_bv (x : Int64) (w : Int32) : (x >>> (w.toInt64 &&& 63)).toBitVec = x.toBitVec.sshiftRight (w.toBitVec.toNat % 64) := by
  rw [Int64.toBitVec_shiftRight]
  show x.toBitVec.sshiftRight ((w.toInt64 &&& 63).toBitVec.smod 64).toNat = _
  rw [own_q64]
theorem own_lushr_bv (x : Int64) (w : Int32) : (XT.ushrL x w).toBitVec = x.toBitVec >>> (w.toBitVec.toNat % 64) := by
  show (x.toUInt64 >>> (w.toInt64.toUInt64 &&& Int64.toUInt64 63)).toBitVec = _
  rw [UInt64.toBitVec_shiftRight]
  show x.toBitVec >>> ((w.toInt64.toUInt64 &&& Int64.toUInt64 63).toBitVec % 64).toNat = _
  congr 1
  simp only [UInt64.toBitVec_and, BitVec.toNat_umod, BitVec.toNat_and]
  show ((w.toInt64.toBitVec).toNat &&& 63) % 64 = _
  rw [own_and63, Int32.toBitVec_toInt64, BitVec.toNat_signExtend]
  have := w.toBitVec.isLt
  simp
  split <;> omega
theorem own_q32 (w : Int32) : ((w &&& 31).toBitVec.smod 32).toNat = w.toBitVec.toNat % 32 := by
  have h1 : (w &&& 31).toBitVec = BitVec.ofNat 32 (w.toBitVec.toNat % 32) := by
    apply BitVec.eq_of_toNat_eq
    simp only [Int32.toBitVec_and, BitVec.toNat_and]
    show w.toBitVec.toNat &&& 31 = _
    rw [own_and31]; simp; omega
  rw [h1, own_smod_small]
  · simp
  · rw [BitVec.msb_eq_false_iff_two_mul_lt]; simp; omega
  · decide
theorem own_ishl_bv (x : Int32) (w : Int32) : (x <<< (w &&& 31)).toBitVec = x.toBitVec <<< (w.toBitVec.toNat % 32) := by
  rw [Int32.toBitVec_shiftLeft]
  show x.toBitVec <<< ((w &&& 31).toBitVec.smod 32).toNat = _
  rw [own_q32]
theorem own_ishr_bv (x : Int32) (w : Int32) : (x >>> (w &&& 31)).toBitVec = x.toBitVec.sshiftRight (w.toBitVec.toNat % 32) := by
  rw [Int32.toBitVec_shiftRight]
  show x.toBitVec.sshiftRight ((w &&& 31).toBitVec.smod 32).toNat = _
  rw [own_q32]
theorem own_iushr_bv (x : Int32) (w : Int32) : (XT.ushr x w).toBitVec = x.toBitVec >>> (w.toBitVec.toNat % 32) := by
  show (x.toUInt32 >>> (w &&& 31).toUInt32).toBitVec = _
  rw [UInt32.toBitVec_shiftRight]
  show x.toBitVec >>> ((w &&& 31).toBitVec % 32).toNat = _
  congr 1
  simp only [Int32.toBitVec_and, BitVec.toNat_umod, BitVec.toNat_and]
  show (w.toBitVec.toNat &&& 31) % 32 = _
  rw [own_and31]; omega
def own_f8 (v r : Int32) : Int32 := r
def own_f7 (v r : Int32) : Int32 := if v &&& 128 = 0 then own_f8 v r else own_f8 v (r ^^^ 38)
def own_f6 (v r : Int32) : Int32 := if v &&& 64 = 0 then own_f7 v r else own_f7 v (r ^^^ 19)
def own_f5 (v r : Int32) : Int32 := if v &&& 32 = 0 then own_f6 v r else own_f6 v (r ^^^ 135)
def own_f4 (v r : Int32) : Int32 := if v &&& 16 = 0 then own_f5 v r else own_f5 v (r ^^^ 205)
def own_f3 (v r : Int32) : Int32 := if v &&& 8 = 0 then own_f4 v r else own_f4 v (r ^^^ 232)
def own_f2 (v r : Int32) : Int32 := if v &&& 4 = 0 then own_f3 v r else own_f3 v (r ^^^ 116)
def own_f1 (v r : Int32) : Int32 := if v &&& 2 = 0 then own_f2 v r else own_f2 v (r ^^^ 58)
def own_f0 (v r : Int32) : Int32 := if v &&& 1 = 0 then own_f1 v r else own_f1 v (r ^^^ 29)
def own_sh (s : Int32) : Int32 := if s &&& 128 = 0 then (s <<< ((1 : Int32) &&& 31)) &&& 255 else ((s <<< ((1 : Int32) &&& 31)) ^^^ 29) &&& 255
def own_it : Nat → Int32 → Int32
  | 0, s => s
  | j + 1, s => own_it j (own_sh s)
def own_ok (u : Int32) : Prop := 0 ≤ u.toInt ∧ u.toInt < 256
theorem own_t8 (u : Int32) (h : own_ok u) : own_it 8 u = own_f0 u 0 ∧ own_ok (own_f0 u 0) := by
  have q : ∀ k : Fin 256, own_it 8 (Int32.ofNat k.val) = own_f0 (Int32.ofNat k.val) 0 ∧ 0 ≤ (own_f0 (Int32.ofNat k.val) 0).toInt ∧ (own_f0 (Int32.ofNat k.val) 0).toInt < 256 := by decide +kernel
  obtain ⟨h1, h2⟩ := h
  have e : u = Int32.ofNat u.toInt.toNat := by
    rw [← Int32.toInt_inj, Int32.toInt_ofNat_of_lt (by omega)]; omega
  have := q ⟨u.toInt.toNat, by omega⟩
  rw [← e] at this
  exact this
theorem own_okbv (u : Int32) : own_ok u ↔ u.toBitVec.toNat < 256 := by
  have h := u.toBitVec.isLt
  have e : u.toInt = u.toBitVec.toInt := rfl
  unfold own_ok
  rw [e, BitVec.toInt_eq_toNat_cond]
  split <;> omega
theorem own_okx (s t : Int32) (hs : own_ok s) (ht : own_ok t) : own_ok (s ^^^ t) := by
  rw [own_okbv] at *
  rw [Int32.toBitVec_xor, BitVec.toNat_xor]
  exact Nat.xor_lt_two_pow (n := 8) hs ht
theorem own_okm (u : Int32) : own_ok (u &&& 255) := by
  have h := c_and u 255 (by decide)
  have e : (255 : Int32).toInt = 255 := rfl
  unfold own_ok; omega
theorem own_b8 (u : Int32) : (nar .byte u.toInt8.toInt32) &&& 255 = u &&& 255 := by
  show u.toInt8.toInt32.toInt8.toInt32 &&& 255 = u &&& 255
  have e : u.toInt8.toInt32.toInt8 = u.toInt8 := by simp
  rw [e, ← Int32.toBitVec_inj, Int32.toBitVec_and, Int32.toBitVec_and, Int8.toBitVec_toInt32, Int32.toBitVec_toInt8]
  generalize u.toBitVec = v
  show (v.signExtend 8).signExtend 32 &&& 255#32 = v &&& 255#32
  apply BitVec.eq_of_getLsbD_eq
  intro i hi
  have q : ∀ i : Fin 32, 8 ≤ i.val → (255#32).getLsbD i.val = false := by decide
  rw [BitVec.getLsbD_and, BitVec.getLsbD_and]
  by_cases h8 : i < 8
  · rw [BitVec.getLsbD_signExtend, BitVec.getLsbD_signExtend]
    simp [hi, h8]
  · rw [q ⟨i, hi⟩ (by simpa using h8)]; simp
theorem own_step (s s' u : Int32) (hs : s = s') (hk : own_ok s') : own_it 8 (s ^^^ ((nar .byte u.toInt8.toInt32) &&& 255)) = own_f0 (s' ^^^ (u &&& 255)) 0 ∧ own_ok (own_f0 (s' ^^^ (u &&& 255)) 0) := by
  subst hs
  rw [own_b8]
  exact own_t8 _ (own_okx _ _ hk (own_okm u))
set_option maxRecDepth 65536 in
set_option maxHeartbeats 40000000 in
theorem own_ts8 (l : Launch) (Z : State) (a0 : Array Value) (hw : ∀ d ∈ tables_1, d.before a0 Z = true) (u r : Int32) (h0 : Heap) (n0 : Nat) (hn0 : n0 ≤ h0.size) :
    own_W l Z (⟨"com/example/fieldtap/fieldtap/classic/ApplicationDirectoryCrcPinLaw", "times8", "(I)I"⟩ : MethodName) method_2_code 2 (some .int) ({ frames := 0, cells := 0, slots := 0, locals := 0 } : Room) n0 (fun v h => v = some (.int (own_f8 u r)) ∧ h0 = h) h0 0 0 99 #[.val (.int u), .val (.int r)] [] := by
  refine own_iloadN (pc' := 100) d1_99 rfl rfl ?_
  exact own_iret rfl d1_100 ⟨rfl, rfl⟩
set_option maxRecDepth 65536 in
set_option maxHeartbeats 40000000 in
theorem own_ts7 (l : Launch) (Z : State) (a0 : Array Value) (hw : ∀ d ∈ tables_1, d.before a0 Z = true) (u r : Int32) (h0 : Heap) (n0 : Nat) (hn0 : n0 ≤ h0.size) :
    own_W l Z (⟨"com/example/fieldtap/fieldtap/classic/ApplicationDirectoryCrcPinLaw", "times8", "(I)I"⟩ : MethodName) method_2_code 2 (some .int) ({ frames := 0, cells := 0, slots := 0, locals := 0 } : Room) n0 (fun v h => v = some (.int (own_f7 u r)) ∧ h0 = h) h0 0 0 86 #[.val (.int u), .val (.int r)] [] := by
  refine own_iloadN (pc' := 87) d1_86 rfl rfl ?_
  refine own_sipush (128 : Int32) (pc' := 90) d1_87 rfl rfl ?_
  refine own_iand (pc' := 91) d1_90 rfl ?_
  refine own_if_eq (pc' := 99) (pf := 94) d1_91 (by decide) (by decide) rfl (fun hz => ?_) (fun hz => ?_)
  · rw [show own_f7 u r = own_f8 u r from if_pos hz]
    exact own_ts8 l Z a0 hw u r h0 n0 hn0
  · rw [show own_f7 u r = own_f8 u (r ^^^ 38) from if_neg hz]
    refine own_iloadN (pc' := 95) d1_94 rfl rfl ?_
    refine own_bipush (38 : Int32) (pc' := 97) d1_95 rfl rfl ?_
    refine own_ixor (pc' := 98) d1_97 rfl ?_
    refine own_istoreN (pc' := 99) (Ls' := #[.val (.int u), .val (.int (r ^^^ (38 : Int32)))]) d1_98 rfl rfl ?_
    exact own_ts8 l Z a0 hw u _ h0 n0 hn0
set_option maxRecDepth 65536 in
set_option maxHeartbeats 40000000 in
theorem own_ts6 (l : Launch) (Z : State) (a0 : Array Value) (hw : ∀ d ∈ tables_1, d.before a0 Z = true) (u r : Int32) (h0 : Heap) (n0 : Nat) (hn0 : n0 ≤ h0.size) :
    own_W l Z (⟨"com/example/fieldtap/fieldtap/classic/ApplicationDirectoryCrcPinLaw", "times8", "(I)I"⟩ : MethodName) method_2_code 2 (some .int) ({ frames := 0, cells := 0, slots := 0, locals := 0 } : Room) n0 (fun v h => v = some (.int (own_f6 u r)) ∧ h0 = h) h0 0 0 74 #[.val (.int u), .val (.int r)] [] := by
  refine own_iloadN (pc' := 75) d1_74 rfl rfl ?_
  refine own_bipush (64 : Int32) (pc' := 77) d1_75 rfl rfl ?_
  refine own_iand (pc' := 78) d1_77 rfl ?_
  refine own_if_eq (pc' := 86) (pf := 81) d1_78 (by decide) (by decide) rfl (fun hz => ?_) (fun hz => ?_)
  · rw [show own_f6 u r = own_f7 u r from if_pos hz]
    exact own_ts7 l Z a0 hw u r h0 n0 hn0
  · rw [show own_f6 u r = own_f7 u (r ^^^ 19) from if_neg hz]
    refine own_iloadN (pc' := 82) d1_81 rfl rfl ?_
    refine own_bipush (19 : Int32) (pc' := 84) d1_82 rfl rfl ?_
    refine own_ixor (pc' := 85) d1_84 rfl ?_
    refine own_istoreN (pc' := 86) (Ls' := #[.val (.int u), .val (.int (r ^^^ (19 : Int32)))]) d1_85 rfl rfl ?_
    exact own_ts7 l Z a0 hw u _ h0 n0 hn0
set_option maxRecDepth 65536 in
set_option maxHeartbeats 40000000 in
theorem own_ts5 (l : Launch) (Z : State) (a0 : Array Value) (hw : ∀ d ∈ tables_1, d.before a0 Z = true) (u r : Int32) (h0 : Heap) (n0 : Nat) (hn0 : n0 ≤ h0.size) :
    own_W l Z (⟨"com/example/fieldtap/fieldtap/classic/ApplicationDirectoryCrcPinLaw", "times8", "(I)I"⟩ : MethodName) method_2_code 2 (some .int) ({ frames := 0, cells := 0, slots := 0, locals := 0 } : Room) n0 (fun v h => v = some (.int (own_f5 u r)) ∧ h0 = h) h0 0 0 61 #[.val (.int u), .val (.int r)] [] := by
  refine own_iloadN (pc' := 62) d1_61 rfl rfl ?_
  refine own_bipush (32 : Int32) (pc' := 64) d1_62 rfl rfl ?_
  refine own_iand (pc' := 65) d1_64 rfl ?_
  refine own_if_eq (pc' := 74) (pf := 68) d1_65 (by decide) (by decide) rfl (fun hz => ?_) (fun hz => ?_)
  · rw [show own_f5 u r = own_f6 u r from if_pos hz]
    exact own_ts6 l Z a0 hw u r h0 n0 hn0
  · rw [show own_f5 u r = own_f6 u (r ^^^ 135) from if_neg hz]
    refine own_iloadN (pc' := 69) d1_68 rfl rfl ?_
    refine own_sipush (135 : Int32) (pc' := 72) d1_69 rfl rfl ?_
    refine own_ixor (pc' := 73) d1_72 rfl ?_
    refine own_istoreN (pc' := 74) (Ls' := #[.val (.int u), .val (.int (r ^^^ (135 : Int32)))]) d1_73 rfl rfl ?_
    exact own_ts6 l Z a0 hw u _ h0 n0 hn0
set_option maxRecDepth 65536 in
set_option maxHeartbeats 40000000 in
theorem own_ts4 (l : Launch) (Z : State) (a0 : Array Value) (hw : ∀ d ∈ tables_1, d.before a0 Z = true) (u r : Int32) (h0 : Heap) (n0 : Nat) (hn0 : n0 ≤ h0.size) :
    own_W l Z (⟨"com/example/fieldtap/fieldtap/classic/ApplicationDirectoryCrcPinLaw", "times8", "(I)I"⟩ : MethodName) method_2_code 2 (some .int) ({ frames := 0, cells := 0, slots := 0, locals := 0 } : Room) n0 (fun v h => v = some (.int (own_f4 u r)) ∧ h0 = h) h0 0 0 48 #[.val (.int u), .val (.int r)] [] := by
  refine own_iloadN (pc' := 49) d1_48 rfl rfl ?_
  refine own_bipush (16 : Int32) (pc' := 51) d1_49 rfl rfl ?_
  refine own_iand (pc' := 52) d1_51 rfl ?_
  refine own_if_eq (pc' := 61) (pf := 55) d1_52 (by decide) (by decide) rfl (fun hz => ?_) (fun hz => ?_)
  · rw [show own_f4 u r = own_f5 u r from if_pos hz]
    exact own_ts5 l Z a0 hw u r h0 n0 hn0
  · rw [show own_f4 u r = own_f5 u (r ^^^ 205) from if_neg hz]
    refine own_iloadN (pc' := 56) d1_55 rfl rfl ?_
    refine own_sipush (205 : Int32) (pc' := 59) d1_56 rfl rfl ?_
    refine own_ixor (pc' := 60) d1_59 rfl ?_
    refine own_istoreN (pc' := 61) (Ls' := #[.val (.int u), .val (.int (r ^^^ (205 : Int32)))]) d1_60 rfl rfl ?_
    exact own_ts5 l Z a0 hw u _ h0 n0 hn0
set_option maxRecDepth 65536 in
set_option maxHeartbeats 40000000 in
theorem own_ts3 (l : Launch) (Z : State) (a0 : Array Value) (hw : ∀ d ∈ tables_1, d.before a0 Z = true) (u r : Int32) (h0 : Heap) (n0 : Nat) (hn0 : n0 ≤ h0.size) :
    own_W l Z (⟨"com/example/fieldtap/fieldtap/classic/ApplicationDirectoryCrcPinLaw", "times8", "(I)I"⟩ : MethodName) method_2_code 2 (some .int) ({ frames := 0, cells := 0, slots := 0, locals := 0 } : Room) n0 (fun v h => v = some (.int (own_f3 u r)) ∧ h0 = h) h0 0 0 35 #[.val (.int u), .val (.int r)] [] := by
  refine own_iloadN (pc' := 36) d1_35 rfl rfl ?_
  refine own_bipush (8 : Int32) (pc' := 38) d1_36 rfl rfl ?_
  refine own_iand (pc' := 39) d1_38 rfl ?_
  refine own_if_eq (pc' := 48) (pf := 42) d1_39 (by decide) (by decide) rfl (fun hz => ?_) (fun hz => ?_)
  · rw [show own_f3 u r = own_f4 u r from if_pos hz]
    exact own_ts4 l Z a0 hw u r h0 n0 hn0
  · rw [show own_f3 u r = own_f4 u (r ^^^ 232) from if_neg hz]
    refine own_iloadN (pc' := 43) d1_42 rfl rfl ?_
    refine own_sipush (232 : Int32) (pc' := 46) d1_43 rfl rfl ?_
    refine own_ixor (pc' := 47) d1_46 rfl ?_
    refine own_istoreN (pc' := 48) (Ls' := #[.val (.int u), .val (.int (r ^^^ (232 : Int32)))]) d1_47 rfl rfl ?_
    exact own_ts4 l Z a0 hw u _ h0 n0 hn0
set_option maxRecDepth 65536 in
set_option maxHeartbeats 40000000 in
theorem own_ts2 (l : Launch) (Z : State) (a0 : Array Value) (hw : ∀ d ∈ tables_1, d.before a0 Z = true) (u r : Int32) (h0 : Heap) (n0 : Nat) (hn0 : n0 ≤ h0.size) :
    own_W l Z (⟨"com/example/fieldtap/fieldtap/classic/ApplicationDirectoryCrcPinLaw", "times8", "(I)I"⟩ : MethodName) method_2_code 2 (some .int) ({ frames := 0, cells := 0, slots := 0, locals := 0 } : Room) n0 (fun v h => v = some (.int (own_f2 u r)) ∧ h0 = h) h0 0 0 24 #[.val (.int u), .val (.int r)] [] := by
  refine own_iloadN (pc' := 25) d1_24 rfl rfl ?_
  refine own_iconst (4 : Int32) (pc' := 26) d1_25 rfl rfl ?_
  refine own_iand (pc' := 27) d1_26 rfl ?_
  refine own_if_eq (pc' := 35) (pf := 30) d1_27 (by decide) (by decide) rfl (fun hz => ?_) (fun hz => ?_)
  · rw [show own_f2 u r = own_f3 u r from if_pos hz]
    exact own_ts3 l Z a0 hw u r h0 n0 hn0
  · rw [show own_f2 u r = own_f3 u (r ^^^ 116) from if_neg hz]
    refine own_iloadN (pc' := 31) d1_30 rfl rfl ?_
    refine own_bipush (116 : Int32) (pc' := 33) d1_31 rfl rfl ?_
    refine own_ixor (pc' := 34) d1_33 rfl ?_
    refine own_istoreN (pc' := 35) (Ls' := #[.val (.int u), .val (.int (r ^^^ (116 : Int32)))]) d1_34 rfl rfl ?_
    exact own_ts3 l Z a0 hw u _ h0 n0 hn0
set_option maxRecDepth 65536 in
set_option maxHeartbeats 40000000 in
theorem own_ts1 (l : Launch) (Z : State) (a0 : Array Value) (hw : ∀ d ∈ tables_1, d.before a0 Z = true) (u r : Int32) (h0 : Heap) (n0 : Nat) (hn0 : n0 ≤ h0.size) :
    own_W l Z (⟨"com/example/fieldtap/fieldtap/classic/ApplicationDirectoryCrcPinLaw", "times8", "(I)I"⟩ : MethodName) method_2_code 2 (some .int) ({ frames := 0, cells := 0, slots := 0, locals := 0 } : Room) n0 (fun v h => v = some (.int (own_f1 u r)) ∧ h0 = h) h0 0 0 13 #[.val (.int u), .val (.int r)] [] := by
  refine own_iloadN (pc' := 14) d1_13 rfl rfl ?_
  refine own_iconst (2 : Int32) (pc' := 15) d1_14 rfl rfl ?_
  refine own_iand (pc' := 16) d1_15 rfl ?_
  refine own_if_eq (pc' := 24) (pf := 19) d1_16 (by decide) (by decide) rfl (fun hz => ?_) (fun hz => ?_)
  · rw [show own_f1 u r = own_f2 u r from if_pos hz]
    exact own_ts2 l Z a0 hw u r h0 n0 hn0
  · rw [show own_f1 u r = own_f2 u (r ^^^ 58) from if_neg hz]
    refine own_iloadN (pc' := 20) d1_19 rfl rfl ?_
    refine own_bipush (58 : Int32) (pc' := 22) d1_20 rfl rfl ?_
    refine own_ixor (pc' := 23) d1_22 rfl ?_
    refine own_istoreN (pc' := 24) (Ls' := #[.val (.int u), .val (.int (r ^^^ (58 : Int32)))]) d1_23 rfl rfl ?_
    exact own_ts2 l Z a0 hw u _ h0 n0 hn0
set_option maxRecDepth 65536 in
set_option maxHeartbeats 40000000 in
theorem own_ts0 (l : Launch) (Z : State) (a0 : Array Value) (hw : ∀ d ∈ tables_1, d.before a0 Z = true) (u r : Int32) (h0 : Heap) (n0 : Nat) (hn0 : n0 ≤ h0.size) :
    own_W l Z (⟨"com/example/fieldtap/fieldtap/classic/ApplicationDirectoryCrcPinLaw", "times8", "(I)I"⟩ : MethodName) method_2_code 2 (some .int) ({ frames := 0, cells := 0, slots := 0, locals := 0 } : Room) n0 (fun v h => v = some (.int (own_f0 u r)) ∧ h0 = h) h0 0 0 2 #[.val (.int u), .val (.int r)] [] := by
  refine own_iloadN (pc' := 3) d1_2 rfl rfl ?_
  refine own_iconst (1 : Int32) (pc' := 4) d1_3 rfl rfl ?_
  refine own_iand (pc' := 5) d1_4 rfl ?_
  refine own_if_eq (pc' := 13) (pf := 8) d1_5 (by decide) (by decide) rfl (fun hz => ?_) (fun hz => ?_)
  · rw [show own_f0 u r = own_f1 u r from if_pos hz]
    exact own_ts1 l Z a0 hw u r h0 n0 hn0
  · rw [show own_f0 u r = own_f1 u (r ^^^ 29) from if_neg hz]
    refine own_iloadN (pc' := 9) d1_8 rfl rfl ?_
    refine own_bipush (29 : Int32) (pc' := 11) d1_9 rfl rfl ?_
    refine own_ixor (pc' := 12) d1_11 rfl ?_
    refine own_istoreN (pc' := 13) (Ls' := #[.val (.int u), .val (.int (r ^^^ (29 : Int32)))]) d1_12 rfl rfl ?_
    exact own_ts1 l Z a0 hw u _ h0 n0 hn0
set_option maxRecDepth 65536 in
set_option maxHeartbeats 40000000 in
theorem own_t8W (l : Launch) (Z : State) (a0 : Array Value) (hw : ∀ d ∈ tables_1, d.before a0 Z = true) (u : Int32) (h0 : Heap) (n0 : Nat) (hn0 : n0 ≤ h0.size) :
    own_W l Z (⟨"com/example/fieldtap/fieldtap/classic/ApplicationDirectoryCrcPinLaw", "times8", "(I)I"⟩ : MethodName) method_2_code 2 (some .int) ({ frames := 0, cells := 0, slots := 0, locals := 0 } : Room) n0 (fun v h => v = some (.int (own_f0 u 0)) ∧ h0 = h) h0 0 0 0 #[.val (.int u), .unset] [] := by
  refine own_iconst (0 : Int32) (pc' := 1) d1_0 rfl rfl ?_
  refine own_istoreN (pc' := 2) (Ls' := #[.val (.int u), .val (.int (0 : Int32))]) d1_1 rfl rfl ?_
  exact own_ts0 l Z a0 hw u 0 h0 n0 hn0
set_option maxRecDepth 65536 in
set_option maxHeartbeats 40000000 in
theorem own_inner (l : Launch) (Z : State) (a0 : Array Value) (hw : ∀ d ∈ tables_1, d.before a0 Z = true) (Q : Option Value → Heap → Prop) (a : Addr) (i : Int32) (h0 : Heap) (n0 : Nat) : ∀ (j : Nat) (k s : Int32), k.toInt + j = 8 →
    (own_W l Z (⟨"com/example/fieldtap/fieldtap/classic/ApplicationDirectory", "crc", "([B)I"⟩ : MethodName) prog_15_method_4_code 4 (some .int) ({ frames := 0, cells := 0, slots := 0, locals := 0 } : Room) n0 (Q) h0 0 0 65 #[.val (.ref a), .val (.int (own_it j s)), .val (.int i), .val (.int (8 : Int32))] []) → own_W l Z (⟨"com/example/fieldtap/fieldtap/classic/ApplicationDirectory", "crc", "([B)I"⟩ : MethodName) prog_15_method_4_code 4 (some .int) ({ frames := 0, cells := 0, slots := 0, locals := 0 } : Room) n0 (Q) h0 0 0 24 #[.val (.ref a), .val (.int s), .val (.int i), .val (.int k)] [] := by
  intro j
  induction j with
  | zero =>
    intro k s hk K
    have e8 : (8 : Int32).toInt = 8 := rfl
    obtain rfl : k = 8 := by rw [← Int32.toInt_inj, e8]; omega
    refine own_iloadN (pc' := 25) d2_24 rfl rfl ?_
    refine own_bipush (8 : Int32) (pc' := 27) d2_25 rfl rfl ?_
    refine own_ic_ge_t (pc' := 65) d2_27 (by decide) (by decide) (by decide) ?_
    exact K
  | succ j ih =>
    intro k s hk K
    have e8 : (8 : Int32).toInt = 8 := rfl
    have e1 : (1 : Int32).toInt = 1 := rfl
    have hlt : k < 8 := by rw [Int32.lt_iff_toInt_lt, e8]; omega
    have hk1 : (k + 1).toInt + j = 8 := by have := c_iadd k 1; have := rng32 k; have := rng32 (k + 1); omega
    refine own_iloadN (pc' := 25) d2_24 rfl rfl ?_
    refine own_bipush (8 : Int32) (pc' := 27) d2_25 rfl rfl ?_
    refine own_ic_ge_f (pc' := 30) d2_27 hlt rfl ?_
    refine own_iloadN (pc' := 31) d2_30 rfl rfl ?_
    refine own_sipush (128 : Int32) (pc' := 34) d2_31 rfl rfl ?_
    refine own_iand (pc' := 35) d2_34 rfl ?_
    refine own_if_eq (pc' := 51) (pf := 38) d2_35 (by decide) (by decide) rfl (fun hz => ?_) (fun hz => ?_)
    · refine own_iloadN (pc' := 52) d2_51 rfl rfl ?_
      refine own_iconst (1 : Int32) (pc' := 53) d2_52 rfl rfl ?_
      refine own_ishl (pc' := 54) d2_53 rfl ?_
      refine own_sipush (255 : Int32) (pc' := 57) d2_54 rfl rfl ?_
      refine own_iand (pc' := 58) d2_57 rfl ?_
      refine own_istoreN (pc' := 59) (Ls' := #[.val (.ref a), .val (.int ((s <<< ((1 : Int32) &&& 31)) &&& (255 : Int32))), .val (.int i), .val (.int k)]) d2_58 rfl rfl ?_
      refine own_iinc (pc' := 62) (w := (1 : Int32)) (Ls' := #[.val (.ref a), .val (.int ((s <<< ((1 : Int32) &&& 31)) &&& (255 : Int32))), .val (.int i), .val (.int (k + (1 : Int32)))]) d2_59 rfl rfl rfl rfl ?_
      refine own_goto (pc' := 24) d2_62 (by decide) (by decide) ?_
      refine ih (k + 1) _ hk1 ?_
      rw [show own_it (j + 1) s = own_it j (own_sh s) from rfl, show own_sh s = _ from if_pos hz] at K
      exact K
    · refine own_iloadN (pc' := 39) d2_38 rfl rfl ?_
      refine own_iconst (1 : Int32) (pc' := 40) d2_39 rfl rfl ?_
      refine own_ishl (pc' := 41) d2_40 rfl ?_
      refine own_bipush (29 : Int32) (pc' := 43) d2_41 rfl rfl ?_
      refine own_ixor (pc' := 44) d2_43 rfl ?_
      refine own_sipush (255 : Int32) (pc' := 47) d2_44 rfl rfl ?_
      refine own_iand (pc' := 48) d2_47 rfl ?_
      refine own_goto (pc' := 58) d2_48 (by decide) (by decide) ?_
      refine own_istoreN (pc' := 59) (Ls' := #[.val (.ref a), .val (.int (((s <<< ((1 : Int32) &&& 31)) ^^^ (29 : Int32)) &&& (255 : Int32))), .val (.int i), .val (.int k)]) d2_58 rfl rfl ?_
      refine own_iinc (pc' := 62) (w := (1 : Int32)) (Ls' := #[.val (.ref a), .val (.int (((s <<< ((1 : Int32) &&& 31)) ^^^ (29 : Int32)) &&& (255 : Int32))), .val (.int i), .val (.int (k + (1 : Int32)))]) d2_59 rfl rfl rfl rfl ?_
      refine own_goto (pc' := 24) d2_62 (by decide) (by decide) ?_
      refine ih (k + 1) _ hk1 ?_
      rw [show own_it (j + 1) s = own_it j (own_sh s) from rfl, show own_sh s = _ from if_neg hz] at K
      exact K
set_option maxRecDepth 65536 in
set_option maxHeartbeats 40000000 in
theorem own_crc0 (l : Launch) (Z : State) (a0 : Array Value) (hw : ∀ d ∈ tables_1, d.before a0 Z = true) (a : Addr) (h0 : Heap) (n0 : Nat) (hn0 : n0 ≤ h0.size) (A_a : own_A Z h0 a .byte []) :
    own_W l Z (⟨"com/example/fieldtap/fieldtap/classic/ApplicationDirectory", "crc", "([B)I"⟩ : MethodName) prog_15_method_4_code 4 (some .int) ({ frames := 0, cells := 0, slots := 0, locals := 0 } : Room) n0 (fun v h => v = some (.int (199 : Int32)) ∧ h0 = h) h0 0 0 0 #[.val (.ref a), .unset, .unset, .unset] [] := by
  refine own_sipush (199 : Int32) (pc' := 3) d2_0 rfl rfl ?_
  refine own_istoreN (pc' := 4) (Ls' := #[.val (.ref a), .val (.int (199 : Int32)), .unset, .unset]) d2_3 rfl rfl ?_
  refine own_iconst (1 : Int32) (pc' := 5) d2_4 rfl rfl ?_
  refine own_istoreN (pc' := 6) (Ls' := #[.val (.ref a), .val (.int (199 : Int32)), .val (.int (1 : Int32)), .unset]) d2_5 rfl rfl ?_
  refine own_iloadN (pc' := 7) d2_6 rfl rfl ?_
  refine own_aloadN (pc' := 8) d2_7 rfl rfl ?_
  refine own_len (pc' := 9) (n := (0 : Int32)) A_a rfl d2_8 rfl ?_
  refine own_ic_ge_t (pc' := 71) d2_9 (by decide) (by decide) (by decide) ?_
  refine own_iloadN (pc' := 72) d2_71 rfl rfl ?_
  exact own_iret rfl d2_72 ⟨rfl, rfl⟩
set_option maxRecDepth 65536 in
set_option maxHeartbeats 40000000 in
theorem own_crc1 (l : Launch) (Z : State) (a0 : Array Value) (hw : ∀ d ∈ tables_1, d.before a0 Z = true) (a : Addr) (b0 : Int32) (h0 : Heap) (n0 : Nat) (hn0 : n0 ≤ h0.size) (A_a : own_A Z h0 a .byte [.int b0]) :
    own_W l Z (⟨"com/example/fieldtap/fieldtap/classic/ApplicationDirectory", "crc", "([B)I"⟩ : MethodName) prog_15_method_4_code 4 (some .int) ({ frames := 0, cells := 0, slots := 0, locals := 0 } : Room) n0 (fun v h => v = some (.int (199 : Int32)) ∧ h0 = h) h0 0 0 0 #[.val (.ref a), .unset, .unset, .unset] [] := by
  refine own_sipush (199 : Int32) (pc' := 3) d2_0 rfl rfl ?_
  refine own_istoreN (pc' := 4) (Ls' := #[.val (.ref a), .val (.int (199 : Int32)), .unset, .unset]) d2_3 rfl rfl ?_
  refine own_iconst (1 : Int32) (pc' := 5) d2_4 rfl rfl ?_
  refine own_istoreN (pc' := 6) (Ls' := #[.val (.ref a), .val (.int (199 : Int32)), .val (.int (1 : Int32)), .unset]) d2_5 rfl rfl ?_
  refine own_iloadN (pc' := 7) d2_6 rfl rfl ?_
  refine own_aloadN (pc' := 8) d2_7 rfl rfl ?_
  refine own_len (pc' := 9) (n := (1 : Int32)) A_a rfl d2_8 rfl ?_
  refine own_ic_ge_t (pc' := 71) d2_9 (by decide) (by decide) (by decide) ?_
  refine own_iloadN (pc' := 72) d2_71 rfl rfl ?_
  exact own_iret rfl d2_72 ⟨rfl, rfl⟩
set_option maxRecDepth 65536 in
set_option maxHeartbeats 40000000 in
theorem own_crc2 (l : Launch) (Z : State) (a0 : Array Value) (hw : ∀ d ∈ tables_1, d.before a0 Z = true) (a : Addr) (b0 b1 : Int32) (h0 : Heap) (n0 : Nat) (hn0 : n0 ≤ h0.size) (A_a : own_A Z h0 a .byte [.int b0, .int b1]) :
    own_W l Z (⟨"com/example/fieldtap/fieldtap/classic/ApplicationDirectory", "crc", "([B)I"⟩ : MethodName) prog_15_method_4_code 4 (some .int) ({ frames := 0, cells := 0, slots := 0, locals := 0 } : Room) n0 (fun v h => v = some (.int (own_it 8 ((199 : Int32) ^^^ (b1 &&& (255 : Int32))))) ∧ h0 = h) h0 0 0 0 #[.val (.ref a), .unset, .unset, .unset] [] := by
  refine own_sipush (199 : Int32) (pc' := 3) d2_0 rfl rfl ?_
  refine own_istoreN (pc' := 4) (Ls' := #[.val (.ref a), .val (.int (199 : Int32)), .unset, .unset]) d2_3 rfl rfl ?_
  refine own_iconst (1 : Int32) (pc' := 5) d2_4 rfl rfl ?_
  refine own_istoreN (pc' := 6) (Ls' := #[.val (.ref a), .val (.int (199 : Int32)), .val (.int (1 : Int32)), .unset]) d2_5 rfl rfl ?_
  refine own_iloadN (pc' := 7) d2_6 rfl rfl ?_
  refine own_aloadN (pc' := 8) d2_7 rfl rfl ?_
  refine own_len (pc' := 9) (n := (2 : Int32)) A_a rfl d2_8 rfl ?_
  refine own_ic_ge_f (pc' := 12) d2_9 (by decide) rfl ?_
  refine own_iloadN (pc' := 13) d2_12 rfl rfl ?_
  refine own_aloadN (pc' := 14) d2_13 rfl rfl ?_
  refine own_iloadN (pc' := 15) d2_14 rfl rfl ?_
  refine own_baload (pc' := 16) (v := .int b1) A_a (by decide) rfl d2_15 rfl ?_
  refine own_sipush (255 : Int32) (pc' := 19) d2_16 rfl rfl ?_
  refine own_iand (pc' := 20) d2_19 rfl ?_
  refine own_ixor (pc' := 21) d2_20 rfl ?_
  refine own_istoreN (pc' := 22) (Ls' := #[.val (.ref a), .val (.int ((199 : Int32) ^^^ (b1 &&& (255 : Int32)))), .val (.int (1 : Int32)), .unset]) d2_21 rfl rfl ?_
  refine own_iconst (0 : Int32) (pc' := 23) d2_22 rfl rfl ?_
  refine own_istoreN (pc' := 24) (Ls' := #[.val (.ref a), .val (.int ((199 : Int32) ^^^ (b1 &&& (255 : Int32)))), .val (.int (1 : Int32)), .val (.int (0 : Int32))]) d2_23 rfl rfl ?_
  refine own_inner l Z a0 hw _ a (1 : Int32) h0 n0 8 (0 : Int32) _ (by decide) ?_
  show own_W l Z (⟨"com/example/fieldtap/fieldtap/classic/ApplicationDirectory", "crc", "([B)I"⟩ : MethodName) prog_15_method_4_code 4 (some .int) ({ frames := 0, cells := 0, slots := 0, locals := 0 } : Room) n0 (fun v h => v = some (.int (own_it 8 ((199 : Int32) ^^^ (b1 &&& (255 : Int32))))) ∧ h0 = h) h0 0 0 65 #[.val (.ref a), .val (.int (own_it 8 ((199 : Int32) ^^^ (b1 &&& (255 : Int32))))), .val (.int (1 : Int32)), .val (.int (8 : Int32))] []
  refine own_iinc (pc' := 68) (w := (1 : Int32)) (Ls' := #[.val (.ref a), .val (.int (own_it 8 ((199 : Int32) ^^^ (b1 &&& (255 : Int32))))), .val (.int ((1 : Int32) + (1 : Int32))), .val (.int (8 : Int32))]) d2_65 rfl rfl rfl rfl ?_
  rw [show ((1 : Int32) + (1 : Int32)) = (2 : Int32) from (by decide)]
  refine own_goto (pc' := 6) d2_68 (by decide) (by decide) ?_
  refine own_iloadN (pc' := 7) d2_6 rfl rfl ?_
  refine own_aloadN (pc' := 8) d2_7 rfl rfl ?_
  refine own_len (pc' := 9) (n := (2 : Int32)) A_a rfl d2_8 rfl ?_
  refine own_ic_ge_t (pc' := 71) d2_9 (by decide) (by decide) (by decide) ?_
  refine own_iloadN (pc' := 72) d2_71 rfl rfl ?_
  exact own_iret rfl d2_72 ⟨rfl, rfl⟩
set_option maxRecDepth 65536 in
set_option maxHeartbeats 40000000 in
theorem own_crc3 (l : Launch) (Z : State) (a0 : Array Value) (hw : ∀ d ∈ tables_1, d.before a0 Z = true) (a : Addr) (b0 b1 b2 : Int32) (h0 : Heap) (n0 : Nat) (hn0 : n0 ≤ h0.size) (A_a : own_A Z h0 a .byte [.int b0, .int b1, .int b2]) :
    own_W l Z (⟨"com/example/fieldtap/fieldtap/classic/ApplicationDirectory", "crc", "([B)I"⟩ : MethodName) prog_15_method_4_code 4 (some .int) ({ frames := 0, cells := 0, slots := 0, locals := 0 } : Room) n0 (fun v h => v = some (.int (own_it 8 ((own_it 8 ((199 : Int32) ^^^ (b1 &&& (255 : Int32)))) ^^^ (b2 &&& (255 : Int32))))) ∧ h0 = h) h0 0 0 0 #[.val (.ref a), .unset, .unset, .unset] [] := by
  refine own_sipush (199 : Int32) (pc' := 3) d2_0 rfl rfl ?_
  refine own_istoreN (pc' := 4) (Ls' := #[.val (.ref a), .val (.int (199 : Int32)), .unset, .unset]) d2_3 rfl rfl ?_
  refine own_iconst (1 : Int32) (pc' := 5) d2_4 rfl rfl ?_
  refine own_istoreN (pc' := 6) (Ls' := #[.val (.ref a), .val (.int (199 : Int32)), .val (.int (1 : Int32)), .unset]) d2_5 rfl rfl ?_
  refine own_iloadN (pc' := 7) d2_6 rfl rfl ?_
  refine own_aloadN (pc' := 8) d2_7 rfl rfl ?_
  refine own_len (pc' := 9) (n := (3 : Int32)) A_a rfl d2_8 rfl ?_
  refine own_ic_ge_f (pc' := 12) d2_9 (by decide) rfl ?_
  refine own_iloadN (pc' := 13) d2_12 rfl rfl ?_
  refine own_aloadN (pc' := 14) d2_13 rfl rfl ?_
  refine own_iloadN (pc' := 15) d2_14 rfl rfl ?_
  refine own_baload (pc' := 16) (v := .int b1) A_a (by decide) rfl d2_15 rfl ?_
  refine own_sipush (255 : Int32) (pc' := 19) d2_16 rfl rfl ?_
  refine own_iand (pc' := 20) d2_19 rfl ?_
  refine own_ixor (pc' := 21) d2_20 rfl ?_
  refine own_istoreN (pc' := 22) (Ls' := #[.val (.ref a), .val (.int ((199 : Int32) ^^^ (b1 &&& (255 : Int32)))), .val (.int (1 : Int32)), .unset]) d2_21 rfl rfl ?_
  refine own_iconst (0 : Int32) (pc' := 23) d2_22 rfl rfl ?_
  refine own_istoreN (pc' := 24) (Ls' := #[.val (.ref a), .val (.int ((199 : Int32) ^^^ (b1 &&& (255 : Int32)))), .val (.int (1 : Int32)), .val (.int (0 : Int32))]) d2_23 rfl rfl ?_
  refine own_inner l Z a0 hw _ a (1 : Int32) h0 n0 8 (0 : Int32) _ (by decide) ?_
  show own_W l Z (⟨"com/example/fieldtap/fieldtap/classic/ApplicationDirectory", "crc", "([B)I"⟩ : MethodName) prog_15_method_4_code 4 (some .int) ({ frames := 0, cells := 0, slots := 0, locals := 0 } : Room) n0 (fun v h => v = some (.int (own_it 8 ((own_it 8 ((199 : Int32) ^^^ (b1 &&& (255 : Int32)))) ^^^ (b2 &&& (255 : Int32))))) ∧ h0 = h) h0 0 0 65 #[.val (.ref a), .val (.int (own_it 8 ((199 : Int32) ^^^ (b1 &&& (255 : Int32))))), .val (.int (1 : Int32)), .val (.int (8 : Int32))] []
  refine own_iinc (pc' := 68) (w := (1 : Int32)) (Ls' := #[.val (.ref a), .val (.int (own_it 8 ((199 : Int32) ^^^ (b1 &&& (255 : Int32))))), .val (.int ((1 : Int32) + (1 : Int32))), .val (.int (8 : Int32))]) d2_65 rfl rfl rfl rfl ?_
  rw [show ((1 : Int32) + (1 : Int32)) = (2 : Int32) from (by decide)]
  refine own_goto (pc' := 6) d2_68 (by decide) (by decide) ?_
  refine own_iloadN (pc' := 7) d2_6 rfl rfl ?_
  refine own_aloadN (pc' := 8) d2_7 rfl rfl ?_
  refine own_len (pc' := 9) (n := (3 : Int32)) A_a rfl d2_8 rfl ?_
  refine own_ic_ge_f (pc' := 12) d2_9 (by decide) rfl ?_
  refine own_iloadN (pc' := 13) d2_12 rfl rfl ?_
  refine own_aloadN (pc' := 14) d2_13 rfl rfl ?_
  refine own_iloadN (pc' := 15) d2_14 rfl rfl ?_
  refine own_baload (pc' := 16) (v := .int b2) A_a (by decide) rfl d2_15 rfl ?_
  refine own_sipush (255 : Int32) (pc' := 19) d2_16 rfl rfl ?_
  refine own_iand (pc' := 20) d2_19 rfl ?_
  refine own_ixor (pc' := 21) d2_20 rfl ?_
  refine own_istoreN (pc' := 22) (Ls' := #[.val (.ref a), .val (.int ((own_it 8 ((199 : Int32) ^^^ (b1 &&& (255 : Int32)))) ^^^ (b2 &&& (255 : Int32)))), .val (.int (2 : Int32)), .val (.int (8 : Int32))]) d2_21 rfl rfl ?_
  refine own_iconst (0 : Int32) (pc' := 23) d2_22 rfl rfl ?_
  refine own_istoreN (pc' := 24) (Ls' := #[.val (.ref a), .val (.int ((own_it 8 ((199 : Int32) ^^^ (b1 &&& (255 : Int32)))) ^^^ (b2 &&& (255 : Int32)))), .val (.int (2 : Int32)), .val (.int (0 : Int32))]) d2_23 rfl rfl ?_
  refine own_inner l Z a0 hw _ a (2 : Int32) h0 n0 8 (0 : Int32) _ (by decide) ?_
  show own_W l Z (⟨"com/example/fieldtap/fieldtap/classic/ApplicationDirectory", "crc", "([B)I"⟩ : MethodName) prog_15_method_4_code 4 (some .int) ({ frames := 0, cells := 0, slots := 0, locals := 0 } : Room) n0 (fun v h => v = some (.int (own_it 8 ((own_it 8 ((199 : Int32) ^^^ (b1 &&& (255 : Int32)))) ^^^ (b2 &&& (255 : Int32))))) ∧ h0 = h) h0 0 0 65 #[.val (.ref a), .val (.int (own_it 8 ((own_it 8 ((199 : Int32) ^^^ (b1 &&& (255 : Int32)))) ^^^ (b2 &&& (255 : Int32))))), .val (.int (2 : Int32)), .val (.int (8 : Int32))] []
  refine own_iinc (pc' := 68) (w := (1 : Int32)) (Ls' := #[.val (.ref a), .val (.int (own_it 8 ((own_it 8 ((199 : Int32) ^^^ (b1 &&& (255 : Int32)))) ^^^ (b2 &&& (255 : Int32))))), .val (.int ((2 : Int32) + (1 : Int32))), .val (.int (8 : Int32))]) d2_65 rfl rfl rfl rfl ?_
  rw [show ((2 : Int32) + (1 : Int32)) = (3 : Int32) from (by decide)]
  refine own_goto (pc' := 6) d2_68 (by decide) (by decide) ?_
  refine own_iloadN (pc' := 7) d2_6 rfl rfl ?_
  refine own_aloadN (pc' := 8) d2_7 rfl rfl ?_
  refine own_len (pc' := 9) (n := (3 : Int32)) A_a rfl d2_8 rfl ?_
  refine own_ic_ge_t (pc' := 71) d2_9 (by decide) (by decide) (by decide) ?_
  refine own_iloadN (pc' := 72) d2_71 rfl rfl ?_
  exact own_iret rfl d2_72 ⟨rfl, rfl⟩
set_option maxRecDepth 65536 in
set_option maxHeartbeats 40000000 in
theorem own_crc4 (l : Launch) (Z : State) (a0 : Array Value) (hw : ∀ d ∈ tables_1, d.before a0 Z = true) (a : Addr) (b0 b1 b2 b3 : Int32) (h0 : Heap) (n0 : Nat) (hn0 : n0 ≤ h0.size) (A_a : own_A Z h0 a .byte [.int b0, .int b1, .int b2, .int b3]) :
    own_W l Z (⟨"com/example/fieldtap/fieldtap/classic/ApplicationDirectory", "crc", "([B)I"⟩ : MethodName) prog_15_method_4_code 4 (some .int) ({ frames := 0, cells := 0, slots := 0, locals := 0 } : Room) n0 (fun v h => v = some (.int (own_it 8 ((own_it 8 ((own_it 8 ((199 : Int32) ^^^ (b1 &&& (255 : Int32)))) ^^^ (b2 &&& (255 : Int32)))) ^^^ (b3 &&& (255 : Int32))))) ∧ h0 = h) h0 0 0 0 #[.val (.ref a), .unset, .unset, .unset] [] := by
  refine own_sipush (199 : Int32) (pc' := 3) d2_0 rfl rfl ?_
  refine own_istoreN (pc' := 4) (Ls' := #[.val (.ref a), .val (.int (199 : Int32)), .unset, .unset]) d2_3 rfl rfl ?_
  refine own_iconst (1 : Int32) (pc' := 5) d2_4 rfl rfl ?_
  refine own_istoreN (pc' := 6) (Ls' := #[.val (.ref a), .val (.int (199 : Int32)), .val (.int (1 : Int32)), .unset]) d2_5 rfl rfl ?_
  refine own_iloadN (pc' := 7) d2_6 rfl rfl ?_
  refine own_aloadN (pc' := 8) d2_7 rfl rfl ?_
  refine own_len (pc' := 9) (n := (4 : Int32)) A_a rfl d2_8 rfl ?_
  refine own_ic_ge_f (pc' := 12) d2_9 (by decide) rfl ?_
  refine own_iloadN (pc' := 13) d2_12 rfl rfl ?_
  refine own_aloadN (pc' := 14) d2_13 rfl rfl ?_
  refine own_iloadN (pc' := 15) d2_14 rfl rfl ?_
  refine own_baload (pc' := 16) (v := .int b1) A_a (by decide) rfl d2_15 rfl ?_
  refine own_sipush (255 : Int32) (pc' := 19) d2_16 rfl rfl ?_
  refine own_iand (pc' := 20) d2_19 rfl ?_
  refine own_ixor (pc' := 21) d2_20 rfl ?_
  refine own_istoreN (pc' := 22) (Ls' := #[.val (.ref a), .val (.int ((199 : Int32) ^^^ (b1 &&& (255 : Int32)))), .val (.int (1 : Int32)), .unset]) d2_21 rfl rfl ?_
  refine own_iconst (0 : Int32) (pc' := 23) d2_22 rfl rfl ?_
  refine own_istoreN (pc' := 24) (Ls' := #[.val (.ref a), .val (.int ((199 : Int32) ^^^ (b1 &&& (255 : Int32)))), .val (.int (1 : Int32)), .val (.int (0 : Int32))]) d2_23 rfl rfl ?_
  refine own_inner l Z a0 hw _ a (1 : Int32) h0 n0 8 (0 : Int32) _ (by decide) ?_
  show own_W l Z (⟨"com/example/fieldtap/fieldtap/classic/ApplicationDirectory", "crc", "([B)I"⟩ : MethodName) prog_15_method_4_code 4 (some .int) ({ frames := 0, cells := 0, slots := 0, locals := 0 } : Room) n0 (fun v h => v = some (.int (own_it 8 ((own_it 8 ((own_it 8 ((199 : Int32) ^^^ (b1 &&& (255 : Int32)))) ^^^ (b2 &&& (255 : Int32)))) ^^^ (b3 &&& (255 : Int32))))) ∧ h0 = h) h0 0 0 65 #[.val (.ref a), .val (.int (own_it 8 ((199 : Int32) ^^^ (b1 &&& (255 : Int32))))), .val (.int (1 : Int32)), .val (.int (8 : Int32))] []
  refine own_iinc (pc' := 68) (w := (1 : Int32)) (Ls' := #[.val (.ref a), .val (.int (own_it 8 ((199 : Int32) ^^^ (b1 &&& (255 : Int32))))), .val (.int ((1 : Int32) + (1 : Int32))), .val (.int (8 : Int32))]) d2_65 rfl rfl rfl rfl ?_
  rw [show ((1 : Int32) + (1 : Int32)) = (2 : Int32) from (by decide)]
  refine own_goto (pc' := 6) d2_68 (by decide) (by decide) ?_
  refine own_iloadN (pc' := 7) d2_6 rfl rfl ?_
  refine own_aloadN (pc' := 8) d2_7 rfl rfl ?_
  refine own_len (pc' := 9) (n := (4 : Int32)) A_a rfl d2_8 rfl ?_
  refine own_ic_ge_f (pc' := 12) d2_9 (by decide) rfl ?_
  refine own_iloadN (pc' := 13) d2_12 rfl rfl ?_
  refine own_aloadN (pc' := 14) d2_13 rfl rfl ?_
  refine own_iloadN (pc' := 15) d2_14 rfl rfl ?_
  refine own_baload (pc' := 16) (v := .int b2) A_a (by decide) rfl d2_15 rfl ?_
  refine own_sipush (255 : Int32) (pc' := 19) d2_16 rfl rfl ?_
  refine own_iand (pc' := 20) d2_19 rfl ?_
  refine own_ixor (pc' := 21) d2_20 rfl ?_
  refine own_istoreN (pc' := 22) (Ls' := #[.val (.ref a), .val (.int ((own_it 8 ((199 : Int32) ^^^ (b1 &&& (255 : Int32)))) ^^^ (b2 &&& (255 : Int32)))), .val (.int (2 : Int32)), .val (.int (8 : Int32))]) d2_21 rfl rfl ?_
  refine own_iconst (0 : Int32) (pc' := 23) d2_22 rfl rfl ?_
  refine own_istoreN (pc' := 24) (Ls' := #[.val (.ref a), .val (.int ((own_it 8 ((199 : Int32) ^^^ (b1 &&& (255 : Int32)))) ^^^ (b2 &&& (255 : Int32)))), .val (.int (2 : Int32)), .val (.int (0 : Int32))]) d2_23 rfl rfl ?_
  refine own_inner l Z a0 hw _ a (2 : Int32) h0 n0 8 (0 : Int32) _ (by decide) ?_
  show own_W l Z (⟨"com/example/fieldtap/fieldtap/classic/ApplicationDirectory", "crc", "([B)I"⟩ : MethodName) prog_15_method_4_code 4 (some .int) ({ frames := 0, cells := 0, slots := 0, locals := 0 } : Room) n0 (fun v h => v = some (.int (own_it 8 ((own_it 8 ((own_it 8 ((199 : Int32) ^^^ (b1 &&& (255 : Int32)))) ^^^ (b2 &&& (255 : Int32)))) ^^^ (b3 &&& (255 : Int32))))) ∧ h0 = h) h0 0 0 65 #[.val (.ref a), .val (.int (own_it 8 ((own_it 8 ((199 : Int32) ^^^ (b1 &&& (255 : Int32)))) ^^^ (b2 &&& (255 : Int32))))), .val (.int (2 : Int32)), .val (.int (8 : Int32))] []
  refine own_iinc (pc' := 68) (w := (1 : Int32)) (Ls' := #[.val (.ref a), .val (.int (own_it 8 ((own_it 8 ((199 : Int32) ^^^ (b1 &&& (255 : Int32)))) ^^^ (b2 &&& (255 : Int32))))), .val (.int ((2 : Int32) + (1 : Int32))), .val (.int (8 : Int32))]) d2_65 rfl rfl rfl rfl ?_
  rw [show ((2 : Int32) + (1 : Int32)) = (3 : Int32) from (by decide)]
  refine own_goto (pc' := 6) d2_68 (by decide) (by decide) ?_
  refine own_iloadN (pc' := 7) d2_6 rfl rfl ?_
  refine own_aloadN (pc' := 8) d2_7 rfl rfl ?_
  refine own_len (pc' := 9) (n := (4 : Int32)) A_a rfl d2_8 rfl ?_
  refine own_ic_ge_f (pc' := 12) d2_9 (by decide) rfl ?_
  refine own_iloadN (pc' := 13) d2_12 rfl rfl ?_
  refine own_aloadN (pc' := 14) d2_13 rfl rfl ?_
  refine own_iloadN (pc' := 15) d2_14 rfl rfl ?_
  refine own_baload (pc' := 16) (v := .int b3) A_a (by decide) rfl d2_15 rfl ?_
  refine own_sipush (255 : Int32) (pc' := 19) d2_16 rfl rfl ?_
  refine own_iand (pc' := 20) d2_19 rfl ?_
  refine own_ixor (pc' := 21) d2_20 rfl ?_
  refine own_istoreN (pc' := 22) (Ls' := #[.val (.ref a), .val (.int ((own_it 8 ((own_it 8 ((199 : Int32) ^^^ (b1 &&& (255 : Int32)))) ^^^ (b2 &&& (255 : Int32)))) ^^^ (b3 &&& (255 : Int32)))), .val (.int (3 : Int32)), .val (.int (8 : Int32))]) d2_21 rfl rfl ?_
  refine own_iconst (0 : Int32) (pc' := 23) d2_22 rfl rfl ?_
  refine own_istoreN (pc' := 24) (Ls' := #[.val (.ref a), .val (.int ((own_it 8 ((own_it 8 ((199 : Int32) ^^^ (b1 &&& (255 : Int32)))) ^^^ (b2 &&& (255 : Int32)))) ^^^ (b3 &&& (255 : Int32)))), .val (.int (3 : Int32)), .val (.int (0 : Int32))]) d2_23 rfl rfl ?_
  refine own_inner l Z a0 hw _ a (3 : Int32) h0 n0 8 (0 : Int32) _ (by decide) ?_
  show own_W l Z (⟨"com/example/fieldtap/fieldtap/classic/ApplicationDirectory", "crc", "([B)I"⟩ : MethodName) prog_15_method_4_code 4 (some .int) ({ frames := 0, cells := 0, slots := 0, locals := 0 } : Room) n0 (fun v h => v = some (.int (own_it 8 ((own_it 8 ((own_it 8 ((199 : Int32) ^^^ (b1 &&& (255 : Int32)))) ^^^ (b2 &&& (255 : Int32)))) ^^^ (b3 &&& (255 : Int32))))) ∧ h0 = h) h0 0 0 65 #[.val (.ref a), .val (.int (own_it 8 ((own_it 8 ((own_it 8 ((199 : Int32) ^^^ (b1 &&& (255 : Int32)))) ^^^ (b2 &&& (255 : Int32)))) ^^^ (b3 &&& (255 : Int32))))), .val (.int (3 : Int32)), .val (.int (8 : Int32))] []
  refine own_iinc (pc' := 68) (w := (1 : Int32)) (Ls' := #[.val (.ref a), .val (.int (own_it 8 ((own_it 8 ((own_it 8 ((199 : Int32) ^^^ (b1 &&& (255 : Int32)))) ^^^ (b2 &&& (255 : Int32)))) ^^^ (b3 &&& (255 : Int32))))), .val (.int ((3 : Int32) + (1 : Int32))), .val (.int (8 : Int32))]) d2_65 rfl rfl rfl rfl ?_
  rw [show ((3 : Int32) + (1 : Int32)) = (4 : Int32) from (by decide)]
  refine own_goto (pc' := 6) d2_68 (by decide) (by decide) ?_
  refine own_iloadN (pc' := 7) d2_6 rfl rfl ?_
  refine own_aloadN (pc' := 8) d2_7 rfl rfl ?_
  refine own_len (pc' := 9) (n := (4 : Int32)) A_a rfl d2_8 rfl ?_
  refine own_ic_ge_t (pc' := 71) d2_9 (by decide) (by decide) (by decide) ?_
  refine own_iloadN (pc' := 72) d2_71 rfl rfl ?_
  exact own_iret rfl d2_72 ⟨rfl, rfl⟩
set_option maxRecDepth 65536 in
set_option maxHeartbeats 40000000 in
theorem own_crc5 (l : Launch) (Z : State) (a0 : Array Value) (hw : ∀ d ∈ tables_1, d.before a0 Z = true) (a : Addr) (b0 b1 b2 b3 b4 : Int32) (h0 : Heap) (n0 : Nat) (hn0 : n0 ≤ h0.size) (A_a : own_A Z h0 a .byte [.int b0, .int b1, .int b2, .int b3, .int b4]) :
    own_W l Z (⟨"com/example/fieldtap/fieldtap/classic/ApplicationDirectory", "crc", "([B)I"⟩ : MethodName) prog_15_method_4_code 4 (some .int) ({ frames := 0, cells := 0, slots := 0, locals := 0 } : Room) n0 (fun v h => v = some (.int (own_it 8 ((own_it 8 ((own_it 8 ((own_it 8 ((199 : Int32) ^^^ (b1 &&& (255 : Int32)))) ^^^ (b2 &&& (255 : Int32)))) ^^^ (b3 &&& (255 : Int32)))) ^^^ (b4 &&& (255 : Int32))))) ∧ h0 = h) h0 0 0 0 #[.val (.ref a), .unset, .unset, .unset] [] := by
  refine own_sipush (199 : Int32) (pc' := 3) d2_0 rfl rfl ?_
  refine own_istoreN (pc' := 4) (Ls' := #[.val (.ref a), .val (.int (199 : Int32)), .unset, .unset]) d2_3 rfl rfl ?_
  refine own_iconst (1 : Int32) (pc' := 5) d2_4 rfl rfl ?_
  refine own_istoreN (pc' := 6) (Ls' := #[.val (.ref a), .val (.int (199 : Int32)), .val (.int (1 : Int32)), .unset]) d2_5 rfl rfl ?_
  refine own_iloadN (pc' := 7) d2_6 rfl rfl ?_
  refine own_aloadN (pc' := 8) d2_7 rfl rfl ?_
  refine own_len (pc' := 9) (n := (5 : Int32)) A_a rfl d2_8 rfl ?_
  refine own_ic_ge_f (pc' := 12) d2_9 (by decide) rfl ?_
  refine own_iloadN (pc' := 13) d2_12 rfl rfl ?_
  refine own_aloadN (pc' := 14) d2_13 rfl rfl ?_
  refine own_iloadN (pc' := 15) d2_14 rfl rfl ?_
  refine own_baload (pc' := 16) (v := .int b1) A_a (by decide) rfl d2_15 rfl ?_
  refine own_sipush (255 : Int32) (pc' := 19) d2_16 rfl rfl ?_
  refine own_iand (pc' := 20) d2_19 rfl ?_
  refine own_ixor (pc' := 21) d2_20 rfl ?_
  refine own_istoreN (pc' := 22) (Ls' := #[.val (.ref a), .val (.int ((199 : Int32) ^^^ (b1 &&& (255 : Int32)))), .val (.int (1 : Int32)), .unset]) d2_21 rfl rfl ?_
  refine own_iconst (0 : Int32) (pc' := 23) d2_22 rfl rfl ?_
  refine own_istoreN (pc' := 24) (Ls' := #[.val (.ref a), .val (.int ((199 : Int32) ^^^ (b1 &&& (255 : Int32)))), .val (.int (1 : Int32)), .val (.int (0 : Int32))]) d2_23 rfl rfl ?_
  refine own_inner l Z a0 hw _ a (1 : Int32) h0 n0 8 (0 : Int32) _ (by decide) ?_
  show own_W l Z (⟨"com/example/fieldtap/fieldtap/classic/ApplicationDirectory", "crc", "([B)I"⟩ : MethodName) prog_15_method_4_code 4 (some .int) ({ frames := 0, cells := 0, slots := 0, locals := 0 } : Room) n0 (fun v h => v = some (.int (own_it 8 ((own_it 8 ((own_it 8 ((own_it 8 ((199 : Int32) ^^^ (b1 &&& (255 : Int32)))) ^^^ (b2 &&& (255 : Int32)))) ^^^ (b3 &&& (255 : Int32)))) ^^^ (b4 &&& (255 : Int32))))) ∧ h0 = h) h0 0 0 65 #[.val (.ref a), .val (.int (own_it 8 ((199 : Int32) ^^^ (b1 &&& (255 : Int32))))), .val (.int (1 : Int32)), .val (.int (8 : Int32))] []
  refine own_iinc (pc' := 68) (w := (1 : Int32)) (Ls' := #[.val (.ref a), .val (.int (own_it 8 ((199 : Int32) ^^^ (b1 &&& (255 : Int32))))), .val (.int ((1 : Int32) + (1 : Int32))), .val (.int (8 : Int32))]) d2_65 rfl rfl rfl rfl ?_
  rw [show ((1 : Int32) + (1 : Int32)) = (2 : Int32) from (by decide)]
  refine own_goto (pc' := 6) d2_68 (by decide) (by decide) ?_
  refine own_iloadN (pc' := 7) d2_6 rfl rfl ?_
  refine own_aloadN (pc' := 8) d2_7 rfl rfl ?_
  refine own_len (pc' := 9) (n := (5 : Int32)) A_a rfl d2_8 rfl ?_
  refine own_ic_ge_f (pc' := 12) d2_9 (by decide) rfl ?_
  refine own_iloadN (pc' := 13) d2_12 rfl rfl ?_
  refine own_aloadN (pc' := 14) d2_13 rfl rfl ?_
  refine own_iloadN (pc' := 15) d2_14 rfl rfl ?_
  refine own_baload (pc' := 16) (v := .int b2) A_a (by decide) rfl d2_15 rfl ?_
  refine own_sipush (255 : Int32) (pc' := 19) d2_16 rfl rfl ?_
  refine own_iand (pc' := 20) d2_19 rfl ?_
  refine own_ixor (pc' := 21) d2_20 rfl ?_
  refine own_istoreN (pc' := 22) (Ls' := #[.val (.ref a), .val (.int ((own_it 8 ((199 : Int32) ^^^ (b1 &&& (255 : Int32)))) ^^^ (b2 &&& (255 : Int32)))), .val (.int (2 : Int32)), .val (.int (8 : Int32))]) d2_21 rfl rfl ?_
  refine own_iconst (0 : Int32) (pc' := 23) d2_22 rfl rfl ?_
  refine own_istoreN (pc' := 24) (Ls' := #[.val (.ref a), .val (.int ((own_it 8 ((199 : Int32) ^^^ (b1 &&& (255 : Int32)))) ^^^ (b2 &&& (255 : Int32)))), .val (.int (2 : Int32)), .val (.int (0 : Int32))]) d2_23 rfl rfl ?_
  refine own_inner l Z a0 hw _ a (2 : Int32) h0 n0 8 (0 : Int32) _ (by decide) ?_
  show own_W l Z (⟨"com/example/fieldtap/fieldtap/classic/ApplicationDirectory", "crc", "([B)I"⟩ : MethodName) prog_15_method_4_code 4 (some .int) ({ frames := 0, cells := 0, slots := 0, locals := 0 } : Room) n0 (fun v h => v = some (.int (own_it 8 ((own_it 8 ((own_it 8 ((own_it 8 ((199 : Int32) ^^^ (b1 &&& (255 : Int32)))) ^^^ (b2 &&& (255 : Int32)))) ^^^ (b3 &&& (255 : Int32)))) ^^^ (b4 &&& (255 : Int32))))) ∧ h0 = h) h0 0 0 65 #[.val (.ref a), .val (.int (own_it 8 ((own_it 8 ((199 : Int32) ^^^ (b1 &&& (255 : Int32)))) ^^^ (b2 &&& (255 : Int32))))), .val (.int (2 : Int32)), .val (.int (8 : Int32))] []
  refine own_iinc (pc' := 68) (w := (1 : Int32)) (Ls' := #[.val (.ref a), .val (.int (own_it 8 ((own_it 8 ((199 : Int32) ^^^ (b1 &&& (255 : Int32)))) ^^^ (b2 &&& (255 : Int32))))), .val (.int ((2 : Int32) + (1 : Int32))), .val (.int (8 : Int32))]) d2_65 rfl rfl rfl rfl ?_
  rw [show ((2 : Int32) + (1 : Int32)) = (3 : Int32) from (by decide)]
  refine own_goto (pc' := 6) d2_68 (by decide) (by decide) ?_
  refine own_iloadN (pc' := 7) d2_6 rfl rfl ?_
  refine own_aloadN (pc' := 8) d2_7 rfl rfl ?_
  refine own_len (pc' := 9) (n := (5 : Int32)) A_a rfl d2_8 rfl ?_
  refine own_ic_ge_f (pc' := 12) d2_9 (by decide) rfl ?_
  refine own_iloadN (pc' := 13) d2_12 rfl rfl ?_
  refine own_aloadN (pc' := 14) d2_13 rfl rfl ?_
  refine own_iloadN (pc' := 15) d2_14 rfl rfl ?_
  refine own_baload (pc' := 16) (v := .int b3) A_a (by decide) rfl d2_15 rfl ?_
  refine own_sipush (255 : Int32) (pc' := 19) d2_16 rfl rfl ?_
  refine own_iand (pc' := 20) d2_19 rfl ?_
  refine own_ixor (pc' := 21) d2_20 rfl ?_
  refine own_istoreN (pc' := 22) (Ls' := #[.val (.ref a), .val (.int ((own_it 8 ((own_it 8 ((199 : Int32) ^^^ (b1 &&& (255 : Int32)))) ^^^ (b2 &&& (255 : Int32)))) ^^^ (b3 &&& (255 : Int32)))), .val (.int (3 : Int32)), .val (.int (8 : Int32))]) d2_21 rfl rfl ?_
  refine own_iconst (0 : Int32) (pc' := 23) d2_22 rfl rfl ?_
  refine own_istoreN (pc' := 24) (Ls' := #[.val (.ref a), .val (.int ((own_it 8 ((own_it 8 ((199 : Int32) ^^^ (b1 &&& (255 : Int32)))) ^^^ (b2 &&& (255 : Int32)))) ^^^ (b3 &&& (255 : Int32)))), .val (.int (3 : Int32)), .val (.int (0 : Int32))]) d2_23 rfl rfl ?_
  refine own_inner l Z a0 hw _ a (3 : Int32) h0 n0 8 (0 : Int32) _ (by decide) ?_
  show own_W l Z (⟨"com/example/fieldtap/fieldtap/classic/ApplicationDirectory", "crc", "([B)I"⟩ : MethodName) prog_15_method_4_code 4 (some .int) ({ frames := 0, cells := 0, slots := 0, locals := 0 } : Room) n0 (fun v h => v = some (.int (own_it 8 ((own_it 8 ((own_it 8 ((own_it 8 ((199 : Int32) ^^^ (b1 &&& (255 : Int32)))) ^^^ (b2 &&& (255 : Int32)))) ^^^ (b3 &&& (255 : Int32)))) ^^^ (b4 &&& (255 : Int32))))) ∧ h0 = h) h0 0 0 65 #[.val (.ref a), .val (.int (own_it 8 ((own_it 8 ((own_it 8 ((199 : Int32) ^^^ (b1 &&& (255 : Int32)))) ^^^ (b2 &&& (255 : Int32)))) ^^^ (b3 &&& (255 : Int32))))), .val (.int (3 : Int32)), .val (.int (8 : Int32))] []
  refine own_iinc (pc' := 68) (w := (1 : Int32)) (Ls' := #[.val (.ref a), .val (.int (own_it 8 ((own_it 8 ((own_it 8 ((199 : Int32) ^^^ (b1 &&& (255 : Int32)))) ^^^ (b2 &&& (255 : Int32)))) ^^^ (b3 &&& (255 : Int32))))), .val (.int ((3 : Int32) + (1 : Int32))), .val (.int (8 : Int32))]) d2_65 rfl rfl rfl rfl ?_
  rw [show ((3 : Int32) + (1 : Int32)) = (4 : Int32) from (by decide)]
  refine own_goto (pc' := 6) d2_68 (by decide) (by decide) ?_
  refine own_iloadN (pc' := 7) d2_6 rfl rfl ?_
  refine own_aloadN (pc' := 8) d2_7 rfl rfl ?_
  refine own_len (pc' := 9) (n := (5 : Int32)) A_a rfl d2_8 rfl ?_
  refine own_ic_ge_f (pc' := 12) d2_9 (by decide) rfl ?_
  refine own_iloadN (pc' := 13) d2_12 rfl rfl ?_
  refine own_aloadN (pc' := 14) d2_13 rfl rfl ?_
  refine own_iloadN (pc' := 15) d2_14 rfl rfl ?_
  refine own_baload (pc' := 16) (v := .int b4) A_a (by decide) rfl d2_15 rfl ?_
  refine own_sipush (255 : Int32) (pc' := 19) d2_16 rfl rfl ?_
  refine own_iand (pc' := 20) d2_19 rfl ?_
  refine own_ixor (pc' := 21) d2_20 rfl ?_
  refine own_istoreN (pc' := 22) (Ls' := #[.val (.ref a), .val (.int ((own_it 8 ((own_it 8 ((own_it 8 ((199 : Int32) ^^^ (b1 &&& (255 : Int32)))) ^^^ (b2 &&& (255 : Int32)))) ^^^ (b3 &&& (255 : Int32)))) ^^^ (b4 &&& (255 : Int32)))), .val (.int (4 : Int32)), .val (.int (8 : Int32))]) d2_21 rfl rfl ?_
  refine own_iconst (0 : Int32) (pc' := 23) d2_22 rfl rfl ?_
  refine own_istoreN (pc' := 24) (Ls' := #[.val (.ref a), .val (.int ((own_it 8 ((own_it 8 ((own_it 8 ((199 : Int32) ^^^ (b1 &&& (255 : Int32)))) ^^^ (b2 &&& (255 : Int32)))) ^^^ (b3 &&& (255 : Int32)))) ^^^ (b4 &&& (255 : Int32)))), .val (.int (4 : Int32)), .val (.int (0 : Int32))]) d2_23 rfl rfl ?_
  refine own_inner l Z a0 hw _ a (4 : Int32) h0 n0 8 (0 : Int32) _ (by decide) ?_
  show own_W l Z (⟨"com/example/fieldtap/fieldtap/classic/ApplicationDirectory", "crc", "([B)I"⟩ : MethodName) prog_15_method_4_code 4 (some .int) ({ frames := 0, cells := 0, slots := 0, locals := 0 } : Room) n0 (fun v h => v = some (.int (own_it 8 ((own_it 8 ((own_it 8 ((own_it 8 ((199 : Int32) ^^^ (b1 &&& (255 : Int32)))) ^^^ (b2 &&& (255 : Int32)))) ^^^ (b3 &&& (255 : Int32)))) ^^^ (b4 &&& (255 : Int32))))) ∧ h0 = h) h0 0 0 65 #[.val (.ref a), .val (.int (own_it 8 ((own_it 8 ((own_it 8 ((own_it 8 ((199 : Int32) ^^^ (b1 &&& (255 : Int32)))) ^^^ (b2 &&& (255 : Int32)))) ^^^ (b3 &&& (255 : Int32)))) ^^^ (b4 &&& (255 : Int32))))), .val (.int (4 : Int32)), .val (.int (8 : Int32))] []
  refine own_iinc (pc' := 68) (w := (1 : Int32)) (Ls' := #[.val (.ref a), .val (.int (own_it 8 ((own_it 8 ((own_it 8 ((own_it 8 ((199 : Int32) ^^^ (b1 &&& (255 : Int32)))) ^^^ (b2 &&& (255 : Int32)))) ^^^ (b3 &&& (255 : Int32)))) ^^^ (b4 &&& (255 : Int32))))), .val (.int ((4 : Int32) + (1 : Int32))), .val (.int (8 : Int32))]) d2_65 rfl rfl rfl rfl ?_
  rw [show ((4 : Int32) + (1 : Int32)) = (5 : Int32) from (by decide)]
  refine own_goto (pc' := 6) d2_68 (by decide) (by decide) ?_
  refine own_iloadN (pc' := 7) d2_6 rfl rfl ?_
  refine own_aloadN (pc' := 8) d2_7 rfl rfl ?_
  refine own_len (pc' := 9) (n := (5 : Int32)) A_a rfl d2_8 rfl ?_
  refine own_ic_ge_t (pc' := 71) d2_9 (by decide) (by decide) (by decide) ?_
  refine own_iloadN (pc' := 72) d2_71 rfl rfl ?_
  exact own_iret rfl d2_72 ⟨rfl, rfl⟩
set_option maxRecDepth 65536 in
set_option maxHeartbeats 40000000 in
theorem own_law0 (l : Launch) (Z : State) (a0 : Array Value) (hw : ∀ d ∈ tables_1, d.before a0 Z = true) (x0 x1 x2 x3 x4 x5 : Int32) (h0 : Heap) (n0 : Nat) (hn0 : n0 ≤ h0.size) :
    own_W l Z x code maxLocals ret room_1 n0 (fun v h => v = some (.int 1)) h0 0 0 10 #[.val (.int x0), .val (.int x1), .val (.int x2), .val (.int x3), .val (.int x4), .val (.int x5), .val (.int (0 : Int32)), .unset, .unset, .unset, .unset, .unset, .unset, .unset] [] := by
  have k0 : own_ok 199 := ⟨by decide, by decide⟩
  refine own_iloadN (pc' := 11) at_10 rfl rfl ?_
  refine own_i2b (pc' := 12) at_11 rfl ?_
  refine own_istore (pc' := 14) (Ls' := #[.val (.int x0), .val (.int x1), .val (.int x2), .val (.int x3), .val (.int x4), .val (.int x5), .val (.int (0 : Int32)), .val (.int (x0.toInt8.toInt32)), .unset, .unset, .unset, .unset, .unset, .unset]) at_12 rfl rfl ?_
  refine own_iloadN (pc' := 15) at_14 rfl rfl ?_
  refine own_i2b (pc' := 16) at_15 rfl ?_
  refine own_istore (pc' := 18) (Ls' := #[.val (.int x0), .val (.int x1), .val (.int x2), .val (.int x3), .val (.int x4), .val (.int x5), .val (.int (0 : Int32)), .val (.int (x0.toInt8.toInt32)), .val (.int (x1.toInt8.toInt32)), .unset, .unset, .unset, .unset, .unset]) at_16 rfl rfl ?_
  refine own_iloadN (pc' := 19) at_18 rfl rfl ?_
  refine own_i2b (pc' := 20) at_19 rfl ?_
  refine own_istore (pc' := 22) (Ls' := #[.val (.int x0), .val (.int x1), .val (.int x2), .val (.int x3), .val (.int x4), .val (.int x5), .val (.int (0 : Int32)), .val (.int (x0.toInt8.toInt32)), .val (.int (x1.toInt8.toInt32)), .val (.int (x2.toInt8.toInt32)), .unset, .unset, .unset, .unset]) at_20 rfl rfl ?_
  refine own_iloadN (pc' := 23) at_22 rfl rfl ?_
  refine own_i2b (pc' := 24) at_23 rfl ?_
  refine own_istore (pc' := 26) (Ls' := #[.val (.int x0), .val (.int x1), .val (.int x2), .val (.int x3), .val (.int x4), .val (.int x5), .val (.int (0 : Int32)), .val (.int (x0.toInt8.toInt32)), .val (.int (x1.toInt8.toInt32)), .val (.int (x2.toInt8.toInt32)), .val (.int (x3.toInt8.toInt32)), .unset, .unset, .unset]) at_24 rfl rfl ?_
  refine own_iload (pc' := 28) at_26 rfl rfl ?_
  refine own_i2b (pc' := 29) at_28 rfl ?_
  refine own_istore (pc' := 31) (Ls' := #[.val (.int x0), .val (.int x1), .val (.int x2), .val (.int x3), .val (.int x4), .val (.int x5), .val (.int (0 : Int32)), .val (.int (x0.toInt8.toInt32)), .val (.int (x1.toInt8.toInt32)), .val (.int (x2.toInt8.toInt32)), .val (.int (x3.toInt8.toInt32)), .val (.int (x4.toInt8.toInt32)), .unset, .unset]) at_29 rfl rfl ?_
  refine own_iload (pc' := 33) at_31 rfl rfl ?_
  refine own_if_ne_f (pc' := 36) at_33 (by decide) rfl ?_
  refine own_iconst (0 : Int32) (pc' := 37) at_36 rfl rfl ?_
  refine own_newarr (pc' := 39) (ty := .byte) (cap := 0) (hw _ (List.mem_of_getElem? (i := 1) rfl)) rfl at_37 rfl (by decide) (by decide) (by decide) (by decide) (by decide) (fun h1 a gt_a lt_a E2 A_a => ?_)
  have ge_a : n0 ≤ a := Nat.le_trans hn0 gt_a
  replace hn0 : n0 ≤ h1.size := Nat.le_trans hn0 E2.1
  replace A_a : own_A Z h1 a .byte [] := A_a.cast rfl
  refine own_astore (pc' := 41) (Ls' := #[.val (.int x0), .val (.int x1), .val (.int x2), .val (.int x3), .val (.int x4), .val (.int x5), .val (.int (0 : Int32)), .val (.int (x0.toInt8.toInt32)), .val (.int (x1.toInt8.toInt32)), .val (.int (x2.toInt8.toInt32)), .val (.int (x3.toInt8.toInt32)), .val (.int (x4.toInt8.toInt32)), .val (.ref a), .unset]) at_39 rfl rfl ?_
  refine own_goto (pc' := 180) at_41 (by decide) (by decide) ?_
  refine own_sipush (199 : Int32) (pc' := 183) at_180 rfl rfl ?_
  refine own_istore (pc' := 185) (Ls' := #[.val (.int x0), .val (.int x1), .val (.int x2), .val (.int x3), .val (.int x4), .val (.int x5), .val (.int (0 : Int32)), .val (.int (x0.toInt8.toInt32)), .val (.int (x1.toInt8.toInt32)), .val (.int (x2.toInt8.toInt32)), .val (.int (x3.toInt8.toInt32)), .val (.int (x4.toInt8.toInt32)), .val (.ref a), .val (.int (199 : Int32))]) at_183 rfl rfl ?_
  refine own_iload (pc' := 187) at_185 rfl rfl ?_
  refine own_iconst (2 : Int32) (pc' := 188) at_187 rfl rfl ?_
  refine own_ic_lt_t (pc' := 204) at_188 (by decide) (by decide) (by decide) ?_
  refine own_iload (pc' := 206) at_204 rfl rfl ?_
  refine own_iconst (3 : Int32) (pc' := 207) at_206 rfl rfl ?_
  refine own_ic_lt_t (pc' := 223) at_207 (by decide) (by decide) (by decide) ?_
  refine own_iload (pc' := 225) at_223 rfl rfl ?_
  refine own_iconst (4 : Int32) (pc' := 226) at_225 rfl rfl ?_
  refine own_ic_lt_t (pc' := 242) at_226 (by decide) (by decide) (by decide) ?_
  refine own_iload (pc' := 244) at_242 rfl rfl ?_
  refine own_iconst (5 : Int32) (pc' := 245) at_244 rfl rfl ?_
  refine own_ic_lt_t (pc' := 262) at_245 (by decide) (by decide) (by decide) ?_
  refine own_aload (pc' := 264) at_262 rfl rfl ?_
  refine own_static (own_crc0 l Z a0 hw a h1 n0 hn0 A_a) (hw _ (List.mem_of_getElem? (i := 6) rfl)) (hw _ (List.mem_of_getElem? (i := 7) rfl)) (hw _ (List.mem_of_getElem? (i := 8) rfl)) (hw _ (List.mem_of_getElem? (i := 9) rfl)) (plainFor_of_name own_pn1) (by decide) own_pd2 rfl (argsL := [.ref a]) (rest := []) rfl rfl (W := 0) (Nat.le_refl _) (by decide) (by decide) (by decide) (by decide) rfl at_264 (pc' := 267) rfl (fun v_ h3 hq => ?_)
  obtain ⟨rfl, rfl⟩ := hq
  show own_W l Z x code maxLocals ret room_1 n0 (fun v h => v = some (.int 1)) h1 1 0 267 #[.val (.int x0), .val (.int x1), .val (.int x2), .val (.int x3), .val (.int x4), .val (.int x5), .val (.int (0 : Int32)), .val (.int (x0.toInt8.toInt32)), .val (.int (x1.toInt8.toInt32)), .val (.int (x2.toInt8.toInt32)), .val (.int (x3.toInt8.toInt32)), .val (.int (x4.toInt8.toInt32)), .val (.ref a), .val (.int (199 : Int32))] [.int (199 : Int32)]
  refine own_iload (pc' := 269) at_267 rfl rfl ?_
  refine own_ic_ne_f (pc' := 272) at_269 rfl rfl ?_
  refine own_iconst (1 : Int32) (pc' := 273) at_272 rfl rfl ?_
  refine own_goto (pc' := 277) at_273 (by decide) (by decide) ?_
  exact own_bret (v := (1 : Int32)) rfl (by first | rfl | decide | assumption) at_277 rfl
set_option maxRecDepth 65536 in
set_option maxHeartbeats 40000000 in
theorem own_law1 (l : Launch) (Z : State) (a0 : Array Value) (hw : ∀ d ∈ tables_1, d.before a0 Z = true) (x0 x1 x2 x3 x4 x5 : Int32) (h0 : Heap) (n0 : Nat) (hn0 : n0 ≤ h0.size) :
    own_W l Z x code maxLocals ret room_1 n0 (fun v h => v = some (.int 1)) h0 0 0 10 #[.val (.int x0), .val (.int x1), .val (.int x2), .val (.int x3), .val (.int x4), .val (.int x5), .val (.int (1 : Int32)), .unset, .unset, .unset, .unset, .unset, .unset, .unset] [] := by
  have k0 : own_ok 199 := ⟨by decide, by decide⟩
  refine own_iloadN (pc' := 11) at_10 rfl rfl ?_
  refine own_i2b (pc' := 12) at_11 rfl ?_
  refine own_istore (pc' := 14) (Ls' := #[.val (.int x0), .val (.int x1), .val (.int x2), .val (.int x3), .val (.int x4), .val (.int x5), .val (.int (1 : Int32)), .val (.int (x0.toInt8.toInt32)), .unset, .unset, .unset, .unset, .unset, .unset]) at_12 rfl rfl ?_
  refine own_iloadN (pc' := 15) at_14 rfl rfl ?_
  refine own_i2b (pc' := 16) at_15 rfl ?_
  refine own_istore (pc' := 18) (Ls' := #[.val (.int x0), .val (.int x1), .val (.int x2), .val (.int x3), .val (.int x4), .val (.int x5), .val (.int (1 : Int32)), .val (.int (x0.toInt8.toInt32)), .val (.int (x1.toInt8.toInt32)), .unset, .unset, .unset, .unset, .unset]) at_16 rfl rfl ?_
  refine own_iloadN (pc' := 19) at_18 rfl rfl ?_
  refine own_i2b (pc' := 20) at_19 rfl ?_
  refine own_istore (pc' := 22) (Ls' := #[.val (.int x0), .val (.int x1), .val (.int x2), .val (.int x3), .val (.int x4), .val (.int x5), .val (.int (1 : Int32)), .val (.int (x0.toInt8.toInt32)), .val (.int (x1.toInt8.toInt32)), .val (.int (x2.toInt8.toInt32)), .unset, .unset, .unset, .unset]) at_20 rfl rfl ?_
  refine own_iloadN (pc' := 23) at_22 rfl rfl ?_
  refine own_i2b (pc' := 24) at_23 rfl ?_
  refine own_istore (pc' := 26) (Ls' := #[.val (.int x0), .val (.int x1), .val (.int x2), .val (.int x3), .val (.int x4), .val (.int x5), .val (.int (1 : Int32)), .val (.int (x0.toInt8.toInt32)), .val (.int (x1.toInt8.toInt32)), .val (.int (x2.toInt8.toInt32)), .val (.int (x3.toInt8.toInt32)), .unset, .unset, .unset]) at_24 rfl rfl ?_
  refine own_iload (pc' := 28) at_26 rfl rfl ?_
  refine own_i2b (pc' := 29) at_28 rfl ?_
  refine own_istore (pc' := 31) (Ls' := #[.val (.int x0), .val (.int x1), .val (.int x2), .val (.int x3), .val (.int x4), .val (.int x5), .val (.int (1 : Int32)), .val (.int (x0.toInt8.toInt32)), .val (.int (x1.toInt8.toInt32)), .val (.int (x2.toInt8.toInt32)), .val (.int (x3.toInt8.toInt32)), .val (.int (x4.toInt8.toInt32)), .unset, .unset]) at_29 rfl rfl ?_
  refine own_iload (pc' := 33) at_31 rfl rfl ?_
  refine own_if_ne_t (pc' := 44) at_33 (by decide) (by decide) (by decide) ?_
  refine own_iload (pc' := 46) at_44 rfl rfl ?_
  refine own_iconst (1 : Int32) (pc' := 47) at_46 rfl rfl ?_
  refine own_ic_ne_f (pc' := 50) at_47 (by decide) rfl ?_
  refine own_iconst (1 : Int32) (pc' := 51) at_50 rfl rfl ?_
  refine own_newarr (pc' := 53) (ty := .byte) (cap := 1) (hw _ (List.mem_of_getElem? (i := 1) rfl)) rfl at_51 rfl (by decide) (by decide) (by decide) (by decide) (by decide) (fun h4 a gt_a lt_a E5 A_a => ?_)
  have ge_a : n0 ≤ a := Nat.le_trans hn0 gt_a
  replace hn0 : n0 ≤ h4.size := Nat.le_trans hn0 E5.1
  replace A_a : own_A Z h4 a .byte [.int (0 : Int32)] := A_a.cast rfl
  refine own_dup (pc' := 54) at_53 rfl rfl ?_
  refine own_iconst (0 : Int32) (pc' := 55) at_54 rfl rfl ?_
  refine own_iload (pc' := 57) at_55 rfl rfl ?_
  refine own_bastore (pc' := 58) A_a (by decide) (by first | decide | (simp only [List.length_cons, List.length_nil, List.length_set, List.length_replicate]; decide)) ge_a at_57 rfl (fun h6 K7 A_new => ?_)
  replace hn0 : n0 ≤ h6.size := Nat.le_trans hn0 K7.1
  replace A_a : own_A Z h6 a .byte [.int (nar .byte (x0.toInt8.toInt32))] := A_new.cast rfl
  refine own_astore (pc' := 60) (Ls' := #[.val (.int x0), .val (.int x1), .val (.int x2), .val (.int x3), .val (.int x4), .val (.int x5), .val (.int (1 : Int32)), .val (.int (x0.toInt8.toInt32)), .val (.int (x1.toInt8.toInt32)), .val (.int (x2.toInt8.toInt32)), .val (.int (x3.toInt8.toInt32)), .val (.int (x4.toInt8.toInt32)), .val (.ref a), .unset]) at_58 rfl rfl ?_
  refine own_goto (pc' := 180) at_60 (by decide) (by decide) ?_
  refine own_sipush (199 : Int32) (pc' := 183) at_180 rfl rfl ?_
  refine own_istore (pc' := 185) (Ls' := #[.val (.int x0), .val (.int x1), .val (.int x2), .val (.int x3), .val (.int x4), .val (.int x5), .val (.int (1 : Int32)), .val (.int (x0.toInt8.toInt32)), .val (.int (x1.toInt8.toInt32)), .val (.int (x2.toInt8.toInt32)), .val (.int (x3.toInt8.toInt32)), .val (.int (x4.toInt8.toInt32)), .val (.ref a), .val (.int (199 : Int32))]) at_183 rfl rfl ?_
  refine own_iload (pc' := 187) at_185 rfl rfl ?_
  refine own_iconst (2 : Int32) (pc' := 188) at_187 rfl rfl ?_
  refine own_ic_lt_t (pc' := 204) at_188 (by decide) (by decide) (by decide) ?_
  refine own_iload (pc' := 206) at_204 rfl rfl ?_
  refine own_iconst (3 : Int32) (pc' := 207) at_206 rfl rfl ?_
  refine own_ic_lt_t (pc' := 223) at_207 (by decide) (by decide) (by decide) ?_
  refine own_iload (pc' := 225) at_223 rfl rfl ?_
  refine own_iconst (4 : Int32) (pc' := 226) at_225 rfl rfl ?_
  refine own_ic_lt_t (pc' := 242) at_226 (by decide) (by decide) (by decide) ?_
  refine own_iload (pc' := 244) at_242 rfl rfl ?_
  refine own_iconst (5 : Int32) (pc' := 245) at_244 rfl rfl ?_
  refine own_ic_lt_t (pc' := 262) at_245 (by decide) (by decide) (by decide) ?_
  refine own_aload (pc' := 264) at_262 rfl rfl ?_
  refine own_static (own_crc1 l Z a0 hw a _ h6 n0 hn0 A_a) (hw _ (List.mem_of_getElem? (i := 6) rfl)) (hw _ (List.mem_of_getElem? (i := 7) rfl)) (hw _ (List.mem_of_getElem? (i := 8) rfl)) (hw _ (List.mem_of_getElem? (i := 9) rfl)) (plainFor_of_name own_pn1) (by decide) own_pd2 rfl (argsL := [.ref a]) (rest := []) rfl rfl (W := 0) (Nat.le_refl _) (by decide) (by decide) (by decide) (by decide) rfl at_264 (pc' := 267) rfl (fun v_ h8 hq => ?_)
  obtain ⟨rfl, rfl⟩ := hq
  show own_W l Z x code maxLocals ret room_1 n0 (fun v h => v = some (.int 1)) h6 1 1 267 #[.val (.int x0), .val (.int x1), .val (.int x2), .val (.int x3), .val (.int x4), .val (.int x5), .val (.int (1 : Int32)), .val (.int (x0.toInt8.toInt32)), .val (.int (x1.toInt8.toInt32)), .val (.int (x2.toInt8.toInt32)), .val (.int (x3.toInt8.toInt32)), .val (.int (x4.toInt8.toInt32)), .val (.ref a), .val (.int (199 : Int32))] [.int (199 : Int32)]
  refine own_iload (pc' := 269) at_267 rfl rfl ?_
  refine own_ic_ne_f (pc' := 272) at_269 rfl rfl ?_
  refine own_iconst (1 : Int32) (pc' := 273) at_272 rfl rfl ?_
  refine own_goto (pc' := 277) at_273 (by decide) (by decide) ?_
  exact own_bret (v := (1 : Int32)) rfl (by first | rfl | decide | assumption) at_277 rfl
set_option maxRecDepth 65536 in
set_option maxHeartbeats 40000000 in
theorem own_law2 (l : Launch) (Z : State) (a0 : Array Value) (hw : ∀ d ∈ tables_1, d.before a0 Z = true) (x0 x1 x2 x3 x4 x5 : Int32) (h0 : Heap) (n0 : Nat) (hn0 : n0 ≤ h0.size) :
    own_W l Z x code maxLocals ret room_1 n0 (fun v h => v = some (.int 1)) h0 0 0 10 #[.val (.int x0), .val (.int x1), .val (.int x2), .val (.int x3), .val (.int x4), .val (.int x5), .val (.int (2 : Int32)), .unset, .unset, .unset, .unset, .unset, .unset, .unset] [] := by
  have k0 : own_ok 199 := ⟨by decide, by decide⟩
  have s1 := own_step (199 : Int32) (199 : Int32) x1 rfl k0
  refine own_iloadN (pc' := 11) at_10 rfl rfl ?_
  refine own_i2b (pc' := 12) at_11 rfl ?_
  refine own_istore (pc' := 14) (Ls' := #[.val (.int x0), .val (.int x1), .val (.int x2), .val (.int x3), .val (.int x4), .val (.int x5), .val (.int (2 : Int32)), .val (.int (x0.toInt8.toInt32)), .unset, .unset, .unset, .unset, .unset, .unset]) at_12 rfl rfl ?_
  refine own_iloadN (pc' := 15) at_14 rfl rfl ?_
  refine own_i2b (pc' := 16) at_15 rfl ?_
  refine own_istore (pc' := 18) (Ls' := #[.val (.int x0), .val (.int x1), .val (.int x2), .val (.int x3), .val (.int x4), .val (.int x5), .val (.int (2 : Int32)), .val (.int (x0.toInt8.toInt32)), .val (.int (x1.toInt8.toInt32)), .unset, .unset, .unset, .unset, .unset]) at_16 rfl rfl ?_
  refine own_iloadN (pc' := 19) at_18 rfl rfl ?_
  refine own_i2b (pc' := 20) at_19 rfl ?_
  refine own_istore (pc' := 22) (Ls' := #[.val (.int x0), .val (.int x1), .val (.int x2), .val (.int x3), .val (.int x4), .val (.int x5), .val (.int (2 : Int32)), .val (.int (x0.toInt8.toInt32)), .val (.int (x1.toInt8.toInt32)), .val (.int (x2.toInt8.toInt32)), .unset, .unset, .unset, .unset]) at_20 rfl rfl ?_
  refine own_iloadN (pc' := 23) at_22 rfl rfl ?_
  refine own_i2b (pc' := 24) at_23 rfl ?_
  refine own_istore (pc' := 26) (Ls' := #[.val (.int x0), .val (.int x1), .val (.int x2), .val (.int x3), .val (.int x4), .val (.int x5), .val (.int (2 : Int32)), .val (.int (x0.toInt8.toInt32)), .val (.int (x1.toInt8.toInt32)), .val (.int (x2.toInt8.toInt32)), .val (.int (x3.toInt8.toInt32)), .unset, .unset, .unset]) at_24 rfl rfl ?_
  refine own_iload (pc' := 28) at_26 rfl rfl ?_
  refine own_i2b (pc' := 29) at_28 rfl ?_
  refine own_istore (pc' := 31) (Ls' := #[.val (.int x0), .val (.int x1), .val (.int x2), .val (.int x3), .val (.int x4), .val (.int x5), .val (.int (2 : Int32)), .val (.int (x0.toInt8.toInt32)), .val (.int (x1.toInt8.toInt32)), .val (.int (x2.toInt8.toInt32)), .val (.int (x3.toInt8.toInt32)), .val (.int (x4.toInt8.toInt32)), .unset, .unset]) at_29 rfl rfl ?_
  refine own_iload (pc' := 33) at_31 rfl rfl ?_
  refine own_if_ne_t (pc' := 44) at_33 (by decide) (by decide) (by decide) ?_
  refine own_iload (pc' := 46) at_44 rfl rfl ?_
  refine own_iconst (1 : Int32) (pc' := 47) at_46 rfl rfl ?_
  refine own_ic_ne_t (pc' := 63) at_47 (by decide) (by decide) (by decide) ?_
  refine own_iload (pc' := 65) at_63 rfl rfl ?_
  refine own_iconst (2 : Int32) (pc' := 66) at_65 rfl rfl ?_
  refine own_ic_ne_f (pc' := 69) at_66 (by decide) rfl ?_
  refine own_iconst (2 : Int32) (pc' := 70) at_69 rfl rfl ?_
  refine own_newarr (pc' := 72) (ty := .byte) (cap := 2) (hw _ (List.mem_of_getElem? (i := 1) rfl)) rfl at_70 rfl (by decide) (by decide) (by decide) (by decide) (by decide) (fun h9 a gt_a lt_a E10 A_a => ?_)
  have ge_a : n0 ≤ a := Nat.le_trans hn0 gt_a
  replace hn0 : n0 ≤ h9.size := Nat.le_trans hn0 E10.1
  replace A_a : own_A Z h9 a .byte [.int (0 : Int32), .int (0 : Int32)] := A_a.cast rfl
  refine own_dup (pc' := 73) at_72 rfl rfl ?_
  refine own_iconst (0 : Int32) (pc' := 74) at_73 rfl rfl ?_
  refine own_iload (pc' := 76) at_74 rfl rfl ?_
  refine own_bastore (pc' := 77) A_a (by decide) (by first | decide | (simp only [List.length_cons, List.length_nil, List.length_set, List.length_replicate]; decide)) ge_a at_76 rfl (fun h11 K12 A_new => ?_)
  replace hn0 : n0 ≤ h11.size := Nat.le_trans hn0 K12.1
  replace A_a : own_A Z h11 a .byte [.int (nar .byte (x0.toInt8.toInt32)), .int (0 : Int32)] := A_new.cast rfl
  refine own_dup (pc' := 78) at_77 rfl rfl ?_
  refine own_iconst (1 : Int32) (pc' := 79) at_78 rfl rfl ?_
  refine own_iload (pc' := 81) at_79 rfl rfl ?_
  refine own_bastore (pc' := 82) A_a (by decide) (by first | decide | (simp only [List.length_cons, List.length_nil, List.length_set, List.length_replicate]; decide)) ge_a at_81 rfl (fun h13 K14 A_new => ?_)
  replace hn0 : n0 ≤ h13.size := Nat.le_trans hn0 K14.1
  replace A_a : own_A Z h13 a .byte [.int (nar .byte (x0.toInt8.toInt32)), .int (nar .byte (x1.toInt8.toInt32))] := A_new.cast rfl
  refine own_astore (pc' := 84) (Ls' := #[.val (.int x0), .val (.int x1), .val (.int x2), .val (.int x3), .val (.int x4), .val (.int x5), .val (.int (2 : Int32)), .val (.int (x0.toInt8.toInt32)), .val (.int (x1.toInt8.toInt32)), .val (.int (x2.toInt8.toInt32)), .val (.int (x3.toInt8.toInt32)), .val (.int (x4.toInt8.toInt32)), .val (.ref a), .unset]) at_82 rfl rfl ?_
  refine own_goto (pc' := 180) at_84 (by decide) (by decide) ?_
  refine own_sipush (199 : Int32) (pc' := 183) at_180 rfl rfl ?_
  refine own_istore (pc' := 185) (Ls' := #[.val (.int x0), .val (.int x1), .val (.int x2), .val (.int x3), .val (.int x4), .val (.int x5), .val (.int (2 : Int32)), .val (.int (x0.toInt8.toInt32)), .val (.int (x1.toInt8.toInt32)), .val (.int (x2.toInt8.toInt32)), .val (.int (x3.toInt8.toInt32)), .val (.int (x4.toInt8.toInt32)), .val (.ref a), .val (.int (199 : Int32))]) at_183 rfl rfl ?_
  refine own_iload (pc' := 187) at_185 rfl rfl ?_
  refine own_iconst (2 : Int32) (pc' := 188) at_187 rfl rfl ?_
  refine own_ic_lt_f (pc' := 191) at_188 (by decide) rfl ?_
  refine own_iload (pc' := 193) at_191 rfl rfl ?_
  refine own_iloadN (pc' := 194) at_193 rfl rfl ?_
  refine own_sipush (255 : Int32) (pc' := 197) at_194 rfl rfl ?_
  refine own_iand (pc' := 198) at_197 rfl ?_
  refine own_ixor (pc' := 199) at_198 rfl ?_
  refine own_static (own_t8W l Z a0 hw ((199 : Int32) ^^^ (x1 &&& (255 : Int32))) h13 n0 hn0) (hw _ (List.mem_of_getElem? (i := 2) rfl)) (hw _ (List.mem_of_getElem? (i := 3) rfl)) (hw _ (List.mem_of_getElem? (i := 4) rfl)) (hw _ (List.mem_of_getElem? (i := 5) rfl)) (plainFor_of_name own_pn0) (by decide) own_pd1 rfl (argsL := [.int ((199 : Int32) ^^^ (x1 &&& (255 : Int32)))]) (rest := []) rfl rfl (W := 0) (Nat.le_refl _) (by decide) (by decide) (by decide) (by decide) rfl at_199 (pc' := 202) rfl (fun v_ h15 hq => ?_)
  obtain ⟨rfl, rfl⟩ := hq
  show own_W l Z x code maxLocals ret room_1 n0 (fun v h => v = some (.int 1)) h13 1 2 202 #[.val (.int x0), .val (.int x1), .val (.int x2), .val (.int x3), .val (.int x4), .val (.int x5), .val (.int (2 : Int32)), .val (.int (x0.toInt8.toInt32)), .val (.int (x1.toInt8.toInt32)), .val (.int (x2.toInt8.toInt32)), .val (.int (x3.toInt8.toInt32)), .val (.int (x4.toInt8.toInt32)), .val (.ref a), .val (.int (199 : Int32))] [.int (own_f0 ((199 : Int32) ^^^ (x1 &&& (255 : Int32))) 0)]
  refine own_istore (pc' := 204) (Ls' := #[.val (.int x0), .val (.int x1), .val (.int x2), .val (.int x3), .val (.int x4), .val (.int x5), .val (.int (2 : Int32)), .val (.int (x0.toInt8.toInt32)), .val (.int (x1.toInt8.toInt32)), .val (.int (x2.toInt8.toInt32)), .val (.int (x3.toInt8.toInt32)), .val (.int (x4.toInt8.toInt32)), .val (.ref a), .val (.int (own_f0 ((199 : Int32) ^^^ (x1 &&& (255 : Int32))) 0))]) at_202 rfl rfl ?_
  refine own_iload (pc' := 206) at_204 rfl rfl ?_
  refine own_iconst (3 : Int32) (pc' := 207) at_206 rfl rfl ?_
  refine own_ic_lt_t (pc' := 223) at_207 (by decide) (by decide) (by decide) ?_
  refine own_iload (pc' := 225) at_223 rfl rfl ?_
  refine own_iconst (4 : Int32) (pc' := 226) at_225 rfl rfl ?_
  refine own_ic_lt_t (pc' := 242) at_226 (by decide) (by decide) (by decide) ?_
  refine own_iload (pc' := 244) at_242 rfl rfl ?_
  refine own_iconst (5 : Int32) (pc' := 245) at_244 rfl rfl ?_
  refine own_ic_lt_t (pc' := 262) at_245 (by decide) (by decide) (by decide) ?_
  refine own_aload (pc' := 264) at_262 rfl rfl ?_
  refine own_static (own_crc2 l Z a0 hw a _ _ h13 n0 hn0 A_a) (hw _ (List.mem_of_getElem? (i := 6) rfl)) (hw _ (List.mem_of_getElem? (i := 7) rfl)) (hw _ (List.mem_of_getElem? (i := 8) rfl)) (hw _ (List.mem_of_getElem? (i := 9) rfl)) (plainFor_of_name own_pn1) (by decide) own_pd2 rfl (argsL := [.ref a]) (rest := []) rfl rfl (W := 0) (Nat.le_refl _) (by decide) (by decide) (by decide) (by decide) rfl at_264 (pc' := 267) rfl (fun v_ h16 hq => ?_)
  obtain ⟨rfl, rfl⟩ := hq
  show own_W l Z x code maxLocals ret room_1 n0 (fun v h => v = some (.int 1)) h13 1 2 267 #[.val (.int x0), .val (.int x1), .val (.int x2), .val (.int x3), .val (.int x4), .val (.int x5), .val (.int (2 : Int32)), .val (.int (x0.toInt8.toInt32)), .val (.int (x1.toInt8.toInt32)), .val (.int (x2.toInt8.toInt32)), .val (.int (x3.toInt8.toInt32)), .val (.int (x4.toInt8.toInt32)), .val (.ref a), .val (.int (own_f0 ((199 : Int32) ^^^ (x1 &&& (255 : Int32))) 0))] [.int (own_it 8 ((199 : Int32) ^^^ ((nar .byte (x1.toInt8.toInt32)) &&& (255 : Int32))))]
  refine own_iload (pc' := 269) at_267 rfl rfl ?_
  refine own_ic_ne_f (pc' := 272) at_269 s1.1 rfl ?_
  refine own_iconst (1 : Int32) (pc' := 273) at_272 rfl rfl ?_
  refine own_goto (pc' := 277) at_273 (by decide) (by decide) ?_
  exact own_bret (v := (1 : Int32)) rfl (by first | rfl | decide | assumption) at_277 rfl
set_option maxRecDepth 65536 in
set_option maxHeartbeats 40000000 in
theorem own_law3 (l : Launch) (Z : State) (a0 : Array Value) (hw : ∀ d ∈ tables_1, d.before a0 Z = true) (x0 x1 x2 x3 x4 x5 : Int32) (h0 : Heap) (n0 : Nat) (hn0 : n0 ≤ h0.size) :
    own_W l Z x code maxLocals ret room_1 n0 (fun v h => v = some (.int 1)) h0 0 0 10 #[.val (.int x0), .val (.int x1), .val (.int x2), .val (.int x3), .val (.int x4), .val (.int x5), .val (.int (3 : Int32)), .unset, .unset, .unset, .unset, .unset, .unset, .unset] [] := by
  have k0 : own_ok 199 := ⟨by decide, by decide⟩
  have s1 := own_step (199 : Int32) (199 : Int32) x1 rfl k0
  have s2 := own_step (own_it 8 ((199 : Int32) ^^^ ((nar .byte (x1.toInt8.toInt32)) &&& (255 : Int32)))) (own_f0 ((199 : Int32) ^^^ (x1 &&& (255 : Int32))) 0) x2 s1.1 s1.2
  refine own_iloadN (pc' := 11) at_10 rfl rfl ?_
  refine own_i2b (pc' := 12) at_11 rfl ?_
  refine own_istore (pc' := 14) (Ls' := #[.val (.int x0), .val (.int x1), .val (.int x2), .val (.int x3), .val (.int x4), .val (.int x5), .val (.int (3 : Int32)), .val (.int (x0.toInt8.toInt32)), .unset, .unset, .unset, .unset, .unset, .unset]) at_12 rfl rfl ?_
  refine own_iloadN (pc' := 15) at_14 rfl rfl ?_
  refine own_i2b (pc' := 16) at_15 rfl ?_
  refine own_istore (pc' := 18) (Ls' := #[.val (.int x0), .val (.int x1), .val (.int x2), .val (.int x3), .val (.int x4), .val (.int x5), .val (.int (3 : Int32)), .val (.int (x0.toInt8.toInt32)), .val (.int (x1.toInt8.toInt32)), .unset, .unset, .unset, .unset, .unset]) at_16 rfl rfl ?_
  refine own_iloadN (pc' := 19) at_18 rfl rfl ?_
  refine own_i2b (pc' := 20) at_19 rfl ?_
  refine own_istore (pc' := 22) (Ls' := #[.val (.int x0), .val (.int x1), .val (.int x2), .val (.int x3), .val (.int x4), .val (.int x5), .val (.int (3 : Int32)), .val (.int (x0.toInt8.toInt32)), .val (.int (x1.toInt8.toInt32)), .val (.int (x2.toInt8.toInt32)), .unset, .unset, .unset, .unset]) at_20 rfl rfl ?_
  refine own_iloadN (pc' := 23) at_22 rfl rfl ?_
  refine own_i2b (pc' := 24) at_23 rfl ?_
  refine own_istore (pc' := 26) (Ls' := #[.val (.int x0), .val (.int x1), .val (.int x2), .val (.int x3), .val (.int x4), .val (.int x5), .val (.int (3 : Int32)), .val (.int (x0.toInt8.toInt32)), .val (.int (x1.toInt8.toInt32)), .val (.int (x2.toInt8.toInt32)), .val (.int (x3.toInt8.toInt32)), .unset, .unset, .unset]) at_24 rfl rfl ?_
  refine own_iload (pc' := 28) at_26 rfl rfl ?_
  refine own_i2b (pc' := 29) at_28 rfl ?_
  refine own_istore (pc' := 31) (Ls' := #[.val (.int x0), .val (.int x1), .val (.int x2), .val (.int x3), .val (.int x4), .val (.int x5), .val (.int (3 : Int32)), .val (.int (x0.toInt8.toInt32)), .val (.int (x1.toInt8.toInt32)), .val (.int (x2.toInt8.toInt32)), .val (.int (x3.toInt8.toInt32)), .val (.int (x4.toInt8.toInt32)), .unset, .unset]) at_29 rfl rfl ?_
  refine own_iload (pc' := 33) at_31 rfl rfl ?_
  refine own_if_ne_t (pc' := 44) at_33 (by decide) (by decide) (by decide) ?_
  refine own_iload (pc' := 46) at_44 rfl rfl ?_
  refine own_iconst (1 : Int32) (pc' := 47) at_46 rfl rfl ?_
  refine own_ic_ne_t (pc' := 63) at_47 (by decide) (by decide) (by decide) ?_
  refine own_iload (pc' := 65) at_63 rfl rfl ?_
  refine own_iconst (2 : Int32) (pc' := 66) at_65 rfl rfl ?_
  refine own_ic_ne_t (pc' := 87) at_66 (by decide) (by decide) (by decide) ?_
  refine own_iload (pc' := 89) at_87 rfl rfl ?_
  refine own_iconst (3 : Int32) (pc' := 90) at_89 rfl rfl ?_
  refine own_ic_ne_f (pc' := 93) at_90 (by decide) rfl ?_
  refine own_iconst (3 : Int32) (pc' := 94) at_93 rfl rfl ?_
  refine own_newarr (pc' := 96) (ty := .byte) (cap := 3) (hw _ (List.mem_of_getElem? (i := 1) rfl)) rfl at_94 rfl (by decide) (by decide) (by decide) (by decide) (by decide) (fun h17 a gt_a lt_a E18 A_a => ?_)
  have ge_a : n0 ≤ a := Nat.le_trans hn0 gt_a
  replace hn0 : n0 ≤ h17.size := Nat.le_trans hn0 E18.1
  replace A_a : own_A Z h17 a .byte [.int (0 : Int32), .int (0 : Int32), .int (0 : Int32)] := A_a.cast rfl
  refine own_dup (pc' := 97) at_96 rfl rfl ?_
  refine own_iconst (0 : Int32) (pc' := 98) at_97 rfl rfl ?_
  refine own_iload (pc' := 100) at_98 rfl rfl ?_
  refine own_bastore (pc' := 101) A_a (by decide) (by first | decide | (simp only [List.length_cons, List.length_nil, List.length_set, List.length_replicate]; decide)) ge_a at_100 rfl (fun h19 K20 A_new => ?_)
  replace hn0 : n0 ≤ h19.size := Nat.le_trans hn0 K20.1
  replace A_a : own_A Z h19 a .byte [.int (nar .byte (x0.toInt8.toInt32)), .int (0 : Int32), .int (0 : Int32)] := A_new.cast rfl
  refine own_dup (pc' := 102) at_101 rfl rfl ?_
  refine own_iconst (1 : Int32) (pc' := 103) at_102 rfl rfl ?_
  refine own_iload (pc' := 105) at_103 rfl rfl ?_
  refine own_bastore (pc' := 106) A_a (by decide) (by first | decide | (simp only [List.length_cons, List.length_nil, List.length_set, List.length_replicate]; decide)) ge_a at_105 rfl (fun h21 K22 A_new => ?_)
  replace hn0 : n0 ≤ h21.size := Nat.le_trans hn0 K22.1
  replace A_a : own_A Z h21 a .byte [.int (nar .byte (x0.toInt8.toInt32)), .int (nar .byte (x1.toInt8.toInt32)), .int (0 : Int32)] := A_new.cast rfl
  refine own_dup (pc' := 107) at_106 rfl rfl ?_
  refine own_iconst (2 : Int32) (pc' := 108) at_107 rfl rfl ?_
  refine own_iload (pc' := 110) at_108 rfl rfl ?_
  refine own_bastore (pc' := 111) A_a (by decide) (by first | decide | (simp only [List.length_cons, List.length_nil, List.length_set, List.length_replicate]; decide)) ge_a at_110 rfl (fun h23 K24 A_new => ?_)
  replace hn0 : n0 ≤ h23.size := Nat.le_trans hn0 K24.1
  replace A_a : own_A Z h23 a .byte [.int (nar .byte (x0.toInt8.toInt32)), .int (nar .byte (x1.toInt8.toInt32)), .int (nar .byte (x2.toInt8.toInt32))] := A_new.cast rfl
  refine own_astore (pc' := 113) (Ls' := #[.val (.int x0), .val (.int x1), .val (.int x2), .val (.int x3), .val (.int x4), .val (.int x5), .val (.int (3 : Int32)), .val (.int (x0.toInt8.toInt32)), .val (.int (x1.toInt8.toInt32)), .val (.int (x2.toInt8.toInt32)), .val (.int (x3.toInt8.toInt32)), .val (.int (x4.toInt8.toInt32)), .val (.ref a), .unset]) at_111 rfl rfl ?_
  refine own_goto (pc' := 180) at_113 (by decide) (by decide) ?_
  refine own_sipush (199 : Int32) (pc' := 183) at_180 rfl rfl ?_
  refine own_istore (pc' := 185) (Ls' := #[.val (.int x0), .val (.int x1), .val (.int x2), .val (.int x3), .val (.int x4), .val (.int x5), .val (.int (3 : Int32)), .val (.int (x0.toInt8.toInt32)), .val (.int (x1.toInt8.toInt32)), .val (.int (x2.toInt8.toInt32)), .val (.int (x3.toInt8.toInt32)), .val (.int (x4.toInt8.toInt32)), .val (.ref a), .val (.int (199 : Int32))]) at_183 rfl rfl ?_
  refine own_iload (pc' := 187) at_185 rfl rfl ?_
  refine own_iconst (2 : Int32) (pc' := 188) at_187 rfl rfl ?_
  refine own_ic_lt_f (pc' := 191) at_188 (by decide) rfl ?_
  refine own_iload (pc' := 193) at_191 rfl rfl ?_
  refine own_iloadN (pc' := 194) at_193 rfl rfl ?_
  refine own_sipush (255 : Int32) (pc' := 197) at_194 rfl rfl ?_
  refine own_iand (pc' := 198) at_197 rfl ?_
  refine own_ixor (pc' := 199) at_198 rfl ?_
  refine own_static (own_t8W l Z a0 hw ((199 : Int32) ^^^ (x1 &&& (255 : Int32))) h23 n0 hn0) (hw _ (List.mem_of_getElem? (i := 2) rfl)) (hw _ (List.mem_of_getElem? (i := 3) rfl)) (hw _ (List.mem_of_getElem? (i := 4) rfl)) (hw _ (List.mem_of_getElem? (i := 5) rfl)) (plainFor_of_name own_pn0) (by decide) own_pd1 rfl (argsL := [.int ((199 : Int32) ^^^ (x1 &&& (255 : Int32)))]) (rest := []) rfl rfl (W := 0) (Nat.le_refl _) (by decide) (by decide) (by decide) (by decide) rfl at_199 (pc' := 202) rfl (fun v_ h25 hq => ?_)
  obtain ⟨rfl, rfl⟩ := hq
  show own_W l Z x code maxLocals ret room_1 n0 (fun v h => v = some (.int 1)) h23 1 3 202 #[.val (.int x0), .val (.int x1), .val (.int x2), .val (.int x3), .val (.int x4), .val (.int x5), .val (.int (3 : Int32)), .val (.int (x0.toInt8.toInt32)), .val (.int (x1.toInt8.toInt32)), .val (.int (x2.toInt8.toInt32)), .val (.int (x3.toInt8.toInt32)), .val (.int (x4.toInt8.toInt32)), .val (.ref a), .val (.int (199 : Int32))] [.int (own_f0 ((199 : Int32) ^^^ (x1 &&& (255 : Int32))) 0)]
  refine own_istore (pc' := 204) (Ls' := #[.val (.int x0), .val (.int x1), .val (.int x2), .val (.int x3), .val (.int x4), .val (.int x5), .val (.int (3 : Int32)), .val (.int (x0.toInt8.toInt32)), .val (.int (x1.toInt8.toInt32)), .val (.int (x2.toInt8.toInt32)), .val (.int (x3.toInt8.toInt32)), .val (.int (x4.toInt8.toInt32)), .val (.ref a), .val (.int (own_f0 ((199 : Int32) ^^^ (x1 &&& (255 : Int32))) 0))]) at_202 rfl rfl ?_
  refine own_iload (pc' := 206) at_204 rfl rfl ?_
  refine own_iconst (3 : Int32) (pc' := 207) at_206 rfl rfl ?_
  refine own_ic_lt_f (pc' := 210) at_207 (by decide) rfl ?_
  refine own_iload (pc' := 212) at_210 rfl rfl ?_
  refine own_iloadN (pc' := 213) at_212 rfl rfl ?_
  refine own_sipush (255 : Int32) (pc' := 216) at_213 rfl rfl ?_
  refine own_iand (pc' := 217) at_216 rfl ?_
  refine own_ixor (pc' := 218) at_217 rfl ?_
  refine own_static (own_t8W l Z a0 hw ((own_f0 ((199 : Int32) ^^^ (x1 &&& (255 : Int32))) 0) ^^^ (x2 &&& (255 : Int32))) h23 n0 hn0) (hw _ (List.mem_of_getElem? (i := 2) rfl)) (hw _ (List.mem_of_getElem? (i := 3) rfl)) (hw _ (List.mem_of_getElem? (i := 4) rfl)) (hw _ (List.mem_of_getElem? (i := 5) rfl)) (plainFor_of_name own_pn0) (by decide) own_pd1 rfl (argsL := [.int ((own_f0 ((199 : Int32) ^^^ (x1 &&& (255 : Int32))) 0) ^^^ (x2 &&& (255 : Int32)))]) (rest := []) rfl rfl (W := 0) (Nat.le_refl _) (by decide) (by decide) (by decide) (by decide) rfl at_218 (pc' := 221) rfl (fun v_ h26 hq => ?_)
  obtain ⟨rfl, rfl⟩ := hq
  show own_W l Z x code maxLocals ret room_1 n0 (fun v h => v = some (.int 1)) h23 1 3 221 #[.val (.int x0), .val (.int x1), .val (.int x2), .val (.int x3), .val (.int x4), .val (.int x5), .val (.int (3 : Int32)), .val (.int (x0.toInt8.toInt32)), .val (.int (x1.toInt8.toInt32)), .val (.int (x2.toInt8.toInt32)), .val (.int (x3.toInt8.toInt32)), .val (.int (x4.toInt8.toInt32)), .val (.ref a), .val (.int (own_f0 ((199 : Int32) ^^^ (x1 &&& (255 : Int32))) 0))] [.int (own_f0 ((own_f0 ((199 : Int32) ^^^ (x1 &&& (255 : Int32))) 0) ^^^ (x2 &&& (255 : Int32))) 0)]
  refine own_istore (pc' := 223) (Ls' := #[.val (.int x0), .val (.int x1), .val (.int x2), .val (.int x3), .val (.int x4), .val (.int x5), .val (.int (3 : Int32)), .val (.int (x0.toInt8.toInt32)), .val (.int (x1.toInt8.toInt32)), .val (.int (x2.toInt8.toInt32)), .val (.int (x3.toInt8.toInt32)), .val (.int (x4.toInt8.toInt32)), .val (.ref a), .val (.int (own_f0 ((own_f0 ((199 : Int32) ^^^ (x1 &&& (255 : Int32))) 0) ^^^ (x2 &&& (255 : Int32))) 0))]) at_221 rfl rfl ?_
  refine own_iload (pc' := 225) at_223 rfl rfl ?_
  refine own_iconst (4 : Int32) (pc' := 226) at_225 rfl rfl ?_
  refine own_ic_lt_t (pc' := 242) at_226 (by decide) (by decide) (by decide) ?_
  refine own_iload (pc' := 244) at_242 rfl rfl ?_
  refine own_iconst (5 : Int32) (pc' := 245) at_244 rfl rfl ?_
  refine own_ic_lt_t (pc' := 262) at_245 (by decide) (by decide) (by decide) ?_
  refine own_aload (pc' := 264) at_262 rfl rfl ?_
  refine own_static (own_crc3 l Z a0 hw a _ _ _ h23 n0 hn0 A_a) (hw _ (List.mem_of_getElem? (i := 6) rfl)) (hw _ (List.mem_of_getElem? (i := 7) rfl)) (hw _ (List.mem_of_getElem? (i := 8) rfl)) (hw _ (List.mem_of_getElem? (i := 9) rfl)) (plainFor_of_name own_pn1) (by decide) own_pd2 rfl (argsL := [.ref a]) (rest := []) rfl rfl (W := 0) (Nat.le_refl _) (by decide) (by decide) (by decide) (by decide) rfl at_264 (pc' := 267) rfl (fun v_ h27 hq => ?_)
  obtain ⟨rfl, rfl⟩ := hq
  show own_W l Z x code maxLocals ret room_1 n0 (fun v h => v = some (.int 1)) h23 1 3 267 #[.val (.int x0), .val (.int x1), .val (.int x2), .val (.int x3), .val (.int x4), .val (.int x5), .val (.int (3 : Int32)), .val (.int (x0.toInt8.toInt32)), .val (.int (x1.toInt8.toInt32)), .val (.int (x2.toInt8.toInt32)), .val (.int (x3.toInt8.toInt32)), .val (.int (x4.toInt8.toInt32)), .val (.ref a), .val (.int (own_f0 ((own_f0 ((199 : Int32) ^^^ (x1 &&& (255 : Int32))) 0) ^^^ (x2 &&& (255 : Int32))) 0))] [.int (own_it 8 ((own_it 8 ((199 : Int32) ^^^ ((nar .byte (x1.toInt8.toInt32)) &&& (255 : Int32)))) ^^^ ((nar .byte (x2.toInt8.toInt32)) &&& (255 : Int32))))]
  refine own_iload (pc' := 269) at_267 rfl rfl ?_
  refine own_ic_ne_f (pc' := 272) at_269 s2.1 rfl ?_
  refine own_iconst (1 : Int32) (pc' := 273) at_272 rfl rfl ?_
  refine own_goto (pc' := 277) at_273 (by decide) (by decide) ?_
  exact own_bret (v := (1 : Int32)) rfl (by first | rfl | decide | assumption) at_277 rfl
set_option maxRecDepth 65536 in
set_option maxHeartbeats 40000000 in
theorem own_law4 (l : Launch) (Z : State) (a0 : Array Value) (hw : ∀ d ∈ tables_1, d.before a0 Z = true) (x0 x1 x2 x3 x4 x5 : Int32) (h0 : Heap) (n0 : Nat) (hn0 : n0 ≤ h0.size) :
    own_W l Z x code maxLocals ret room_1 n0 (fun v h => v = some (.int 1)) h0 0 0 10 #[.val (.int x0), .val (.int x1), .val (.int x2), .val (.int x3), .val (.int x4), .val (.int x5), .val (.int (4 : Int32)), .unset, .unset, .unset, .unset, .unset, .unset, .unset] [] := by
  have k0 : own_ok 199 := ⟨by decide, by decide⟩
  have s1 := own_step (199 : Int32) (199 : Int32) x1 rfl k0
  have s2 := own_step (own_it 8 ((199 : Int32) ^^^ ((nar .byte (x1.toInt8.toInt32)) &&& (255 : Int32)))) (own_f0 ((199 : Int32) ^^^ (x1 &&& (255 : Int32))) 0) x2 s1.1 s1.2
  have s3 := own_step (own_it 8 ((own_it 8 ((199 : Int32) ^^^ ((nar .byte (x1.toInt8.toInt32)) &&& (255 : Int32)))) ^^^ ((nar .byte (x2.toInt8.toInt32)) &&& (255 : Int32)))) (own_f0 ((own_f0 ((199 : Int32) ^^^ (x1 &&& (255 : Int32))) 0) ^^^ (x2 &&& (255 : Int32))) 0) x3 s2.1 s2.2
  refine own_iloadN (pc' := 11) at_10 rfl rfl ?_
  refine own_i2b (pc' := 12) at_11 rfl ?_
  refine own_istore (pc' := 14) (Ls' := #[.val (.int x0), .val (.int x1), .val (.int x2), .val (.int x3), .val (.int x4), .val (.int x5), .val (.int (4 : Int32)), .val (.int (x0.toInt8.toInt32)), .unset, .unset, .unset, .unset, .unset, .unset]) at_12 rfl rfl ?_
  refine own_iloadN (pc' := 15) at_14 rfl rfl ?_
  refine own_i2b (pc' := 16) at_15 rfl ?_
  refine own_istore (pc' := 18) (Ls' := #[.val (.int x0), .val (.int x1), .val (.int x2), .val (.int x3), .val (.int x4), .val (.int x5), .val (.int (4 : Int32)), .val (.int (x0.toInt8.toInt32)), .val (.int (x1.toInt8.toInt32)), .unset, .unset, .unset, .unset, .unset]) at_16 rfl rfl ?_
  refine own_iloadN (pc' := 19) at_18 rfl rfl ?_
  refine own_i2b (pc' := 20) at_19 rfl ?_
  refine own_istore (pc' := 22) (Ls' := #[.val (.int x0), .val (.int x1), .val (.int x2), .val (.int x3), .val (.int x4), .val (.int x5), .val (.int (4 : Int32)), .val (.int (x0.toInt8.toInt32)), .val (.int (x1.toInt8.toInt32)), .val (.int (x2.toInt8.toInt32)), .unset, .unset, .unset, .unset]) at_20 rfl rfl ?_
  refine own_iloadN (pc' := 23) at_22 rfl rfl ?_
  refine own_i2b (pc' := 24) at_23 rfl ?_
  refine own_istore (pc' := 26) (Ls' := #[.val (.int x0), .val (.int x1), .val (.int x2), .val (.int x3), .val (.int x4), .val (.int x5), .val (.int (4 : Int32)), .val (.int (x0.toInt8.toInt32)), .val (.int (x1.toInt8.toInt32)), .val (.int (x2.toInt8.toInt32)), .val (.int (x3.toInt8.toInt32)), .unset, .unset, .unset]) at_24 rfl rfl ?_
  refine own_iload (pc' := 28) at_26 rfl rfl ?_
  refine own_i2b (pc' := 29) at_28 rfl ?_
  refine own_istore (pc' := 31) (Ls' := #[.val (.int x0), .val (.int x1), .val (.int x2), .val (.int x3), .val (.int x4), .val (.int x5), .val (.int (4 : Int32)), .val (.int (x0.toInt8.toInt32)), .val (.int (x1.toInt8.toInt32)), .val (.int (x2.toInt8.toInt32)), .val (.int (x3.toInt8.toInt32)), .val (.int (x4.toInt8.toInt32)), .unset, .unset]) at_29 rfl rfl ?_
  refine own_iload (pc' := 33) at_31 rfl rfl ?_
  refine own_if_ne_t (pc' := 44) at_33 (by decide) (by decide) (by decide) ?_
  refine own_iload (pc' := 46) at_44 rfl rfl ?_
  refine own_iconst (1 : Int32) (pc' := 47) at_46 rfl rfl ?_
  refine own_ic_ne_t (pc' := 63) at_47 (by decide) (by decide) (by decide) ?_
  refine own_iload (pc' := 65) at_63 rfl rfl ?_
  refine own_iconst (2 : Int32) (pc' := 66) at_65 rfl rfl ?_
  refine own_ic_ne_t (pc' := 87) at_66 (by decide) (by decide) (by decide) ?_
  refine own_iload (pc' := 89) at_87 rfl rfl ?_
  refine own_iconst (3 : Int32) (pc' := 90) at_89 rfl rfl ?_
  refine own_ic_ne_t (pc' := 116) at_90 (by decide) (by decide) (by decide) ?_
  refine own_iload (pc' := 118) at_116 rfl rfl ?_
  refine own_iconst (4 : Int32) (pc' := 119) at_118 rfl rfl ?_
  refine own_ic_ne_f (pc' := 122) at_119 (by decide) rfl ?_
  refine own_iconst (4 : Int32) (pc' := 123) at_122 rfl rfl ?_
  refine own_newarr (pc' := 125) (ty := .byte) (cap := 4) (hw _ (List.mem_of_getElem? (i := 1) rfl)) rfl at_123 rfl (by decide) (by decide) (by decide) (by decide) (by decide) (fun h28 a gt_a lt_a E29 A_a => ?_)
  have ge_a : n0 ≤ a := Nat.le_trans hn0 gt_a
  replace hn0 : n0 ≤ h28.size := Nat.le_trans hn0 E29.1
  replace A_a : own_A Z h28 a .byte [.int (0 : Int32), .int (0 : Int32), .int (0 : Int32), .int (0 : Int32)] := A_a.cast rfl
  refine own_dup (pc' := 126) at_125 rfl rfl ?_
  refine own_iconst (0 : Int32) (pc' := 127) at_126 rfl rfl ?_
  refine own_iload (pc' := 129) at_127 rfl rfl ?_
  refine own_bastore (pc' := 130) A_a (by decide) (by first | decide | (simp only [List.length_cons, List.length_nil, List.length_set, List.length_replicate]; decide)) ge_a at_129 rfl (fun h30 K31 A_new => ?_)
  replace hn0 : n0 ≤ h30.size := Nat.le_trans hn0 K31.1
  replace A_a : own_A Z h30 a .byte [.int (nar .byte (x0.toInt8.toInt32)), .int (0 : Int32), .int (0 : Int32), .int (0 : Int32)] := A_new.cast rfl
  refine own_dup (pc' := 131) at_130 rfl rfl ?_
  refine own_iconst (1 : Int32) (pc' := 132) at_131 rfl rfl ?_
  refine own_iload (pc' := 134) at_132 rfl rfl ?_
  refine own_bastore (pc' := 135) A_a (by decide) (by first | decide | (simp only [List.length_cons, List.length_nil, List.length_set, List.length_replicate]; decide)) ge_a at_134 rfl (fun h32 K33 A_new => ?_)
  replace hn0 : n0 ≤ h32.size := Nat.le_trans hn0 K33.1
  replace A_a : own_A Z h32 a .byte [.int (nar .byte (x0.toInt8.toInt32)), .int (nar .byte (x1.toInt8.toInt32)), .int (0 : Int32), .int (0 : Int32)] := A_new.cast rfl
  refine own_dup (pc' := 136) at_135 rfl rfl ?_
  refine own_iconst (2 : Int32) (pc' := 137) at_136 rfl rfl ?_
  refine own_iload (pc' := 139) at_137 rfl rfl ?_
  refine own_bastore (pc' := 140) A_a (by decide) (by first | decide | (simp only [List.length_cons, List.length_nil, List.length_set, List.length_replicate]; decide)) ge_a at_139 rfl (fun h34 K35 A_new => ?_)
  replace hn0 : n0 ≤ h34.size := Nat.le_trans hn0 K35.1
  replace A_a : own_A Z h34 a .byte [.int (nar .byte (x0.toInt8.toInt32)), .int (nar .byte (x1.toInt8.toInt32)), .int (nar .byte (x2.toInt8.toInt32)), .int (0 : Int32)] := A_new.cast rfl
  refine own_dup (pc' := 141) at_140 rfl rfl ?_
  refine own_iconst (3 : Int32) (pc' := 142) at_141 rfl rfl ?_
  refine own_iload (pc' := 144) at_142 rfl rfl ?_
  refine own_bastore (pc' := 145) A_a (by decide) (by first | decide | (simp only [List.length_cons, List.length_nil, List.length_set, List.length_replicate]; decide)) ge_a at_144 rfl (fun h36 K37 A_new => ?_)
  replace hn0 : n0 ≤ h36.size := Nat.le_trans hn0 K37.1
  replace A_a : own_A Z h36 a .byte [.int (nar .byte (x0.toInt8.toInt32)), .int (nar .byte (x1.toInt8.toInt32)), .int (nar .byte (x2.toInt8.toInt32)), .int (nar .byte (x3.toInt8.toInt32))] := A_new.cast rfl
  refine own_astore (pc' := 147) (Ls' := #[.val (.int x0), .val (.int x1), .val (.int x2), .val (.int x3), .val (.int x4), .val (.int x5), .val (.int (4 : Int32)), .val (.int (x0.toInt8.toInt32)), .val (.int (x1.toInt8.toInt32)), .val (.int (x2.toInt8.toInt32)), .val (.int (x3.toInt8.toInt32)), .val (.int (x4.toInt8.toInt32)), .val (.ref a), .unset]) at_145 rfl rfl ?_
  refine own_goto (pc' := 180) at_147 (by decide) (by decide) ?_
  refine own_sipush (199 : Int32) (pc' := 183) at_180 rfl rfl ?_
  refine own_istore (pc' := 185) (Ls' := #[.val (.int x0), .val (.int x1), .val (.int x2), .val (.int x3), .val (.int x4), .val (.int x5), .val (.int (4 : Int32)), .val (.int (x0.toInt8.toInt32)), .val (.int (x1.toInt8.toInt32)), .val (.int (x2.toInt8.toInt32)), .val (.int (x3.toInt8.toInt32)), .val (.int (x4.toInt8.toInt32)), .val (.ref a), .val (.int (199 : Int32))]) at_183 rfl rfl ?_
  refine own_iload (pc' := 187) at_185 rfl rfl ?_
  refine own_iconst (2 : Int32) (pc' := 188) at_187 rfl rfl ?_
  refine own_ic_lt_f (pc' := 191) at_188 (by decide) rfl ?_
  refine own_iload (pc' := 193) at_191 rfl rfl ?_
  refine own_iloadN (pc' := 194) at_193 rfl rfl ?_
  refine own_sipush (255 : Int32) (pc' := 197) at_194 rfl rfl ?_
  refine own_iand (pc' := 198) at_197 rfl ?_
  refine own_ixor (pc' := 199) at_198 rfl ?_
  refine own_static (own_t8W l Z a0 hw ((199 : Int32) ^^^ (x1 &&& (255 : Int32))) h36 n0 hn0) (hw _ (List.mem_of_getElem? (i := 2) rfl)) (hw _ (List.mem_of_getElem? (i := 3) rfl)) (hw _ (List.mem_of_getElem? (i := 4) rfl)) (hw _ (List.mem_of_getElem? (i := 5) rfl)) (plainFor_of_name own_pn0) (by decide) own_pd1 rfl (argsL := [.int ((199 : Int32) ^^^ (x1 &&& (255 : Int32)))]) (rest := []) rfl rfl (W := 0) (Nat.le_refl _) (by decide) (by decide) (by decide) (by decide) rfl at_199 (pc' := 202) rfl (fun v_ h38 hq => ?_)
  obtain ⟨rfl, rfl⟩ := hq
  show own_W l Z x code maxLocals ret room_1 n0 (fun v h => v = some (.int 1)) h36 1 4 202 #[.val (.int x0), .val (.int x1), .val (.int x2), .val (.int x3), .val (.int x4), .val (.int x5), .val (.int (4 : Int32)), .val (.int (x0.toInt8.toInt32)), .val (.int (x1.toInt8.toInt32)), .val (.int (x2.toInt8.toInt32)), .val (.int (x3.toInt8.toInt32)), .val (.int (x4.toInt8.toInt32)), .val (.ref a), .val (.int (199 : Int32))] [.int (own_f0 ((199 : Int32) ^^^ (x1 &&& (255 : Int32))) 0)]
  refine own_istore (pc' := 204) (Ls' := #[.val (.int x0), .val (.int x1), .val (.int x2), .val (.int x3), .val (.int x4), .val (.int x5), .val (.int (4 : Int32)), .val (.int (x0.toInt8.toInt32)), .val (.int (x1.toInt8.toInt32)), .val (.int (x2.toInt8.toInt32)), .val (.int (x3.toInt8.toInt32)), .val (.int (x4.toInt8.toInt32)), .val (.ref a), .val (.int (own_f0 ((199 : Int32) ^^^ (x1 &&& (255 : Int32))) 0))]) at_202 rfl rfl ?_
  refine own_iload (pc' := 206) at_204 rfl rfl ?_
  refine own_iconst (3 : Int32) (pc' := 207) at_206 rfl rfl ?_
  refine own_ic_lt_f (pc' := 210) at_207 (by decide) rfl ?_
  refine own_iload (pc' := 212) at_210 rfl rfl ?_
  refine own_iloadN (pc' := 213) at_212 rfl rfl ?_
  refine own_sipush (255 : Int32) (pc' := 216) at_213 rfl rfl ?_
  refine own_iand (pc' := 217) at_216 rfl ?_
  refine own_ixor (pc' := 218) at_217 rfl ?_
  refine own_static (own_t8W l Z a0 hw ((own_f0 ((199 : Int32) ^^^ (x1 &&& (255 : Int32))) 0) ^^^ (x2 &&& (255 : Int32))) h36 n0 hn0) (hw _ (List.mem_of_getElem? (i := 2) rfl)) (hw _ (List.mem_of_getElem? (i := 3) rfl)) (hw _ (List.mem_of_getElem? (i := 4) rfl)) (hw _ (List.mem_of_getElem? (i := 5) rfl)) (plainFor_of_name own_pn0) (by decide) own_pd1 rfl (argsL := [.int ((own_f0 ((199 : Int32) ^^^ (x1 &&& (255 : Int32))) 0) ^^^ (x2 &&& (255 : Int32)))]) (rest := []) rfl rfl (W := 0) (Nat.le_refl _) (by decide) (by decide) (by decide) (by decide) rfl at_218 (pc' := 221) rfl (fun v_ h39 hq => ?_)
  obtain ⟨rfl, rfl⟩ := hq
  show own_W l Z x code maxLocals ret room_1 n0 (fun v h => v = some (.int 1)) h36 1 4 221 #[.val (.int x0), .val (.int x1), .val (.int x2), .val (.int x3), .val (.int x4), .val (.int x5), .val (.int (4 : Int32)), .val (.int (x0.toInt8.toInt32)), .val (.int (x1.toInt8.toInt32)), .val (.int (x2.toInt8.toInt32)), .val (.int (x3.toInt8.toInt32)), .val (.int (x4.toInt8.toInt32)), .val (.ref a), .val (.int (own_f0 ((199 : Int32) ^^^ (x1 &&& (255 : Int32))) 0))] [.int (own_f0 ((own_f0 ((199 : Int32) ^^^ (x1 &&& (255 : Int32))) 0) ^^^ (x2 &&& (255 : Int32))) 0)]
  refine own_istore (pc' := 223) (Ls' := #[.val (.int x0), .val (.int x1), .val (.int x2), .val (.int x3), .val (.int x4), .val (.int x5), .val (.int (4 : Int32)), .val (.int (x0.toInt8.toInt32)), .val (.int (x1.toInt8.toInt32)), .val (.int (x2.toInt8.toInt32)), .val (.int (x3.toInt8.toInt32)), .val (.int (x4.toInt8.toInt32)), .val (.ref a), .val (.int (own_f0 ((own_f0 ((199 : Int32) ^^^ (x1 &&& (255 : Int32))) 0) ^^^ (x2 &&& (255 : Int32))) 0))]) at_221 rfl rfl ?_
  refine own_iload (pc' := 225) at_223 rfl rfl ?_
  refine own_iconst (4 : Int32) (pc' := 226) at_225 rfl rfl ?_
  refine own_ic_lt_f (pc' := 229) at_226 (by decide) rfl ?_
  refine own_iload (pc' := 231) at_229 rfl rfl ?_
  refine own_iloadN (pc' := 232) at_231 rfl rfl ?_
  refine own_sipush (255 : Int32) (pc' := 235) at_232 rfl rfl ?_
  refine own_iand (pc' := 236) at_235 rfl ?_
  refine own_ixor (pc' := 237) at_236 rfl ?_
  refine own_static (own_t8W l Z a0 hw ((own_f0 ((own_f0 ((199 : Int32) ^^^ (x1 &&& (255 : Int32))) 0) ^^^ (x2 &&& (255 : Int32))) 0) ^^^ (x3 &&& (255 : Int32))) h36 n0 hn0) (hw _ (List.mem_of_getElem? (i := 2) rfl)) (hw _ (List.mem_of_getElem? (i := 3) rfl)) (hw _ (List.mem_of_getElem? (i := 4) rfl)) (hw _ (List.mem_of_getElem? (i := 5) rfl)) (plainFor_of_name own_pn0) (by decide) own_pd1 rfl (argsL := [.int ((own_f0 ((own_f0 ((199 : Int32) ^^^ (x1 &&& (255 : Int32))) 0) ^^^ (x2 &&& (255 : Int32))) 0) ^^^ (x3 &&& (255 : Int32)))]) (rest := []) rfl rfl (W := 0) (Nat.le_refl _) (by decide) (by decide) (by decide) (by decide) rfl at_237 (pc' := 240) rfl (fun v_ h40 hq => ?_)
  obtain ⟨rfl, rfl⟩ := hq
  show own_W l Z x code maxLocals ret room_1 n0 (fun v h => v = some (.int 1)) h36 1 4 240 #[.val (.int x0), .val (.int x1), .val (.int x2), .val (.int x3), .val (.int x4), .val (.int x5), .val (.int (4 : Int32)), .val (.int (x0.toInt8.toInt32)), .val (.int (x1.toInt8.toInt32)), .val (.int (x2.toInt8.toInt32)), .val (.int (x3.toInt8.toInt32)), .val (.int (x4.toInt8.toInt32)), .val (.ref a), .val (.int (own_f0 ((own_f0 ((199 : Int32) ^^^ (x1 &&& (255 : Int32))) 0) ^^^ (x2 &&& (255 : Int32))) 0))] [.int (own_f0 ((own_f0 ((own_f0 ((199 : Int32) ^^^ (x1 &&& (255 : Int32))) 0) ^^^ (x2 &&& (255 : Int32))) 0) ^^^ (x3 &&& (255 : Int32))) 0)]
  refine own_istore (pc' := 242) (Ls' := #[.val (.int x0), .val (.int x1), .val (.int x2), .val (.int x3), .val (.int x4), .val (.int x5), .val (.int (4 : Int32)), .val (.int (x0.toInt8.toInt32)), .val (.int (x1.toInt8.toInt32)), .val (.int (x2.toInt8.toInt32)), .val (.int (x3.toInt8.toInt32)), .val (.int (x4.toInt8.toInt32)), .val (.ref a), .val (.int (own_f0 ((own_f0 ((own_f0 ((199 : Int32) ^^^ (x1 &&& (255 : Int32))) 0) ^^^ (x2 &&& (255 : Int32))) 0) ^^^ (x3 &&& (255 : Int32))) 0))]) at_240 rfl rfl ?_
  refine own_iload (pc' := 244) at_242 rfl rfl ?_
  refine own_iconst (5 : Int32) (pc' := 245) at_244 rfl rfl ?_
  refine own_ic_lt_t (pc' := 262) at_245 (by decide) (by decide) (by decide) ?_
  refine own_aload (pc' := 264) at_262 rfl rfl ?_
  refine own_static (own_crc4 l Z a0 hw a _ _ _ _ h36 n0 hn0 A_a) (hw _ (List.mem_of_getElem? (i := 6) rfl)) (hw _ (List.mem_of_getElem? (i := 7) rfl)) (hw _ (List.mem_of_getElem? (i := 8) rfl)) (hw _ (List.mem_of_getElem? (i := 9) rfl)) (plainFor_of_name own_pn1) (by decide) own_pd2 rfl (argsL := [.ref a]) (rest := []) rfl rfl (W := 0) (Nat.le_refl _) (by decide) (by decide) (by decide) (by decide) rfl at_264 (pc' := 267) rfl (fun v_ h41 hq => ?_)
  obtain ⟨rfl, rfl⟩ := hq
  show own_W l Z x code maxLocals ret room_1 n0 (fun v h => v = some (.int 1)) h36 1 4 267 #[.val (.int x0), .val (.int x1), .val (.int x2), .val (.int x3), .val (.int x4), .val (.int x5), .val (.int (4 : Int32)), .val (.int (x0.toInt8.toInt32)), .val (.int (x1.toInt8.toInt32)), .val (.int (x2.toInt8.toInt32)), .val (.int (x3.toInt8.toInt32)), .val (.int (x4.toInt8.toInt32)), .val (.ref a), .val (.int (own_f0 ((own_f0 ((own_f0 ((199 : Int32) ^^^ (x1 &&& (255 : Int32))) 0) ^^^ (x2 &&& (255 : Int32))) 0) ^^^ (x3 &&& (255 : Int32))) 0))] [.int (own_it 8 ((own_it 8 ((own_it 8 ((199 : Int32) ^^^ ((nar .byte (x1.toInt8.toInt32)) &&& (255 : Int32)))) ^^^ ((nar .byte (x2.toInt8.toInt32)) &&& (255 : Int32)))) ^^^ ((nar .byte (x3.toInt8.toInt32)) &&& (255 : Int32))))]
  refine own_iload (pc' := 269) at_267 rfl rfl ?_
  refine own_ic_ne_f (pc' := 272) at_269 s3.1 rfl ?_
  refine own_iconst (1 : Int32) (pc' := 273) at_272 rfl rfl ?_
  refine own_goto (pc' := 277) at_273 (by decide) (by decide) ?_
  exact own_bret (v := (1 : Int32)) rfl (by first | rfl | decide | assumption) at_277 rfl
set_option maxRecDepth 65536 in
set_option maxHeartbeats 40000000 in
theorem own_law5 (l : Launch) (Z : State) (a0 : Array Value) (hw : ∀ d ∈ tables_1, d.before a0 Z = true) (x0 x1 x2 x3 x4 x5 : Int32) (h0 : Heap) (n0 : Nat) (hn0 : n0 ≤ h0.size) :
    own_W l Z x code maxLocals ret room_1 n0 (fun v h => v = some (.int 1)) h0 0 0 10 #[.val (.int x0), .val (.int x1), .val (.int x2), .val (.int x3), .val (.int x4), .val (.int x5), .val (.int (5 : Int32)), .unset, .unset, .unset, .unset, .unset, .unset, .unset] [] := by
  have k0 : own_ok 199 := ⟨by decide, by decide⟩
  have s1 := own_step (199 : Int32) (199 : Int32) x1 rfl k0
  have s2 := own_step (own_it 8 ((199 : Int32) ^^^ ((nar .byte (x1.toInt8.toInt32)) &&& (255 : Int32)))) (own_f0 ((199 : Int32) ^^^ (x1 &&& (255 : Int32))) 0) x2 s1.1 s1.2
  have s3 := own_step (own_it 8 ((own_it 8 ((199 : Int32) ^^^ ((nar .byte (x1.toInt8.toInt32)) &&& (255 : Int32)))) ^^^ ((nar .byte (x2.toInt8.toInt32)) &&& (255 : Int32)))) (own_f0 ((own_f0 ((199 : Int32) ^^^ (x1 &&& (255 : Int32))) 0) ^^^ (x2 &&& (255 : Int32))) 0) x3 s2.1 s2.2
  have s4 := own_step (own_it 8 ((own_it 8 ((own_it 8 ((199 : Int32) ^^^ ((nar .byte (x1.toInt8.toInt32)) &&& (255 : Int32)))) ^^^ ((nar .byte (x2.toInt8.toInt32)) &&& (255 : Int32)))) ^^^ ((nar .byte (x3.toInt8.toInt32)) &&& (255 : Int32)))) (own_f0 ((own_f0 ((own_f0 ((199 : Int32) ^^^ (x1 &&& (255 : Int32))) 0) ^^^ (x2 &&& (255 : Int32))) 0) ^^^ (x3 &&& (255 : Int32))) 0) x4 s3.1 s3.2
  refine own_iloadN (pc' := 11) at_10 rfl rfl ?_
  refine own_i2b (pc' := 12) at_11 rfl ?_
  refine own_istore (pc' := 14) (Ls' := #[.val (.int x0), .val (.int x1), .val (.int x2), .val (.int x3), .val (.int x4), .val (.int x5), .val (.int (5 : Int32)), .val (.int (x0.toInt8.toInt32)), .unset, .unset, .unset, .unset, .unset, .unset]) at_12 rfl rfl ?_
  refine own_iloadN (pc' := 15) at_14 rfl rfl ?_
  refine own_i2b (pc' := 16) at_15 rfl ?_
  refine own_istore (pc' := 18) (Ls' := #[.val (.int x0), .val (.int x1), .val (.int x2), .val (.int x3), .val (.int x4), .val (.int x5), .val (.int (5 : Int32)), .val (.int (x0.toInt8.toInt32)), .val (.int (x1.toInt8.toInt32)), .unset, .unset, .unset, .unset, .unset]) at_16 rfl rfl ?_
  refine own_iloadN (pc' := 19) at_18 rfl rfl ?_
  refine own_i2b (pc' := 20) at_19 rfl ?_
  refine own_istore (pc' := 22) (Ls' := #[.val (.int x0), .val (.int x1), .val (.int x2), .val (.int x3), .val (.int x4), .val (.int x5), .val (.int (5 : Int32)), .val (.int (x0.toInt8.toInt32)), .val (.int (x1.toInt8.toInt32)), .val (.int (x2.toInt8.toInt32)), .unset, .unset, .unset, .unset]) at_20 rfl rfl ?_
  refine own_iloadN (pc' := 23) at_22 rfl rfl ?_
  refine own_i2b (pc' := 24) at_23 rfl ?_
  refine own_istore (pc' := 26) (Ls' := #[.val (.int x0), .val (.int x1), .val (.int x2), .val (.int x3), .val (.int x4), .val (.int x5), .val (.int (5 : Int32)), .val (.int (x0.toInt8.toInt32)), .val (.int (x1.toInt8.toInt32)), .val (.int (x2.toInt8.toInt32)), .val (.int (x3.toInt8.toInt32)), .unset, .unset, .unset]) at_24 rfl rfl ?_
  refine own_iload (pc' := 28) at_26 rfl rfl ?_
  refine own_i2b (pc' := 29) at_28 rfl ?_
  refine own_istore (pc' := 31) (Ls' := #[.val (.int x0), .val (.int x1), .val (.int x2), .val (.int x3), .val (.int x4), .val (.int x5), .val (.int (5 : Int32)), .val (.int (x0.toInt8.toInt32)), .val (.int (x1.toInt8.toInt32)), .val (.int (x2.toInt8.toInt32)), .val (.int (x3.toInt8.toInt32)), .val (.int (x4.toInt8.toInt32)), .unset, .unset]) at_29 rfl rfl ?_
  refine own_iload (pc' := 33) at_31 rfl rfl ?_
  refine own_if_ne_t (pc' := 44) at_33 (by decide) (by decide) (by decide) ?_
  refine own_iload (pc' := 46) at_44 rfl rfl ?_
  refine own_iconst (1 : Int32) (pc' := 47) at_46 rfl rfl ?_
  refine own_ic_ne_t (pc' := 63) at_47 (by decide) (by decide) (by decide) ?_
  refine own_iload (pc' := 65) at_63 rfl rfl ?_
  refine own_iconst (2 : Int32) (pc' := 66) at_65 rfl rfl ?_
  refine own_ic_ne_t (pc' := 87) at_66 (by decide) (by decide) (by decide) ?_
  refine own_iload (pc' := 89) at_87 rfl rfl ?_
  refine own_iconst (3 : Int32) (pc' := 90) at_89 rfl rfl ?_
  refine own_ic_ne_t (pc' := 116) at_90 (by decide) (by decide) (by decide) ?_
  refine own_iload (pc' := 118) at_116 rfl rfl ?_
  refine own_iconst (4 : Int32) (pc' := 119) at_118 rfl rfl ?_
  refine own_ic_ne_t (pc' := 150) at_119 (by decide) (by decide) (by decide) ?_
  refine own_iconst (5 : Int32) (pc' := 151) at_150 rfl rfl ?_
  refine own_newarr (pc' := 153) (ty := .byte) (cap := 5) (hw _ (List.mem_of_getElem? (i := 1) rfl)) rfl at_151 rfl (by decide) (by decide) (by decide) (by decide) (by decide) (fun h42 a gt_a lt_a E43 A_a => ?_)
  have ge_a : n0 ≤ a := Nat.le_trans hn0 gt_a
  replace hn0 : n0 ≤ h42.size := Nat.le_trans hn0 E43.1
  replace A_a : own_A Z h42 a .byte [.int (0 : Int32), .int (0 : Int32), .int (0 : Int32), .int (0 : Int32), .int (0 : Int32)] := A_a.cast rfl
  refine own_dup (pc' := 154) at_153 rfl rfl ?_
  refine own_iconst (0 : Int32) (pc' := 155) at_154 rfl rfl ?_
  refine own_iload (pc' := 157) at_155 rfl rfl ?_
  refine own_bastore (pc' := 158) A_a (by decide) (by first | decide | (simp only [List.length_cons, List.length_nil, List.length_set, List.length_replicate]; decide)) ge_a at_157 rfl (fun h44 K45 A_new => ?_)
  replace hn0 : n0 ≤ h44.size := Nat.le_trans hn0 K45.1
  replace A_a : own_A Z h44 a .byte [.int (nar .byte (x0.toInt8.toInt32)), .int (0 : Int32), .int (0 : Int32), .int (0 : Int32), .int (0 : Int32)] := A_new.cast rfl
  refine own_dup (pc' := 159) at_158 rfl rfl ?_
  refine own_iconst (1 : Int32) (pc' := 160) at_159 rfl rfl ?_
  refine own_iload (pc' := 162) at_160 rfl rfl ?_
  refine own_bastore (pc' := 163) A_a (by decide) (by first | decide | (simp only [List.length_cons, List.length_nil, List.length_set, List.length_replicate]; decide)) ge_a at_162 rfl (fun h46 K47 A_new => ?_)
  replace hn0 : n0 ≤ h46.size := Nat.le_trans hn0 K47.1
  replace A_a : own_A Z h46 a .byte [.int (nar .byte (x0.toInt8.toInt32)), .int (nar .byte (x1.toInt8.toInt32)), .int (0 : Int32), .int (0 : Int32), .int (0 : Int32)] := A_new.cast rfl
  refine own_dup (pc' := 164) at_163 rfl rfl ?_
  refine own_iconst (2 : Int32) (pc' := 165) at_164 rfl rfl ?_
  refine own_iload (pc' := 167) at_165 rfl rfl ?_
  refine own_bastore (pc' := 168) A_a (by decide) (by first | decide | (simp only [List.length_cons, List.length_nil, List.length_set, List.length_replicate]; decide)) ge_a at_167 rfl (fun h48 K49 A_new => ?_)
  replace hn0 : n0 ≤ h48.size := Nat.le_trans hn0 K49.1
  replace A_a : own_A Z h48 a .byte [.int (nar .byte (x0.toInt8.toInt32)), .int (nar .byte (x1.toInt8.toInt32)), .int (nar .byte (x2.toInt8.toInt32)), .int (0 : Int32), .int (0 : Int32)] := A_new.cast rfl
  refine own_dup (pc' := 169) at_168 rfl rfl ?_
  refine own_iconst (3 : Int32) (pc' := 170) at_169 rfl rfl ?_
  refine own_iload (pc' := 172) at_170 rfl rfl ?_
  refine own_bastore (pc' := 173) A_a (by decide) (by first | decide | (simp only [List.length_cons, List.length_nil, List.length_set, List.length_replicate]; decide)) ge_a at_172 rfl (fun h50 K51 A_new => ?_)
  replace hn0 : n0 ≤ h50.size := Nat.le_trans hn0 K51.1
  replace A_a : own_A Z h50 a .byte [.int (nar .byte (x0.toInt8.toInt32)), .int (nar .byte (x1.toInt8.toInt32)), .int (nar .byte (x2.toInt8.toInt32)), .int (nar .byte (x3.toInt8.toInt32)), .int (0 : Int32)] := A_new.cast rfl
  refine own_dup (pc' := 174) at_173 rfl rfl ?_
  refine own_iconst (4 : Int32) (pc' := 175) at_174 rfl rfl ?_
  refine own_iload (pc' := 177) at_175 rfl rfl ?_
  refine own_bastore (pc' := 178) A_a (by decide) (by first | decide | (simp only [List.length_cons, List.length_nil, List.length_set, List.length_replicate]; decide)) ge_a at_177 rfl (fun h52 K53 A_new => ?_)
  replace hn0 : n0 ≤ h52.size := Nat.le_trans hn0 K53.1
  replace A_a : own_A Z h52 a .byte [.int (nar .byte (x0.toInt8.toInt32)), .int (nar .byte (x1.toInt8.toInt32)), .int (nar .byte (x2.toInt8.toInt32)), .int (nar .byte (x3.toInt8.toInt32)), .int (nar .byte (x4.toInt8.toInt32))] := A_new.cast rfl
  refine own_astore (pc' := 180) (Ls' := #[.val (.int x0), .val (.int x1), .val (.int x2), .val (.int x3), .val (.int x4), .val (.int x5), .val (.int (5 : Int32)), .val (.int (x0.toInt8.toInt32)), .val (.int (x1.toInt8.toInt32)), .val (.int (x2.toInt8.toInt32)), .val (.int (x3.toInt8.toInt32)), .val (.int (x4.toInt8.toInt32)), .val (.ref a), .unset]) at_178 rfl rfl ?_
  refine own_sipush (199 : Int32) (pc' := 183) at_180 rfl rfl ?_
  refine own_istore (pc' := 185) (Ls' := #[.val (.int x0), .val (.int x1), .val (.int x2), .val (.int x3), .val (.int x4), .val (.int x5), .val (.int (5 : Int32)), .val (.int (x0.toInt8.toInt32)), .val (.int (x1.toInt8.toInt32)), .val (.int (x2.toInt8.toInt32)), .val (.int (x3.toInt8.toInt32)), .val (.int (x4.toInt8.toInt32)), .val (.ref a), .val (.int (199 : Int32))]) at_183 rfl rfl ?_
  refine own_iload (pc' := 187) at_185 rfl rfl ?_
  refine own_iconst (2 : Int32) (pc' := 188) at_187 rfl rfl ?_
  refine own_ic_lt_f (pc' := 191) at_188 (by decide) rfl ?_
  refine own_iload (pc' := 193) at_191 rfl rfl ?_
  refine own_iloadN (pc' := 194) at_193 rfl rfl ?_
  refine own_sipush (255 : Int32) (pc' := 197) at_194 rfl rfl ?_
  refine own_iand (pc' := 198) at_197 rfl ?_
  refine own_ixor (pc' := 199) at_198 rfl ?_
  refine own_static (own_t8W l Z a0 hw ((199 : Int32) ^^^ (x1 &&& (255 : Int32))) h52 n0 hn0) (hw _ (List.mem_of_getElem? (i := 2) rfl)) (hw _ (List.mem_of_getElem? (i := 3) rfl)) (hw _ (List.mem_of_getElem? (i := 4) rfl)) (hw _ (List.mem_of_getElem? (i := 5) rfl)) (plainFor_of_name own_pn0) (by decide) own_pd1 rfl (argsL := [.int ((199 : Int32) ^^^ (x1 &&& (255 : Int32)))]) (rest := []) rfl rfl (W := 0) (Nat.le_refl _) (by decide) (by decide) (by decide) (by decide) rfl at_199 (pc' := 202) rfl (fun v_ h54 hq => ?_)
  obtain ⟨rfl, rfl⟩ := hq
  show own_W l Z x code maxLocals ret room_1 n0 (fun v h => v = some (.int 1)) h52 1 5 202 #[.val (.int x0), .val (.int x1), .val (.int x2), .val (.int x3), .val (.int x4), .val (.int x5), .val (.int (5 : Int32)), .val (.int (x0.toInt8.toInt32)), .val (.int (x1.toInt8.toInt32)), .val (.int (x2.toInt8.toInt32)), .val (.int (x3.toInt8.toInt32)), .val (.int (x4.toInt8.toInt32)), .val (.ref a), .val (.int (199 : Int32))] [.int (own_f0 ((199 : Int32) ^^^ (x1 &&& (255 : Int32))) 0)]
  refine own_istore (pc' := 204) (Ls' := #[.val (.int x0), .val (.int x1), .val (.int x2), .val (.int x3), .val (.int x4), .val (.int x5), .val (.int (5 : Int32)), .val (.int (x0.toInt8.toInt32)), .val (.int (x1.toInt8.toInt32)), .val (.int (x2.toInt8.toInt32)), .val (.int (x3.toInt8.toInt32)), .val (.int (x4.toInt8.toInt32)), .val (.ref a), .val (.int (own_f0 ((199 : Int32) ^^^ (x1 &&& (255 : Int32))) 0))]) at_202 rfl rfl ?_
  refine own_iload (pc' := 206) at_204 rfl rfl ?_
  refine own_iconst (3 : Int32) (pc' := 207) at_206 rfl rfl ?_
  refine own_ic_lt_f (pc' := 210) at_207 (by decide) rfl ?_
  refine own_iload (pc' := 212) at_210 rfl rfl ?_
  refine own_iloadN (pc' := 213) at_212 rfl rfl ?_
  refine own_sipush (255 : Int32) (pc' := 216) at_213 rfl rfl ?_
  refine own_iand (pc' := 217) at_216 rfl ?_
  refine own_ixor (pc' := 218) at_217 rfl ?_
  refine own_static (own_t8W l Z a0 hw ((own_f0 ((199 : Int32) ^^^ (x1 &&& (255 : Int32))) 0) ^^^ (x2 &&& (255 : Int32))) h52 n0 hn0) (hw _ (List.mem_of_getElem? (i := 2) rfl)) (hw _ (List.mem_of_getElem? (i := 3) rfl)) (hw _ (List.mem_of_getElem? (i := 4) rfl)) (hw _ (List.mem_of_getElem? (i := 5) rfl)) (plainFor_of_name own_pn0) (by decide) own_pd1 rfl (argsL := [.int ((own_f0 ((199 : Int32) ^^^ (x1 &&& (255 : Int32))) 0) ^^^ (x2 &&& (255 : Int32)))]) (rest := []) rfl rfl (W := 0) (Nat.le_refl _) (by decide) (by decide) (by decide) (by decide) rfl at_218 (pc' := 221) rfl (fun v_ h55 hq => ?_)
  obtain ⟨rfl, rfl⟩ := hq
  show own_W l Z x code maxLocals ret room_1 n0 (fun v h => v = some (.int 1)) h52 1 5 221 #[.val (.int x0), .val (.int x1), .val (.int x2), .val (.int x3), .val (.int x4), .val (.int x5), .val (.int (5 : Int32)), .val (.int (x0.toInt8.toInt32)), .val (.int (x1.toInt8.toInt32)), .val (.int (x2.toInt8.toInt32)), .val (.int (x3.toInt8.toInt32)), .val (.int (x4.toInt8.toInt32)), .val (.ref a), .val (.int (own_f0 ((199 : Int32) ^^^ (x1 &&& (255 : Int32))) 0))] [.int (own_f0 ((own_f0 ((199 : Int32) ^^^ (x1 &&& (255 : Int32))) 0) ^^^ (x2 &&& (255 : Int32))) 0)]
  refine own_istore (pc' := 223) (Ls' := #[.val (.int x0), .val (.int x1), .val (.int x2), .val (.int x3), .val (.int x4), .val (.int x5), .val (.int (5 : Int32)), .val (.int (x0.toInt8.toInt32)), .val (.int (x1.toInt8.toInt32)), .val (.int (x2.toInt8.toInt32)), .val (.int (x3.toInt8.toInt32)), .val (.int (x4.toInt8.toInt32)), .val (.ref a), .val (.int (own_f0 ((own_f0 ((199 : Int32) ^^^ (x1 &&& (255 : Int32))) 0) ^^^ (x2 &&& (255 : Int32))) 0))]) at_221 rfl rfl ?_
  refine own_iload (pc' := 225) at_223 rfl rfl ?_
  refine own_iconst (4 : Int32) (pc' := 226) at_225 rfl rfl ?_
  refine own_ic_lt_f (pc' := 229) at_226 (by decide) rfl ?_
  refine own_iload (pc' := 231) at_229 rfl rfl ?_
  refine own_iloadN (pc' := 232) at_231 rfl rfl ?_
  refine own_sipush (255 : Int32) (pc' := 235) at_232 rfl rfl ?_
  refine own_iand (pc' := 236) at_235 rfl ?_
  refine own_ixor (pc' := 237) at_236 rfl ?_
  refine own_static (own_t8W l Z a0 hw ((own_f0 ((own_f0 ((199 : Int32) ^^^ (x1 &&& (255 : Int32))) 0) ^^^ (x2 &&& (255 : Int32))) 0) ^^^ (x3 &&& (255 : Int32))) h52 n0 hn0) (hw _ (List.mem_of_getElem? (i := 2) rfl)) (hw _ (List.mem_of_getElem? (i := 3) rfl)) (hw _ (List.mem_of_getElem? (i := 4) rfl)) (hw _ (List.mem_of_getElem? (i := 5) rfl)) (plainFor_of_name own_pn0) (by decide) own_pd1 rfl (argsL := [.int ((own_f0 ((own_f0 ((199 : Int32) ^^^ (x1 &&& (255 : Int32))) 0) ^^^ (x2 &&& (255 : Int32))) 0) ^^^ (x3 &&& (255 : Int32)))]) (rest := []) rfl rfl (W := 0) (Nat.le_refl _) (by decide) (by decide) (by decide) (by decide) rfl at_237 (pc' := 240) rfl (fun v_ h56 hq => ?_)
  obtain ⟨rfl, rfl⟩ := hq
  show own_W l Z x code maxLocals ret room_1 n0 (fun v h => v = some (.int 1)) h52 1 5 240 #[.val (.int x0), .val (.int x1), .val (.int x2), .val (.int x3), .val (.int x4), .val (.int x5), .val (.int (5 : Int32)), .val (.int (x0.toInt8.toInt32)), .val (.int (x1.toInt8.toInt32)), .val (.int (x2.toInt8.toInt32)), .val (.int (x3.toInt8.toInt32)), .val (.int (x4.toInt8.toInt32)), .val (.ref a), .val (.int (own_f0 ((own_f0 ((199 : Int32) ^^^ (x1 &&& (255 : Int32))) 0) ^^^ (x2 &&& (255 : Int32))) 0))] [.int (own_f0 ((own_f0 ((own_f0 ((199 : Int32) ^^^ (x1 &&& (255 : Int32))) 0) ^^^ (x2 &&& (255 : Int32))) 0) ^^^ (x3 &&& (255 : Int32))) 0)]
  refine own_istore (pc' := 242) (Ls' := #[.val (.int x0), .val (.int x1), .val (.int x2), .val (.int x3), .val (.int x4), .val (.int x5), .val (.int (5 : Int32)), .val (.int (x0.toInt8.toInt32)), .val (.int (x1.toInt8.toInt32)), .val (.int (x2.toInt8.toInt32)), .val (.int (x3.toInt8.toInt32)), .val (.int (x4.toInt8.toInt32)), .val (.ref a), .val (.int (own_f0 ((own_f0 ((own_f0 ((199 : Int32) ^^^ (x1 &&& (255 : Int32))) 0) ^^^ (x2 &&& (255 : Int32))) 0) ^^^ (x3 &&& (255 : Int32))) 0))]) at_240 rfl rfl ?_
  refine own_iload (pc' := 244) at_242 rfl rfl ?_
  refine own_iconst (5 : Int32) (pc' := 245) at_244 rfl rfl ?_
  refine own_ic_lt_f (pc' := 248) at_245 (by decide) rfl ?_
  refine own_iload (pc' := 250) at_248 rfl rfl ?_
  refine own_iload (pc' := 252) at_250 rfl rfl ?_
  refine own_sipush (255 : Int32) (pc' := 255) at_252 rfl rfl ?_
  refine own_iand (pc' := 256) at_255 rfl ?_
  refine own_ixor (pc' := 257) at_256 rfl ?_
  refine own_static (own_t8W l Z a0 hw ((own_f0 ((own_f0 ((own_f0 ((199 : Int32) ^^^ (x1 &&& (255 : Int32))) 0) ^^^ (x2 &&& (255 : Int32))) 0) ^^^ (x3 &&& (255 : Int32))) 0) ^^^ (x4 &&& (255 : Int32))) h52 n0 hn0) (hw _ (List.mem_of_getElem? (i := 2) rfl)) (hw _ (List.mem_of_getElem? (i := 3) rfl)) (hw _ (List.mem_of_getElem? (i := 4) rfl)) (hw _ (List.mem_of_getElem? (i := 5) rfl)) (plainFor_of_name own_pn0) (by decide) own_pd1 rfl (argsL := [.int ((own_f0 ((own_f0 ((own_f0 ((199 : Int32) ^^^ (x1 &&& (255 : Int32))) 0) ^^^ (x2 &&& (255 : Int32))) 0) ^^^ (x3 &&& (255 : Int32))) 0) ^^^ (x4 &&& (255 : Int32)))]) (rest := []) rfl rfl (W := 0) (Nat.le_refl _) (by decide) (by decide) (by decide) (by decide) rfl at_257 (pc' := 260) rfl (fun v_ h57 hq => ?_)
  obtain ⟨rfl, rfl⟩ := hq
  show own_W l Z x code maxLocals ret room_1 n0 (fun v h => v = some (.int 1)) h52 1 5 260 #[.val (.int x0), .val (.int x1), .val (.int x2), .val (.int x3), .val (.int x4), .val (.int x5), .val (.int (5 : Int32)), .val (.int (x0.toInt8.toInt32)), .val (.int (x1.toInt8.toInt32)), .val (.int (x2.toInt8.toInt32)), .val (.int (x3.toInt8.toInt32)), .val (.int (x4.toInt8.toInt32)), .val (.ref a), .val (.int (own_f0 ((own_f0 ((own_f0 ((199 : Int32) ^^^ (x1 &&& (255 : Int32))) 0) ^^^ (x2 &&& (255 : Int32))) 0) ^^^ (x3 &&& (255 : Int32))) 0))] [.int (own_f0 ((own_f0 ((own_f0 ((own_f0 ((199 : Int32) ^^^ (x1 &&& (255 : Int32))) 0) ^^^ (x2 &&& (255 : Int32))) 0) ^^^ (x3 &&& (255 : Int32))) 0) ^^^ (x4 &&& (255 : Int32))) 0)]
  refine own_istore (pc' := 262) (Ls' := #[.val (.int x0), .val (.int x1), .val (.int x2), .val (.int x3), .val (.int x4), .val (.int x5), .val (.int (5 : Int32)), .val (.int (x0.toInt8.toInt32)), .val (.int (x1.toInt8.toInt32)), .val (.int (x2.toInt8.toInt32)), .val (.int (x3.toInt8.toInt32)), .val (.int (x4.toInt8.toInt32)), .val (.ref a), .val (.int (own_f0 ((own_f0 ((own_f0 ((own_f0 ((199 : Int32) ^^^ (x1 &&& (255 : Int32))) 0) ^^^ (x2 &&& (255 : Int32))) 0) ^^^ (x3 &&& (255 : Int32))) 0) ^^^ (x4 &&& (255 : Int32))) 0))]) at_260 rfl rfl ?_
  refine own_aload (pc' := 264) at_262 rfl rfl ?_
  refine own_static (own_crc5 l Z a0 hw a _ _ _ _ _ h52 n0 hn0 A_a) (hw _ (List.mem_of_getElem? (i := 6) rfl)) (hw _ (List.mem_of_getElem? (i := 7) rfl)) (hw _ (List.mem_of_getElem? (i := 8) rfl)) (hw _ (List.mem_of_getElem? (i := 9) rfl)) (plainFor_of_name own_pn1) (by decide) own_pd2 rfl (argsL := [.ref a]) (rest := []) rfl rfl (W := 0) (Nat.le_refl _) (by decide) (by decide) (by decide) (by decide) rfl at_264 (pc' := 267) rfl (fun v_ h58 hq => ?_)
  obtain ⟨rfl, rfl⟩ := hq
  show own_W l Z x code maxLocals ret room_1 n0 (fun v h => v = some (.int 1)) h52 1 5 267 #[.val (.int x0), .val (.int x1), .val (.int x2), .val (.int x3), .val (.int x4), .val (.int x5), .val (.int (5 : Int32)), .val (.int (x0.toInt8.toInt32)), .val (.int (x1.toInt8.toInt32)), .val (.int (x2.toInt8.toInt32)), .val (.int (x3.toInt8.toInt32)), .val (.int (x4.toInt8.toInt32)), .val (.ref a), .val (.int (own_f0 ((own_f0 ((own_f0 ((own_f0 ((199 : Int32) ^^^ (x1 &&& (255 : Int32))) 0) ^^^ (x2 &&& (255 : Int32))) 0) ^^^ (x3 &&& (255 : Int32))) 0) ^^^ (x4 &&& (255 : Int32))) 0))] [.int (own_it 8 ((own_it 8 ((own_it 8 ((own_it 8 ((199 : Int32) ^^^ ((nar .byte (x1.toInt8.toInt32)) &&& (255 : Int32)))) ^^^ ((nar .byte (x2.toInt8.toInt32)) &&& (255 : Int32)))) ^^^ ((nar .byte (x3.toInt8.toInt32)) &&& (255 : Int32)))) ^^^ ((nar .byte (x4.toInt8.toInt32)) &&& (255 : Int32))))]
  refine own_iload (pc' := 269) at_267 rfl rfl ?_
  refine own_ic_ne_f (pc' := 272) at_269 s4.1 rfl ?_
  refine own_iconst (1 : Int32) (pc' := 273) at_272 rfl rfl ?_
  refine own_goto (pc' := 277) at_273 (by decide) (by decide) ?_
  exact own_bret (v := (1 : Int32)) rfl (by first | rfl | decide | assumption) at_277 rfl
set_option maxRecDepth 65536 in
set_option maxHeartbeats 40000000 in
theorem own_law (l : Launch) (Z : State) (a0 : Array Value) (hw : ∀ d ∈ tables_1, d.before a0 Z = true) (x0 x1 x2 x3 x4 x5 : Int32) (h0 : Heap) (n0 : Nat) (hn0 : n0 ≤ h0.size) :
    own_W l Z x code maxLocals ret room_1 n0 (fun v h => v = some (.int 1)) h0 0 0 0 #[.val (.int x0), .val (.int x1), .val (.int x2), .val (.int x3), .val (.int x4), .val (.int x5), .unset, .unset, .unset, .unset, .unset, .unset, .unset, .unset] [] := by
  refine own_iload (pc' := 2) at_0 rfl rfl ?_
  refine own_ldcI (pc' := 4) (u := (2147483647 : Int32)) (hw _ (List.mem_of_getElem? (i := 0) rfl)) at_2 rfl ?_
  refine own_iand (pc' := 5) at_4 rfl ?_
  refine own_bipush (6 : Int32) (pc' := 7) at_5 rfl rfl ?_
  refine own_irem (pc' := 8) at_7 rfl (by decide) ?_
  have hl : 0 ≤ ((x5 &&& 2147483647) % 6).toInt ∧ ((x5 &&& 2147483647) % 6).toInt < 6 := by
    have h1 := (c_and x5 2147483647 (by decide)).1
    have h2 := (c_irem (x5 &&& 2147483647) 6 6 rfl).1 h1
    omega
  generalize hn_ : ((x5 &&& (2147483647 : Int32)) % (6 : Int32)) = n
  rw [hn_] at hl
  refine own_istore (pc' := 10) (Ls' := #[.val (.int x0), .val (.int x1), .val (.int x2), .val (.int x3), .val (.int x4), .val (.int x5), .val (.int n), .unset, .unset, .unset, .unset, .unset, .unset, .unset]) at_8 rfl rfl ?_
  have hc : n = 0 ∨ n = 1 ∨ n = 2 ∨ n = 3 ∨ n = 4 ∨ n = 5 := by simp only [← Int32.toInt_inj, Int32.reduceToInt]; omega
  rcases hc with rfl | rfl | rfl | rfl | rfl | rfl
  · exact own_law0 l Z a0 hw x0 x1 x2 x3 x4 x5 h0 n0 hn0
  · exact own_law1 l Z a0 hw x0 x1 x2 x3 x4 x5 h0 n0 hn0
  · exact own_law2 l Z a0 hw x0 x1 x2 x3 x4 x5 h0 n0 hn0
  · exact own_law3 l Z a0 hw x0 x1 x2 x3 x4 x5 h0 n0 hn0
  · exact own_law4 l Z a0 hw x0 x1 x2 x3 x4 x5 h0 n0 hn0
  · exact own_law5 l Z a0 hw x0 x1 x2 x3 x4 x5 h0 n0 hn0
set_option maxRecDepth 65536 in
set_option maxHeartbeats 40000000 in
theorem comes_1 {Post : Tables → Env → Array Value → State → Outcome → State → Prop} (hpost : ∀ tb e args s v u, (limb_1_1.after args s (.returned v) u = true ∧ limb_1_2.after args s (.returned v) u = true ∧ True) → FrameEnd s (.returned v) u (Jvm.fieldLocs frame_1_writes args s ++ Jvm.arrayLocs frame_1_arrays args s ++ Jvm.staticLocs frame_1_statics s) 16 128 → Post tb e args s (.returned v) u) :
    ArmFor flags0 classFile x code maxLocals ret World_1 tables_1 room_1 Calls_1 rest_1 Pre_1 Post := by
  intro l hfl _ _ p e ha hc hk s m args below hf hA hF happ hP
  obtain ⟨hcalls, hrest, hpre⟩ := hP
  obtain ⟨-, -, -, hnamed, -, -, -, hat⟩ := (Spec.applies_iff hf).mp happ
  obtain ⟨hg, hn⟩ := and_e (Cond.before_iff.mp (show (Jvm.Cond.and given_1 narrow_1).before args s = true from hpre))
  obtain ⟨hcount, hg0⟩ := and_e hg
  obtain ⟨w0, w1, w2, w3, w4, w5, rfl⟩ : ∃ w0 w1 w2 w3 w4 w5 : Value, args = #[w0, w1, w2, w3, w4, w5] := by
    have hs : args.size = 6 := by simpa [Cond.value, given_1] using hcount
    obtain ⟨L⟩ := args
    match L, hs with
    | [w0, w1, w2, w3, w4, w5], _ => exact ⟨w0, w1, w2, w3, w4, w5, rfl⟩
  have hw := fun d (hd : d ∈ tables_1) => atoms_spec (ws := Jvm.Cond.code x code maxLocals ret :: tables_1) hat d (List.mem_cons_of_mem _ hd)
  obtain ⟨hg0v, hg1⟩ := and_e hg0
  obtain ⟨x0, e0⟩ := is_v hg0v
  obtain rfl : w0 = (.int x0) := Option.some.inj e0
  obtain ⟨hg1v, hg2⟩ := and_e hg1
  obtain ⟨x1, e1⟩ := is_v hg1v
  obtain rfl : w1 = (.int x1) := Option.some.inj e1
  obtain ⟨hg2v, hg3⟩ := and_e hg2
  obtain ⟨x2, e2⟩ := is_v hg2v
  obtain rfl : w2 = (.int x2) := Option.some.inj e2
  obtain ⟨hg3v, hg4⟩ := and_e hg3
  obtain ⟨x3, e3⟩ := is_v hg3v
  obtain rfl : w3 = (.int x3) := Option.some.inj e3
  obtain ⟨hg4v, hg5⟩ := and_e hg4
  obtain ⟨x4, e4⟩ := is_v hg4v
  obtain rfl : w4 = (.int x4) := Option.some.inj e4
  obtain ⟨x5, e5⟩ := is_v hg5
  obtain rfl : w5 = (.int x5) := Option.some.inj e5
  obtain ⟨n, o, h1, h2, h3, _, L, rfl, ⟨hq1, N⟩, hq⟩ := own_met (argsL := [.int x0, .int x1, .int x2, .int x3, .int x4, .int x5]) (own_law l s _ hw x0 x1 x2 x3 x4 x5 s.heap s.heap.size (Nat.le_refl _)) (plainFor_of_name own_pn0) rfl tables_1 p e ha hc hk s m _ below hf ((Spec.applies_iff_loose hf).mp happ).1 ⟨rfl, State.Warmed39.refl s, rfl⟩ trivial
  subst hq1
  refine ⟨n, _, h1, h2, h3, hpost _ _ _ _ _ _ ⟨Cond.after_iff.mpr rfl, Cond.after_iff.mpr (eq_i res_at (Term.int_eval (1)) rfl), trivial⟩ ⟨hq.1, hq.2.1, (hq.2.2.sift fun y hy => Or.inr (N y hy)).mono (by decide) (by decide)⟩⟩
theorem main_1_1 : Claimed_1_1 := comes_1 fun _ _ _ _ _ _ h hF => ⟨h.1, hF⟩
theorem main_1_2 : Claimed_1_2 := comes_1 fun _ _ _ _ _ _ h hF => ⟨h.2.1, hF⟩
end Jvm.Pilot.@@N@@
namespace Jvm.Pilot.@@N@@
open Jvm Jvm.ClassFile Sem Op Lib Jvm.Free Jvm.Stand Jvm.Pilot.@@N@@.Jvm.D
/-! MADE BY PROGRAM (witnessworld.py) out of the Statement's table words and the real class files: 9 classes; the members and pool entries that the words name. The judged class is class 1, her method 2. -/
namespace start1
open Jvm.ClassFile
def u (s : String) : CpInfo := .utf8 (stringToUtf16 s)
/-- a pool by its gaps: so many unusable entries, then the entry; so many at the end -/
def gap : Nat → List CpInfo → List CpInfo
  | 0, r => r
  | n + 1, r => .unusable :: gap n r
def poolList (es : List (Nat × CpInfo)) (last : Nat) : List CpInfo := es.foldr (fun e r => gap e.1 (e.2 :: r)) (gap last [])
def pool (es : List (Nat × CpInfo)) (last : Nat) : Array CpInfo := ⟨poolList es last⟩
def fileOf (pool : Array CpInfo) (this : Nat) (attrs : Array Attribute := #[]) (ms : Array MethodInfo := #[]) (fl : Nat := 33) (sup : Nat := 0) (ifs : Array Nat := #[]) (fds : Array FieldInfo := #[]) : ClassFile where
  minorVersion := 0
  majorVersion := 65
  constantPool := pool
  accessFlags := fl
  thisClass := this
  superClass := sup
  interfaces := ifs
  fields := fds
  methods := ms
  attributes := attrs
def plain (name : String) (sup : Option ClassId) : Class where
  name := name
  kind := .ordinary
  loader := none
  accessFlags := 33
  super := sup
  interfaces := #[]
  cf := none
  fields := #[]
  methods := #[]
  instanceTypes := #[]
  staticTypes := #[]
  resolved := #[]
  callSites := []
  init := .initialized
  statics := none
  mirror := none

def pool0 : Array CpInfo := pool [(5, u "<init>"), (0, u "()V"), (1, .class_ 10), (1, u "java/lang/Object")] 113

def k0m0 : Method := { name := "<init>", desc := "()V", sig := { parameters := [], returnType := none }, accessFlags := 1, code := none }
/-- java/lang/Object -/
def k0 : Class := { plain "java/lang/Object" none with
  accessFlags := 33
  interfaces := #[]
  cf := some (fileOf pool0 8 #[] #[{ accessFlags := 1, nameIndex := 5, descriptorIndex := 6, attributes := #[] }] 33 0 #[] #[])
  fields := #[]
  methods := #[k0m0]
  instanceTypes := #[]
  staticTypes := #[]
  resolved := Array.replicate 124 none
  statics := none }

def pool1 : Array CpInfo := pool [(2, .class_ 4), (1, u "java/lang/Object"), (0, u "<init>"), (0, u "()V"), (0, .integer 2147483647), (0, .methodref 9 10), (0, .class_ 11), (0, .nameAndType 12 13), (0, u "com/example/fieldtap/fieldtap/classic/ApplicationDirectoryCrcPinLaw"), (0, u "times8"), (0, u "(I)I"), (0, .methodref 15 16), (0, .class_ 17), (0, .nameAndType 18 19), (0, u "com/example/fieldtap/fieldtap/classic/ApplicationDirectory"), (0, u "crc"), (0, u "([B)I"), (3, u "law"), (0, u "(IIIIII)Z")] 4

def k1m0 : Method := { name := "<init>", desc := "()V", sig := { parameters := [], returnType := none }, accessFlags := 2, code := none }
def k1c1 : Code := { maxStack := 2, maxLocals := 2, code := method_2_code, exceptionTable := #[], attributes := #[] }
def k1m1 : Method := { name := "times8", desc := "(I)I", sig := { parameters := [.int], returnType := some .int }, accessFlags := 10, code := some k1c1 }
def k1c2 : Code := { maxStack := 4, maxLocals := 14, code := code, exceptionTable := #[], attributes := #[] }
def k1m2 : Method := { name := "law", desc := "(IIIIII)Z", sig := { parameters := [.int, .int, .int, .int, .int, .int], returnType := some .boolean }, accessFlags := 9, code := some k1c2 }
/-- com/example/fieldtap/fieldtap/classic/ApplicationDirectoryCrcPinLaw -/
def k1 : Class := { plain "com/example/fieldtap/fieldtap/classic/ApplicationDirectoryCrcPinLaw" (some 0) with
  accessFlags := 49
  interfaces := #[]
  cf := some (fileOf pool1 9 #[] #[{ accessFlags := 2, nameIndex := 5, descriptorIndex := 6, attributes := #[] }, { accessFlags := 10, nameIndex := 12, descriptorIndex := 13, attributes := #[] }, { accessFlags := 9, nameIndex := 23, descriptorIndex := 24, attributes := #[] }] 49 2 #[] #[])
  fields := #[]
  methods := #[k1m0, k1m1, k1m2]
  instanceTypes := #[]
  staticTypes := #[]
  resolved := Array.replicate 29 none
  statics := none }

def pool2 : Array CpInfo := pool [(2, .class_ 4), (1, u "java/lang/Object"), (3, .class_ 10), (1, u "com/example/fieldtap/fieldtap/classic/ApplicationDirectory"), (0, u "ids"), (0, u "[[B"), (4, u "KEY"), (0, u "[B"), (67, u "SECOND"), (0, u "Lcom/example/fieldtap/fieldtap/classic/ApplicationDirectory$Place;"), (1, .class_ 91), (1, u "com/example/fieldtap/fieldtap/classic/ApplicationDirectory$Place"), (9, u "FIRST"), (66, u "crc"), (0, u "([B)I"), (28, u "GENERAL_PURPOSE_BYTE"), (0, u "I"), (2, u "HAS_DIRECTORY"), (1, u "VERSION_BITS"), (1, u "FIRST_ONLY"), (1, u "FIRST_AND_SECOND"), (1, u "IDS_AT"), (0, u "ID_BYTES"), (0, u "POLYNOMIAL"), (1, u "PRESET")] 66

def k2c0 : Code := { maxStack := 3, maxLocals := 4, code := prog_15_method_4_code, exceptionTable := #[], attributes := #[] }
def k2m0 : Method := { name := "crc", desc := "([B)I", sig := { parameters := [(.array .byte)], returnType := some .int }, accessFlags := 8, code := some k2c0 }
/-- com/example/fieldtap/fieldtap/classic/ApplicationDirectory -/
def k2 : Class := { plain "com/example/fieldtap/fieldtap/classic/ApplicationDirectory" (some 0) with
  accessFlags := 48
  interfaces := #[]
  cf := some (fileOf pool2 8 #[.nestMembers #[89]] #[{ accessFlags := 8, nameIndex := 168, descriptorIndex := 169, attributes := #[] }] 48 2 #[] #[{ accessFlags := 24, nameIndex := 17, descriptorIndex := 18, attributes := #[] }, { accessFlags := 24, nameIndex := 198, descriptorIndex := 199, attributes := #[] }, { accessFlags := 26, nameIndex := 202, descriptorIndex := 199, attributes := #[] }, { accessFlags := 26, nameIndex := 204, descriptorIndex := 199, attributes := #[] }, { accessFlags := 26, nameIndex := 206, descriptorIndex := 199, attributes := #[] }, { accessFlags := 26, nameIndex := 208, descriptorIndex := 199, attributes := #[] }, { accessFlags := 26, nameIndex := 210, descriptorIndex := 199, attributes := #[] }, { accessFlags := 26, nameIndex := 211, descriptorIndex := 199, attributes := #[] }, { accessFlags := 26, nameIndex := 212, descriptorIndex := 199, attributes := #[] }, { accessFlags := 26, nameIndex := 214, descriptorIndex := 199, attributes := #[] }, { accessFlags := 26, nameIndex := 101, descriptorIndex := 87, attributes := #[] }, { accessFlags := 26, nameIndex := 86, descriptorIndex := 87, attributes := #[] }, { accessFlags := 18, nameIndex := 11, descriptorIndex := 12, attributes := #[] }])
  fields := #[{ name := "KEY", type := (.array .byte), accessFlags := 24, slot := 0, constantValue := 0 }, { name := "GENERAL_PURPOSE_BYTE", type := .int, accessFlags := 24, slot := 1, constantValue := 0 }, { name := "HAS_DIRECTORY", type := .int, accessFlags := 26, slot := 2, constantValue := 0 }, { name := "VERSION_BITS", type := .int, accessFlags := 26, slot := 3, constantValue := 0 }, { name := "FIRST_ONLY", type := .int, accessFlags := 26, slot := 4, constantValue := 0 }, { name := "FIRST_AND_SECOND", type := .int, accessFlags := 26, slot := 5, constantValue := 0 }, { name := "IDS_AT", type := .int, accessFlags := 26, slot := 6, constantValue := 0 }, { name := "ID_BYTES", type := .int, accessFlags := 26, slot := 7, constantValue := 0 }, { name := "POLYNOMIAL", type := .int, accessFlags := 26, slot := 8, constantValue := 0 }, { name := "PRESET", type := .int, accessFlags := 26, slot := 9, constantValue := 0 }, { name := "FIRST", type := (.object "com/example/fieldtap/fieldtap/classic/ApplicationDirectory$Place"), accessFlags := 26, slot := 10, constantValue := 0 }, { name := "SECOND", type := (.object "com/example/fieldtap/fieldtap/classic/ApplicationDirectory$Place"), accessFlags := 26, slot := 11, constantValue := 0 }, { name := "ids", type := (.array (.array .byte)), accessFlags := 18, slot := 0, constantValue := 0 }]
  methods := #[k2m0]
  instanceTypes := #[(.array (.array .byte))]
  staticTypes := #[(.array .byte), .int, .int, .int, .int, .int, .int, .int, .int, .int, (.object "com/example/fieldtap/fieldtap/classic/ApplicationDirectory$Place"), (.object "com/example/fieldtap/fieldtap/classic/ApplicationDirectory$Place")]
  resolved := Array.replicate 281 none
  statics := none }

def pool3 : Array CpInfo := pool [(1, u "java/lang/Cloneable"), (0, .class_ 1), (0, u "java/lang/Object"), (0, .class_ 3)] 3

/-- java/lang/Cloneable -/
def k3 : Class := { plain "java/lang/Cloneable" (some 0) with
  accessFlags := 1537
  interfaces := #[]
  cf := some (fileOf pool3 2 #[] #[] 1537 4 #[] #[])
  fields := #[]
  methods := #[]
  instanceTypes := #[]
  staticTypes := #[]
  resolved := Array.replicate 8 none
  statics := none }

def pool4 : Array CpInfo := pool [(1, u "java/io/Serializable"), (0, .class_ 1), (0, u "java/lang/Object"), (0, .class_ 3)] 3

/-- java/io/Serializable -/
def k4 : Class := { plain "java/io/Serializable" (some 0) with
  accessFlags := 1537
  interfaces := #[]
  cf := some (fileOf pool4 2 #[] #[] 1537 4 #[] #[])
  fields := #[]
  methods := #[]
  instanceTypes := #[]
  staticTypes := #[]
  resolved := Array.replicate 8 none
  statics := none }

/-- the primitive byte -/
def k5 : Class := { plain "byte" none with kind := .primitive 'B', accessFlags := 0x411 }
/-- [B -/
def k6 : Class := { plain "[B" (some 0) with kind := .array 5 .byte, interfaces := #[3, 4], accessFlags := 1041 }

/-- the primitive int -/
def k7 : Class := { plain "int" none with kind := .primitive 'I', accessFlags := 0x411 }
/-- [I -/
def k8 : Class := { plain "[I" (some 0) with kind := .array 7 .int, interfaces := #[3, 4], accessFlags := 1041 }

def heap : Heap := #[]
def classes : Array Class := #[k0, k1, k2, k3, k4, k5, k6, k7, k8]
def interned : List (Array UInt16 × Addr) := []
def slotsUsed : Nat := 0
def theMethod : MethodId := ⟨1, 2⟩
def args0 : Array Value := #[.int 5, .int 5, .int 5, .int 5, .int 5, .int 5]
def aboutOver (below : List Frame) : State where
  vm := { classes := classes, interned := interned.toArray }
  heap := heap
  slotsUsed := slotsUsed
  threads := #[{ frames := .invoking theMethod args0 :: below }]
def below0 : List Frame := [.native { method := ⟨0, 0⟩, args := #[] }]
def about1 : State := aboutOver below0
def p0 : Program := .bare "" "" ""
def e0 : Env := launch0.env 0 0 0
theorem w_frames : about1.frames = Frame.invoking theMethod args0 :: below0 := rfl
set_option maxRecDepth 65536 in
theorem w_args : argsFit about1.vm theMethod args0 = true := by decide +kernel
set_option maxRecDepth 65536 in
theorem w_heap : heapFits about1 = true := by decide +kernel
set_option maxRecDepth 65536 in
theorem w_runnable : about1.curStatus? = some .runnable := by decide +kernel
set_option maxRecDepth 65536 in
theorem w_alone : about1.alone = true := by decide +kernel
set_option maxRecDepth 65536 in
theorem w_named : about1.methodNamed? x = some theMethod := by decide +kernel
set_option maxRecDepth 65536 in
theorem w_hears : about1.hears theMethod below0 = true := by decide +kernel
set_option maxRecDepth 65536 in
theorem w_ripe : about1.ripe theMethod args0 below0 = true := by decide +kernel
theorem w_running : about1.status = .running := rfl
set_option maxRecDepth 65536 in
theorem w_room : about1.hasRoom e0.platform room_1 = true :=
  launch0.hasRoom_least _ room_1 (by decide +kernel) (by decide +kernel) (by decide +kernel) (by decide +kernel) (by decide +kernel) (by decide +kernel)
theorem allAtoms_all (ts : List Jvm.Cond) (a : Array Jvm.Value) (st : Jvm.State) : (allAtoms ts).before a st = ts.all (fun c => c.before a st) := by
  induction ts with
  | nil => rfl
  | cons c t ih =>
    show (Jvm.Cond.and c (allAtoms t)).before a st = _
    rw [Jvm.Cond.before_and, ih, List.all_cons]
def words1 : List Jvm.Cond := Jvm.Cond.code x code maxLocals ret :: tables_1
/-- a 'code' word, met by the world's own term for the bytes: nothing is compared byte by byte -/
theorem code_word {y : MethodName} {bytes : ByteArray} {mx : Nat} {rt : Option FieldType} {a : Array Value} {s : State} {m : MethodId} {meth : Method} {c : Code} (h1 : s.methodNamed? y = some m) (h2 : s.vm.method? m = some meth) (h3 : meth.code = some c) (h4 : c.code = bytes)
    (h5 : (c.maxLocals == mx && c.exceptionTable.isEmpty && decide (c.maxStack ≤ mostOperands) && decide (meth.sig.returnType = rt) && !meth.locks && decide (parseMethodDescriptor y.desc = some meth.sig)) = true) : (Jvm.Cond.code y bytes mx rt).before a s = true := by
  simp only [Bool.and_eq_true, beq_iff_eq, Bool.not_eq_true', decide_eq_true_eq] at h5
  obtain ⟨⟨⟨⟨⟨g1, g2⟩, g3⟩, g4⟩, g5⟩, g6⟩ := h5
  simp [Cond.before, Cond.holds, Cond.value, h1, h2, h3, h4, g1, g2, g3, g4, g5, g6]
def isCode : Jvm.Cond → Bool
  | .code _ _ _ _ => true
  | _ => false
theorem all_split {L : List Jvm.Cond} {P : Jvm.Cond → Bool} (h1 : L.all (fun c => isCode c || P c) = true) (h2 : ∀ c ∈ L.filter isCode, P c = true) : L.all P = true := by
  refine List.all_eq_true.mpr fun c hc => ?_
  have h := List.all_eq_true.mp h1 c hc
  rcases Bool.eq_false_or_eq_true (isCode c) with hi | hi
  · exact h2 c (List.mem_filter.mpr ⟨hc, hi⟩)
  · simpa [hi] using h
set_option maxRecDepth 65536 in
theorem w_c0 : (Jvm.Cond.code x code maxLocals ret).before args0 about1 = true := code_word (m := ⟨1, 2⟩) (meth := k1m2) (c := k1c2) (by decide +kernel) rfl rfl rfl (by decide +kernel)
set_option maxRecDepth 65536 in
theorem w_c1 : (Jvm.Cond.code ({ cls := "com/example/fieldtap/fieldtap/classic/ApplicationDirectoryCrcPinLaw", name := "times8", desc := "(I)I" } : Jvm.MethodName) method_2_code (2 : Nat) (Option.some Jvm.ClassFile.FieldType.int)).before args0 about1 = true := code_word (m := ⟨1, 1⟩) (meth := k1m1) (c := k1c1) (by decide +kernel) rfl rfl rfl (by decide +kernel)
set_option maxRecDepth 65536 in
theorem w_c2 : (Jvm.Cond.code ({ cls := "com/example/fieldtap/fieldtap/classic/ApplicationDirectory", name := "crc", desc := "([B)I" } : Jvm.MethodName) prog_15_method_4_code (4 : Nat) (Option.some Jvm.ClassFile.FieldType.int)).before args0 about1 = true := code_word (m := ⟨2, 0⟩) (meth := k2m0) (c := k2c0) (by decide +kernel) rfl rfl rfl (by decide +kernel)
def codes1 : List Jvm.Cond := [Jvm.Cond.code x code maxLocals ret, Jvm.Cond.code ({ cls := "com/example/fieldtap/fieldtap/classic/ApplicationDirectoryCrcPinLaw", name := "times8", desc := "(I)I" } : Jvm.MethodName) method_2_code (2 : Nat) (Option.some Jvm.ClassFile.FieldType.int), Jvm.Cond.code ({ cls := "com/example/fieldtap/fieldtap/classic/ApplicationDirectory", name := "crc", desc := "([B)I" } : Jvm.MethodName) prog_15_method_4_code (4 : Nat) (Option.some Jvm.ClassFile.FieldType.int)]
set_option maxRecDepth 65536 in
theorem codes_eq : words1.filter isCode = codes1 := rfl
theorem w_codes : ∀ c ∈ words1.filter isCode, c.before args0 about1 = true := by
  rw [codes_eq]
  intro c hc
  simp only [codes1, List.mem_cons, List.not_mem_nil, or_false] at hc
  rcases hc with rfl | rfl | rfl
  · exact w_c0
  · exact w_c1
  · exact w_c2
set_option maxRecDepth 65536 in
theorem w_t1 : words1.all (fun c => isCode c || c.before args0 about1) = true := by decide +kernel
theorem w_tables : (allAtoms (Jvm.Cond.code x code maxLocals ret :: tables_1)).before args0 about1 = true := by
  rw [allAtoms_all]
  show words1.all (fun c => c.before args0 about1) = true
  refine all_split ?_ w_codes
  rw [w_t1]
set_option maxRecDepth 65536 in
theorem w_case : (Jvm.Cond.and given_1 narrow_1).before args0 about1 = true := by decide +kernel
theorem w_applies : (headSpec (Jvm.Cond.code x code maxLocals ret :: tables_1) room_1).applies x e0.platform about1 = true :=
  (Spec.applies_iff w_frames).mpr ⟨w_running, w_runnable, w_alone, w_named, w_hears, w_ripe, w_room, w_tables⟩
theorem atStart : AtStart classFile x code maxLocals ret World_1 tables_1 room_1 Calls_1 rest_1 Pre_1 launch0 p0 e0 about1 theMethod args0 below0 :=
  ⟨lists_1, trivial, launch0.admits_env _ _ _, launch0.least_env, fairChoices_fair.cas, fairChoices_fair.clock, w_frames, w_args, w_heap, w_applies, trivial, trivial, w_case⟩
end start1
theorem witness_1 : WitnessClaimed_1 := ⟨start1.p0, start1.e0, start1.about1, start1.theMethod, start1.args0, start1.below0, start1.atStart⟩
end Jvm.Pilot.@@N@@

import JvmDerived
import JvmDerived.Pilot.@@N@@Statement
import JvmDerived.Pilot.@@N@@Code
set_option linter.unusedVariables false
set_option linter.unusedSimpArgs false
namespace Jvm.Pilot.@@N@@
open Jvm Jvm.ClassFile Sem Op Lib Jvm.Free Jvm.Stand Jvm.LawKit Jvm.RoadKit Bundle Jvm.Pilot.@@N@@.Jvm.D
-- LAYER BEGIN
section OwnW
variable {l : Launch} {Z : State} {y : MethodName} {bytes : ByteArray} {ml : Nat} {ret : Option FieldType} {R : Room} {n0 : Nat} {Q : Option Value → Heap → Prop} {h : Heap} {cells slots pc pc' : Nat} {Ls Ls' : Array Slot} {st st' : List Value} {a0 : Array Value}
/-- from this point of the body (heap h, so many cells and slots made, at pc with these locals and this stack) every run returns; Q holds of the value and the heap; all that was written lies at or above n0 -/
def own_W (l : Launch) (Z : State) (y : MethodName) (bytes : ByteArray) (ml : Nat) (ret : Option FieldType) (R : Room) (n0 : Nat) (Q : Option Value → Heap → Prop) (h : Heap) (cells slots pc : Nat) (Ls : Array Slot) (st : List Value) : Prop :=
  ∀ (p : Program) (e : Env) (s : State) (m : MethodId) (args : Array Value) (below : List Frame) (meth : Method) (c : Code) (T : State) (locs : List Loc),
    p.tables.exec = Jvm.exec → Z.Warmed39 s.vm → s.vm.findClass y.cls = some m.cls → c.code = bytes → c.maxLocals = ml → meth.sig.returnType = ret → meth.locks = false → meth.name = y.name → cells ≤ R.cells → slots ≤ R.slots →
    Stand p l e R s m args below meth c T locs cells slots → T.heap = h → Fr n0 locs →
    ∃ s₂ o, Steps p.tables e below (T.setTop (mkF m pc Ls st)) s₂ ∧ s₂.status = .running ∧ Ended s₂ below o ∧ ∃ v L, o = .returned v ∧ (Q v s₂.heap ∧ Fr n0 L) ∧ FrameEnd s o s₂ L R.cells R.slots
theorem own_pure (hs : ∀ (p : Program) (e : Env) (below : List Frame) (T target : State) (m : MethodId) (c : Code), At T m c below → p.tables.exec = Jvm.exec → c.code = bytes → Steps p.tables e below (T.setTop (mkF m pc' Ls' st')) target → Steps p.tables e below (T.setTop (mkF m pc Ls st)) target)
    (k : own_W l Z y bytes ml ret R n0 Q h cells slots pc' Ls' st') : own_W l Z y bytes ml ret R n0 Q h cells slots pc Ls st := by
  intro p e s m args below meth c T locs hx hZ hown hby hml hret hlk hnm hce hsl X eT N
  obtain ⟨s₂, o, h1, h2⟩ := k p e s m args below meth c T locs hx hZ hown hby hml hret hlk hnm hce hsl X eT N
  exact ⟨s₂, o, hs p e below T s₂ m c X.here hx hby h1, h2⟩
theorem own_more {cells' slots' : Nat} (hc : cells ≤ cells') (hs : slots ≤ slots') (hc' : cells' ≤ R.cells) (hs' : slots' ≤ R.slots) (k : own_W l Z y bytes ml ret R n0 Q h cells' slots' pc Ls st) : own_W l Z y bytes ml ret R n0 Q h cells slots pc Ls st := by
  intro p e s m args below meth c T locs hx hZ hown hby hml hret hlk hnm hce hsl X eT N
  exact k p e s m args below meth c T locs hx hZ hown hby hml hret hlk hnm hc' hs' (X.more hc hs) eT N
theorem own_weak {Q' : Option Value → Heap → Prop} (hq : ∀ v h, Q' v h → Q v h) (k : own_W l Z y bytes ml ret R n0 Q' h cells slots pc Ls st) : own_W l Z y bytes ml ret R n0 Q h cells slots pc Ls st := by
  intro p e s m args below meth c T locs hx hZ hown hby hml hret hlk hnm hce hsl X eT N
  obtain ⟨s₂, o, h1, h2, h3, v, L, h4, ⟨h5, h6⟩, h7⟩ := k p e s m args below meth c T locs hx hZ hown hby hml hret hlk hnm hce hsl X eT N
  exact ⟨s₂, o, h1, h2, h3, v, L, h4, ⟨hq _ _ h5, h6⟩, h7⟩
theorem own_iloadN {i : Fin 4} {u : Int32} (hd : decode bytes pc = .ok (.iload_n i, 1)) (hp : pc + 1 = pc') (hl : Ls[i.val]? = some (.val (.int u))) (k : own_W l Z y bytes ml ret R n0 Q h cells slots pc' Ls (.int u :: st)) : own_W l Z y bytes ml ret R n0 Q h cells slots pc Ls (st) :=
  own_pure (fun p e below T t m c hA hx hb hr => by subst hp; exact XS.iloadN hA hx rfl (hb ▸ hd) hl hr) k
theorem own_iload {i : Nat} {u : Int32} (hd : decode bytes pc = .ok (.iload i, 2)) (hp : pc + 2 = pc') (hl : Ls[i]? = some (.val (.int u))) (k : own_W l Z y bytes ml ret R n0 Q h cells slots pc' Ls (.int u :: st)) : own_W l Z y bytes ml ret R n0 Q h cells slots pc Ls (st) :=
  own_pure (fun p e below T t m c hA hx hb hr => by subst hp; exact XS.iload hA hx rfl (hb ▸ hd) hl hr) k
theorem own_lloadN {i : Fin 4} {u : Int64} (hd : decode bytes pc = .ok (.lload_n i, 1)) (hp : pc + 1 = pc') (hl : Ls[i.val]? = some (.val (.long u))) (k : own_W l Z y bytes ml ret R n0 Q h cells slots pc' Ls (.long u :: st)) : own_W l Z y bytes ml ret R n0 Q h cells slots pc Ls (st) :=
  own_pure (fun p e below T t m c hA hx hb hr => by subst hp; exact XT.lloadN hA hx rfl (hb ▸ hd) hl hr) k
theorem own_lload {i : Nat} {u : Int64} (hd : decode bytes pc = .ok (.lload i, 2)) (hp : pc + 2 = pc') (hl : Ls[i]? = some (.val (.long u))) (k : own_W l Z y bytes ml ret R n0 Q h cells slots pc' Ls (.long u :: st)) : own_W l Z y bytes ml ret R n0 Q h cells slots pc Ls (st) :=
  own_pure (fun p e below T t m c hA hx hb hr => by subst hp; exact XT.lload hA hx rfl (hb ▸ hd) hl hr) k
theorem own_aloadN {i : Fin 4} {u : Addr} (hd : decode bytes pc = .ok (.aload_n i, 1)) (hp : pc + 1 = pc') (hl : Ls[i.val]? = some (.val (.ref u))) (k : own_W l Z y bytes ml ret R n0 Q h cells slots pc' Ls (.ref u :: st)) : own_W l Z y bytes ml ret R n0 Q h cells slots pc Ls (st) :=
  own_pure (fun p e below T t m c hA hx hb hr => by subst hp; exact XS.aloadN hA hx rfl (hb ▸ hd) hl rfl hr) k
theorem own_aload {i : Nat} {u : Addr} (hd : decode bytes pc = .ok (.aload i, 2)) (hp : pc + 2 = pc') (hl : Ls[i]? = some (.val (.ref u))) (k : own_W l Z y bytes ml ret R n0 Q h cells slots pc' Ls (.ref u :: st)) : own_W l Z y bytes ml ret R n0 Q h cells slots pc Ls (st) :=
  own_pure (fun p e below T t m c hA hx hb hr => by subst hp; exact XS.aload hA hx rfl (hb ▸ hd) hl rfl hr) k
theorem own_istoreN {i : Fin 4} {u : Int32} (hd : decode bytes pc = .ok (.istore_n i, 1)) (hp : pc + 1 = pc') (hl : storeLocals Ls i.val (.int u) = some Ls') (k : own_W l Z y bytes ml ret R n0 Q h cells slots pc' Ls' (st)) : own_W l Z y bytes ml ret R n0 Q h cells slots pc Ls (.int u :: st) :=
  own_pure (fun p e below T t m c hA hx hb hr => by subst hp; exact XS.istoreN hA hx rfl (hb ▸ hd) rfl hl hr) k
theorem own_istore {i : Nat} {u : Int32} (hd : decode bytes pc = .ok (.istore i, 2)) (hp : pc + 2 = pc') (hl : storeLocals Ls i (.int u) = some Ls') (k : own_W l Z y bytes ml ret R n0 Q h cells slots pc' Ls' (st)) : own_W l Z y bytes ml ret R n0 Q h cells slots pc Ls (.int u :: st) :=
  own_pure (fun p e below T t m c hA hx hb hr => by subst hp; exact XS.istore hA hx rfl (hb ▸ hd) rfl hl hr) k
theorem own_lstoreN {i : Fin 4} {u : Int64} (hd : decode bytes pc = .ok (.lstore_n i, 1)) (hp : pc + 1 = pc') (hl : storeLocals Ls i.val (.long u) = some Ls') (k : own_W l Z y bytes ml ret R n0 Q h cells slots pc' Ls' (st)) : own_W l Z y bytes ml ret R n0 Q h cells slots pc Ls (.long u :: st) :=
  own_pure (fun p e below T t m c hA hx hb hr => by subst hp; exact XT.lstoreN hA hx rfl (hb ▸ hd) rfl hl hr) k
theorem own_lstore {i : Nat} {u : Int64} (hd : decode bytes pc = .ok (.lstore i, 2)) (hp : pc + 2 = pc') (hl : storeLocals Ls i (.long u) = some Ls') (k : own_W l Z y bytes ml ret R n0 Q h cells slots pc' Ls' (st)) : own_W l Z y bytes ml ret R n0 Q h cells slots pc Ls (.long u :: st) :=
  own_pure (fun p e below T t m c hA hx hb hr => by subst hp; exact XT.lstore hA hx rfl (hb ▸ hd) rfl hl hr) k
theorem own_astoreN {i : Fin 4} {u : Addr} (hd : decode bytes pc = .ok (.astore_n i, 1)) (hp : pc + 1 = pc') (hl : storeLocals Ls i.val (.ref u) = some Ls') (k : own_W l Z y bytes ml ret R n0 Q h cells slots pc' Ls' (st)) : own_W l Z y bytes ml ret R n0 Q h cells slots pc Ls (.ref u :: st) :=
  own_pure (fun p e below T t m c hA hx hb hr => by subst hp; exact XS.astoreN hA hx rfl (hb ▸ hd) rfl rfl hl hr) k
theorem own_astore {i : Nat} {u : Addr} (hd : decode bytes pc = .ok (.astore i, 2)) (hp : pc + 2 = pc') (hl : storeLocals Ls i (.ref u) = some Ls') (k : own_W l Z y bytes ml ret R n0 Q h cells slots pc' Ls' (st)) : own_W l Z y bytes ml ret R n0 Q h cells slots pc Ls (.ref u :: st) :=
  own_pure (fun p e below T t m c hA hx hb hr => by subst hp; exact XS.astore hA hx rfl (hb ▸ hd) rfl rfl hl hr) k
theorem own_iinc {i : Nat} {cst : Int} {u w : Int32} (hd : decode bytes pc = .ok (.iinc i cst, 3)) (hp : pc + 3 = pc') (hv : Int32.ofInt cst = w) (hl : Ls[i]? = some (.val (.int u))) (hl' : storeLocals Ls i (.int (u + w)) = some Ls') (k : own_W l Z y bytes ml ret R n0 Q h cells slots pc' Ls' st) : own_W l Z y bytes ml ret R n0 Q h cells slots pc Ls st :=
  own_pure (fun p e below T t m c hA hx hb hr => by subst hp; exact XT.iincV hA hx rfl w (hb ▸ hd) hv hl hl' hr) k
theorem own_iconst {i : Int} (u : Int32) (hd : decode bytes pc = .ok (.iconst i, 1)) (hp : pc + 1 = pc') (hv : Int32.ofInt i = u) (k : own_W l Z y bytes ml ret R n0 Q h cells slots pc' Ls (.int u :: st)) : own_W l Z y bytes ml ret R n0 Q h cells slots pc Ls st :=
  own_pure (fun p e below T t m c hA hx hb hr => by subst hp; exact XT.iconstV hA hx rfl u (hb ▸ hd) hv hr) k
theorem own_bipush {i : Int} (u : Int32) (hd : decode bytes pc = .ok (.bipush i, 2)) (hp : pc + 2 = pc') (hv : (Int8.ofInt i).toInt32 = u) (k : own_W l Z y bytes ml ret R n0 Q h cells slots pc' Ls (.int u :: st)) : own_W l Z y bytes ml ret R n0 Q h cells slots pc Ls st :=
  own_pure (fun p e below T t m c hA hx hb hr => by subst hp; exact XT.bipushV hA hx rfl u (hb ▸ hd) hv hr) k
theorem own_sipush {i : Int} (u : Int32) (hd : decode bytes pc = .ok (.sipush i, 3)) (hp : pc + 3 = pc') (hv : (Int16.ofInt i).toInt32 = u) (k : own_W l Z y bytes ml ret R n0 Q h cells slots pc' Ls (.int u :: st)) : own_W l Z y bytes ml ret R n0 Q h cells slots pc Ls st :=
  own_pure (fun p e below T t m c hA hx hb hr => by subst hp; exact XT.sipushV hA hx rfl u (hb ▸ hd) hv hr) k
theorem own_lconst {i : Fin 2} (u : Int64) (hd : decode bytes pc = .ok (.lconst i, 1)) (hp : pc + 1 = pc') (hv : Int64.ofNat i = u) (k : own_W l Z y bytes ml ret R n0 Q h cells slots pc' Ls (.long u :: st)) : own_W l Z y bytes ml ret R n0 Q h cells slots pc Ls st :=
  own_pure (fun p e below T t m c hA hx hb hr => by subst hp; exact XT.lconstV hA hx rfl u (hb ▸ hd) hv hr) k
theorem own_aconstNull (hd : decode bytes pc = .ok (.aconst_null, 1)) (hp : pc + 1 = pc') (k : own_W l Z y bytes ml ret R n0 Q h cells slots pc' Ls (.null :: st)) : own_W l Z y bytes ml ret R n0 Q h cells slots pc Ls (st) :=
  own_pure (fun p e below T t m c hA hx hb hr => by subst hp; exact XS.aconstNull hA hx rfl (hb ▸ hd)  hr) k
theorem own_iadd {u w : Int32} (hd : decode bytes pc = .ok (.iadd, 1)) (hp : pc + 1 = pc') (k : own_W l Z y bytes ml ret R n0 Q h cells slots pc' Ls (.int (u + w) :: st)) : own_W l Z y bytes ml ret R n0 Q h cells slots pc Ls (.int w :: .int u :: st) :=
  own_pure (fun p e below T t m c hA hx hb hr => by subst hp; exact XS.iadd hA hx rfl (hb ▸ hd) rfl hr) k
theorem own_isub {u w : Int32} (hd : decode bytes pc = .ok (.isub, 1)) (hp : pc + 1 = pc') (k : own_W l Z y bytes ml ret R n0 Q h cells slots pc' Ls (.int (u - w) :: st)) : own_W l Z y bytes ml ret R n0 Q h cells slots pc Ls (.int w :: .int u :: st) :=
  own_pure (fun p e below T t m c hA hx hb hr => by subst hp; exact XS.isub hA hx rfl (hb ▸ hd) rfl hr) k
theorem own_imul {u w : Int32} (hd : decode bytes pc = .ok (.imul, 1)) (hp : pc + 1 = pc') (k : own_W l Z y bytes ml ret R n0 Q h cells slots pc' Ls (.int (u * w) :: st)) : own_W l Z y bytes ml ret R n0 Q h cells slots pc Ls (.int w :: .int u :: st) :=
  own_pure (fun p e below T t m c hA hx hb hr => by subst hp; exact XS.imul hA hx rfl (hb ▸ hd) rfl hr) k
theorem own_iand {u w : Int32} (hd : decode bytes pc = .ok (.iand, 1)) (hp : pc + 1 = pc') (k : own_W l Z y bytes ml ret R n0 Q h cells slots pc' Ls (.int (u &&& w) :: st)) : own_W l Z y bytes ml ret R n0 Q h cells slots pc Ls (.int w :: .int u :: st) :=
  own_pure (fun p e below T t m c hA hx hb hr => by subst hp; exact XS.iand hA hx rfl (hb ▸ hd) rfl hr) k
theorem own_ior {u w : Int32} (hd : decode bytes pc = .ok (.ior, 1)) (hp : pc + 1 = pc') (k : own_W l Z y bytes ml ret R n0 Q h cells slots pc' Ls (.int (u ||| w) :: st)) : own_W l Z y bytes ml ret R n0 Q h cells slots pc Ls (.int w :: .int u :: st) :=
  own_pure (fun p e below T t m c hA hx hb hr => by subst hp; exact XT.ior hA hx rfl (hb ▸ hd) rfl hr) k
theorem own_ixor {u w : Int32} (hd : decode bytes pc = .ok (.ixor, 1)) (hp : pc + 1 = pc') (k : own_W l Z y bytes ml ret R n0 Q h cells slots pc' Ls (.int (u ^^^ w) :: st)) : own_W l Z y bytes ml ret R n0 Q h cells slots pc Ls (.int w :: .int u :: st) :=
  own_pure (fun p e below T t m c hA hx hb hr => by subst hp; exact XT.ixor hA hx rfl (hb ▸ hd) rfl hr) k
theorem own_ishl {u w : Int32} (hd : decode bytes pc = .ok (.ishl, 1)) (hp : pc + 1 = pc') (k : own_W l Z y bytes ml ret R n0 Q h cells slots pc' Ls (.int (u <<< (w &&& 31)) :: st)) : own_W l Z y bytes ml ret R n0 Q h cells slots pc Ls (.int w :: .int u :: st) :=
  own_pure (fun p e below T t m c hA hx hb hr => by subst hp; exact XT.ishl hA hx rfl (hb ▸ hd) rfl hr) k
theorem own_ishr {u w : Int32} (hd : decode bytes pc = .ok (.ishr, 1)) (hp : pc + 1 = pc') (k : own_W l Z y bytes ml ret R n0 Q h cells slots pc' Ls (.int (u >>> (w &&& 31)) :: st)) : own_W l Z y bytes ml ret R n0 Q h cells slots pc Ls (.int w :: .int u :: st) :=
  own_pure (fun p e below T t m c hA hx hb hr => by subst hp; exact XT.ishr hA hx rfl (hb ▸ hd) rfl hr) k
theorem own_iushr {u w : Int32} (hd : decode bytes pc = .ok (.iushr, 1)) (hp : pc + 1 = pc') (k : own_W l Z y bytes ml ret R n0 Q h cells slots pc' Ls (.int (XT.ushr u w) :: st)) : own_W l Z y bytes ml ret R n0 Q h cells slots pc Ls (.int w :: .int u :: st) :=
  own_pure (fun p e below T t m c hA hx hb hr => by subst hp; exact XT.iushr hA hx rfl (hb ▸ hd) rfl hr) k
theorem own_idiv {u w : Int32} (hd : decode bytes pc = .ok (.idiv, 1)) (hp : pc + 1 = pc') (hw : w ≠ 0) (k : own_W l Z y bytes ml ret R n0 Q h cells slots pc' Ls (.int (u / w) :: st)) : own_W l Z y bytes ml ret R n0 Q h cells slots pc Ls (.int w :: .int u :: st) :=
  own_pure (fun p e below T t m c hA hx hb hr => by subst hp; exact XS.idiv hA hx rfl (hb ▸ hd) rfl hw hr) k
theorem own_irem {u w : Int32} (hd : decode bytes pc = .ok (.irem, 1)) (hp : pc + 1 = pc') (hw : w ≠ 0) (k : own_W l Z y bytes ml ret R n0 Q h cells slots pc' Ls (.int (u % w) :: st)) : own_W l Z y bytes ml ret R n0 Q h cells slots pc Ls (.int w :: .int u :: st) :=
  own_pure (fun p e below T t m c hA hx hb hr => by subst hp; exact XS.irem hA hx rfl (hb ▸ hd) rfl hw (by rw [irem_eq_mod u w]; exact hr)) k
theorem own_ineg {u : Int32} (hd : decode bytes pc = .ok (.ineg, 1)) (hp : pc + 1 = pc') (k : own_W l Z y bytes ml ret R n0 Q h cells slots pc' Ls (.int (-u) :: st)) : own_W l Z y bytes ml ret R n0 Q h cells slots pc Ls (.int u :: st) :=
  own_pure (fun p e below T t m c hA hx hb hr => by subst hp; exact XS.ineg hA hx rfl (hb ▸ hd) rfl hr) k
theorem own_ladd {u w : Int64} (hd : decode bytes pc = .ok (.ladd, 1)) (hp : pc + 1 = pc') (k : own_W l Z y bytes ml ret R n0 Q h cells slots pc' Ls (.long (u + w) :: st)) : own_W l Z y bytes ml ret R n0 Q h cells slots pc Ls (.long w :: .long u :: st) :=
  own_pure (fun p e below T t m c hA hx hb hr => by subst hp; exact XT.ladd hA hx rfl (hb ▸ hd) rfl hr) k
theorem own_lsub {u w : Int64} (hd : decode bytes pc = .ok (.lsub, 1)) (hp : pc + 1 = pc') (k : own_W l Z y bytes ml ret R n0 Q h cells slots pc' Ls (.long (u - w) :: st)) : own_W l Z y bytes ml ret R n0 Q h cells slots pc Ls (.long w :: .long u :: st) :=
  own_pure (fun p e below T t m c hA hx hb hr => by subst hp; exact XT.lsub hA hx rfl (hb ▸ hd) rfl hr) k
theorem own_lmul {u w : Int64} (hd : decode bytes pc = .ok (.lmul, 1)) (hp : pc + 1 = pc') (k : own_W l Z y bytes ml ret R n0 Q h cells slots pc' Ls (.long (u * w) :: st)) : own_W l Z y bytes ml ret R n0 Q h cells slots pc Ls (.long w :: .long u :: st) :=
  own_pure (fun p e below T t m c hA hx hb hr => by subst hp; exact XT.lmul hA hx rfl (hb ▸ hd) rfl hr) k
theorem own_land {u w : Int64} (hd : decode bytes pc = .ok (.land, 1)) (hp : pc + 1 = pc') (k : own_W l Z y bytes ml ret R n0 Q h cells slots pc' Ls (.long (u &&& w) :: st)) : own_W l Z y bytes ml ret R n0 Q h cells slots pc Ls (.long w :: .long u :: st) :=
  own_pure (fun p e below T t m c hA hx hb hr => by subst hp; exact XT.land hA hx rfl (hb ▸ hd) rfl hr) k
theorem own_lor {u w : Int64} (hd : decode bytes pc = .ok (.lor, 1)) (hp : pc + 1 = pc') (k : own_W l Z y bytes ml ret R n0 Q h cells slots pc' Ls (.long (u ||| w) :: st)) : own_W l Z y bytes ml ret R n0 Q h cells slots pc Ls (.long w :: .long u :: st) :=
  own_pure (fun p e below T t m c hA hx hb hr => by subst hp; exact XT.lor hA hx rfl (hb ▸ hd) rfl hr) k
theorem own_lxor {u w : Int64} (hd : decode bytes pc = .ok (.lxor, 1)) (hp : pc + 1 = pc') (k : own_W l Z y bytes ml ret R n0 Q h cells slots pc' Ls (.long (u ^^^ w) :: st)) : own_W l Z y bytes ml ret R n0 Q h cells slots pc Ls (.long w :: .long u :: st) :=
  own_pure (fun p e below T t m c hA hx hb hr => by subst hp; exact XT.lxor hA hx rfl (hb ▸ hd) rfl hr) k
theorem own_lrem {u w : Int64} (hd : decode bytes pc = .ok (.lrem, 1)) (hp : pc + 1 = pc') (hw : w ≠ 0) (k : own_W l Z y bytes ml ret R n0 Q h cells slots pc' Ls (.long (u % w) :: st)) : own_W l Z y bytes ml ret R n0 Q h cells slots pc Ls (.long w :: .long u :: st) :=
  own_pure (fun p e below T t m c hA hx hb hr => by subst hp; exact XT.lrem hA hx rfl (hb ▸ hd) rfl hw (by rw [lrem_mod u w]; exact hr)) k
theorem own_lshl {u : Int64} {w : Int32} (hd : decode bytes pc = .ok (.lshl, 1)) (hp : pc + 1 = pc') (k : own_W l Z y bytes ml ret R n0 Q h cells slots pc' Ls (.long (u <<< (w.toInt64 &&& 63)) :: st)) : own_W l Z y bytes ml ret R n0 Q h cells slots pc Ls (.int w :: .long u :: st) :=
  own_pure (fun p e below T t m c hA hx hb hr => by subst hp; exact XT.lshl hA hx rfl (hb ▸ hd) rfl hr) k
theorem own_lshr {u : Int64} {w : Int32} (hd : decode bytes pc = .ok (.lshr, 1)) (hp : pc + 1 = pc') (k : own_W l Z y bytes ml ret R n0 Q h cells slots pc' Ls (.long (u >>> (w.toInt64 &&& 63)) :: st)) : own_W l Z y bytes ml ret R n0 Q h cells slots pc Ls (.int w :: .long u :: st) :=
  own_pure (fun p e below T t m c hA hx hb hr => by subst hp; exact XT.lshr hA hx rfl (hb ▸ hd) rfl hr) k
theorem own_lushr {u : Int64} {w : Int32} (hd : decode bytes pc = .ok (.lushr, 1)) (hp : pc + 1 = pc') (k : own_W l Z y bytes ml ret R n0 Q h cells slots pc' Ls (.long (XT.ushrL u w) :: st)) : own_W l Z y bytes ml ret R n0 Q h cells slots pc Ls (.int w :: .long u :: st) :=
  own_pure (fun p e below T t m c hA hx hb hr => by subst hp; exact XT.lushr hA hx rfl (hb ▸ hd) rfl hr) k
theorem own_i2l {u : Int32} (hd : decode bytes pc = .ok (.i2l, 1)) (hp : pc + 1 = pc') (k : own_W l Z y bytes ml ret R n0 Q h cells slots pc' Ls (.long u.toInt64 :: st)) : own_W l Z y bytes ml ret R n0 Q h cells slots pc Ls (.int u :: st) :=
  own_pure (fun p e below T t m c hA hx hb hr => by subst hp; exact XT.i2l hA hx rfl (hb ▸ hd) rfl hr) k
theorem own_l2i {u : Int64} (hd : decode bytes pc = .ok (.l2i, 1)) (hp : pc + 1 = pc') (k : own_W l Z y bytes ml ret R n0 Q h cells slots pc' Ls (.int u.toInt32 :: st)) : own_W l Z y bytes ml ret R n0 Q h cells slots pc Ls (.long u :: st) :=
  own_pure (fun p e below T t m c hA hx hb hr => by subst hp; exact XT.l2i hA hx rfl (hb ▸ hd) rfl hr) k
theorem own_i2b {u : Int32} (hd : decode bytes pc = .ok (.i2b, 1)) (hp : pc + 1 = pc') (k : own_W l Z y bytes ml ret R n0 Q h cells slots pc' Ls (.int u.toInt8.toInt32 :: st)) : own_W l Z y bytes ml ret R n0 Q h cells slots pc Ls (.int u :: st) :=
  own_pure (fun p e below T t m c hA hx hb hr => by subst hp; exact XT.i2b hA hx rfl (hb ▸ hd) rfl hr) k
theorem own_i2c {u : Int32} (hd : decode bytes pc = .ok (.i2c, 1)) (hp : pc + 1 = pc') (k : own_W l Z y bytes ml ret R n0 Q h cells slots pc' Ls (.int u.toUInt32.toUInt16.toUInt32.toInt32 :: st)) : own_W l Z y bytes ml ret R n0 Q h cells slots pc Ls (.int u :: st) :=
  own_pure (fun p e below T t m c hA hx hb hr => by subst hp; exact XT.i2c hA hx rfl (hb ▸ hd) rfl hr) k
theorem own_lcmp {u w : Int64} (hd : decode bytes pc = .ok (.lcmp, 1)) (hp : pc + 1 = pc') (k : own_W l Z y bytes ml ret R n0 Q h cells slots pc' Ls (.int (XT.cmpL u w) :: st)) : own_W l Z y bytes ml ret R n0 Q h cells slots pc Ls (.long w :: .long u :: st) :=
  own_pure (fun p e below T t m c hA hx hb hr => by subst hp; exact XT.lcmp hA hx rfl (hb ▸ hd) rfl hr) k
theorem own_dup {u : Value} (hd : decode bytes pc = .ok (.dup, 1)) (hp : pc + 1 = pc') (hc : u.category = 1) (k : own_W l Z y bytes ml ret R n0 Q h cells slots pc' Ls (u :: u :: st)) : own_W l Z y bytes ml ret R n0 Q h cells slots pc Ls (u :: st) :=
  own_pure (fun p e below T t m c hA hx hb hr => by subst hp; exact XS.dup hA hx rfl (hb ▸ hd) rfl hc hr) k
theorem own_pop {u : Value} (hd : decode bytes pc = .ok (.pop, 1)) (hp : pc + 1 = pc') (hc : u.category = 1) (k : own_W l Z y bytes ml ret R n0 Q h cells slots pc' Ls (st)) : own_W l Z y bytes ml ret R n0 Q h cells slots pc Ls (u :: st) :=
  own_pure (fun p e below T t m c hA hx hb hr => by subst hp; exact XT.pop hA hx rfl (hb ▸ hd) rfl hc hr) k
theorem own_dupX1 {u w : Value} (hd : decode bytes pc = .ok (.dup_x1, 1)) (hp : pc + 1 = pc') (hc : u.category = 1) (hc' : w.category = 1) (k : own_W l Z y bytes ml ret R n0 Q h cells slots pc' Ls (u :: w :: u :: st)) : own_W l Z y bytes ml ret R n0 Q h cells slots pc Ls (u :: w :: st) :=
  own_pure (fun p e below T t m c hA hx hb hr => by subst hp; exact XT.dupX1 hA hx rfl (hb ▸ hd) rfl hc hc' hr) k
theorem own_dup2 {u w : Value} (hd : decode bytes pc = .ok (.dup2, 1)) (hp : pc + 1 = pc') (hc : u.category = 1) (hc' : w.category = 1) (k : own_W l Z y bytes ml ret R n0 Q h cells slots pc' Ls (u :: w :: u :: w :: st)) : own_W l Z y bytes ml ret R n0 Q h cells slots pc Ls (u :: w :: st) :=
  own_pure (fun p e below T t m c hA hx hb hr => by subst hp; exact XT.dup2 hA hx rfl (hb ▸ hd) rfl hc hc' hr) k
theorem own_dup2L {u : Int64} (hd : decode bytes pc = .ok (.dup2, 1)) (hp : pc + 1 = pc') (k : own_W l Z y bytes ml ret R n0 Q h cells slots pc' Ls (.long u :: .long u :: st)) : own_W l Z y bytes ml ret R n0 Q h cells slots pc Ls (.long u :: st) :=
  own_pure (fun p e below T t m c hA hx hb hr => by subst hp; exact XT.dup2L hA hx rfl (hb ▸ hd) rfl hr) k
theorem own_pop2step {tb : Tables} [Ours tb] {e : Env} {below : List Frame} {T target : State} {m : MethodId} {c : Code} {g : JFrame} (h : At T m c below) (hx : tb.exec = Jvm.exec) (hg : g.method = m) {u : Int64} {rest : List Value} (hd : decode c.code g.pc = .ok (.pop2, 1)) (hs : g.stack = .long u :: rest)
    (hr : Steps tb e below (T.setTop { g with pc := g.pc + 1, stack := rest }) target) : Steps tb e below (T.setTop g) target := by
  subst hg
  jvm_step h [h.top, hx, hd, hs, pop2.wp_sem, Value.category]
  exact hr
theorem own_pop2L {u : Int64} (hd : decode bytes pc = .ok (.pop2, 1)) (hp : pc + 1 = pc') (k : own_W l Z y bytes ml ret R n0 Q h cells slots pc' Ls (st)) : own_W l Z y bytes ml ret R n0 Q h cells slots pc Ls (.long u :: st) :=
  own_pure (fun p e below T t m c hA hx hb hr => by subst hp; exact own_pop2step hA hx rfl (hb ▸ hd) rfl hr) k
theorem own_dupX2step {tb : Tables} [Ours tb] {e : Env} {below : List Frame} {T target : State} {m : MethodId} {c : Code} {g : JFrame} (h : At T m c below) (hx : tb.exec = Jvm.exec) (hg : g.method = m) {x y z : Value} {rest : List Value} (hd : decode c.code g.pc = .ok (.dup_x2, 1)) (hs : g.stack = x :: y :: z :: rest) (hc : x.category = 1) (hc' : y.category = 1) (hc'' : z.category = 1)
    (hr : Steps tb e below (T.setTop { g with pc := g.pc + 1, stack := x :: y :: z :: x :: rest }) target) : Steps tb e below (T.setTop g) target := by
  subst hg
  jvm_step h [h.top, hx, hd, hs, dup_x2.wp_sem, hc, hc', hc'']
  exact hr
theorem own_dupX2 {u w x : Value} (hd : decode bytes pc = .ok (.dup_x2, 1)) (hp : pc + 1 = pc') (hc : u.category = 1) (hc' : w.category = 1) (hc'' : x.category = 1) (k : own_W l Z y bytes ml ret R n0 Q h cells slots pc' Ls (u :: w :: x :: u :: st)) : own_W l Z y bytes ml ret R n0 Q h cells slots pc Ls (u :: w :: x :: st) :=
  own_pure (fun p e below T t m c hA hx hb hr => by subst hp; exact own_dupX2step hA hx rfl (hb ▸ hd) rfl hc hc' hc'' hr) k
theorem own_goto {o : Int} (hd : decode bytes pc = .ok (.goto o, 3)) (ho : 0 ≤ (pc : Int) + o) (hp : ((pc : Int) + o).toNat = pc') (k : own_W l Z y bytes ml ret R n0 Q h cells slots pc' Ls st) : own_W l Z y bytes ml ret R n0 Q h cells slots pc Ls st :=
  own_pure (fun p e below T t m c hA hx hb hr => XS.goto hA hx rfl rfl (hb ▸ hd) ho hp hr) k
theorem own_if_eq_t {u : Int32} {o : Int} (hd : decode bytes pc = .ok (.ifCond .eq o, 3)) (hc : u = 0) (ho : 0 ≤ (pc : Int) + o) (hp : ((pc : Int) + o).toNat = pc') (k : own_W l Z y bytes ml ret R n0 Q h cells slots pc' Ls st) : own_W l Z y bytes ml ret R n0 Q h cells slots pc Ls (.int u :: st) :=
  own_pure (fun p e below T t m c hA hx hb hr => XS.ifYes hA hx rfl rfl (hb ▸ hd) rfl (XT.i0_eq_t hc) ho hp hr) k
theorem own_if_eq_f {u : Int32} {o : Int} (hd : decode bytes pc = .ok (.ifCond .eq o, 3)) (hc : ¬ u = 0) (hp : pc + 3 = pc') (k : own_W l Z y bytes ml ret R n0 Q h cells slots pc' Ls st) : own_W l Z y bytes ml ret R n0 Q h cells slots pc Ls (.int u :: st) :=
  own_pure (fun p e below T t m c hA hx hb hr => by subst hp; exact XS.ifNo hA hx rfl (hb ▸ hd) rfl (XT.i0_eq_f hc) hr) k
theorem own_if_eq {u : Int32} {o : Int} {pf : Nat} (hd : decode bytes pc = .ok (.ifCond .eq o, 3)) (ho : 0 ≤ (pc : Int) + o) (hp : ((pc : Int) + o).toNat = pc') (hq : pc + 3 = pf) (kt : u = 0 → own_W l Z y bytes ml ret R n0 Q h cells slots pc' Ls st) (kf : ¬ u = 0 → own_W l Z y bytes ml ret R n0 Q h cells slots pf Ls st) : own_W l Z y bytes ml ret R n0 Q h cells slots pc Ls (.int u :: st) := by
  by_cases hc : u = 0
  · exact own_if_eq_t hd hc ho hp (kt hc)
  · exact own_if_eq_f hd (by first | exact hc | exact Decidable.not_not.mp hc) hq (kf (by first | exact hc | exact Decidable.not_not.mp hc))
theorem own_ic_eq_t {u w : Int32} {o : Int} (hd : decode bytes pc = .ok (.if_icmp .eq o, 3)) (hc : u = w) (ho : 0 ≤ (pc : Int) + o) (hp : ((pc : Int) + o).toNat = pc') (k : own_W l Z y bytes ml ret R n0 Q h cells slots pc' Ls st) : own_W l Z y bytes ml ret R n0 Q h cells slots pc Ls (.int w :: .int u :: st) :=
  own_pure (fun p e below T t m c hA hx hb hr => XS.icmpYes hA hx rfl rfl (hb ▸ hd) rfl (XT.ii_eq_t hc) ho hp hr) k
theorem own_ic_eq_f {u w : Int32} {o : Int} (hd : decode bytes pc = .ok (.if_icmp .eq o, 3)) (hc : ¬ u = w) (hp : pc + 3 = pc') (k : own_W l Z y bytes ml ret R n0 Q h cells slots pc' Ls st) : own_W l Z y bytes ml ret R n0 Q h cells slots pc Ls (.int w :: .int u :: st) :=
  own_pure (fun p e below T t m c hA hx hb hr => by subst hp; exact XS.icmpNo hA hx rfl (hb ▸ hd) rfl (XT.ii_eq_f hc) hr) k
theorem own_ic_eq {u w : Int32} {o : Int} {pf : Nat} (hd : decode bytes pc = .ok (.if_icmp .eq o, 3)) (ho : 0 ≤ (pc : Int) + o) (hp : ((pc : Int) + o).toNat = pc') (hq : pc + 3 = pf) (kt : u = w → own_W l Z y bytes ml ret R n0 Q h cells slots pc' Ls st) (kf : ¬ u = w → own_W l Z y bytes ml ret R n0 Q h cells slots pf Ls st) : own_W l Z y bytes ml ret R n0 Q h cells slots pc Ls (.int w :: .int u :: st) := by
  by_cases hc : u = w
  · exact own_ic_eq_t hd hc ho hp (kt hc)
  · exact own_ic_eq_f hd (by first | exact hc | exact Decidable.not_not.mp hc) hq (kf (by first | exact hc | exact Decidable.not_not.mp hc))
theorem own_il_eq_t {u w : Int64} {o : Int} (hd : decode bytes pc = .ok (.ifCond .eq o, 3)) (hc : u = w) (ho : 0 ≤ (pc : Int) + o) (hp : ((pc : Int) + o).toNat = pc') (k : own_W l Z y bytes ml ret R n0 Q h cells slots pc' Ls st) : own_W l Z y bytes ml ret R n0 Q h cells slots pc Ls (.int (XT.cmpL u w) :: st) :=
  own_pure (fun p e below T t m c hA hx hb hr => XS.ifYes hA hx rfl rfl (hb ▸ hd) rfl (XT.ll_eq_t hc) ho hp hr) k
theorem own_il_eq_f {u w : Int64} {o : Int} (hd : decode bytes pc = .ok (.ifCond .eq o, 3)) (hc : ¬ u = w) (hp : pc + 3 = pc') (k : own_W l Z y bytes ml ret R n0 Q h cells slots pc' Ls st) : own_W l Z y bytes ml ret R n0 Q h cells slots pc Ls (.int (XT.cmpL u w) :: st) :=
  own_pure (fun p e below T t m c hA hx hb hr => by subst hp; exact XS.ifNo hA hx rfl (hb ▸ hd) rfl (XT.ll_eq_f hc) hr) k
theorem own_il_eq {u w : Int64} {o : Int} {pf : Nat} (hd : decode bytes pc = .ok (.ifCond .eq o, 3)) (ho : 0 ≤ (pc : Int) + o) (hp : ((pc : Int) + o).toNat = pc') (hq : pc + 3 = pf) (kt : u = w → own_W l Z y bytes ml ret R n0 Q h cells slots pc' Ls st) (kf : ¬ u = w → own_W l Z y bytes ml ret R n0 Q h cells slots pf Ls st) : own_W l Z y bytes ml ret R n0 Q h cells slots pc Ls (.int (XT.cmpL u w) :: st) := by
  by_cases hc : u = w
  · exact own_il_eq_t hd hc ho hp (kt hc)
  · exact own_il_eq_f hd (by first | exact hc | exact Decidable.not_not.mp hc) hq (kf (by first | exact hc | exact Decidable.not_not.mp hc))
theorem own_if_ne_t {u : Int32} {o : Int} (hd : decode bytes pc = .ok (.ifCond .ne o, 3)) (hc : ¬ u = 0) (ho : 0 ≤ (pc : Int) + o) (hp : ((pc : Int) + o).toNat = pc') (k : own_W l Z y bytes ml ret R n0 Q h cells slots pc' Ls st) : own_W l Z y bytes ml ret R n0 Q h cells slots pc Ls (.int u :: st) :=
  own_pure (fun p e below T t m c hA hx hb hr => XS.ifYes hA hx rfl rfl (hb ▸ hd) rfl (XT.i0_ne_t hc) ho hp hr) k
theorem own_if_ne_f {u : Int32} {o : Int} (hd : decode bytes pc = .ok (.ifCond .ne o, 3)) (hc : u = 0) (hp : pc + 3 = pc') (k : own_W l Z y bytes ml ret R n0 Q h cells slots pc' Ls st) : own_W l Z y bytes ml ret R n0 Q h cells slots pc Ls (.int u :: st) :=
  own_pure (fun p e below T t m c hA hx hb hr => by subst hp; exact XS.ifNo hA hx rfl (hb ▸ hd) rfl (XT.i0_ne_f hc) hr) k
theorem own_if_ne {u : Int32} {o : Int} {pf : Nat} (hd : decode bytes pc = .ok (.ifCond .ne o, 3)) (ho : 0 ≤ (pc : Int) + o) (hp : ((pc : Int) + o).toNat = pc') (hq : pc + 3 = pf) (kt : ¬ u = 0 → own_W l Z y bytes ml ret R n0 Q h cells slots pc' Ls st) (kf : u = 0 → own_W l Z y bytes ml ret R n0 Q h cells slots pf Ls st) : own_W l Z y bytes ml ret R n0 Q h cells slots pc Ls (.int u :: st) := by
  by_cases hc : ¬ u = 0
  · exact own_if_ne_t hd hc ho hp (kt hc)
  · exact own_if_ne_f hd (by first | exact hc | exact Decidable.not_not.mp hc) hq (kf (by first | exact hc | exact Decidable.not_not.mp hc))
theorem own_ic_ne_t {u w : Int32} {o : Int} (hd : decode bytes pc = .ok (.if_icmp .ne o, 3)) (hc : ¬ u = w) (ho : 0 ≤ (pc : Int) + o) (hp : ((pc : Int) + o).toNat = pc') (k : own_W l Z y bytes ml ret R n0 Q h cells slots pc' Ls st) : own_W l Z y bytes ml ret R n0 Q h cells slots pc Ls (.int w :: .int u :: st) :=
  own_pure (fun p e below T t m c hA hx hb hr => XS.icmpYes hA hx rfl rfl (hb ▸ hd) rfl (XT.ii_ne_t hc) ho hp hr) k
theorem own_ic_ne_f {u w : Int32} {o : Int} (hd : decode bytes pc = .ok (.if_icmp .ne o, 3)) (hc : u = w) (hp : pc + 3 = pc') (k : own_W l Z y bytes ml ret R n0 Q h cells slots pc' Ls st) : own_W l Z y bytes ml ret R n0 Q h cells slots pc Ls (.int w :: .int u :: st) :=
  own_pure (fun p e below T t m c hA hx hb hr => by subst hp; exact XS.icmpNo hA hx rfl (hb ▸ hd) rfl (XT.ii_ne_f hc) hr) k
theorem own_ic_ne {u w : Int32} {o : Int} {pf : Nat} (hd : decode bytes pc = .ok (.if_icmp .ne o, 3)) (ho : 0 ≤ (pc : Int) + o) (hp : ((pc : Int) + o).toNat = pc') (hq : pc + 3 = pf) (kt : ¬ u = w → own_W l Z y bytes ml ret R n0 Q h cells slots pc' Ls st) (kf : u = w → own_W l Z y bytes ml ret R n0 Q h cells slots pf Ls st) : own_W l Z y bytes ml ret R n0 Q h cells slots pc Ls (.int w :: .int u :: st) := by
  by_cases hc : ¬ u = w
  · exact own_ic_ne_t hd hc ho hp (kt hc)
  · exact own_ic_ne_f hd (by first | exact hc | exact Decidable.not_not.mp hc) hq (kf (by first | exact hc | exact Decidable.not_not.mp hc))
theorem own_il_ne_t {u w : Int64} {o : Int} (hd : decode bytes pc = .ok (.ifCond .ne o, 3)) (hc : ¬ u = w) (ho : 0 ≤ (pc : Int) + o) (hp : ((pc : Int) + o).toNat = pc') (k : own_W l Z y bytes ml ret R n0 Q h cells slots pc' Ls st) : own_W l Z y bytes ml ret R n0 Q h cells slots pc Ls (.int (XT.cmpL u w) :: st) :=
  own_pure (fun p e below T t m c hA hx hb hr => XS.ifYes hA hx rfl rfl (hb ▸ hd) rfl (XT.ll_ne_t hc) ho hp hr) k
theorem own_il_ne_f {u w : Int64} {o : Int} (hd : decode bytes pc = .ok (.ifCond .ne o, 3)) (hc : u = w) (hp : pc + 3 = pc') (k : own_W l Z y bytes ml ret R n0 Q h cells slots pc' Ls st) : own_W l Z y bytes ml ret R n0 Q h cells slots pc Ls (.int (XT.cmpL u w) :: st) :=
  own_pure (fun p e below T t m c hA hx hb hr => by subst hp; exact XS.ifNo hA hx rfl (hb ▸ hd) rfl (XT.ll_ne_f hc) hr) k
theorem own_il_ne {u w : Int64} {o : Int} {pf : Nat} (hd : decode bytes pc = .ok (.ifCond .ne o, 3)) (ho : 0 ≤ (pc : Int) + o) (hp : ((pc : Int) + o).toNat = pc') (hq : pc + 3 = pf) (kt : ¬ u = w → own_W l Z y bytes ml ret R n0 Q h cells slots pc' Ls st) (kf : u = w → own_W l Z y bytes ml ret R n0 Q h cells slots pf Ls st) : own_W l Z y bytes ml ret R n0 Q h cells slots pc Ls (.int (XT.cmpL u w) :: st) := by
  by_cases hc : ¬ u = w
  · exact own_il_ne_t hd hc ho hp (kt hc)
  · exact own_il_ne_f hd (by first | exact hc | exact Decidable.not_not.mp hc) hq (kf (by first | exact hc | exact Decidable.not_not.mp hc))
theorem own_if_lt_t {u : Int32} {o : Int} (hd : decode bytes pc = .ok (.ifCond .lt o, 3)) (hc : u < 0) (ho : 0 ≤ (pc : Int) + o) (hp : ((pc : Int) + o).toNat = pc') (k : own_W l Z y bytes ml ret R n0 Q h cells slots pc' Ls st) : own_W l Z y bytes ml ret R n0 Q h cells slots pc Ls (.int u :: st) :=
  own_pure (fun p e below T t m c hA hx hb hr => XS.ifYes hA hx rfl rfl (hb ▸ hd) rfl (XT.i0_lt_t hc) ho hp hr) k
theorem own_if_lt_f {u : Int32} {o : Int} (hd : decode bytes pc = .ok (.ifCond .lt o, 3)) (hc : ¬ u < 0) (hp : pc + 3 = pc') (k : own_W l Z y bytes ml ret R n0 Q h cells slots pc' Ls st) : own_W l Z y bytes ml ret R n0 Q h cells slots pc Ls (.int u :: st) :=
  own_pure (fun p e below T t m c hA hx hb hr => by subst hp; exact XS.ifNo hA hx rfl (hb ▸ hd) rfl (XT.i0_lt_f hc) hr) k
theorem own_if_lt {u : Int32} {o : Int} {pf : Nat} (hd : decode bytes pc = .ok (.ifCond .lt o, 3)) (ho : 0 ≤ (pc : Int) + o) (hp : ((pc : Int) + o).toNat = pc') (hq : pc + 3 = pf) (kt : u < 0 → own_W l Z y bytes ml ret R n0 Q h cells slots pc' Ls st) (kf : ¬ u < 0 → own_W l Z y bytes ml ret R n0 Q h cells slots pf Ls st) : own_W l Z y bytes ml ret R n0 Q h cells slots pc Ls (.int u :: st) := by
  by_cases hc : u < 0
  · exact own_if_lt_t hd hc ho hp (kt hc)
  · exact own_if_lt_f hd (by first | exact hc | exact Decidable.not_not.mp hc) hq (kf (by first | exact hc | exact Decidable.not_not.mp hc))
theorem own_ic_lt_t {u w : Int32} {o : Int} (hd : decode bytes pc = .ok (.if_icmp .lt o, 3)) (hc : u < w) (ho : 0 ≤ (pc : Int) + o) (hp : ((pc : Int) + o).toNat = pc') (k : own_W l Z y bytes ml ret R n0 Q h cells slots pc' Ls st) : own_W l Z y bytes ml ret R n0 Q h cells slots pc Ls (.int w :: .int u :: st) :=
  own_pure (fun p e below T t m c hA hx hb hr => XS.icmpYes hA hx rfl rfl (hb ▸ hd) rfl (XT.ii_lt_t hc) ho hp hr) k
theorem own_ic_lt_f {u w : Int32} {o : Int} (hd : decode bytes pc = .ok (.if_icmp .lt o, 3)) (hc : ¬ u < w) (hp : pc + 3 = pc') (k : own_W l Z y bytes ml ret R n0 Q h cells slots pc' Ls st) : own_W l Z y bytes ml ret R n0 Q h cells slots pc Ls (.int w :: .int u :: st) :=
  own_pure (fun p e below T t m c hA hx hb hr => by subst hp; exact XS.icmpNo hA hx rfl (hb ▸ hd) rfl (XT.ii_lt_f hc) hr) k
theorem own_ic_lt {u w : Int32} {o : Int} {pf : Nat} (hd : decode bytes pc = .ok (.if_icmp .lt o, 3)) (ho : 0 ≤ (pc : Int) + o) (hp : ((pc : Int) + o).toNat = pc') (hq : pc + 3 = pf) (kt : u < w → own_W l Z y bytes ml ret R n0 Q h cells slots pc' Ls st) (kf : ¬ u < w → own_W l Z y bytes ml ret R n0 Q h cells slots pf Ls st) : own_W l Z y bytes ml ret R n0 Q h cells slots pc Ls (.int w :: .int u :: st) := by
  by_cases hc : u < w
  · exact own_ic_lt_t hd hc ho hp (kt hc)
  · exact own_ic_lt_f hd (by first | exact hc | exact Decidable.not_not.mp hc) hq (kf (by first | exact hc | exact Decidable.not_not.mp hc))
theorem own_il_lt_t {u w : Int64} {o : Int} (hd : decode bytes pc = .ok (.ifCond .lt o, 3)) (hc : u < w) (ho : 0 ≤ (pc : Int) + o) (hp : ((pc : Int) + o).toNat = pc') (k : own_W l Z y bytes ml ret R n0 Q h cells slots pc' Ls st) : own_W l Z y bytes ml ret R n0 Q h cells slots pc Ls (.int (XT.cmpL u w) :: st) :=
  own_pure (fun p e below T t m c hA hx hb hr => XS.ifYes hA hx rfl rfl (hb ▸ hd) rfl (XT.ll_lt_t hc) ho hp hr) k
theorem own_il_lt_f {u w : Int64} {o : Int} (hd : decode bytes pc = .ok (.ifCond .lt o, 3)) (hc : ¬ u < w) (hp : pc + 3 = pc') (k : own_W l Z y bytes ml ret R n0 Q h cells slots pc' Ls st) : own_W l Z y bytes ml ret R n0 Q h cells slots pc Ls (.int (XT.cmpL u w) :: st) :=
  own_pure (fun p e below T t m c hA hx hb hr => by subst hp; exact XS.ifNo hA hx rfl (hb ▸ hd) rfl (XT.ll_lt_f hc) hr) k
theorem own_il_lt {u w : Int64} {o : Int} {pf : Nat} (hd : decode bytes pc = .ok (.ifCond .lt o, 3)) (ho : 0 ≤ (pc : Int) + o) (hp : ((pc : Int) + o).toNat = pc') (hq : pc + 3 = pf) (kt : u < w → own_W l Z y bytes ml ret R n0 Q h cells slots pc' Ls st) (kf : ¬ u < w → own_W l Z y bytes ml ret R n0 Q h cells slots pf Ls st) : own_W l Z y bytes ml ret R n0 Q h cells slots pc Ls (.int (XT.cmpL u w) :: st) := by
  by_cases hc : u < w
  · exact own_il_lt_t hd hc ho hp (kt hc)
  · exact own_il_lt_f hd (by first | exact hc | exact Decidable.not_not.mp hc) hq (kf (by first | exact hc | exact Decidable.not_not.mp hc))
theorem own_if_ge_t {u : Int32} {o : Int} (hd : decode bytes pc = .ok (.ifCond .ge o, 3)) (hc : ¬ u < 0) (ho : 0 ≤ (pc : Int) + o) (hp : ((pc : Int) + o).toNat = pc') (k : own_W l Z y bytes ml ret R n0 Q h cells slots pc' Ls st) : own_W l Z y bytes ml ret R n0 Q h cells slots pc Ls (.int u :: st) :=
  own_pure (fun p e below T t m c hA hx hb hr => XS.ifYes hA hx rfl rfl (hb ▸ hd) rfl (XT.i0_ge_t hc) ho hp hr) k
theorem own_if_ge_f {u : Int32} {o : Int} (hd : decode bytes pc = .ok (.ifCond .ge o, 3)) (hc : u < 0) (hp : pc + 3 = pc') (k : own_W l Z y bytes ml ret R n0 Q h cells slots pc' Ls st) : own_W l Z y bytes ml ret R n0 Q h cells slots pc Ls (.int u :: st) :=
  own_pure (fun p e below T t m c hA hx hb hr => by subst hp; exact XS.ifNo hA hx rfl (hb ▸ hd) rfl (XT.i0_ge_f hc) hr) k
theorem own_if_ge {u : Int32} {o : Int} {pf : Nat} (hd : decode bytes pc = .ok (.ifCond .ge o, 3)) (ho : 0 ≤ (pc : Int) + o) (hp : ((pc : Int) + o).toNat = pc') (hq : pc + 3 = pf) (kt : ¬ u < 0 → own_W l Z y bytes ml ret R n0 Q h cells slots pc' Ls st) (kf : u < 0 → own_W l Z y bytes ml ret R n0 Q h cells slots pf Ls st) : own_W l Z y bytes ml ret R n0 Q h cells slots pc Ls (.int u :: st) := by
  by_cases hc : ¬ u < 0
  · exact own_if_ge_t hd hc ho hp (kt hc)
  · exact own_if_ge_f hd (by first | exact hc | exact Decidable.not_not.mp hc) hq (kf (by first | exact hc | exact Decidable.not_not.mp hc))
theorem own_ic_ge_t {u w : Int32} {o : Int} (hd : decode bytes pc = .ok (.if_icmp .ge o, 3)) (hc : ¬ u < w) (ho : 0 ≤ (pc : Int) + o) (hp : ((pc : Int) + o).toNat = pc') (k : own_W l Z y bytes ml ret R n0 Q h cells slots pc' Ls st) : own_W l Z y bytes ml ret R n0 Q h cells slots pc Ls (.int w :: .int u :: st) :=
  own_pure (fun p e below T t m c hA hx hb hr => XS.icmpYes hA hx rfl rfl (hb ▸ hd) rfl (XT.ii_ge_t hc) ho hp hr) k
theorem own_ic_ge_f {u w : Int32} {o : Int} (hd : decode bytes pc = .ok (.if_icmp .ge o, 3)) (hc : u < w) (hp : pc + 3 = pc') (k : own_W l Z y bytes ml ret R n0 Q h cells slots pc' Ls st) : own_W l Z y bytes ml ret R n0 Q h cells slots pc Ls (.int w :: .int u :: st) :=
  own_pure (fun p e below T t m c hA hx hb hr => by subst hp; exact XS.icmpNo hA hx rfl (hb ▸ hd) rfl (XT.ii_ge_f hc) hr) k
theorem own_ic_ge {u w : Int32} {o : Int} {pf : Nat} (hd : decode bytes pc = .ok (.if_icmp .ge o, 3)) (ho : 0 ≤ (pc : Int) + o) (hp : ((pc : Int) + o).toNat = pc') (hq : pc + 3 = pf) (kt : ¬ u < w → own_W l Z y bytes ml ret R n0 Q h cells slots pc' Ls st) (kf : u < w → own_W l Z y bytes ml ret R n0 Q h cells slots pf Ls st) : own_W l Z y bytes ml ret R n0 Q h cells slots pc Ls (.int w :: .int u :: st) := by
  by_cases hc : ¬ u < w
  · exact own_ic_ge_t hd hc ho hp (kt hc)
  · exact own_ic_ge_f hd (by first | exact hc | exact Decidable.not_not.mp hc) hq (kf (by first | exact hc | exact Decidable.not_not.mp hc))
theorem own_il_ge_t {u w : Int64} {o : Int} (hd : decode bytes pc = .ok (.ifCond .ge o, 3)) (hc : ¬ u < w) (ho : 0 ≤ (pc : Int) + o) (hp : ((pc : Int) + o).toNat = pc') (k : own_W l Z y bytes ml ret R n0 Q h cells slots pc' Ls st) : own_W l Z y bytes ml ret R n0 Q h cells slots pc Ls (.int (XT.cmpL u w) :: st) :=
  own_pure (fun p e below T t m c hA hx hb hr => XS.ifYes hA hx rfl rfl (hb ▸ hd) rfl (XT.ll_ge_t hc) ho hp hr) k
theorem own_il_ge_f {u w : Int64} {o : Int} (hd : decode bytes pc = .ok (.ifCond .ge o, 3)) (hc : u < w) (hp : pc + 3 = pc') (k : own_W l Z y bytes ml ret R n0 Q h cells slots pc' Ls st) : own_W l Z y bytes ml ret R n0 Q h cells slots pc Ls (.int (XT.cmpL u w) :: st) :=
  own_pure (fun p e below T t m c hA hx hb hr => by subst hp; exact XS.ifNo hA hx rfl (hb ▸ hd) rfl (XT.ll_ge_f hc) hr) k
theorem own_il_ge {u w : Int64} {o : Int} {pf : Nat} (hd : decode bytes pc = .ok (.ifCond .ge o, 3)) (ho : 0 ≤ (pc : Int) + o) (hp : ((pc : Int) + o).toNat = pc') (hq : pc + 3 = pf) (kt : ¬ u < w → own_W l Z y bytes ml ret R n0 Q h cells slots pc' Ls st) (kf : u < w → own_W l Z y bytes ml ret R n0 Q h cells slots pf Ls st) : own_W l Z y bytes ml ret R n0 Q h cells slots pc Ls (.int (XT.cmpL u w) :: st) := by
  by_cases hc : ¬ u < w
  · exact own_il_ge_t hd hc ho hp (kt hc)
  · exact own_il_ge_f hd (by first | exact hc | exact Decidable.not_not.mp hc) hq (kf (by first | exact hc | exact Decidable.not_not.mp hc))
theorem own_if_gt_t {u : Int32} {o : Int} (hd : decode bytes pc = .ok (.ifCond .gt o, 3)) (hc : 0 < u) (ho : 0 ≤ (pc : Int) + o) (hp : ((pc : Int) + o).toNat = pc') (k : own_W l Z y bytes ml ret R n0 Q h cells slots pc' Ls st) : own_W l Z y bytes ml ret R n0 Q h cells slots pc Ls (.int u :: st) :=
  own_pure (fun p e below T t m c hA hx hb hr => XS.ifYes hA hx rfl rfl (hb ▸ hd) rfl (XT.i0_gt_t hc) ho hp hr) k
theorem own_if_gt_f {u : Int32} {o : Int} (hd : decode bytes pc = .ok (.ifCond .gt o, 3)) (hc : ¬ 0 < u) (hp : pc + 3 = pc') (k : own_W l Z y bytes ml ret R n0 Q h cells slots pc' Ls st) : own_W l Z y bytes ml ret R n0 Q h cells slots pc Ls (.int u :: st) :=
  own_pure (fun p e below T t m c hA hx hb hr => by subst hp; exact XS.ifNo hA hx rfl (hb ▸ hd) rfl (XT.i0_gt_f hc) hr) k
theorem own_if_gt {u : Int32} {o : Int} {pf : Nat} (hd : decode bytes pc = .ok (.ifCond .gt o, 3)) (ho : 0 ≤ (pc : Int) + o) (hp : ((pc : Int) + o).toNat = pc') (hq : pc + 3 = pf) (kt : 0 < u → own_W l Z y bytes ml ret R n0 Q h cells slots pc' Ls st) (kf : ¬ 0 < u → own_W l Z y bytes ml ret R n0 Q h cells slots pf Ls st) : own_W l Z y bytes ml ret R n0 Q h cells slots pc Ls (.int u :: st) := by
  by_cases hc : 0 < u
  · exact own_if_gt_t hd hc ho hp (kt hc)
  · exact own_if_gt_f hd (by first | exact hc | exact Decidable.not_not.mp hc) hq (kf (by first | exact hc | exact Decidable.not_not.mp hc))
theorem own_ic_gt_t {u w : Int32} {o : Int} (hd : decode bytes pc = .ok (.if_icmp .gt o, 3)) (hc : w < u) (ho : 0 ≤ (pc : Int) + o) (hp : ((pc : Int) + o).toNat = pc') (k : own_W l Z y bytes ml ret R n0 Q h cells slots pc' Ls st) : own_W l Z y bytes ml ret R n0 Q h cells slots pc Ls (.int w :: .int u :: st) :=
  own_pure (fun p e below T t m c hA hx hb hr => XS.icmpYes hA hx rfl rfl (hb ▸ hd) rfl (XT.ii_gt_t hc) ho hp hr) k
theorem own_ic_gt_f {u w : Int32} {o : Int} (hd : decode bytes pc = .ok (.if_icmp .gt o, 3)) (hc : ¬ w < u) (hp : pc + 3 = pc') (k : own_W l Z y bytes ml ret R n0 Q h cells slots pc' Ls st) : own_W l Z y bytes ml ret R n0 Q h cells slots pc Ls (.int w :: .int u :: st) :=
  own_pure (fun p e below T t m c hA hx hb hr => by subst hp; exact XS.icmpNo hA hx rfl (hb ▸ hd) rfl (XT.ii_gt_f hc) hr) k
theorem own_ic_gt {u w : Int32} {o : Int} {pf : Nat} (hd : decode bytes pc = .ok (.if_icmp .gt o, 3)) (ho : 0 ≤ (pc : Int) + o) (hp : ((pc : Int) + o).toNat = pc') (hq : pc + 3 = pf) (kt : w < u → own_W l Z y bytes ml ret R n0 Q h cells slots pc' Ls st) (kf : ¬ w < u → own_W l Z y bytes ml ret R n0 Q h cells slots pf Ls st) : own_W l Z y bytes ml ret R n0 Q h cells slots pc Ls (.int w :: .int u :: st) := by
  by_cases hc : w < u
  · exact own_ic_gt_t hd hc ho hp (kt hc)
  · exact own_ic_gt_f hd (by first | exact hc | exact Decidable.not_not.mp hc) hq (kf (by first | exact hc | exact Decidable.not_not.mp hc))
theorem own_il_gt_t {u w : Int64} {o : Int} (hd : decode bytes pc = .ok (.ifCond .gt o, 3)) (hc : w < u) (ho : 0 ≤ (pc : Int) + o) (hp : ((pc : Int) + o).toNat = pc') (k : own_W l Z y bytes ml ret R n0 Q h cells slots pc' Ls st) : own_W l Z y bytes ml ret R n0 Q h cells slots pc Ls (.int (XT.cmpL u w) :: st) :=
  own_pure (fun p e below T t m c hA hx hb hr => XS.ifYes hA hx rfl rfl (hb ▸ hd) rfl (XT.ll_gt_t hc) ho hp hr) k
theorem own_il_gt_f {u w : Int64} {o : Int} (hd : decode bytes pc = .ok (.ifCond .gt o, 3)) (hc : ¬ w < u) (hp : pc + 3 = pc') (k : own_W l Z y bytes ml ret R n0 Q h cells slots pc' Ls st) : own_W l Z y bytes ml ret R n0 Q h cells slots pc Ls (.int (XT.cmpL u w) :: st) :=
  own_pure (fun p e below T t m c hA hx hb hr => by subst hp; exact XS.ifNo hA hx rfl (hb ▸ hd) rfl (XT.ll_gt_f hc) hr) k
theorem own_il_gt {u w : Int64} {o : Int} {pf : Nat} (hd : decode bytes pc = .ok (.ifCond .gt o, 3)) (ho : 0 ≤ (pc : Int) + o) (hp : ((pc : Int) + o).toNat = pc') (hq : pc + 3 = pf) (kt : w < u → own_W l Z y bytes ml ret R n0 Q h cells slots pc' Ls st) (kf : ¬ w < u → own_W l Z y bytes ml ret R n0 Q h cells slots pf Ls st) : own_W l Z y bytes ml ret R n0 Q h cells slots pc Ls (.int (XT.cmpL u w) :: st) := by
  by_cases hc : w < u
  · exact own_il_gt_t hd hc ho hp (kt hc)
  · exact own_il_gt_f hd (by first | exact hc | exact Decidable.not_not.mp hc) hq (kf (by first | exact hc | exact Decidable.not_not.mp hc))
theorem own_if_le_t {u : Int32} {o : Int} (hd : decode bytes pc = .ok (.ifCond .le o, 3)) (hc : ¬ 0 < u) (ho : 0 ≤ (pc : Int) + o) (hp : ((pc : Int) + o).toNat = pc') (k : own_W l Z y bytes ml ret R n0 Q h cells slots pc' Ls st) : own_W l Z y bytes ml ret R n0 Q h cells slots pc Ls (.int u :: st) :=
  own_pure (fun p e below T t m c hA hx hb hr => XS.ifYes hA hx rfl rfl (hb ▸ hd) rfl (XT.i0_le_t hc) ho hp hr) k
theorem own_if_le_f {u : Int32} {o : Int} (hd : decode bytes pc = .ok (.ifCond .le o, 3)) (hc : 0 < u) (hp : pc + 3 = pc') (k : own_W l Z y bytes ml ret R n0 Q h cells slots pc' Ls st) : own_W l Z y bytes ml ret R n0 Q h cells slots pc Ls (.int u :: st) :=
  own_pure (fun p e below T t m c hA hx hb hr => by subst hp; exact XS.ifNo hA hx rfl (hb ▸ hd) rfl (XT.i0_le_f hc) hr) k
theorem own_if_le {u : Int32} {o : Int} {pf : Nat} (hd : decode bytes pc = .ok (.ifCond .le o, 3)) (ho : 0 ≤ (pc : Int) + o) (hp : ((pc : Int) + o).toNat = pc') (hq : pc + 3 = pf) (kt : ¬ 0 < u → own_W l Z y bytes ml ret R n0 Q h cells slots pc' Ls st) (kf : 0 < u → own_W l Z y bytes ml ret R n0 Q h cells slots pf Ls st) : own_W l Z y bytes ml ret R n0 Q h cells slots pc Ls (.int u :: st) := by
  by_cases hc : ¬ 0 < u
  · exact own_if_le_t hd hc ho hp (kt hc)
  · exact own_if_le_f hd (by first | exact hc | exact Decidable.not_not.mp hc) hq (kf (by first | exact hc | exact Decidable.not_not.mp hc))
theorem own_ic_le_t {u w : Int32} {o : Int} (hd : decode bytes pc = .ok (.if_icmp .le o, 3)) (hc : ¬ w < u) (ho : 0 ≤ (pc : Int) + o) (hp : ((pc : Int) + o).toNat = pc') (k : own_W l Z y bytes ml ret R n0 Q h cells slots pc' Ls st) : own_W l Z y bytes ml ret R n0 Q h cells slots pc Ls (.int w :: .int u :: st) :=
  own_pure (fun p e below T t m c hA hx hb hr => XS.icmpYes hA hx rfl rfl (hb ▸ hd) rfl (XT.ii_le_t hc) ho hp hr) k
theorem own_ic_le_f {u w : Int32} {o : Int} (hd : decode bytes pc = .ok (.if_icmp .le o, 3)) (hc : w < u) (hp : pc + 3 = pc') (k : own_W l Z y bytes ml ret R n0 Q h cells slots pc' Ls st) : own_W l Z y bytes ml ret R n0 Q h cells slots pc Ls (.int w :: .int u :: st) :=
  own_pure (fun p e below T t m c hA hx hb hr => by subst hp; exact XS.icmpNo hA hx rfl (hb ▸ hd) rfl (XT.ii_le_f hc) hr) k
theorem own_ic_le {u w : Int32} {o : Int} {pf : Nat} (hd : decode bytes pc = .ok (.if_icmp .le o, 3)) (ho : 0 ≤ (pc : Int) + o) (hp : ((pc : Int) + o).toNat = pc') (hq : pc + 3 = pf) (kt : ¬ w < u → own_W l Z y bytes ml ret R n0 Q h cells slots pc' Ls st) (kf : w < u → own_W l Z y bytes ml ret R n0 Q h cells slots pf Ls st) : own_W l Z y bytes ml ret R n0 Q h cells slots pc Ls (.int w :: .int u :: st) := by
  by_cases hc : ¬ w < u
  · exact own_ic_le_t hd hc ho hp (kt hc)
  · exact own_ic_le_f hd (by first | exact hc | exact Decidable.not_not.mp hc) hq (kf (by first | exact hc | exact Decidable.not_not.mp hc))
theorem own_il_le_t {u w : Int64} {o : Int} (hd : decode bytes pc = .ok (.ifCond .le o, 3)) (hc : ¬ w < u) (ho : 0 ≤ (pc : Int) + o) (hp : ((pc : Int) + o).toNat = pc') (k : own_W l Z y bytes ml ret R n0 Q h cells slots pc' Ls st) : own_W l Z y bytes ml ret R n0 Q h cells slots pc Ls (.int (XT.cmpL u w) :: st) :=
  own_pure (fun p e below T t m c hA hx hb hr => XS.ifYes hA hx rfl rfl (hb ▸ hd) rfl (XT.ll_le_t hc) ho hp hr) k
theorem own_il_le_f {u w : Int64} {o : Int} (hd : decode bytes pc = .ok (.ifCond .le o, 3)) (hc : w < u) (hp : pc + 3 = pc') (k : own_W l Z y bytes ml ret R n0 Q h cells slots pc' Ls st) : own_W l Z y bytes ml ret R n0 Q h cells slots pc Ls (.int (XT.cmpL u w) :: st) :=
  own_pure (fun p e below T t m c hA hx hb hr => by subst hp; exact XS.ifNo hA hx rfl (hb ▸ hd) rfl (XT.ll_le_f hc) hr) k
theorem own_il_le {u w : Int64} {o : Int} {pf : Nat} (hd : decode bytes pc = .ok (.ifCond .le o, 3)) (ho : 0 ≤ (pc : Int) + o) (hp : ((pc : Int) + o).toNat = pc') (hq : pc + 3 = pf) (kt : ¬ w < u → own_W l Z y bytes ml ret R n0 Q h cells slots pc' Ls st) (kf : w < u → own_W l Z y bytes ml ret R n0 Q h cells slots pf Ls st) : own_W l Z y bytes ml ret R n0 Q h cells slots pc Ls (.int (XT.cmpL u w) :: st) := by
  by_cases hc : ¬ w < u
  · exact own_il_le_t hd hc ho hp (kt hc)
  · exact own_il_le_f hd (by first | exact hc | exact Decidable.not_not.mp hc) hq (kf (by first | exact hc | exact Decidable.not_not.mp hc))
theorem own_ifnull_f {u : Addr} {o : Int} (hd : decode bytes pc = .ok (.ifnull o, 3)) (hp : pc + 3 = pc') (k : own_W l Z y bytes ml ret R n0 Q h cells slots pc' Ls st) : own_W l Z y bytes ml ret R n0 Q h cells slots pc Ls (.ref u :: st) :=
  own_pure (fun p e below T t m c hA hx hb hr => by subst hp; exact XS.ifnullNo hA hx rfl (hb ▸ hd) rfl hr) k
theorem own_ifnonnull_t {u : Addr} {o : Int} (hd : decode bytes pc = .ok (.ifnonnull o, 3)) (ho : 0 ≤ (pc : Int) + o) (hp : ((pc : Int) + o).toNat = pc') (k : own_W l Z y bytes ml ret R n0 Q h cells slots pc' Ls st) : own_W l Z y bytes ml ret R n0 Q h cells slots pc Ls (.ref u :: st) :=
  own_pure (fun p e below T t m c hA hx hb hr => XT.ifnonnullYes hA hx rfl rfl (hb ▸ hd) rfl ho hp hr) k
theorem own_ldcI {idx : Nat} {u : Int32} (w : (Jvm.Cond.constant y.cls idx u).before a0 Z = true) (hd : decode bytes pc = .ok (.ldc idx, 2)) (hp : pc + 2 = pc') (k : own_W l Z y bytes ml ret R n0 Q h cells slots pc' Ls (.int u :: st)) : own_W l Z y bytes ml ret R n0 Q h cells slots pc Ls st := by
  intro p e s m args below meth c T locs hx hZ hown hby hml hret hlk hnm hce hsl X eT N
  subst hp
  obtain ⟨s₂, o, h1, h2⟩ := k p e s m args below meth c T locs hx hZ hown hby hml hret hlk hnm hce hsl X eT N
  exact ⟨s₂, o, X.ldcInt hx hown (mvT hZ w) (g := mkF m pc Ls st) rfl (hb hby hd) _ h1, h2⟩
theorem own_ldcWI {idx : Nat} {u : Int32} (w : (Jvm.Cond.constant y.cls idx u).before a0 Z = true) (hd : decode bytes pc = .ok (.ldc_w idx, 3)) (hp : pc + 3 = pc') (k : own_W l Z y bytes ml ret R n0 Q h cells slots pc' Ls (.int u :: st)) : own_W l Z y bytes ml ret R n0 Q h cells slots pc Ls st := by
  intro p e s m args below meth c T locs hx hZ hown hby hml hret hlk hnm hce hsl X eT N
  subst hp
  obtain ⟨s₂, o, h1, h2⟩ := k p e s m args below meth c T locs hx hZ hown hby hml hret hlk hnm hce hsl X eT N
  exact ⟨s₂, o, X.ldcWInt hx hown (mvT hZ w) (g := mkF m pc Ls st) rfl (hb hby hd) _ h1, h2⟩
theorem own_ldc2 {idx : Nat} {u : Int64} (w : (Jvm.Cond.constantLong y.cls idx u).before a0 Z = true) (hd : decode bytes pc = .ok (.ldc2_w idx, 3)) (hp : pc + 3 = pc') (k : own_W l Z y bytes ml ret R n0 Q h cells slots pc' Ls (.long u :: st)) : own_W l Z y bytes ml ret R n0 Q h cells slots pc Ls st := by
  intro p e s m args below meth c T locs hx hZ hown hby hml hret hlk hnm hce hsl X eT N
  subst hp
  obtain ⟨s₂, o, h1, h2⟩ := k p e s m args below meth c T locs hx hZ hown hby hml hret hlk hnm hce hsl X eT N
  exact ⟨s₂, o, X.ldc2Long hx hown (mvT hZ w) (g := mkF m pc Ls st) rfl (hb hby hd) _ h1, h2⟩
theorem own_iret {u : Int32} (hr0 : ret = some .int) (hd : decode bytes pc = .ok (.ireturn, 1)) (hq : Q (some (.int u)) h) : own_W l Z y bytes ml ret R n0 Q h cells slots pc Ls (.int u :: st) := by
  intro p e s m args below meth c T locs hx hZ hown hby hml hret hlk hnm hce hsl X eT N
  subst hr0
  obtain ⟨fs, hr, hrun, hended, hW, hsame⟩ := X.leave (v := some (.int u)) (fun h => by rw [hret] at h; cases h) hlk
  refine ⟨_, _, ?_, hrun, hended, _, _, rfl, ⟨?_, N⟩, ⟨_, rfl⟩, hW, hsame.mono hce hsl⟩
  · exact retOut X hx hret rfl (Or.inl ⟨rfl, Or.inl rfl, _, rfl⟩) (hb hby hd) hr
  · rw [show (T.setFrames fs).heap = h from eT]; exact hq
theorem own_zret {u : Int32} {t : FieldType} (hr0 : ret = some t) (ht : t = .boolean ∨ t = .byte ∨ t = .char ∨ t = .short) (hd : decode bytes pc = .ok (.ireturn, 1)) (hq : Q (some (.int (nar t u))) h) : own_W l Z y bytes ml ret R n0 Q h cells slots pc Ls (.int u :: st) := by
  intro p e s m args below meth c T locs hx hZ hown hby hml hret hlk hnm hce hsl X eT N
  subst hr0
  obtain ⟨fs, hr, hrun, hended, hW, hsame⟩ := X.leave (v := some (.int (nar t u))) (fun h => by rw [hret] at h; cases h) hlk
  refine ⟨_, _, ?_, hrun, hended, _, _, rfl, ⟨?_, N⟩, ⟨_, rfl⟩, hW, hsame.mono hce hsl⟩
  · exact retN X hx hret ht (hb hby hd) hr
  · rw [show (T.setFrames fs).heap = h from eT]; exact hq
theorem own_bret {u v : Int32} (hr0 : ret = some .boolean) (hv : u &&& 1 = v) (hd : decode bytes pc = .ok (.ireturn, 1)) (hq : Q (some (.int v)) h) : own_W l Z y bytes ml ret R n0 Q h cells slots pc Ls (.int u :: st) :=
  own_zret hr0 (Or.inl rfl) hd (by subst hv; exact hq)
theorem own_lret {u : Int64} (hr0 : ret = some .long) (hd : decode bytes pc = .ok (.lreturn, 1)) (hq : Q (some (.long u)) h) : own_W l Z y bytes ml ret R n0 Q h cells slots pc Ls (.long u :: st) := by
  intro p e s m args below meth c T locs hx hZ hown hby hml hret hlk hnm hce hsl X eT N
  subst hr0
  obtain ⟨fs, hr, hrun, hended, hW, hsame⟩ := X.leave (v := some (.long u)) (fun h => by rw [hret] at h; cases h) hlk
  refine ⟨_, _, ?_, hrun, hended, _, _, rfl, ⟨?_, N⟩, ⟨_, rfl⟩, hW, hsame.mono hce hsl⟩
  · exact retOut X hx hret rfl (Or.inr (Or.inl ⟨rfl, rfl, _, rfl⟩)) (hb hby hd) hr
  · rw [show (T.setFrames fs).heap = h from eT]; exact hq
theorem own_aret {u : Addr} {t : FieldType} (hr0 : ret = some t) (ht : t.isReference = true) (hn : narrow t (.ref u) = .ref u) (hd : decode bytes pc = .ok (.areturn, 1)) (hq : Q (some (.ref u)) h) : own_W l Z y bytes ml ret R n0 Q h cells slots pc Ls (.ref u :: st) := by
  intro p e s m args below meth c T locs hx hZ hown hby hml hret hlk hnm hce hsl X eT N
  subst hr0
  obtain ⟨fs, hr, hrun, hended, hW, hsame⟩ := X.leave (v := some (.ref u)) (fun h => by rw [hret] at h; cases h) hlk
  refine ⟨_, _, ?_, hrun, hended, _, _, rfl, ⟨?_, N⟩, ⟨_, rfl⟩, hW, hsame.mono hce hsl⟩
  · exact retOut X hx hret hn (Or.inr (Or.inr (Or.inr (Or.inr ⟨rfl, ht, rfl⟩)))) (hb hby hd) hr
  · rw [show (T.setFrames fs).heap = h from eT]; exact hq
theorem own_ret (hr0 : ret = none) (hd : decode bytes pc = .ok (.return_, 1)) (hq : Q none h) : own_W l Z y bytes ml ret R n0 Q h cells slots pc Ls [] := by
  intro p e s m args below meth c T locs hx hZ hown hby hml hret hlk hnm hce hsl X eT N
  subst hr0
  obtain ⟨fs, hr, hrun, hended, hW, hsame⟩ := X.leave (v := none) (fun _ => rfl) hlk
  refine ⟨_, _, ?_, hrun, hended, _, _, rfl, ⟨?_, N⟩, ⟨_, rfl⟩, hW, hsame.mono hce hsl⟩
  · exact X.returnOut hx hret (hb hby hd) hr
  · rw [show (T.setFrames fs).heap = h from eT]; exact hq
theorem own_getF {O n d : String} {idx : Nat} {a : Addr} {v : Value} (w : (Jvm.Cond.fieldLink y.cls idx O n d).before a0 Z = true) (F : Fld Z h a O n d v) (hd : decode bytes pc = .ok (.getfield idx, 3)) (hp : pc + 3 = pc') (k : own_W l Z y bytes ml ret R n0 Q h cells slots pc' Ls (v :: st)) : own_W l Z y bytes ml ret R n0 Q h cells slots pc Ls (.ref a :: st) := by
  intro p e s m args below meth c T locs hx hZ hown hby hml hret hlk hnm hce hsl X eT N
  subst hp
  obtain ⟨T', X', e', st'⟩ := getF X hx hZ hown (host := "") (Or.inl w) Via.refl eT F (g := mkF m pc Ls (.ref a :: st)) rfl rfl (hb hby hd)
  obtain ⟨s₂, o, h1, h2⟩ := k p e s m args below meth c T' locs hx hZ hown hby hml hret hlk hnm hce hsl X' e' N
  exact ⟨s₂, o, st' _ h1, h2⟩
theorem own_putF {O n d C : String} {idx kk : Nat} {a : Addr} {v old : Value} {ty : FieldType} (w : (Jvm.Cond.fieldLink y.cls idx O n d).before a0 Z = true) (F : Fld Z h a O n d old) (E : Exa Z h a C) (L : (Jvm.Cond.lays C O n d).before a0 Z = true ∨ ((Jvm.Cond.laysFinal C O n d).before a0 Z = true ∧ y.cls = O ∧ y.name = "<init>")) (wi : (Jvm.Cond.instantiable C kk).before a0 Z = true)
    (ge : n0 ≤ a) (hty : parseFieldDescriptor d = some ty) (hn : narrow ty v = v) (hf : fits ty v = true) (hd : decode bytes pc = .ok (.putfield idx, 3)) (hp : pc + 3 = pc')
    (k : ∀ h', Wr h h' a (Jvm.RoadKit.slotOf Z O n d) v → Keep h h' [a] → own_W l Z y bytes ml ret R n0 Q h' cells slots pc' Ls st) : own_W l Z y bytes ml ret R n0 Q h cells slots pc Ls (v :: .ref a :: st) := by
  intro p e s m args below meth c T locs hx hZ hown hby hml hret hlk hnm hce hsl X eT N
  subst hp
  obtain ⟨T', h', X', e', W', st'⟩ := putF X hx hZ hown (host := "") (Or.inl w) Via.refl eT F E (L.imp id fun q => ⟨q.1, q.2.1, hnm.trans q.2.2⟩) wi hty hn hf (g := mkF m pc Ls (v :: .ref a :: st)) rfl rfl (hb hby hd)
  obtain ⟨s₂, o, h1, h2⟩ := k h' W' (Keep.of_wr W') p e s m args below meth c T' _ hx hZ hown hby hml hret hlk hnm hce hsl X' e' (Fr.snoc X' N ge)
  exact ⟨s₂, o, st' _ h1, h2⟩
theorem own_new {C : String} {idx n : Nat} (w : (Jvm.Cond.classLink y.cls idx C).before a0 Z = true) (wi : (Jvm.Cond.instantiable C n).before a0 Z = true) (wz : (Jvm.Cond.initialized C).before a0 Z = true) (hd : decode bytes pc = .ok (.new idx, 3)) (hp : pc + 3 = pc') (hc : cells + 1 ≤ R.cells) (hl : slots + n ≤ R.slots)
    (k : ∀ (h' : Heap) (a : Addr), h.size ≤ a → a < h'.size → Ext h h' → Exa Z h' a C → (∀ {O nm d : String} {ty : FieldType}, Laid Z a0 C O nm d → parseFieldDescriptor d = some ty → Fld Z h' a O nm d (defaultValue ty)) → own_W l Z y bytes ml ret R n0 Q h' (cells + 1) (slots + n) pc' Ls (.ref a :: st)) : own_W l Z y bytes ml ret R n0 Q h cells slots pc Ls st := by
  intro p e s m args below meth c T locs hx hZ hown hby hml hret hlk hnm hce hsl X eT N
  subst hp
  obtain ⟨T', h', X', e', E', A', D', -, st'⟩ := newO X hx hZ hown w wi wz eT (g := mkF m pc Ls st) rfl (hb hby hd) hc hl
  obtain ⟨s₂, o, h1, h2⟩ := k h' h.size (Nat.le_refl _) A'.lt E' A' D' p e s m args below meth c T' _ hx hZ hown hby hml hret hlk hnm hc hl X' e' N
  exact ⟨s₂, o, st' _ h1, h2⟩
theorem own_initO {idx W : Nat} {a : Addr} (w1 : (Jvm.Cond.methodLink y.cls idx Lib.objectInit).before a0 Z = true) (w2 : (Jvm.Cond.instanceMethod Lib.objectInit).before a0 Z = true) (w3 : (Jvm.Cond.code Lib.objectInit ⟨#[0xb1]⟩ 1 none).before a0 Z = true) (hd : decode bytes pc = .ok (.invokespecial idx, 3)) (hp : pc + 3 = pc')
    (hsz : Ls.size = ml) (hf : 1 ≤ R.frames) (hW : (st.map fun v => v.category).sum ≤ W) (hl : W + 12 ≤ R.locals) (k : own_W l Z y bytes ml ret R n0 Q h cells slots pc' Ls st) : own_W l Z y bytes ml ret R n0 Q h cells slots pc Ls (.ref a :: st) := by
  intro p e s m args below meth c T locs hx hZ hown hby hml hret hlk hnm hce hsl X eT N
  subst hp
  obtain ⟨T', X', e', st'⟩ := initO X hx hZ hown w1 w2 w3 eT (g := mkF m pc Ls (.ref a :: st)) rfl (by rw [hml]; exact hsz) rfl (hb hby hd) hf (W := W) (by show 2 * 0 + _ ≤ _; omega) hl
  obtain ⟨s₂, o, h1, h2⟩ := k p e s m args below meth c T' locs hx hZ hown hby hml hret hlk hnm hce hsl X' e' N
  exact ⟨s₂, o, st' _ h1, h2⟩
/-- an array of this component type with just these components -/
def own_A (Z : State) (h : Heap) (a : Addr) (ty : FieldType) (vs : List Value) : Prop := ∃ c : Cell, Arr Z h a c ty ∧ c.slots.toList = vs ∧ vs.length < 2 ^ 31 ∧ ∀ v ∈ vs, fits ty v = true
theorem own_A.lt {a : Addr} {ty : FieldType} {vs : List Value} (A : own_A Z h a ty vs) : a < h.size := by obtain ⟨c, A, -⟩ := A; exact A.lt
theorem own_A.ext {h' : Heap} {a : Addr} {ty : FieldType} {vs : List Value} (A : own_A Z h a ty vs) (E : Ext h h') : own_A Z h' a ty vs := by obtain ⟨c, A, r⟩ := A; exact ⟨c, A.ext E, r⟩
theorem own_A.keep {h' : Heap} {a : Addr} {ty : FieldType} {vs : List Value} {ws : List Addr} (A : own_A Z h a ty vs) (K : Keep h h' ws) (q : a ∉ ws) : own_A Z h' a ty vs := by obtain ⟨c, A, r⟩ := A; exact ⟨c, ⟨K.2.1 a c A.1 q, A.2⟩, r⟩
theorem own_A.cast {a : Addr} {ty : FieldType} {vs vs' : List Value} (A : own_A Z h a ty vs) (q : vs = vs') : own_A Z h a ty vs' := q ▸ A
theorem own_size {c : Cell} {vs : List Value} (q : c.slots.toList = vs) : c.slots.size = vs.length := by rw [← q]; simp
theorem own_in {c : Cell} {vs : List Value} {j : Int32} (q : c.slots.toList = vs) (h0 : ¬ j < 0) (h1 : j.toNatClampNeg < vs.length) : ¬ (j < 0 ∨ c.slots.size ≤ j.toNatClampNeg) := by rw [own_size q]; rintro (u | u); exact h0 u; omega
theorem own_get {c : Cell} {vs : List Value} {j : Nat} {v : Value} (q : c.slots.toList = vs) (h1 : vs[j]? = some v) : c.slots[j]? = some v := by rw [← Array.getElem?_toList, q]; exact h1
theorem own_A.set {h' : Heap} {a : Addr} {ty : FieldType} {vs : List Value} {j : Nat} {v : Value} {c : Cell} (A : Arr Z h a c ty) (q : c.slots.toList = vs) (hl : vs.length < 2 ^ 31) (hft : ∀ v ∈ vs, fits ty v = true) (hv : fits ty v = true) (W : Wr h h' a j v) : own_A Z h' a ty (vs.set j v) := by
  refine ⟨_, A.same W, ?_, by simpa using hl, fun w hw => (List.mem_or_eq_of_mem_set hw).elim (hft w) fun e => e ▸ hv⟩
  rw [← q]; simp [Cell.setSlot]
theorem own_fitd (ty : FieldType) : fits ty (defaultValue ty) = true := by cases ty <;> rfl
theorem own_len {a : Addr} {ty : FieldType} {vs : List Value} {n : Int32} (A : own_A Z h a ty vs) (hn : vs.length.toInt32 = n) (hd : decode bytes pc = .ok (.arraylength, 1)) (hp : pc + 1 = pc') (k : own_W l Z y bytes ml ret R n0 Q h cells slots pc' Ls (.int n :: st)) : own_W l Z y bytes ml ret R n0 Q h cells slots pc Ls (.ref a :: st) := by
  intro p e s m args below meth c T locs hx hZ hown hby hml hret hlk hnm hce hsl X eT N
  subst hp hn
  obtain ⟨cl, A, q, hl, hft⟩ := A
  obtain ⟨s₂, o, h1, h2⟩ := k p e s m args below meth c T locs hx hZ hown hby hml hret hlk hnm hce hsl X eT N
  refine ⟨s₂, o, X.arraylength hx (by rw [eT]; exact A.1) (State.isArrayOf_alike hZ.alike A.2.1) (g := mkF m pc Ls (.ref a :: st)) rfl rfl (hb hby hd) _ ?_, h2⟩
  rw [own_size q]; exact h1
theorem own_iaload {a : Addr} {vs : List Value} {j : Int32} {v : Value} (A : own_A Z h a .int vs) (h0 : ¬ j < 0) (hv : vs[j.toNatClampNeg]? = some v) (hd : decode bytes pc = .ok (.iaload, 1)) (hp : pc + 1 = pc') (k : own_W l Z y bytes ml ret R n0 Q h cells slots pc' Ls (v :: st)) : own_W l Z y bytes ml ret R n0 Q h cells slots pc Ls (.int j :: .ref a :: st) := by
  intro p e s m args below meth c T locs hx hZ hown hby hml hret hlk hnm hce hsl X eT N
  subst hp
  obtain ⟨cl, A, q, hl, hft⟩ := A
  obtain ⟨s₂, o, h1, h2⟩ := k p e s m args below meth c T locs hx hZ hown hby hml hret hlk hnm hce hsl X eT N
  exact ⟨s₂, o, X.iaload hx (by rw [eT]; exact A.1) (State.isArrayOf_alike hZ.alike A.2.1) A.2.2 (own_in q h0 (List.getElem?_eq_some_iff.mp hv).1) (own_get q hv) (g := mkF m pc Ls (.int j :: .ref a :: st)) rfl rfl (hb hby hd) _ h1, h2⟩
theorem own_laload {a : Addr} {vs : List Value} {j : Int32} {v : Value} (A : own_A Z h a .long vs) (h0 : ¬ j < 0) (hv : vs[j.toNatClampNeg]? = some v) (hd : decode bytes pc = .ok (.laload, 1)) (hp : pc + 1 = pc') (k : own_W l Z y bytes ml ret R n0 Q h cells slots pc' Ls (v :: st)) : own_W l Z y bytes ml ret R n0 Q h cells slots pc Ls (.int j :: .ref a :: st) := by
  intro p e s m args below meth c T locs hx hZ hown hby hml hret hlk hnm hce hsl X eT N
  subst hp
  obtain ⟨cl, A, q, hl, hft⟩ := A
  obtain ⟨s₂, o, h1, h2⟩ := k p e s m args below meth c T locs hx hZ hown hby hml hret hlk hnm hce hsl X eT N
  exact ⟨s₂, o, X.laload hx (by rw [eT]; exact A.1) (State.isArrayOf_alike hZ.alike A.2.1) A.2.2 (own_in q h0 (List.getElem?_eq_some_iff.mp hv).1) (own_get q hv) (g := mkF m pc Ls (.int j :: .ref a :: st)) rfl rfl (hb hby hd) _ h1, h2⟩
theorem own_caload {a : Addr} {vs : List Value} {j : Int32} {v : Value} (A : own_A Z h a .char vs) (h0 : ¬ j < 0) (hv : vs[j.toNatClampNeg]? = some v) (hd : decode bytes pc = .ok (.caload, 1)) (hp : pc + 1 = pc') (k : own_W l Z y bytes ml ret R n0 Q h cells slots pc' Ls (v :: st)) : own_W l Z y bytes ml ret R n0 Q h cells slots pc Ls (.int j :: .ref a :: st) := by
  intro p e s m args below meth c T locs hx hZ hown hby hml hret hlk hnm hce hsl X eT N
  subst hp
  obtain ⟨cl, A, q, hl, hft⟩ := A
  obtain ⟨s₂, o, h1, h2⟩ := k p e s m args below meth c T locs hx hZ hown hby hml hret hlk hnm hce hsl X eT N
  exact ⟨s₂, o, X.caload hx (by rw [eT]; exact A.1) (State.isArrayOf_alike hZ.alike A.2.1) A.2.2 (own_in q h0 (List.getElem?_eq_some_iff.mp hv).1) (own_get q hv) (g := mkF m pc Ls (.int j :: .ref a :: st)) rfl rfl (hb hby hd) _ h1, h2⟩
theorem own_baload {a : Addr} {vs : List Value} {j : Int32} {v : Value} (A : own_A Z h a .byte vs) (h0 : ¬ j < 0) (hv : vs[j.toNatClampNeg]? = some v) (hd : decode bytes pc = .ok (.baload, 1)) (hp : pc + 1 = pc') (k : own_W l Z y bytes ml ret R n0 Q h cells slots pc' Ls (v :: st)) : own_W l Z y bytes ml ret R n0 Q h cells slots pc Ls (.int j :: .ref a :: st) := by
  intro p e s m args below meth c T locs hx hZ hown hby hml hret hlk hnm hce hsl X eT N
  subst hp
  obtain ⟨cl, A, q, hl, hft⟩ := A
  obtain ⟨s₂, o, h1, h2⟩ := k p e s m args below meth c T locs hx hZ hown hby hml hret hlk hnm hce hsl X eT N
  exact ⟨s₂, o, X.baloadBytes hx (by rw [eT]; exact A.1) (State.isArrayOf_alike hZ.alike A.2.1) A.2.2 (own_in q h0 (List.getElem?_eq_some_iff.mp hv).1) (own_get q hv) (g := mkF m pc Ls (.int j :: .ref a :: st)) rfl rfl (hb hby hd) _ h1, h2⟩
theorem own_zaload {a : Addr} {vs : List Value} {j : Int32} {v : Value} (A : own_A Z h a .boolean vs) (h0 : ¬ j < 0) (hv : vs[j.toNatClampNeg]? = some v) (hd : decode bytes pc = .ok (.baload, 1)) (hp : pc + 1 = pc') (k : own_W l Z y bytes ml ret R n0 Q h cells slots pc' Ls (v :: st)) : own_W l Z y bytes ml ret R n0 Q h cells slots pc Ls (.int j :: .ref a :: st) := by
  intro p e s m args below meth c T locs hx hZ hown hby hml hret hlk hnm hce hsl X eT N
  subst hp
  obtain ⟨cl, A, q, hl, hft⟩ := A
  obtain ⟨s₂, o, h1, h2⟩ := k p e s m args below meth c T locs hx hZ hown hby hml hret hlk hnm hce hsl X eT N
  exact ⟨s₂, o, X.baloadBooleans hx (by rw [eT]; exact A.1) (State.isArrayOf_alike hZ.alike A.2.1) A.2.2 (own_in q h0 (List.getElem?_eq_some_iff.mp hv).1) (own_get q hv) (g := mkF m pc Ls (.int j :: .ref a :: st)) rfl rfl (hb hby hd) _ h1, h2⟩
theorem own_iastore {a : Addr} {vs : List Value} {j : Int32} {u : Int32} (A : own_A Z h a .int vs) (h0 : ¬ j < 0) (h1 : j.toNatClampNeg < vs.length) (ge : n0 ≤ a) (hd : decode bytes pc = .ok (.iastore, 1)) (hp : pc + 1 = pc') (k : ∀ h', Keep h h' [a] → own_A Z h' a .int (vs.set j.toNatClampNeg (.int u)) → own_W l Z y bytes ml ret R n0 Q h' cells slots pc' Ls st) : own_W l Z y bytes ml ret R n0 Q h cells slots pc Ls (.int u :: .int j :: .ref a :: st) := by
  intro p e s m args below meth c T locs hx hZ hown hby hml hret hlk hnm hce hsl X eT N
  subst hp
  obtain ⟨cl, A, q, hl, hft⟩ := A
  obtain ⟨T', h', X', e', W', st'⟩ := stI X hx hZ eT A (own_in q h0 h1) (g := mkF m pc Ls (.int u :: .int j :: .ref a :: st)) rfl rfl (hb hby hd)
  obtain ⟨s₂, o, h1, h2⟩ := k h' (Keep.of_wr W') (own_A.set A q hl hft rfl W') p e s m args below meth c T' _ hx hZ hown hby hml hret hlk hnm hce hsl X' e' (Fr.snoc X' N ge)
  exact ⟨s₂, o, st' _ h1, h2⟩
theorem own_lastore {a : Addr} {vs : List Value} {j : Int32} {u : Int64} (A : own_A Z h a .long vs) (h0 : ¬ j < 0) (h1 : j.toNatClampNeg < vs.length) (ge : n0 ≤ a) (hd : decode bytes pc = .ok (.lastore, 1)) (hp : pc + 1 = pc') (k : ∀ h', Keep h h' [a] → own_A Z h' a .long (vs.set j.toNatClampNeg (.long u)) → own_W l Z y bytes ml ret R n0 Q h' cells slots pc' Ls st) : own_W l Z y bytes ml ret R n0 Q h cells slots pc Ls (.long u :: .int j :: .ref a :: st) := by
  intro p e s m args below meth c T locs hx hZ hown hby hml hret hlk hnm hce hsl X eT N
  subst hp
  obtain ⟨cl, A, q, hl, hft⟩ := A
  obtain ⟨T', h', X', e', W', st'⟩ := stJ X hx hZ eT A (own_in q h0 h1) (g := mkF m pc Ls (.long u :: .int j :: .ref a :: st)) rfl rfl (hb hby hd)
  obtain ⟨s₂, o, h1, h2⟩ := k h' (Keep.of_wr W') (own_A.set A q hl hft rfl W') p e s m args below meth c T' _ hx hZ hown hby hml hret hlk hnm hce hsl X' e' (Fr.snoc X' N ge)
  exact ⟨s₂, o, st' _ h1, h2⟩
theorem own_castore {a : Addr} {vs : List Value} {j : Int32} {u : Int32} (A : own_A Z h a .char vs) (h0 : ¬ j < 0) (h1 : j.toNatClampNeg < vs.length) (ge : n0 ≤ a) (hd : decode bytes pc = .ok (.castore, 1)) (hp : pc + 1 = pc') (k : ∀ h', Keep h h' [a] → own_A Z h' a .char (vs.set j.toNatClampNeg (.int (nar .char u))) → own_W l Z y bytes ml ret R n0 Q h' cells slots pc' Ls st) : own_W l Z y bytes ml ret R n0 Q h cells slots pc Ls (.int u :: .int j :: .ref a :: st) := by
  intro p e s m args below meth c T locs hx hZ hown hby hml hret hlk hnm hce hsl X eT N
  subst hp
  obtain ⟨cl, A, q, hl, hft⟩ := A
  obtain ⟨T', h', X', e', W', st'⟩ := stC X hx hZ eT A (own_in q h0 h1) (g := mkF m pc Ls (.int u :: .int j :: .ref a :: st)) rfl rfl (hb hby hd)
  obtain ⟨s₂, o, h1, h2⟩ := k h' (Keep.of_wr W') (own_A.set A q hl hft (fits_nar_char u) W') p e s m args below meth c T' _ hx hZ hown hby hml hret hlk hnm hce hsl X' e' (Fr.snoc X' N ge)
  exact ⟨s₂, o, st' _ h1, h2⟩
theorem own_bastore {a : Addr} {vs : List Value} {j : Int32} {u : Int32} (A : own_A Z h a .byte vs) (h0 : ¬ j < 0) (h1 : j.toNatClampNeg < vs.length) (ge : n0 ≤ a) (hd : decode bytes pc = .ok (.bastore, 1)) (hp : pc + 1 = pc') (k : ∀ h', Keep h h' [a] → own_A Z h' a .byte (vs.set j.toNatClampNeg (.int (nar .byte u))) → own_W l Z y bytes ml ret R n0 Q h' cells slots pc' Ls st) : own_W l Z y bytes ml ret R n0 Q h cells slots pc Ls (.int u :: .int j :: .ref a :: st) := by
  intro p e s m args below meth c T locs hx hZ hown hby hml hret hlk hnm hce hsl X eT N
  subst hp
  obtain ⟨cl, A, q, hl, hft⟩ := A
  obtain ⟨T', h', X', e', W', st'⟩ := stB X hx hZ eT A (own_in q h0 h1) (g := mkF m pc Ls (.int u :: .int j :: .ref a :: st)) rfl rfl (hb hby hd)
  obtain ⟨s₂, o, h1, h2⟩ := k h' (Keep.of_wr W') (own_A.set A q hl hft (fits_nar_byte u) W') p e s m args below meth c T' _ hx hZ hown hby hml hret hlk hnm hce hsl X' e' (Fr.snoc X' N ge)
  exact ⟨s₂, o, st' _ h1, h2⟩
theorem own_zastore {a : Addr} {vs : List Value} {j : Int32} {u : Int32} (A : own_A Z h a .boolean vs) (h0 : ¬ j < 0) (h1 : j.toNatClampNeg < vs.length) (ge : n0 ≤ a) (hd : decode bytes pc = .ok (.bastore, 1)) (hp : pc + 1 = pc') (k : ∀ h', Keep h h' [a] → own_A Z h' a .boolean (vs.set j.toNatClampNeg (.int (nar .boolean u))) → own_W l Z y bytes ml ret R n0 Q h' cells slots pc' Ls st) : own_W l Z y bytes ml ret R n0 Q h cells slots pc Ls (.int u :: .int j :: .ref a :: st) := by
  intro p e s m args below meth c T locs hx hZ hown hby hml hret hlk hnm hce hsl X eT N
  subst hp
  obtain ⟨cl, A, q, hl, hft⟩ := A
  obtain ⟨T', h', X', e', W', st'⟩ := stZ X hx hZ eT A (own_in q h0 h1) (g := mkF m pc Ls (.int u :: .int j :: .ref a :: st)) rfl rfl (hb hby hd)
  obtain ⟨s₂, o, h1, h2⟩ := k h' (Keep.of_wr W') (own_A.set A q hl hft (fits_nar_bool u) W') p e s m args below meth c T' _ hx hZ hown hby hml hret hlk hnm hce hsl X' e' (Fr.snoc X' N ge)
  exact ⟨s₂, o, st' _ h1, h2⟩
theorem own_newarrE {aty : ArrayType} {ty : FieldType} {n : Int32} {cap : Nat} (w : (Jvm.Cond.arrayClass ty).before a0 Z = true) (ht : newarray.typeOf aty = ty) (hd : decode bytes pc = .ok (.newarray aty, 2)) (hp : pc + 2 = pc') (hn : ¬ n < 0) (hcap : n.toNatClampNeg ≤ cap) (hb8 : cap * 8 ≤ 536870912) (hc : cells + 1 ≤ R.cells) (hl : slots + cap ≤ R.slots)
    (k : ∀ (h' : Heap) (a : Addr), h.size ≤ a → a < h'.size → Ext h h' → own_A Z h' a ty (List.replicate n.toNatClampNeg (defaultValue ty)) → Exa Z h' a ("[" ++ ty.toString) → own_W l Z y bytes ml ret R n0 Q h' (cells + 1) (slots + cap) pc' Ls (.ref a :: st)) : own_W l Z y bytes ml ret R n0 Q h cells slots pc Ls (.int n :: st) := by
  intro p e s m args below meth c T locs hx hZ hown hby hml hret hlk hnm hce hsl X eT N
  subst hp ht
  have hcb : componentBytes (newarray.typeOf aty) ≤ 8 := by cases aty <;> decide
  obtain ⟨cA, kA, comp, g1, g2, g3, X', st'⟩ := X.newarrayPrim hx (mvA hZ w) (g := mkF m pc Ls (.int n :: st)) rfl (hb hby hd) rfl hn (Nat.le_trans (Nat.mul_le_mul hcap hcb) hb8) hc (by omega)
  rw [hZ.alike.findClass] at g1
  obtain ⟨kZ, z1, -⟩ := Vm.findClass_spec g1
  obtain ⟨k', z2, z3⟩ := hZ.alike.2.2 _ _ z1
  cases g2.symm.trans z2
  have kk : kZ.kind = .array comp (newarray.typeOf aty) := by rw [← g3, z3]
  have hN : (T.heap.push ({ cls := cA, slots := Array.replicate n.toNatClampNeg (defaultValue (newarray.typeOf aty)), vm := .none } : Cell))[T.heap.size]? = some { cls := cA, slots := Array.replicate n.toNatClampNeg (defaultValue (newarray.typeOf aty)), vm := .none } := by simp
  have E' : Ext h (T.heap.push ({ cls := cA, slots := Array.replicate n.toNatClampNeg (defaultValue (newarray.typeOf aty)), vm := .none } : Cell)) := by
    subst eT
    refine ⟨by simp, fun b cc hb' => ?_⟩
    rw [Array.getElem?_push_lt (Array.getElem?_eq_some_iff.mp hb').1]; exact (Array.getElem?_eq_getElem _).symm.trans hb'
  have A' : own_A Z (T.heap.push ({ cls := cA, slots := Array.replicate n.toNatClampNeg (defaultValue (newarray.typeOf aty)), vm := .none } : Cell)) T.heap.size (newarray.typeOf aty) (List.replicate n.toNatClampNeg (defaultValue (newarray.typeOf aty))) :=
    ⟨_, ⟨hN, ⟨by simp, kZ, z1, comp, kk⟩, by simp⟩, by simp, by simp only [List.length_replicate]; exact (back32 hn).2, fun v hv => by rw [(List.mem_replicate.mp hv).2]; exact own_fitd _⟩
  have X2 := X'.more (Nat.le_refl _) (Nat.add_le_add_left hcap slots)
  obtain ⟨s₂, o, h1, h2⟩ := k _ T.heap.size (by rw [eT]; exact Nat.le_refl _) A'.lt E' A' ⟨_, kZ, hN, g1, z1, rfl, fun q => by rw [kk] at q; cases q⟩ p e s m args below meth c _ _ hx hZ hown hby hml hret hlk hnm hc hl X2 rfl N
  exact ⟨s₂, o, st' _ h1, h2⟩
theorem own_newarr {aty : ArrayType} {ty : FieldType} {n : Int32} {cap : Nat} (w : (Jvm.Cond.arrayClass ty).before a0 Z = true) (ht : newarray.typeOf aty = ty) (hd : decode bytes pc = .ok (.newarray aty, 2)) (hp : pc + 2 = pc') (hn : ¬ n < 0) (hcap : n.toNatClampNeg ≤ cap) (hb8 : cap * 8 ≤ 536870912) (hc : cells + 1 ≤ R.cells) (hl : slots + cap ≤ R.slots)
    (k : ∀ (h' : Heap) (a : Addr), h.size ≤ a → a < h'.size → Ext h h' → own_A Z h' a ty (List.replicate n.toNatClampNeg (defaultValue ty)) → own_W l Z y bytes ml ret R n0 Q h' (cells + 1) (slots + cap) pc' Ls (.ref a :: st)) : own_W l Z y bytes ml ret R n0 Q h cells slots pc Ls (.int n :: st) :=
  own_newarrE w ht hd hp hn hcap hb8 hc hl fun h' a q1 q2 q3 q4 _ => k h' a q1 q2 q3 q4
theorem own_cast {idx : Nat} {K : String} {a : Addr} (w : (Jvm.Cond.classLink y.cls idx K).before a0 Z = true) (F : Ins Z h a K true) (hd : decode bytes pc = .ok (.checkcast idx, 3)) (hp : pc + 3 = pc') (k : own_W l Z y bytes ml ret R n0 Q h cells slots pc' Ls (.ref a :: st)) : own_W l Z y bytes ml ret R n0 Q h cells slots pc Ls (.ref a :: st) := by
  intro p e s m args below meth c T locs hx hZ hown hby hml hret hlk hnm hce hsl X eT N
  subst hp
  obtain ⟨T', X', e', st'⟩ := castY X hx hZ hown w eT F (g := mkF m pc Ls (.ref a :: st)) rfl rfl (hb hby hd)
  obtain ⟨s₂, o, h1, h2⟩ := k p e s m args below meth c T' locs hx hZ hown hby hml hret hlk hnm hce hsl X' e' N
  exact ⟨s₂, o, st' _ h1, h2⟩
theorem own_clone {ad : String} {idx W cap : Nat} {a : Addr} {ty : FieldType} {vs : List Value} (w1 : (Jvm.Cond.methodLink y.cls idx ⟨ad, "clone", "()Ljava/lang/Object;"⟩).before a0 Z = true) (w2 : (Jvm.Cond.sameMethod ad "java/lang/Object" "clone" "()Ljava/lang/Object;").before a0 Z = true) (w3 : (Jvm.Cond.native ⟨"java/lang/Object", "clone", "()Ljava/lang/Object;"⟩).before a0 Z = true)
    (w4 : (Jvm.Cond.instanceMethod ⟨"java/lang/Object", "clone", "()Ljava/lang/Object;"⟩).before a0 Z = true) (w5 : (Jvm.Cond.selects ad ⟨ad, "clone", "()Ljava/lang/Object;"⟩ ⟨"java/lang/Object", "clone", "()Ljava/lang/Object;"⟩).before a0 Z = true) (w6 : (Jvm.Cond.castable ad "java/lang/Cloneable").before a0 Z = true)
    (A : own_A Z h a ty vs) (E : Exa Z h a ad) (hd : decode bytes pc = .ok (.invokevirtual idx, 3)) (hp : pc + 3 = pc') (hsz : Ls.size = ml) (hf : 1 ≤ R.frames) (hW : (st.map fun v => v.category).sum ≤ W) (hl : W + 14 ≤ R.locals) (hcap : vs.length ≤ cap) (hc : cells + 1 ≤ R.cells) (hsl' : slots + cap ≤ R.slots)
    (k : ∀ (h' : Heap) (b : Addr), h.size ≤ b → b < h'.size → Ext h h' → own_A Z h' b ty vs → Exa Z h' b ad → own_W l Z y bytes ml ret R n0 Q h' (cells + 1) (slots + cap) pc' Ls (.ref b :: st)) : own_W l Z y bytes ml ret R n0 Q h cells slots pc Ls (.ref a :: st) := by
  intro p e s m args below meth c T locs hx hZ hown hby hml hret hlk hnm hce hsl X eT N
  subst hp
  obtain ⟨cl, A, q, hlen, hft⟩ := A
  have F : FitC Z cl := fun i v hv => by
    obtain ⟨-, k, hk, comp, hkind⟩ := A.2.1
    have e1 : Z.slotType? cl.cls .none i = some ty := by simp [State.slotType?, hk, hkind]
    have mem : v ∈ vs := by rw [← q]; rw [← Array.getElem?_toList] at hv; exact List.mem_of_getElem? hv
    simpa [State.fitsSlot, e1] using hft v mem
  obtain ⟨T', h', X', e', E', A', E2, st'⟩ := cloneA X hx hZ hown w1 w2 w3 w4 w5 w6 eT A E F (g := mkF m pc Ls (.ref a :: st)) rfl (by rw [hml]; exact hsz) rfl (hb hby hd) hf (W := W) (by show 2 * 0 + _ ≤ _; omega) hl (cap := cap) (by rw [own_size q]; exact hcap) hc hsl'
  obtain ⟨s₂, o, h1, h2⟩ := k h' h.size (Nat.le_refl _) A'.lt E' ⟨_, A', q, hlen, hft⟩ E2 p e s m args below meth c T' locs hx hZ hown hby hml hret hlk hnm hc hsl' X' e' N
  exact ⟨s₂, o, st' _ h1, h2⟩
theorem own_getD {α : Type} (l : List α) (d : α) {i : Nat} (h : i < l.length) : l.getD i d = l[i] := by
  rw [List.getD_eq_getElem?_getD, List.getElem?_eq_getElem h]; rfl
theorem own_len32 {n : Nat} (h : n < 2 ^ 31) : n.toInt32.toNatClampNeg = n ∧ ¬ n.toInt32 < 0 := by
  have e := len_toInt h
  have z : (0 : Int32).toInt = 0 := rfl
  exact ⟨by rw [Int32.toNatClampNeg, e]; rfl, by rw [Int32.lt_iff_toInt_lt, e, z]; omega⟩
theorem own_A.arv {a : Addr} {ty : FieldType} {vs : List Value} (A : own_A Z h a ty vs) (d : Value) : ∃ k, Arv Z h a k ty vs.length.toInt32 vs d := by
  obtain ⟨c, A, q, hl, hft⟩ := A
  have e := own_len32 hl
  refine ⟨c.cls, c, A, rfl, by rw [e.1]; exact own_size q, e.2, fun k hk => ?_, fun k hk => ?_⟩
  · rw [own_size q] at hk
    refine own_get q ?_
    rw [own_getD _ _ hk]; exact List.getElem?_eq_getElem hk
  · rw [own_size q] at hk
    rw [own_getD _ _ hk]; exact hft _ (List.getElem_mem hk)
theorem own_A.ofArv {a : Addr} {ty : FieldType} {vs : List Value} {k : ClassId} {z : Int32} {d : Value} (A : Arv Z h a k ty z vs d) (hz : z.toNatClampNeg = vs.length) (hl : vs.length < 2 ^ 31) : own_A Z h a ty vs := by
  obtain ⟨c, A, -, hs, -, H, G⟩ := A
  have e : c.slots.toList = vs := by
    apply List.ext_getElem?
    intro i
    by_cases hi : i < vs.length
    · rw [Array.getElem?_toList, H i (by omega), own_getD _ _ hi, List.getElem?_eq_getElem hi]
    · rw [List.getElem?_eq_none (by rw [Array.length_toList]; omega), List.getElem?_eq_none (by omega)]
  refine ⟨c, A, e, hl, fun v hv => ?_⟩
  obtain ⟨i, hi, rfl⟩ := List.mem_iff_getElem.mp hv
  have := G i (by omega)
  rwa [own_getD _ _ hi] at this
theorem own_slice (vs : List Value) (d : Value) (p n : Nat) (h : p + n ≤ vs.length) : (vs.drop p).take n = (List.range n).map fun i => vs.getD (p + i) d := by
  apply List.ext_getElem
  · simp; omega
  · intro i h1 h2
    simp only [List.length_map, List.length_range] at h2
    simp [List.getD_eq_getElem?_getD, show p + i < vs.length by omega]
theorem own_acopy {idx W : Nat} {a b : Addr} {ty : FieldType} {vs vd : List Value} {sp dp nn : Int32} (w1 : (Jvm.Cond.methodLink y.cls idx Jvm.Stand.acN).before a0 Z = true) (w2 : (Jvm.Cond.native Jvm.Stand.acN).before a0 Z = true) (w3 : (Jvm.Cond.static Jvm.Stand.acN).before a0 Z = true) (w4 : (Jvm.Cond.initialized "java/lang/System").before a0 Z = true)
    (A : own_A Z h a ty vs) (B : own_A Z h b ty vd) (hty : refKind ty = false) (h1 : ¬ sp < 0) (h2 : ¬ dp < 0) (h3 : ¬ nn < 0) (h4 : sp.toNatClampNeg + nn.toNatClampNeg ≤ vs.length) (h5 : dp.toNatClampNeg + nn.toNatClampNeg ≤ vd.length) (ge : n0 ≤ b)
    (hd : decode bytes pc = .ok (.invokestatic idx, 3)) (hp : pc + 3 = pc') (hsz : Ls.size = ml) (hf : 1 ≤ R.frames) (hW : (st.map fun v => v.category).sum ≤ W) (hlo : W + (nativeFrameWords "java/lang/System" "arraycopy" 5 + 11) ≤ R.locals)
    (k : ∀ h', Keep h h' [b] → own_A Z h' b ty (vd.take dp.toNatClampNeg ++ (vs.drop sp.toNatClampNeg).take nn.toNatClampNeg ++ vd.drop (dp.toNatClampNeg + nn.toNatClampNeg)) → own_W l Z y bytes ml ret R n0 Q h' cells slots pc' Ls st) : own_W l Z y bytes ml ret R n0 Q h cells slots pc Ls (.int nn :: .int dp :: .ref b :: .int sp :: .ref a :: st) := by
  intro p e s m args below meth c T locs hx hZ hown hby hml hret hlk hnm hce hsl X eT N
  subst hp
  have hlv : vs.length < 2 ^ 31 := by obtain ⟨_, _, _, q, _⟩ := A; exact q
  have hld : vd.length < 2 ^ 31 := by obtain ⟨_, _, _, q, _⟩ := B; exact q
  obtain ⟨k1, A1⟩ := A.arv .null
  obtain ⟨k2, B1⟩ := B.arv .null
  have e1 := own_len32 hlv
  have e2 := own_len32 hld
  obtain ⟨T', h', L, X', e', N', K', B', st'⟩ := cpA X hx hZ hown w1 w2 w3 w4 eT A1 B1 (Or.inl ⟨rfl, hty⟩) h1 h2 h3 (by rw [e1.1]; exact h4) (by rw [e2.1]; exact h5) (own_slice vs .null _ _ h4) h5 N ge (g := mkF m pc Ls (.int nn :: .int dp :: .ref b :: .int sp :: .ref a :: st)) rfl (by rw [hml]; exact hsz) rfl (hb hby hd) hf (W := W) (by show 2 * 0 + _ ≤ _; omega) hlo
  have hlen : (vd.take dp.toNatClampNeg ++ (vs.drop sp.toNatClampNeg).take nn.toNatClampNeg ++ vd.drop (dp.toNatClampNeg + nn.toNatClampNeg)).length = vd.length := by
    simp only [List.length_append, List.length_take, List.length_drop]; omega
  obtain ⟨s₂, o, q1, q2⟩ := k h' K' (own_A.ofArv B' (by rw [e2.1, hlen]) (by rw [hlen]; exact hld)) p e s m args below meth c T' L hx hZ hown hby hml hret hlk hnm hce hsl X' e' N'
  exact ⟨s₂, o, st' _ q1, q2⟩
theorem own_met {z : MethodName} {rm : Room} {argsL : List Value} {Lc : Array Slot} (hC : own_W l Z z bytes ml ret rm n0 Q h 0 0 0 Lc []) (pn : plainFor z = true) (hent : Jvm.Sym.laidSlots argsL ++ List.replicate (ml - (Jvm.Sym.laidSlots argsL).length) .unset = Lc.toList) (ws : List Jvm.Cond) :
    MetFree l z (head1 (Jvm.Cond.code z bytes ml ret :: ws) rm) (fun a U => a = argsL.toArray ∧ Z.Warmed39 U.vm ∧ U.heap = h) (fun _ _ _ _ _ => True) (fun _ U o U' => ∃ v L, o = .returned v ∧ (Q v U'.heap ∧ Fr n0 L) ∧ FrameEnd U o U' L rm.cells rm.slots) := by
  refine MetFree.of_bodySF pn hisR ?_
  intro p e s m args below meth c s₁ Bd hml0 hP hK
  obtain ⟨rfl, hZ, hh⟩ := hP
  obtain ⟨s₂, o, h1, h2, h3, h4⟩ := hC p e s m _ below meth c s₁ [] Bd.exec hZ (findClass_of_methodNamed Bd.named) Bd.bytes hml0 Bd.returns Bd.notSynchronized (name_of_methodNamed Bd.named Bd.method).1 (Nat.zero_le _) (Nat.zero_le _) (Stand.of_body Bd) (by rw [← hh, Bd.state]; rfl) (Fr.nil n0)
  exact ⟨s₂, o, (XT.entry (by simpa using hent)).trans h1, h2, h3, h4⟩
theorem own_static {z : MethodName} {bytes' : ByteArray} {ml' : Nat} {ret' : Option FieldType} {rm : Room} {Qc : Option Value → Heap → Prop} {Lc : Array Slot} {argsL rest : List Value} {ps : List FieldType} {rt : Option FieldType} {idx W : Nat} (hC : own_W l Z z bytes' ml' ret' rm n0 Qc h 0 0 0 Lc []) (w1 : (Jvm.Cond.methodLink y.cls idx z).before a0 Z = true) (w2 : (Jvm.Cond.static z).before a0 Z = true) (w3 : (Jvm.Cond.initialized z.cls).before a0 Z = true) (w4 : (Jvm.Cond.code z bytes' ml' ret').before a0 Z = true) (pn : plainFor z = true) (hy : z.cls ≠ "java/lang/invoke/MethodHandle" ∧ z.cls ≠ "java/lang/invoke/VarHandle") (pd : parseMethodDescriptor z.desc = some ⟨ps, rt⟩) (hlen : argsL.length = ps.length)
    (hst : st = argsL.reverse ++ rest) (hent : Jvm.Sym.laidSlots argsL ++ List.replicate (ml' - (Jvm.Sym.laidSlots argsL).length) .unset = Lc.toList) (hW : (rest.map fun v => v.category).sum ≤ W) (hfr : rm.frames + 1 ≤ R.frames) (hlo : W + (ml' + 11) + rm.locals ≤ R.locals) (hce' : cells + rm.cells ≤ R.cells) (hsl' : slots + rm.slots ≤ R.slots) (hsz : Ls.size = ml) (hd : decode bytes pc = .ok (.invokestatic idx, 3)) (hp : pc + 3 = pc') (k : ∀ v h', Qc v h' → own_W l Z y bytes ml ret R n0 Q h' (cells + rm.cells) (slots + rm.slots) pc' Ls (v.toList ++ rest)) : own_W l Z y bytes ml ret R n0 Q h cells slots pc Ls st := by
  intro p e s m args below meth c T locs hx hZ hown hby hml hret hlk hnm hce hsl X eT N
  subst hp
  obtain ⟨v, vm₁, ⟨T1, L1, k1, n1⟩, -, X1, ⟨Lc1, hQ1, l1, y1, z1⟩, st1⟩ := Jvm.LawKit.callS X hx (y := z) hown (mvT hZ w1) (mvT hZ w2) (mvT hZ w3) (mvT hZ w4) hy (backOf (W := W) (Q := fun v h L => Qc v h ∧ Fr n0 L) (own_met hC pn hent []) hZ w4 w3 hfr hlo) (g := mkF m pc Ls st) rfl (by rw [hml]; exact hsz) (argsL := argsL) (rest := rest) (lenOf pd hlen) hst (by show 2 * 0 + _ ≤ _; omega) (hb hby hd) (fun _ _ => ⟨rfl, eT, hce', hsl'⟩)
  dsimp only [Pt.U, Pt.locs, Pt.cells, Pt.slots] at X1 l1 y1 z1 st1 hQ1
  subst l1 y1 z1
  obtain ⟨s₂, o, h1, h2⟩ := k v T1.heap hQ1.1 p e s m args below meth c T1 _ hx hZ hown hby hml hret hlk hnm hce' hsl' X1 rfl (Fr.app N hQ1.2)
  exact ⟨s₂, o, st1 _ h1, h2⟩
theorem own_special {z : MethodName} {bytes' : ByteArray} {ml' : Nat} {ret' : Option FieldType} {rm : Room} {Qc : Option Value → Heap → Prop} {Lc : Array Slot} {argsL rest : List Value} {ps : List FieldType} {rt : Option FieldType} {idx W : Nat} {a : Addr} (hC : own_W l Z z bytes' ml' none rm n0 Qc h 0 0 0 Lc []) (w1 : (Jvm.Cond.methodLink y.cls idx z).before a0 Z = true) (w2 : (Jvm.Cond.instanceMethod z).before a0 Z = true) (w3 : (Jvm.Cond.initialized z.cls).before a0 Z = true) (w4 : (Jvm.Cond.code z bytes' ml' none).before a0 Z = true) (hzn : z.name = "<init>") (pn : plainFor z = true) (hy : z.cls ≠ "java/lang/invoke/MethodHandle" ∧ z.cls ≠ "java/lang/invoke/VarHandle") (pd : parseMethodDescriptor z.desc = some ⟨ps, rt⟩) (hlen : argsL.length = ps.length)
    (hst : st = argsL.reverse ++ .ref a :: rest) (hent : Jvm.Sym.laidSlots (.ref a :: argsL) ++ List.replicate (ml' - (Jvm.Sym.laidSlots (.ref a :: argsL)).length) .unset = Lc.toList) (hW : (rest.map fun v => v.category).sum ≤ W) (hfr : rm.frames + 1 ≤ R.frames) (hlo : W + (ml' + 11) + rm.locals ≤ R.locals) (hce' : cells + rm.cells ≤ R.cells) (hsl' : slots + rm.slots ≤ R.slots) (hsz : Ls.size = ml) (hd : decode bytes pc = .ok (.invokespecial idx, 3)) (hp : pc + 3 = pc') (k : ∀ v h', Qc v h' → own_W l Z y bytes ml ret R n0 Q h' (cells + rm.cells) (slots + rm.slots) pc' Ls (v.toList ++ rest)) : own_W l Z y bytes ml ret R n0 Q h cells slots pc Ls st := by
  intro p e s m args below meth c T locs hx hZ hown hby hml hret hlk hnm hce hsl X eT N
  subst hp
  obtain ⟨v, vm₁, ⟨T1, L1, k1, n1⟩, -, X1, ⟨Lc1, hQ1, l1, y1, z1⟩, st1⟩ := X.specialBack hx (y := z) hzn hown (mvT hZ w1) (mvT hZ w2) (mvT hZ w4) hy (backOf (W := W) (Q := fun v h L => Qc v h ∧ Fr n0 L) (own_met hC pn hent []) hZ w4 w3 hfr hlo) (g := mkF m pc Ls st) rfl (by rw [hml]; exact hsz) (Steps.refl _) (a := a) (argsL := argsL) (rest := rest) (lenOf pd hlen) hst (by show 2 * 0 + _ ≤ _; omega) (hb hby hd) (fun _ _ => ⟨rfl, eT, hce', hsl'⟩)
  dsimp only [Pt.U, Pt.locs, Pt.cells, Pt.slots] at X1 l1 y1 z1 st1 hQ1
  subst l1 y1 z1
  obtain ⟨s₂, o, h1, h2⟩ := k v T1.heap hQ1.1 p e s m args below meth c T1 _ hx hZ hown hby hml hret hlk hnm hce' hsl' X1 rfl (Fr.app N hQ1.2)
  exact ⟨s₂, o, st1.trans h1, h2⟩
theorem own_virtual {z : MethodName} {bytes' : ByteArray} {ml' : Nat} {ret' : Option FieldType} {rm : Room} {Qc : Option Value → Heap → Prop} {Lc : Array Slot} {argsL rest : List Value} {ps : List FieldType} {rt : Option FieldType} {idx W : Nat} {a : Addr} {C : String} (hC : own_W l Z z bytes' ml' ret' rm n0 Qc h 0 0 0 Lc []) (E : Exa Z h a C) (w1 : (Jvm.Cond.methodLink y.cls idx z).before a0 Z = true) (w2 : (Jvm.Cond.declares z).before a0 Z = true) (w5 : (Jvm.Cond.selects C z z).before a0 Z = true) (w6 : (Jvm.Cond.instanceMethod z).before a0 Z = true) (w3 : (Jvm.Cond.initialized z.cls).before a0 Z = true) (w4 : (Jvm.Cond.code z bytes' ml' ret').before a0 Z = true) (pn : plainFor z = true) (hy : z.cls ≠ "java/lang/invoke/MethodHandle" ∧ z.cls ≠ "java/lang/invoke/VarHandle") (pd : parseMethodDescriptor z.desc = some ⟨ps, rt⟩) (hlen : argsL.length = ps.length)
    (hst : st = argsL.reverse ++ .ref a :: rest) (hent : Jvm.Sym.laidSlots (.ref a :: argsL) ++ List.replicate (ml' - (Jvm.Sym.laidSlots (.ref a :: argsL)).length) .unset = Lc.toList) (hW : (rest.map fun v => v.category).sum ≤ W) (hfr : rm.frames + 1 ≤ R.frames) (hlo : W + (ml' + 11) + rm.locals ≤ R.locals) (hce' : cells + rm.cells ≤ R.cells) (hsl' : slots + rm.slots ≤ R.slots) (hsz : Ls.size = ml) (hd : decode bytes pc = .ok (.invokevirtual idx, 3)) (hp : pc + 3 = pc') (k : ∀ v h', Qc v h' → own_W l Z y bytes ml ret R n0 Q h' (cells + rm.cells) (slots + rm.slots) pc' Ls (v.toList ++ rest)) : own_W l Z y bytes ml ret R n0 Q h cells slots pc Ls st := by
  intro p e s m args below meth c T locs hx hZ hown hby hml hret hlk hnm hce hsl X eT N
  subst hp
  obtain ⟨cq, kq, qa, qb, qc⟩ := isOf hZ eT E
  obtain ⟨v, vm₁, ⟨T1, L1, k1, n1⟩, -, X1, ⟨Lc1, hQ1, l1, y1, z1⟩, st1⟩ := X.virtualBack hx (y := z) (z := z) hown (mvT hZ w1) (mvT hZ w2) (notFace_of_selects (args := #[]) (mvT hZ w5)) (mvT hZ w5) (mvT hZ w6) hy (backOf (W := W) (Q := fun v h L => Qc v h ∧ Fr n0 L) (own_met hC pn hent []) hZ w4 w3 hfr hlo) qa qc (g := mkF m pc Ls st) rfl (by rw [hml]; exact hsz) (Steps.refl _) (argsL := argsL) (rest := rest) (lenOf pd hlen) hst (by show 2 * 0 + _ ≤ _; omega) (hb hby hd) (fun _ _ => ⟨rfl, eT, hce', hsl'⟩)
  dsimp only [Pt.U, Pt.locs, Pt.cells, Pt.slots] at X1 l1 y1 z1 st1 hQ1
  subst l1 y1 z1
  obtain ⟨s₂, o, h1, h2⟩ := k v T1.heap hQ1.1 p e s m args below meth c T1 _ hx hZ hown hby hml hret hlk hnm hce' hsl' X1 rfl (Fr.app N hQ1.2)
  exact ⟨s₂, o, st1.trans h1, h2⟩
theorem own_private {z : MethodName} {bytes' : ByteArray} {ml' : Nat} {ret' : Option FieldType} {rm : Room} {Qc : Option Value → Heap → Prop} {Lc : Array Slot} {argsL rest : List Value} {ps : List FieldType} {rt : Option FieldType} {idx W : Nat} {a : Addr} {C : String} {kk : Nat} (hC : own_W l Z z bytes' ml' ret' rm n0 Qc h 0 0 0 Lc []) (E : Exa Z h a C) (w1 : (Jvm.Cond.methodLink y.cls idx z).before a0 Z = true) (w6 : (Jvm.Cond.instanceMethod z).before a0 Z = true) (wp : (Jvm.Cond.privateMethod z).before a0 Z = true) (wi : (Jvm.Cond.instantiable z.cls kk).before a0 Z = true) (w3 : (Jvm.Cond.initialized z.cls).before a0 Z = true) (w4 : (Jvm.Cond.code z bytes' ml' ret').before a0 Z = true) (pn : plainFor z = true) (hy : z.cls ≠ "java/lang/invoke/MethodHandle" ∧ z.cls ≠ "java/lang/invoke/VarHandle") (pd : parseMethodDescriptor z.desc = some ⟨ps, rt⟩) (hlen : argsL.length = ps.length)
    (hst : st = argsL.reverse ++ .ref a :: rest) (hent : Jvm.Sym.laidSlots (.ref a :: argsL) ++ List.replicate (ml' - (Jvm.Sym.laidSlots (.ref a :: argsL)).length) .unset = Lc.toList) (hW : (rest.map fun v => v.category).sum ≤ W) (hfr : rm.frames + 1 ≤ R.frames) (hlo : W + (ml' + 11) + rm.locals ≤ R.locals) (hce' : cells + rm.cells ≤ R.cells) (hsl' : slots + rm.slots ≤ R.slots) (hsz : Ls.size = ml) (hd : decode bytes pc = .ok (.invokevirtual idx, 3)) (hp : pc + 3 = pc') (k : ∀ v h', Qc v h' → own_W l Z y bytes ml ret R n0 Q h' (cells + rm.cells) (slots + rm.slots) pc' Ls (v.toList ++ rest)) : own_W l Z y bytes ml ret R n0 Q h cells slots pc Ls st := by
  intro p e s m args below meth c T locs hx hZ hown hby hml hret hlk hnm hce hsl X eT N
  subst hp
  obtain ⟨c2, k2, i1, i2, i3, i4, -⟩ := Cond.instantiable_spec (mvT (args := args) hZ wi)
  have hpr := Cond.privateMethod_at (mvP (args := #[]) hZ wp)
  have hsel := Jvm.Stand.selects_self_of_private (args := args) i1 i2 (Bool.or_eq_false_iff.mp i4).1 hpr (mvT hZ w6) hy
  obtain ⟨cell, qc, qo⟩ := E.cell
  obtain ⟨v, vm₁, ⟨T1, L1, k1, n1⟩, -, X1, ⟨Lc1, hQ1, l1, y1, z1⟩, st1⟩ := X.privateBack hx (y := z) hown (mvT hZ w1) (mvT hZ w6) hsel hpr (mvT hZ w4) hy (backOf (W := W) (Q := fun v h L => Qc v h ∧ Fr n0 L) (own_met hC pn hent []) hZ w4 w3 hfr hlo) (g := mkF m pc Ls st) rfl (by rw [hml]; exact hsz) (Steps.refl _) (a := a) (by rw [eT]; exact qc) qo (argsL := argsL) (rest := rest) (lenOf pd hlen) hst (by show 2 * 0 + _ ≤ _; omega) (hb hby hd) (fun _ _ => ⟨rfl, eT, hce', hsl'⟩)
  dsimp only [Pt.U, Pt.locs, Pt.cells, Pt.slots] at X1 l1 y1 z1 st1 hQ1
  subst l1 y1 z1
  obtain ⟨s₂, o, h1, h2⟩ := k v T1.heap hQ1.1 p e s m args below meth c T1 _ hx hZ hown hby hml hret hlk hnm hce' hsl' X1 rfl (Fr.app N hQ1.2)
  exact ⟨s₂, o, st1.trans h1, h2⟩
theorem own_refBack {p : Program} {e : Env} {s : State} {m : MethodId} {args : Array Value} {below : List Frame} {meth : Method} {c : Code} {T : State} {locs : List Loc} (X : Stand p l e R s m args below meth c T locs cells slots) (hexec : p.tables.exec = Jvm.exec) (hZ : Z.Warmed39 s.vm) {own : String} {index : Nat} {z : MethodName} (hzn : z.name = "<init>")
    (hown : s.vm.findClass own = some m.cls) (w1 : (Jvm.Cond.methodRef own index z).before a0 Z = true) (w2 : (Jvm.Cond.instanceMethod z).before a0 Z = true) {bytes' : ByteArray} {maxL : Nat} (w4 : (Jvm.Cond.code z bytes' maxL none).before a0 Z = true)
    (hy : z.cls ≠ "java/lang/invoke/MethodHandle" ∧ z.cls ≠ "java/lang/invoke/VarHandle") {W : Nat} {Pre : Pt → Array Value → Prop} {Post : Pt → Array Value → Option Value → Pt → Prop} (hK : Back l R p e below s args z 3 W Pre Post)
    {g : JFrame} (hg : g.method = m) (hsize : g.locals.size = c.maxLocals) {a : Addr} {argsL rest : List Value} (hlen : ∀ sig, parseMethodDescriptor z.desc = some sig → argsL.length = sig.parameters.length) (hstack : g.stack = argsL.reverse ++ .ref a :: rest) (hW : 2 * g.monitorRoom + (rest.map fun v => v.category).sum ≤ W)
    (hdg : decode c.code g.pc = .ok (.invokespecial index, 3)) (hpre : Pre ⟨T, locs, cells, slots⟩ (.ref a :: argsL).toArray) :
    ∃ (v : Option Value) (B : Pt), Stand p l e R s m args below meth c B.U B.locs B.cells B.slots ∧ Post ⟨T, locs, cells, slots⟩ (.ref a :: argsL).toArray v B ∧ Steps p.tables e below (T.setTop g) (B.U.setTop { g with pc := g.pc + 3, stack := v.toList ++ rest }) := by
  obtain ⟨obj, methO, hnO, hmO, hstO, habO⟩ := Cond.instanceMethod_spec (mvT (args := args) hZ w2)
  obtain ⟨methO', cO, hmO', hcO, -, -, -, -, -, hsigO⟩ := Cond.code_spec hnO (mvT (args := args) hZ w4)
  cases hmO.symm.trans hmO'
  obtain ⟨kO, hkO, hnameO⟩ := className_of_methodNamed hnO
  obtain ⟨hnameMO, hdescO⟩ := name_of_methodNamed hnO hmO
  have hU : Z.Warmed39 T.vm := wtrans hZ X.warmed
  obtain ⟨objZ, methZ, hnZ, -⟩ := Cond.instanceMethod_spec w2
  have hT := Cond.methodRef_warmed39 hU hnZ hy w1
  have hownT : (Z.setVm T.vm).vm.findClass own = some m.cls := by show T.vm.findClass own = _; rw [X.warmed.alike.findClass]; exact hown
  obtain ⟨m', c', f1, f2, f3, f4⟩ := Cond.methodRef_named (s := Z.setVm T.vm) e hownT hT
  have hnT : T.methodNamed? z = some obj := X.named hnO
  have hn' : (Z.setVm T.vm).methodNamed? z = some obj := hnT
  cases (State.methodFound?_of_named hn' hy).symm.trans f1
  cases (findClass_of_methodNamed hn').symm.trans f3
  obtain ⟨kO', hkT, -⟩ := X.warmed.alike.2.2 _ _ hkO
  have hmT : T.vm.method? obj = some methO := by rw [X.warmed.alike.method?]; exact hmO
  have hfound : lookupSpecial T.vm obj.cls "<init>" methO.desc = .method obj := by rw [hdescO, ← hzn]; exact lookupSpecial_of_named hnT hmT hstO
  have hstep : ∀ target, (∀ acts, Steps p.tables e below (doInvoke e (T.setTop { g with stack := rest }) acts obj (.ref a :: argsL).toArray).1 target) → Steps p.tables e below (T.setTop g) target := by
    intro target hrest
    subst hg
    jvm_step X.here [hexec, hdg, invokespecial.wp_init (e := e) (s := T) (k := kO') (meth := methO) (m := obj) (a := a) (args := argsL) (rest := rest) (f := g) X.here.top f4 f2 hkT hmT (by rw [hnameMO]; exact hzn) hstO habO hfound (hlen _ hsigO) hstack]
    exact hrest
  obtain ⟨v, B, X', hpost, hsteps⟩ := hK m meth c ⟨T, locs, cells, slots⟩ { g with stack := rest } (.invokespecial index) obj (.ref a :: argsL).toArray X hg hsize hdg hW hnT hpre
  exact ⟨v, B, X', hpost, hstep _ fun acts => by rw [doInvoke_state]; exact hsteps⟩
theorem own_specialRef {z : MethodName} {bytes' : ByteArray} {ml' : Nat} {ret' : Option FieldType} {rm : Room} {Qc : Option Value → Heap → Prop} {Lc : Array Slot} {argsL rest : List Value} {ps : List FieldType} {rt : Option FieldType} {idx W : Nat} {a : Addr} (hC : own_W l Z z bytes' ml' none rm n0 Qc h 0 0 0 Lc []) (w1 : (Jvm.Cond.methodRef y.cls idx z).before a0 Z = true) (w2 : (Jvm.Cond.instanceMethod z).before a0 Z = true) (w3 : (Jvm.Cond.initialized z.cls).before a0 Z = true) (w4 : (Jvm.Cond.code z bytes' ml' none).before a0 Z = true) (hzn : z.name = "<init>") (pn : plainFor z = true) (hy : z.cls ≠ "java/lang/invoke/MethodHandle" ∧ z.cls ≠ "java/lang/invoke/VarHandle") (pd : parseMethodDescriptor z.desc = some ⟨ps, rt⟩) (hlen : argsL.length = ps.length)
    (hst : st = argsL.reverse ++ .ref a :: rest) (hent : Jvm.Sym.laidSlots (.ref a :: argsL) ++ List.replicate (ml' - (Jvm.Sym.laidSlots (.ref a :: argsL)).length) .unset = Lc.toList) (hW : (rest.map fun v => v.category).sum ≤ W) (hfr : rm.frames + 1 ≤ R.frames) (hlo : W + (ml' + 11) + rm.locals ≤ R.locals) (hce' : cells + rm.cells ≤ R.cells) (hsl' : slots + rm.slots ≤ R.slots) (hsz : Ls.size = ml) (hd : decode bytes pc = .ok (.invokespecial idx, 3)) (hp : pc + 3 = pc') (k : ∀ v h', Qc v h' → own_W l Z y bytes ml ret R n0 Q h' (cells + rm.cells) (slots + rm.slots) pc' Ls (v.toList ++ rest)) : own_W l Z y bytes ml ret R n0 Q h cells slots pc Ls st := by
  intro p e s m args below meth c T locs hx hZ hown hby hml hret hlk hnm hce hsl X eT N
  subst hp
  obtain ⟨v, ⟨T1, L1, k1, n1⟩, X1, ⟨Lc1, hQ1, l1, y1, z1⟩, st1⟩ := own_refBack X hx hZ hzn hown w1 w2 w4 hy (backOf (W := W) (Q := fun v h L => Qc v h ∧ Fr n0 L) (own_met hC pn hent []) hZ w4 w3 hfr hlo) (g := mkF m pc Ls st) rfl (by rw [hml]; exact hsz) (a := a) (argsL := argsL) (rest := rest) (lenOf pd hlen) hst (by show 2 * 0 + _ ≤ _; omega) (hb hby hd) ⟨rfl, eT, hce', hsl'⟩
  dsimp only [Pt.U, Pt.locs, Pt.cells, Pt.slots] at X1 l1 y1 z1 st1 hQ1
  subst l1 y1 z1
  obtain ⟨s₂, o, h1, h2⟩ := k v T1.heap hQ1.1 p e s m args below meth c T1 _ hx hZ hown hby hml hret hlk hnm hce' hsl' X1 rfl (Fr.app N hQ1.2)
  exact ⟨s₂, o, st1.trans h1, h2⟩
end OwnW
-- LAYER END
theorem d1_0 : decode prog_109_method_5_code 0 = .ok (.iload_n 1, 1) := by decide +kernel
theorem d1_1 : decode prog_109_method_5_code 1 = .ok (.iconst 4, 1) := by decide +kernel
theorem d1_2 : decode prog_109_method_5_code 2 = .ok (.if_icmp .lt 29, 3) := by decide +kernel
theorem d1_5 : decode prog_109_method_5_code 5 = .ok (.iload_n 1, 1) := by decide +kernel
theorem d1_6 : decode prog_109_method_5_code 6 = .ok (.bipush 8, 2) := by decide +kernel
theorem d1_8 : decode prog_109_method_5_code 8 = .ok (.if_icmp .ge 23, 3) := by decide +kernel
theorem d1_11 : decode prog_109_method_5_code 11 = .ok (.aload_n 0, 1) := by decide +kernel
theorem d1_12 : decode prog_109_method_5_code 12 = .ok (.iconst 2, 1) := by decide +kernel
theorem d1_13 : decode prog_109_method_5_code 13 = .ok (.baload, 1) := by decide +kernel
theorem d1_14 : decode prog_109_method_5_code 14 = .ok (.sipush 255, 3) := by decide +kernel
theorem d1_17 : decode prog_109_method_5_code 17 = .ok (.iand, 1) := by decide +kernel
theorem d1_18 : decode prog_109_method_5_code 18 = .ok (.iload_n 1, 1) := by decide +kernel
theorem d1_19 : decode prog_109_method_5_code 19 = .ok (.ishr, 1) := by decide +kernel
theorem d1_20 : decode prog_109_method_5_code 20 = .ok (.iconst 1, 1) := by decide +kernel
theorem d1_21 : decode prog_109_method_5_code 21 = .ok (.iand, 1) := by decide +kernel
theorem d1_22 : decode prog_109_method_5_code 22 = .ok (.ifCond .eq 7, 3) := by decide +kernel
theorem d1_25 : decode prog_109_method_5_code 25 = .ok (.iconst 1, 1) := by decide +kernel
theorem d1_26 : decode prog_109_method_5_code 26 = .ok (.goto 4, 3) := by decide +kernel
theorem d1_29 : decode prog_109_method_5_code 29 = .ok (.iconst 0, 1) := by decide +kernel
theorem d1_30 : decode prog_109_method_5_code 30 = .ok (.ireturn, 1) := by decide +kernel
theorem d1_31 : decode prog_109_method_5_code 31 = .ok (.iload_n 1, 1) := by decide +kernel
theorem d1_32 : decode prog_109_method_5_code 32 = .ok (.bipush 8, 2) := by decide +kernel
theorem d1_34 : decode prog_109_method_5_code 34 = .ok (.if_icmp .lt 32, 3) := by decide +kernel
theorem d1_37 : decode prog_109_method_5_code 37 = .ok (.iload_n 1, 1) := by decide +kernel
theorem d1_38 : decode prog_109_method_5_code 38 = .ok (.bipush 16, 2) := by decide +kernel
theorem d1_40 : decode prog_109_method_5_code 40 = .ok (.if_icmp .ge 26, 3) := by decide +kernel
theorem d1_43 : decode prog_109_method_5_code 43 = .ok (.aload_n 0, 1) := by decide +kernel
theorem d1_44 : decode prog_109_method_5_code 44 = .ok (.iconst 3, 1) := by decide +kernel
theorem d1_45 : decode prog_109_method_5_code 45 = .ok (.baload, 1) := by decide +kernel
theorem d1_46 : decode prog_109_method_5_code 46 = .ok (.sipush 255, 3) := by decide +kernel
theorem d1_49 : decode prog_109_method_5_code 49 = .ok (.iand, 1) := by decide +kernel
theorem d1_50 : decode prog_109_method_5_code 50 = .ok (.iload_n 1, 1) := by decide +kernel
theorem d1_51 : decode prog_109_method_5_code 51 = .ok (.bipush 8, 2) := by decide +kernel
theorem d1_53 : decode prog_109_method_5_code 53 = .ok (.isub, 1) := by decide +kernel
theorem d1_54 : decode prog_109_method_5_code 54 = .ok (.ishr, 1) := by decide +kernel
theorem d1_55 : decode prog_109_method_5_code 55 = .ok (.iconst 1, 1) := by decide +kernel
theorem d1_56 : decode prog_109_method_5_code 56 = .ok (.iand, 1) := by decide +kernel
theorem d1_57 : decode prog_109_method_5_code 57 = .ok (.ifCond .eq 7, 3) := by decide +kernel
theorem d1_60 : decode prog_109_method_5_code 60 = .ok (.iconst 1, 1) := by decide +kernel
theorem d1_61 : decode prog_109_method_5_code 61 = .ok (.goto 4, 3) := by decide +kernel
theorem d1_64 : decode prog_109_method_5_code 64 = .ok (.iconst 0, 1) := by decide +kernel
theorem d1_65 : decode prog_109_method_5_code 65 = .ok (.ireturn, 1) := by decide +kernel
theorem d1_66 : decode prog_109_method_5_code 66 = .ok (.iconst 0, 1) := by decide +kernel
theorem d1_67 : decode prog_109_method_5_code 67 = .ok (.ireturn, 1) := by decide +kernel
theorem own_pn0 : plainName "com/example/fieldtap/fieldtap/type2/Type2ImageLockedByStaticBitsPinLaw" = true := by decide +kernel
theorem own_pn1 : plainName "com/example/fieldtap/fieldtap/type2/Type2Image" = true := by decide +kernel
theorem own_pd0 : parseMethodDescriptor "(III)Z" = some ⟨[.int, .int, .int], (some .boolean)⟩ := by decide +kernel
theorem own_pd1 : parseMethodDescriptor "([BI)Z" = some ⟨[(.array .byte), .int], (some .boolean)⟩ := by decide +kernel
theorem own_and63 (n : Nat) : n &&& 63 = n % 64 := Nat.and_two_pow_sub_one_eq_mod n 6
theorem own_and31 (n : Nat) : n &&& 31 = n % 32 := Nat.and_two_pow_sub_one_eq_mod n 5
theorem own_smod_small {w : Nat} (a : BitVec w) (m : BitVec w) (ha : a.msb = false) (hm : m.msb = false) : a.smod m = a.umod m := by
  simp [BitVec.smod, ha, hm]
theorem own_q64 (w : Int32) : ((w.toInt64 &&& 63).toBitVec.smod 64).toNat = w.toBitVec.toNat % 64 := by
  have h1 : (w.toInt64 &&& 63).toBitVec = BitVec.ofNat 64 (w.toBitVec.toNat % 64) := by
    apply BitVec.eq_of_toNat_eq
    simp only [Int64.toBitVec_and, Int32.toBitVec_toInt64, BitVec.toNat_and]
    show (w.toBitVec.signExtend 64).toNat &&& 63 = _
    rw [own_and63, BitVec.toNat_signExtend]
    have := w.toBitVec.isLt
    simp
    split <;> omega
  rw [h1, own_smod_small]
  · simp
  · rw [BitVec.msb_eq_false_iff_two_mul_lt]; simp; omega
  · decide
theorem own_lshl_bv (x : Int64) (w : Int32) : (x <<< (w.toInt64 &&& 63)).toBitVec = x.toBitVec <<< (w.toBitVec.toNat % 64) := by
  rw [Int64.toBitVec_shiftLeft]
  show x.toBitVec <<< ((w.toInt64 &&& 63).toBitVec.smod 64).toNat = _
  rw [own_q64]
theorem own_lshr_bv (x : Int64) (w : Int32) : (x >>> (w.toInt64 &&& 63)).toBitVec = x.toBitVec.sshiftRight (w.toBitVec.toNat % 64) := by
  rw [Int64.toBitVec_shiftRight]
  show x.toBitVec.sshiftRight ((w.toInt64 &&& 63).toBitVec.smod 64).toNat = _
  rw [own_q64]
theorem own_lushr_bv (x : Int64) (w : Int32) : (XT.ushrL x w).toBitVec = x.toBitVec >>> (w.toBitVec.toNat % 64) := by
  show (x.toUInt64 >>> (w.toInt64.toUInt64 &&& Int64.toUInt64 63)).toBitVec = _
  rw [UInt64.toBitVec_shiftRight]
  show x.toBitVec >>> ((w.toInt64.toUInt64 &&& Int64.toUInt64 63).toBitVec % 64).toNat = _
  congr 1
  simp only [UInt64.toBitVec_and, BitVec.toNat_umod, BitVec.toNat_and]
  show ((w.toInt64.toBitVec).toNat &&& 63) % 64 = _
  rw [own_and63, Int32.toBitVec_toInt64, BitVec.toNat_signExtend]
  have := w.toBitVec.isLt
  simp
  split <;> omega
theorem own_q32 (w : Int32) : ((w &&& 31).toBitVec.smod 32).toNat = w.toBitVec.toNat % 32 := by
  have h1 : (w &&& 31).toBitVec = BitVec.ofNat 32 (w.toBitVec.toNat % 32) := by
    apply BitVec.eq_of_toNat_eq
    simp only [Int32.toBitVec_and, BitVec.toNat_and]
    show w.toBitVec.toNat &&& 31 = _
    rw [own_and31]; simp; omega
  rw [h1, own_smod_small]
  · simp
  · rw [BitVec.msb_eq_false_iff_two_mul_lt]; simp; omega
  · decide
theorem own_ishl_bv (x : Int32) (w : Int32) : (x <<< (w &&& 31)).toBitVec = x.toBitVec <<< (w.toBitVec.toNat % 32) := by
  rw [Int32.toBitVec_shiftLeft]
  show x.toBitVec <<< ((w &&& 31).toBitVec.smod 32).toNat = _
  rw [own_q32]
theorem own_ishr_bv (x : Int32) (w : Int32) : (x >>> (w &&& 31)).toBitVec = x.toBitVec.sshiftRight (w.toBitVec.toNat % 32) := by
  rw [Int32.toBitVec_shiftRight]
  show x.toBitVec.sshiftRight ((w &&& 31).toBitVec.smod 32).toNat = _
  rw [own_q32]
theorem own_iushr_bv (x : Int32) (w : Int32) : (XT.ushr x w).toBitVec = x.toBitVec >>> (w.toBitVec.toNat % 32) := by
  show (x.toUInt32 >>> (w &&& 31).toUInt32).toBitVec = _
  rw [UInt32.toBitVec_shiftRight]
  show x.toBitVec >>> ((w &&& 31).toBitVec % 32).toNat = _
  congr 1
  simp only [Int32.toBitVec_and, BitVec.toNat_umod, BitVec.toNat_and]
  show (w.toBitVec.toNat &&& 31) % 32 = _
  rw [own_and31]; omega
theorem own_sbit (u p : Int32) (n : Nat) (hn : p.toBitVec.toNat % 32 = n) : (u >>> (p &&& 31)) &&& 1 = 0 ↔ u.toBitVec.getLsbD n = false := by
  have hlt : n < 32 := by omega
  rw [← Int32.toBitVec_inj, Int32.toBitVec_and, own_ishr_bv, hn]
  generalize u.toBitVec = v
  show v.sshiftRight n &&& 1#32 = 0#32 ↔ _
  have k : (v.sshiftRight n).getLsbD 0 = v.getLsbD n := by
    rw [BitVec.getLsbD_sshiftRight, if_pos (by omega), Nat.add_zero]; rfl
  constructor
  · intro h
    have := congrArg (fun b => b.getLsbD 0) h
    rw [← k]
    have e : (v.sshiftRight n &&& 1#32).getLsbD 0 = (v.sshiftRight n).getLsbD 0 := by
      rw [BitVec.getLsbD_and]; exact Bool.and_true _
    rw [← e]; exact this
  · intro h
    apply BitVec.eq_of_getLsbD_eq
    intro i hi
    rw [BitVec.getLsbD_and]
    by_cases h0 : i = 0
    · subst h0; rw [k, h]; rfl
    · have : (1#32).getLsbD i = false := by simp [h0]
      rw [this, Bool.and_false]; simp
def own_lk (b2 b3 p : Int32) : Int32 :=
  if p < 4 then (if p < 8 then 0 else if ¬ p < 16 then 0 else (if ((b3 &&& 255) >>> ((p - 8) &&& 31)) &&& 1 = 0 then 0 else 1))
  else if ¬ p < 8 then (if p < 8 then 0 else if ¬ p < 16 then 0 else (if ((b3 &&& 255) >>> ((p - 8) &&& 31)) &&& 1 = 0 then 0 else 1))
  else (if ((b2 &&& 255) >>> (p &&& 31)) &&& 1 = 0 then 0 else 1)
def own_wd (b2 b3 : Int32) : Int32 := (((b3 &&& 255) <<< ((8 : Int32) &&& 31)) ||| (b2 &&& 255))
def own_ex (b2 b3 p : Int32) : Int32 := if p < 4 then 0 else if ¬ p < 16 then 0 else if ((own_wd b2 b3 >>> (p &&& 31)) &&& 1) = 0 then 0 else 1
theorem own_wdbit (b2 b3 : Int32) (n : Nat) (hn : n < 32) : (own_wd b2 b3).toBitVec.getLsbD n = if n < 8 then (b2 &&& 255).toBitVec.getLsbD n else (b3 &&& 255).toBitVec.getLsbD (n - 8) := by
  unfold own_wd
  rw [Int32.toBitVec_or, own_ishl_bv, BitVec.getLsbD_or]
  show (((b3 &&& 255).toBitVec <<< 8).getLsbD n || _) = _
  rw [BitVec.getLsbD_shiftLeft]
  by_cases h : n < 8
  · simp only [h, decide_true, Bool.not_true, Bool.and_false, Bool.false_and, Bool.false_or, if_true]
  · have : (b2 &&& 255).toBitVec.getLsbD n = false := by
      have q : ∀ i : Fin 32, 8 ≤ i.val → (255#32).getLsbD i.val = false := by decide
      rw [Int32.toBitVec_and, BitVec.getLsbD_and]
      show (_ && (255#32).getLsbD n) = false
      rw [q ⟨n, hn⟩ (by simpa using h)]; simp
    rw [this, if_neg h, Bool.or_false]
    simp only [h, hn, decide_true, decide_false, Bool.not_false, Bool.true_and]
theorem own_same (b2 b3 p : Int32) : own_lk b2 b3 p = own_ex b2 b3 p := by
  unfold own_lk own_ex
  by_cases h4 : p < 4
  · have h8 : p < 8 := by rw [Int32.lt_iff_toInt_lt] at *; have : (4 : Int32).toInt = 4 := rfl; have : (8 : Int32).toInt = 8 := rfl; omega
    simp only [h4, h8, if_true]
  · by_cases h16 : p < 16
    · have hp : p = 4 ∨ p = 5 ∨ p = 6 ∨ p = 7 ∨ p = 8 ∨ p = 9 ∨ p = 10 ∨ p = 11 ∨ p = 12 ∨ p = 13 ∨ p = 14 ∨ p = 15 := by
        rw [Int32.lt_iff_toInt_lt] at h4 h16
        have a : (4 : Int32).toInt = 4 := rfl
        have b : (16 : Int32).toInt = 16 := rfl
        simp only [← Int32.toInt_inj, Int32.reduceToInt]
        omega
      clear h4 h16
      rcases hp with rfl | rfl | rfl | rfl | rfl | rfl | rfl | rfl | rfl | rfl | rfl | rfl
      · rw [if_neg (show ¬ (4 : Int32) < 4 by decide), if_neg (show ¬ ¬ (4 : Int32) < 8 by decide), if_neg (show ¬ (4 : Int32) < 4 by decide), if_neg (show ¬ ¬ (4 : Int32) < 16 by decide)]
        have e1 := own_sbit (b2 &&& 255) 4 4 rfl
        have e2 := own_sbit (own_wd b2 b3) 4 4 rfl
        rw [own_wdbit b2 b3 4 (by decide), if_pos (by decide), ← e1] at e2
        by_cases q : ((b2 &&& 255) >>> ((4 : Int32) &&& 31)) &&& 1 = 0
        · rw [if_pos q, if_pos (e2.mpr q)]
        · rw [if_neg q, if_neg (fun r => q (e2.mp r))]
      · rw [if_neg (show ¬ (5 : Int32) < 4 by decide), if_neg (show ¬ ¬ (5 : Int32) < 8 by decide), if_neg (show ¬ (5 : Int32) < 4 by decide), if_neg (show ¬ ¬ (5 : Int32) < 16 by decide)]
        have e1 := own_sbit (b2 &&& 255) 5 5 rfl
        have e2 := own_sbit (own_wd b2 b3) 5 5 rfl
        rw [own_wdbit b2 b3 5 (by decide), if_pos (by decide), ← e1] at e2
        by_cases q : ((b2 &&& 255) >>> ((5 : Int32) &&& 31)) &&& 1 = 0
        · rw [if_pos q, if_pos (e2.mpr q)]
        · rw [if_neg q, if_neg (fun r => q (e2.mp r))]
      · rw [if_neg (show ¬ (6 : Int32) < 4 by decide), if_neg (show ¬ ¬ (6 : Int32) < 8 by decide), if_neg (show ¬ (6 : Int32) < 4 by decide), if_neg (show ¬ ¬ (6 : Int32) < 16 by decide)]
        have e1 := own_sbit (b2 &&& 255) 6 6 rfl
        have e2 := own_sbit (own_wd b2 b3) 6 6 rfl
        rw [own_wdbit b2 b3 6 (by decide), if_pos (by decide), ← e1] at e2
        by_cases q : ((b2 &&& 255) >>> ((6 : Int32) &&& 31)) &&& 1 = 0
        · rw [if_pos q, if_pos (e2.mpr q)]
        · rw [if_neg q, if_neg (fun r => q (e2.mp r))]
      · rw [if_neg (show ¬ (7 : Int32) < 4 by decide), if_neg (show ¬ ¬ (7 : Int32) < 8 by decide), if_neg (show ¬ (7 : Int32) < 4 by decide), if_neg (show ¬ ¬ (7 : Int32) < 16 by decide)]
        have e1 := own_sbit (b2 &&& 255) 7 7 rfl
        have e2 := own_sbit (own_wd b2 b3) 7 7 rfl
        rw [own_wdbit b2 b3 7 (by decide), if_pos (by decide), ← e1] at e2
        by_cases q : ((b2 &&& 255) >>> ((7 : Int32) &&& 31)) &&& 1 = 0
        · rw [if_pos q, if_pos (e2.mpr q)]
        · rw [if_neg q, if_neg (fun r => q (e2.mp r))]
      · rw [if_neg (show ¬ (8 : Int32) < 4 by decide), if_pos (show ¬ (8 : Int32) < 8 by decide), if_neg (show ¬ (8 : Int32) < 8 by decide), if_neg (show ¬ ¬ (8 : Int32) < 16 by decide), if_neg (show ¬ (8 : Int32) < 4 by decide), if_neg (show ¬ ¬ (8 : Int32) < 16 by decide)]
        have e1 := own_sbit (b3 &&& 255) (8 - 8) 0 rfl
        have e2 := own_sbit (own_wd b2 b3) 8 8 rfl
        rw [own_wdbit b2 b3 8 (by decide), if_neg (by decide), show 8 - 8 = 0 from rfl, ← e1] at e2
        by_cases q : ((b3 &&& 255) >>> (((8 : Int32) - 8) &&& 31)) &&& 1 = 0
        · rw [if_pos q, if_pos (e2.mpr q)]
        · rw [if_neg q, if_neg (fun r => q (e2.mp r))]
      · rw [if_neg (show ¬ (9 : Int32) < 4 by decide), if_pos (show ¬ (9 : Int32) < 8 by decide), if_neg (show ¬ (9 : Int32) < 8 by decide), if_neg (show ¬ ¬ (9 : Int32) < 16 by decide), if_neg (show ¬ (9 : Int32) < 4 by decide), if_neg (show ¬ ¬ (9 : Int32) < 16 by decide)]
        have e1 := own_sbit (b3 &&& 255) (9 - 8) 1 rfl
        have e2 := own_sbit (own_wd b2 b3) 9 9 rfl
        rw [own_wdbit b2 b3 9 (by decide), if_neg (by decide), show 9 - 8 = 1 from rfl, ← e1] at e2
        by_cases q : ((b3 &&& 255) >>> (((9 : Int32) - 8) &&& 31)) &&& 1 = 0
        · rw [if_pos q, if_pos (e2.mpr q)]
        · rw [if_neg q, if_neg (fun r => q (e2.mp r))]
      · rw [if_neg (show ¬ (10 : Int32) < 4 by decide), if_pos (show ¬ (10 : Int32) < 8 by decide), if_neg (show ¬ (10 : Int32) < 8 by decide), if_neg (show ¬ ¬ (10 : Int32) < 16 by decide), if_neg (show ¬ (10 : Int32) < 4 by decide), if_neg (show ¬ ¬ (10 : Int32) < 16 by decide)]
        have e1 := own_sbit (b3 &&& 255) (10 - 8) 2 rfl
        have e2 := own_sbit (own_wd b2 b3) 10 10 rfl
        rw [own_wdbit b2 b3 10 (by decide), if_neg (by decide), show 10 - 8 = 2 from rfl, ← e1] at e2
        by_cases q : ((b3 &&& 255) >>> (((10 : Int32) - 8) &&& 31)) &&& 1 = 0
        · rw [if_pos q, if_pos (e2.mpr q)]
        · rw [if_neg q, if_neg (fun r => q (e2.mp r))]
      · rw [if_neg (show ¬ (11 : Int32) < 4 by decide), if_pos (show ¬ (11 : Int32) < 8 by decide), if_neg (show ¬ (11 : Int32) < 8 by decide), if_neg (show ¬ ¬ (11 : Int32) < 16 by decide), if_neg (show ¬ (11 : Int32) < 4 by decide), if_neg (show ¬ ¬ (11 : Int32) < 16 by decide)]
        have e1 := own_sbit (b3 &&& 255) (11 - 8) 3 rfl
        have e2 := own_sbit (own_wd b2 b3) 11 11 rfl
        rw [own_wdbit b2 b3 11 (by decide), if_neg (by decide), show 11 - 8 = 3 from rfl, ← e1] at e2
        by_cases q : ((b3 &&& 255) >>> (((11 : Int32) - 8) &&& 31)) &&& 1 = 0
        · rw [if_pos q, if_pos (e2.mpr q)]
        · rw [if_neg q, if_neg (fun r => q (e2.mp r))]
      · rw [if_neg (show ¬ (12 : Int32) < 4 by decide), if_pos (show ¬ (12 : Int32) < 8 by decide), if_neg (show ¬ (12 : Int32) < 8 by decide), if_neg (show ¬ ¬ (12 : Int32) < 16 by decide), if_neg (show ¬ (12 : Int32) < 4 by decide), if_neg (show ¬ ¬ (12 : Int32) < 16 by decide)]
        have e1 := own_sbit (b3 &&& 255) (12 - 8) 4 rfl
        have e2 := own_sbit (own_wd b2 b3) 12 12 rfl
        rw [own_wdbit b2 b3 12 (by decide), if_neg (by decide), show 12 - 8 = 4 from rfl, ← e1] at e2
        by_cases q : ((b3 &&& 255) >>> (((12 : Int32) - 8) &&& 31)) &&& 1 = 0
        · rw [if_pos q, if_pos (e2.mpr q)]
        · rw [if_neg q, if_neg (fun r => q (e2.mp r))]
      · rw [if_neg (show ¬ (13 : Int32) < 4 by decide), if_pos (show ¬ (13 : Int32) < 8 by decide), if_neg (show ¬ (13 : Int32) < 8 by decide), if_neg (show ¬ ¬ (13 : Int32) < 16 by decide), if_neg (show ¬ (13 : Int32) < 4 by decide), if_neg (show ¬ ¬ (13 : Int32) < 16 by decide)]
        have e1 := own_sbit (b3 &&& 255) (13 - 8) 5 rfl
        have e2 := own_sbit (own_wd b2 b3) 13 13 rfl
        rw [own_wdbit b2 b3 13 (by decide), if_neg (by decide), show 13 - 8 = 5 from rfl, ← e1] at e2
        by_cases q : ((b3 &&& 255) >>> (((13 : Int32) - 8) &&& 31)) &&& 1 = 0
        · rw [if_pos q, if_pos (e2.mpr q)]
        · rw [if_neg q, if_neg (fun r => q (e2.mp r))]
      · rw [if_neg (show ¬ (14 : Int32) < 4 by decide), if_pos (show ¬ (14 : Int32) < 8 by decide), if_neg (show ¬ (14 : Int32) < 8 by decide), if_neg (show ¬ ¬ (14 : Int32) < 16 by decide), if_neg (show ¬ (14 : Int32) < 4 by decide), if_neg (show ¬ ¬ (14 : Int32) < 16 by decide)]
        have e1 := own_sbit (b3 &&& 255) (14 - 8) 6 rfl
        have e2 := own_sbit (own_wd b2 b3) 14 14 rfl
        rw [own_wdbit b2 b3 14 (by decide), if_neg (by decide), show 14 - 8 = 6 from rfl, ← e1] at e2
        by_cases q : ((b3 &&& 255) >>> (((14 : Int32) - 8) &&& 31)) &&& 1 = 0
        · rw [if_pos q, if_pos (e2.mpr q)]
        · rw [if_neg q, if_neg (fun r => q (e2.mp r))]
      · rw [if_neg (show ¬ (15 : Int32) < 4 by decide), if_pos (show ¬ (15 : Int32) < 8 by decide), if_neg (show ¬ (15 : Int32) < 8 by decide), if_neg (show ¬ ¬ (15 : Int32) < 16 by decide), if_neg (show ¬ (15 : Int32) < 4 by decide), if_neg (show ¬ ¬ (15 : Int32) < 16 by decide)]
        have e1 := own_sbit (b3 &&& 255) (15 - 8) 7 rfl
        have e2 := own_sbit (own_wd b2 b3) 15 15 rfl
        rw [own_wdbit b2 b3 15 (by decide), if_neg (by decide), show 15 - 8 = 7 from rfl, ← e1] at e2
        by_cases q : ((b3 &&& 255) >>> (((15 : Int32) - 8) &&& 31)) &&& 1 = 0
        · rw [if_pos q, if_pos (e2.mpr q)]
        · rw [if_neg q, if_neg (fun r => q (e2.mp r))]
    · have h8 : ¬ p < 8 := by rw [Int32.lt_iff_toInt_lt] at *; have : (16 : Int32).toInt = 16 := rfl; have : (8 : Int32).toInt = 8 := rfl; omega
      simp only [h4, h16, h8, if_true, if_false, not_false_iff]
set_option maxRecDepth 65536 in
set_option maxHeartbeats 40000000 in
theorem own_lkW (l : Launch) (Z : State) (a0 : Array Value) (hw : ∀ d ∈ tables_1, d.before a0 Z = true) (a : Addr) (b0 b1 b2 b3 p : Int32) (h0 : Heap) (n0 : Nat) (hn0 : n0 ≤ h0.size) (A_a : own_A Z h0 a .byte [.int b0, .int b1, .int b2, .int b3]) :
    own_W l Z (⟨"com/example/fieldtap/fieldtap/type2/Type2Image", "lockedByStaticBits", "([BI)Z"⟩ : MethodName) prog_109_method_5_code 2 (some .boolean) ({ frames := 0, cells := 0, slots := 0, locals := 0 } : Room) n0 (fun v h => v = some (.int (own_lk b2 b3 p)) ∧ h0 = h) h0 0 0 0 #[.val (.ref a), .val (.int p)] [] := by
  refine own_iloadN (pc' := 1) d1_0 rfl rfl ?_
  refine own_iconst (4 : Int32) (pc' := 2) d1_1 rfl rfl ?_
  refine own_ic_lt (pc' := 31) (pf := 5) d1_2 (by decide) (by decide) rfl (fun h_2 => ?_) (fun h_2 => ?_)
  · refine own_iloadN (pc' := 32) d1_31 rfl rfl ?_
    refine own_bipush (8 : Int32) (pc' := 34) d1_32 rfl rfl ?_
    refine own_ic_lt (pc' := 66) (pf := 37) d1_34 (by decide) (by decide) rfl (fun h_34 => ?_) (fun h_34 => ?_)
    · refine own_iconst (0 : Int32) (pc' := 67) d1_66 rfl rfl ?_
      exact own_bret (v := (0 : Int32)) rfl (by first | rfl | decide | assumption) d1_67 ⟨by first | contradiction | (simp only [own_lk, *, ↓reduceIte]; done) | (simp [own_lk, *]; done) | (simp_all [own_lk]; done), rfl⟩
    · refine own_iloadN (pc' := 38) d1_37 rfl rfl ?_
      refine own_bipush (16 : Int32) (pc' := 40) d1_38 rfl rfl ?_
      refine own_ic_ge (pc' := 66) (pf := 43) d1_40 (by decide) (by decide) rfl (fun h_40 => ?_) (fun h_40 => ?_)
      · refine own_iconst (0 : Int32) (pc' := 67) d1_66 rfl rfl ?_
        exact own_bret (v := (0 : Int32)) rfl (by first | rfl | decide | assumption) d1_67 ⟨by first | contradiction | (simp only [own_lk, *, ↓reduceIte]; done) | (simp [own_lk, *]; done) | (simp_all [own_lk]; done), rfl⟩
      · refine own_aloadN (pc' := 44) d1_43 rfl rfl ?_
        refine own_iconst (3 : Int32) (pc' := 45) d1_44 rfl rfl ?_
        refine own_baload (pc' := 46) (v := .int b3) A_a (by decide) rfl d1_45 rfl ?_
        refine own_sipush (255 : Int32) (pc' := 49) d1_46 rfl rfl ?_
        refine own_iand (pc' := 50) d1_49 rfl ?_
        refine own_iloadN (pc' := 51) d1_50 rfl rfl ?_
        refine own_bipush (8 : Int32) (pc' := 53) d1_51 rfl rfl ?_
        refine own_isub (pc' := 54) d1_53 rfl ?_
        refine own_ishr (pc' := 55) d1_54 rfl ?_
        refine own_iconst (1 : Int32) (pc' := 56) d1_55 rfl rfl ?_
        refine own_iand (pc' := 57) d1_56 rfl ?_
        refine own_if_eq (pc' := 64) (pf := 60) d1_57 (by decide) (by decide) rfl (fun h_57 => ?_) (fun h_57 => ?_)
        · refine own_iconst (0 : Int32) (pc' := 65) d1_64 rfl rfl ?_
          exact own_bret (v := (0 : Int32)) rfl (by first | rfl | decide | assumption) d1_65 ⟨by first | contradiction | (simp only [own_lk, *, ↓reduceIte]; done) | (simp [own_lk, *]; done) | (simp_all [own_lk]; done), rfl⟩
        · refine own_iconst (1 : Int32) (pc' := 61) d1_60 rfl rfl ?_
          refine own_goto (pc' := 65) d1_61 (by decide) (by decide) ?_
          exact own_bret (v := (1 : Int32)) rfl (by first | rfl | decide | assumption) d1_65 ⟨by first | contradiction | (simp only [own_lk, *, ↓reduceIte]; done) | (simp [own_lk, *]; done) | (simp_all [own_lk]; done), rfl⟩
  · refine own_iloadN (pc' := 6) d1_5 rfl rfl ?_
    refine own_bipush (8 : Int32) (pc' := 8) d1_6 rfl rfl ?_
    refine own_ic_ge (pc' := 31) (pf := 11) d1_8 (by decide) (by decide) rfl (fun h_8 => ?_) (fun h_8 => ?_)
    · refine own_iloadN (pc' := 32) d1_31 rfl rfl ?_
      refine own_bipush (8 : Int32) (pc' := 34) d1_32 rfl rfl ?_
      refine own_ic_lt (pc' := 66) (pf := 37) d1_34 (by decide) (by decide) rfl (fun h_34 => ?_) (fun h_34 => ?_)
      · refine own_iconst (0 : Int32) (pc' := 67) d1_66 rfl rfl ?_
        exact own_bret (v := (0 : Int32)) rfl (by first | rfl | decide | assumption) d1_67 ⟨by first | contradiction | (simp only [own_lk, *, ↓reduceIte]; done) | (simp [own_lk, *]; done) | (simp_all [own_lk]; done), rfl⟩
      · refine own_iloadN (pc' := 38) d1_37 rfl rfl ?_
        refine own_bipush (16 : Int32) (pc' := 40) d1_38 rfl rfl ?_
        refine own_ic_ge (pc' := 66) (pf := 43) d1_40 (by decide) (by decide) rfl (fun h_40 => ?_) (fun h_40 => ?_)
        · refine own_iconst (0 : Int32) (pc' := 67) d1_66 rfl rfl ?_
          exact own_bret (v := (0 : Int32)) rfl (by first | rfl | decide | assumption) d1_67 ⟨by first | contradiction | (simp only [own_lk, *, ↓reduceIte]; done) | (simp [own_lk, *]; done) | (simp_all [own_lk]; done), rfl⟩
        · refine own_aloadN (pc' := 44) d1_43 rfl rfl ?_
          refine own_iconst (3 : Int32) (pc' := 45) d1_44 rfl rfl ?_
          refine own_baload (pc' := 46) (v := .int b3) A_a (by decide) rfl d1_45 rfl ?_
          refine own_sipush (255 : Int32) (pc' := 49) d1_46 rfl rfl ?_
          refine own_iand (pc' := 50) d1_49 rfl ?_
          refine own_iloadN (pc' := 51) d1_50 rfl rfl ?_
          refine own_bipush (8 : Int32) (pc' := 53) d1_51 rfl rfl ?_
          refine own_isub (pc' := 54) d1_53 rfl ?_
          refine own_ishr (pc' := 55) d1_54 rfl ?_
          refine own_iconst (1 : Int32) (pc' := 56) d1_55 rfl rfl ?_
          refine own_iand (pc' := 57) d1_56 rfl ?_
          refine own_if_eq (pc' := 64) (pf := 60) d1_57 (by decide) (by decide) rfl (fun h_57 => ?_) (fun h_57 => ?_)
          · refine own_iconst (0 : Int32) (pc' := 65) d1_64 rfl rfl ?_
            exact own_bret (v := (0 : Int32)) rfl (by first | rfl | decide | assumption) d1_65 ⟨by first | contradiction | (simp only [own_lk, *, ↓reduceIte]; done) | (simp [own_lk, *]; done) | (simp_all [own_lk]; done), rfl⟩
          · refine own_iconst (1 : Int32) (pc' := 61) d1_60 rfl rfl ?_
            refine own_goto (pc' := 65) d1_61 (by decide) (by decide) ?_
            exact own_bret (v := (1 : Int32)) rfl (by first | rfl | decide | assumption) d1_65 ⟨by first | contradiction | (simp only [own_lk, *, ↓reduceIte]; done) | (simp [own_lk, *]; done) | (simp_all [own_lk]; done), rfl⟩
    · refine own_aloadN (pc' := 12) d1_11 rfl rfl ?_
      refine own_iconst (2 : Int32) (pc' := 13) d1_12 rfl rfl ?_
      refine own_baload (pc' := 14) (v := .int b2) A_a (by decide) rfl d1_13 rfl ?_
      refine own_sipush (255 : Int32) (pc' := 17) d1_14 rfl rfl ?_
      refine own_iand (pc' := 18) d1_17 rfl ?_
      refine own_iloadN (pc' := 19) d1_18 rfl rfl ?_
      refine own_ishr (pc' := 20) d1_19 rfl ?_
      refine own_iconst (1 : Int32) (pc' := 21) d1_20 rfl rfl ?_
      refine own_iand (pc' := 22) d1_21 rfl ?_
      refine own_if_eq (pc' := 29) (pf := 25) d1_22 (by decide) (by decide) rfl (fun h_22 => ?_) (fun h_22 => ?_)
      · refine own_iconst (0 : Int32) (pc' := 30) d1_29 rfl rfl ?_
        exact own_bret (v := (0 : Int32)) rfl (by first | rfl | decide | assumption) d1_30 ⟨by first | contradiction | (simp only [own_lk, *, ↓reduceIte]; done) | (simp [own_lk, *]; done) | (simp_all [own_lk]; done), rfl⟩
      · refine own_iconst (1 : Int32) (pc' := 26) d1_25 rfl rfl ?_
        refine own_goto (pc' := 30) d1_26 (by decide) (by decide) ?_
        exact own_bret (v := (1 : Int32)) rfl (by first | rfl | decide | assumption) d1_30 ⟨by first | contradiction | (simp only [own_lk, *, ↓reduceIte]; done) | (simp [own_lk, *]; done) | (simp_all [own_lk]; done), rfl⟩
set_option maxRecDepth 65536 in
set_option maxHeartbeats 40000000 in
theorem own_law2 (l : Launch) (Z : State) (a0 : Array Value) (hw : ∀ d ∈ tables_1, d.before a0 Z = true) (x0 x1 x2 b0 b1 b2 b3 p : Int32) (a : Addr) (h0 : Heap) (n0 : Nat) (hn0 : n0 ≤ h0.size) (A_a : own_A Z h0 a .byte [.int b0, .int b1, .int b2, .int b3]) :
    own_W l Z x code maxLocals ret room_1 n0 (fun v h => v = some (.int 1)) h0 1 4 69 #[.val (.int x0), .val (.int x1), .val (.int x2), .val (.ref a), .val (.int b0), .val (.int b1), .val (.int b2), .val (.int b3), .val (.int p), .unset, .unset, .unset, .unset] [] := by
  refine own_iload (pc' := 71) at_69 rfl rfl ?_
  refine own_sipush (255 : Int32) (pc' := 74) at_71 rfl rfl ?_
  refine own_iand (pc' := 75) at_74 rfl ?_
  refine own_bipush (8 : Int32) (pc' := 77) at_75 rfl rfl ?_
  refine own_ishl (pc' := 78) at_77 rfl ?_
  refine own_iload (pc' := 80) at_78 rfl rfl ?_
  refine own_sipush (255 : Int32) (pc' := 83) at_80 rfl rfl ?_
  refine own_iand (pc' := 84) at_83 rfl ?_
  refine own_ior (pc' := 85) at_84 rfl ?_
  refine own_istore (pc' := 87) (Ls' := #[.val (.int x0), .val (.int x1), .val (.int x2), .val (.ref a), .val (.int b0), .val (.int b1), .val (.int b2), .val (.int b3), .val (.int p), .val (.int (((b3 &&& (255 : Int32)) <<< ((8 : Int32) &&& 31)) ||| (b2 &&& (255 : Int32)))), .unset, .unset, .unset]) at_85 rfl rfl ?_
  refine own_iload (pc' := 89) at_87 rfl rfl ?_
  refine own_iconst (4 : Int32) (pc' := 90) at_89 rfl rfl ?_
  refine own_ic_lt (pc' := 114) (pf := 93) at_90 (by decide) (by decide) rfl (fun h_90 => ?_) (fun h_90 => ?_)
  · refine own_iconst (0 : Int32) (pc' := 115) at_114 rfl rfl ?_
    refine own_istore (pc' := 117) (Ls' := #[.val (.int x0), .val (.int x1), .val (.int x2), .val (.ref a), .val (.int b0), .val (.int b1), .val (.int b2), .val (.int b3), .val (.int p), .val (.int (((b3 &&& (255 : Int32)) <<< ((8 : Int32) &&& 31)) ||| (b2 &&& (255 : Int32)))), .val (.int (0 : Int32)), .unset, .unset]) at_115 rfl rfl ?_
    refine own_aloadN (pc' := 118) at_117 rfl rfl ?_
    refine own_iload (pc' := 120) at_118 rfl rfl ?_
    refine own_static (own_lkW l Z a0 hw a b0 b1 b2 b3 p h0 n0 hn0 A_a) (hw _ (List.mem_of_getElem? (i := 1) rfl)) (hw _ (List.mem_of_getElem? (i := 2) rfl)) (hw _ (List.mem_of_getElem? (i := 3) rfl)) (hw _ (List.mem_of_getElem? (i := 4) rfl)) (plainFor_of_name own_pn1) (by decide) own_pd1 rfl (argsL := [.ref a, .int p]) (rest := []) rfl rfl (W := 0) (Nat.le_refl _) (by decide) (by decide) (by decide) (by decide) rfl at_120 (pc' := 123) rfl (fun v_ h1 hq => ?_)
    obtain ⟨rfl, rfl⟩ := hq
    show own_W l Z x code maxLocals ret room_1 n0 (fun v h => v = some (.int 1)) h0 1 4 123 #[.val (.int x0), .val (.int x1), .val (.int x2), .val (.ref a), .val (.int b0), .val (.int b1), .val (.int b2), .val (.int b3), .val (.int p), .val (.int (((b3 &&& (255 : Int32)) <<< ((8 : Int32) &&& 31)) ||| (b2 &&& (255 : Int32)))), .val (.int (0 : Int32)), .unset, .unset] [.int (own_lk b2 b3 p)]
    refine own_istore (pc' := 125) (Ls' := #[.val (.int x0), .val (.int x1), .val (.int x2), .val (.ref a), .val (.int b0), .val (.int b1), .val (.int b2), .val (.int b3), .val (.int p), .val (.int (((b3 &&& (255 : Int32)) <<< ((8 : Int32) &&& 31)) ||| (b2 &&& (255 : Int32)))), .val (.int (0 : Int32)), .val (.int (own_lk b2 b3 p)), .unset]) at_123 rfl rfl ?_
    refine own_aloadN (pc' := 126) at_125 rfl rfl ?_
    refine own_iconst (0 : Int32) (pc' := 127) at_126 rfl rfl ?_
    refine own_baload (pc' := 128) (v := .int b0) A_a (by decide) rfl at_127 rfl ?_
    refine own_iload (pc' := 130) at_128 rfl rfl ?_
    refine own_ic_ne_f (pc' := 133) at_130 rfl rfl ?_
    refine own_aloadN (pc' := 134) at_133 rfl rfl ?_
    refine own_iconst (1 : Int32) (pc' := 135) at_134 rfl rfl ?_
    refine own_baload (pc' := 136) (v := .int b1) A_a (by decide) rfl at_135 rfl ?_
    refine own_iload (pc' := 138) at_136 rfl rfl ?_
    refine own_ic_ne_f (pc' := 141) at_138 rfl rfl ?_
    refine own_aloadN (pc' := 142) at_141 rfl rfl ?_
    refine own_iconst (2 : Int32) (pc' := 143) at_142 rfl rfl ?_
    refine own_baload (pc' := 144) (v := .int b2) A_a (by decide) rfl at_143 rfl ?_
    refine own_iload (pc' := 146) at_144 rfl rfl ?_
    refine own_ic_ne_f (pc' := 149) at_146 rfl rfl ?_
    refine own_aloadN (pc' := 150) at_149 rfl rfl ?_
    refine own_iconst (3 : Int32) (pc' := 151) at_150 rfl rfl ?_
    refine own_baload (pc' := 152) (v := .int b3) A_a (by decide) rfl at_151 rfl ?_
    refine own_iload (pc' := 154) at_152 rfl rfl ?_
    refine own_ic_ne_f (pc' := 157) at_154 rfl rfl ?_
    refine own_iconst (1 : Int32) (pc' := 158) at_157 rfl rfl ?_
    refine own_goto (pc' := 162) at_158 (by decide) (by decide) ?_
    refine own_istore (pc' := 164) (Ls' := #[.val (.int x0), .val (.int x1), .val (.int x2), .val (.ref a), .val (.int b0), .val (.int b1), .val (.int b2), .val (.int b3), .val (.int p), .val (.int (((b3 &&& (255 : Int32)) <<< ((8 : Int32) &&& 31)) ||| (b2 &&& (255 : Int32)))), .val (.int (0 : Int32)), .val (.int (own_lk b2 b3 p)), .val (.int (1 : Int32))]) at_162 rfl rfl ?_
    refine own_iload (pc' := 166) at_164 rfl rfl ?_
    refine own_iload (pc' := 168) at_166 rfl rfl ?_
    refine own_ic_ne_f (pc' := 171) at_168 (by rw [own_same]; unfold own_ex own_wd; simp [*]) rfl ?_
    refine own_iload (pc' := 173) at_171 rfl rfl ?_
    refine own_if_eq_f (pc' := 176) at_173 (by decide) rfl ?_
    refine own_iconst (1 : Int32) (pc' := 177) at_176 rfl rfl ?_
    refine own_goto (pc' := 181) at_177 (by decide) (by decide) ?_
    exact own_bret (v := (1 : Int32)) rfl (by first | rfl | decide | assumption) at_181 rfl
  · refine own_iload (pc' := 95) at_93 rfl rfl ?_
    refine own_bipush (16 : Int32) (pc' := 97) at_95 rfl rfl ?_
    refine own_ic_ge (pc' := 114) (pf := 100) at_97 (by decide) (by decide) rfl (fun h_97 => ?_) (fun h_97 => ?_)
    · refine own_iconst (0 : Int32) (pc' := 115) at_114 rfl rfl ?_
      refine own_istore (pc' := 117) (Ls' := #[.val (.int x0), .val (.int x1), .val (.int x2), .val (.ref a), .val (.int b0), .val (.int b1), .val (.int b2), .val (.int b3), .val (.int p), .val (.int (((b3 &&& (255 : Int32)) <<< ((8 : Int32) &&& 31)) ||| (b2 &&& (255 : Int32)))), .val (.int (0 : Int32)), .unset, .unset]) at_115 rfl rfl ?_
      refine own_aloadN (pc' := 118) at_117 rfl rfl ?_
      refine own_iload (pc' := 120) at_118 rfl rfl ?_
      refine own_static (own_lkW l Z a0 hw a b0 b1 b2 b3 p h0 n0 hn0 A_a) (hw _ (List.mem_of_getElem? (i := 1) rfl)) (hw _ (List.mem_of_getElem? (i := 2) rfl)) (hw _ (List.mem_of_getElem? (i := 3) rfl)) (hw _ (List.mem_of_getElem? (i := 4) rfl)) (plainFor_of_name own_pn1) (by decide) own_pd1 rfl (argsL := [.ref a, .int p]) (rest := []) rfl rfl (W := 0) (Nat.le_refl _) (by decide) (by decide) (by decide) (by decide) rfl at_120 (pc' := 123) rfl (fun v_ h2 hq => ?_)
      obtain ⟨rfl, rfl⟩ := hq
      show own_W l Z x code maxLocals ret room_1 n0 (fun v h => v = some (.int 1)) h0 1 4 123 #[.val (.int x0), .val (.int x1), .val (.int x2), .val (.ref a), .val (.int b0), .val (.int b1), .val (.int b2), .val (.int b3), .val (.int p), .val (.int (((b3 &&& (255 : Int32)) <<< ((8 : Int32) &&& 31)) ||| (b2 &&& (255 : Int32)))), .val (.int (0 : Int32)), .unset, .unset] [.int (own_lk b2 b3 p)]
      refine own_istore (pc' := 125) (Ls' := #[.val (.int x0), .val (.int x1), .val (.int x2), .val (.ref a), .val (.int b0), .val (.int b1), .val (.int b2), .val (.int b3), .val (.int p), .val (.int (((b3 &&& (255 : Int32)) <<< ((8 : Int32) &&& 31)) ||| (b2 &&& (255 : Int32)))), .val (.int (0 : Int32)), .val (.int (own_lk b2 b3 p)), .unset]) at_123 rfl rfl ?_
      refine own_aloadN (pc' := 126) at_125 rfl rfl ?_
      refine own_iconst (0 : Int32) (pc' := 127) at_126 rfl rfl ?_
      refine own_baload (pc' := 128) (v := .int b0) A_a (by decide) rfl at_127 rfl ?_
      refine own_iload (pc' := 130) at_128 rfl rfl ?_
      refine own_ic_ne_f (pc' := 133) at_130 rfl rfl ?_
      refine own_aloadN (pc' := 134) at_133 rfl rfl ?_
      refine own_iconst (1 : Int32) (pc' := 135) at_134 rfl rfl ?_
      refine own_baload (pc' := 136) (v := .int b1) A_a (by decide) rfl at_135 rfl ?_
      refine own_iload (pc' := 138) at_136 rfl rfl ?_
      refine own_ic_ne_f (pc' := 141) at_138 rfl rfl ?_
      refine own_aloadN (pc' := 142) at_141 rfl rfl ?_
      refine own_iconst (2 : Int32) (pc' := 143) at_142 rfl rfl ?_
      refine own_baload (pc' := 144) (v := .int b2) A_a (by decide) rfl at_143 rfl ?_
      refine own_iload (pc' := 146) at_144 rfl rfl ?_
      refine own_ic_ne_f (pc' := 149) at_146 rfl rfl ?_
      refine own_aloadN (pc' := 150) at_149 rfl rfl ?_
      refine own_iconst (3 : Int32) (pc' := 151) at_150 rfl rfl ?_
      refine own_baload (pc' := 152) (v := .int b3) A_a (by decide) rfl at_151 rfl ?_
      refine own_iload (pc' := 154) at_152 rfl rfl ?_
      refine own_ic_ne_f (pc' := 157) at_154 rfl rfl ?_
      refine own_iconst (1 : Int32) (pc' := 158) at_157 rfl rfl ?_
      refine own_goto (pc' := 162) at_158 (by decide) (by decide) ?_
      refine own_istore (pc' := 164) (Ls' := #[.val (.int x0), .val (.int x1), .val (.int x2), .val (.ref a), .val (.int b0), .val (.int b1), .val (.int b2), .val (.int b3), .val (.int p), .val (.int (((b3 &&& (255 : Int32)) <<< ((8 : Int32) &&& 31)) ||| (b2 &&& (255 : Int32)))), .val (.int (0 : Int32)), .val (.int (own_lk b2 b3 p)), .val (.int (1 : Int32))]) at_162 rfl rfl ?_
      refine own_iload (pc' := 166) at_164 rfl rfl ?_
      refine own_iload (pc' := 168) at_166 rfl rfl ?_
      refine own_ic_ne_f (pc' := 171) at_168 (by rw [own_same]; unfold own_ex own_wd; simp [*]) rfl ?_
      refine own_iload (pc' := 173) at_171 rfl rfl ?_
      refine own_if_eq_f (pc' := 176) at_173 (by decide) rfl ?_
      refine own_iconst (1 : Int32) (pc' := 177) at_176 rfl rfl ?_
      refine own_goto (pc' := 181) at_177 (by decide) (by decide) ?_
      exact own_bret (v := (1 : Int32)) rfl (by first | rfl | decide | assumption) at_181 rfl
    · refine own_iload (pc' := 102) at_100 rfl rfl ?_
      refine own_iload (pc' := 104) at_102 rfl rfl ?_
      refine own_ishr (pc' := 105) at_104 rfl ?_
      refine own_iconst (1 : Int32) (pc' := 106) at_105 rfl rfl ?_
      refine own_iand (pc' := 107) at_106 rfl ?_
      refine own_if_eq (pc' := 114) (pf := 110) at_107 (by decide) (by decide) rfl (fun h_107 => ?_) (fun h_107 => ?_)
      · refine own_iconst (0 : Int32) (pc' := 115) at_114 rfl rfl ?_
        refine own_istore (pc' := 117) (Ls' := #[.val (.int x0), .val (.int x1), .val (.int x2), .val (.ref a), .val (.int b0), .val (.int b1), .val (.int b2), .val (.int b3), .val (.int p), .val (.int (((b3 &&& (255 : Int32)) <<< ((8 : Int32) &&& 31)) ||| (b2 &&& (255 : Int32)))), .val (.int (0 : Int32)), .unset, .unset]) at_115 rfl rfl ?_
        refine own_aloadN (pc' := 118) at_117 rfl rfl ?_
        refine own_iload (pc' := 120) at_118 rfl rfl ?_
        refine own_static (own_lkW l Z a0 hw a b0 b1 b2 b3 p h0 n0 hn0 A_a) (hw _ (List.mem_of_getElem? (i := 1) rfl)) (hw _ (List.mem_of_getElem? (i := 2) rfl)) (hw _ (List.mem_of_getElem? (i := 3) rfl)) (hw _ (List.mem_of_getElem? (i := 4) rfl)) (plainFor_of_name own_pn1) (by decide) own_pd1 rfl (argsL := [.ref a, .int p]) (rest := []) rfl rfl (W := 0) (Nat.le_refl _) (by decide) (by decide) (by decide) (by decide) rfl at_120 (pc' := 123) rfl (fun v_ h3 hq => ?_)
        obtain ⟨rfl, rfl⟩ := hq
        show own_W l Z x code maxLocals ret room_1 n0 (fun v h => v = some (.int 1)) h0 1 4 123 #[.val (.int x0), .val (.int x1), .val (.int x2), .val (.ref a), .val (.int b0), .val (.int b1), .val (.int b2), .val (.int b3), .val (.int p), .val (.int (((b3 &&& (255 : Int32)) <<< ((8 : Int32) &&& 31)) ||| (b2 &&& (255 : Int32)))), .val (.int (0 : Int32)), .unset, .unset] [.int (own_lk b2 b3 p)]
        refine own_istore (pc' := 125) (Ls' := #[.val (.int x0), .val (.int x1), .val (.int x2), .val (.ref a), .val (.int b0), .val (.int b1), .val (.int b2), .val (.int b3), .val (.int p), .val (.int (((b3 &&& (255 : Int32)) <<< ((8 : Int32) &&& 31)) ||| (b2 &&& (255 : Int32)))), .val (.int (0 : Int32)), .val (.int (own_lk b2 b3 p)), .unset]) at_123 rfl rfl ?_
        refine own_aloadN (pc' := 126) at_125 rfl rfl ?_
        refine own_iconst (0 : Int32) (pc' := 127) at_126 rfl rfl ?_
        refine own_baload (pc' := 128) (v := .int b0) A_a (by decide) rfl at_127 rfl ?_
        refine own_iload (pc' := 130) at_128 rfl rfl ?_
        refine own_ic_ne_f (pc' := 133) at_130 rfl rfl ?_
        refine own_aloadN (pc' := 134) at_133 rfl rfl ?_
        refine own_iconst (1 : Int32) (pc' := 135) at_134 rfl rfl ?_
        refine own_baload (pc' := 136) (v := .int b1) A_a (by decide) rfl at_135 rfl ?_
        refine own_iload (pc' := 138) at_136 rfl rfl ?_
        refine own_ic_ne_f (pc' := 141) at_138 rfl rfl ?_
        refine own_aloadN (pc' := 142) at_141 rfl rfl ?_
        refine own_iconst (2 : Int32) (pc' := 143) at_142 rfl rfl ?_
        refine own_baload (pc' := 144) (v := .int b2) A_a (by decide) rfl at_143 rfl ?_
        refine own_iload (pc' := 146) at_144 rfl rfl ?_
        refine own_ic_ne_f (pc' := 149) at_146 rfl rfl ?_
        refine own_aloadN (pc' := 150) at_149 rfl rfl ?_
        refine own_iconst (3 : Int32) (pc' := 151) at_150 rfl rfl ?_
        refine own_baload (pc' := 152) (v := .int b3) A_a (by decide) rfl at_151 rfl ?_
        refine own_iload (pc' := 154) at_152 rfl rfl ?_
        refine own_ic_ne_f (pc' := 157) at_154 rfl rfl ?_
        refine own_iconst (1 : Int32) (pc' := 158) at_157 rfl rfl ?_
        refine own_goto (pc' := 162) at_158 (by decide) (by decide) ?_
        refine own_istore (pc' := 164) (Ls' := #[.val (.int x0), .val (.int x1), .val (.int x2), .val (.ref a), .val (.int b0), .val (.int b1), .val (.int b2), .val (.int b3), .val (.int p), .val (.int (((b3 &&& (255 : Int32)) <<< ((8 : Int32) &&& 31)) ||| (b2 &&& (255 : Int32)))), .val (.int (0 : Int32)), .val (.int (own_lk b2 b3 p)), .val (.int (1 : Int32))]) at_162 rfl rfl ?_
        refine own_iload (pc' := 166) at_164 rfl rfl ?_
        refine own_iload (pc' := 168) at_166 rfl rfl ?_
        refine own_ic_ne_f (pc' := 171) at_168 (by rw [own_same]; unfold own_ex own_wd; simp [*]) rfl ?_
        refine own_iload (pc' := 173) at_171 rfl rfl ?_
        refine own_if_eq_f (pc' := 176) at_173 (by decide) rfl ?_
        refine own_iconst (1 : Int32) (pc' := 177) at_176 rfl rfl ?_
        refine own_goto (pc' := 181) at_177 (by decide) (by decide) ?_
        exact own_bret (v := (1 : Int32)) rfl (by first | rfl | decide | assumption) at_181 rfl
      · refine own_iconst (1 : Int32) (pc' := 111) at_110 rfl rfl ?_
        refine own_goto (pc' := 115) at_111 (by decide) (by decide) ?_
        refine own_istore (pc' := 117) (Ls' := #[.val (.int x0), .val (.int x1), .val (.int x2), .val (.ref a), .val (.int b0), .val (.int b1), .val (.int b2), .val (.int b3), .val (.int p), .val (.int (((b3 &&& (255 : Int32)) <<< ((8 : Int32) &&& 31)) ||| (b2 &&& (255 : Int32)))), .val (.int (1 : Int32)), .unset, .unset]) at_115 rfl rfl ?_
        refine own_aloadN (pc' := 118) at_117 rfl rfl ?_
        refine own_iload (pc' := 120) at_118 rfl rfl ?_
        refine own_static (own_lkW l Z a0 hw a b0 b1 b2 b3 p h0 n0 hn0 A_a) (hw _ (List.mem_of_getElem? (i := 1) rfl)) (hw _ (List.mem_of_getElem? (i := 2) rfl)) (hw _ (List.mem_of_getElem? (i := 3) rfl)) (hw _ (List.mem_of_getElem? (i := 4) rfl)) (plainFor_of_name own_pn1) (by decide) own_pd1 rfl (argsL := [.ref a, .int p]) (rest := []) rfl rfl (W := 0) (Nat.le_refl _) (by decide) (by decide) (by decide) (by decide) rfl at_120 (pc' := 123) rfl (fun v_ h4 hq => ?_)
        obtain ⟨rfl, rfl⟩ := hq
        show own_W l Z x code maxLocals ret room_1 n0 (fun v h => v = some (.int 1)) h0 1 4 123 #[.val (.int x0), .val (.int x1), .val (.int x2), .val (.ref a), .val (.int b0), .val (.int b1), .val (.int b2), .val (.int b3), .val (.int p), .val (.int (((b3 &&& (255 : Int32)) <<< ((8 : Int32) &&& 31)) ||| (b2 &&& (255 : Int32)))), .val (.int (1 : Int32)), .unset, .unset] [.int (own_lk b2 b3 p)]
        refine own_istore (pc' := 125) (Ls' := #[.val (.int x0), .val (.int x1), .val (.int x2), .val (.ref a), .val (.int b0), .val (.int b1), .val (.int b2), .val (.int b3), .val (.int p), .val (.int (((b3 &&& (255 : Int32)) <<< ((8 : Int32) &&& 31)) ||| (b2 &&& (255 : Int32)))), .val (.int (1 : Int32)), .val (.int (own_lk b2 b3 p)), .unset]) at_123 rfl rfl ?_
        refine own_aloadN (pc' := 126) at_125 rfl rfl ?_
        refine own_iconst (0 : Int32) (pc' := 127) at_126 rfl rfl ?_
        refine own_baload (pc' := 128) (v := .int b0) A_a (by decide) rfl at_127 rfl ?_
        refine own_iload (pc' := 130) at_128 rfl rfl ?_
        refine own_ic_ne_f (pc' := 133) at_130 rfl rfl ?_
        refine own_aloadN (pc' := 134) at_133 rfl rfl ?_
        refine own_iconst (1 : Int32) (pc' := 135) at_134 rfl rfl ?_
        refine own_baload (pc' := 136) (v := .int b1) A_a (by decide) rfl at_135 rfl ?_
        refine own_iload (pc' := 138) at_136 rfl rfl ?_
        refine own_ic_ne_f (pc' := 141) at_138 rfl rfl ?_
        refine own_aloadN (pc' := 142) at_141 rfl rfl ?_
        refine own_iconst (2 : Int32) (pc' := 143) at_142 rfl rfl ?_
        refine own_baload (pc' := 144) (v := .int b2) A_a (by decide) rfl at_143 rfl ?_
        refine own_iload (pc' := 146) at_144 rfl rfl ?_
        refine own_ic_ne_f (pc' := 149) at_146 rfl rfl ?_
        refine own_aloadN (pc' := 150) at_149 rfl rfl ?_
        refine own_iconst (3 : Int32) (pc' := 151) at_150 rfl rfl ?_
        refine own_baload (pc' := 152) (v := .int b3) A_a (by decide) rfl at_151 rfl ?_
        refine own_iload (pc' := 154) at_152 rfl rfl ?_
        refine own_ic_ne_f (pc' := 157) at_154 rfl rfl ?_
        refine own_iconst (1 : Int32) (pc' := 158) at_157 rfl rfl ?_
        refine own_goto (pc' := 162) at_158 (by decide) (by decide) ?_
        refine own_istore (pc' := 164) (Ls' := #[.val (.int x0), .val (.int x1), .val (.int x2), .val (.ref a), .val (.int b0), .val (.int b1), .val (.int b2), .val (.int b3), .val (.int p), .val (.int (((b3 &&& (255 : Int32)) <<< ((8 : Int32) &&& 31)) ||| (b2 &&& (255 : Int32)))), .val (.int (1 : Int32)), .val (.int (own_lk b2 b3 p)), .val (.int (1 : Int32))]) at_162 rfl rfl ?_
        refine own_iload (pc' := 166) at_164 rfl rfl ?_
        refine own_iload (pc' := 168) at_166 rfl rfl ?_
        refine own_ic_ne_f (pc' := 171) at_168 (by rw [own_same]; unfold own_ex own_wd; simp [*]) rfl ?_
        refine own_iload (pc' := 173) at_171 rfl rfl ?_
        refine own_if_eq_f (pc' := 176) at_173 (by decide) rfl ?_
        refine own_iconst (1 : Int32) (pc' := 177) at_176 rfl rfl ?_
        refine own_goto (pc' := 181) at_177 (by decide) (by decide) ?_
        exact own_bret (v := (1 : Int32)) rfl (by first | rfl | decide | assumption) at_181 rfl
set_option maxRecDepth 65536 in
set_option maxHeartbeats 40000000 in
theorem own_law (l : Launch) (Z : State) (a0 : Array Value) (hw : ∀ d ∈ tables_1, d.before a0 Z = true) (x0 x1 x2 : Int32) (h0 : Heap) (n0 : Nat) (hn0 : n0 ≤ h0.size) :
    own_W l Z x code maxLocals ret room_1 n0 (fun v h => v = some (.int 1)) h0 0 0 0 #[.val (.int x0), .val (.int x1), .val (.int x2), .unset, .unset, .unset, .unset, .unset, .unset, .unset, .unset, .unset, .unset] [] := by
  refine own_iconst (4 : Int32) (pc' := 1) at_0 rfl rfl ?_
  refine own_newarr (pc' := 3) (ty := .byte) (cap := 4) (hw _ (List.mem_of_getElem? (i := 0) rfl)) rfl at_1 rfl (by decide) (by decide) (by decide) (by decide) (by decide) (fun h5 a gt_a lt_a E6 A_a => ?_)
  have ge_a : n0 ≤ a := Nat.le_trans hn0 gt_a
  replace hn0 : n0 ≤ h5.size := Nat.le_trans hn0 E6.1
  replace A_a : own_A Z h5 a .byte [.int (0 : Int32), .int (0 : Int32), .int (0 : Int32), .int (0 : Int32)] := A_a.cast rfl
  refine own_astoreN (pc' := 4) (Ls' := #[.val (.int x0), .val (.int x1), .val (.int x2), .val (.ref a), .unset, .unset, .unset, .unset, .unset, .unset, .unset, .unset, .unset]) at_3 rfl rfl ?_
  refine own_aloadN (pc' := 5) at_4 rfl rfl ?_
  refine own_iconst (0 : Int32) (pc' := 6) at_5 rfl rfl ?_
  refine own_iloadN (pc' := 7) at_6 rfl rfl ?_
  refine own_i2b (pc' := 8) at_7 rfl ?_
  obtain ⟨b0, hb0⟩ : ∃ z : Int32, z = nar .byte (x0.toInt8.toInt32) := ⟨_, rfl⟩
  refine own_bastore (pc' := 9) A_a (by decide) (by first | decide | (simp only [List.length_cons, List.length_nil, List.length_set, List.length_replicate]; decide)) ge_a at_8 rfl (fun h7 K8 A_new => ?_)
  replace hn0 : n0 ≤ h7.size := Nat.le_trans hn0 K8.1
  replace A_a : own_A Z h7 a .byte [.int b0, .int (0 : Int32), .int (0 : Int32), .int (0 : Int32)] := A_new.cast (by rw [hb0]; rfl)
  refine own_aloadN (pc' := 10) at_9 rfl rfl ?_
  refine own_iconst (1 : Int32) (pc' := 11) at_10 rfl rfl ?_
  refine own_iloadN (pc' := 12) at_11 rfl rfl ?_
  refine own_bipush (8 : Int32) (pc' := 14) at_12 rfl rfl ?_
  refine own_ishr (pc' := 15) at_14 rfl ?_
  refine own_i2b (pc' := 16) at_15 rfl ?_
  obtain ⟨b1, hb1⟩ : ∃ z : Int32, z = nar .byte ((x0 >>> ((8 : Int32) &&& 31)).toInt8.toInt32) := ⟨_, rfl⟩
  refine own_bastore (pc' := 17) A_a (by decide) (by first | decide | (simp only [List.length_cons, List.length_nil, List.length_set, List.length_replicate]; decide)) ge_a at_16 rfl (fun h9 K10 A_new => ?_)
  replace hn0 : n0 ≤ h9.size := Nat.le_trans hn0 K10.1
  replace A_a : own_A Z h9 a .byte [.int b0, .int b1, .int (0 : Int32), .int (0 : Int32)] := A_new.cast (by rw [hb1]; rfl)
  refine own_aloadN (pc' := 18) at_17 rfl rfl ?_
  refine own_iconst (2 : Int32) (pc' := 19) at_18 rfl rfl ?_
  refine own_iloadN (pc' := 20) at_19 rfl rfl ?_
  refine own_bipush (16 : Int32) (pc' := 22) at_20 rfl rfl ?_
  refine own_ishr (pc' := 23) at_22 rfl ?_
  refine own_i2b (pc' := 24) at_23 rfl ?_
  obtain ⟨b2, hb2⟩ : ∃ z : Int32, z = nar .byte ((x0 >>> ((16 : Int32) &&& 31)).toInt8.toInt32) := ⟨_, rfl⟩
  refine own_bastore (pc' := 25) A_a (by decide) (by first | decide | (simp only [List.length_cons, List.length_nil, List.length_set, List.length_replicate]; decide)) ge_a at_24 rfl (fun h11 K12 A_new => ?_)
  replace hn0 : n0 ≤ h11.size := Nat.le_trans hn0 K12.1
  replace A_a : own_A Z h11 a .byte [.int b0, .int b1, .int b2, .int (0 : Int32)] := A_new.cast (by rw [hb2]; rfl)
  refine own_aloadN (pc' := 26) at_25 rfl rfl ?_
  refine own_iconst (3 : Int32) (pc' := 27) at_26 rfl rfl ?_
  refine own_iloadN (pc' := 28) at_27 rfl rfl ?_
  refine own_bipush (24 : Int32) (pc' := 30) at_28 rfl rfl ?_
  refine own_iushr (pc' := 31) at_30 rfl ?_
  refine own_i2b (pc' := 32) at_31 rfl ?_
  obtain ⟨b3, hb3⟩ : ∃ z : Int32, z = nar .byte ((XT.ushr x0 (24 : Int32)).toInt8.toInt32) := ⟨_, rfl⟩
  refine own_bastore (pc' := 33) A_a (by decide) (by first | decide | (simp only [List.length_cons, List.length_nil, List.length_set, List.length_replicate]; decide)) ge_a at_32 rfl (fun h13 K14 A_new => ?_)
  replace hn0 : n0 ≤ h13.size := Nat.le_trans hn0 K14.1
  replace A_a : own_A Z h13 a .byte [.int b0, .int b1, .int b2, .int b3] := A_new.cast (by rw [hb3]; rfl)
  refine own_aloadN (pc' := 34) at_33 rfl rfl ?_
  refine own_iconst (0 : Int32) (pc' := 35) at_34 rfl rfl ?_
  refine own_baload (pc' := 36) (v := .int b0) A_a (by decide) rfl at_35 rfl ?_
  refine own_istore (pc' := 38) (Ls' := #[.val (.int x0), .val (.int x1), .val (.int x2), .val (.ref a), .val (.int b0), .unset, .unset, .unset, .unset, .unset, .unset, .unset, .unset]) at_36 rfl rfl ?_
  refine own_aloadN (pc' := 39) at_38 rfl rfl ?_
  refine own_iconst (1 : Int32) (pc' := 40) at_39 rfl rfl ?_
  refine own_baload (pc' := 41) (v := .int b1) A_a (by decide) rfl at_40 rfl ?_
  refine own_istore (pc' := 43) (Ls' := #[.val (.int x0), .val (.int x1), .val (.int x2), .val (.ref a), .val (.int b0), .val (.int b1), .unset, .unset, .unset, .unset, .unset, .unset, .unset]) at_41 rfl rfl ?_
  refine own_aloadN (pc' := 44) at_43 rfl rfl ?_
  refine own_iconst (2 : Int32) (pc' := 45) at_44 rfl rfl ?_
  refine own_baload (pc' := 46) (v := .int b2) A_a (by decide) rfl at_45 rfl ?_
  refine own_istore (pc' := 48) (Ls' := #[.val (.int x0), .val (.int x1), .val (.int x2), .val (.ref a), .val (.int b0), .val (.int b1), .val (.int b2), .unset, .unset, .unset, .unset, .unset, .unset]) at_46 rfl rfl ?_
  refine own_aloadN (pc' := 49) at_48 rfl rfl ?_
  refine own_iconst (3 : Int32) (pc' := 50) at_49 rfl rfl ?_
  refine own_baload (pc' := 51) (v := .int b3) A_a (by decide) rfl at_50 rfl ?_
  refine own_istore (pc' := 53) (Ls' := #[.val (.int x0), .val (.int x1), .val (.int x2), .val (.ref a), .val (.int b0), .val (.int b1), .val (.int b2), .val (.int b3), .unset, .unset, .unset, .unset, .unset]) at_51 rfl rfl ?_
  refine own_iloadN (pc' := 54) at_53 rfl rfl ?_
  refine own_iconst (1 : Int32) (pc' := 55) at_54 rfl rfl ?_
  refine own_iand (pc' := 56) at_55 rfl ?_
  refine own_if_eq (pc' := 63) (pf := 59) at_56 (by decide) (by decide) rfl (fun h_56 => ?_) (fun h_56 => ?_)
  · refine own_iloadN (pc' := 64) at_63 rfl rfl ?_
    refine own_bipush (31 : Int32) (pc' := 66) at_64 rfl rfl ?_
    refine own_iand (pc' := 67) at_66 rfl ?_
    refine own_istore (pc' := 69) (Ls' := #[.val (.int x0), .val (.int x1), .val (.int x2), .val (.ref a), .val (.int b0), .val (.int b1), .val (.int b2), .val (.int b3), .val (.int (x1 &&& (31 : Int32))), .unset, .unset, .unset, .unset]) at_67 rfl rfl ?_
    exact own_law2 l Z a0 hw x0 x1 x2 b0 b1 b2 b3 _ a h13 n0 hn0 A_a
  · refine own_iloadN (pc' := 60) at_59 rfl rfl ?_
    refine own_goto (pc' := 67) at_60 (by decide) (by decide) ?_
    refine own_istore (pc' := 69) (Ls' := #[.val (.int x0), .val (.int x1), .val (.int x2), .val (.ref a), .val (.int b0), .val (.int b1), .val (.int b2), .val (.int b3), .val (.int x1), .unset, .unset, .unset, .unset]) at_67 rfl rfl ?_
    exact own_law2 l Z a0 hw x0 x1 x2 b0 b1 b2 b3 _ a h13 n0 hn0 A_a
set_option maxRecDepth 65536 in
set_option maxHeartbeats 40000000 in
theorem comes_1 {Post : Tables → Env → Array Value → State → Outcome → State → Prop} (hpost : ∀ tb e args s v u, (limb_1_1.after args s (.returned v) u = true ∧ limb_1_2.after args s (.returned v) u = true ∧ True) → FrameEnd s (.returned v) u (Jvm.fieldLocs frame_1_writes args s ++ Jvm.arrayLocs frame_1_arrays args s ++ Jvm.staticLocs frame_1_statics s) 16 128 → Post tb e args s (.returned v) u) :
    ArmFor flags0 classFile x code maxLocals ret World_1 tables_1 room_1 Calls_1 rest_1 Pre_1 Post := by
  intro l hfl _ _ p e ha hc hk s m args below hf hA hF happ hP
  obtain ⟨hcalls, hrest, hpre⟩ := hP
  obtain ⟨-, -, -, hnamed, -, -, -, hat⟩ := (Spec.applies_iff hf).mp happ
  obtain ⟨hg, hn⟩ := and_e (Cond.before_iff.mp (show (Jvm.Cond.and given_1 narrow_1).before args s = true from hpre))
  obtain ⟨hcount, hg0⟩ := and_e hg
  obtain ⟨w0, w1, w2, rfl⟩ : ∃ w0 w1 w2 : Value, args = #[w0, w1, w2] := by
    have hs : args.size = 3 := by simpa [Cond.value, given_1] using hcount
    obtain ⟨L⟩ := args
    match L, hs with
    | [w0, w1, w2], _ => exact ⟨w0, w1, w2, rfl⟩
  have hw := fun d (hd : d ∈ tables_1) => atoms_spec (ws := Jvm.Cond.code x code maxLocals ret :: tables_1) hat d (List.mem_cons_of_mem _ hd)
  obtain ⟨hg0v, hg1⟩ := and_e hg0
  obtain ⟨x0, e0⟩ := is_v hg0v
  obtain rfl : w0 = (.int x0) := Option.some.inj e0
  obtain ⟨hg1v, hg2⟩ := and_e hg1
  obtain ⟨x1, e1⟩ := is_v hg1v
  obtain rfl : w1 = (.int x1) := Option.some.inj e1
  obtain ⟨x2, e2⟩ := is_v hg2
  obtain rfl : w2 = (.int x2) := Option.some.inj e2
  obtain ⟨n, o, h1, h2, h3, _, L, rfl, ⟨hq1, N⟩, hq⟩ := own_met (argsL := [.int x0, .int x1, .int x2]) (own_law l s _ hw x0 x1 x2 s.heap s.heap.size (Nat.le_refl _)) (plainFor_of_name own_pn0) rfl tables_1 p e ha hc hk s m _ below hf ((Spec.applies_iff_loose hf).mp happ).1 ⟨rfl, State.Warmed39.refl s, rfl⟩ trivial
  subst hq1
  refine ⟨n, _, h1, h2, h3, hpost _ _ _ _ _ _ ⟨Cond.after_iff.mpr rfl, Cond.after_iff.mpr (eq_i res_at (Term.int_eval (1)) rfl), trivial⟩ ⟨hq.1, hq.2.1, (hq.2.2.sift fun y hy => Or.inr (N y hy)).mono (by decide) (by decide)⟩⟩
theorem main_1_1 : Claimed_1_1 := comes_1 fun _ _ _ _ _ _ h hF => ⟨h.1, hF⟩
theorem main_1_2 : Claimed_1_2 := comes_1 fun _ _ _ _ _ _ h hF => ⟨h.2.1, hF⟩
end Jvm.Pilot.@@N@@
namespace Jvm.Pilot.@@N@@
open Jvm Jvm.ClassFile Sem Op Lib Jvm.Free Jvm.Stand Jvm.Pilot.@@N@@.Jvm.D
/-! MADE BY PROGRAM (witnessworld.py) out of the Statement's table words and the real class files: 9 classes; the members and pool entries that the words name. The judged class is class 1, her method 1. -/
namespace start1
open Jvm.ClassFile
def u (s : String) : CpInfo := .utf8 (stringToUtf16 s)
/-- a pool by its gaps: so many unusable entries, then the entry; so many at the end -/
def gap : Nat → List CpInfo → List CpInfo
  | 0, r => r
  | n + 1, r => .unusable :: gap n r
def poolList (es : List (Nat × CpInfo)) (last : Nat) : List CpInfo := es.foldr (fun e r => gap e.1 (e.2 :: r)) (gap last [])
def pool (es : List (Nat × CpInfo)) (last : Nat) : Array CpInfo := ⟨poolList es last⟩
def fileOf (pool : Array CpInfo) (this : Nat) (attrs : Array Attribute := #[]) (ms : Array MethodInfo := #[]) (fl : Nat := 33) (sup : Nat := 0) (ifs : Array Nat := #[]) (fds : Array FieldInfo := #[]) : ClassFile where
  minorVersion := 0
  majorVersion := 65
  constantPool := pool
  accessFlags := fl
  thisClass := this
  superClass := sup
  interfaces := ifs
  fields := fds
  methods := ms
  attributes := attrs
def plain (name : String) (sup : Option ClassId) : Class where
  name := name
  kind := .ordinary
  loader := none
  accessFlags := 33
  super := sup
  interfaces := #[]
  cf := none
  fields := #[]
  methods := #[]
  instanceTypes := #[]
  staticTypes := #[]
  resolved := #[]
  callSites := []
  init := .initialized
  statics := none
  mirror := none

def pool0 : Array CpInfo := pool [(5, u "<init>"), (0, u "()V"), (1, .class_ 10), (1, u "java/lang/Object")] 113

def k0m0 : Method := { name := "<init>", desc := "()V", sig := { parameters := [], returnType := none }, accessFlags := 1, code := none }
/-- java/lang/Object -/
def k0 : Class := { plain "java/lang/Object" none with
  accessFlags := 33
  interfaces := #[]
  cf := some (fileOf pool0 8 #[] #[{ accessFlags := 1, nameIndex := 5, descriptorIndex := 6, attributes := #[] }] 33 0 #[] #[])
  fields := #[]
  methods := #[k0m0]
  instanceTypes := #[]
  staticTypes := #[]
  resolved := Array.replicate 124 none
  statics := none }

def pool1 : Array CpInfo := pool [(2, .class_ 4), (1, u "java/lang/Object"), (0, u "<init>"), (0, u "()V"), (0, .methodref 8 9), (0, .class_ 10), (0, .nameAndType 11 12), (0, u "com/example/fieldtap/fieldtap/type2/Type2Image"), (0, u "lockedByStaticBits"), (0, u "([BI)Z"), (0, .class_ 14), (0, u "com/example/fieldtap/fieldtap/type2/Type2ImageLockedByStaticBitsPinLaw"), (2, u "law"), (0, u "(III)Z")] 5

def k1m0 : Method := { name := "<init>", desc := "()V", sig := { parameters := [], returnType := none }, accessFlags := 1, code := none }
def k1c1 : Code := { maxStack := 4, maxLocals := 13, code := code, exceptionTable := #[], attributes := #[] }
def k1m1 : Method := { name := "law", desc := "(III)Z", sig := { parameters := [.int, .int, .int], returnType := some .boolean }, accessFlags := 9, code := some k1c1 }
/-- com/example/fieldtap/fieldtap/type2/Type2ImageLockedByStaticBitsPinLaw -/
def k1 : Class := { plain "com/example/fieldtap/fieldtap/type2/Type2ImageLockedByStaticBitsPinLaw" (some 0) with
  accessFlags := 49
  interfaces := #[]
  cf := some (fileOf pool1 13 #[] #[{ accessFlags := 1, nameIndex := 5, descriptorIndex := 6, attributes := #[] }, { accessFlags := 9, nameIndex := 17, descriptorIndex := 18, attributes := #[] }] 49 2 #[] #[])
  fields := #[]
  methods := #[k1m0, k1m1]
  instanceTypes := #[]
  staticTypes := #[]
  resolved := Array.replicate 24 none
  statics := none }

def pool2 : Array CpInfo := pool [(1, .class_ 2), (0, u "com/example/fieldtap/fieldtap/type2/Type2Image"), (1, .class_ 6), (1, u "java/lang/Object"), (4, u "uid"), (0, u "[B"), (2, u "version"), (14, u "chip"), (0, u "Lcom/example/fieldtap/fieldtap/type2/Type2Chip;"), (2, u "memory"), (108, u "PAGE_BYTES"), (0, u "I"), (2, u "READ_BYTES"), (1, u "STATIC_LOCK_PAGE"), (1, u "CAPABILITY_CONTAINER_PAGE"), (1, u "FIRST_USER_PAGE"), (0, u "STATIC_LOCK_ONLY_BYTES"), (1, u "FIRST_DYNAMICALLY_LOCKED_PAGE"), (0, u "PAGE_KEY"), (0, u "Ljava/lang/String;"), (0, u "UID_BYTES"), (1, u "PAGE_0_UID_BYTES"), (0, u "CASCADE_TAG"), (10, u "lockedByStaticBits"), (0, u "([BI)Z")] 48

def k2c0 : Code := { maxStack := 3, maxLocals := 2, code := prog_109_method_5_code, exceptionTable := #[], attributes := #[] }
def k2m0 : Method := { name := "lockedByStaticBits", desc := "([BI)Z", sig := { parameters := [(.array .byte), .int], returnType := some .boolean }, accessFlags := 8, code := some k2c0 }
/-- com/example/fieldtap/fieldtap/type2/Type2Image -/
def k2 : Class := { plain "com/example/fieldtap/fieldtap/type2/Type2Image" (some 0) with
  accessFlags := 49
  interfaces := #[]
  cf := some (fileOf pool2 1 #[] #[{ accessFlags := 8, nameIndex := 173, descriptorIndex := 174, attributes := #[] }] 49 4 #[] #[{ accessFlags := 24, nameIndex := 143, descriptorIndex := 144, attributes := #[] }, { accessFlags := 24, nameIndex := 147, descriptorIndex := 144, attributes := #[] }, { accessFlags := 24, nameIndex := 149, descriptorIndex := 144, attributes := #[] }, { accessFlags := 24, nameIndex := 151, descriptorIndex := 144, attributes := #[] }, { accessFlags := 24, nameIndex := 153, descriptorIndex := 144, attributes := #[] }, { accessFlags := 24, nameIndex := 154, descriptorIndex := 144, attributes := #[] }, { accessFlags := 24, nameIndex := 156, descriptorIndex := 144, attributes := #[] }, { accessFlags := 26, nameIndex := 157, descriptorIndex := 158, attributes := #[] }, { accessFlags := 26, nameIndex := 159, descriptorIndex := 144, attributes := #[] }, { accessFlags := 24, nameIndex := 161, descriptorIndex := 144, attributes := #[] }, { accessFlags := 26, nameIndex := 162, descriptorIndex := 144, attributes := #[] }, { accessFlags := 18, nameIndex := 11, descriptorIndex := 12, attributes := #[] }, { accessFlags := 18, nameIndex := 15, descriptorIndex := 12, attributes := #[] }, { accessFlags := 18, nameIndex := 30, descriptorIndex := 31, attributes := #[] }, { accessFlags := 18, nameIndex := 34, descriptorIndex := 12, attributes := #[] }])
  fields := #[{ name := "PAGE_BYTES", type := .int, accessFlags := 24, slot := 0, constantValue := 0 }, { name := "READ_BYTES", type := .int, accessFlags := 24, slot := 1, constantValue := 0 }, { name := "STATIC_LOCK_PAGE", type := .int, accessFlags := 24, slot := 2, constantValue := 0 }, { name := "CAPABILITY_CONTAINER_PAGE", type := .int, accessFlags := 24, slot := 3, constantValue := 0 }, { name := "FIRST_USER_PAGE", type := .int, accessFlags := 24, slot := 4, constantValue := 0 }, { name := "STATIC_LOCK_ONLY_BYTES", type := .int, accessFlags := 24, slot := 5, constantValue := 0 }, { name := "FIRST_DYNAMICALLY_LOCKED_PAGE", type := .int, accessFlags := 24, slot := 6, constantValue := 0 }, { name := "PAGE_KEY", type := (.object "java/lang/String"), accessFlags := 26, slot := 7, constantValue := 0 }, { name := "UID_BYTES", type := .int, accessFlags := 26, slot := 8, constantValue := 0 }, { name := "PAGE_0_UID_BYTES", type := .int, accessFlags := 24, slot := 9, constantValue := 0 }, { name := "CASCADE_TAG", type := .int, accessFlags := 26, slot := 10, constantValue := 0 }, { name := "uid", type := (.array .byte), accessFlags := 18, slot := 0, constantValue := 0 }, { name := "version", type := (.array .byte), accessFlags := 18, slot := 1, constantValue := 0 }, { name := "chip", type := (.object "com/example/fieldtap/fieldtap/type2/Type2Chip"), accessFlags := 18, slot := 2, constantValue := 0 }, { name := "memory", type := (.array .byte), accessFlags := 18, slot := 3, constantValue := 0 }]
  methods := #[k2m0]
  instanceTypes := #[(.array .byte), (.array .byte), (.object "com/example/fieldtap/fieldtap/type2/Type2Chip"), (.array .byte)]
  staticTypes := #[.int, .int, .int, .int, .int, .int, .int, (.object "java/lang/String"), .int, .int, .int]
  resolved := Array.replicate 223 none
  statics := none }

def pool3 : Array CpInfo := pool [(1, u "java/lang/Cloneable"), (0, .class_ 1), (0, u "java/lang/Object"), (0, .class_ 3)] 3

/-- java/lang/Cloneable -/
def k3 : Class := { plain "java/lang/Cloneable" (some 0) with
  accessFlags := 1537
  interfaces := #[]
  cf := some (fileOf pool3 2 #[] #[] 1537 4 #[] #[])
  fields := #[]
  methods := #[]
  instanceTypes := #[]
  staticTypes := #[]
  resolved := Array.replicate 8 none
  statics := none }

def pool4 : Array CpInfo := pool [(1, u "java/io/Serializable"), (0, .class_ 1), (0, u "java/lang/Object"), (0, .class_ 3)] 3

/-- java/io/Serializable -/
def k4 : Class := { plain "java/io/Serializable" (some 0) with
  accessFlags := 1537
  interfaces := #[]
  cf := some (fileOf pool4 2 #[] #[] 1537 4 #[] #[])
  fields := #[]
  methods := #[]
  instanceTypes := #[]
  staticTypes := #[]
  resolved := Array.replicate 8 none
  statics := none }

/-- the primitive byte -/
def k5 : Class := { plain "byte" none with kind := .primitive 'B', accessFlags := 0x411 }
/-- [B -/
def k6 : Class := { plain "[B" (some 0) with kind := .array 5 .byte, interfaces := #[3, 4], accessFlags := 1041 }

/-- the primitive int -/
def k7 : Class := { plain "int" none with kind := .primitive 'I', accessFlags := 0x411 }
/-- [I -/
def k8 : Class := { plain "[I" (some 0) with kind := .array 7 .int, interfaces := #[3, 4], accessFlags := 1041 }

def heap : Heap := #[]
def classes : Array Class := #[k0, k1, k2, k3, k4, k5, k6, k7, k8]
def interned : List (Array UInt16 × Addr) := []
def slotsUsed : Nat := 0
def theMethod : MethodId := ⟨1, 1⟩
def args0 : Array Value := #[.int 5, .int 7, .int 9]
def aboutOver (below : List Frame) : State where
  vm := { classes := classes, interned := interned.toArray }
  heap := heap
  slotsUsed := slotsUsed
  threads := #[{ frames := .invoking theMethod args0 :: below }]
def below0 : List Frame := [.native { method := ⟨0, 0⟩, args := #[] }]
def about1 : State := aboutOver below0
def p0 : Program := .bare "" "" ""
def e0 : Env := launch0.env 0 0 0
theorem w_frames : about1.frames = Frame.invoking theMethod args0 :: below0 := rfl
set_option maxRecDepth 65536 in
theorem w_args : argsFit about1.vm theMethod args0 = true := by decide +kernel
set_option maxRecDepth 65536 in
theorem w_heap : heapFits about1 = true := by decide +kernel
set_option maxRecDepth 65536 in
theorem w_runnable : about1.curStatus? = some .runnable := by decide +kernel
set_option maxRecDepth 65536 in
theorem w_alone : about1.alone = true := by decide +kernel
set_option maxRecDepth 65536 in
theorem w_named : about1.methodNamed? x = some theMethod := by decide +kernel
set_option maxRecDepth 65536 in
theorem w_hears : about1.hears theMethod below0 = true := by decide +kernel
set_option maxRecDepth 65536 in
theorem w_ripe : about1.ripe theMethod args0 below0 = true := by decide +kernel
theorem w_running : about1.status = .running := rfl
set_option maxRecDepth 65536 in
theorem w_room : about1.hasRoom e0.platform room_1 = true :=
  launch0.hasRoom_least _ room_1 (by decide +kernel) (by decide +kernel) (by decide +kernel) (by decide +kernel) (by decide +kernel) (by decide +kernel)
theorem allAtoms_all (ts : List Jvm.Cond) (a : Array Jvm.Value) (st : Jvm.State) : (allAtoms ts).before a st = ts.all (fun c => c.before a st) := by
  induction ts with
  | nil => rfl
  | cons c t ih =>
    show (Jvm.Cond.and c (allAtoms t)).before a st = _
    rw [Jvm.Cond.before_and, ih, List.all_cons]
def words1 : List Jvm.Cond := Jvm.Cond.code x code maxLocals ret :: tables_1
/-- a 'code' word, met by the world's own term for the bytes: nothing is compared byte by byte -/
theorem code_word {y : MethodName} {bytes : ByteArray} {mx : Nat} {rt : Option FieldType} {a : Array Value} {s : State} {m : MethodId} {meth : Method} {c : Code} (h1 : s.methodNamed? y = some m) (h2 : s.vm.method? m = some meth) (h3 : meth.code = some c) (h4 : c.code = bytes)
    (h5 : (c.maxLocals == mx && c.exceptionTable.isEmpty && decide (c.maxStack ≤ mostOperands) && decide (meth.sig.returnType = rt) && !meth.locks && decide (parseMethodDescriptor y.desc = some meth.sig)) = true) : (Jvm.Cond.code y bytes mx rt).before a s = true := by
  simp only [Bool.and_eq_true, beq_iff_eq, Bool.not_eq_true', decide_eq_true_eq] at h5
  obtain ⟨⟨⟨⟨⟨g1, g2⟩, g3⟩, g4⟩, g5⟩, g6⟩ := h5
  simp [Cond.before, Cond.holds, Cond.value, h1, h2, h3, h4, g1, g2, g3, g4, g5, g6]
def isCode : Jvm.Cond → Bool
  | .code _ _ _ _ => true
  | _ => false
theorem all_split {L : List Jvm.Cond} {P : Jvm.Cond → Bool} (h1 : L.all (fun c => isCode c || P c) = true) (h2 : ∀ c ∈ L.filter isCode, P c = true) : L.all P = true := by
  refine List.all_eq_true.mpr fun c hc => ?_
  have h := List.all_eq_true.mp h1 c hc
  rcases Bool.eq_false_or_eq_true (isCode c) with hi | hi
  · exact h2 c (List.mem_filter.mpr ⟨hc, hi⟩)
  · simpa [hi] using h
set_option maxRecDepth 65536 in
theorem w_c0 : (Jvm.Cond.code x code maxLocals ret).before args0 about1 = true := code_word (m := ⟨1, 1⟩) (meth := k1m1) (c := k1c1) (by decide +kernel) rfl rfl rfl (by decide +kernel)
set_option maxRecDepth 65536 in
theorem w_c1 : (Jvm.Cond.code ({ cls := "com/example/fieldtap/fieldtap/type2/Type2Image", name := "lockedByStaticBits", desc := "([BI)Z" } : Jvm.MethodName) prog_109_method_5_code (2 : Nat) (Option.some Jvm.ClassFile.FieldType.boolean)).before args0 about1 = true := code_word (m := ⟨2, 0⟩) (meth := k2m0) (c := k2c0) (by decide +kernel) rfl rfl rfl (by decide +kernel)
def codes1 : List Jvm.Cond := [Jvm.Cond.code x code maxLocals ret, Jvm.Cond.code ({ cls := "com/example/fieldtap/fieldtap/type2/Type2Image", name := "lockedByStaticBits", desc := "([BI)Z" } : Jvm.MethodName) prog_109_method_5_code (2 : Nat) (Option.some Jvm.ClassFile.FieldType.boolean)]
set_option maxRecDepth 65536 in
theorem codes_eq : words1.filter isCode = codes1 := rfl
theorem w_codes : ∀ c ∈ words1.filter isCode, c.before args0 about1 = true := by
  rw [codes_eq]
  intro c hc
  simp only [codes1, List.mem_cons, List.not_mem_nil, or_false] at hc
  rcases hc with rfl | rfl
  · exact w_c0
  · exact w_c1
set_option maxRecDepth 65536 in
theorem w_t1 : words1.all (fun c => isCode c || c.before args0 about1) = true := by decide +kernel
theorem w_tables : (allAtoms (Jvm.Cond.code x code maxLocals ret :: tables_1)).before args0 about1 = true := by
  rw [allAtoms_all]
  show words1.all (fun c => c.before args0 about1) = true
  refine all_split ?_ w_codes
  rw [w_t1]
set_option maxRecDepth 65536 in
theorem w_case : (Jvm.Cond.and given_1 narrow_1).before args0 about1 = true := by decide +kernel
theorem w_applies : (headSpec (Jvm.Cond.code x code maxLocals ret :: tables_1) room_1).applies x e0.platform about1 = true :=
  (Spec.applies_iff w_frames).mpr ⟨w_running, w_runnable, w_alone, w_named, w_hears, w_ripe, w_room, w_tables⟩
theorem atStart : AtStart classFile x code maxLocals ret World_1 tables_1 room_1 Calls_1 rest_1 Pre_1 launch0 p0 e0 about1 theMethod args0 below0 :=
  ⟨lists_1, trivial, launch0.admits_env _ _ _, launch0.least_env, fairChoices_fair.cas, fairChoices_fair.clock, w_frames, w_args, w_heap, w_applies, trivial, trivial, w_case⟩
end start1
theorem witness_1 : WitnessClaimed_1 := ⟨start1.p0, start1.e0, start1.about1, start1.theMethod, start1.args0, start1.below0, start1.atStart⟩
end Jvm.Pilot.@@N@@

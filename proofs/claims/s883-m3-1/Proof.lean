import JvmDerived
import JvmDerived.Pilot.@@N@@Statement
import JvmDerived.Pilot.@@N@@Code
set_option linter.unusedVariables false
set_option linter.unusedSimpArgs false
namespace Jvm.Pilot.@@N@@
open Jvm Jvm.ClassFile Sem Op Lib Jvm.Free Jvm.Stand Jvm.LawKit Jvm.RoadKit Bundle Jvm.Pilot.@@N@@.Jvm.D
-- LAYER BEGIN
section OwnW
variable {l : Launch} {Z : State} {y : MethodName} {bytes : ByteArray} {ml : Nat} {ret : Option FieldType} {R : Room} {n0 : Nat} {Q : Option Value → Heap → Prop} {h : Heap} {cells slots pc pc' : Nat} {Ls Ls' : Array Slot} {st st' : List Value} {a0 : Array Value}
/-- from this point of the body (heap h, so many cells and slots made, at pc with these locals and this stack) every run returns; Q holds of the value and the heap; all that was written lies at or above n0 -/
def own_W (l : Launch) (Z : State) (y : MethodName) (bytes : ByteArray) (ml : Nat) (ret : Option FieldType) (R : Room) (n0 : Nat) (Q : Option Value → Heap → Prop) (h : Heap) (cells slots pc : Nat) (Ls : Array Slot) (st : List Value) : Prop :=
  ∀ (p : Program) (e : Env) (s : State) (m : MethodId) (args : Array Value) (below : List Frame) (meth : Method) (c : Code) (T : State) (locs : List Loc),
    p.tables.exec = Jvm.exec → Z.Warmed39 s.vm → s.vm.findClass y.cls = some m.cls → c.code = bytes → c.maxLocals = ml → meth.sig.returnType = ret → meth.locks = false → meth.name = y.name → cells ≤ R.cells → slots ≤ R.slots →
    Stand p l e R s m args below meth c T locs cells slots → T.heap = h → Fr n0 locs →
    ∃ s₂ o, Steps p.tables e below (T.setTop (mkF m pc Ls st)) s₂ ∧ s₂.status = .running ∧ Ended s₂ below o ∧ ∃ v L, o = .returned v ∧ (Q v s₂.heap ∧ Fr n0 L) ∧ FrameEnd s o s₂ L R.cells R.slots
theorem own_pure (hs : ∀ (p : Program) (e : Env) (below : List Frame) (T target : State) (m : MethodId) (c : Code), At T m c below → p.tables.exec = Jvm.exec → c.code = bytes → Steps p.tables e below (T.setTop (mkF m pc' Ls' st')) target → Steps p.tables e below (T.setTop (mkF m pc Ls st)) target)
    (k : own_W l Z y bytes ml ret R n0 Q h cells slots pc' Ls' st') : own_W l Z y bytes ml ret R n0 Q h cells slots pc Ls st := by
  intro p e s m args below meth c T locs hx hZ hown hby hml hret hlk hnm hce hsl X eT N
  obtain ⟨s₂, o, h1, h2⟩ := k p e s m args below meth c T locs hx hZ hown hby hml hret hlk hnm hce hsl X eT N
  exact ⟨s₂, o, hs p e below T s₂ m c X.here hx hby h1, h2⟩
theorem own_more {cells' slots' : Nat} (hc : cells ≤ cells') (hs : slots ≤ slots') (hc' : cells' ≤ R.cells) (hs' : slots' ≤ R.slots) (k : own_W l Z y bytes ml ret R n0 Q h cells' slots' pc Ls st) : own_W l Z y bytes ml ret R n0 Q h cells slots pc Ls st := by
  intro p e s m args below meth c T locs hx hZ hown hby hml hret hlk hnm hce hsl X eT N
  exact k p e s m args below meth c T locs hx hZ hown hby hml hret hlk hnm hc' hs' (X.more hc hs) eT N
theorem own_weak {Q' : Option Value → Heap → Prop} (hq : ∀ v h, Q' v h → Q v h) (k : own_W l Z y bytes ml ret R n0 Q' h cells slots pc Ls st) : own_W l Z y bytes ml ret R n0 Q h cells slots pc Ls st := by
  intro p e s m args below meth c T locs hx hZ hown hby hml hret hlk hnm hce hsl X eT N
  obtain ⟨s₂, o, h1, h2, h3, v, L, h4, ⟨h5, h6⟩, h7⟩ := k p e s m args below meth c T locs hx hZ hown hby hml hret hlk hnm hce hsl X eT N
  exact ⟨s₂, o, h1, h2, h3, v, L, h4, ⟨hq _ _ h5, h6⟩, h7⟩
theorem own_iloadN {i : Fin 4} {u : Int32} (hd : decode bytes pc = .ok (.iload_n i, 1)) (hp : pc + 1 = pc') (hl : Ls[i.val]? = some (.val (.int u))) (k : own_W l Z y bytes ml ret R n0 Q h cells slots pc' Ls (.int u :: st)) : own_W l Z y bytes ml ret R n0 Q h cells slots pc Ls (st) :=
  own_pure (fun p e below T t m c hA hx hb hr => by subst hp; exact XS.iloadN hA hx rfl (hb ▸ hd) hl hr) k
theorem own_iload {i : Nat} {u : Int32} (hd : decode bytes pc = .ok (.iload i, 2)) (hp : pc + 2 = pc') (hl : Ls[i]? = some (.val (.int u))) (k : own_W l Z y bytes ml ret R n0 Q h cells slots pc' Ls (.int u :: st)) : own_W l Z y bytes ml ret R n0 Q h cells slots pc Ls (st) :=
  own_pure (fun p e below T t m c hA hx hb hr => by subst hp; exact XS.iload hA hx rfl (hb ▸ hd) hl hr) k
theorem own_lloadN {i : Fin 4} {u : Int64} (hd : decode bytes pc = .ok (.lload_n i, 1)) (hp : pc + 1 = pc') (hl : Ls[i.val]? = some (.val (.long u))) (k : own_W l Z y bytes ml ret R n0 Q h cells slots pc' Ls (.long u :: st)) : own_W l Z y bytes ml ret R n0 Q h cells slots pc Ls (st) :=
  own_pure (fun p e below T t m c hA hx hb hr => by subst hp; exact XT.lloadN hA hx rfl (hb ▸ hd) hl hr) k
theorem own_lload {i : Nat} {u : Int64} (hd : decode bytes pc = .ok (.lload i, 2)) (hp : pc + 2 = pc') (hl : Ls[i]? = some (.val (.long u))) (k : own_W l Z y bytes ml ret R n0 Q h cells slots pc' Ls (.long u :: st)) : own_W l Z y bytes ml ret R n0 Q h cells slots pc Ls (st) :=
  own_pure (fun p e below T t m c hA hx hb hr => by subst hp; exact XT.lload hA hx rfl (hb ▸ hd) hl hr) k
theorem own_aloadN {i : Fin 4} {u : Addr} (hd : decode bytes pc = .ok (.aload_n i, 1)) (hp : pc + 1 = pc') (hl : Ls[i.val]? = some (.val (.ref u))) (k : own_W l Z y bytes ml ret R n0 Q h cells slots pc' Ls (.ref u :: st)) : own_W l Z y bytes ml ret R n0 Q h cells slots pc Ls (st) :=
  own_pure (fun p e below T t m c hA hx hb hr => by subst hp; exact XS.aloadN hA hx rfl (hb ▸ hd) hl rfl hr) k
theorem own_aload {i : Nat} {u : Addr} (hd : decode bytes pc = .ok (.aload i, 2)) (hp : pc + 2 = pc') (hl : Ls[i]? = some (.val (.ref u))) (k : own_W l Z y bytes ml ret R n0 Q h cells slots pc' Ls (.ref u :: st)) : own_W l Z y bytes ml ret R n0 Q h cells slots pc Ls (st) :=
  own_pure (fun p e below T t m c hA hx hb hr => by subst hp; exact XS.aload hA hx rfl (hb ▸ hd) hl rfl hr) k
theorem own_istoreN {i : Fin 4} {u : Int32} (hd : decode bytes pc = .ok (.istore_n i, 1)) (hp : pc + 1 = pc') (hl : storeLocals Ls i.val (.int u) = some Ls') (k : own_W l Z y bytes ml ret R n0 Q h cells slots pc' Ls' (st)) : own_W l Z y bytes ml ret R n0 Q h cells slots pc Ls (.int u :: st) :=
  own_pure (fun p e below T t m c hA hx hb hr => by subst hp; exact XS.istoreN hA hx rfl (hb ▸ hd) rfl hl hr) k
theorem own_istore {i : Nat} {u : Int32} (hd : decode bytes pc = .ok (.istore i, 2)) (hp : pc + 2 = pc') (hl : storeLocals Ls i (.int u) = some Ls') (k : own_W l Z y bytes ml ret R n0 Q h cells slots pc' Ls' (st)) : own_W l Z y bytes ml ret R n0 Q h cells slots pc Ls (.int u :: st) :=
  own_pure (fun p e below T t m c hA hx hb hr => by subst hp; exact XS.istore hA hx rfl (hb ▸ hd) rfl hl hr) k
theorem own_lstoreN {i : Fin 4} {u : Int64} (hd : decode bytes pc = .ok (.lstore_n i, 1)) (hp : pc + 1 = pc') (hl : storeLocals Ls i.val (.long u) = some Ls') (k : own_W l Z y bytes ml ret R n0 Q h cells slots pc' Ls' (st)) : own_W l Z y bytes ml ret R n0 Q h cells slots pc Ls (.long u :: st) :=
  own_pure (fun p e below T t m c hA hx hb hr => by subst hp; exact XT.lstoreN hA hx rfl (hb ▸ hd) rfl hl hr) k
theorem own_lstore {i : Nat} {u : Int64} (hd : decode bytes pc = .ok (.lstore i, 2)) (hp : pc + 2 = pc') (hl : storeLocals Ls i (.long u) = some Ls') (k : own_W l Z y bytes ml ret R n0 Q h cells slots pc' Ls' (st)) : own_W l Z y bytes ml ret R n0 Q h cells slots pc Ls (.long u :: st) :=
  own_pure (fun p e below T t m c hA hx hb hr => by subst hp; exact XT.lstore hA hx rfl (hb ▸ hd) rfl hl hr) k
theorem own_astoreN {i : Fin 4} {u : Addr} (hd : decode bytes pc = .ok (.astore_n i, 1)) (hp : pc + 1 = pc') (hl : storeLocals Ls i.val (.ref u) = some Ls') (k : own_W l Z y bytes ml ret R n0 Q h cells slots pc' Ls' (st)) : own_W l Z y bytes ml ret R n0 Q h cells slots pc Ls (.ref u :: st) :=
  own_pure (fun p e below T t m c hA hx hb hr => by subst hp; exact XS.astoreN hA hx rfl (hb ▸ hd) rfl rfl hl hr) k
theorem own_astore {i : Nat} {u : Addr} (hd : decode bytes pc = .ok (.astore i, 2)) (hp : pc + 2 = pc') (hl : storeLocals Ls i (.ref u) = some Ls') (k : own_W l Z y bytes ml ret R n0 Q h cells slots pc' Ls' (st)) : own_W l Z y bytes ml ret R n0 Q h cells slots pc Ls (.ref u :: st) :=
  own_pure (fun p e below T t m c hA hx hb hr => by subst hp; exact XS.astore hA hx rfl (hb ▸ hd) rfl rfl hl hr) k
theorem own_iinc {i : Nat} {cst : Int} {u w : Int32} (hd : decode bytes pc = .ok (.iinc i cst, 3)) (hp : pc + 3 = pc') (hv : Int32.ofInt cst = w) (hl : Ls[i]? = some (.val (.int u))) (hl' : storeLocals Ls i (.int (u + w)) = some Ls') (k : own_W l Z y bytes ml ret R n0 Q h cells slots pc' Ls' st) : own_W l Z y bytes ml ret R n0 Q h cells slots pc Ls st :=
  own_pure (fun p e below T t m c hA hx hb hr => by subst hp; exact XT.iincV hA hx rfl w (hb ▸ hd) hv hl hl' hr) k
theorem own_iconst {i : Int} (u : Int32) (hd : decode bytes pc = .ok (.iconst i, 1)) (hp : pc + 1 = pc') (hv : Int32.ofInt i = u) (k : own_W l Z y bytes ml ret R n0 Q h cells slots pc' Ls (.int u :: st)) : own_W l Z y bytes ml ret R n0 Q h cells slots pc Ls st :=
  own_pure (fun p e below T t m c hA hx hb hr => by subst hp; exact XT.iconstV hA hx rfl u (hb ▸ hd) hv hr) k
theorem own_bipush {i : Int} (u : Int32) (hd : decode bytes pc = .ok (.bipush i, 2)) (hp : pc + 2 = pc') (hv : (Int8.ofInt i).toInt32 = u) (k : own_W l Z y bytes ml ret R n0 Q h cells slots pc' Ls (.int u :: st)) : own_W l Z y bytes ml ret R n0 Q h cells slots pc Ls st :=
  own_pure (fun p e below T t m c hA hx hb hr => by subst hp; exact XT.bipushV hA hx rfl u (hb ▸ hd) hv hr) k
theorem own_sipush {i : Int} (u : Int32) (hd : decode bytes pc = .ok (.sipush i, 3)) (hp : pc + 3 = pc') (hv : (Int16.ofInt i).toInt32 = u) (k : own_W l Z y bytes ml ret R n0 Q h cells slots pc' Ls (.int u :: st)) : own_W l Z y bytes ml ret R n0 Q h cells slots pc Ls st :=
  own_pure (fun p e below T t m c hA hx hb hr => by subst hp; exact XT.sipushV hA hx rfl u (hb ▸ hd) hv hr) k
theorem own_lconst {i : Fin 2} (u : Int64) (hd : decode bytes pc = .ok (.lconst i, 1)) (hp : pc + 1 = pc') (hv : Int64.ofNat i = u) (k : own_W l Z y bytes ml ret R n0 Q h cells slots pc' Ls (.long u :: st)) : own_W l Z y bytes ml ret R n0 Q h cells slots pc Ls st :=
  own_pure (fun p e below T t m c hA hx hb hr => by subst hp; exact XT.lconstV hA hx rfl u (hb ▸ hd) hv hr) k
theorem own_aconstNull (hd : decode bytes pc = .ok (.aconst_null, 1)) (hp : pc + 1 = pc') (k : own_W l Z y bytes ml ret R n0 Q h cells slots pc' Ls (.null :: st)) : own_W l Z y bytes ml ret R n0 Q h cells slots pc Ls (st) :=
  own_pure (fun p e below T t m c hA hx hb hr => by subst hp; exact XS.aconstNull hA hx rfl (hb ▸ hd)  hr) k
theorem own_iadd {u w : Int32} (hd : decode bytes pc = .ok (.iadd, 1)) (hp : pc + 1 = pc') (k : own_W l Z y bytes ml ret R n0 Q h cells slots pc' Ls (.int (u + w) :: st)) : own_W l Z y bytes ml ret R n0 Q h cells slots pc Ls (.int w :: .int u :: st) :=
  own_pure (fun p e below T t m c hA hx hb hr => by subst hp; exact XS.iadd hA hx rfl (hb ▸ hd) rfl hr) k
theorem own_isub {u w : Int32} (hd : decode bytes pc = .ok (.isub, 1)) (hp : pc + 1 = pc') (k : own_W l Z y bytes ml ret R n0 Q h cells slots pc' Ls (.int (u - w) :: st)) : own_W l Z y bytes ml ret R n0 Q h cells slots pc Ls (.int w :: .int u :: st) :=
  own_pure (fun p e below T t m c hA hx hb hr => by subst hp; exact XS.isub hA hx rfl (hb ▸ hd) rfl hr) k
theorem own_imul {u w : Int32} (hd : decode bytes pc = .ok (.imul, 1)) (hp : pc + 1 = pc') (k : own_W l Z y bytes ml ret R n0 Q h cells slots pc' Ls (.int (u * w) :: st)) : own_W l Z y bytes ml ret R n0 Q h cells slots pc Ls (.int w :: .int u :: st) :=
  own_pure (fun p e below T t m c hA hx hb hr => by subst hp; exact XS.imul hA hx rfl (hb ▸ hd) rfl hr) k
theorem own_iand {u w : Int32} (hd : decode bytes pc = .ok (.iand, 1)) (hp : pc + 1 = pc') (k : own_W l Z y bytes ml ret R n0 Q h cells slots pc' Ls (.int (u &&& w) :: st)) : own_W l Z y bytes ml ret R n0 Q h cells slots pc Ls (.int w :: .int u :: st) :=
  own_pure (fun p e below T t m c hA hx hb hr => by subst hp; exact XS.iand hA hx rfl (hb ▸ hd) rfl hr) k
theorem own_ior {u w : Int32} (hd : decode bytes pc = .ok (.ior, 1)) (hp : pc + 1 = pc') (k : own_W l Z y bytes ml ret R n0 Q h cells slots pc' Ls (.int (u ||| w) :: st)) : own_W l Z y bytes ml ret R n0 Q h cells slots pc Ls (.int w :: .int u :: st) :=
  own_pure (fun p e below T t m c hA hx hb hr => by subst hp; exact XT.ior hA hx rfl (hb ▸ hd) rfl hr) k
theorem own_ixor {u w : Int32} (hd : decode bytes pc = .ok (.ixor, 1)) (hp : pc + 1 = pc') (k : own_W l Z y bytes ml ret R n0 Q h cells slots pc' Ls (.int (u ^^^ w) :: st)) : own_W l Z y bytes ml ret R n0 Q h cells slots pc Ls (.int w :: .int u :: st) :=
  own_pure (fun p e below T t m c hA hx hb hr => by subst hp; exact XT.ixor hA hx rfl (hb ▸ hd) rfl hr) k
theorem own_ishl {u w : Int32} (hd : decode bytes pc = .ok (.ishl, 1)) (hp : pc + 1 = pc') (k : own_W l Z y bytes ml ret R n0 Q h cells slots pc' Ls (.int (u <<< (w &&& 31)) :: st)) : own_W l Z y bytes ml ret R n0 Q h cells slots pc Ls (.int w :: .int u :: st) :=
  own_pure (fun p e below T t m c hA hx hb hr => by subst hp; exact XT.ishl hA hx rfl (hb ▸ hd) rfl hr) k
theorem own_ishr {u w : Int32} (hd : decode bytes pc = .ok (.ishr, 1)) (hp : pc + 1 = pc') (k : own_W l Z y bytes ml ret R n0 Q h cells slots pc' Ls (.int (u >>> (w &&& 31)) :: st)) : own_W l Z y bytes ml ret R n0 Q h cells slots pc Ls (.int w :: .int u :: st) :=
  own_pure (fun p e below T t m c hA hx hb hr => by subst hp; exact XT.ishr hA hx rfl (hb ▸ hd) rfl hr) k
theorem own_iushr {u w : Int32} (hd : decode bytes pc = .ok (.iushr, 1)) (hp : pc + 1 = pc') (k : own_W l Z y bytes ml ret R n0 Q h cells slots pc' Ls (.int (XT.ushr u w) :: st)) : own_W l Z y bytes ml ret R n0 Q h cells slots pc Ls (.int w :: .int u :: st) :=
  own_pure (fun p e below T t m c hA hx hb hr => by subst hp; exact XT.iushr hA hx rfl (hb ▸ hd) rfl hr) k
theorem own_idiv {u w : Int32} (hd : decode bytes pc = .ok (.idiv, 1)) (hp : pc + 1 = pc') (hw : w ≠ 0) (k : own_W l Z y bytes ml ret R n0 Q h cells slots pc' Ls (.int (u / w) :: st)) : own_W l Z y bytes ml ret R n0 Q h cells slots pc Ls (.int w :: .int u :: st) :=
  own_pure (fun p e below T t m c hA hx hb hr => by subst hp; exact XS.idiv hA hx rfl (hb ▸ hd) rfl hw hr) k
theorem own_irem {u w : Int32} (hd : decode bytes pc = .ok (.irem, 1)) (hp : pc + 1 = pc') (hw : w ≠ 0) (k : own_W l Z y bytes ml ret R n0 Q h cells slots pc' Ls (.int (u % w) :: st)) : own_W l Z y bytes ml ret R n0 Q h cells slots pc Ls (.int w :: .int u :: st) :=
  own_pure (fun p e below T t m c hA hx hb hr => by subst hp; exact XS.irem hA hx rfl (hb ▸ hd) rfl hw (by rw [irem_eq_mod u w]; exact hr)) k
theorem own_ineg {u : Int32} (hd : decode bytes pc = .ok (.ineg, 1)) (hp : pc + 1 = pc') (k : own_W l Z y bytes ml ret R n0 Q h cells slots pc' Ls (.int (-u) :: st)) : own_W l Z y bytes ml ret R n0 Q h cells slots pc Ls (.int u :: st) :=
  own_pure (fun p e below T t m c hA hx hb hr => by subst hp; exact XS.ineg hA hx rfl (hb ▸ hd) rfl hr) k
theorem own_ladd {u w : Int64} (hd : decode bytes pc = .ok (.ladd, 1)) (hp : pc + 1 = pc') (k : own_W l Z y bytes ml ret R n0 Q h cells slots pc' Ls (.long (u + w) :: st)) : own_W l Z y bytes ml ret R n0 Q h cells slots pc Ls (.long w :: .long u :: st) :=
  own_pure (fun p e below T t m c hA hx hb hr => by subst hp; exact XT.ladd hA hx rfl (hb ▸ hd) rfl hr) k
theorem own_lsub {u w : Int64} (hd : decode bytes pc = .ok (.lsub, 1)) (hp : pc + 1 = pc') (k : own_W l Z y bytes ml ret R n0 Q h cells slots pc' Ls (.long (u - w) :: st)) : own_W l Z y bytes ml ret R n0 Q h cells slots pc Ls (.long w :: .long u :: st) :=
  own_pure (fun p e below T t m c hA hx hb hr => by subst hp; exact XT.lsub hA hx rfl (hb ▸ hd) rfl hr) k
theorem own_lmul {u w : Int64} (hd : decode bytes pc = .ok (.lmul, 1)) (hp : pc + 1 = pc') (k : own_W l Z y bytes ml ret R n0 Q h cells slots pc' Ls (.long (u * w) :: st)) : own_W l Z y bytes ml ret R n0 Q h cells slots pc Ls (.long w :: .long u :: st) :=
  own_pure (fun p e below T t m c hA hx hb hr => by subst hp; exact XT.lmul hA hx rfl (hb ▸ hd) rfl hr) k
theorem own_land {u w : Int64} (hd : decode bytes pc = .ok (.land, 1)) (hp : pc + 1 = pc') (k : own_W l Z y bytes ml ret R n0 Q h cells slots pc' Ls (.long (u &&& w) :: st)) : own_W l Z y bytes ml ret R n0 Q h cells slots pc Ls (.long w :: .long u :: st) :=
  own_pure (fun p e below T t m c hA hx hb hr => by subst hp; exact XT.land hA hx rfl (hb ▸ hd) rfl hr) k
theorem own_lor {u w : Int64} (hd : decode bytes pc = .ok (.lor, 1)) (hp : pc + 1 = pc') (k : own_W l Z y bytes ml ret R n0 Q h cells slots pc' Ls (.long (u ||| w) :: st)) : own_W l Z y bytes ml ret R n0 Q h cells slots pc Ls (.long w :: .long u :: st) :=
  own_pure (fun p e below T t m c hA hx hb hr => by subst hp; exact XT.lor hA hx rfl (hb ▸ hd) rfl hr) k
theorem own_lxor {u w : Int64} (hd : decode bytes pc = .ok (.lxor, 1)) (hp : pc + 1 = pc') (k : own_W l Z y bytes ml ret R n0 Q h cells slots pc' Ls (.long (u ^^^ w) :: st)) : own_W l Z y bytes ml ret R n0 Q h cells slots pc Ls (.long w :: .long u :: st) :=
  own_pure (fun p e below T t m c hA hx hb hr => by subst hp; exact XT.lxor hA hx rfl (hb ▸ hd) rfl hr) k
theorem own_lrem {u w : Int64} (hd : decode bytes pc = .ok (.lrem, 1)) (hp : pc + 1 = pc') (hw : w ≠ 0) (k : own_W l Z y bytes ml ret R n0 Q h cells slots pc' Ls (.long (u % w) :: st)) : own_W l Z y bytes ml ret R n0 Q h cells slots pc Ls (.long w :: .long u :: st) :=
  own_pure (fun p e below T t m c hA hx hb hr => by subst hp; exact XT.lrem hA hx rfl (hb ▸ hd) rfl hw (by rw [lrem_mod u w]; exact hr)) k
theorem own_lshl {u : Int64} {w : Int32} (hd : decode bytes pc = .ok (.lshl, 1)) (hp : pc + 1 = pc') (k : own_W l Z y bytes ml ret R n0 Q h cells slots pc' Ls (.long (u <<< (w.toInt64 &&& 63)) :: st)) : own_W l Z y bytes ml ret R n0 Q h cells slots pc Ls (.int w :: .long u :: st) :=
  own_pure (fun p e below T t m c hA hx hb hr => by subst hp; exact XT.lshl hA hx rfl (hb ▸ hd) rfl hr) k
theorem own_lshr {u : Int64} {w : Int32} (hd : decode bytes pc = .ok (.lshr, 1)) (hp : pc + 1 = pc') (k : own_W l Z y bytes ml ret R n0 Q h cells slots pc' Ls (.long (u >>> (w.toInt64 &&& 63)) :: st)) : own_W l Z y bytes ml ret R n0 Q h cells slots pc Ls (.int w :: .long u :: st) :=
  own_pure (fun p e below T t m c hA hx hb hr => by subst hp; exact XT.lshr hA hx rfl (hb ▸ hd) rfl hr) k
theorem own_lushr {u : Int64} {w : Int32} (hd : decode bytes pc = .ok (.lushr, 1)) (hp : pc + 1 = pc') (k : own_W l Z y bytes ml ret R n0 Q h cells slots pc' Ls (.long (XT.ushrL u w) :: st)) : own_W l Z y bytes ml ret R n0 Q h cells slots pc Ls (.int w :: .long u :: st) :=
  own_pure (fun p e below T t m c hA hx hb hr => by subst hp; exact XT.lushr hA hx rfl (hb ▸ hd) rfl hr) k
theorem own_i2l {u : Int32} (hd : decode bytes pc = .ok (.i2l, 1)) (hp : pc + 1 = pc') (k : own_W l Z y bytes ml ret R n0 Q h cells slots pc' Ls (.long u.toInt64 :: st)) : own_W l Z y bytes ml ret R n0 Q h cells slots pc Ls (.int u :: st) :=
  own_pure (fun p e below T t m c hA hx hb hr => by subst hp; exact XT.i2l hA hx rfl (hb ▸ hd) rfl hr) k
theorem own_l2i {u : Int64} (hd : decode bytes pc = .ok (.l2i, 1)) (hp : pc + 1 = pc') (k : own_W l Z y bytes ml ret R n0 Q h cells slots pc' Ls (.int u.toInt32 :: st)) : own_W l Z y bytes ml ret R n0 Q h cells slots pc Ls (.long u :: st) :=
  own_pure (fun p e below T t m c hA hx hb hr => by subst hp; exact XT.l2i hA hx rfl (hb ▸ hd) rfl hr) k
theorem own_i2b {u : Int32} (hd : decode bytes pc = .ok (.i2b, 1)) (hp : pc + 1 = pc') (k : own_W l Z y bytes ml ret R n0 Q h cells slots pc' Ls (.int u.toInt8.toInt32 :: st)) : own_W l Z y bytes ml ret R n0 Q h cells slots pc Ls (.int u :: st) :=
  own_pure (fun p e below T t m c hA hx hb hr => by subst hp; exact XT.i2b hA hx rfl (hb ▸ hd) rfl hr) k
theorem own_i2c {u : Int32} (hd : decode bytes pc = .ok (.i2c, 1)) (hp : pc + 1 = pc') (k : own_W l Z y bytes ml ret R n0 Q h cells slots pc' Ls (.int u.toUInt32.toUInt16.toUInt32.toInt32 :: st)) : own_W l Z y bytes ml ret R n0 Q h cells slots pc Ls (.int u :: st) :=
  own_pure (fun p e below T t m c hA hx hb hr => by subst hp; exact XT.i2c hA hx rfl (hb ▸ hd) rfl hr) k
theorem own_lcmp {u w : Int64} (hd : decode bytes pc = .ok (.lcmp, 1)) (hp : pc + 1 = pc') (k : own_W l Z y bytes ml ret R n0 Q h cells slots pc' Ls (.int (XT.cmpL u w) :: st)) : own_W l Z y bytes ml ret R n0 Q h cells slots pc Ls (.long w :: .long u :: st) :=
  own_pure (fun p e below T t m c hA hx hb hr => by subst hp; exact XT.lcmp hA hx rfl (hb ▸ hd) rfl hr) k
theorem own_dup {u : Value} (hd : decode bytes pc = .ok (.dup, 1)) (hp : pc + 1 = pc') (hc : u.category = 1) (k : own_W l Z y bytes ml ret R n0 Q h cells slots pc' Ls (u :: u :: st)) : own_W l Z y bytes ml ret R n0 Q h cells slots pc Ls (u :: st) :=
  own_pure (fun p e below T t m c hA hx hb hr => by subst hp; exact XS.dup hA hx rfl (hb ▸ hd) rfl hc hr) k
theorem own_pop {u : Value} (hd : decode bytes pc = .ok (.pop, 1)) (hp : pc + 1 = pc') (hc : u.category = 1) (k : own_W l Z y bytes ml ret R n0 Q h cells slots pc' Ls (st)) : own_W l Z y bytes ml ret R n0 Q h cells slots pc Ls (u :: st) :=
  own_pure (fun p e below T t m c hA hx hb hr => by subst hp; exact XT.pop hA hx rfl (hb ▸ hd) rfl hc hr) k
theorem own_dupX1 {u w : Value} (hd : decode bytes pc = .ok (.dup_x1, 1)) (hp : pc + 1 = pc') (hc : u.category = 1) (hc' : w.category = 1) (k : own_W l Z y bytes ml ret R n0 Q h cells slots pc' Ls (u :: w :: u :: st)) : own_W l Z y bytes ml ret R n0 Q h cells slots pc Ls (u :: w :: st) :=
  own_pure (fun p e below T t m c hA hx hb hr => by subst hp; exact XT.dupX1 hA hx rfl (hb ▸ hd) rfl hc hc' hr) k
theorem own_dup2 {u w : Value} (hd : decode bytes pc = .ok (.dup2, 1)) (hp : pc + 1 = pc') (hc : u.category = 1) (hc' : w.category = 1) (k : own_W l Z y bytes ml ret R n0 Q h cells slots pc' Ls (u :: w :: u :: w :: st)) : own_W l Z y bytes ml ret R n0 Q h cells slots pc Ls (u :: w :: st) :=
  own_pure (fun p e below T t m c hA hx hb hr => by subst hp; exact XT.dup2 hA hx rfl (hb ▸ hd) rfl hc hc' hr) k
theorem own_dup2L {u : Int64} (hd : decode bytes pc = .ok (.dup2, 1)) (hp : pc + 1 = pc') (k : own_W l Z y bytes ml ret R n0 Q h cells slots pc' Ls (.long u :: .long u :: st)) : own_W l Z y bytes ml ret R n0 Q h cells slots pc Ls (.long u :: st) :=
  own_pure (fun p e below T t m c hA hx hb hr => by subst hp; exact XT.dup2L hA hx rfl (hb ▸ hd) rfl hr) k
theorem own_pop2step {tb : Tables} [Ours tb] {e : Env} {below : List Frame} {T target : State} {m : MethodId} {c : Code} {g : JFrame} (h : At T m c below) (hx : tb.exec = Jvm.exec) (hg : g.method = m) {u : Int64} {rest : List Value} (hd : decode c.code g.pc = .ok (.pop2, 1)) (hs : g.stack = .long u :: rest)
    (hr : Steps tb e below (T.setTop { g with pc := g.pc + 1, stack := rest }) target) : Steps tb e below (T.setTop g) target := by
  subst hg
  jvm_step h [h.top, hx, hd, hs, pop2.wp_sem, Value.category]
  exact hr
theorem own_pop2L {u : Int64} (hd : decode bytes pc = .ok (.pop2, 1)) (hp : pc + 1 = pc') (k : own_W l Z y bytes ml ret R n0 Q h cells slots pc' Ls (st)) : own_W l Z y bytes ml ret R n0 Q h cells slots pc Ls (.long u :: st) :=
  own_pure (fun p e below T t m c hA hx hb hr => by subst hp; exact own_pop2step hA hx rfl (hb ▸ hd) rfl hr) k
theorem own_dupX2step {tb : Tables} [Ours tb] {e : Env} {below : List Frame} {T target : State} {m : MethodId} {c : Code} {g : JFrame} (h : At T m c below) (hx : tb.exec = Jvm.exec) (hg : g.method = m) {x y z : Value} {rest : List Value} (hd : decode c.code g.pc = .ok (.dup_x2, 1)) (hs : g.stack = x :: y :: z :: rest) (hc : x.category = 1) (hc' : y.category = 1) (hc'' : z.category = 1)
    (hr : Steps tb e below (T.setTop { g with pc := g.pc + 1, stack := x :: y :: z :: x :: rest }) target) : Steps tb e below (T.setTop g) target := by
  subst hg
  jvm_step h [h.top, hx, hd, hs, dup_x2.wp_sem, hc, hc', hc'']
  exact hr
theorem own_dupX2 {u w x : Value} (hd : decode bytes pc = .ok (.dup_x2, 1)) (hp : pc + 1 = pc') (hc : u.category = 1) (hc' : w.category = 1) (hc'' : x.category = 1) (k : own_W l Z y bytes ml ret R n0 Q h cells slots pc' Ls (u :: w :: x :: u :: st)) : own_W l Z y bytes ml ret R n0 Q h cells slots pc Ls (u :: w :: x :: st) :=
  own_pure (fun p e below T t m c hA hx hb hr => by subst hp; exact own_dupX2step hA hx rfl (hb ▸ hd) rfl hc hc' hc'' hr) k
theorem own_goto {o : Int} (hd : decode bytes pc = .ok (.goto o, 3)) (ho : 0 ≤ (pc : Int) + o) (hp : ((pc : Int) + o).toNat = pc') (k : own_W l Z y bytes ml ret R n0 Q h cells slots pc' Ls st) : own_W l Z y bytes ml ret R n0 Q h cells slots pc Ls st :=
  own_pure (fun p e below T t m c hA hx hb hr => XS.goto hA hx rfl rfl (hb ▸ hd) ho hp hr) k
theorem own_if_eq_t {u : Int32} {o : Int} (hd : decode bytes pc = .ok (.ifCond .eq o, 3)) (hc : u = 0) (ho : 0 ≤ (pc : Int) + o) (hp : ((pc : Int) + o).toNat = pc') (k : own_W l Z y bytes ml ret R n0 Q h cells slots pc' Ls st) : own_W l Z y bytes ml ret R n0 Q h cells slots pc Ls (.int u :: st) :=
  own_pure (fun p e below T t m c hA hx hb hr => XS.ifYes hA hx rfl rfl (hb ▸ hd) rfl (XT.i0_eq_t hc) ho hp hr) k
theorem own_if_eq_f {u : Int32} {o : Int} (hd : decode bytes pc = .ok (.ifCond .eq o, 3)) (hc : ¬ u = 0) (hp : pc + 3 = pc') (k : own_W l Z y bytes ml ret R n0 Q h cells slots pc' Ls st) : own_W l Z y bytes ml ret R n0 Q h cells slots pc Ls (.int u :: st) :=
  own_pure (fun p e below T t m c hA hx hb hr => by subst hp; exact XS.ifNo hA hx rfl (hb ▸ hd) rfl (XT.i0_eq_f hc) hr) k
theorem own_if_eq {u : Int32} {o : Int} {pf : Nat} (hd : decode bytes pc = .ok (.ifCond .eq o, 3)) (ho : 0 ≤ (pc : Int) + o) (hp : ((pc : Int) + o).toNat = pc') (hq : pc + 3 = pf) (kt : u = 0 → own_W l Z y bytes ml ret R n0 Q h cells slots pc' Ls st) (kf : ¬ u = 0 → own_W l Z y bytes ml ret R n0 Q h cells slots pf Ls st) : own_W l Z y bytes ml ret R n0 Q h cells slots pc Ls (.int u :: st) := by
  by_cases hc : u = 0
  · exact own_if_eq_t hd hc ho hp (kt hc)
  · exact own_if_eq_f hd (by first | exact hc | exact Decidable.not_not.mp hc) hq (kf (by first | exact hc | exact Decidable.not_not.mp hc))
theorem own_ic_eq_t {u w : Int32} {o : Int} (hd : decode bytes pc = .ok (.if_icmp .eq o, 3)) (hc : u = w) (ho : 0 ≤ (pc : Int) + o) (hp : ((pc : Int) + o).toNat = pc') (k : own_W l Z y bytes ml ret R n0 Q h cells slots pc' Ls st) : own_W l Z y bytes ml ret R n0 Q h cells slots pc Ls (.int w :: .int u :: st) :=
  own_pure (fun p e below T t m c hA hx hb hr => XS.icmpYes hA hx rfl rfl (hb ▸ hd) rfl (XT.ii_eq_t hc) ho hp hr) k
theorem own_ic_eq_f {u w : Int32} {o : Int} (hd : decode bytes pc = .ok (.if_icmp .eq o, 3)) (hc : ¬ u = w) (hp : pc + 3 = pc') (k : own_W l Z y bytes ml ret R n0 Q h cells slots pc' Ls st) : own_W l Z y bytes ml ret R n0 Q h cells slots pc Ls (.int w :: .int u :: st) :=
  own_pure (fun p e below T t m c hA hx hb hr => by subst hp; exact XS.icmpNo hA hx rfl (hb ▸ hd) rfl (XT.ii_eq_f hc) hr) k
theorem own_ic_eq {u w : Int32} {o : Int} {pf : Nat} (hd : decode bytes pc = .ok (.if_icmp .eq o, 3)) (ho : 0 ≤ (pc : Int) + o) (hp : ((pc : Int) + o).toNat = pc') (hq : pc + 3 = pf) (kt : u = w → own_W l Z y bytes ml ret R n0 Q h cells slots pc' Ls st) (kf : ¬ u = w → own_W l Z y bytes ml ret R n0 Q h cells slots pf Ls st) : own_W l Z y bytes ml ret R n0 Q h cells slots pc Ls (.int w :: .int u :: st) := by
  by_cases hc : u = w
  · exact own_ic_eq_t hd hc ho hp (kt hc)
  · exact own_ic_eq_f hd (by first | exact hc | exact Decidable.not_not.mp hc) hq (kf (by first | exact hc | exact Decidable.not_not.mp hc))
theorem own_il_eq_t {u w : Int64} {o : Int} (hd : decode bytes pc = .ok (.ifCond .eq o, 3)) (hc : u = w) (ho : 0 ≤ (pc : Int) + o) (hp : ((pc : Int) + o).toNat = pc') (k : own_W l Z y bytes ml ret R n0 Q h cells slots pc' Ls st) : own_W l Z y bytes ml ret R n0 Q h cells slots pc Ls (.int (XT.cmpL u w) :: st) :=
  own_pure (fun p e below T t m c hA hx hb hr => XS.ifYes hA hx rfl rfl (hb ▸ hd) rfl (XT.ll_eq_t hc) ho hp hr) k
theorem own_il_eq_f {u w : Int64} {o : Int} (hd : decode bytes pc = .ok (.ifCond .eq o, 3)) (hc : ¬ u = w) (hp : pc + 3 = pc') (k : own_W l Z y bytes ml ret R n0 Q h cells slots pc' Ls st) : own_W l Z y bytes ml ret R n0 Q h cells slots pc Ls (.int (XT.cmpL u w) :: st) :=
  own_pure (fun p e below T t m c hA hx hb hr => by subst hp; exact XS.ifNo hA hx rfl (hb ▸ hd) rfl (XT.ll_eq_f hc) hr) k
theorem own_il_eq {u w : Int64} {o : Int} {pf : Nat} (hd : decode bytes pc = .ok (.ifCond .eq o, 3)) (ho : 0 ≤ (pc : Int) + o) (hp : ((pc : Int) + o).toNat = pc') (hq : pc + 3 = pf) (kt : u = w → own_W l Z y bytes ml ret R n0 Q h cells slots pc' Ls st) (kf : ¬ u = w → own_W l Z y bytes ml ret R n0 Q h cells slots pf Ls st) : own_W l Z y bytes ml ret R n0 Q h cells slots pc Ls (.int (XT.cmpL u w) :: st) := by
  by_cases hc : u = w
  · exact own_il_eq_t hd hc ho hp (kt hc)
  · exact own_il_eq_f hd (by first | exact hc | exact Decidable.not_not.mp hc) hq (kf (by first | exact hc | exact Decidable.not_not.mp hc))
theorem own_if_ne_t {u : Int32} {o : Int} (hd : decode bytes pc = .ok (.ifCond .ne o, 3)) (hc : ¬ u = 0) (ho : 0 ≤ (pc : Int) + o) (hp : ((pc : Int) + o).toNat = pc') (k : own_W l Z y bytes ml ret R n0 Q h cells slots pc' Ls st) : own_W l Z y bytes ml ret R n0 Q h cells slots pc Ls (.int u :: st) :=
  own_pure (fun p e below T t m c hA hx hb hr => XS.ifYes hA hx rfl rfl (hb ▸ hd) rfl (XT.i0_ne_t hc) ho hp hr) k
theorem own_if_ne_f {u : Int32} {o : Int} (hd : decode bytes pc = .ok (.ifCond .ne o, 3)) (hc : u = 0) (hp : pc + 3 = pc') (k : own_W l Z y bytes ml ret R n0 Q h cells slots pc' Ls st) : own_W l Z y bytes ml ret R n0 Q h cells slots pc Ls (.int u :: st) :=
  own_pure (fun p e below T t m c hA hx hb hr => by subst hp; exact XS.ifNo hA hx rfl (hb ▸ hd) rfl (XT.i0_ne_f hc) hr) k
theorem own_if_ne {u : Int32} {o : Int} {pf : Nat} (hd : decode bytes pc = .ok (.ifCond .ne o, 3)) (ho : 0 ≤ (pc : Int) + o) (hp : ((pc : Int) + o).toNat = pc') (hq : pc + 3 = pf) (kt : ¬ u = 0 → own_W l Z y bytes ml ret R n0 Q h cells slots pc' Ls st) (kf : u = 0 → own_W l Z y bytes ml ret R n0 Q h cells slots pf Ls st) : own_W l Z y bytes ml ret R n0 Q h cells slots pc Ls (.int u :: st) := by
  by_cases hc : ¬ u = 0
  · exact own_if_ne_t hd hc ho hp (kt hc)
  · exact own_if_ne_f hd (by first | exact hc | exact Decidable.not_not.mp hc) hq (kf (by first | exact hc | exact Decidable.not_not.mp hc))
theorem own_ic_ne_t {u w : Int32} {o : Int} (hd : decode bytes pc = .ok (.if_icmp .ne o, 3)) (hc : ¬ u = w) (ho : 0 ≤ (pc : Int) + o) (hp : ((pc : Int) + o).toNat = pc') (k : own_W l Z y bytes ml ret R n0 Q h cells slots pc' Ls st) : own_W l Z y bytes ml ret R n0 Q h cells slots pc Ls (.int w :: .int u :: st) :=
  own_pure (fun p e below T t m c hA hx hb hr => XS.icmpYes hA hx rfl rfl (hb ▸ hd) rfl (XT.ii_ne_t hc) ho hp hr) k
theorem own_ic_ne_f {u w : Int32} {o : Int} (hd : decode bytes pc = .ok (.if_icmp .ne o, 3)) (hc : u = w) (hp : pc + 3 = pc') (k : own_W l Z y bytes ml ret R n0 Q h cells slots pc' Ls st) : own_W l Z y bytes ml ret R n0 Q h cells slots pc Ls (.int w :: .int u :: st) :=
  own_pure (fun p e below T t m c hA hx hb hr => by subst hp; exact XS.icmpNo hA hx rfl (hb ▸ hd) rfl (XT.ii_ne_f hc) hr) k
theorem own_ic_ne {u w : Int32} {o : Int} {pf : Nat} (hd : decode bytes pc = .ok (.if_icmp .ne o, 3)) (ho : 0 ≤ (pc : Int) + o) (hp : ((pc : Int) + o).toNat = pc') (hq : pc + 3 = pf) (kt : ¬ u = w → own_W l Z y bytes ml ret R n0 Q h cells slots pc' Ls st) (kf : u = w → own_W l Z y bytes ml ret R n0 Q h cells slots pf Ls st) : own_W l Z y bytes ml ret R n0 Q h cells slots pc Ls (.int w :: .int u :: st) := by
  by_cases hc : ¬ u = w
  · exact own_ic_ne_t hd hc ho hp (kt hc)
  · exact own_ic_ne_f hd (by first | exact hc | exact Decidable.not_not.mp hc) hq (kf (by first | exact hc | exact Decidable.not_not.mp hc))
theorem own_il_ne_t {u w : Int64} {o : Int} (hd : decode bytes pc = .ok (.ifCond .ne o, 3)) (hc : ¬ u = w) (ho : 0 ≤ (pc : Int) + o) (hp : ((pc : Int) + o).toNat = pc') (k : own_W l Z y bytes ml ret R n0 Q h cells slots pc' Ls st) : own_W l Z y bytes ml ret R n0 Q h cells slots pc Ls (.int (XT.cmpL u w) :: st) :=
  own_pure (fun p e below T t m c hA hx hb hr => XS.ifYes hA hx rfl rfl (hb ▸ hd) rfl (XT.ll_ne_t hc) ho hp hr) k
theorem own_il_ne_f {u w : Int64} {o : Int} (hd : decode bytes pc = .ok (.ifCond .ne o, 3)) (hc : u = w) (hp : pc + 3 = pc') (k : own_W l Z y bytes ml ret R n0 Q h cells slots pc' Ls st) : own_W l Z y bytes ml ret R n0 Q h cells slots pc Ls (.int (XT.cmpL u w) :: st) :=
  own_pure (fun p e below T t m c hA hx hb hr => by subst hp; exact XS.ifNo hA hx rfl (hb ▸ hd) rfl (XT.ll_ne_f hc) hr) k
theorem own_il_ne {u w : Int64} {o : Int} {pf : Nat} (hd : decode bytes pc = .ok (.ifCond .ne o, 3)) (ho : 0 ≤ (pc : Int) + o) (hp : ((pc : Int) + o).toNat = pc') (hq : pc + 3 = pf) (kt : ¬ u = w → own_W l Z y bytes ml ret R n0 Q h cells slots pc' Ls st) (kf : u = w → own_W l Z y bytes ml ret R n0 Q h cells slots pf Ls st) : own_W l Z y bytes ml ret R n0 Q h cells slots pc Ls (.int (XT.cmpL u w) :: st) := by
  by_cases hc : ¬ u = w
  · exact own_il_ne_t hd hc ho hp (kt hc)
  · exact own_il_ne_f hd (by first | exact hc | exact Decidable.not_not.mp hc) hq (kf (by first | exact hc | exact Decidable.not_not.mp hc))
theorem own_if_lt_t {u : Int32} {o : Int} (hd : decode bytes pc = .ok (.ifCond .lt o, 3)) (hc : u < 0) (ho : 0 ≤ (pc : Int) + o) (hp : ((pc : Int) + o).toNat = pc') (k : own_W l Z y bytes ml ret R n0 Q h cells slots pc' Ls st) : own_W l Z y bytes ml ret R n0 Q h cells slots pc Ls (.int u :: st) :=
  own_pure (fun p e below T t m c hA hx hb hr => XS.ifYes hA hx rfl rfl (hb ▸ hd) rfl (XT.i0_lt_t hc) ho hp hr) k
theorem own_if_lt_f {u : Int32} {o : Int} (hd : decode bytes pc = .ok (.ifCond .lt o, 3)) (hc : ¬ u < 0) (hp : pc + 3 = pc') (k : own_W l Z y bytes ml ret R n0 Q h cells slots pc' Ls st) : own_W l Z y bytes ml ret R n0 Q h cells slots pc Ls (.int u :: st) :=
  own_pure (fun p e below T t m c hA hx hb hr => by subst hp; exact XS.ifNo hA hx rfl (hb ▸ hd) rfl (XT.i0_lt_f hc) hr) k
theorem own_if_lt {u : Int32} {o : Int} {pf : Nat} (hd : decode bytes pc = .ok (.ifCond .lt o, 3)) (ho : 0 ≤ (pc : Int) + o) (hp : ((pc : Int) + o).toNat = pc') (hq : pc + 3 = pf) (kt : u < 0 → own_W l Z y bytes ml ret R n0 Q h cells slots pc' Ls st) (kf : ¬ u < 0 → own_W l Z y bytes ml ret R n0 Q h cells slots pf Ls st) : own_W l Z y bytes ml ret R n0 Q h cells slots pc Ls (.int u :: st) := by
  by_cases hc : u < 0
  · exact own_if_lt_t hd hc ho hp (kt hc)
  · exact own_if_lt_f hd (by first | exact hc | exact Decidable.not_not.mp hc) hq (kf (by first | exact hc | exact Decidable.not_not.mp hc))
theorem own_ic_lt_t {u w : Int32} {o : Int} (hd : decode bytes pc = .ok (.if_icmp .lt o, 3)) (hc : u < w) (ho : 0 ≤ (pc : Int) + o) (hp : ((pc : Int) + o).toNat = pc') (k : own_W l Z y bytes ml ret R n0 Q h cells slots pc' Ls st) : own_W l Z y bytes ml ret R n0 Q h cells slots pc Ls (.int w :: .int u :: st) :=
  own_pure (fun p e below T t m c hA hx hb hr => XS.icmpYes hA hx rfl rfl (hb ▸ hd) rfl (XT.ii_lt_t hc) ho hp hr) k
theorem own_ic_lt_f {u w : Int32} {o : Int} (hd : decode bytes pc = .ok (.if_icmp .lt o, 3)) (hc : ¬ u < w) (hp : pc + 3 = pc') (k : own_W l Z y bytes ml ret R n0 Q h cells slots pc' Ls st) : own_W l Z y bytes ml ret R n0 Q h cells slots pc Ls (.int w :: .int u :: st) :=
  own_pure (fun p e below T t m c hA hx hb hr => by subst hp; exact XS.icmpNo hA hx rfl (hb ▸ hd) rfl (XT.ii_lt_f hc) hr) k
theorem own_ic_lt {u w : Int32} {o : Int} {pf : Nat} (hd : decode bytes pc = .ok (.if_icmp .lt o, 3)) (ho : 0 ≤ (pc : Int) + o) (hp : ((pc : Int) + o).toNat = pc') (hq : pc + 3 = pf) (kt : u < w → own_W l Z y bytes ml ret R n0 Q h cells slots pc' Ls st) (kf : ¬ u < w → own_W l Z y bytes ml ret R n0 Q h cells slots pf Ls st) : own_W l Z y bytes ml ret R n0 Q h cells slots pc Ls (.int w :: .int u :: st) := by
  by_cases hc : u < w
  · exact own_ic_lt_t hd hc ho hp (kt hc)
  · exact own_ic_lt_f hd (by first | exact hc | exact Decidable.not_not.mp hc) hq (kf (by first | exact hc | exact Decidable.not_not.mp hc))
theorem own_il_lt_t {u w : Int64} {o : Int} (hd : decode bytes pc = .ok (.ifCond .lt o, 3)) (hc : u < w) (ho : 0 ≤ (pc : Int) + o) (hp : ((pc : Int) + o).toNat = pc') (k : own_W l Z y bytes ml ret R n0 Q h cells slots pc' Ls st) : own_W l Z y bytes ml ret R n0 Q h cells slots pc Ls (.int (XT.cmpL u w) :: st) :=
  own_pure (fun p e below T t m c hA hx hb hr => XS.ifYes hA hx rfl rfl (hb ▸ hd) rfl (XT.ll_lt_t hc) ho hp hr) k
theorem own_il_lt_f {u w : Int64} {o : Int} (hd : decode bytes pc = .ok (.ifCond .lt o, 3)) (hc : ¬ u < w) (hp : pc + 3 = pc') (k : own_W l Z y bytes ml ret R n0 Q h cells slots pc' Ls st) : own_W l Z y bytes ml ret R n0 Q h cells slots pc Ls (.int (XT.cmpL u w) :: st) :=
  own_pure (fun p e below T t m c hA hx hb hr => by subst hp; exact XS.ifNo hA hx rfl (hb ▸ hd) rfl (XT.ll_lt_f hc) hr) k
theorem own_il_lt {u w : Int64} {o : Int} {pf : Nat} (hd : decode bytes pc = .ok (.ifCond .lt o, 3)) (ho : 0 ≤ (pc : Int) + o) (hp : ((pc : Int) + o).toNat = pc') (hq : pc + 3 = pf) (kt : u < w → own_W l Z y bytes ml ret R n0 Q h cells slots pc' Ls st) (kf : ¬ u < w → own_W l Z y bytes ml ret R n0 Q h cells slots pf Ls st) : own_W l Z y bytes ml ret R n0 Q h cells slots pc Ls (.int (XT.cmpL u w) :: st) := by
  by_cases hc : u < w
  · exact own_il_lt_t hd hc ho hp (kt hc)
  · exact own_il_lt_f hd (by first | exact hc | exact Decidable.not_not.mp hc) hq (kf (by first | exact hc | exact Decidable.not_not.mp hc))
theorem own_if_ge_t {u : Int32} {o : Int} (hd : decode bytes pc = .ok (.ifCond .ge o, 3)) (hc : ¬ u < 0) (ho : 0 ≤ (pc : Int) + o) (hp : ((pc : Int) + o).toNat = pc') (k : own_W l Z y bytes ml ret R n0 Q h cells slots pc' Ls st) : own_W l Z y bytes ml ret R n0 Q h cells slots pc Ls (.int u :: st) :=
  own_pure (fun p e below T t m c hA hx hb hr => XS.ifYes hA hx rfl rfl (hb ▸ hd) rfl (XT.i0_ge_t hc) ho hp hr) k
theorem own_if_ge_f {u : Int32} {o : Int} (hd : decode bytes pc = .ok (.ifCond .ge o, 3)) (hc : u < 0) (hp : pc + 3 = pc') (k : own_W l Z y bytes ml ret R n0 Q h cells slots pc' Ls st) : own_W l Z y bytes ml ret R n0 Q h cells slots pc Ls (.int u :: st) :=
  own_pure (fun p e below T t m c hA hx hb hr => by subst hp; exact XS.ifNo hA hx rfl (hb ▸ hd) rfl (XT.i0_ge_f hc) hr) k
theorem own_if_ge {u : Int32} {o : Int} {pf : Nat} (hd : decode bytes pc = .ok (.ifCond .ge o, 3)) (ho : 0 ≤ (pc : Int) + o) (hp : ((pc : Int) + o).toNat = pc') (hq : pc + 3 = pf) (kt : ¬ u < 0 → own_W l Z y bytes ml ret R n0 Q h cells slots pc' Ls st) (kf : u < 0 → own_W l Z y bytes ml ret R n0 Q h cells slots pf Ls st) : own_W l Z y bytes ml ret R n0 Q h cells slots pc Ls (.int u :: st) := by
  by_cases hc : ¬ u < 0
  · exact own_if_ge_t hd hc ho hp (kt hc)
  · exact own_if_ge_f hd (by first | exact hc | exact Decidable.not_not.mp hc) hq (kf (by first | exact hc | exact Decidable.not_not.mp hc))
theorem own_ic_ge_t {u w : Int32} {o : Int} (hd : decode bytes pc = .ok (.if_icmp .ge o, 3)) (hc : ¬ u < w) (ho : 0 ≤ (pc : Int) + o) (hp : ((pc : Int) + o).toNat = pc') (k : own_W l Z y bytes ml ret R n0 Q h cells slots pc' Ls st) : own_W l Z y bytes ml ret R n0 Q h cells slots pc Ls (.int w :: .int u :: st) :=
  own_pure (fun p e below T t m c hA hx hb hr => XS.icmpYes hA hx rfl rfl (hb ▸ hd) rfl (XT.ii_ge_t hc) ho hp hr) k
theorem own_ic_ge_f {u w : Int32} {o : Int} (hd : decode bytes pc = .ok (.if_icmp .ge o, 3)) (hc : u < w) (hp : pc + 3 = pc') (k : own_W l Z y bytes ml ret R n0 Q h cells slots pc' Ls st) : own_W l Z y bytes ml ret R n0 Q h cells slots pc Ls (.int w :: .int u :: st) :=
  own_pure (fun p e below T t m c hA hx hb hr => by subst hp; exact XS.icmpNo hA hx rfl (hb ▸ hd) rfl (XT.ii_ge_f hc) hr) k
theorem own_ic_ge {u w : Int32} {o : Int} {pf : Nat} (hd : decode bytes pc = .ok (.if_icmp .ge o, 3)) (ho : 0 ≤ (pc : Int) + o) (hp : ((pc : Int) + o).toNat = pc') (hq : pc + 3 = pf) (kt : ¬ u < w → own_W l Z y bytes ml ret R n0 Q h cells slots pc' Ls st) (kf : u < w → own_W l Z y bytes ml ret R n0 Q h cells slots pf Ls st) : own_W l Z y bytes ml ret R n0 Q h cells slots pc Ls (.int w :: .int u :: st) := by
  by_cases hc : ¬ u < w
  · exact own_ic_ge_t hd hc ho hp (kt hc)
  · exact own_ic_ge_f hd (by first | exact hc | exact Decidable.not_not.mp hc) hq (kf (by first | exact hc | exact Decidable.not_not.mp hc))
theorem own_il_ge_t {u w : Int64} {o : Int} (hd : decode bytes pc = .ok (.ifCond .ge o, 3)) (hc : ¬ u < w) (ho : 0 ≤ (pc : Int) + o) (hp : ((pc : Int) + o).toNat = pc') (k : own_W l Z y bytes ml ret R n0 Q h cells slots pc' Ls st) : own_W l Z y bytes ml ret R n0 Q h cells slots pc Ls (.int (XT.cmpL u w) :: st) :=
  own_pure (fun p e below T t m c hA hx hb hr => XS.ifYes hA hx rfl rfl (hb ▸ hd) rfl (XT.ll_ge_t hc) ho hp hr) k
theorem own_il_ge_f {u w : Int64} {o : Int} (hd : decode bytes pc = .ok (.ifCond .ge o, 3)) (hc : u < w) (hp : pc + 3 = pc') (k : own_W l Z y bytes ml ret R n0 Q h cells slots pc' Ls st) : own_W l Z y bytes ml ret R n0 Q h cells slots pc Ls (.int (XT.cmpL u w) :: st) :=
  own_pure (fun p e below T t m c hA hx hb hr => by subst hp; exact XS.ifNo hA hx rfl (hb ▸ hd) rfl (XT.ll_ge_f hc) hr) k
theorem own_il_ge {u w : Int64} {o : Int} {pf : Nat} (hd : decode bytes pc = .ok (.ifCond .ge o, 3)) (ho : 0 ≤ (pc : Int) + o) (hp : ((pc : Int) + o).toNat = pc') (hq : pc + 3 = pf) (kt : ¬ u < w → own_W l Z y bytes ml ret R n0 Q h cells slots pc' Ls st) (kf : u < w → own_W l Z y bytes ml ret R n0 Q h cells slots pf Ls st) : own_W l Z y bytes ml ret R n0 Q h cells slots pc Ls (.int (XT.cmpL u w) :: st) := by
  by_cases hc : ¬ u < w
  · exact own_il_ge_t hd hc ho hp (kt hc)
  · exact own_il_ge_f hd (by first | exact hc | exact Decidable.not_not.mp hc) hq (kf (by first | exact hc | exact Decidable.not_not.mp hc))
theorem own_if_gt_t {u : Int32} {o : Int} (hd : decode bytes pc = .ok (.ifCond .gt o, 3)) (hc : 0 < u) (ho : 0 ≤ (pc : Int) + o) (hp : ((pc : Int) + o).toNat = pc') (k : own_W l Z y bytes ml ret R n0 Q h cells slots pc' Ls st) : own_W l Z y bytes ml ret R n0 Q h cells slots pc Ls (.int u :: st) :=
  own_pure (fun p e below T t m c hA hx hb hr => XS.ifYes hA hx rfl rfl (hb ▸ hd) rfl (XT.i0_gt_t hc) ho hp hr) k
theorem own_if_gt_f {u : Int32} {o : Int} (hd : decode bytes pc = .ok (.ifCond .gt o, 3)) (hc : ¬ 0 < u) (hp : pc + 3 = pc') (k : own_W l Z y bytes ml ret R n0 Q h cells slots pc' Ls st) : own_W l Z y bytes ml ret R n0 Q h cells slots pc Ls (.int u :: st) :=
  own_pure (fun p e below T t m c hA hx hb hr => by subst hp; exact XS.ifNo hA hx rfl (hb ▸ hd) rfl (XT.i0_gt_f hc) hr) k
theorem own_if_gt {u : Int32} {o : Int} {pf : Nat} (hd : decode bytes pc = .ok (.ifCond .gt o, 3)) (ho : 0 ≤ (pc : Int) + o) (hp : ((pc : Int) + o).toNat = pc') (hq : pc + 3 = pf) (kt : 0 < u → own_W l Z y bytes ml ret R n0 Q h cells slots pc' Ls st) (kf : ¬ 0 < u → own_W l Z y bytes ml ret R n0 Q h cells slots pf Ls st) : own_W l Z y bytes ml ret R n0 Q h cells slots pc Ls (.int u :: st) := by
  by_cases hc : 0 < u
  · exact own_if_gt_t hd hc ho hp (kt hc)
  · exact own_if_gt_f hd (by first | exact hc | exact Decidable.not_not.mp hc) hq (kf (by first | exact hc | exact Decidable.not_not.mp hc))
theorem own_ic_gt_t {u w : Int32} {o : Int} (hd : decode bytes pc = .ok (.if_icmp .gt o, 3)) (hc : w < u) (ho : 0 ≤ (pc : Int) + o) (hp : ((pc : Int) + o).toNat = pc') (k : own_W l Z y bytes ml ret R n0 Q h cells slots pc' Ls st) : own_W l Z y bytes ml ret R n0 Q h cells slots pc Ls (.int w :: .int u :: st) :=
  own_pure (fun p e below T t m c hA hx hb hr => XS.icmpYes hA hx rfl rfl (hb ▸ hd) rfl (XT.ii_gt_t hc) ho hp hr) k
theorem own_ic_gt_f {u w : Int32} {o : Int} (hd : decode bytes pc = .ok (.if_icmp .gt o, 3)) (hc : ¬ w < u) (hp : pc + 3 = pc') (k : own_W l Z y bytes ml ret R n0 Q h cells slots pc' Ls st) : own_W l Z y bytes ml ret R n0 Q h cells slots pc Ls (.int w :: .int u :: st) :=
  own_pure (fun p e below T t m c hA hx hb hr => by subst hp; exact XS.icmpNo hA hx rfl (hb ▸ hd) rfl (XT.ii_gt_f hc) hr) k
theorem own_ic_gt {u w : Int32} {o : Int} {pf : Nat} (hd : decode bytes pc = .ok (.if_icmp .gt o, 3)) (ho : 0 ≤ (pc : Int) + o) (hp : ((pc : Int) + o).toNat = pc') (hq : pc + 3 = pf) (kt : w < u → own_W l Z y bytes ml ret R n0 Q h cells slots pc' Ls st) (kf : ¬ w < u → own_W l Z y bytes ml ret R n0 Q h cells slots pf Ls st) : own_W l Z y bytes ml ret R n0 Q h cells slots pc Ls (.int w :: .int u :: st) := by
  by_cases hc : w < u
  · exact own_ic_gt_t hd hc ho hp (kt hc)
  · exact own_ic_gt_f hd (by first | exact hc | exact Decidable.not_not.mp hc) hq (kf (by first | exact hc | exact Decidable.not_not.mp hc))
theorem own_il_gt_t {u w : Int64} {o : Int} (hd : decode bytes pc = .ok (.ifCond .gt o, 3)) (hc : w < u) (ho : 0 ≤ (pc : Int) + o) (hp : ((pc : Int) + o).toNat = pc') (k : own_W l Z y bytes ml ret R n0 Q h cells slots pc' Ls st) : own_W l Z y bytes ml ret R n0 Q h cells slots pc Ls (.int (XT.cmpL u w) :: st) :=
  own_pure (fun p e below T t m c hA hx hb hr => XS.ifYes hA hx rfl rfl (hb ▸ hd) rfl (XT.ll_gt_t hc) ho hp hr) k
theorem own_il_gt_f {u w : Int64} {o : Int} (hd : decode bytes pc = .ok (.ifCond .gt o, 3)) (hc : ¬ w < u) (hp : pc + 3 = pc') (k : own_W l Z y bytes ml ret R n0 Q h cells slots pc' Ls st) : own_W l Z y bytes ml ret R n0 Q h cells slots pc Ls (.int (XT.cmpL u w) :: st) :=
  own_pure (fun p e below T t m c hA hx hb hr => by subst hp; exact XS.ifNo hA hx rfl (hb ▸ hd) rfl (XT.ll_gt_f hc) hr) k
theorem own_il_gt {u w : Int64} {o : Int} {pf : Nat} (hd : decode bytes pc = .ok (.ifCond .gt o, 3)) (ho : 0 ≤ (pc : Int) + o) (hp : ((pc : Int) + o).toNat = pc') (hq : pc + 3 = pf) (kt : w < u → own_W l Z y bytes ml ret R n0 Q h cells slots pc' Ls st) (kf : ¬ w < u → own_W l Z y bytes ml ret R n0 Q h cells slots pf Ls st) : own_W l Z y bytes ml ret R n0 Q h cells slots pc Ls (.int (XT.cmpL u w) :: st) := by
  by_cases hc : w < u
  · exact own_il_gt_t hd hc ho hp (kt hc)
  · exact own_il_gt_f hd (by first | exact hc | exact Decidable.not_not.mp hc) hq (kf (by first | exact hc | exact Decidable.not_not.mp hc))
theorem own_if_le_t {u : Int32} {o : Int} (hd : decode bytes pc = .ok (.ifCond .le o, 3)) (hc : ¬ 0 < u) (ho : 0 ≤ (pc : Int) + o) (hp : ((pc : Int) + o).toNat = pc') (k : own_W l Z y bytes ml ret R n0 Q h cells slots pc' Ls st) : own_W l Z y bytes ml ret R n0 Q h cells slots pc Ls (.int u :: st) :=
  own_pure (fun p e below T t m c hA hx hb hr => XS.ifYes hA hx rfl rfl (hb ▸ hd) rfl (XT.i0_le_t hc) ho hp hr) k
theorem own_if_le_f {u : Int32} {o : Int} (hd : decode bytes pc = .ok (.ifCond .le o, 3)) (hc : 0 < u) (hp : pc + 3 = pc') (k : own_W l Z y bytes ml ret R n0 Q h cells slots pc' Ls st) : own_W l Z y bytes ml ret R n0 Q h cells slots pc Ls (.int u :: st) :=
  own_pure (fun p e below T t m c hA hx hb hr => by subst hp; exact XS.ifNo hA hx rfl (hb ▸ hd) rfl (XT.i0_le_f hc) hr) k
theorem own_if_le {u : Int32} {o : Int} {pf : Nat} (hd : decode bytes pc = .ok (.ifCond .le o, 3)) (ho : 0 ≤ (pc : Int) + o) (hp : ((pc : Int) + o).toNat = pc') (hq : pc + 3 = pf) (kt : ¬ 0 < u → own_W l Z y bytes ml ret R n0 Q h cells slots pc' Ls st) (kf : 0 < u → own_W l Z y bytes ml ret R n0 Q h cells slots pf Ls st) : own_W l Z y bytes ml ret R n0 Q h cells slots pc Ls (.int u :: st) := by
  by_cases hc : ¬ 0 < u
  · exact own_if_le_t hd hc ho hp (kt hc)
  · exact own_if_le_f hd (by first | exact hc | exact Decidable.not_not.mp hc) hq (kf (by first | exact hc | exact Decidable.not_not.mp hc))
theorem own_ic_le_t {u w : Int32} {o : Int} (hd : decode bytes pc = .ok (.if_icmp .le o, 3)) (hc : ¬ w < u) (ho : 0 ≤ (pc : Int) + o) (hp : ((pc : Int) + o).toNat = pc') (k : own_W l Z y bytes ml ret R n0 Q h cells slots pc' Ls st) : own_W l Z y bytes ml ret R n0 Q h cells slots pc Ls (.int w :: .int u :: st) :=
  own_pure (fun p e below T t m c hA hx hb hr => XS.icmpYes hA hx rfl rfl (hb ▸ hd) rfl (XT.ii_le_t hc) ho hp hr) k
theorem own_ic_le_f {u w : Int32} {o : Int} (hd : decode bytes pc = .ok (.if_icmp .le o, 3)) (hc : w < u) (hp : pc + 3 = pc') (k : own_W l Z y bytes ml ret R n0 Q h cells slots pc' Ls st) : own_W l Z y bytes ml ret R n0 Q h cells slots pc Ls (.int w :: .int u :: st) :=
  own_pure (fun p e below T t m c hA hx hb hr => by subst hp; exact XS.icmpNo hA hx rfl (hb ▸ hd) rfl (XT.ii_le_f hc) hr) k
theorem own_ic_le {u w : Int32} {o : Int} {pf : Nat} (hd : decode bytes pc = .ok (.if_icmp .le o, 3)) (ho : 0 ≤ (pc : Int) + o) (hp : ((pc : Int) + o).toNat = pc') (hq : pc + 3 = pf) (kt : ¬ w < u → own_W l Z y bytes ml ret R n0 Q h cells slots pc' Ls st) (kf : w < u → own_W l Z y bytes ml ret R n0 Q h cells slots pf Ls st) : own_W l Z y bytes ml ret R n0 Q h cells slots pc Ls (.int w :: .int u :: st) := by
  by_cases hc : ¬ w < u
  · exact own_ic_le_t hd hc ho hp (kt hc)
  · exact own_ic_le_f hd (by first | exact hc | exact Decidable.not_not.mp hc) hq (kf (by first | exact hc | exact Decidable.not_not.mp hc))
theorem own_il_le_t {u w : Int64} {o : Int} (hd : decode bytes pc = .ok (.ifCond .le o, 3)) (hc : ¬ w < u) (ho : 0 ≤ (pc : Int) + o) (hp : ((pc : Int) + o).toNat = pc') (k : own_W l Z y bytes ml ret R n0 Q h cells slots pc' Ls st) : own_W l Z y bytes ml ret R n0 Q h cells slots pc Ls (.int (XT.cmpL u w) :: st) :=
  own_pure (fun p e below T t m c hA hx hb hr => XS.ifYes hA hx rfl rfl (hb ▸ hd) rfl (XT.ll_le_t hc) ho hp hr) k
theorem own_il_le_f {u w : Int64} {o : Int} (hd : decode bytes pc = .ok (.ifCond .le o, 3)) (hc : w < u) (hp : pc + 3 = pc') (k : own_W l Z y bytes ml ret R n0 Q h cells slots pc' Ls st) : own_W l Z y bytes ml ret R n0 Q h cells slots pc Ls (.int (XT.cmpL u w) :: st) :=
  own_pure (fun p e below T t m c hA hx hb hr => by subst hp; exact XS.ifNo hA hx rfl (hb ▸ hd) rfl (XT.ll_le_f hc) hr) k
theorem own_il_le {u w : Int64} {o : Int} {pf : Nat} (hd : decode bytes pc = .ok (.ifCond .le o, 3)) (ho : 0 ≤ (pc : Int) + o) (hp : ((pc : Int) + o).toNat = pc') (hq : pc + 3 = pf) (kt : ¬ w < u → own_W l Z y bytes ml ret R n0 Q h cells slots pc' Ls st) (kf : w < u → own_W l Z y bytes ml ret R n0 Q h cells slots pf Ls st) : own_W l Z y bytes ml ret R n0 Q h cells slots pc Ls (.int (XT.cmpL u w) :: st) := by
  by_cases hc : ¬ w < u
  · exact own_il_le_t hd hc ho hp (kt hc)
  · exact own_il_le_f hd (by first | exact hc | exact Decidable.not_not.mp hc) hq (kf (by first | exact hc | exact Decidable.not_not.mp hc))
theorem own_ifnull_f {u : Addr} {o : Int} (hd : decode bytes pc = .ok (.ifnull o, 3)) (hp : pc + 3 = pc') (k : own_W l Z y bytes ml ret R n0 Q h cells slots pc' Ls st) : own_W l Z y bytes ml ret R n0 Q h cells slots pc Ls (.ref u :: st) :=
  own_pure (fun p e below T t m c hA hx hb hr => by subst hp; exact XS.ifnullNo hA hx rfl (hb ▸ hd) rfl hr) k
theorem own_ifnonnull_t {u : Addr} {o : Int} (hd : decode bytes pc = .ok (.ifnonnull o, 3)) (ho : 0 ≤ (pc : Int) + o) (hp : ((pc : Int) + o).toNat = pc') (k : own_W l Z y bytes ml ret R n0 Q h cells slots pc' Ls st) : own_W l Z y bytes ml ret R n0 Q h cells slots pc Ls (.ref u :: st) :=
  own_pure (fun p e below T t m c hA hx hb hr => XT.ifnonnullYes hA hx rfl rfl (hb ▸ hd) rfl ho hp hr) k
theorem own_ldcI {idx : Nat} {u : Int32} (w : (Jvm.Cond.constant y.cls idx u).before a0 Z = true) (hd : decode bytes pc = .ok (.ldc idx, 2)) (hp : pc + 2 = pc') (k : own_W l Z y bytes ml ret R n0 Q h cells slots pc' Ls (.int u :: st)) : own_W l Z y bytes ml ret R n0 Q h cells slots pc Ls st := by
  intro p e s m args below meth c T locs hx hZ hown hby hml hret hlk hnm hce hsl X eT N
  subst hp
  obtain ⟨s₂, o, h1, h2⟩ := k p e s m args below meth c T locs hx hZ hown hby hml hret hlk hnm hce hsl X eT N
  exact ⟨s₂, o, X.ldcInt hx hown (mvT hZ w) (g := mkF m pc Ls st) rfl (hb hby hd) _ h1, h2⟩
theorem own_ldcWI {idx : Nat} {u : Int32} (w : (Jvm.Cond.constant y.cls idx u).before a0 Z = true) (hd : decode bytes pc = .ok (.ldc_w idx, 3)) (hp : pc + 3 = pc') (k : own_W l Z y bytes ml ret R n0 Q h cells slots pc' Ls (.int u :: st)) : own_W l Z y bytes ml ret R n0 Q h cells slots pc Ls st := by
  intro p e s m args below meth c T locs hx hZ hown hby hml hret hlk hnm hce hsl X eT N
  subst hp
  obtain ⟨s₂, o, h1, h2⟩ := k p e s m args below meth c T locs hx hZ hown hby hml hret hlk hnm hce hsl X eT N
  exact ⟨s₂, o, X.ldcWInt hx hown (mvT hZ w) (g := mkF m pc Ls st) rfl (hb hby hd) _ h1, h2⟩
theorem own_ldc2 {idx : Nat} {u : Int64} (w : (Jvm.Cond.constantLong y.cls idx u).before a0 Z = true) (hd : decode bytes pc = .ok (.ldc2_w idx, 3)) (hp : pc + 3 = pc') (k : own_W l Z y bytes ml ret R n0 Q h cells slots pc' Ls (.long u :: st)) : own_W l Z y bytes ml ret R n0 Q h cells slots pc Ls st := by
  intro p e s m args below meth c T locs hx hZ hown hby hml hret hlk hnm hce hsl X eT N
  subst hp
  obtain ⟨s₂, o, h1, h2⟩ := k p e s m args below meth c T locs hx hZ hown hby hml hret hlk hnm hce hsl X eT N
  exact ⟨s₂, o, X.ldc2Long hx hown (mvT hZ w) (g := mkF m pc Ls st) rfl (hb hby hd) _ h1, h2⟩
theorem own_iret {u : Int32} (hr0 : ret = some .int) (hd : decode bytes pc = .ok (.ireturn, 1)) (hq : Q (some (.int u)) h) : own_W l Z y bytes ml ret R n0 Q h cells slots pc Ls (.int u :: st) := by
  intro p e s m args below meth c T locs hx hZ hown hby hml hret hlk hnm hce hsl X eT N
  subst hr0
  obtain ⟨fs, hr, hrun, hended, hW, hsame⟩ := X.leave (v := some (.int u)) (fun h => by rw [hret] at h; cases h) hlk
  refine ⟨_, _, ?_, hrun, hended, _, _, rfl, ⟨?_, N⟩, ⟨_, rfl⟩, hW, hsame.mono hce hsl⟩
  · exact retOut X hx hret rfl (Or.inl ⟨rfl, Or.inl rfl, _, rfl⟩) (hb hby hd) hr
  · rw [show (T.setFrames fs).heap = h from eT]; exact hq
theorem own_zret {u : Int32} {t : FieldType} (hr0 : ret = some t) (ht : t = .boolean ∨ t = .byte ∨ t = .char ∨ t = .short) (hd : decode bytes pc = .ok (.ireturn, 1)) (hq : Q (some (.int (nar t u))) h) : own_W l Z y bytes ml ret R n0 Q h cells slots pc Ls (.int u :: st) := by
  intro p e s m args below meth c T locs hx hZ hown hby hml hret hlk hnm hce hsl X eT N
  subst hr0
  obtain ⟨fs, hr, hrun, hended, hW, hsame⟩ := X.leave (v := some (.int (nar t u))) (fun h => by rw [hret] at h; cases h) hlk
  refine ⟨_, _, ?_, hrun, hended, _, _, rfl, ⟨?_, N⟩, ⟨_, rfl⟩, hW, hsame.mono hce hsl⟩
  · exact retN X hx hret ht (hb hby hd) hr
  · rw [show (T.setFrames fs).heap = h from eT]; exact hq
theorem own_bret {u v : Int32} (hr0 : ret = some .boolean) (hv : u &&& 1 = v) (hd : decode bytes pc = .ok (.ireturn, 1)) (hq : Q (some (.int v)) h) : own_W l Z y bytes ml ret R n0 Q h cells slots pc Ls (.int u :: st) :=
  own_zret hr0 (Or.inl rfl) hd (by subst hv; exact hq)
theorem own_lret {u : Int64} (hr0 : ret = some .long) (hd : decode bytes pc = .ok (.lreturn, 1)) (hq : Q (some (.long u)) h) : own_W l Z y bytes ml ret R n0 Q h cells slots pc Ls (.long u :: st) := by
  intro p e s m args below meth c T locs hx hZ hown hby hml hret hlk hnm hce hsl X eT N
  subst hr0
  obtain ⟨fs, hr, hrun, hended, hW, hsame⟩ := X.leave (v := some (.long u)) (fun h => by rw [hret] at h; cases h) hlk
  refine ⟨_, _, ?_, hrun, hended, _, _, rfl, ⟨?_, N⟩, ⟨_, rfl⟩, hW, hsame.mono hce hsl⟩
  · exact retOut X hx hret rfl (Or.inr (Or.inl ⟨rfl, rfl, _, rfl⟩)) (hb hby hd) hr
  · rw [show (T.setFrames fs).heap = h from eT]; exact hq
theorem own_aret {u : Addr} {t : FieldType} (hr0 : ret = some t) (ht : t.isReference = true) (hn : narrow t (.ref u) = .ref u) (hd : decode bytes pc = .ok (.areturn, 1)) (hq : Q (some (.ref u)) h) : own_W l Z y bytes ml ret R n0 Q h cells slots pc Ls (.ref u :: st) := by
  intro p e s m args below meth c T locs hx hZ hown hby hml hret hlk hnm hce hsl X eT N
  subst hr0
  obtain ⟨fs, hr, hrun, hended, hW, hsame⟩ := X.leave (v := some (.ref u)) (fun h => by rw [hret] at h; cases h) hlk
  refine ⟨_, _, ?_, hrun, hended, _, _, rfl, ⟨?_, N⟩, ⟨_, rfl⟩, hW, hsame.mono hce hsl⟩
  · exact retOut X hx hret hn (Or.inr (Or.inr (Or.inr (Or.inr ⟨rfl, ht, rfl⟩)))) (hb hby hd) hr
  · rw [show (T.setFrames fs).heap = h from eT]; exact hq
theorem own_ret (hr0 : ret = none) (hd : decode bytes pc = .ok (.return_, 1)) (hq : Q none h) : own_W l Z y bytes ml ret R n0 Q h cells slots pc Ls [] := by
  intro p e s m args below meth c T locs hx hZ hown hby hml hret hlk hnm hce hsl X eT N
  subst hr0
  obtain ⟨fs, hr, hrun, hended, hW, hsame⟩ := X.leave (v := none) (fun _ => rfl) hlk
  refine ⟨_, _, ?_, hrun, hended, _, _, rfl, ⟨?_, N⟩, ⟨_, rfl⟩, hW, hsame.mono hce hsl⟩
  · exact X.returnOut hx hret (hb hby hd) hr
  · rw [show (T.setFrames fs).heap = h from eT]; exact hq
theorem own_getF {O n d : String} {idx : Nat} {a : Addr} {v : Value} (w : (Jvm.Cond.fieldLink y.cls idx O n d).before a0 Z = true) (F : Fld Z h a O n d v) (hd : decode bytes pc = .ok (.getfield idx, 3)) (hp : pc + 3 = pc') (k : own_W l Z y bytes ml ret R n0 Q h cells slots pc' Ls (v :: st)) : own_W l Z y bytes ml ret R n0 Q h cells slots pc Ls (.ref a :: st) := by
  intro p e s m args below meth c T locs hx hZ hown hby hml hret hlk hnm hce hsl X eT N
  subst hp
  obtain ⟨T', X', e', st'⟩ := getF X hx hZ hown (host := "") (Or.inl w) Via.refl eT F (g := mkF m pc Ls (.ref a :: st)) rfl rfl (hb hby hd)
  obtain ⟨s₂, o, h1, h2⟩ := k p e s m args below meth c T' locs hx hZ hown hby hml hret hlk hnm hce hsl X' e' N
  exact ⟨s₂, o, st' _ h1, h2⟩
theorem own_putF {O n d C : String} {idx kk : Nat} {a : Addr} {v old : Value} {ty : FieldType} (w : (Jvm.Cond.fieldLink y.cls idx O n d).before a0 Z = true) (F : Fld Z h a O n d old) (E : Exa Z h a C) (L : (Jvm.Cond.lays C O n d).before a0 Z = true ∨ ((Jvm.Cond.laysFinal C O n d).before a0 Z = true ∧ y.cls = O ∧ y.name = "<init>")) (wi : (Jvm.Cond.instantiable C kk).before a0 Z = true)
    (ge : n0 ≤ a) (hty : parseFieldDescriptor d = some ty) (hn : narrow ty v = v) (hf : fits ty v = true) (hd : decode bytes pc = .ok (.putfield idx, 3)) (hp : pc + 3 = pc')
    (k : ∀ h', Wr h h' a (Jvm.RoadKit.slotOf Z O n d) v → Keep h h' [a] → own_W l Z y bytes ml ret R n0 Q h' cells slots pc' Ls st) : own_W l Z y bytes ml ret R n0 Q h cells slots pc Ls (v :: .ref a :: st) := by
  intro p e s m args below meth c T locs hx hZ hown hby hml hret hlk hnm hce hsl X eT N
  subst hp
  obtain ⟨T', h', X', e', W', st'⟩ := putF X hx hZ hown (host := "") (Or.inl w) Via.refl eT F E (L.imp id fun q => ⟨q.1, q.2.1, hnm.trans q.2.2⟩) wi hty hn hf (g := mkF m pc Ls (v :: .ref a :: st)) rfl rfl (hb hby hd)
  obtain ⟨s₂, o, h1, h2⟩ := k h' W' (Keep.of_wr W') p e s m args below meth c T' _ hx hZ hown hby hml hret hlk hnm hce hsl X' e' (Fr.snoc X' N ge)
  exact ⟨s₂, o, st' _ h1, h2⟩
theorem own_new {C : String} {idx n : Nat} (w : (Jvm.Cond.classLink y.cls idx C).before a0 Z = true) (wi : (Jvm.Cond.instantiable C n).before a0 Z = true) (wz : (Jvm.Cond.initialized C).before a0 Z = true) (hd : decode bytes pc = .ok (.new idx, 3)) (hp : pc + 3 = pc') (hc : cells + 1 ≤ R.cells) (hl : slots + n ≤ R.slots)
    (k : ∀ (h' : Heap) (a : Addr), h.size ≤ a → a < h'.size → Ext h h' → Exa Z h' a C → (∀ {O nm d : String} {ty : FieldType}, Laid Z a0 C O nm d → parseFieldDescriptor d = some ty → Fld Z h' a O nm d (defaultValue ty)) → own_W l Z y bytes ml ret R n0 Q h' (cells + 1) (slots + n) pc' Ls (.ref a :: st)) : own_W l Z y bytes ml ret R n0 Q h cells slots pc Ls st := by
  intro p e s m args below meth c T locs hx hZ hown hby hml hret hlk hnm hce hsl X eT N
  subst hp
  obtain ⟨T', h', X', e', E', A', D', -, st'⟩ := newO X hx hZ hown w wi wz eT (g := mkF m pc Ls st) rfl (hb hby hd) hc hl
  obtain ⟨s₂, o, h1, h2⟩ := k h' h.size (Nat.le_refl _) A'.lt E' A' D' p e s m args below meth c T' _ hx hZ hown hby hml hret hlk hnm hc hl X' e' N
  exact ⟨s₂, o, st' _ h1, h2⟩
theorem own_initO {idx W : Nat} {a : Addr} (w1 : (Jvm.Cond.methodLink y.cls idx Lib.objectInit).before a0 Z = true) (w2 : (Jvm.Cond.instanceMethod Lib.objectInit).before a0 Z = true) (w3 : (Jvm.Cond.code Lib.objectInit ⟨#[0xb1]⟩ 1 none).before a0 Z = true) (hd : decode bytes pc = .ok (.invokespecial idx, 3)) (hp : pc + 3 = pc')
    (hsz : Ls.size = ml) (hf : 1 ≤ R.frames) (hW : (st.map fun v => v.category).sum ≤ W) (hl : W + 12 ≤ R.locals) (k : own_W l Z y bytes ml ret R n0 Q h cells slots pc' Ls st) : own_W l Z y bytes ml ret R n0 Q h cells slots pc Ls (.ref a :: st) := by
  intro p e s m args below meth c T locs hx hZ hown hby hml hret hlk hnm hce hsl X eT N
  subst hp
  obtain ⟨T', X', e', st'⟩ := initO X hx hZ hown w1 w2 w3 eT (g := mkF m pc Ls (.ref a :: st)) rfl (by rw [hml]; exact hsz) rfl (hb hby hd) hf (W := W) (by show 2 * 0 + _ ≤ _; omega) hl
  obtain ⟨s₂, o, h1, h2⟩ := k p e s m args below meth c T' locs hx hZ hown hby hml hret hlk hnm hce hsl X' e' N
  exact ⟨s₂, o, st' _ h1, h2⟩
/-- an array of this component type with just these components -/
def own_A (Z : State) (h : Heap) (a : Addr) (ty : FieldType) (vs : List Value) : Prop := ∃ c : Cell, Arr Z h a c ty ∧ c.slots.toList = vs ∧ vs.length < 2 ^ 31 ∧ ∀ v ∈ vs, fits ty v = true
theorem own_A.lt {a : Addr} {ty : FieldType} {vs : List Value} (A : own_A Z h a ty vs) : a < h.size := by obtain ⟨c, A, -⟩ := A; exact A.lt
theorem own_A.ext {h' : Heap} {a : Addr} {ty : FieldType} {vs : List Value} (A : own_A Z h a ty vs) (E : Ext h h') : own_A Z h' a ty vs := by obtain ⟨c, A, r⟩ := A; exact ⟨c, A.ext E, r⟩
theorem own_A.keep {h' : Heap} {a : Addr} {ty : FieldType} {vs : List Value} {ws : List Addr} (A : own_A Z h a ty vs) (K : Keep h h' ws) (q : a ∉ ws) : own_A Z h' a ty vs := by obtain ⟨c, A, r⟩ := A; exact ⟨c, ⟨K.2.1 a c A.1 q, A.2⟩, r⟩
theorem own_A.cast {a : Addr} {ty : FieldType} {vs vs' : List Value} (A : own_A Z h a ty vs) (q : vs = vs') : own_A Z h a ty vs' := q ▸ A
theorem own_size {c : Cell} {vs : List Value} (q : c.slots.toList = vs) : c.slots.size = vs.length := by rw [← q]; simp
theorem own_in {c : Cell} {vs : List Value} {j : Int32} (q : c.slots.toList = vs) (h0 : ¬ j < 0) (h1 : j.toNatClampNeg < vs.length) : ¬ (j < 0 ∨ c.slots.size ≤ j.toNatClampNeg) := by rw [own_size q]; rintro (u | u); exact h0 u; omega
theorem own_get {c : Cell} {vs : List Value} {j : Nat} {v : Value} (q : c.slots.toList = vs) (h1 : vs[j]? = some v) : c.slots[j]? = some v := by rw [← Array.getElem?_toList, q]; exact h1
theorem own_A.set {h' : Heap} {a : Addr} {ty : FieldType} {vs : List Value} {j : Nat} {v : Value} {c : Cell} (A : Arr Z h a c ty) (q : c.slots.toList = vs) (hl : vs.length < 2 ^ 31) (hft : ∀ v ∈ vs, fits ty v = true) (hv : fits ty v = true) (W : Wr h h' a j v) : own_A Z h' a ty (vs.set j v) := by
  refine ⟨_, A.same W, ?_, by simpa using hl, fun w hw => (List.mem_or_eq_of_mem_set hw).elim (hft w) fun e => e ▸ hv⟩
  rw [← q]; simp [Cell.setSlot]
theorem own_fitd (ty : FieldType) : fits ty (defaultValue ty) = true := by cases ty <;> rfl
theorem own_len {a : Addr} {ty : FieldType} {vs : List Value} {n : Int32} (A : own_A Z h a ty vs) (hn : vs.length.toInt32 = n) (hd : decode bytes pc = .ok (.arraylength, 1)) (hp : pc + 1 = pc') (k : own_W l Z y bytes ml ret R n0 Q h cells slots pc' Ls (.int n :: st)) : own_W l Z y bytes ml ret R n0 Q h cells slots pc Ls (.ref a :: st) := by
  intro p e s m args below meth c T locs hx hZ hown hby hml hret hlk hnm hce hsl X eT N
  subst hp hn
  obtain ⟨cl, A, q, hl, hft⟩ := A
  obtain ⟨s₂, o, h1, h2⟩ := k p e s m args below meth c T locs hx hZ hown hby hml hret hlk hnm hce hsl X eT N
  refine ⟨s₂, o, X.arraylength hx (by rw [eT]; exact A.1) (State.isArrayOf_alike hZ.alike A.2.1) (g := mkF m pc Ls (.ref a :: st)) rfl rfl (hb hby hd) _ ?_, h2⟩
  rw [own_size q]; exact h1
theorem own_iaload {a : Addr} {vs : List Value} {j : Int32} {v : Value} (A : own_A Z h a .int vs) (h0 : ¬ j < 0) (hv : vs[j.toNatClampNeg]? = some v) (hd : decode bytes pc = .ok (.iaload, 1)) (hp : pc + 1 = pc') (k : own_W l Z y bytes ml ret R n0 Q h cells slots pc' Ls (v :: st)) : own_W l Z y bytes ml ret R n0 Q h cells slots pc Ls (.int j :: .ref a :: st) := by
  intro p e s m args below meth c T locs hx hZ hown hby hml hret hlk hnm hce hsl X eT N
  subst hp
  obtain ⟨cl, A, q, hl, hft⟩ := A
  obtain ⟨s₂, o, h1, h2⟩ := k p e s m args below meth c T locs hx hZ hown hby hml hret hlk hnm hce hsl X eT N
  exact ⟨s₂, o, X.iaload hx (by rw [eT]; exact A.1) (State.isArrayOf_alike hZ.alike A.2.1) A.2.2 (own_in q h0 (List.getElem?_eq_some_iff.mp hv).1) (own_get q hv) (g := mkF m pc Ls (.int j :: .ref a :: st)) rfl rfl (hb hby hd) _ h1, h2⟩
theorem own_laload {a : Addr} {vs : List Value} {j : Int32} {v : Value} (A : own_A Z h a .long vs) (h0 : ¬ j < 0) (hv : vs[j.toNatClampNeg]? = some v) (hd : decode bytes pc = .ok (.laload, 1)) (hp : pc + 1 = pc') (k : own_W l Z y bytes ml ret R n0 Q h cells slots pc' Ls (v :: st)) : own_W l Z y bytes ml ret R n0 Q h cells slots pc Ls (.int j :: .ref a :: st) := by
  intro p e s m args below meth c T locs hx hZ hown hby hml hret hlk hnm hce hsl X eT N
  subst hp
  obtain ⟨cl, A, q, hl, hft⟩ := A
  obtain ⟨s₂, o, h1, h2⟩ := k p e s m args below meth c T locs hx hZ hown hby hml hret hlk hnm hce hsl X eT N
  exact ⟨s₂, o, X.laload hx (by rw [eT]; exact A.1) (State.isArrayOf_alike hZ.alike A.2.1) A.2.2 (own_in q h0 (List.getElem?_eq_some_iff.mp hv).1) (own_get q hv) (g := mkF m pc Ls (.int j :: .ref a :: st)) rfl rfl (hb hby hd) _ h1, h2⟩
theorem own_caload {a : Addr} {vs : List Value} {j : Int32} {v : Value} (A : own_A Z h a .char vs) (h0 : ¬ j < 0) (hv : vs[j.toNatClampNeg]? = some v) (hd : decode bytes pc = .ok (.caload, 1)) (hp : pc + 1 = pc') (k : own_W l Z y bytes ml ret R n0 Q h cells slots pc' Ls (v :: st)) : own_W l Z y bytes ml ret R n0 Q h cells slots pc Ls (.int j :: .ref a :: st) := by
  intro p e s m args below meth c T locs hx hZ hown hby hml hret hlk hnm hce hsl X eT N
  subst hp
  obtain ⟨cl, A, q, hl, hft⟩ := A
  obtain ⟨s₂, o, h1, h2⟩ := k p e s m args below meth c T locs hx hZ hown hby hml hret hlk hnm hce hsl X eT N
  exact ⟨s₂, o, X.caload hx (by rw [eT]; exact A.1) (State.isArrayOf_alike hZ.alike A.2.1) A.2.2 (own_in q h0 (List.getElem?_eq_some_iff.mp hv).1) (own_get q hv) (g := mkF m pc Ls (.int j :: .ref a :: st)) rfl rfl (hb hby hd) _ h1, h2⟩
theorem own_baload {a : Addr} {vs : List Value} {j : Int32} {v : Value} (A : own_A Z h a .byte vs) (h0 : ¬ j < 0) (hv : vs[j.toNatClampNeg]? = some v) (hd : decode bytes pc = .ok (.baload, 1)) (hp : pc + 1 = pc') (k : own_W l Z y bytes ml ret R n0 Q h cells slots pc' Ls (v :: st)) : own_W l Z y bytes ml ret R n0 Q h cells slots pc Ls (.int j :: .ref a :: st) := by
  intro p e s m args below meth c T locs hx hZ hown hby hml hret hlk hnm hce hsl X eT N
  subst hp
  obtain ⟨cl, A, q, hl, hft⟩ := A
  obtain ⟨s₂, o, h1, h2⟩ := k p e s m args below meth c T locs hx hZ hown hby hml hret hlk hnm hce hsl X eT N
  exact ⟨s₂, o, X.baloadBytes hx (by rw [eT]; exact A.1) (State.isArrayOf_alike hZ.alike A.2.1) A.2.2 (own_in q h0 (List.getElem?_eq_some_iff.mp hv).1) (own_get q hv) (g := mkF m pc Ls (.int j :: .ref a :: st)) rfl rfl (hb hby hd) _ h1, h2⟩
theorem own_zaload {a : Addr} {vs : List Value} {j : Int32} {v : Value} (A : own_A Z h a .boolean vs) (h0 : ¬ j < 0) (hv : vs[j.toNatClampNeg]? = some v) (hd : decode bytes pc = .ok (.baload, 1)) (hp : pc + 1 = pc') (k : own_W l Z y bytes ml ret R n0 Q h cells slots pc' Ls (v :: st)) : own_W l Z y bytes ml ret R n0 Q h cells slots pc Ls (.int j :: .ref a :: st) := by
  intro p e s m args below meth c T locs hx hZ hown hby hml hret hlk hnm hce hsl X eT N
  subst hp
  obtain ⟨cl, A, q, hl, hft⟩ := A
  obtain ⟨s₂, o, h1, h2⟩ := k p e s m args below meth c T locs hx hZ hown hby hml hret hlk hnm hce hsl X eT N
  exact ⟨s₂, o, X.baloadBooleans hx (by rw [eT]; exact A.1) (State.isArrayOf_alike hZ.alike A.2.1) A.2.2 (own_in q h0 (List.getElem?_eq_some_iff.mp hv).1) (own_get q hv) (g := mkF m pc Ls (.int j :: .ref a :: st)) rfl rfl (hb hby hd) _ h1, h2⟩
theorem own_iastore {a : Addr} {vs : List Value} {j : Int32} {u : Int32} (A : own_A Z h a .int vs) (h0 : ¬ j < 0) (h1 : j.toNatClampNeg < vs.length) (ge : n0 ≤ a) (hd : decode bytes pc = .ok (.iastore, 1)) (hp : pc + 1 = pc') (k : ∀ h', Keep h h' [a] → own_A Z h' a .int (vs.set j.toNatClampNeg (.int u)) → own_W l Z y bytes ml ret R n0 Q h' cells slots pc' Ls st) : own_W l Z y bytes ml ret R n0 Q h cells slots pc Ls (.int u :: .int j :: .ref a :: st) := by
  intro p e s m args below meth c T locs hx hZ hown hby hml hret hlk hnm hce hsl X eT N
  subst hp
  obtain ⟨cl, A, q, hl, hft⟩ := A
  obtain ⟨T', h', X', e', W', st'⟩ := stI X hx hZ eT A (own_in q h0 h1) (g := mkF m pc Ls (.int u :: .int j :: .ref a :: st)) rfl rfl (hb hby hd)
  obtain ⟨s₂, o, h1, h2⟩ := k h' (Keep.of_wr W') (own_A.set A q hl hft rfl W') p e s m args below meth c T' _ hx hZ hown hby hml hret hlk hnm hce hsl X' e' (Fr.snoc X' N ge)
  exact ⟨s₂, o, st' _ h1, h2⟩
theorem own_lastore {a : Addr} {vs : List Value} {j : Int32} {u : Int64} (A : own_A Z h a .long vs) (h0 : ¬ j < 0) (h1 : j.toNatClampNeg < vs.length) (ge : n0 ≤ a) (hd : decode bytes pc = .ok (.lastore, 1)) (hp : pc + 1 = pc') (k : ∀ h', Keep h h' [a] → own_A Z h' a .long (vs.set j.toNatClampNeg (.long u)) → own_W l Z y bytes ml ret R n0 Q h' cells slots pc' Ls st) : own_W l Z y bytes ml ret R n0 Q h cells slots pc Ls (.long u :: .int j :: .ref a :: st) := by
  intro p e s m args below meth c T locs hx hZ hown hby hml hret hlk hnm hce hsl X eT N
  subst hp
  obtain ⟨cl, A, q, hl, hft⟩ := A
  obtain ⟨T', h', X', e', W', st'⟩ := stJ X hx hZ eT A (own_in q h0 h1) (g := mkF m pc Ls (.long u :: .int j :: .ref a :: st)) rfl rfl (hb hby hd)
  obtain ⟨s₂, o, h1, h2⟩ := k h' (Keep.of_wr W') (own_A.set A q hl hft rfl W') p e s m args below meth c T' _ hx hZ hown hby hml hret hlk hnm hce hsl X' e' (Fr.snoc X' N ge)
  exact ⟨s₂, o, st' _ h1, h2⟩
theorem own_castore {a : Addr} {vs : List Value} {j : Int32} {u : Int32} (A : own_A Z h a .char vs) (h0 : ¬ j < 0) (h1 : j.toNatClampNeg < vs.length) (ge : n0 ≤ a) (hd : decode bytes pc = .ok (.castore, 1)) (hp : pc + 1 = pc') (k : ∀ h', Keep h h' [a] → own_A Z h' a .char (vs.set j.toNatClampNeg (.int (nar .char u))) → own_W l Z y bytes ml ret R n0 Q h' cells slots pc' Ls st) : own_W l Z y bytes ml ret R n0 Q h cells slots pc Ls (.int u :: .int j :: .ref a :: st) := by
  intro p e s m args below meth c T locs hx hZ hown hby hml hret hlk hnm hce hsl X eT N
  subst hp
  obtain ⟨cl, A, q, hl, hft⟩ := A
  obtain ⟨T', h', X', e', W', st'⟩ := stC X hx hZ eT A (own_in q h0 h1) (g := mkF m pc Ls (.int u :: .int j :: .ref a :: st)) rfl rfl (hb hby hd)
  obtain ⟨s₂, o, h1, h2⟩ := k h' (Keep.of_wr W') (own_A.set A q hl hft (fits_nar_char u) W') p e s m args below meth c T' _ hx hZ hown hby hml hret hlk hnm hce hsl X' e' (Fr.snoc X' N ge)
  exact ⟨s₂, o, st' _ h1, h2⟩
theorem own_bastore {a : Addr} {vs : List Value} {j : Int32} {u : Int32} (A : own_A Z h a .byte vs) (h0 : ¬ j < 0) (h1 : j.toNatClampNeg < vs.length) (ge : n0 ≤ a) (hd : decode bytes pc = .ok (.bastore, 1)) (hp : pc + 1 = pc') (k : ∀ h', Keep h h' [a] → own_A Z h' a .byte (vs.set j.toNatClampNeg (.int (nar .byte u))) → own_W l Z y bytes ml ret R n0 Q h' cells slots pc' Ls st) : own_W l Z y bytes ml ret R n0 Q h cells slots pc Ls (.int u :: .int j :: .ref a :: st) := by
  intro p e s m args below meth c T locs hx hZ hown hby hml hret hlk hnm hce hsl X eT N
  subst hp
  obtain ⟨cl, A, q, hl, hft⟩ := A
  obtain ⟨T', h', X', e', W', st'⟩ := stB X hx hZ eT A (own_in q h0 h1) (g := mkF m pc Ls (.int u :: .int j :: .ref a :: st)) rfl rfl (hb hby hd)
  obtain ⟨s₂, o, h1, h2⟩ := k h' (Keep.of_wr W') (own_A.set A q hl hft (fits_nar_byte u) W') p e s m args below meth c T' _ hx hZ hown hby hml hret hlk hnm hce hsl X' e' (Fr.snoc X' N ge)
  exact ⟨s₂, o, st' _ h1, h2⟩
theorem own_zastore {a : Addr} {vs : List Value} {j : Int32} {u : Int32} (A : own_A Z h a .boolean vs) (h0 : ¬ j < 0) (h1 : j.toNatClampNeg < vs.length) (ge : n0 ≤ a) (hd : decode bytes pc = .ok (.bastore, 1)) (hp : pc + 1 = pc') (k : ∀ h', Keep h h' [a] → own_A Z h' a .boolean (vs.set j.toNatClampNeg (.int (nar .boolean u))) → own_W l Z y bytes ml ret R n0 Q h' cells slots pc' Ls st) : own_W l Z y bytes ml ret R n0 Q h cells slots pc Ls (.int u :: .int j :: .ref a :: st) := by
  intro p e s m args below meth c T locs hx hZ hown hby hml hret hlk hnm hce hsl X eT N
  subst hp
  obtain ⟨cl, A, q, hl, hft⟩ := A
  obtain ⟨T', h', X', e', W', st'⟩ := stZ X hx hZ eT A (own_in q h0 h1) (g := mkF m pc Ls (.int u :: .int j :: .ref a :: st)) rfl rfl (hb hby hd)
  obtain ⟨s₂, o, h1, h2⟩ := k h' (Keep.of_wr W') (own_A.set A q hl hft (fits_nar_bool u) W') p e s m args below meth c T' _ hx hZ hown hby hml hret hlk hnm hce hsl X' e' (Fr.snoc X' N ge)
  exact ⟨s₂, o, st' _ h1, h2⟩
theorem own_newarrE {aty : ArrayType} {ty : FieldType} {n : Int32} {cap : Nat} (w : (Jvm.Cond.arrayClass ty).before a0 Z = true) (ht : newarray.typeOf aty = ty) (hd : decode bytes pc = .ok (.newarray aty, 2)) (hp : pc + 2 = pc') (hn : ¬ n < 0) (hcap : n.toNatClampNeg ≤ cap) (hb8 : cap * 8 ≤ 536870912) (hc : cells + 1 ≤ R.cells) (hl : slots + cap ≤ R.slots)
    (k : ∀ (h' : Heap) (a : Addr), h.size ≤ a → a < h'.size → Ext h h' → own_A Z h' a ty (List.replicate n.toNatClampNeg (defaultValue ty)) → Exa Z h' a ("[" ++ ty.toString) → own_W l Z y bytes ml ret R n0 Q h' (cells + 1) (slots + cap) pc' Ls (.ref a :: st)) : own_W l Z y bytes ml ret R n0 Q h cells slots pc Ls (.int n :: st) := by
  intro p e s m args below meth c T locs hx hZ hown hby hml hret hlk hnm hce hsl X eT N
  subst hp ht
  have hcb : componentBytes (newarray.typeOf aty) ≤ 8 := by cases aty <;> decide
  obtain ⟨cA, kA, comp, g1, g2, g3, X', st'⟩ := X.newarrayPrim hx (mvA hZ w) (g := mkF m pc Ls (.int n :: st)) rfl (hb hby hd) rfl hn (Nat.le_trans (Nat.mul_le_mul hcap hcb) hb8) hc (by omega)
  rw [hZ.alike.findClass] at g1
  obtain ⟨kZ, z1, -⟩ := Vm.findClass_spec g1
  obtain ⟨k', z2, z3⟩ := hZ.alike.2.2 _ _ z1
  cases g2.symm.trans z2
  have kk : kZ.kind = .array comp (newarray.typeOf aty) := by rw [← g3, z3]
  have hN : (T.heap.push ({ cls := cA, slots := Array.replicate n.toNatClampNeg (defaultValue (newarray.typeOf aty)), vm := .none } : Cell))[T.heap.size]? = some { cls := cA, slots := Array.replicate n.toNatClampNeg (defaultValue (newarray.typeOf aty)), vm := .none } := by simp
  have E' : Ext h (T.heap.push ({ cls := cA, slots := Array.replicate n.toNatClampNeg (defaultValue (newarray.typeOf aty)), vm := .none } : Cell)) := by
    subst eT
    refine ⟨by simp, fun b cc hb' => ?_⟩
    rw [Array.getElem?_push_lt (Array.getElem?_eq_some_iff.mp hb').1]; exact (Array.getElem?_eq_getElem _).symm.trans hb'
  have A' : own_A Z (T.heap.push ({ cls := cA, slots := Array.replicate n.toNatClampNeg (defaultValue (newarray.typeOf aty)), vm := .none } : Cell)) T.heap.size (newarray.typeOf aty) (List.replicate n.toNatClampNeg (defaultValue (newarray.typeOf aty))) :=
    ⟨_, ⟨hN, ⟨by simp, kZ, z1, comp, kk⟩, by simp⟩, by simp, by simp only [List.length_replicate]; exact (back32 hn).2, fun v hv => by rw [(List.mem_replicate.mp hv).2]; exact own_fitd _⟩
  have X2 := X'.more (Nat.le_refl _) (Nat.add_le_add_left hcap slots)
  obtain ⟨s₂, o, h1, h2⟩ := k _ T.heap.size (by rw [eT]; exact Nat.le_refl _) A'.lt E' A' ⟨_, kZ, hN, g1, z1, rfl, fun q => by rw [kk] at q; cases q⟩ p e s m args below meth c _ _ hx hZ hown hby hml hret hlk hnm hc hl X2 rfl N
  exact ⟨s₂, o, st' _ h1, h2⟩
theorem own_newarr {aty : ArrayType} {ty : FieldType} {n : Int32} {cap : Nat} (w : (Jvm.Cond.arrayClass ty).before a0 Z = true) (ht : newarray.typeOf aty = ty) (hd : decode bytes pc = .ok (.newarray aty, 2)) (hp : pc + 2 = pc') (hn : ¬ n < 0) (hcap : n.toNatClampNeg ≤ cap) (hb8 : cap * 8 ≤ 536870912) (hc : cells + 1 ≤ R.cells) (hl : slots + cap ≤ R.slots)
    (k : ∀ (h' : Heap) (a : Addr), h.size ≤ a → a < h'.size → Ext h h' → own_A Z h' a ty (List.replicate n.toNatClampNeg (defaultValue ty)) → own_W l Z y bytes ml ret R n0 Q h' (cells + 1) (slots + cap) pc' Ls (.ref a :: st)) : own_W l Z y bytes ml ret R n0 Q h cells slots pc Ls (.int n :: st) :=
  own_newarrE w ht hd hp hn hcap hb8 hc hl fun h' a q1 q2 q3 q4 _ => k h' a q1 q2 q3 q4
theorem own_cast {idx : Nat} {K : String} {a : Addr} (w : (Jvm.Cond.classLink y.cls idx K).before a0 Z = true) (F : Ins Z h a K true) (hd : decode bytes pc = .ok (.checkcast idx, 3)) (hp : pc + 3 = pc') (k : own_W l Z y bytes ml ret R n0 Q h cells slots pc' Ls (.ref a :: st)) : own_W l Z y bytes ml ret R n0 Q h cells slots pc Ls (.ref a :: st) := by
  intro p e s m args below meth c T locs hx hZ hown hby hml hret hlk hnm hce hsl X eT N
  subst hp
  obtain ⟨T', X', e', st'⟩ := castY X hx hZ hown w eT F (g := mkF m pc Ls (.ref a :: st)) rfl rfl (hb hby hd)
  obtain ⟨s₂, o, h1, h2⟩ := k p e s m args below meth c T' locs hx hZ hown hby hml hret hlk hnm hce hsl X' e' N
  exact ⟨s₂, o, st' _ h1, h2⟩
theorem own_clone {ad : String} {idx W cap : Nat} {a : Addr} {ty : FieldType} {vs : List Value} (w1 : (Jvm.Cond.methodLink y.cls idx ⟨ad, "clone", "()Ljava/lang/Object;"⟩).before a0 Z = true) (w2 : (Jvm.Cond.sameMethod ad "java/lang/Object" "clone" "()Ljava/lang/Object;").before a0 Z = true) (w3 : (Jvm.Cond.native ⟨"java/lang/Object", "clone", "()Ljava/lang/Object;"⟩).before a0 Z = true)
    (w4 : (Jvm.Cond.instanceMethod ⟨"java/lang/Object", "clone", "()Ljava/lang/Object;"⟩).before a0 Z = true) (w5 : (Jvm.Cond.selects ad ⟨ad, "clone", "()Ljava/lang/Object;"⟩ ⟨"java/lang/Object", "clone", "()Ljava/lang/Object;"⟩).before a0 Z = true) (w6 : (Jvm.Cond.castable ad "java/lang/Cloneable").before a0 Z = true)
    (A : own_A Z h a ty vs) (E : Exa Z h a ad) (hd : decode bytes pc = .ok (.invokevirtual idx, 3)) (hp : pc + 3 = pc') (hsz : Ls.size = ml) (hf : 1 ≤ R.frames) (hW : (st.map fun v => v.category).sum ≤ W) (hl : W + 14 ≤ R.locals) (hcap : vs.length ≤ cap) (hc : cells + 1 ≤ R.cells) (hsl' : slots + cap ≤ R.slots)
    (k : ∀ (h' : Heap) (b : Addr), h.size ≤ b → b < h'.size → Ext h h' → own_A Z h' b ty vs → Exa Z h' b ad → own_W l Z y bytes ml ret R n0 Q h' (cells + 1) (slots + cap) pc' Ls (.ref b :: st)) : own_W l Z y bytes ml ret R n0 Q h cells slots pc Ls (.ref a :: st) := by
  intro p e s m args below meth c T locs hx hZ hown hby hml hret hlk hnm hce hsl X eT N
  subst hp
  obtain ⟨cl, A, q, hlen, hft⟩ := A
  have F : FitC Z cl := fun i v hv => by
    obtain ⟨-, k, hk, comp, hkind⟩ := A.2.1
    have e1 : Z.slotType? cl.cls .none i = some ty := by simp [State.slotType?, hk, hkind]
    have mem : v ∈ vs := by rw [← q]; rw [← Array.getElem?_toList] at hv; exact List.mem_of_getElem? hv
    simpa [State.fitsSlot, e1] using hft v mem
  obtain ⟨T', h', X', e', E', A', E2, st'⟩ := cloneA X hx hZ hown w1 w2 w3 w4 w5 w6 eT A E F (g := mkF m pc Ls (.ref a :: st)) rfl (by rw [hml]; exact hsz) rfl (hb hby hd) hf (W := W) (by show 2 * 0 + _ ≤ _; omega) hl (cap := cap) (by rw [own_size q]; exact hcap) hc hsl'
  obtain ⟨s₂, o, h1, h2⟩ := k h' h.size (Nat.le_refl _) A'.lt E' ⟨_, A', q, hlen, hft⟩ E2 p e s m args below meth c T' locs hx hZ hown hby hml hret hlk hnm hc hsl' X' e' N
  exact ⟨s₂, o, st' _ h1, h2⟩
theorem own_getD {α : Type} (l : List α) (d : α) {i : Nat} (h : i < l.length) : l.getD i d = l[i] := by
  rw [List.getD_eq_getElem?_getD, List.getElem?_eq_getElem h]; rfl
theorem own_len32 {n : Nat} (h : n < 2 ^ 31) : n.toInt32.toNatClampNeg = n ∧ ¬ n.toInt32 < 0 := by
  have e := len_toInt h
  have z : (0 : Int32).toInt = 0 := rfl
  exact ⟨by rw [Int32.toNatClampNeg, e]; rfl, by rw [Int32.lt_iff_toInt_lt, e, z]; omega⟩
theorem own_A.arv {a : Addr} {ty : FieldType} {vs : List Value} (A : own_A Z h a ty vs) (d : Value) : ∃ k, Arv Z h a k ty vs.length.toInt32 vs d := by
  obtain ⟨c, A, q, hl, hft⟩ := A
  have e := own_len32 hl
  refine ⟨c.cls, c, A, rfl, by rw [e.1]; exact own_size q, e.2, fun k hk => ?_, fun k hk => ?_⟩
  · rw [own_size q] at hk
    refine own_get q ?_
    rw [own_getD _ _ hk]; exact List.getElem?_eq_getElem hk
  · rw [own_size q] at hk
    rw [own_getD _ _ hk]; exact hft _ (List.getElem_mem hk)
theorem own_A.ofArv {a : Addr} {ty : FieldType} {vs : List Value} {k : ClassId} {z : Int32} {d : Value} (A : Arv Z h a k ty z vs d) (hz : z.toNatClampNeg = vs.length) (hl : vs.length < 2 ^ 31) : own_A Z h a ty vs := by
  obtain ⟨c, A, -, hs, -, H, G⟩ := A
  have e : c.slots.toList = vs := by
    apply List.ext_getElem?
    intro i
    by_cases hi : i < vs.length
    · rw [Array.getElem?_toList, H i (by omega), own_getD _ _ hi, List.getElem?_eq_getElem hi]
    · rw [List.getElem?_eq_none (by rw [Array.length_toList]; omega), List.getElem?_eq_none (by omega)]
  refine ⟨c, A, e, hl, fun v hv => ?_⟩
  obtain ⟨i, hi, rfl⟩ := List.mem_iff_getElem.mp hv
  have := G i (by omega)
  rwa [own_getD _ _ hi] at this
theorem own_slice (vs : List Value) (d : Value) (p n : Nat) (h : p + n ≤ vs.length) : (vs.drop p).take n = (List.range n).map fun i => vs.getD (p + i) d := by
  apply List.ext_getElem
  · simp; omega
  · intro i h1 h2
    simp only [List.length_map, List.length_range] at h2
    simp [List.getD_eq_getElem?_getD, show p + i < vs.length by omega]
theorem own_acopy {idx W : Nat} {a b : Addr} {ty : FieldType} {vs vd : List Value} {sp dp nn : Int32} (w1 : (Jvm.Cond.methodLink y.cls idx Jvm.Stand.acN).before a0 Z = true) (w2 : (Jvm.Cond.native Jvm.Stand.acN).before a0 Z = true) (w3 : (Jvm.Cond.static Jvm.Stand.acN).before a0 Z = true) (w4 : (Jvm.Cond.initialized "java/lang/System").before a0 Z = true)
    (A : own_A Z h a ty vs) (B : own_A Z h b ty vd) (hty : refKind ty = false) (h1 : ¬ sp < 0) (h2 : ¬ dp < 0) (h3 : ¬ nn < 0) (h4 : sp.toNatClampNeg + nn.toNatClampNeg ≤ vs.length) (h5 : dp.toNatClampNeg + nn.toNatClampNeg ≤ vd.length) (ge : n0 ≤ b)
    (hd : decode bytes pc = .ok (.invokestatic idx, 3)) (hp : pc + 3 = pc') (hsz : Ls.size = ml) (hf : 1 ≤ R.frames) (hW : (st.map fun v => v.category).sum ≤ W) (hlo : W + (nativeFrameWords "java/lang/System" "arraycopy" 5 + 11) ≤ R.locals)
    (k : ∀ h', Keep h h' [b] → own_A Z h' b ty (vd.take dp.toNatClampNeg ++ (vs.drop sp.toNatClampNeg).take nn.toNatClampNeg ++ vd.drop (dp.toNatClampNeg + nn.toNatClampNeg)) → own_W l Z y bytes ml ret R n0 Q h' cells slots pc' Ls st) : own_W l Z y bytes ml ret R n0 Q h cells slots pc Ls (.int nn :: .int dp :: .ref b :: .int sp :: .ref a :: st) := by
  intro p e s m args below meth c T locs hx hZ hown hby hml hret hlk hnm hce hsl X eT N
  subst hp
  have hlv : vs.length < 2 ^ 31 := by obtain ⟨_, _, _, q, _⟩ := A; exact q
  have hld : vd.length < 2 ^ 31 := by obtain ⟨_, _, _, q, _⟩ := B; exact q
  obtain ⟨k1, A1⟩ := A.arv .null
  obtain ⟨k2, B1⟩ := B.arv .null
  have e1 := own_len32 hlv
  have e2 := own_len32 hld
  obtain ⟨T', h', L, X', e', N', K', B', st'⟩ := cpA X hx hZ hown w1 w2 w3 w4 eT A1 B1 (Or.inl ⟨rfl, hty⟩) h1 h2 h3 (by rw [e1.1]; exact h4) (by rw [e2.1]; exact h5) (own_slice vs .null _ _ h4) h5 N ge (g := mkF m pc Ls (.int nn :: .int dp :: .ref b :: .int sp :: .ref a :: st)) rfl (by rw [hml]; exact hsz) rfl (hb hby hd) hf (W := W) (by show 2 * 0 + _ ≤ _; omega) hlo
  have hlen : (vd.take dp.toNatClampNeg ++ (vs.drop sp.toNatClampNeg).take nn.toNatClampNeg ++ vd.drop (dp.toNatClampNeg + nn.toNatClampNeg)).length = vd.length := by
    simp only [List.length_append, List.length_take, List.length_drop]; omega
  obtain ⟨s₂, o, q1, q2⟩ := k h' K' (own_A.ofArv B' (by rw [e2.1, hlen]) (by rw [hlen]; exact hld)) p e s m args below meth c T' L hx hZ hown hby hml hret hlk hnm hce hsl X' e' N'
  exact ⟨s₂, o, st' _ q1, q2⟩
theorem own_met {z : MethodName} {rm : Room} {argsL : List Value} {Lc : Array Slot} (hC : own_W l Z z bytes ml ret rm n0 Q h 0 0 0 Lc []) (pn : plainFor z = true) (hent : Jvm.Sym.laidSlots argsL ++ List.replicate (ml - (Jvm.Sym.laidSlots argsL).length) .unset = Lc.toList) (ws : List Jvm.Cond) :
    MetFree l z (head1 (Jvm.Cond.code z bytes ml ret :: ws) rm) (fun a U => a = argsL.toArray ∧ Z.Warmed39 U.vm ∧ U.heap = h) (fun _ _ _ _ _ => True) (fun _ U o U' => ∃ v L, o = .returned v ∧ (Q v U'.heap ∧ Fr n0 L) ∧ FrameEnd U o U' L rm.cells rm.slots) := by
  refine MetFree.of_bodySF pn hisR ?_
  intro p e s m args below meth c s₁ Bd hml0 hP hK
  obtain ⟨rfl, hZ, hh⟩ := hP
  obtain ⟨s₂, o, h1, h2, h3, h4⟩ := hC p e s m _ below meth c s₁ [] Bd.exec hZ (findClass_of_methodNamed Bd.named) Bd.bytes hml0 Bd.returns Bd.notSynchronized (name_of_methodNamed Bd.named Bd.method).1 (Nat.zero_le _) (Nat.zero_le _) (Stand.of_body Bd) (by rw [← hh, Bd.state]; rfl) (Fr.nil n0)
  exact ⟨s₂, o, (XT.entry (by simpa using hent)).trans h1, h2, h3, h4⟩
theorem own_static {z : MethodName} {bytes' : ByteArray} {ml' : Nat} {ret' : Option FieldType} {rm : Room} {Qc : Option Value → Heap → Prop} {Lc : Array Slot} {argsL rest : List Value} {ps : List FieldType} {rt : Option FieldType} {idx W : Nat} (hC : own_W l Z z bytes' ml' ret' rm n0 Qc h 0 0 0 Lc []) (w1 : (Jvm.Cond.methodLink y.cls idx z).before a0 Z = true) (w2 : (Jvm.Cond.static z).before a0 Z = true) (w3 : (Jvm.Cond.initialized z.cls).before a0 Z = true) (w4 : (Jvm.Cond.code z bytes' ml' ret').before a0 Z = true) (pn : plainFor z = true) (hy : z.cls ≠ "java/lang/invoke/MethodHandle" ∧ z.cls ≠ "java/lang/invoke/VarHandle") (pd : parseMethodDescriptor z.desc = some ⟨ps, rt⟩) (hlen : argsL.length = ps.length)
    (hst : st = argsL.reverse ++ rest) (hent : Jvm.Sym.laidSlots argsL ++ List.replicate (ml' - (Jvm.Sym.laidSlots argsL).length) .unset = Lc.toList) (hW : (rest.map fun v => v.category).sum ≤ W) (hfr : rm.frames + 1 ≤ R.frames) (hlo : W + (ml' + 11) + rm.locals ≤ R.locals) (hce' : cells + rm.cells ≤ R.cells) (hsl' : slots + rm.slots ≤ R.slots) (hsz : Ls.size = ml) (hd : decode bytes pc = .ok (.invokestatic idx, 3)) (hp : pc + 3 = pc') (k : ∀ v h', Qc v h' → own_W l Z y bytes ml ret R n0 Q h' (cells + rm.cells) (slots + rm.slots) pc' Ls (v.toList ++ rest)) : own_W l Z y bytes ml ret R n0 Q h cells slots pc Ls st := by
  intro p e s m args below meth c T locs hx hZ hown hby hml hret hlk hnm hce hsl X eT N
  subst hp
  obtain ⟨v, vm₁, ⟨T1, L1, k1, n1⟩, -, X1, ⟨Lc1, hQ1, l1, y1, z1⟩, st1⟩ := Jvm.LawKit.callS X hx (y := z) hown (mvT hZ w1) (mvT hZ w2) (mvT hZ w3) (mvT hZ w4) hy (backOf (W := W) (Q := fun v h L => Qc v h ∧ Fr n0 L) (own_met hC pn hent []) hZ w4 w3 hfr hlo) (g := mkF m pc Ls st) rfl (by rw [hml]; exact hsz) (argsL := argsL) (rest := rest) (lenOf pd hlen) hst (by show 2 * 0 + _ ≤ _; omega) (hb hby hd) (fun _ _ => ⟨rfl, eT, hce', hsl'⟩)
  dsimp only [Pt.U, Pt.locs, Pt.cells, Pt.slots] at X1 l1 y1 z1 st1 hQ1
  subst l1 y1 z1
  obtain ⟨s₂, o, h1, h2⟩ := k v T1.heap hQ1.1 p e s m args below meth c T1 _ hx hZ hown hby hml hret hlk hnm hce' hsl' X1 rfl (Fr.app N hQ1.2)
  exact ⟨s₂, o, st1 _ h1, h2⟩
theorem own_special {z : MethodName} {bytes' : ByteArray} {ml' : Nat} {ret' : Option FieldType} {rm : Room} {Qc : Option Value → Heap → Prop} {Lc : Array Slot} {argsL rest : List Value} {ps : List FieldType} {rt : Option FieldType} {idx W : Nat} {a : Addr} (hC : own_W l Z z bytes' ml' none rm n0 Qc h 0 0 0 Lc []) (w1 : (Jvm.Cond.methodLink y.cls idx z).before a0 Z = true) (w2 : (Jvm.Cond.instanceMethod z).before a0 Z = true) (w3 : (Jvm.Cond.initialized z.cls).before a0 Z = true) (w4 : (Jvm.Cond.code z bytes' ml' none).before a0 Z = true) (hzn : z.name = "<init>") (pn : plainFor z = true) (hy : z.cls ≠ "java/lang/invoke/MethodHandle" ∧ z.cls ≠ "java/lang/invoke/VarHandle") (pd : parseMethodDescriptor z.desc = some ⟨ps, rt⟩) (hlen : argsL.length = ps.length)
    (hst : st = argsL.reverse ++ .ref a :: rest) (hent : Jvm.Sym.laidSlots (.ref a :: argsL) ++ List.replicate (ml' - (Jvm.Sym.laidSlots (.ref a :: argsL)).length) .unset = Lc.toList) (hW : (rest.map fun v => v.category).sum ≤ W) (hfr : rm.frames + 1 ≤ R.frames) (hlo : W + (ml' + 11) + rm.locals ≤ R.locals) (hce' : cells + rm.cells ≤ R.cells) (hsl' : slots + rm.slots ≤ R.slots) (hsz : Ls.size = ml) (hd : decode bytes pc = .ok (.invokespecial idx, 3)) (hp : pc + 3 = pc') (k : ∀ v h', Qc v h' → own_W l Z y bytes ml ret R n0 Q h' (cells + rm.cells) (slots + rm.slots) pc' Ls (v.toList ++ rest)) : own_W l Z y bytes ml ret R n0 Q h cells slots pc Ls st := by
  intro p e s m args below meth c T locs hx hZ hown hby hml hret hlk hnm hce hsl X eT N
  subst hp
  obtain ⟨v, vm₁, ⟨T1, L1, k1, n1⟩, -, X1, ⟨Lc1, hQ1, l1, y1, z1⟩, st1⟩ := X.specialBack hx (y := z) hzn hown (mvT hZ w1) (mvT hZ w2) (mvT hZ w4) hy (backOf (W := W) (Q := fun v h L => Qc v h ∧ Fr n0 L) (own_met hC pn hent []) hZ w4 w3 hfr hlo) (g := mkF m pc Ls st) rfl (by rw [hml]; exact hsz) (Steps.refl _) (a := a) (argsL := argsL) (rest := rest) (lenOf pd hlen) hst (by show 2 * 0 + _ ≤ _; omega) (hb hby hd) (fun _ _ => ⟨rfl, eT, hce', hsl'⟩)
  dsimp only [Pt.U, Pt.locs, Pt.cells, Pt.slots] at X1 l1 y1 z1 st1 hQ1
  subst l1 y1 z1
  obtain ⟨s₂, o, h1, h2⟩ := k v T1.heap hQ1.1 p e s m args below meth c T1 _ hx hZ hown hby hml hret hlk hnm hce' hsl' X1 rfl (Fr.app N hQ1.2)
  exact ⟨s₂, o, st1.trans h1, h2⟩
theorem own_virtual {z : MethodName} {bytes' : ByteArray} {ml' : Nat} {ret' : Option FieldType} {rm : Room} {Qc : Option Value → Heap → Prop} {Lc : Array Slot} {argsL rest : List Value} {ps : List FieldType} {rt : Option FieldType} {idx W : Nat} {a : Addr} {C : String} (hC : own_W l Z z bytes' ml' ret' rm n0 Qc h 0 0 0 Lc []) (E : Exa Z h a C) (w1 : (Jvm.Cond.methodLink y.cls idx z).before a0 Z = true) (w2 : (Jvm.Cond.declares z).before a0 Z = true) (w5 : (Jvm.Cond.selects C z z).before a0 Z = true) (w6 : (Jvm.Cond.instanceMethod z).before a0 Z = true) (w3 : (Jvm.Cond.initialized z.cls).before a0 Z = true) (w4 : (Jvm.Cond.code z bytes' ml' ret').before a0 Z = true) (pn : plainFor z = true) (hy : z.cls ≠ "java/lang/invoke/MethodHandle" ∧ z.cls ≠ "java/lang/invoke/VarHandle") (pd : parseMethodDescriptor z.desc = some ⟨ps, rt⟩) (hlen : argsL.length = ps.length)
    (hst : st = argsL.reverse ++ .ref a :: rest) (hent : Jvm.Sym.laidSlots (.ref a :: argsL) ++ List.replicate (ml' - (Jvm.Sym.laidSlots (.ref a :: argsL)).length) .unset = Lc.toList) (hW : (rest.map fun v => v.category).sum ≤ W) (hfr : rm.frames + 1 ≤ R.frames) (hlo : W + (ml' + 11) + rm.locals ≤ R.locals) (hce' : cells + rm.cells ≤ R.cells) (hsl' : slots + rm.slots ≤ R.slots) (hsz : Ls.size = ml) (hd : decode bytes pc = .ok (.invokevirtual idx, 3)) (hp : pc + 3 = pc') (k : ∀ v h', Qc v h' → own_W l Z y bytes ml ret R n0 Q h' (cells + rm.cells) (slots + rm.slots) pc' Ls (v.toList ++ rest)) : own_W l Z y bytes ml ret R n0 Q h cells slots pc Ls st := by
  intro p e s m args below meth c T locs hx hZ hown hby hml hret hlk hnm hce hsl X eT N
  subst hp
  obtain ⟨cq, kq, qa, qb, qc⟩ := isOf hZ eT E
  obtain ⟨v, vm₁, ⟨T1, L1, k1, n1⟩, -, X1, ⟨Lc1, hQ1, l1, y1, z1⟩, st1⟩ := X.virtualBack hx (y := z) (z := z) hown (mvT hZ w1) (mvT hZ w2) (notFace_of_selects (args := #[]) (mvT hZ w5)) (mvT hZ w5) (mvT hZ w6) hy (backOf (W := W) (Q := fun v h L => Qc v h ∧ Fr n0 L) (own_met hC pn hent []) hZ w4 w3 hfr hlo) qa qc (g := mkF m pc Ls st) rfl (by rw [hml]; exact hsz) (Steps.refl _) (argsL := argsL) (rest := rest) (lenOf pd hlen) hst (by show 2 * 0 + _ ≤ _; omega) (hb hby hd) (fun _ _ => ⟨rfl, eT, hce', hsl'⟩)
  dsimp only [Pt.U, Pt.locs, Pt.cells, Pt.slots] at X1 l1 y1 z1 st1 hQ1
  subst l1 y1 z1
  obtain ⟨s₂, o, h1, h2⟩ := k v T1.heap hQ1.1 p e s m args below meth c T1 _ hx hZ hown hby hml hret hlk hnm hce' hsl' X1 rfl (Fr.app N hQ1.2)
  exact ⟨s₂, o, st1.trans h1, h2⟩
theorem own_private {z : MethodName} {bytes' : ByteArray} {ml' : Nat} {ret' : Option FieldType} {rm : Room} {Qc : Option Value → Heap → Prop} {Lc : Array Slot} {argsL rest : List Value} {ps : List FieldType} {rt : Option FieldType} {idx W : Nat} {a : Addr} {C : String} {kk : Nat} (hC : own_W l Z z bytes' ml' ret' rm n0 Qc h 0 0 0 Lc []) (E : Exa Z h a C) (w1 : (Jvm.Cond.methodLink y.cls idx z).before a0 Z = true) (w6 : (Jvm.Cond.instanceMethod z).before a0 Z = true) (wp : (Jvm.Cond.privateMethod z).before a0 Z = true) (wi : (Jvm.Cond.instantiable z.cls kk).before a0 Z = true) (w3 : (Jvm.Cond.initialized z.cls).before a0 Z = true) (w4 : (Jvm.Cond.code z bytes' ml' ret').before a0 Z = true) (pn : plainFor z = true) (hy : z.cls ≠ "java/lang/invoke/MethodHandle" ∧ z.cls ≠ "java/lang/invoke/VarHandle") (pd : parseMethodDescriptor z.desc = some ⟨ps, rt⟩) (hlen : argsL.length = ps.length)
    (hst : st = argsL.reverse ++ .ref a :: rest) (hent : Jvm.Sym.laidSlots (.ref a :: argsL) ++ List.replicate (ml' - (Jvm.Sym.laidSlots (.ref a :: argsL)).length) .unset = Lc.toList) (hW : (rest.map fun v => v.category).sum ≤ W) (hfr : rm.frames + 1 ≤ R.frames) (hlo : W + (ml' + 11) + rm.locals ≤ R.locals) (hce' : cells + rm.cells ≤ R.cells) (hsl' : slots + rm.slots ≤ R.slots) (hsz : Ls.size = ml) (hd : decode bytes pc = .ok (.invokevirtual idx, 3)) (hp : pc + 3 = pc') (k : ∀ v h', Qc v h' → own_W l Z y bytes ml ret R n0 Q h' (cells + rm.cells) (slots + rm.slots) pc' Ls (v.toList ++ rest)) : own_W l Z y bytes ml ret R n0 Q h cells slots pc Ls st := by
  intro p e s m args below meth c T locs hx hZ hown hby hml hret hlk hnm hce hsl X eT N
  subst hp
  obtain ⟨c2, k2, i1, i2, i3, i4, -⟩ := Cond.instantiable_spec (mvT (args := args) hZ wi)
  have hpr := Cond.privateMethod_at (mvP (args := #[]) hZ wp)
  have hsel := Jvm.Stand.selects_self_of_private (args := args) i1 i2 (Bool.or_eq_false_iff.mp i4).1 hpr (mvT hZ w6) hy
  obtain ⟨cell, qc, qo⟩ := E.cell
  obtain ⟨v, vm₁, ⟨T1, L1, k1, n1⟩, -, X1, ⟨Lc1, hQ1, l1, y1, z1⟩, st1⟩ := X.privateBack hx (y := z) hown (mvT hZ w1) (mvT hZ w6) hsel hpr (mvT hZ w4) hy (backOf (W := W) (Q := fun v h L => Qc v h ∧ Fr n0 L) (own_met hC pn hent []) hZ w4 w3 hfr hlo) (g := mkF m pc Ls st) rfl (by rw [hml]; exact hsz) (Steps.refl _) (a := a) (by rw [eT]; exact qc) qo (argsL := argsL) (rest := rest) (lenOf pd hlen) hst (by show 2 * 0 + _ ≤ _; omega) (hb hby hd) (fun _ _ => ⟨rfl, eT, hce', hsl'⟩)
  dsimp only [Pt.U, Pt.locs, Pt.cells, Pt.slots] at X1 l1 y1 z1 st1 hQ1
  subst l1 y1 z1
  obtain ⟨s₂, o, h1, h2⟩ := k v T1.heap hQ1.1 p e s m args below meth c T1 _ hx hZ hown hby hml hret hlk hnm hce' hsl' X1 rfl (Fr.app N hQ1.2)
  exact ⟨s₂, o, st1.trans h1, h2⟩
theorem own_refBack {p : Program} {e : Env} {s : State} {m : MethodId} {args : Array Value} {below : List Frame} {meth : Method} {c : Code} {T : State} {locs : List Loc} (X : Stand p l e R s m args below meth c T locs cells slots) (hexec : p.tables.exec = Jvm.exec) (hZ : Z.Warmed39 s.vm) {own : String} {index : Nat} {z : MethodName} (hzn : z.name = "<init>")
    (hown : s.vm.findClass own = some m.cls) (w1 : (Jvm.Cond.methodRef own index z).before a0 Z = true) (w2 : (Jvm.Cond.instanceMethod z).before a0 Z = true) {bytes' : ByteArray} {maxL : Nat} (w4 : (Jvm.Cond.code z bytes' maxL none).before a0 Z = true)
    (hy : z.cls ≠ "java/lang/invoke/MethodHandle" ∧ z.cls ≠ "java/lang/invoke/VarHandle") {W : Nat} {Pre : Pt → Array Value → Prop} {Post : Pt → Array Value → Option Value → Pt → Prop} (hK : Back l R p e below s args z 3 W Pre Post)
    {g : JFrame} (hg : g.method = m) (hsize : g.locals.size = c.maxLocals) {a : Addr} {argsL rest : List Value} (hlen : ∀ sig, parseMethodDescriptor z.desc = some sig → argsL.length = sig.parameters.length) (hstack : g.stack = argsL.reverse ++ .ref a :: rest) (hW : 2 * g.monitorRoom + (rest.map fun v => v.category).sum ≤ W)
    (hdg : decode c.code g.pc = .ok (.invokespecial index, 3)) (hpre : Pre ⟨T, locs, cells, slots⟩ (.ref a :: argsL).toArray) :
    ∃ (v : Option Value) (B : Pt), Stand p l e R s m args below meth c B.U B.locs B.cells B.slots ∧ Post ⟨T, locs, cells, slots⟩ (.ref a :: argsL).toArray v B ∧ Steps p.tables e below (T.setTop g) (B.U.setTop { g with pc := g.pc + 3, stack := v.toList ++ rest }) := by
  obtain ⟨obj, methO, hnO, hmO, hstO, habO⟩ := Cond.instanceMethod_spec (mvT (args := args) hZ w2)
  obtain ⟨methO', cO, hmO', hcO, -, -, -, -, -, hsigO⟩ := Cond.code_spec hnO (mvT (args := args) hZ w4)
  cases hmO.symm.trans hmO'
  obtain ⟨kO, hkO, hnameO⟩ := className_of_methodNamed hnO
  obtain ⟨hnameMO, hdescO⟩ := name_of_methodNamed hnO hmO
  have hU : Z.Warmed39 T.vm := wtrans hZ X.warmed
  obtain ⟨objZ, methZ, hnZ, -⟩ := Cond.instanceMethod_spec w2
  have hT := Cond.methodRef_warmed39 hU hnZ hy w1
  have hownT : (Z.setVm T.vm).vm.findClass own = some m.cls := by show T.vm.findClass own = _; rw [X.warmed.alike.findClass]; exact hown
  obtain ⟨m', c', f1, f2, f3, f4⟩ := Cond.methodRef_named (s := Z.setVm T.vm) e hownT hT
  have hnT : T.methodNamed? z = some obj := X.named hnO
  have hn' : (Z.setVm T.vm).methodNamed? z = some obj := hnT
  cases (State.methodFound?_of_named hn' hy).symm.trans f1
  cases (findClass_of_methodNamed hn').symm.trans f3
  obtain ⟨kO', hkT, -⟩ := X.warmed.alike.2.2 _ _ hkO
  have hmT : T.vm.method? obj = some methO := by rw [X.warmed.alike.method?]; exact hmO
  have hfound : lookupSpecial T.vm obj.cls "<init>" methO.desc = .method obj := by rw [hdescO, ← hzn]; exact lookupSpecial_of_named hnT hmT hstO
  have hstep : ∀ target, (∀ acts, Steps p.tables e below (doInvoke e (T.setTop { g with stack := rest }) acts obj (.ref a :: argsL).toArray).1 target) → Steps p.tables e below (T.setTop g) target := by
    intro target hrest
    subst hg
    jvm_step X.here [hexec, hdg, invokespecial.wp_init (e := e) (s := T) (k := kO') (meth := methO) (m := obj) (a := a) (args := argsL) (rest := rest) (f := g) X.here.top f4 f2 hkT hmT (by rw [hnameMO]; exact hzn) hstO habO hfound (hlen _ hsigO) hstack]
    exact hrest
  obtain ⟨v, B, X', hpost, hsteps⟩ := hK m meth c ⟨T, locs, cells, slots⟩ { g with stack := rest } (.invokespecial index) obj (.ref a :: argsL).toArray X hg hsize hdg hW hnT hpre
  exact ⟨v, B, X', hpost, hstep _ fun acts => by rw [doInvoke_state]; exact hsteps⟩
theorem own_specialRef {z : MethodName} {bytes' : ByteArray} {ml' : Nat} {ret' : Option FieldType} {rm : Room} {Qc : Option Value → Heap → Prop} {Lc : Array Slot} {argsL rest : List Value} {ps : List FieldType} {rt : Option FieldType} {idx W : Nat} {a : Addr} (hC : own_W l Z z bytes' ml' none rm n0 Qc h 0 0 0 Lc []) (w1 : (Jvm.Cond.methodRef y.cls idx z).before a0 Z = true) (w2 : (Jvm.Cond.instanceMethod z).before a0 Z = true) (w3 : (Jvm.Cond.initialized z.cls).before a0 Z = true) (w4 : (Jvm.Cond.code z bytes' ml' none).before a0 Z = true) (hzn : z.name = "<init>") (pn : plainFor z = true) (hy : z.cls ≠ "java/lang/invoke/MethodHandle" ∧ z.cls ≠ "java/lang/invoke/VarHandle") (pd : parseMethodDescriptor z.desc = some ⟨ps, rt⟩) (hlen : argsL.length = ps.length)
    (hst : st = argsL.reverse ++ .ref a :: rest) (hent : Jvm.Sym.laidSlots (.ref a :: argsL) ++ List.replicate (ml' - (Jvm.Sym.laidSlots (.ref a :: argsL)).length) .unset = Lc.toList) (hW : (rest.map fun v => v.category).sum ≤ W) (hfr : rm.frames + 1 ≤ R.frames) (hlo : W + (ml' + 11) + rm.locals ≤ R.locals) (hce' : cells + rm.cells ≤ R.cells) (hsl' : slots + rm.slots ≤ R.slots) (hsz : Ls.size = ml) (hd : decode bytes pc = .ok (.invokespecial idx, 3)) (hp : pc + 3 = pc') (k : ∀ v h', Qc v h' → own_W l Z y bytes ml ret R n0 Q h' (cells + rm.cells) (slots + rm.slots) pc' Ls (v.toList ++ rest)) : own_W l Z y bytes ml ret R n0 Q h cells slots pc Ls st := by
  intro p e s m args below meth c T locs hx hZ hown hby hml hret hlk hnm hce hsl X eT N
  subst hp
  obtain ⟨v, ⟨T1, L1, k1, n1⟩, X1, ⟨Lc1, hQ1, l1, y1, z1⟩, st1⟩ := own_refBack X hx hZ hzn hown w1 w2 w4 hy (backOf (W := W) (Q := fun v h L => Qc v h ∧ Fr n0 L) (own_met hC pn hent []) hZ w4 w3 hfr hlo) (g := mkF m pc Ls st) rfl (by rw [hml]; exact hsz) (a := a) (argsL := argsL) (rest := rest) (lenOf pd hlen) hst (by show 2 * 0 + _ ≤ _; omega) (hb hby hd) ⟨rfl, eT, hce', hsl'⟩
  dsimp only [Pt.U, Pt.locs, Pt.cells, Pt.slots] at X1 l1 y1 z1 st1 hQ1
  subst l1 y1 z1
  obtain ⟨s₂, o, h1, h2⟩ := k v T1.heap hQ1.1 p e s m args below meth c T1 _ hx hZ hown hby hml hret hlk hnm hce' hsl' X1 rfl (Fr.app N hQ1.2)
  exact ⟨s₂, o, st1.trans h1, h2⟩
end OwnW
-- LAYER END
theorem d1_0 : decode prog_13_method_1_code 0 = .ok (.aload_n 0, 1) := by decide +kernel
theorem d1_1 : decode prog_13_method_1_code 1 = .ok (.invokespecial 1, 3) := by decide +kernel
theorem d1_4 : decode prog_13_method_1_code 4 = .ok (.lload_n 2, 1) := by decide +kernel
theorem d1_5 : decode prog_13_method_1_code 5 = .ok (.lconst 0, 1) := by decide +kernel
theorem d1_6 : decode prog_13_method_1_code 6 = .ok (.lcmp, 1) := by decide +kernel
theorem d1_7 : decode prog_13_method_1_code 7 = .ok (.ifCond .ge 13, 3) := by decide +kernel
theorem d1_10 : decode prog_13_method_1_code 10 = .ok (.new 7, 3) := by decide +kernel
theorem d1_13 : decode prog_13_method_1_code 13 = .ok (.dup, 1) := by decide +kernel
theorem d1_14 : decode prog_13_method_1_code 14 = .ok (.ldc 9, 2) := by decide +kernel
theorem d1_16 : decode prog_13_method_1_code 16 = .ok (.invokespecial 11, 3) := by decide +kernel
theorem d1_19 : decode prog_13_method_1_code 19 = .ok (.athrow, 1) := by decide +kernel
theorem d1_20 : decode prog_13_method_1_code 20 = .ok (.aload_n 0, 1) := by decide +kernel
theorem d1_21 : decode prog_13_method_1_code 21 = .ok (.iload_n 1, 1) := by decide +kernel
theorem d1_22 : decode prog_13_method_1_code 22 = .ok (.putfield 14, 3) := by decide +kernel
theorem d1_25 : decode prog_13_method_1_code 25 = .ok (.aload_n 0, 1) := by decide +kernel
theorem d1_26 : decode prog_13_method_1_code 26 = .ok (.lload_n 2, 1) := by decide +kernel
theorem d1_27 : decode prog_13_method_1_code 27 = .ok (.putfield 20, 3) := by decide +kernel
theorem d1_30 : decode prog_13_method_1_code 30 = .ok (.return_, 1) := by decide +kernel
theorem d2_0 : decode jdk_30_method_1_code 0 = .ok (.aload_n 0, 1) := by decide +kernel
theorem d2_1 : decode jdk_30_method_1_code 1 = .ok (.invokespecial 1, 3) := by decide +kernel
theorem d2_4 : decode jdk_30_method_1_code 4 = .ok (.return_, 1) := by decide +kernel
theorem d3_0 : decode object_method_1_code 0 = .ok (.return_, 1) := by decide +kernel
theorem d4_0 : decode prog_13_method_5_code 0 = .ok (.aload_n 0, 1) := by decide +kernel
theorem d4_1 : decode prog_13_method_5_code 1 = .ok (.getfield 14, 3) := by decide +kernel
theorem d4_4 : decode prog_13_method_5_code 4 = .ok (.ifCond .eq 16, 3) := by decide +kernel
theorem d4_7 : decode prog_13_method_5_code 7 = .ok (.aload_n 0, 1) := by decide +kernel
theorem d4_8 : decode prog_13_method_5_code 8 = .ok (.getfield 20, 3) := by decide +kernel
theorem d4_11 : decode prog_13_method_5_code 11 = .ok (.lconst 0, 1) := by decide +kernel
theorem d4_12 : decode prog_13_method_5_code 12 = .ok (.lcmp, 1) := by decide +kernel
theorem d4_13 : decode prog_13_method_5_code 13 = .ok (.ifCond .le 7, 3) := by decide +kernel
theorem d4_16 : decode prog_13_method_5_code 16 = .ok (.iconst 1, 1) := by decide +kernel
theorem d4_17 : decode prog_13_method_5_code 17 = .ok (.goto 4, 3) := by decide +kernel
theorem d4_20 : decode prog_13_method_5_code 20 = .ok (.iconst 0, 1) := by decide +kernel
theorem d4_21 : decode prog_13_method_5_code 21 = .ok (.ireturn, 1) := by decide +kernel
theorem d5_0 : decode prog_13_method_4_code 0 = .ok (.aload_n 0, 1) := by decide +kernel
theorem d5_1 : decode prog_13_method_4_code 1 = .ok (.getfield 14, 3) := by decide +kernel
theorem d5_4 : decode prog_13_method_4_code 4 = .ok (.ifCond .eq 16, 3) := by decide +kernel
theorem d5_7 : decode prog_13_method_4_code 7 = .ok (.aload_n 0, 1) := by decide +kernel
theorem d5_8 : decode prog_13_method_4_code 8 = .ok (.getfield 20, 3) := by decide +kernel
theorem d5_11 : decode prog_13_method_4_code 11 = .ok (.lconst 0, 1) := by decide +kernel
theorem d5_12 : decode prog_13_method_4_code 12 = .ok (.lcmp, 1) := by decide +kernel
theorem d5_13 : decode prog_13_method_4_code 13 = .ok (.ifCond .ne 7, 3) := by decide +kernel
theorem d5_16 : decode prog_13_method_4_code 16 = .ok (.iconst 1, 1) := by decide +kernel
theorem d5_17 : decode prog_13_method_4_code 17 = .ok (.goto 4, 3) := by decide +kernel
theorem d5_20 : decode prog_13_method_4_code 20 = .ok (.iconst 0, 1) := by decide +kernel
theorem d5_21 : decode prog_13_method_4_code 21 = .ok (.ireturn, 1) := by decide +kernel
theorem d6_0 : decode prog_13_method_2_code 0 = .ok (.new 15, 3) := by decide +kernel
theorem d6_3 : decode prog_13_method_2_code 3 = .ok (.dup, 1) := by decide +kernel
theorem d6_4 : decode prog_13_method_2_code 4 = .ok (.iconst 1, 1) := by decide +kernel
theorem d6_5 : decode prog_13_method_2_code 5 = .ok (.lload_n 0, 1) := by decide +kernel
theorem d6_6 : decode prog_13_method_2_code 6 = .ok (.invokespecial 24, 3) := by decide +kernel
theorem d6_9 : decode prog_13_method_2_code 9 = .ok (.areturn, 1) := by decide +kernel
theorem own_pn0 : plainName "com/example/moorgate/moorgate/binlog/SyncPolicyPeriodicPinLaw" = true := by decide +kernel
theorem own_pn1 : plainName "com/example/moorgate/moorgate/binlog/SyncPolicy" = true := by decide +kernel
theorem own_pn2 : plainName "java/lang/Record" = true := by decide +kernel
theorem own_pd0 : parseMethodDescriptor "(IJ)Z" = some ⟨[.int, .long], (some .boolean)⟩ := by decide +kernel
theorem own_pd1 : parseMethodDescriptor "(ZJ)V" = some ⟨[.boolean, .long], none⟩ := by decide +kernel
theorem own_pd2 : parseMethodDescriptor "()V" = some ⟨[], none⟩ := by decide +kernel
theorem own_pd3 : parseMethodDescriptor "()Z" = some ⟨[], (some .boolean)⟩ := by decide +kernel
theorem own_pd4 : parseMethodDescriptor "(J)Lcom/example/moorgate/moorgate/binlog/SyncPolicy;" = some ⟨[.long], (some (.object "com/example/moorgate/moorgate/binlog/SyncPolicy"))⟩ := by decide +kernel
def own_aew (z : Int32) (m : Int64) : Int32 := if z = 0 then 0 else if ¬ m = 0 then 0 else 1
def own_per (z : Int32) (m : Int64) : Int32 := if z = 0 then 0 else if ¬ 0 < m then 0 else 1
theorem own_pos {m : Int64} (h : ¬ m < 0) (h1 : ¬ m = 0) : 0 < m := by
  rw [Int64.lt_iff_toInt_lt] at *
  rw [← Int64.toInt_inj] at h1
  have z : (0 : Int64).toInt = 0 := rfl
  omega
theorem own_mask (u : Int64) : ¬ (u &&& 9223372036854775807) < 0 := by
  have e := c_maskL u 9223372036854775807 63 (by decide) (by decide)
  rw [Int64.lt_iff_toInt_lt, e]
  have z : (0 : Int64).toInt = 0 := rfl
  omega
theorem own_mask1 (u : Int64) : ¬ (u &&& 1) < 0 := by
  have e := c_maskL u 1 1 (by decide) (by decide)
  rw [Int64.lt_iff_toInt_lt, e]
  have z : (0 : Int64).toInt = 0 := rfl
  omega
set_option maxRecDepth 65536 in
set_option maxHeartbeats 40000000 in
theorem own_rec (l : Launch) (Z : State) (a0 : Array Value) (hw : ∀ d ∈ tables_1, d.before a0 Z = true) (a : Addr) (h0 : Heap) (n0 : Nat) (hn0 : n0 ≤ h0.size) :
    own_W l Z (⟨"java/lang/Record", "<init>", "()V"⟩ : MethodName) jdk_30_method_1_code 1 none ({ frames := 1, cells := 0, slots := 0, locals := 12 } : Room) n0 (fun v h => v = none ∧ h0 = h) h0 0 0 0 #[.val (.ref a)] [] := by
  refine own_aloadN (pc' := 1) d2_0 rfl rfl ?_
  refine own_initO (pc' := 4) (W := 0) (hw _ (List.mem_of_getElem? (i := 11) rfl)) (hw _ (List.mem_of_getElem? (i := 12) rfl)) (hw _ (List.mem_of_getElem? (i := 13) rfl)) d2_1 rfl rfl (by decide) (Nat.le_refl _) (by decide) ?_
  exact own_ret rfl d2_4 ⟨rfl, rfl⟩
set_option maxRecDepth 65536 in
set_option maxHeartbeats 40000000 in
theorem own_mk (l : Launch) (Z : State) (a0 : Array Value) (hw : ∀ d ∈ tables_1, d.before a0 Z = true) (a : Addr) (z : Int32) (m : Int64) (h0 : Heap) (n0 : Nat) (hn0 : n0 ≤ h0.size) (hz : z = 0 ∨ z = 1) (hm : ¬ m < 0) (ge_a : n0 ≤ a) (E_a : Exa Z h0 a "com/example/moorgate/moorgate/binlog/SyncPolicy") (F_a_syncs : Fld Z h0 a "com/example/moorgate/moorgate/binlog/SyncPolicy" "syncs" "Z" (.int 0)) (F_a_intervalMillis : Fld Z h0 a "com/example/moorgate/moorgate/binlog/SyncPolicy" "intervalMillis" "J" (.long 0)) :
    own_W l Z (⟨"com/example/moorgate/moorgate/binlog/SyncPolicy", "<init>", "(ZJ)V"⟩ : MethodName) prog_13_method_1_code 4 none ({ frames := 2, cells := 0, slots := 0, locals := 24 } : Room) n0 (fun v h => v = none ∧ Keep h0 h [a] ∧ Exa Z h a "com/example/moorgate/moorgate/binlog/SyncPolicy" ∧ Fld Z h a "com/example/moorgate/moorgate/binlog/SyncPolicy" "syncs" "Z" (.int z) ∧ Fld Z h a "com/example/moorgate/moorgate/binlog/SyncPolicy" "intervalMillis" "J" (.long m)) h0 0 0 0 #[.val (.ref a), .val (.int z), .val (.long m), .second] [] := by
  refine own_aloadN (pc' := 1) d1_0 rfl rfl ?_
  refine own_special (ret' := none) (own_rec l Z a0 hw a h0 n0 hn0) (hw _ (List.mem_of_getElem? (i := 6) rfl)) (hw _ (List.mem_of_getElem? (i := 7) rfl)) (hw _ (List.mem_of_getElem? (i := 9) rfl)) (hw _ (List.mem_of_getElem? (i := 10) rfl)) rfl (plainFor_of_name own_pn2) (by decide) own_pd2 rfl (argsL := []) (rest := []) rfl rfl (W := 0) (Nat.le_refl _) (by decide) (by decide) (by decide) (by decide) rfl d1_1 (pc' := 4) rfl (fun v_ h1 hq => ?_)
  obtain ⟨rfl, rfl⟩ := hq
  show own_W l Z (⟨"com/example/moorgate/moorgate/binlog/SyncPolicy", "<init>", "(ZJ)V"⟩ : MethodName) prog_13_method_1_code 4 none ({ frames := 2, cells := 0, slots := 0, locals := 24 } : Room) n0 (fun v h => v = none ∧ Keep h0 h [a] ∧ Exa Z h a "com/example/moorgate/moorgate/binlog/SyncPolicy" ∧ Fld Z h a "com/example/moorgate/moorgate/binlog/SyncPolicy" "syncs" "Z" (.int z) ∧ Fld Z h a "com/example/moorgate/moorgate/binlog/SyncPolicy" "intervalMillis" "J" (.long m)) h0 0 0 4 #[.val (.ref a), .val (.int z), .val (.long m), .second] []
  refine own_lloadN (pc' := 5) d1_4 rfl rfl ?_
  refine own_lconst (0 : Int64) (pc' := 6) d1_5 rfl rfl ?_
  refine own_lcmp (pc' := 7) d1_6 rfl ?_
  refine own_il_ge_t (pc' := 20) d1_7 hm (by decide) (by decide) ?_
  refine own_aloadN (pc' := 21) d1_20 rfl rfl ?_
  refine own_iloadN (pc' := 22) d1_21 rfl rfl ?_
  refine own_putF (pc' := 25) (hw _ (List.mem_of_getElem? (i := 14) rfl)) F_a_syncs E_a (Or.inr ⟨(hw _ (List.mem_of_getElem? (i := 15) rfl)), rfl, rfl⟩) (hw _ (List.mem_of_getElem? (i := 1) rfl)) ge_a (ty := .boolean) (by decide) (by rcases hz with rfl | rfl <;> rfl) (by rcases hz with rfl | rfl <;> rfl) d1_22 rfl (fun h2 Wr3 K4 => ?_)
  replace E_a := E_a.wr Wr3
  replace F_a_syncs := F_a_syncs.same Wr3
  replace F_a_intervalMillis := F_a_intervalMillis.other Wr3 (Or.inr (slot_ne (a0 := a0) (Or.inr (hw _ (List.mem_of_getElem? (i := 17) rfl))) (Or.inr (hw _ (List.mem_of_getElem? (i := 15) rfl))) (by decide) (t := .long) (by decide) (t' := .boolean) (by decide)))
  replace hn0 : n0 ≤ h2.size := Nat.le_trans hn0 K4.1
  refine own_aloadN (pc' := 26) d1_25 rfl rfl ?_
  refine own_lloadN (pc' := 27) d1_26 rfl rfl ?_
  refine own_putF (pc' := 30) (hw _ (List.mem_of_getElem? (i := 16) rfl)) F_a_intervalMillis E_a (Or.inr ⟨(hw _ (List.mem_of_getElem? (i := 17) rfl)), rfl, rfl⟩) (hw _ (List.mem_of_getElem? (i := 1) rfl)) ge_a (ty := .long) (by decide) rfl rfl d1_27 rfl (fun h5 Wr6 K7 => ?_)
  replace E_a := E_a.wr Wr6
  replace F_a_syncs := F_a_syncs.other Wr6 (Or.inr (slot_ne (a0 := a0) (Or.inr (hw _ (List.mem_of_getElem? (i := 15) rfl))) (Or.inr (hw _ (List.mem_of_getElem? (i := 17) rfl))) (by decide) (t := .boolean) (by decide) (t' := .long) (by decide)))
  replace F_a_intervalMillis := F_a_intervalMillis.same Wr6
  replace hn0 : n0 ≤ h5.size := Nat.le_trans hn0 K7.1
  exact own_ret rfl d1_30 ⟨rfl, (Keep.trans (ws := [a]) K4 K7 (fun x hx => Or.inl hx)), E_a, F_a_syncs, F_a_intervalMillis⟩
set_option maxRecDepth 65536 in
set_option maxHeartbeats 40000000 in
theorem own_aewW (l : Launch) (Z : State) (a0 : Array Value) (hw : ∀ d ∈ tables_1, d.before a0 Z = true) (a : Addr) (z : Int32) (m : Int64) (h0 : Heap) (n0 : Nat) (hn0 : n0 ≤ h0.size) (F_z : Fld Z h0 a "com/example/moorgate/moorgate/binlog/SyncPolicy" "syncs" "Z" (.int z)) (F_m : Fld Z h0 a "com/example/moorgate/moorgate/binlog/SyncPolicy" "intervalMillis" "J" (.long m)) :
    own_W l Z (⟨"com/example/moorgate/moorgate/binlog/SyncPolicy", "afterEachWrite", "()Z"⟩ : MethodName) prog_13_method_4_code 1 (some .boolean) ({ frames := 0, cells := 0, slots := 0, locals := 0 } : Room) n0 (fun v h => v = some (.int (own_aew z m)) ∧ h0 = h) h0 0 0 0 #[.val (.ref a)] [] := by
  refine own_aloadN (pc' := 1) d5_0 rfl rfl ?_
  refine own_getF (pc' := 4) (hw _ (List.mem_of_getElem? (i := 14) rfl)) F_z d5_1 rfl ?_
  refine own_if_eq (pc' := 20) (pf := 7) d5_4 (by decide) (by decide) rfl (fun h_4 => ?_) (fun h_4 => ?_)
  · refine own_iconst (0 : Int32) (pc' := 21) d5_20 rfl rfl ?_
    exact own_bret (v := (0 : Int32)) rfl (by first | rfl | decide | assumption) d5_21 ⟨by first | contradiction | (simp only [own_aew, *, ↓reduceIte]; done) | (simp [own_aew, *]; done) | (simp_all [own_aew]; done), rfl⟩
  · refine own_aloadN (pc' := 8) d5_7 rfl rfl ?_
    refine own_getF (pc' := 11) (hw _ (List.mem_of_getElem? (i := 16) rfl)) F_m d5_8 rfl ?_
    refine own_lconst (0 : Int64) (pc' := 12) d5_11 rfl rfl ?_
    refine own_lcmp (pc' := 13) d5_12 rfl ?_
    refine own_il_ne (pc' := 20) (pf := 16) d5_13 (by decide) (by decide) rfl (fun h_13 => ?_) (fun h_13 => ?_)
    · refine own_iconst (0 : Int32) (pc' := 21) d5_20 rfl rfl ?_
      exact own_bret (v := (0 : Int32)) rfl (by first | rfl | decide | assumption) d5_21 ⟨by first | contradiction | (simp only [own_aew, *, ↓reduceIte]; done) | (simp [own_aew, *]; done) | (simp_all [own_aew]; done), rfl⟩
    · refine own_iconst (1 : Int32) (pc' := 17) d5_16 rfl rfl ?_
      refine own_goto (pc' := 21) d5_17 (by decide) (by decide) ?_
      exact own_bret (v := (1 : Int32)) rfl (by first | rfl | decide | assumption) d5_21 ⟨by first | contradiction | (simp only [own_aew, *, ↓reduceIte]; done) | (simp [own_aew, *]; done) | (simp_all [own_aew]; done), rfl⟩
set_option maxRecDepth 65536 in
set_option maxHeartbeats 40000000 in
theorem own_perW (l : Launch) (Z : State) (a0 : Array Value) (hw : ∀ d ∈ tables_1, d.before a0 Z = true) (a : Addr) (z : Int32) (m : Int64) (h0 : Heap) (n0 : Nat) (hn0 : n0 ≤ h0.size) (F_z : Fld Z h0 a "com/example/moorgate/moorgate/binlog/SyncPolicy" "syncs" "Z" (.int z)) (F_m : Fld Z h0 a "com/example/moorgate/moorgate/binlog/SyncPolicy" "intervalMillis" "J" (.long m)) :
    own_W l Z (⟨"com/example/moorgate/moorgate/binlog/SyncPolicy", "periodic", "()Z"⟩ : MethodName) prog_13_method_5_code 1 (some .boolean) ({ frames := 0, cells := 0, slots := 0, locals := 0 } : Room) n0 (fun v h => v = some (.int (own_per z m)) ∧ h0 = h) h0 0 0 0 #[.val (.ref a)] [] := by
  refine own_aloadN (pc' := 1) d4_0 rfl rfl ?_
  refine own_getF (pc' := 4) (hw _ (List.mem_of_getElem? (i := 14) rfl)) F_z d4_1 rfl ?_
  refine own_if_eq (pc' := 20) (pf := 7) d4_4 (by decide) (by decide) rfl (fun h_4 => ?_) (fun h_4 => ?_)
  · refine own_iconst (0 : Int32) (pc' := 21) d4_20 rfl rfl ?_
    exact own_bret (v := (0 : Int32)) rfl (by first | rfl | decide | assumption) d4_21 ⟨by first | contradiction | (simp only [own_per, *, ↓reduceIte]; done) | (simp [own_per, *]; done) | (simp_all [own_per]; done), rfl⟩
  · refine own_aloadN (pc' := 8) d4_7 rfl rfl ?_
    refine own_getF (pc' := 11) (hw _ (List.mem_of_getElem? (i := 16) rfl)) F_m d4_8 rfl ?_
    refine own_lconst (0 : Int64) (pc' := 12) d4_11 rfl rfl ?_
    refine own_lcmp (pc' := 13) d4_12 rfl ?_
    refine own_il_le (pc' := 20) (pf := 16) d4_13 (by decide) (by decide) rfl (fun h_13 => ?_) (fun h_13 => ?_)
    · refine own_iconst (0 : Int32) (pc' := 21) d4_20 rfl rfl ?_
      exact own_bret (v := (0 : Int32)) rfl (by first | rfl | decide | assumption) d4_21 ⟨by first | contradiction | (simp only [own_per, *, ↓reduceIte]; done) | (simp [own_per, *]; done) | (simp_all [own_per]; done), rfl⟩
    · refine own_iconst (1 : Int32) (pc' := 17) d4_16 rfl rfl ?_
      refine own_goto (pc' := 21) d4_17 (by decide) (by decide) ?_
      exact own_bret (v := (1 : Int32)) rfl (by first | rfl | decide | assumption) d4_21 ⟨by first | contradiction | (simp only [own_per, *, ↓reduceIte]; done) | (simp [own_per, *]; done) | (simp_all [own_per]; done), rfl⟩
set_option maxRecDepth 65536 in
set_option maxHeartbeats 40000000 in
theorem own_every (l : Launch) (Z : State) (a0 : Array Value) (hw : ∀ d ∈ tables_1, d.before a0 Z = true) (m : Int64) (h0 : Heap) (n0 : Nat) (hn0 : n0 ≤ h0.size) (hm : ¬ m < 0) :
    own_W l Z (⟨"com/example/moorgate/moorgate/binlog/SyncPolicy", "every", "(J)Lcom/example/moorgate/moorgate/binlog/SyncPolicy;"⟩ : MethodName) prog_13_method_2_code 2 (some (.object "com/example/moorgate/moorgate/binlog/SyncPolicy")) ({ frames := 3, cells := 1, slots := 2, locals := 40 } : Room) n0 (fun v h => ∃ e : Addr, v = some (.ref e) ∧ Keep h0 h [] ∧ h0.size ≤ e ∧ Exa Z h e "com/example/moorgate/moorgate/binlog/SyncPolicy" ∧ Fld Z h e "com/example/moorgate/moorgate/binlog/SyncPolicy" "syncs" "Z" (.int 1) ∧ Fld Z h e "com/example/moorgate/moorgate/binlog/SyncPolicy" "intervalMillis" "J" (.long m)) h0 0 0 0 #[.val (.long m), .second] [] := by
  refine own_new (pc' := 3) (hw _ (List.mem_of_getElem? (i := 31) rfl)) (hw _ (List.mem_of_getElem? (i := 1) rfl)) (hw _ (List.mem_of_getElem? (i := 2) rfl)) d6_0 rfl (by decide) (by decide) (fun h8 a gt_a lt_a E9 E_a D_a => ?_)
  have ge_a : n0 ≤ a := Nat.le_trans hn0 gt_a
  replace hn0 : n0 ≤ h8.size := Nat.le_trans hn0 E9.1
  have F_a_syncs : Fld Z h8 a "com/example/moorgate/moorgate/binlog/SyncPolicy" "syncs" "Z" (.int (0 : Int32)) := D_a (Or.inr (hw _ (List.mem_of_getElem? (i := 15) rfl))) (ty := .boolean) (by decide)
  have F_a_intervalMillis : Fld Z h8 a "com/example/moorgate/moorgate/binlog/SyncPolicy" "intervalMillis" "J" (.long (0 : Int64)) := D_a (Or.inr (hw _ (List.mem_of_getElem? (i := 17) rfl))) (ty := .long) (by decide)
  refine own_dup (pc' := 4) d6_3 rfl rfl ?_
  refine own_iconst (1 : Int32) (pc' := 5) d6_4 rfl rfl ?_
  refine own_lloadN (pc' := 6) d6_5 rfl rfl ?_
  refine own_special (ret' := none) (own_mk l Z a0 hw a 1 m h8 n0 hn0 (by decide) hm ge_a E_a F_a_syncs F_a_intervalMillis) (hw _ (List.mem_of_getElem? (i := 32) rfl)) (hw _ (List.mem_of_getElem? (i := 4) rfl)) (hw _ (List.mem_of_getElem? (i := 2) rfl)) (hw _ (List.mem_of_getElem? (i := 5) rfl)) rfl (plainFor_of_name own_pn1) (by decide) own_pd1 rfl (argsL := [.int (1 : Int32), .long m]) (rest := [.ref a]) rfl rfl (W := 1) (Nat.le_refl _) (by decide) (by decide) (by decide) (by decide) rfl d6_6 (pc' := 9) rfl (fun v_ h10 hq => ?_)
  obtain ⟨rfl, K_1, E_1, F_1, F_2⟩ := hq
  show own_W l Z (⟨"com/example/moorgate/moorgate/binlog/SyncPolicy", "every", "(J)Lcom/example/moorgate/moorgate/binlog/SyncPolicy;"⟩ : MethodName) prog_13_method_2_code 2 (some (.object "com/example/moorgate/moorgate/binlog/SyncPolicy")) ({ frames := 3, cells := 1, slots := 2, locals := 40 } : Room) n0 (fun v h => ∃ e : Addr, v = some (.ref e) ∧ Keep h0 h [] ∧ h0.size ≤ e ∧ Exa Z h e "com/example/moorgate/moorgate/binlog/SyncPolicy" ∧ Fld Z h e "com/example/moorgate/moorgate/binlog/SyncPolicy" "syncs" "Z" (.int 1) ∧ Fld Z h e "com/example/moorgate/moorgate/binlog/SyncPolicy" "intervalMillis" "J" (.long m)) h10 1 2 9 #[.val (.long m), .second] [.ref a]
  exact own_aret rfl rfl rfl d6_9 ⟨a, rfl, ((Keep.refl h0 []).ext E9).trans K_1 (allS (Or.inr gt_a) all0), gt_a, E_1, F_1, F_2⟩
set_option maxRecDepth 65536 in
set_option maxHeartbeats 40000000 in
theorem own_law_00 (l : Launch) (Z : State) (a0 : Array Value) (hw : ∀ d ∈ tables_1, d.before a0 Z = true) (x0 : Int32) (x1 m : Int64) (h0 : Heap) (n0 : Nat) (hn0 : n0 ≤ h0.size) (hm : ¬ m < 0) (hz : m = 0) :
    own_W l Z x code maxLocals ret room_1 n0 (fun v h => v = some (.int 1)) h0 0 0 33 #[.val (.int x0), .val (.long x1), .second, .val (.int (0 : Int32)), .val (.long m), .second, .unset, .unset, .unset, .unset, .unset] [] := by
  refine own_new (pc' := 36) (hw _ (List.mem_of_getElem? (i := 0) rfl)) (hw _ (List.mem_of_getElem? (i := 1) rfl)) (hw _ (List.mem_of_getElem? (i := 2) rfl)) at_33 rfl (by decide) (by decide) (fun h11 a gt_a lt_a E12 E_a D_a => ?_)
  have ge_a : n0 ≤ a := Nat.le_trans hn0 gt_a
  replace hn0 : n0 ≤ h11.size := Nat.le_trans hn0 E12.1
  have F_a_syncs : Fld Z h11 a "com/example/moorgate/moorgate/binlog/SyncPolicy" "syncs" "Z" (.int (0 : Int32)) := D_a (Or.inr (hw _ (List.mem_of_getElem? (i := 15) rfl))) (ty := .boolean) (by decide)
  have F_a_intervalMillis : Fld Z h11 a "com/example/moorgate/moorgate/binlog/SyncPolicy" "intervalMillis" "J" (.long (0 : Int64)) := D_a (Or.inr (hw _ (List.mem_of_getElem? (i := 17) rfl))) (ty := .long) (by decide)
  refine own_dup (pc' := 37) at_36 rfl rfl ?_
  refine own_iloadN (pc' := 38) at_37 rfl rfl ?_
  refine own_lload (pc' := 40) at_38 rfl rfl ?_
  refine own_special (ret' := none) (own_mk l Z a0 hw a (0 : Int32) m h11 n0 hn0 (by decide) hm ge_a E_a F_a_syncs F_a_intervalMillis) (hw _ (List.mem_of_getElem? (i := 3) rfl)) (hw _ (List.mem_of_getElem? (i := 4) rfl)) (hw _ (List.mem_of_getElem? (i := 2) rfl)) (hw _ (List.mem_of_getElem? (i := 5) rfl)) rfl (plainFor_of_name own_pn1) (by decide) own_pd1 rfl (argsL := [.int (0 : Int32), .long m]) (rest := [.ref a]) rfl rfl (W := 1) (Nat.le_refl _) (by decide) (by decide) (by decide) (by decide) rfl at_40 (pc' := 43) rfl (fun v_ h13 hq => ?_)
  obtain ⟨rfl, K_1, E_1, F_1, F_2⟩ := hq
  show own_W l Z x code maxLocals ret room_1 n0 (fun v h => v = some (.int 1)) h13 1 2 43 #[.val (.int x0), .val (.long x1), .second, .val (.int (0 : Int32)), .val (.long m), .second, .unset, .unset, .unset, .unset, .unset] [.ref a]
  replace E_a := E_1
  replace F_a_syncs := F_1
  replace F_a_intervalMillis := F_2
  replace hn0 : n0 ≤ h13.size := Nat.le_trans hn0 K_1.1
  refine own_astore (pc' := 45) (Ls' := #[.val (.int x0), .val (.long x1), .second, .val (.int (0 : Int32)), .val (.long m), .second, .val (.ref a), .unset, .unset, .unset, .unset]) at_43 rfl rfl ?_
  refine own_aload (pc' := 47) at_45 rfl rfl ?_
  refine own_virtual (own_perW l Z a0 hw a (0 : Int32) m h13 n0 hn0 F_a_syncs F_a_intervalMillis) E_a (hw _ (List.mem_of_getElem? (i := 18) rfl)) (hw _ (List.mem_of_getElem? (i := 19) rfl)) (hw _ (List.mem_of_getElem? (i := 21) rfl)) (hw _ (List.mem_of_getElem? (i := 20) rfl)) (hw _ (List.mem_of_getElem? (i := 2) rfl)) (hw _ (List.mem_of_getElem? (i := 22) rfl)) (plainFor_of_name own_pn1) (by decide) own_pd3 rfl (argsL := []) (rest := []) rfl rfl (W := 0) (Nat.le_refl _) (by decide) (by decide) (by decide) (by decide) rfl at_47 (pc' := 50) rfl (fun v_ h14 hq => ?_)
  obtain ⟨rfl, rfl⟩ := hq
  show own_W l Z x code maxLocals ret room_1 n0 (fun v h => v = some (.int 1)) h13 1 2 50 #[.val (.int x0), .val (.long x1), .second, .val (.int (0 : Int32)), .val (.long m), .second, .val (.ref a), .unset, .unset, .unset, .unset] [.int (own_per (0 : Int32) m)]
  rw [show (own_per (0 : Int32) m) = (0 : Int32) from (by simp [own_per, hz])]
  refine own_istore (pc' := 52) (Ls' := #[.val (.int x0), .val (.long x1), .second, .val (.int (0 : Int32)), .val (.long m), .second, .val (.ref a), .val (.int (0 : Int32)), .unset, .unset, .unset]) at_50 rfl rfl ?_
  refine own_aload (pc' := 54) at_52 rfl rfl ?_
  refine own_virtual (own_aewW l Z a0 hw a (0 : Int32) m h13 n0 hn0 F_a_syncs F_a_intervalMillis) E_a (hw _ (List.mem_of_getElem? (i := 23) rfl)) (hw _ (List.mem_of_getElem? (i := 24) rfl)) (hw _ (List.mem_of_getElem? (i := 26) rfl)) (hw _ (List.mem_of_getElem? (i := 25) rfl)) (hw _ (List.mem_of_getElem? (i := 2) rfl)) (hw _ (List.mem_of_getElem? (i := 27) rfl)) (plainFor_of_name own_pn1) (by decide) own_pd3 rfl (argsL := []) (rest := []) rfl rfl (W := 0) (Nat.le_refl _) (by decide) (by decide) (by decide) (by decide) rfl at_54 (pc' := 57) rfl (fun v_ h15 hq => ?_)
  obtain ⟨rfl, rfl⟩ := hq
  show own_W l Z x code maxLocals ret room_1 n0 (fun v h => v = some (.int 1)) h13 1 2 57 #[.val (.int x0), .val (.long x1), .second, .val (.int (0 : Int32)), .val (.long m), .second, .val (.ref a), .val (.int (0 : Int32)), .unset, .unset, .unset] [.int (own_aew (0 : Int32) m)]
  rw [show (own_aew (0 : Int32) m) = (0 : Int32) from (by simp [own_aew, hz])]
  refine own_istore (pc' := 59) (Ls' := #[.val (.int x0), .val (.long x1), .second, .val (.int (0 : Int32)), .val (.long m), .second, .val (.ref a), .val (.int (0 : Int32)), .val (.int (0 : Int32)), .unset, .unset]) at_57 rfl rfl ?_
  refine own_iloadN (pc' := 60) at_59 rfl rfl ?_
  refine own_if_eq_t (pc' := 74) at_60 (by decide) (by decide) (by decide) ?_
  refine own_iconst (0 : Int32) (pc' := 75) at_74 rfl rfl ?_
  refine own_istore (pc' := 77) (Ls' := #[.val (.int x0), .val (.long x1), .second, .val (.int (0 : Int32)), .val (.long m), .second, .val (.ref a), .val (.int (0 : Int32)), .val (.int (0 : Int32)), .val (.int (0 : Int32)), .unset]) at_75 rfl rfl ?_
  refine own_iload (pc' := 79) at_77 rfl rfl ?_
  refine own_iload (pc' := 81) at_79 rfl rfl ?_
  refine own_ic_eq_t (pc' := 86) at_81 (by decide) (by decide) (by decide) ?_
  refine own_iload (pc' := 88) at_86 rfl rfl ?_
  refine own_if_eq_t (pc' := 98) at_88 (by decide) (by decide) (by decide) ?_
  refine own_iload (pc' := 100) at_98 rfl rfl ?_
  refine own_if_ne_f (pc' := 103) at_100 (by decide) rfl ?_
  refine own_iload (pc' := 105) at_103 rfl rfl ?_
  refine own_if_eq_t (pc' := 112) at_105 (by decide) (by decide) (by decide) ?_
  refine own_iconst (0 : Int32) (pc' := 113) at_112 rfl rfl ?_
  refine own_iloadN (pc' := 114) at_113 rfl rfl ?_
  refine own_ic_eq_t (pc' := 119) at_114 (by decide) (by decide) (by decide) ?_
  refine own_lload (pc' := 121) at_119 rfl rfl ?_
  refine own_static (own_every l Z a0 hw m h13 n0 hn0 hm) (hw _ (List.mem_of_getElem? (i := 28) rfl)) (hw _ (List.mem_of_getElem? (i := 29) rfl)) (hw _ (List.mem_of_getElem? (i := 2) rfl)) (hw _ (List.mem_of_getElem? (i := 30) rfl)) (plainFor_of_name own_pn1) (by decide) own_pd4 rfl (argsL := [.long m]) (rest := []) rfl rfl (W := 0) (Nat.le_refl _) (by decide) (by decide) (by decide) (by decide) rfl at_121 (pc' := 124) rfl (fun v_ h16 hq => ?_)
  obtain ⟨e, rfl, K_2, ge_2, E_e, F_e_s, F_e_m⟩ := hq
  show own_W l Z x code maxLocals ret room_1 n0 (fun v h => v = some (.int 1)) h16 2 4 124 #[.val (.int x0), .val (.long x1), .second, .val (.int (0 : Int32)), .val (.long m), .second, .val (.ref a), .val (.int (0 : Int32)), .val (.int (0 : Int32)), .val (.int (0 : Int32)), .unset] [.ref e]
  replace hn0 : n0 ≤ h16.size := Nat.le_trans hn0 K_2.1
  refine own_astore (pc' := 126) (Ls' := #[.val (.int x0), .val (.long x1), .second, .val (.int (0 : Int32)), .val (.long m), .second, .val (.ref a), .val (.int (0 : Int32)), .val (.int (0 : Int32)), .val (.int (0 : Int32)), .val (.ref e)]) at_124 rfl rfl ?_
  refine own_aload (pc' := 128) at_126 rfl rfl ?_
  refine own_virtual (own_perW l Z a0 hw e (1 : Int32) m h16 n0 hn0 F_e_s F_e_m) E_e (hw _ (List.mem_of_getElem? (i := 18) rfl)) (hw _ (List.mem_of_getElem? (i := 19) rfl)) (hw _ (List.mem_of_getElem? (i := 21) rfl)) (hw _ (List.mem_of_getElem? (i := 20) rfl)) (hw _ (List.mem_of_getElem? (i := 2) rfl)) (hw _ (List.mem_of_getElem? (i := 22) rfl)) (plainFor_of_name own_pn1) (by decide) own_pd3 rfl (argsL := []) (rest := []) rfl rfl (W := 0) (Nat.le_refl _) (by decide) (by decide) (by decide) (by decide) rfl at_128 (pc' := 131) rfl (fun v_ h17 hq => ?_)
  obtain ⟨rfl, rfl⟩ := hq
  show own_W l Z x code maxLocals ret room_1 n0 (fun v h => v = some (.int 1)) h16 2 4 131 #[.val (.int x0), .val (.long x1), .second, .val (.int (0 : Int32)), .val (.long m), .second, .val (.ref a), .val (.int (0 : Int32)), .val (.int (0 : Int32)), .val (.int (0 : Int32)), .val (.ref e)] [.int (own_per (1 : Int32) m)]
  rw [show (own_per (1 : Int32) m) = (0 : Int32) from (by simp [own_per, hz])]
  refine own_lload (pc' := 133) at_131 rfl rfl ?_
  refine own_lconst (0 : Int64) (pc' := 134) at_133 rfl rfl ?_
  refine own_lcmp (pc' := 135) at_134 rfl ?_
  refine own_il_eq_t (pc' := 142) at_135 hz (by decide) (by decide) ?_
  refine own_iconst (0 : Int32) (pc' := 143) at_142 rfl rfl ?_
  refine own_ic_ne_f (pc' := 146) at_143 (by decide) rfl ?_
  refine own_iconst (1 : Int32) (pc' := 147) at_146 rfl rfl ?_
  refine own_goto (pc' := 151) at_147 (by decide) (by decide) ?_
  exact own_bret (v := (1 : Int32)) rfl (by first | rfl | decide | assumption) at_151 rfl
set_option maxRecDepth 65536 in
set_option maxHeartbeats 40000000 in
theorem own_law_01 (l : Launch) (Z : State) (a0 : Array Value) (hw : ∀ d ∈ tables_1, d.before a0 Z = true) (x0 : Int32) (x1 m : Int64) (h0 : Heap) (n0 : Nat) (hn0 : n0 ≤ h0.size) (hm : ¬ m < 0) (hz : ¬ m = 0) :
    own_W l Z x code maxLocals ret room_1 n0 (fun v h => v = some (.int 1)) h0 0 0 33 #[.val (.int x0), .val (.long x1), .second, .val (.int (0 : Int32)), .val (.long m), .second, .unset, .unset, .unset, .unset, .unset] [] := by
  refine own_new (pc' := 36) (hw _ (List.mem_of_getElem? (i := 0) rfl)) (hw _ (List.mem_of_getElem? (i := 1) rfl)) (hw _ (List.mem_of_getElem? (i := 2) rfl)) at_33 rfl (by decide) (by decide) (fun h18 a gt_a lt_a E19 E_a D_a => ?_)
  have ge_a : n0 ≤ a := Nat.le_trans hn0 gt_a
  replace hn0 : n0 ≤ h18.size := Nat.le_trans hn0 E19.1
  have F_a_syncs : Fld Z h18 a "com/example/moorgate/moorgate/binlog/SyncPolicy" "syncs" "Z" (.int (0 : Int32)) := D_a (Or.inr (hw _ (List.mem_of_getElem? (i := 15) rfl))) (ty := .boolean) (by decide)
  have F_a_intervalMillis : Fld Z h18 a "com/example/moorgate/moorgate/binlog/SyncPolicy" "intervalMillis" "J" (.long (0 : Int64)) := D_a (Or.inr (hw _ (List.mem_of_getElem? (i := 17) rfl))) (ty := .long) (by decide)
  refine own_dup (pc' := 37) at_36 rfl rfl ?_
  refine own_iloadN (pc' := 38) at_37 rfl rfl ?_
  refine own_lload (pc' := 40) at_38 rfl rfl ?_
  refine own_special (ret' := none) (own_mk l Z a0 hw a (0 : Int32) m h18 n0 hn0 (by decide) hm ge_a E_a F_a_syncs F_a_intervalMillis) (hw _ (List.mem_of_getElem? (i := 3) rfl)) (hw _ (List.mem_of_getElem? (i := 4) rfl)) (hw _ (List.mem_of_getElem? (i := 2) rfl)) (hw _ (List.mem_of_getElem? (i := 5) rfl)) rfl (plainFor_of_name own_pn1) (by decide) own_pd1 rfl (argsL := [.int (0 : Int32), .long m]) (rest := [.ref a]) rfl rfl (W := 1) (Nat.le_refl _) (by decide) (by decide) (by decide) (by decide) rfl at_40 (pc' := 43) rfl (fun v_ h20 hq => ?_)
  obtain ⟨rfl, K_1, E_1, F_1, F_2⟩ := hq
  show own_W l Z x code maxLocals ret room_1 n0 (fun v h => v = some (.int 1)) h20 1 2 43 #[.val (.int x0), .val (.long x1), .second, .val (.int (0 : Int32)), .val (.long m), .second, .unset, .unset, .unset, .unset, .unset] [.ref a]
  replace E_a := E_1
  replace F_a_syncs := F_1
  replace F_a_intervalMillis := F_2
  replace hn0 : n0 ≤ h20.size := Nat.le_trans hn0 K_1.1
  refine own_astore (pc' := 45) (Ls' := #[.val (.int x0), .val (.long x1), .second, .val (.int (0 : Int32)), .val (.long m), .second, .val (.ref a), .unset, .unset, .unset, .unset]) at_43 rfl rfl ?_
  refine own_aload (pc' := 47) at_45 rfl rfl ?_
  refine own_virtual (own_perW l Z a0 hw a (0 : Int32) m h20 n0 hn0 F_a_syncs F_a_intervalMillis) E_a (hw _ (List.mem_of_getElem? (i := 18) rfl)) (hw _ (List.mem_of_getElem? (i := 19) rfl)) (hw _ (List.mem_of_getElem? (i := 21) rfl)) (hw _ (List.mem_of_getElem? (i := 20) rfl)) (hw _ (List.mem_of_getElem? (i := 2) rfl)) (hw _ (List.mem_of_getElem? (i := 22) rfl)) (plainFor_of_name own_pn1) (by decide) own_pd3 rfl (argsL := []) (rest := []) rfl rfl (W := 0) (Nat.le_refl _) (by decide) (by decide) (by decide) (by decide) rfl at_47 (pc' := 50) rfl (fun v_ h21 hq => ?_)
  obtain ⟨rfl, rfl⟩ := hq
  show own_W l Z x code maxLocals ret room_1 n0 (fun v h => v = some (.int 1)) h20 1 2 50 #[.val (.int x0), .val (.long x1), .second, .val (.int (0 : Int32)), .val (.long m), .second, .val (.ref a), .unset, .unset, .unset, .unset] [.int (own_per (0 : Int32) m)]
  rw [show (own_per (0 : Int32) m) = (0 : Int32) from (by simp [own_per, hz])]
  refine own_istore (pc' := 52) (Ls' := #[.val (.int x0), .val (.long x1), .second, .val (.int (0 : Int32)), .val (.long m), .second, .val (.ref a), .val (.int (0 : Int32)), .unset, .unset, .unset]) at_50 rfl rfl ?_
  refine own_aload (pc' := 54) at_52 rfl rfl ?_
  refine own_virtual (own_aewW l Z a0 hw a (0 : Int32) m h20 n0 hn0 F_a_syncs F_a_intervalMillis) E_a (hw _ (List.mem_of_getElem? (i := 23) rfl)) (hw _ (List.mem_of_getElem? (i := 24) rfl)) (hw _ (List.mem_of_getElem? (i := 26) rfl)) (hw _ (List.mem_of_getElem? (i := 25) rfl)) (hw _ (List.mem_of_getElem? (i := 2) rfl)) (hw _ (List.mem_of_getElem? (i := 27) rfl)) (plainFor_of_name own_pn1) (by decide) own_pd3 rfl (argsL := []) (rest := []) rfl rfl (W := 0) (Nat.le_refl _) (by decide) (by decide) (by decide) (by decide) rfl at_54 (pc' := 57) rfl (fun v_ h22 hq => ?_)
  obtain ⟨rfl, rfl⟩ := hq
  show own_W l Z x code maxLocals ret room_1 n0 (fun v h => v = some (.int 1)) h20 1 2 57 #[.val (.int x0), .val (.long x1), .second, .val (.int (0 : Int32)), .val (.long m), .second, .val (.ref a), .val (.int (0 : Int32)), .unset, .unset, .unset] [.int (own_aew (0 : Int32) m)]
  rw [show (own_aew (0 : Int32) m) = (0 : Int32) from (by simp [own_aew, hz])]
  refine own_istore (pc' := 59) (Ls' := #[.val (.int x0), .val (.long x1), .second, .val (.int (0 : Int32)), .val (.long m), .second, .val (.ref a), .val (.int (0 : Int32)), .val (.int (0 : Int32)), .unset, .unset]) at_57 rfl rfl ?_
  refine own_iloadN (pc' := 60) at_59 rfl rfl ?_
  refine own_if_eq_t (pc' := 74) at_60 (by decide) (by decide) (by decide) ?_
  refine own_iconst (0 : Int32) (pc' := 75) at_74 rfl rfl ?_
  refine own_istore (pc' := 77) (Ls' := #[.val (.int x0), .val (.long x1), .second, .val (.int (0 : Int32)), .val (.long m), .second, .val (.ref a), .val (.int (0 : Int32)), .val (.int (0 : Int32)), .val (.int (0 : Int32)), .unset]) at_75 rfl rfl ?_
  refine own_iload (pc' := 79) at_77 rfl rfl ?_
  refine own_iload (pc' := 81) at_79 rfl rfl ?_
  refine own_ic_eq_t (pc' := 86) at_81 (by decide) (by decide) (by decide) ?_
  refine own_iload (pc' := 88) at_86 rfl rfl ?_
  refine own_if_eq_t (pc' := 98) at_88 (by decide) (by decide) (by decide) ?_
  refine own_iload (pc' := 100) at_98 rfl rfl ?_
  refine own_if_ne_f (pc' := 103) at_100 (by decide) rfl ?_
  refine own_iload (pc' := 105) at_103 rfl rfl ?_
  refine own_if_eq_t (pc' := 112) at_105 (by decide) (by decide) (by decide) ?_
  refine own_iconst (0 : Int32) (pc' := 113) at_112 rfl rfl ?_
  refine own_iloadN (pc' := 114) at_113 rfl rfl ?_
  refine own_ic_eq_t (pc' := 119) at_114 (by decide) (by decide) (by decide) ?_
  refine own_lload (pc' := 121) at_119 rfl rfl ?_
  refine own_static (own_every l Z a0 hw m h20 n0 hn0 hm) (hw _ (List.mem_of_getElem? (i := 28) rfl)) (hw _ (List.mem_of_getElem? (i := 29) rfl)) (hw _ (List.mem_of_getElem? (i := 2) rfl)) (hw _ (List.mem_of_getElem? (i := 30) rfl)) (plainFor_of_name own_pn1) (by decide) own_pd4 rfl (argsL := [.long m]) (rest := []) rfl rfl (W := 0) (Nat.le_refl _) (by decide) (by decide) (by decide) (by decide) rfl at_121 (pc' := 124) rfl (fun v_ h23 hq => ?_)
  obtain ⟨e, rfl, K_2, ge_2, E_e, F_e_s, F_e_m⟩ := hq
  show own_W l Z x code maxLocals ret room_1 n0 (fun v h => v = some (.int 1)) h23 2 4 124 #[.val (.int x0), .val (.long x1), .second, .val (.int (0 : Int32)), .val (.long m), .second, .val (.ref a), .val (.int (0 : Int32)), .val (.int (0 : Int32)), .val (.int (0 : Int32)), .unset] [.ref e]
  replace hn0 : n0 ≤ h23.size := Nat.le_trans hn0 K_2.1
  refine own_astore (pc' := 126) (Ls' := #[.val (.int x0), .val (.long x1), .second, .val (.int (0 : Int32)), .val (.long m), .second, .val (.ref a), .val (.int (0 : Int32)), .val (.int (0 : Int32)), .val (.int (0 : Int32)), .val (.ref e)]) at_124 rfl rfl ?_
  refine own_aload (pc' := 128) at_126 rfl rfl ?_
  refine own_virtual (own_perW l Z a0 hw e (1 : Int32) m h23 n0 hn0 F_e_s F_e_m) E_e (hw _ (List.mem_of_getElem? (i := 18) rfl)) (hw _ (List.mem_of_getElem? (i := 19) rfl)) (hw _ (List.mem_of_getElem? (i := 21) rfl)) (hw _ (List.mem_of_getElem? (i := 20) rfl)) (hw _ (List.mem_of_getElem? (i := 2) rfl)) (hw _ (List.mem_of_getElem? (i := 22) rfl)) (plainFor_of_name own_pn1) (by decide) own_pd3 rfl (argsL := []) (rest := []) rfl rfl (W := 0) (Nat.le_refl _) (by decide) (by decide) (by decide) (by decide) rfl at_128 (pc' := 131) rfl (fun v_ h24 hq => ?_)
  obtain ⟨rfl, rfl⟩ := hq
  show own_W l Z x code maxLocals ret room_1 n0 (fun v h => v = some (.int 1)) h23 2 4 131 #[.val (.int x0), .val (.long x1), .second, .val (.int (0 : Int32)), .val (.long m), .second, .val (.ref a), .val (.int (0 : Int32)), .val (.int (0 : Int32)), .val (.int (0 : Int32)), .val (.ref e)] [.int (own_per (1 : Int32) m)]
  rw [show (own_per (1 : Int32) m) = (1 : Int32) from (by simp [own_per, own_pos hm hz])]
  refine own_lload (pc' := 133) at_131 rfl rfl ?_
  refine own_lconst (0 : Int64) (pc' := 134) at_133 rfl rfl ?_
  refine own_lcmp (pc' := 135) at_134 rfl ?_
  refine own_il_eq_f (pc' := 138) at_135 hz rfl ?_
  refine own_iconst (1 : Int32) (pc' := 139) at_138 rfl rfl ?_
  refine own_goto (pc' := 143) at_139 (by decide) (by decide) ?_
  refine own_ic_ne_f (pc' := 146) at_143 (by decide) rfl ?_
  refine own_iconst (1 : Int32) (pc' := 147) at_146 rfl rfl ?_
  refine own_goto (pc' := 151) at_147 (by decide) (by decide) ?_
  exact own_bret (v := (1 : Int32)) rfl (by first | rfl | decide | assumption) at_151 rfl
set_option maxRecDepth 65536 in
set_option maxHeartbeats 40000000 in
theorem own_law_10 (l : Launch) (Z : State) (a0 : Array Value) (hw : ∀ d ∈ tables_1, d.before a0 Z = true) (x0 : Int32) (x1 m : Int64) (h0 : Heap) (n0 : Nat) (hn0 : n0 ≤ h0.size) (hm : ¬ m < 0) (hz : m = 0) :
    own_W l Z x code maxLocals ret room_1 n0 (fun v h => v = some (.int 1)) h0 0 0 33 #[.val (.int x0), .val (.long x1), .second, .val (.int (1 : Int32)), .val (.long m), .second, .unset, .unset, .unset, .unset, .unset] [] := by
  refine own_new (pc' := 36) (hw _ (List.mem_of_getElem? (i := 0) rfl)) (hw _ (List.mem_of_getElem? (i := 1) rfl)) (hw _ (List.mem_of_getElem? (i := 2) rfl)) at_33 rfl (by decide) (by decide) (fun h25 a gt_a lt_a E26 E_a D_a => ?_)
  have ge_a : n0 ≤ a := Nat.le_trans hn0 gt_a
  replace hn0 : n0 ≤ h25.size := Nat.le_trans hn0 E26.1
  have F_a_syncs : Fld Z h25 a "com/example/moorgate/moorgate/binlog/SyncPolicy" "syncs" "Z" (.int (0 : Int32)) := D_a (Or.inr (hw _ (List.mem_of_getElem? (i := 15) rfl))) (ty := .boolean) (by decide)
  have F_a_intervalMillis : Fld Z h25 a "com/example/moorgate/moorgate/binlog/SyncPolicy" "intervalMillis" "J" (.long (0 : Int64)) := D_a (Or.inr (hw _ (List.mem_of_getElem? (i := 17) rfl))) (ty := .long) (by decide)
  refine own_dup (pc' := 37) at_36 rfl rfl ?_
  refine own_iloadN (pc' := 38) at_37 rfl rfl ?_
  refine own_lload (pc' := 40) at_38 rfl rfl ?_
  refine own_special (ret' := none) (own_mk l Z a0 hw a (1 : Int32) m h25 n0 hn0 (by decide) hm ge_a E_a F_a_syncs F_a_intervalMillis) (hw _ (List.mem_of_getElem? (i := 3) rfl)) (hw _ (List.mem_of_getElem? (i := 4) rfl)) (hw _ (List.mem_of_getElem? (i := 2) rfl)) (hw _ (List.mem_of_getElem? (i := 5) rfl)) rfl (plainFor_of_name own_pn1) (by decide) own_pd1 rfl (argsL := [.int (1 : Int32), .long m]) (rest := [.ref a]) rfl rfl (W := 1) (Nat.le_refl _) (by decide) (by decide) (by decide) (by decide) rfl at_40 (pc' := 43) rfl (fun v_ h27 hq => ?_)
  obtain ⟨rfl, K_1, E_1, F_1, F_2⟩ := hq
  show own_W l Z x code maxLocals ret room_1 n0 (fun v h => v = some (.int 1)) h27 1 2 43 #[.val (.int x0), .val (.long x1), .second, .val (.int (1 : Int32)), .val (.long m), .second, .unset, .unset, .unset, .unset, .unset] [.ref a]
  replace E_a := E_1
  replace F_a_syncs := F_1
  replace F_a_intervalMillis := F_2
  replace hn0 : n0 ≤ h27.size := Nat.le_trans hn0 K_1.1
  refine own_astore (pc' := 45) (Ls' := #[.val (.int x0), .val (.long x1), .second, .val (.int (1 : Int32)), .val (.long m), .second, .val (.ref a), .unset, .unset, .unset, .unset]) at_43 rfl rfl ?_
  refine own_aload (pc' := 47) at_45 rfl rfl ?_
  refine own_virtual (own_perW l Z a0 hw a (1 : Int32) m h27 n0 hn0 F_a_syncs F_a_intervalMillis) E_a (hw _ (List.mem_of_getElem? (i := 18) rfl)) (hw _ (List.mem_of_getElem? (i := 19) rfl)) (hw _ (List.mem_of_getElem? (i := 21) rfl)) (hw _ (List.mem_of_getElem? (i := 20) rfl)) (hw _ (List.mem_of_getElem? (i := 2) rfl)) (hw _ (List.mem_of_getElem? (i := 22) rfl)) (plainFor_of_name own_pn1) (by decide) own_pd3 rfl (argsL := []) (rest := []) rfl rfl (W := 0) (Nat.le_refl _) (by decide) (by decide) (by decide) (by decide) rfl at_47 (pc' := 50) rfl (fun v_ h28 hq => ?_)
  obtain ⟨rfl, rfl⟩ := hq
  show own_W l Z x code maxLocals ret room_1 n0 (fun v h => v = some (.int 1)) h27 1 2 50 #[.val (.int x0), .val (.long x1), .second, .val (.int (1 : Int32)), .val (.long m), .second, .val (.ref a), .unset, .unset, .unset, .unset] [.int (own_per (1 : Int32) m)]
  rw [show (own_per (1 : Int32) m) = (0 : Int32) from (by simp [own_per, hz])]
  refine own_istore (pc' := 52) (Ls' := #[.val (.int x0), .val (.long x1), .second, .val (.int (1 : Int32)), .val (.long m), .second, .val (.ref a), .val (.int (0 : Int32)), .unset, .unset, .unset]) at_50 rfl rfl ?_
  refine own_aload (pc' := 54) at_52 rfl rfl ?_
  refine own_virtual (own_aewW l Z a0 hw a (1 : Int32) m h27 n0 hn0 F_a_syncs F_a_intervalMillis) E_a (hw _ (List.mem_of_getElem? (i := 23) rfl)) (hw _ (List.mem_of_getElem? (i := 24) rfl)) (hw _ (List.mem_of_getElem? (i := 26) rfl)) (hw _ (List.mem_of_getElem? (i := 25) rfl)) (hw _ (List.mem_of_getElem? (i := 2) rfl)) (hw _ (List.mem_of_getElem? (i := 27) rfl)) (plainFor_of_name own_pn1) (by decide) own_pd3 rfl (argsL := []) (rest := []) rfl rfl (W := 0) (Nat.le_refl _) (by decide) (by decide) (by decide) (by decide) rfl at_54 (pc' := 57) rfl (fun v_ h29 hq => ?_)
  obtain ⟨rfl, rfl⟩ := hq
  show own_W l Z x code maxLocals ret room_1 n0 (fun v h => v = some (.int 1)) h27 1 2 57 #[.val (.int x0), .val (.long x1), .second, .val (.int (1 : Int32)), .val (.long m), .second, .val (.ref a), .val (.int (0 : Int32)), .unset, .unset, .unset] [.int (own_aew (1 : Int32) m)]
  rw [show (own_aew (1 : Int32) m) = (1 : Int32) from (by simp [own_aew, hz])]
  refine own_istore (pc' := 59) (Ls' := #[.val (.int x0), .val (.long x1), .second, .val (.int (1 : Int32)), .val (.long m), .second, .val (.ref a), .val (.int (0 : Int32)), .val (.int (1 : Int32)), .unset, .unset]) at_57 rfl rfl ?_
  refine own_iloadN (pc' := 60) at_59 rfl rfl ?_
  refine own_if_eq_f (pc' := 63) at_60 (by decide) rfl ?_
  refine own_lload (pc' := 65) at_63 rfl rfl ?_
  refine own_lconst (0 : Int64) (pc' := 66) at_65 rfl rfl ?_
  refine own_lcmp (pc' := 67) at_66 rfl ?_
  refine own_il_eq_t (pc' := 74) at_67 hz (by decide) (by decide) ?_
  refine own_iconst (0 : Int32) (pc' := 75) at_74 rfl rfl ?_
  refine own_istore (pc' := 77) (Ls' := #[.val (.int x0), .val (.long x1), .second, .val (.int (1 : Int32)), .val (.long m), .second, .val (.ref a), .val (.int (0 : Int32)), .val (.int (1 : Int32)), .val (.int (0 : Int32)), .unset]) at_75 rfl rfl ?_
  refine own_iload (pc' := 79) at_77 rfl rfl ?_
  refine own_iload (pc' := 81) at_79 rfl rfl ?_
  refine own_ic_eq_t (pc' := 86) at_81 (by decide) (by decide) (by decide) ?_
  refine own_iload (pc' := 88) at_86 rfl rfl ?_
  refine own_if_eq_t (pc' := 98) at_88 (by decide) (by decide) (by decide) ?_
  refine own_iload (pc' := 100) at_98 rfl rfl ?_
  refine own_if_ne_f (pc' := 103) at_100 (by decide) rfl ?_
  refine own_iload (pc' := 105) at_103 rfl rfl ?_
  refine own_if_eq_f (pc' := 108) at_105 (by decide) rfl ?_
  refine own_iconst (1 : Int32) (pc' := 109) at_108 rfl rfl ?_
  refine own_goto (pc' := 113) at_109 (by decide) (by decide) ?_
  refine own_iloadN (pc' := 114) at_113 rfl rfl ?_
  refine own_ic_eq_t (pc' := 119) at_114 (by decide) (by decide) (by decide) ?_
  refine own_lload (pc' := 121) at_119 rfl rfl ?_
  refine own_static (own_every l Z a0 hw m h27 n0 hn0 hm) (hw _ (List.mem_of_getElem? (i := 28) rfl)) (hw _ (List.mem_of_getElem? (i := 29) rfl)) (hw _ (List.mem_of_getElem? (i := 2) rfl)) (hw _ (List.mem_of_getElem? (i := 30) rfl)) (plainFor_of_name own_pn1) (by decide) own_pd4 rfl (argsL := [.long m]) (rest := []) rfl rfl (W := 0) (Nat.le_refl _) (by decide) (by decide) (by decide) (by decide) rfl at_121 (pc' := 124) rfl (fun v_ h30 hq => ?_)
  obtain ⟨e, rfl, K_2, ge_2, E_e, F_e_s, F_e_m⟩ := hq
  show own_W l Z x code maxLocals ret room_1 n0 (fun v h => v = some (.int 1)) h30 2 4 124 #[.val (.int x0), .val (.long x1), .second, .val (.int (1 : Int32)), .val (.long m), .second, .val (.ref a), .val (.int (0 : Int32)), .val (.int (1 : Int32)), .val (.int (0 : Int32)), .unset] [.ref e]
  replace hn0 : n0 ≤ h30.size := Nat.le_trans hn0 K_2.1
  refine own_astore (pc' := 126) (Ls' := #[.val (.int x0), .val (.long x1), .second, .val (.int (1 : Int32)), .val (.long m), .second, .val (.ref a), .val (.int (0 : Int32)), .val (.int (1 : Int32)), .val (.int (0 : Int32)), .val (.ref e)]) at_124 rfl rfl ?_
  refine own_aload (pc' := 128) at_126 rfl rfl ?_
  refine own_virtual (own_perW l Z a0 hw e (1 : Int32) m h30 n0 hn0 F_e_s F_e_m) E_e (hw _ (List.mem_of_getElem? (i := 18) rfl)) (hw _ (List.mem_of_getElem? (i := 19) rfl)) (hw _ (List.mem_of_getElem? (i := 21) rfl)) (hw _ (List.mem_of_getElem? (i := 20) rfl)) (hw _ (List.mem_of_getElem? (i := 2) rfl)) (hw _ (List.mem_of_getElem? (i := 22) rfl)) (plainFor_of_name own_pn1) (by decide) own_pd3 rfl (argsL := []) (rest := []) rfl rfl (W := 0) (Nat.le_refl _) (by decide) (by decide) (by decide) (by decide) rfl at_128 (pc' := 131) rfl (fun v_ h31 hq => ?_)
  obtain ⟨rfl, rfl⟩ := hq
  show own_W l Z x code maxLocals ret room_1 n0 (fun v h => v = some (.int 1)) h30 2 4 131 #[.val (.int x0), .val (.long x1), .second, .val (.int (1 : Int32)), .val (.long m), .second, .val (.ref a), .val (.int (0 : Int32)), .val (.int (1 : Int32)), .val (.int (0 : Int32)), .val (.ref e)] [.int (own_per (1 : Int32) m)]
  rw [show (own_per (1 : Int32) m) = (0 : Int32) from (by simp [own_per, hz])]
  refine own_lload (pc' := 133) at_131 rfl rfl ?_
  refine own_lconst (0 : Int64) (pc' := 134) at_133 rfl rfl ?_
  refine own_lcmp (pc' := 135) at_134 rfl ?_
  refine own_il_eq_t (pc' := 142) at_135 hz (by decide) (by decide) ?_
  refine own_iconst (0 : Int32) (pc' := 143) at_142 rfl rfl ?_
  refine own_ic_ne_f (pc' := 146) at_143 (by decide) rfl ?_
  refine own_iconst (1 : Int32) (pc' := 147) at_146 rfl rfl ?_
  refine own_goto (pc' := 151) at_147 (by decide) (by decide) ?_
  exact own_bret (v := (1 : Int32)) rfl (by first | rfl | decide | assumption) at_151 rfl
set_option maxRecDepth 65536 in
set_option maxHeartbeats 40000000 in
theorem own_law_11 (l : Launch) (Z : State) (a0 : Array Value) (hw : ∀ d ∈ tables_1, d.before a0 Z = true) (x0 : Int32) (x1 m : Int64) (h0 : Heap) (n0 : Nat) (hn0 : n0 ≤ h0.size) (hm : ¬ m < 0) (hz : ¬ m = 0) :
    own_W l Z x code maxLocals ret room_1 n0 (fun v h => v = some (.int 1)) h0 0 0 33 #[.val (.int x0), .val (.long x1), .second, .val (.int (1 : Int32)), .val (.long m), .second, .unset, .unset, .unset, .unset, .unset] [] := by
  refine own_new (pc' := 36) (hw _ (List.mem_of_getElem? (i := 0) rfl)) (hw _ (List.mem_of_getElem? (i := 1) rfl)) (hw _ (List.mem_of_getElem? (i := 2) rfl)) at_33 rfl (by decide) (by decide) (fun h32 a gt_a lt_a E33 E_a D_a => ?_)
  have ge_a : n0 ≤ a := Nat.le_trans hn0 gt_a
  replace hn0 : n0 ≤ h32.size := Nat.le_trans hn0 E33.1
  have F_a_syncs : Fld Z h32 a "com/example/moorgate/moorgate/binlog/SyncPolicy" "syncs" "Z" (.int (0 : Int32)) := D_a (Or.inr (hw _ (List.mem_of_getElem? (i := 15) rfl))) (ty := .boolean) (by decide)
  have F_a_intervalMillis : Fld Z h32 a "com/example/moorgate/moorgate/binlog/SyncPolicy" "intervalMillis" "J" (.long (0 : Int64)) := D_a (Or.inr (hw _ (List.mem_of_getElem? (i := 17) rfl))) (ty := .long) (by decide)
  refine own_dup (pc' := 37) at_36 rfl rfl ?_
  refine own_iloadN (pc' := 38) at_37 rfl rfl ?_
  refine own_lload (pc' := 40) at_38 rfl rfl ?_
  refine own_special (ret' := none) (own_mk l Z a0 hw a (1 : Int32) m h32 n0 hn0 (by decide) hm ge_a E_a F_a_syncs F_a_intervalMillis) (hw _ (List.mem_of_getElem? (i := 3) rfl)) (hw _ (List.mem_of_getElem? (i := 4) rfl)) (hw _ (List.mem_of_getElem? (i := 2) rfl)) (hw _ (List.mem_of_getElem? (i := 5) rfl)) rfl (plainFor_of_name own_pn1) (by decide) own_pd1 rfl (argsL := [.int (1 : Int32), .long m]) (rest := [.ref a]) rfl rfl (W := 1) (Nat.le_refl _) (by decide) (by decide) (by decide) (by decide) rfl at_40 (pc' := 43) rfl (fun v_ h34 hq => ?_)
  obtain ⟨rfl, K_1, E_1, F_1, F_2⟩ := hq
  show own_W l Z x code maxLocals ret room_1 n0 (fun v h => v = some (.int 1)) h34 1 2 43 #[.val (.int x0), .val (.long x1), .second, .val (.int (1 : Int32)), .val (.long m), .second, .unset, .unset, .unset, .unset, .unset] [.ref a]
  replace E_a := E_1
  replace F_a_syncs := F_1
  replace F_a_intervalMillis := F_2
  replace hn0 : n0 ≤ h34.size := Nat.le_trans hn0 K_1.1
  refine own_astore (pc' := 45) (Ls' := #[.val (.int x0), .val (.long x1), .second, .val (.int (1 : Int32)), .val (.long m), .second, .val (.ref a), .unset, .unset, .unset, .unset]) at_43 rfl rfl ?_
  refine own_aload (pc' := 47) at_45 rfl rfl ?_
  refine own_virtual (own_perW l Z a0 hw a (1 : Int32) m h34 n0 hn0 F_a_syncs F_a_intervalMillis) E_a (hw _ (List.mem_of_getElem? (i := 18) rfl)) (hw _ (List.mem_of_getElem? (i := 19) rfl)) (hw _ (List.mem_of_getElem? (i := 21) rfl)) (hw _ (List.mem_of_getElem? (i := 20) rfl)) (hw _ (List.mem_of_getElem? (i := 2) rfl)) (hw _ (List.mem_of_getElem? (i := 22) rfl)) (plainFor_of_name own_pn1) (by decide) own_pd3 rfl (argsL := []) (rest := []) rfl rfl (W := 0) (Nat.le_refl _) (by decide) (by decide) (by decide) (by decide) rfl at_47 (pc' := 50) rfl (fun v_ h35 hq => ?_)
  obtain ⟨rfl, rfl⟩ := hq
  show own_W l Z x code maxLocals ret room_1 n0 (fun v h => v = some (.int 1)) h34 1 2 50 #[.val (.int x0), .val (.long x1), .second, .val (.int (1 : Int32)), .val (.long m), .second, .val (.ref a), .unset, .unset, .unset, .unset] [.int (own_per (1 : Int32) m)]
  rw [show (own_per (1 : Int32) m) = (1 : Int32) from (by simp [own_per, own_pos hm hz])]
  refine own_istore (pc' := 52) (Ls' := #[.val (.int x0), .val (.long x1), .second, .val (.int (1 : Int32)), .val (.long m), .second, .val (.ref a), .val (.int (1 : Int32)), .unset, .unset, .unset]) at_50 rfl rfl ?_
  refine own_aload (pc' := 54) at_52 rfl rfl ?_
  refine own_virtual (own_aewW l Z a0 hw a (1 : Int32) m h34 n0 hn0 F_a_syncs F_a_intervalMillis) E_a (hw _ (List.mem_of_getElem? (i := 23) rfl)) (hw _ (List.mem_of_getElem? (i := 24) rfl)) (hw _ (List.mem_of_getElem? (i := 26) rfl)) (hw _ (List.mem_of_getElem? (i := 25) rfl)) (hw _ (List.mem_of_getElem? (i := 2) rfl)) (hw _ (List.mem_of_getElem? (i := 27) rfl)) (plainFor_of_name own_pn1) (by decide) own_pd3 rfl (argsL := []) (rest := []) rfl rfl (W := 0) (Nat.le_refl _) (by decide) (by decide) (by decide) (by decide) rfl at_54 (pc' := 57) rfl (fun v_ h36 hq => ?_)
  obtain ⟨rfl, rfl⟩ := hq
  show own_W l Z x code maxLocals ret room_1 n0 (fun v h => v = some (.int 1)) h34 1 2 57 #[.val (.int x0), .val (.long x1), .second, .val (.int (1 : Int32)), .val (.long m), .second, .val (.ref a), .val (.int (1 : Int32)), .unset, .unset, .unset] [.int (own_aew (1 : Int32) m)]
  rw [show (own_aew (1 : Int32) m) = (0 : Int32) from (by simp [own_aew, hz])]
  refine own_istore (pc' := 59) (Ls' := #[.val (.int x0), .val (.long x1), .second, .val (.int (1 : Int32)), .val (.long m), .second, .val (.ref a), .val (.int (1 : Int32)), .val (.int (0 : Int32)), .unset, .unset]) at_57 rfl rfl ?_
  refine own_iloadN (pc' := 60) at_59 rfl rfl ?_
  refine own_if_eq_f (pc' := 63) at_60 (by decide) rfl ?_
  refine own_lload (pc' := 65) at_63 rfl rfl ?_
  refine own_lconst (0 : Int64) (pc' := 66) at_65 rfl rfl ?_
  refine own_lcmp (pc' := 67) at_66 rfl ?_
  refine own_il_eq_f (pc' := 70) at_67 hz rfl ?_
  refine own_iconst (1 : Int32) (pc' := 71) at_70 rfl rfl ?_
  refine own_goto (pc' := 75) at_71 (by decide) (by decide) ?_
  refine own_istore (pc' := 77) (Ls' := #[.val (.int x0), .val (.long x1), .second, .val (.int (1 : Int32)), .val (.long m), .second, .val (.ref a), .val (.int (1 : Int32)), .val (.int (0 : Int32)), .val (.int (1 : Int32)), .unset]) at_75 rfl rfl ?_
  refine own_iload (pc' := 79) at_77 rfl rfl ?_
  refine own_iload (pc' := 81) at_79 rfl rfl ?_
  refine own_ic_eq_t (pc' := 86) at_81 (by decide) (by decide) (by decide) ?_
  refine own_iload (pc' := 88) at_86 rfl rfl ?_
  refine own_if_eq_f (pc' := 91) at_88 (by decide) rfl ?_
  refine own_iload (pc' := 93) at_91 rfl rfl ?_
  refine own_if_eq_t (pc' := 98) at_93 (by decide) (by decide) (by decide) ?_
  refine own_iload (pc' := 100) at_98 rfl rfl ?_
  refine own_if_ne_t (pc' := 108) at_100 (by decide) (by decide) (by decide) ?_
  refine own_iconst (1 : Int32) (pc' := 109) at_108 rfl rfl ?_
  refine own_goto (pc' := 113) at_109 (by decide) (by decide) ?_
  refine own_iloadN (pc' := 114) at_113 rfl rfl ?_
  refine own_ic_eq_t (pc' := 119) at_114 (by decide) (by decide) (by decide) ?_
  refine own_lload (pc' := 121) at_119 rfl rfl ?_
  refine own_static (own_every l Z a0 hw m h34 n0 hn0 hm) (hw _ (List.mem_of_getElem? (i := 28) rfl)) (hw _ (List.mem_of_getElem? (i := 29) rfl)) (hw _ (List.mem_of_getElem? (i := 2) rfl)) (hw _ (List.mem_of_getElem? (i := 30) rfl)) (plainFor_of_name own_pn1) (by decide) own_pd4 rfl (argsL := [.long m]) (rest := []) rfl rfl (W := 0) (Nat.le_refl _) (by decide) (by decide) (by decide) (by decide) rfl at_121 (pc' := 124) rfl (fun v_ h37 hq => ?_)
  obtain ⟨e, rfl, K_2, ge_2, E_e, F_e_s, F_e_m⟩ := hq
  show own_W l Z x code maxLocals ret room_1 n0 (fun v h => v = some (.int 1)) h37 2 4 124 #[.val (.int x0), .val (.long x1), .second, .val (.int (1 : Int32)), .val (.long m), .second, .val (.ref a), .val (.int (1 : Int32)), .val (.int (0 : Int32)), .val (.int (1 : Int32)), .unset] [.ref e]
  replace hn0 : n0 ≤ h37.size := Nat.le_trans hn0 K_2.1
  refine own_astore (pc' := 126) (Ls' := #[.val (.int x0), .val (.long x1), .second, .val (.int (1 : Int32)), .val (.long m), .second, .val (.ref a), .val (.int (1 : Int32)), .val (.int (0 : Int32)), .val (.int (1 : Int32)), .val (.ref e)]) at_124 rfl rfl ?_
  refine own_aload (pc' := 128) at_126 rfl rfl ?_
  refine own_virtual (own_perW l Z a0 hw e (1 : Int32) m h37 n0 hn0 F_e_s F_e_m) E_e (hw _ (List.mem_of_getElem? (i := 18) rfl)) (hw _ (List.mem_of_getElem? (i := 19) rfl)) (hw _ (List.mem_of_getElem? (i := 21) rfl)) (hw _ (List.mem_of_getElem? (i := 20) rfl)) (hw _ (List.mem_of_getElem? (i := 2) rfl)) (hw _ (List.mem_of_getElem? (i := 22) rfl)) (plainFor_of_name own_pn1) (by decide) own_pd3 rfl (argsL := []) (rest := []) rfl rfl (W := 0) (Nat.le_refl _) (by decide) (by decide) (by decide) (by decide) rfl at_128 (pc' := 131) rfl (fun v_ h38 hq => ?_)
  obtain ⟨rfl, rfl⟩ := hq
  show own_W l Z x code maxLocals ret room_1 n0 (fun v h => v = some (.int 1)) h37 2 4 131 #[.val (.int x0), .val (.long x1), .second, .val (.int (1 : Int32)), .val (.long m), .second, .val (.ref a), .val (.int (1 : Int32)), .val (.int (0 : Int32)), .val (.int (1 : Int32)), .val (.ref e)] [.int (own_per (1 : Int32) m)]
  rw [show (own_per (1 : Int32) m) = (1 : Int32) from (by simp [own_per, own_pos hm hz])]
  refine own_lload (pc' := 133) at_131 rfl rfl ?_
  refine own_lconst (0 : Int64) (pc' := 134) at_133 rfl rfl ?_
  refine own_lcmp (pc' := 135) at_134 rfl ?_
  refine own_il_eq_f (pc' := 138) at_135 hz rfl ?_
  refine own_iconst (1 : Int32) (pc' := 139) at_138 rfl rfl ?_
  refine own_goto (pc' := 143) at_139 (by decide) (by decide) ?_
  refine own_ic_ne_f (pc' := 146) at_143 (by decide) rfl ?_
  refine own_iconst (1 : Int32) (pc' := 147) at_146 rfl rfl ?_
  refine own_goto (pc' := 151) at_147 (by decide) (by decide) ?_
  exact own_bret (v := (1 : Int32)) rfl (by first | rfl | decide | assumption) at_151 rfl
set_option maxRecDepth 65536 in
set_option maxHeartbeats 40000000 in
theorem own_law_0 (l : Launch) (Z : State) (a0 : Array Value) (hw : ∀ d ∈ tables_1, d.before a0 Z = true) (x0 : Int32) (x1 m : Int64) (h0 : Heap) (n0 : Nat) (hn0 : n0 ≤ h0.size) (hm : ¬ m < 0) :
    own_W l Z x code maxLocals ret room_1 n0 (fun v h => v = some (.int 1)) h0 0 0 33 #[.val (.int x0), .val (.long x1), .second, .val (.int (0 : Int32)), .val (.long m), .second, .unset, .unset, .unset, .unset, .unset] [] := by
  by_cases hz : m = 0
  · exact own_law_00 l Z a0 hw x0 x1 m h0 n0 hn0 hm hz
  · exact own_law_01 l Z a0 hw x0 x1 m h0 n0 hn0 hm hz
set_option maxRecDepth 65536 in
set_option maxHeartbeats 40000000 in
theorem own_law_1 (l : Launch) (Z : State) (a0 : Array Value) (hw : ∀ d ∈ tables_1, d.before a0 Z = true) (x0 : Int32) (x1 m : Int64) (h0 : Heap) (n0 : Nat) (hn0 : n0 ≤ h0.size) (hm : ¬ m < 0) :
    own_W l Z x code maxLocals ret room_1 n0 (fun v h => v = some (.int 1)) h0 0 0 33 #[.val (.int x0), .val (.long x1), .second, .val (.int (1 : Int32)), .val (.long m), .second, .unset, .unset, .unset, .unset, .unset] [] := by
  by_cases hz : m = 0
  · exact own_law_10 l Z a0 hw x0 x1 m h0 n0 hn0 hm hz
  · exact own_law_11 l Z a0 hw x0 x1 m h0 n0 hn0 hm hz
set_option maxRecDepth 65536 in
set_option maxHeartbeats 40000000 in
theorem own_law (l : Launch) (Z : State) (a0 : Array Value) (hw : ∀ d ∈ tables_1, d.before a0 Z = true) (x0 : Int32) (x1 : Int64) (h0 : Heap) (n0 : Nat) (hn0 : n0 ≤ h0.size) :
    own_W l Z x code maxLocals ret room_1 n0 (fun v h => v = some (.int 1)) h0 0 0 0 #[.val (.int x0), .val (.long x1), .second, .unset, .unset, .unset, .unset, .unset, .unset, .unset, .unset] [] := by
  refine own_iloadN (pc' := 1) at_0 rfl rfl ?_
  refine own_iconst (1 : Int32) (pc' := 2) at_1 rfl rfl ?_
  refine own_iand (pc' := 3) at_2 rfl ?_
  refine own_if_eq (pc' := 10) (pf := 6) at_3 (by decide) (by decide) rfl (fun h_3 => ?_) (fun h_3 => ?_)
  · refine own_iconst (0 : Int32) (pc' := 11) at_10 rfl rfl ?_
    refine own_istoreN (pc' := 12) (Ls' := #[.val (.int x0), .val (.long x1), .second, .val (.int (0 : Int32)), .unset, .unset, .unset, .unset, .unset, .unset, .unset]) at_11 rfl rfl ?_
    refine own_iloadN (pc' := 13) at_12 rfl rfl ?_
    refine own_iconst (1 : Int32) (pc' := 14) at_13 rfl rfl ?_
    refine own_ishr (pc' := 15) at_14 rfl ?_
    refine own_iconst (1 : Int32) (pc' := 16) at_15 rfl rfl ?_
    refine own_iand (pc' := 17) at_16 rfl ?_
    refine own_if_eq (pc' := 28) (pf := 20) at_17 (by decide) (by decide) rfl (fun h_17 => ?_) (fun h_17 => ?_)
    · refine own_lloadN (pc' := 29) at_28 rfl rfl ?_
      refine own_lconst (1 : Int64) (pc' := 30) at_29 rfl rfl ?_
      refine own_land (pc' := 31) at_30 rfl ?_
      refine own_lstore (pc' := 33) (Ls' := #[.val (.int x0), .val (.long x1), .second, .val (.int (0 : Int32)), .val (.long (x1 &&& (1 : Int64))), .second, .unset, .unset, .unset, .unset, .unset]) at_31 rfl rfl ?_
      exact own_law_0 l Z a0 hw x0 x1 _ h0 n0 hn0 (own_mask1 _)
    · refine own_lloadN (pc' := 21) at_20 rfl rfl ?_
      refine own_ldc2 (pc' := 24) (u := (9223372036854775807 : Int64)) (hw _ (List.mem_of_getElem? (i := 33) rfl)) at_21 rfl ?_
      refine own_land (pc' := 25) at_24 rfl ?_
      refine own_goto (pc' := 31) at_25 (by decide) (by decide) ?_
      refine own_lstore (pc' := 33) (Ls' := #[.val (.int x0), .val (.long x1), .second, .val (.int (0 : Int32)), .val (.long (x1 &&& (9223372036854775807 : Int64))), .second, .unset, .unset, .unset, .unset, .unset]) at_31 rfl rfl ?_
      exact own_law_0 l Z a0 hw x0 x1 _ h0 n0 hn0 (own_mask _)
  · refine own_iconst (1 : Int32) (pc' := 7) at_6 rfl rfl ?_
    refine own_goto (pc' := 11) at_7 (by decide) (by decide) ?_
    refine own_istoreN (pc' := 12) (Ls' := #[.val (.int x0), .val (.long x1), .second, .val (.int (1 : Int32)), .unset, .unset, .unset, .unset, .unset, .unset, .unset]) at_11 rfl rfl ?_
    refine own_iloadN (pc' := 13) at_12 rfl rfl ?_
    refine own_iconst (1 : Int32) (pc' := 14) at_13 rfl rfl ?_
    refine own_ishr (pc' := 15) at_14 rfl ?_
    refine own_iconst (1 : Int32) (pc' := 16) at_15 rfl rfl ?_
    refine own_iand (pc' := 17) at_16 rfl ?_
    refine own_if_eq (pc' := 28) (pf := 20) at_17 (by decide) (by decide) rfl (fun h_17 => ?_) (fun h_17 => ?_)
    · refine own_lloadN (pc' := 29) at_28 rfl rfl ?_
      refine own_lconst (1 : Int64) (pc' := 30) at_29 rfl rfl ?_
      refine own_land (pc' := 31) at_30 rfl ?_
      refine own_lstore (pc' := 33) (Ls' := #[.val (.int x0), .val (.long x1), .second, .val (.int (1 : Int32)), .val (.long (x1 &&& (1 : Int64))), .second, .unset, .unset, .unset, .unset, .unset]) at_31 rfl rfl ?_
      exact own_law_1 l Z a0 hw x0 x1 _ h0 n0 hn0 (own_mask1 _)
    · refine own_lloadN (pc' := 21) at_20 rfl rfl ?_
      refine own_ldc2 (pc' := 24) (u := (9223372036854775807 : Int64)) (hw _ (List.mem_of_getElem? (i := 33) rfl)) at_21 rfl ?_
      refine own_land (pc' := 25) at_24 rfl ?_
      refine own_goto (pc' := 31) at_25 (by decide) (by decide) ?_
      refine own_lstore (pc' := 33) (Ls' := #[.val (.int x0), .val (.long x1), .second, .val (.int (1 : Int32)), .val (.long (x1 &&& (9223372036854775807 : Int64))), .second, .unset, .unset, .unset, .unset, .unset]) at_31 rfl rfl ?_
      exact own_law_1 l Z a0 hw x0 x1 _ h0 n0 hn0 (own_mask _)
set_option maxRecDepth 65536 in
set_option maxHeartbeats 40000000 in
theorem comes_1 {Post : Tables → Env → Array Value → State → Outcome → State → Prop} (hpost : ∀ tb e args s v u, (limb_1_1.after args s (.returned v) u = true ∧ limb_1_2.after args s (.returned v) u = true ∧ True) → FrameEnd s (.returned v) u (Jvm.fieldLocs frame_1_writes args s ++ Jvm.arrayLocs frame_1_arrays args s ++ Jvm.staticLocs frame_1_statics s) 16 128 → Post tb e args s (.returned v) u) :
    ArmFor flags0 classFile x code maxLocals ret World_1 tables_1 room_1 Calls_1 rest_1 Pre_1 Post := by
  intro l hfl _ _ p e ha hc hk s m args below hf hA hF happ hP
  obtain ⟨hcalls, hrest, hpre⟩ := hP
  obtain ⟨-, -, -, hnamed, -, -, -, hat⟩ := (Spec.applies_iff hf).mp happ
  obtain ⟨hg, hn⟩ := and_e (Cond.before_iff.mp (show (Jvm.Cond.and given_1 narrow_1).before args s = true from hpre))
  obtain ⟨hcount, hg0⟩ := and_e hg
  obtain ⟨w0, w1, rfl⟩ : ∃ w0 w1 : Value, args = #[w0, w1] := by
    have hs : args.size = 2 := by simpa [Cond.value, given_1] using hcount
    obtain ⟨L⟩ := args
    match L, hs with
    | [w0, w1], _ => exact ⟨w0, w1, rfl⟩
  have hw := fun d (hd : d ∈ tables_1) => atoms_spec (ws := Jvm.Cond.code x code maxLocals ret :: tables_1) hat d (List.mem_cons_of_mem _ hd)
  obtain ⟨hg0v, hg1⟩ := and_e hg0
  obtain ⟨x0, e0⟩ := is_v hg0v
  obtain rfl : w0 = (.int x0) := Option.some.inj e0
  obtain ⟨x1, e1⟩ := isL_v hg1
  obtain rfl : w1 = (.long x1) := Option.some.inj e1
  obtain ⟨n, o, h1, h2, h3, _, L, rfl, ⟨hq1, N⟩, hq⟩ := own_met (argsL := [.int x0, .long x1]) (own_law l s _ hw x0 x1 s.heap s.heap.size (Nat.le_refl _)) (plainFor_of_name own_pn0) rfl tables_1 p e ha hc hk s m _ below hf ((Spec.applies_iff_loose hf).mp happ).1 ⟨rfl, State.Warmed39.refl s, rfl⟩ trivial
  subst hq1
  refine ⟨n, _, h1, h2, h3, hpost _ _ _ _ _ _ ⟨Cond.after_iff.mpr rfl, Cond.after_iff.mpr (eq_i res_at (Term.int_eval (1)) rfl), trivial⟩ ⟨hq.1, hq.2.1, (hq.2.2.sift fun y hy => Or.inr (N y hy)).mono (by decide) (by decide)⟩⟩
theorem main_1_1 : Claimed_1_1 := comes_1 fun _ _ _ _ _ _ h hF => ⟨h.1, hF⟩
theorem main_1_2 : Claimed_1_2 := comes_1 fun _ _ _ _ _ _ h hF => ⟨h.2.1, hF⟩
end Jvm.Pilot.@@N@@
namespace Jvm.Pilot.@@N@@
open Jvm Jvm.ClassFile Sem Op Lib Jvm.Free Jvm.Stand Jvm.Pilot.@@N@@.Jvm.D
/-! MADE BY PROGRAM (witnessworld.py) out of the Statement's table words and the real class files: 10 classes; the members and pool entries that the words name. The judged class is class 1, her method 1. -/
namespace start1
open Jvm.ClassFile
def u (s : String) : CpInfo := .utf8 (stringToUtf16 s)
/-- a pool by its gaps: so many unusable entries, then the entry; so many at the end -/
def gap : Nat → List CpInfo → List CpInfo
  | 0, r => r
  | n + 1, r => .unusable :: gap n r
def poolList (es : List (Nat × CpInfo)) (last : Nat) : List CpInfo := es.foldr (fun e r => gap e.1 (e.2 :: r)) (gap last [])
def pool (es : List (Nat × CpInfo)) (last : Nat) : Array CpInfo := ⟨poolList es last⟩
def fileOf (pool : Array CpInfo) (this : Nat) (attrs : Array Attribute := #[]) (ms : Array MethodInfo := #[]) (fl : Nat := 33) (sup : Nat := 0) (ifs : Array Nat := #[]) (fds : Array FieldInfo := #[]) : ClassFile where
  minorVersion := 0
  majorVersion := 65
  constantPool := pool
  accessFlags := fl
  thisClass := this
  superClass := sup
  interfaces := ifs
  fields := fds
  methods := ms
  attributes := attrs
def plain (name : String) (sup : Option ClassId) : Class where
  name := name
  kind := .ordinary
  loader := none
  accessFlags := 33
  super := sup
  interfaces := #[]
  cf := none
  fields := #[]
  methods := #[]
  instanceTypes := #[]
  staticTypes := #[]
  resolved := #[]
  callSites := []
  init := .initialized
  statics := none
  mirror := none

def pool0 : Array CpInfo := pool [(5, u "<init>"), (0, u "()V"), (1, .class_ 10), (1, u "java/lang/Object")] 113

def k0c0 : Code := { maxStack := 0, maxLocals := 1, code := object_method_1_code, exceptionTable := #[], attributes := #[] }
def k0m0 : Method := { name := "<init>", desc := "()V", sig := { parameters := [], returnType := none }, accessFlags := 1, code := some k0c0 }
/-- java/lang/Object -/
def k0 : Class := { plain "java/lang/Object" none with
  accessFlags := 33
  interfaces := #[]
  cf := some (fileOf pool0 8 #[] #[{ accessFlags := 1, nameIndex := 5, descriptorIndex := 6, attributes := #[] }] 33 0 #[] #[])
  fields := #[]
  methods := #[k0m0]
  instanceTypes := #[]
  staticTypes := #[]
  resolved := Array.replicate 124 none
  statics := none }

def pool1 : Array CpInfo := pool [(2, .class_ 4), (1, u "java/lang/Object"), (0, u "<init>"), (0, u "()V"), (2, .long 9223372036854775807), (1, .class_ 12), (0, u "com/example/moorgate/moorgate/binlog/SyncPolicy"), (0, .methodref 11 14), (0, .nameAndType 5 15), (0, u "(ZJ)V"), (0, .methodref 11 17), (0, .nameAndType 18 19), (0, u "periodic"), (0, u "()Z"), (0, .methodref 11 21), (0, .nameAndType 22 19), (0, u "afterEachWrite"), (0, .methodref 11 24), (0, .nameAndType 25 26), (0, u "every"), (0, u "(J)Lcom/example/moorgate/moorgate/binlog/SyncPolicy;"), (0, .class_ 28), (0, u "com/example/moorgate/moorgate/binlog/SyncPolicyPeriodicPinLaw"), (2, u "law"), (0, u "(IJ)Z")] 3

def k1m0 : Method := { name := "<init>", desc := "()V", sig := { parameters := [], returnType := none }, accessFlags := 1, code := none }
def k1c1 : Code := { maxStack := 5, maxLocals := 11, code := code, exceptionTable := #[], attributes := #[] }
def k1m1 : Method := { name := "law", desc := "(IJ)Z", sig := { parameters := [.int, .long], returnType := some .boolean }, accessFlags := 9, code := some k1c1 }
/-- com/example/moorgate/moorgate/binlog/SyncPolicyPeriodicPinLaw -/
def k1 : Class := { plain "com/example/moorgate/moorgate/binlog/SyncPolicyPeriodicPinLaw" (some 0) with
  accessFlags := 49
  interfaces := #[]
  cf := some (fileOf pool1 27 #[] #[{ accessFlags := 1, nameIndex := 5, descriptorIndex := 6, attributes := #[] }, { accessFlags := 9, nameIndex := 31, descriptorIndex := 32, attributes := #[] }] 49 2 #[] #[])
  fields := #[]
  methods := #[k1m0, k1m1]
  instanceTypes := #[]
  staticTypes := #[]
  resolved := Array.replicate 36 none
  statics := none }

def pool2 : Array CpInfo := pool [(1, .methodref 2 3), (0, .class_ 4), (0, .nameAndType 5 6), (0, u "java/lang/Object"), (0, u "<init>"), (0, u "()V"), (0, .class_ 8), (0, u "java/lang/Record")] 13

def k2c0 : Code := { maxStack := 1, maxLocals := 1, code := jdk_30_method_1_code, exceptionTable := #[], attributes := #[] }
def k2m0 : Method := { name := "<init>", desc := "()V", sig := { parameters := [], returnType := none }, accessFlags := 4, code := some k2c0 }
/-- java/lang/Record -/
def k2 : Class := { plain "java/lang/Record" (some 0) with
  accessFlags := 1057
  interfaces := #[]
  cf := some (fileOf pool2 7 #[] #[{ accessFlags := 4, nameIndex := 5, descriptorIndex := 6, attributes := #[] }] 1057 2 #[] #[])
  fields := #[]
  methods := #[k2m0]
  instanceTypes := #[]
  staticTypes := #[]
  resolved := Array.replicate 22 none
  statics := none }

def pool3 : Array CpInfo := pool [(1, .methodref 2 3), (0, .class_ 4), (0, .nameAndType 5 6), (0, u "java/lang/Record"), (0, u "<init>"), (0, u "()V"), (7, .fieldref 15 16), (0, .class_ 17), (0, .nameAndType 18 19), (0, u "com/example/moorgate/moorgate/binlog/SyncPolicy"), (0, u "syncs"), (0, u "Z"), (0, .fieldref 15 21), (0, .nameAndType 22 23), (0, u "intervalMillis"), (0, u "J"), (0, .methodref 15 25), (0, .nameAndType 5 26), (0, u "(ZJ)V"), (16, u "every"), (0, u "(J)Lcom/example/moorgate/moorgate/binlog/SyncPolicy;"), (2, u "DEFAULT"), (0, u "Lcom/example/moorgate/moorgate/binlog/SyncPolicy;"), (6, u "afterEachWrite"), (0, u "()Z"), (0, u "periodic")] 26

def k3c0 : Code := { maxStack := 4, maxLocals := 4, code := prog_13_method_1_code, exceptionTable := #[], attributes := #[] }
def k3m0 : Method := { name := "<init>", desc := "(ZJ)V", sig := { parameters := [.boolean, .long], returnType := none }, accessFlags := 1, code := some k3c0 }
def k3c1 : Code := { maxStack := 5, maxLocals := 2, code := prog_13_method_2_code, exceptionTable := #[], attributes := #[] }
def k3m1 : Method := { name := "every", desc := "(J)Lcom/example/moorgate/moorgate/binlog/SyncPolicy;", sig := { parameters := [.long], returnType := some (.object "com/example/moorgate/moorgate/binlog/SyncPolicy") }, accessFlags := 9, code := some k3c1 }
def k3c2 : Code := { maxStack := 4, maxLocals := 1, code := prog_13_method_4_code, exceptionTable := #[], attributes := #[] }
def k3m2 : Method := { name := "afterEachWrite", desc := "()Z", sig := { parameters := [], returnType := some .boolean }, accessFlags := 0, code := some k3c2 }
def k3c3 : Code := { maxStack := 4, maxLocals := 1, code := prog_13_method_5_code, exceptionTable := #[], attributes := #[] }
def k3m3 : Method := { name := "periodic", desc := "()Z", sig := { parameters := [], returnType := some .boolean }, accessFlags := 0, code := some k3c3 }
/-- com/example/moorgate/moorgate/binlog/SyncPolicy -/
def k3 : Class := { plain "com/example/moorgate/moorgate/binlog/SyncPolicy" (some 2) with
  accessFlags := 49
  interfaces := #[]
  cf := some (fileOf pool3 15 #[] #[{ accessFlags := 1, nameIndex := 5, descriptorIndex := 26, attributes := #[] }, { accessFlags := 9, nameIndex := 43, descriptorIndex := 44, attributes := #[] }, { accessFlags := 0, nameIndex := 55, descriptorIndex := 56, attributes := #[] }, { accessFlags := 0, nameIndex := 57, descriptorIndex := 56, attributes := #[] }] 49 2 #[] #[{ accessFlags := 18, nameIndex := 18, descriptorIndex := 19, attributes := #[] }, { accessFlags := 18, nameIndex := 22, descriptorIndex := 23, attributes := #[] }, { accessFlags := 25, nameIndex := 47, descriptorIndex := 48, attributes := #[] }])
  fields := #[{ name := "syncs", type := .boolean, accessFlags := 18, slot := 0, constantValue := 0 }, { name := "intervalMillis", type := .long, accessFlags := 18, slot := 1, constantValue := 0 }, { name := "DEFAULT", type := (.object "com/example/moorgate/moorgate/binlog/SyncPolicy"), accessFlags := 25, slot := 0, constantValue := 0 }]
  methods := #[k3m0, k3m1, k3m2, k3m3]
  instanceTypes := #[.boolean, .long]
  staticTypes := #[(.object "com/example/moorgate/moorgate/binlog/SyncPolicy")]
  resolved := Array.replicate 84 none
  statics := none }

def pool4 : Array CpInfo := pool [(1, u "java/lang/Cloneable"), (0, .class_ 1), (0, u "java/lang/Object"), (0, .class_ 3)] 3

/-- java/lang/Cloneable -/
def k4 : Class := { plain "java/lang/Cloneable" (some 0) with
  accessFlags := 1537
  interfaces := #[]
  cf := some (fileOf pool4 2 #[] #[] 1537 4 #[] #[])
  fields := #[]
  methods := #[]
  instanceTypes := #[]
  staticTypes := #[]
  resolved := Array.replicate 8 none
  statics := none }

def pool5 : Array CpInfo := pool [(1, u "java/io/Serializable"), (0, .class_ 1), (0, u "java/lang/Object"), (0, .class_ 3)] 3

/-- java/io/Serializable -/
def k5 : Class := { plain "java/io/Serializable" (some 0) with
  accessFlags := 1537
  interfaces := #[]
  cf := some (fileOf pool5 2 #[] #[] 1537 4 #[] #[])
  fields := #[]
  methods := #[]
  instanceTypes := #[]
  staticTypes := #[]
  resolved := Array.replicate 8 none
  statics := none }

/-- the primitive byte -/
def k6 : Class := { plain "byte" none with kind := .primitive 'B', accessFlags := 0x411 }
/-- [B -/
def k7 : Class := { plain "[B" (some 0) with kind := .array 6 .byte, interfaces := #[4, 5], accessFlags := 1041 }

/-- the primitive int -/
def k8 : Class := { plain "int" none with kind := .primitive 'I', accessFlags := 0x411 }
/-- [I -/
def k9 : Class := { plain "[I" (some 0) with kind := .array 8 .int, interfaces := #[4, 5], accessFlags := 1041 }

def heap : Heap := #[]
def classes : Array Class := #[k0, k1, k2, k3, k4, k5, k6, k7, k8, k9]
def interned : List (Array UInt16 × Addr) := []
def slotsUsed : Nat := 0
def theMethod : MethodId := ⟨1, 1⟩
def args0 : Array Value := #[.int 5, .long 7]
def aboutOver (below : List Frame) : State where
  vm := { classes := classes, interned := interned.toArray }
  heap := heap
  slotsUsed := slotsUsed
  threads := #[{ frames := .invoking theMethod args0 :: below }]
def below0 : List Frame := [.native { method := ⟨0, 0⟩, args := #[] }]
def about1 : State := aboutOver below0
def p0 : Program := .bare "" "" ""
def e0 : Env := launch0.env 0 0 0
theorem w_frames : about1.frames = Frame.invoking theMethod args0 :: below0 := rfl
set_option maxRecDepth 65536 in
theorem w_args : argsFit about1.vm theMethod args0 = true := by decide +kernel
set_option maxRecDepth 65536 in
theorem w_heap : heapFits about1 = true := by decide +kernel
set_option maxRecDepth 65536 in
theorem w_runnable : about1.curStatus? = some .runnable := by decide +kernel
set_option maxRecDepth 65536 in
theorem w_alone : about1.alone = true := by decide +kernel
set_option maxRecDepth 65536 in
theorem w_named : about1.methodNamed? x = some theMethod := by decide +kernel
set_option maxRecDepth 65536 in
theorem w_hears : about1.hears theMethod below0 = true := by decide +kernel
set_option maxRecDepth 65536 in
theorem w_ripe : about1.ripe theMethod args0 below0 = true := by decide +kernel
theorem w_running : about1.status = .running := rfl
set_option maxRecDepth 65536 in
theorem w_room : about1.hasRoom e0.platform room_1 = true :=
  launch0.hasRoom_least _ room_1 (by decide +kernel) (by decide +kernel) (by decide +kernel) (by decide +kernel) (by decide +kernel) (by decide +kernel)
theorem allAtoms_all (ts : List Jvm.Cond) (a : Array Jvm.Value) (st : Jvm.State) : (allAtoms ts).before a st = ts.all (fun c => c.before a st) := by
  induction ts with
  | nil => rfl
  | cons c t ih =>
    show (Jvm.Cond.and c (allAtoms t)).before a st = _
    rw [Jvm.Cond.before_and, ih, List.all_cons]
def words1 : List Jvm.Cond := Jvm.Cond.code x code maxLocals ret :: tables_1
/-- a 'code' word, met by the world's own term for the bytes: nothing is compared byte by byte -/
theorem code_word {y : MethodName} {bytes : ByteArray} {mx : Nat} {rt : Option FieldType} {a : Array Value} {s : State} {m : MethodId} {meth : Method} {c : Code} (h1 : s.methodNamed? y = some m) (h2 : s.vm.method? m = some meth) (h3 : meth.code = some c) (h4 : c.code = bytes)
    (h5 : (c.maxLocals == mx && c.exceptionTable.isEmpty && decide (c.maxStack ≤ mostOperands) && decide (meth.sig.returnType = rt) && !meth.locks && decide (parseMethodDescriptor y.desc = some meth.sig)) = true) : (Jvm.Cond.code y bytes mx rt).before a s = true := by
  simp only [Bool.and_eq_true, beq_iff_eq, Bool.not_eq_true', decide_eq_true_eq] at h5
  obtain ⟨⟨⟨⟨⟨g1, g2⟩, g3⟩, g4⟩, g5⟩, g6⟩ := h5
  simp [Cond.before, Cond.holds, Cond.value, h1, h2, h3, h4, g1, g2, g3, g4, g5, g6]
def isCode : Jvm.Cond → Bool
  | .code _ _ _ _ => true
  | _ => false
theorem all_split {L : List Jvm.Cond} {P : Jvm.Cond → Bool} (h1 : L.all (fun c => isCode c || P c) = true) (h2 : ∀ c ∈ L.filter isCode, P c = true) : L.all P = true := by
  refine List.all_eq_true.mpr fun c hc => ?_
  have h := List.all_eq_true.mp h1 c hc
  rcases Bool.eq_false_or_eq_true (isCode c) with hi | hi
  · exact h2 c (List.mem_filter.mpr ⟨hc, hi⟩)
  · simpa [hi] using h
set_option maxRecDepth 65536 in
theorem w_c0 : (Jvm.Cond.code x code maxLocals ret).before args0 about1 = true := code_word (m := ⟨1, 1⟩) (meth := k1m1) (c := k1c1) (by decide +kernel) rfl rfl rfl (by decide +kernel)
set_option maxRecDepth 65536 in
theorem w_c1 : (Jvm.Cond.code ({ cls := "com/example/moorgate/moorgate/binlog/SyncPolicy", name := "<init>", desc := "(ZJ)V" } : Jvm.MethodName) prog_13_method_1_code (4 : Nat) (Option.none : Option Jvm.ClassFile.FieldType)).before args0 about1 = true := code_word (m := ⟨3, 0⟩) (meth := k3m0) (c := k3c0) (by decide +kernel) rfl rfl rfl (by decide +kernel)
set_option maxRecDepth 65536 in
theorem w_c2 : (Jvm.Cond.code ({ cls := "java/lang/Record", name := "<init>", desc := "()V" } : Jvm.MethodName) jdk_30_method_1_code (1 : Nat) (Option.none : Option Jvm.ClassFile.FieldType)).before args0 about1 = true := code_word (m := ⟨2, 0⟩) (meth := k2m0) (c := k2c0) (by decide +kernel) rfl rfl rfl (by decide +kernel)
set_option maxRecDepth 65536 in
theorem w_c3 : (Jvm.Cond.code ({ cls := "java/lang/Object", name := "<init>", desc := "()V" } : Jvm.MethodName) object_method_1_code (1 : Nat) (Option.none : Option Jvm.ClassFile.FieldType)).before args0 about1 = true := code_word (m := ⟨0, 0⟩) (meth := k0m0) (c := k0c0) (by decide +kernel) rfl rfl rfl (by decide +kernel)
set_option maxRecDepth 65536 in
theorem w_c4 : (Jvm.Cond.code ({ cls := "com/example/moorgate/moorgate/binlog/SyncPolicy", name := "periodic", desc := "()Z" } : Jvm.MethodName) prog_13_method_5_code (1 : Nat) (Option.some Jvm.ClassFile.FieldType.boolean)).before args0 about1 = true := code_word (m := ⟨3, 3⟩) (meth := k3m3) (c := k3c3) (by decide +kernel) rfl rfl rfl (by decide +kernel)
set_option maxRecDepth 65536 in
theorem w_c5 : (Jvm.Cond.code ({ cls := "com/example/moorgate/moorgate/binlog/SyncPolicy", name := "afterEachWrite", desc := "()Z" } : Jvm.MethodName) prog_13_method_4_code (1 : Nat) (Option.some Jvm.ClassFile.FieldType.boolean)).before args0 about1 = true := code_word (m := ⟨3, 2⟩) (meth := k3m2) (c := k3c2) (by decide +kernel) rfl rfl rfl (by decide +kernel)
set_option maxRecDepth 65536 in
theorem w_c6 : (Jvm.Cond.code ({ cls := "com/example/moorgate/moorgate/binlog/SyncPolicy", name := "every", desc := "(J)Lcom/example/moorgate/moorgate/binlog/SyncPolicy;" } : Jvm.MethodName) prog_13_method_2_code (2 : Nat) (Option.some (Jvm.ClassFile.FieldType.object "com/example/moorgate/moorgate/binlog/SyncPolicy"))).before args0 about1 = true := code_word (m := ⟨3, 1⟩) (meth := k3m1) (c := k3c1) (by decide +kernel) rfl rfl rfl (by decide +kernel)
def codes1 : List Jvm.Cond := [Jvm.Cond.code x code maxLocals ret, Jvm.Cond.code ({ cls := "com/example/moorgate/moorgate/binlog/SyncPolicy", name := "<init>", desc := "(ZJ)V" } : Jvm.MethodName) prog_13_method_1_code (4 : Nat) (Option.none : Option Jvm.ClassFile.FieldType), Jvm.Cond.code ({ cls := "java/lang/Record", name := "<init>", desc := "()V" } : Jvm.MethodName) jdk_30_method_1_code (1 : Nat) (Option.none : Option Jvm.ClassFile.FieldType), Jvm.Cond.code ({ cls := "java/lang/Object", name := "<init>", desc := "()V" } : Jvm.MethodName) object_method_1_code (1 : Nat) (Option.none : Option Jvm.ClassFile.FieldType), Jvm.Cond.code ({ cls := "com/example/moorgate/moorgate/binlog/SyncPolicy", name := "periodic", desc := "()Z" } : Jvm.MethodName) prog_13_method_5_code (1 : Nat) (Option.some Jvm.ClassFile.FieldType.boolean), Jvm.Cond.code ({ cls := "com/example/moorgate/moorgate/binlog/SyncPolicy", name := "afterEachWrite", desc := "()Z" } : Jvm.MethodName) prog_13_method_4_code (1 : Nat) (Option.some Jvm.ClassFile.FieldType.boolean), Jvm.Cond.code ({ cls := "com/example/moorgate/moorgate/binlog/SyncPolicy", name := "every", desc := "(J)Lcom/example/moorgate/moorgate/binlog/SyncPolicy;" } : Jvm.MethodName) prog_13_method_2_code (2 : Nat) (Option.some (Jvm.ClassFile.FieldType.object "com/example/moorgate/moorgate/binlog/SyncPolicy"))]
set_option maxRecDepth 65536 in
theorem codes_eq : words1.filter isCode = codes1 := rfl
theorem w_codes : ∀ c ∈ words1.filter isCode, c.before args0 about1 = true := by
  rw [codes_eq]
  intro c hc
  simp only [codes1, List.mem_cons, List.not_mem_nil, or_false] at hc
  rcases hc with rfl | rfl | rfl | rfl | rfl | rfl | rfl
  · exact w_c0
  · exact w_c1
  · exact w_c2
  · exact w_c3
  · exact w_c4
  · exact w_c5
  · exact w_c6
set_option maxRecDepth 65536 in
theorem w_t1 : (words1.take 24).all (fun c => isCode c || c.before args0 about1) = true := by decide +kernel
set_option maxRecDepth 65536 in
theorem w_t2 : (words1.drop 24).all (fun c => isCode c || c.before args0 about1) = true := by decide +kernel
theorem w_tables : (allAtoms (Jvm.Cond.code x code maxLocals ret :: tables_1)).before args0 about1 = true := by
  rw [allAtoms_all]
  show words1.all (fun c => c.before args0 about1) = true
  refine all_split ?_ w_codes
  rw [← List.take_append_drop 24 words1, List.all_append, w_t1, w_t2]
  rfl
set_option maxRecDepth 65536 in
theorem w_case : (Jvm.Cond.and given_1 narrow_1).before args0 about1 = true := by decide +kernel
theorem w_applies : (headSpec (Jvm.Cond.code x code maxLocals ret :: tables_1) room_1).applies x e0.platform about1 = true :=
  (Spec.applies_iff w_frames).mpr ⟨w_running, w_runnable, w_alone, w_named, w_hears, w_ripe, w_room, w_tables⟩
theorem atStart : AtStart classFile x code maxLocals ret World_1 tables_1 room_1 Calls_1 rest_1 Pre_1 launch0 p0 e0 about1 theMethod args0 below0 :=
  ⟨lists_1, trivial, launch0.admits_env _ _ _, launch0.least_env, fairChoices_fair.cas, fairChoices_fair.clock, w_frames, w_args, w_heap, w_applies, trivial, trivial, w_case⟩
end start1
theorem witness_1 : WitnessClaimed_1 := ⟨start1.p0, start1.e0, start1.about1, start1.theMethod, start1.args0, start1.below0, start1.atStart⟩
end Jvm.Pilot.@@N@@

import JvmDerived
import JvmDerived.Pilot.@@N@@Statement
import JvmDerived.Pilot.@@N@@Code
set_option linter.unusedVariables false
set_option linter.unusedSimpArgs false
@@BLOCK:NumsL.lean.txt@@
namespace Jvm.OwnKit
open Sem ClassFile Op Lib Jvm.Stand Jvm.Free Jvm.LawKit Jvm.RoadKit
/-- the surroundings of one body: program, environment, start, method, arguments, frames below, method record, code -/
abbrev Cxt := Program × Env × State × MethodId × Array Value × List Frame × Method × Code
/-- what a body owes: the first new address, cells, slots, what it leaves -/
abbrev En := Nat × Nat × Nat × (Option Value → Heap → Prop) × (State → Prop)
abbrev St (l : Launch) (R : Room) (C : Cxt) (T : State) (L : List Loc) (k n : Nat) : Prop :=
  Stand C.1 l C.2.1 R C.2.2.1 C.2.2.2.1 C.2.2.2.2.1 C.2.2.2.2.2.1 C.2.2.2.2.2.2.1 C.2.2.2.2.2.2.2 T L k n
abbrev Sp (C : Cxt) (a b : State) : Prop := Steps C.1.tables C.2.1 C.2.2.2.2.2.1 a b
def Goes (C : Cxt) (E : En) (a : State) : Prop :=
  (∃ t o, Sp C a t ∧ t.status = .running ∧ Ended t C.2.2.2.2.2.1 o ∧ ∃ v L, o = .returned v ∧ (E.2.2.2.1 v t.heap ∧ Fr E.1 L) ∧ FrameEnd C.2.2.1 o t L E.2.1 E.2.2.1) ∨ ∃ t, Sp C a t ∧ E.2.2.2.2 t
/-- from this place of the code, with this heap, these locals and this stack, and so many cells and slots made, the body comes to its end as owed -/
def W (l : Launch) (R : Room) (C : Cxt) (E : En) (h : Heap) (k n pc : Nat) (Ls : Array Slot) (st : List Value) : Prop :=
  ∀ T L, St l R C T L k n → Fr E.1 L → T.heap = h → Goes C E (T.setTop (mkF C.2.2.2.1 pc Ls st))
def Cx (C : Cxt) (Z : State) (own : String) (code : ByteArray) (ml : Nat) (ret : Option FieldType) (nm : String) (n0 : Nat) : Prop :=
  C.1.tables.exec = Jvm.exec ∧ C.2.2.2.2.2.2.2.code = code ∧ C.2.2.2.2.2.2.2.maxLocals = ml ∧ C.2.2.1.vm.findClass own = some C.2.2.2.1.cls ∧ Z.Warmed39 C.2.2.1.vm ∧ C.2.2.2.2.2.2.1.sig.returnType = ret ∧ C.2.2.2.2.2.2.1.locks = false ∧ C.2.2.2.2.2.2.1.name = nm ∧ n0 ≤ C.2.2.1.heap.size
/-- a contract of one call: these arguments, this heap -/
def Ctr (l : Launch) (Z : State) (y : MethodName) (bytes : ByteArray) (maxL : Nat) (ret : Option FieldType) (rm : Room) (n0 : Nat) (as' : Array Value) (h : Heap) (Q : Option Value → Heap → Prop) : Prop :=
  MetFree l y (head1 [Cond.code y bytes maxL ret] rm) (fun a U => a = as' ∧ Z.Warmed39 U.vm ∧ U.heap = h) (fun _ _ _ _ _ => True) (fun _ U o U' => ∃ v L, o = .returned v ∧ (Q v U'.heap ∧ Fr n0 L) ∧ FrameEnd U o U' L rm.cells rm.slots)
section Own
variable {l : Launch} {R : Room} {C : Cxt} {E : En} {h h' : Heap} {k n pc : Nat} {Ls : Array Slot} {st : List Value} {Z : State} {own nm : String} {code : ByteArray} {ml : Nat} {ret : Option FieldType} {a0 : Array Value}
theorem wd {ts : List Jvm.Cond} (hw : ∀ d ∈ ts, d.before a0 Z = true) (i : Nat) {d : Jvm.Cond} (hi : ts[i]? = some d) : d.before a0 Z = true := hw _ (List.mem_of_getElem? hi)
theorem W.via {pc' : Nat} {Ls' : Array Slot} {st' : List Value} (f : ∀ T t L, St l R C T L k n → T.heap = h → Sp C (T.setTop (mkF C.2.2.2.1 pc' Ls' st')) t → Sp C (T.setTop (mkF C.2.2.2.1 pc Ls st)) t)
    (hr : W l R C E h k n pc' Ls' st') : W l R C E h k n pc Ls st := fun T L X N eT => by
  rcases hr T L X N eT with ⟨t, o, h1, h2⟩ | ⟨t, h1, h2⟩
  · exact Or.inl ⟨t, o, f T t L X eT h1, h2⟩
  · exact Or.inr ⟨t, f T t L X eT h1, h2⟩
theorem W.more {k' n' : Nat} (hk : k ≤ k') (hn : n ≤ n') (hr : W l R C E h k' n' pc Ls st) : W l R C E h k n pc Ls st := fun T L X N eT => hr T L (X.more hk hn) N eT
/-- a step that moves the tables alone -/
theorem W.viaT {pc' : Nat} {Ls' : Array Slot} {st' : List Value} (f : ∀ T L, St l R C T L k n → T.heap = h → ∃ T', St l R C T' L k n ∧ T'.heap = h ∧ ∀ t, Sp C (T'.setTop (mkF C.2.2.2.1 pc' Ls' st')) t → Sp C (T.setTop (mkF C.2.2.2.1 pc Ls st)) t)
    (hr : W l R C E h k n pc' Ls' st') : W l R C E h k n pc Ls st := fun T L X N eT => by
  obtain ⟨T', X', e', q⟩ := f T L X eT
  rcases hr T' L X' N e' with ⟨t, o, h1, h2⟩ | ⟨t, h1, h2⟩
  · exact Or.inl ⟨t, o, q t h1, h2⟩
  · exact Or.inr ⟨t, q t h1, h2⟩
theorem size_ge {n0 : Nat} (H : Cx C Z own code ml ret nm n0) {T : State} {L : List Loc} (X : St l R C T L k n) : n0 ≤ T.heap.size := Nat.le_trans H.2.2.2.2.2.2.2.2 X.same.2.1
/-! plain steps -/
section Plain
theorem k_iloadN {i : Fin 4} {x : Int32} (H : Cx C Z own code ml ret nm E.1) (hd : decode code pc = .ok (.iload_n i, 1)) (hl : Ls[i.val]? = some (.val (.int x))) (hr : W l R C E h k n (pc + 1) Ls (.int x :: st)) : W l R C E h k n pc Ls st := .via (fun T t L X _ r => XS.iloadN X.here H.1 rfl (hb H.2.1 hd) hl r) hr
theorem k_iload {i : Nat} {x : Int32} (H : Cx C Z own code ml ret nm E.1) (hd : decode code pc = .ok (.iload i, 2)) (hl : Ls[i]? = some (.val (.int x))) (hr : W l R C E h k n (pc + 2) Ls (.int x :: st)) : W l R C E h k n pc Ls st := .via (fun T t L X _ r => XS.iload X.here H.1 rfl (hb H.2.1 hd) hl r) hr
theorem k_lloadN {i : Fin 4} {x : Int64} (H : Cx C Z own code ml ret nm E.1) (hd : decode code pc = .ok (.lload_n i, 1)) (hl : Ls[i.val]? = some (.val (.long x))) (hr : W l R C E h k n (pc + 1) Ls (.long x :: st)) : W l R C E h k n pc Ls st := .via (fun T t L X _ r => XT.lloadN X.here H.1 rfl (hb H.2.1 hd) hl r) hr
theorem k_lload {i : Nat} {x : Int64} (H : Cx C Z own code ml ret nm E.1) (hd : decode code pc = .ok (.lload i, 2)) (hl : Ls[i]? = some (.val (.long x))) (hr : W l R C E h k n (pc + 2) Ls (.long x :: st)) : W l R C E h k n pc Ls st := .via (fun T t L X _ r => XT.lload X.here H.1 rfl (hb H.2.1 hd) hl r) hr
theorem k_aloadN {i : Fin 4} {v : Value} (H : Cx C Z own code ml ret nm E.1) (hd : decode code pc = .ok (.aload_n i, 1)) (hl : Ls[i.val]? = some (.val v)) (hv : v.isRef = true) (hr : W l R C E h k n (pc + 1) Ls (v :: st)) : W l R C E h k n pc Ls st := .via (fun T t L X _ r => XS.aloadN X.here H.1 rfl (hb H.2.1 hd) hl hv r) hr
theorem k_aload {i : Nat} {v : Value} (H : Cx C Z own code ml ret nm E.1) (hd : decode code pc = .ok (.aload i, 2)) (hl : Ls[i]? = some (.val v)) (hv : v.isRef = true) (hr : W l R C E h k n (pc + 2) Ls (v :: st)) : W l R C E h k n pc Ls st := .via (fun T t L X _ r => XS.aload X.here H.1 rfl (hb H.2.1 hd) hl hv r) hr
theorem k_istoreN {i : Fin 4} {x : Int32} {Ls' : Array Slot} (H : Cx C Z own code ml ret nm E.1) (hd : decode code pc = .ok (.istore_n i, 1)) (hl : storeLocals Ls i.val (.int x) = some Ls') (hr : W l R C E h k n (pc + 1) Ls' st) : W l R C E h k n pc Ls (.int x :: st) := .via (fun T t L X _ r => XS.istoreN X.here H.1 rfl (hb H.2.1 hd) rfl hl r) hr
theorem k_istore {i : Nat} {x : Int32} {Ls' : Array Slot} (H : Cx C Z own code ml ret nm E.1) (hd : decode code pc = .ok (.istore i, 2)) (hl : storeLocals Ls i (.int x) = some Ls') (hr : W l R C E h k n (pc + 2) Ls' st) : W l R C E h k n pc Ls (.int x :: st) := .via (fun T t L X _ r => XS.istore X.here H.1 rfl (hb H.2.1 hd) rfl hl r) hr
theorem k_lstoreN {i : Fin 4} {x : Int64} {Ls' : Array Slot} (H : Cx C Z own code ml ret nm E.1) (hd : decode code pc = .ok (.lstore_n i, 1)) (hl : storeLocals Ls i.val (.long x) = some Ls') (hr : W l R C E h k n (pc + 1) Ls' st) : W l R C E h k n pc Ls (.long x :: st) := .via (fun T t L X _ r => XT.lstoreN X.here H.1 rfl (hb H.2.1 hd) rfl hl r) hr
theorem k_lstore {i : Nat} {x : Int64} {Ls' : Array Slot} (H : Cx C Z own code ml ret nm E.1) (hd : decode code pc = .ok (.lstore i, 2)) (hl : storeLocals Ls i (.long x) = some Ls') (hr : W l R C E h k n (pc + 2) Ls' st) : W l R C E h k n pc Ls (.long x :: st) := .via (fun T t L X _ r => XT.lstore X.here H.1 rfl (hb H.2.1 hd) rfl hl r) hr
theorem k_astoreN {i : Fin 4} {x : Value} {Ls' : Array Slot} (H : Cx C Z own code ml ret nm E.1) (hd : decode code pc = .ok (.astore_n i, 1)) (hv : x.isRef = true) (hl : storeLocals Ls i.val x = some Ls') (hr : W l R C E h k n (pc + 1) Ls' st) : W l R C E h k n pc Ls (x :: st) := .via (fun T t L X _ r => XS.astoreN X.here H.1 rfl (hb H.2.1 hd) rfl hv hl r) hr
theorem k_astore {i : Nat} {x : Value} {Ls' : Array Slot} (H : Cx C Z own code ml ret nm E.1) (hd : decode code pc = .ok (.astore i, 2)) (hv : x.isRef = true) (hl : storeLocals Ls i x = some Ls') (hr : W l R C E h k n (pc + 2) Ls' st) : W l R C E h k n pc Ls (x :: st) := .via (fun T t L X _ r => XS.astore X.here H.1 rfl (hb H.2.1 hd) rfl hv hl r) hr
theorem k_iconst {i : Int} (v : Int32) (H : Cx C Z own code ml ret nm E.1) (hd : decode code pc = .ok (.iconst i, 1)) (hv : Int32.ofInt i = v) (hr : W l R C E h k n (pc + 1) Ls (.int v :: st)) : W l R C E h k n pc Ls st := .via (fun T t L X _ r => XT.iconstV X.here H.1 rfl v (hb H.2.1 hd) hv r) hr
theorem k_bipush {i : Int} (v : Int32) (H : Cx C Z own code ml ret nm E.1) (hd : decode code pc = .ok (.bipush i, 2)) (hv : (Int8.ofInt i).toInt32 = v) (hr : W l R C E h k n (pc + 2) Ls (.int v :: st)) : W l R C E h k n pc Ls st := .via (fun T t L X _ r => XT.bipushV X.here H.1 rfl v (hb H.2.1 hd) hv r) hr
theorem k_sipush {i : Int} (v : Int32) (H : Cx C Z own code ml ret nm E.1) (hd : decode code pc = .ok (.sipush i, 3)) (hv : (Int16.ofInt i).toInt32 = v) (hr : W l R C E h k n (pc + 3) Ls (.int v :: st)) : W l R C E h k n pc Ls st := .via (fun T t L X _ r => XT.sipushV X.here H.1 rfl v (hb H.2.1 hd) hv r) hr
theorem k_lconst {i : Fin 2} (v : Int64) (H : Cx C Z own code ml ret nm E.1) (hd : decode code pc = .ok (.lconst i, 1)) (hv : Int64.ofNat i = v) (hr : W l R C E h k n (pc + 1) Ls (.long v :: st)) : W l R C E h k n pc Ls st := .via (fun T t L X _ r => XT.lconstV X.here H.1 rfl v (hb H.2.1 hd) hv r) hr
theorem k_aconstNull (H : Cx C Z own code ml ret nm E.1) (hd : decode code pc = .ok (.aconst_null, 1)) (hr : W l R C E h k n (pc + 1) Ls (.null :: st)) : W l R C E h k n pc Ls st := .via (fun T t L X _ r => XS.aconstNull X.here H.1 rfl (hb H.2.1 hd) r) hr
theorem k_ldcI {i : Nat} {v : Int32} (H : Cx C Z own code ml ret nm E.1) (hc : (Cond.constant own i v).before a0 Z = true) (hd : decode code pc = .ok (.ldc i, 2)) (hr : W l R C E h k n (pc + 2) Ls (.int v :: st)) : W l R C E h k n pc Ls st := .via (fun T t L X _ r => X.ldcI H.1 H.2.2.2.1 (mv H.2.2.2.2.1 hc) rfl (hb H.2.1 hd) r) hr
theorem k_ldcWI {i : Nat} {v : Int32} (H : Cx C Z own code ml ret nm E.1) (hc : (Cond.constant own i v).before a0 Z = true) (hd : decode code pc = .ok (.ldc_w i, 3)) (hr : W l R C E h k n (pc + 3) Ls (.int v :: st)) : W l R C E h k n pc Ls st := .via (fun T t L X _ r => X.ldcWI H.1 H.2.2.2.1 (mv H.2.2.2.2.1 hc) rfl (hb H.2.1 hd) r) hr
theorem k_ldc2J {i : Nat} {v : Int64} (H : Cx C Z own code ml ret nm E.1) (hc : (Cond.constantLong own i v).before a0 Z = true) (hd : decode code pc = .ok (.ldc2_w i, 3)) (hr : W l R C E h k n (pc + 3) Ls (.long v :: st)) : W l R C E h k n pc Ls st := .via (fun T t L X _ r => X.ldc2J H.1 H.2.2.2.1 (mv H.2.2.2.2.1 hc) rfl (hb H.2.1 hd) r) hr
theorem k_iinc {i : Nat} {c : Int} (v : Int32) {x : Int32} {Ls' : Array Slot} (H : Cx C Z own code ml ret nm E.1) (hd : decode code pc = .ok (.iinc i c, 3)) (hv : Int32.ofInt c = v) (hl : Ls[i]? = some (.val (.int x))) (hl' : storeLocals Ls i (.int (x + v)) = some Ls') (hr : W l R C E h k n (pc + 3) Ls' st) : W l R C E h k n pc Ls st := .via (fun T t L X _ r => XT.iincV X.here H.1 rfl v (hb H.2.1 hd) hv hl hl' r) hr
theorem k_iadd {x y : Int32} (H : Cx C Z own code ml ret nm E.1) (hd : decode code pc = .ok (.iadd, 1)) (hr : W l R C E h k n (pc + 1) Ls (.int (x + y) :: st)) : W l R C E h k n pc Ls (.int y :: .int x :: st) := .via (fun T t L X _ r => XS.iadd X.here H.1 rfl (hb H.2.1 hd) rfl r) hr
theorem k_isub {x y : Int32} (H : Cx C Z own code ml ret nm E.1) (hd : decode code pc = .ok (.isub, 1)) (hr : W l R C E h k n (pc + 1) Ls (.int (x - y) :: st)) : W l R C E h k n pc Ls (.int y :: .int x :: st) := .via (fun T t L X _ r => XS.isub X.here H.1 rfl (hb H.2.1 hd) rfl r) hr
theorem k_imul {x y : Int32} (H : Cx C Z own code ml ret nm E.1) (hd : decode code pc = .ok (.imul, 1)) (hr : W l R C E h k n (pc + 1) Ls (.int (x * y) :: st)) : W l R C E h k n pc Ls (.int y :: .int x :: st) := .via (fun T t L X _ r => XS.imul X.here H.1 rfl (hb H.2.1 hd) rfl r) hr
theorem k_idiv {x y : Int32} (H : Cx C Z own code ml ret nm E.1) (hd : decode code pc = .ok (.idiv, 1)) (hy : y ≠ 0) (hr : W l R C E h k n (pc + 1) Ls (.int (x / y) :: st)) : W l R C E h k n pc Ls (.int y :: .int x :: st) := .via (fun T t L X _ r => XS.idiv X.here H.1 rfl (hb H.2.1 hd) rfl hy r) hr
theorem k_irem {x y : Int32} (H : Cx C Z own code ml ret nm E.1) (hd : decode code pc = .ok (.irem, 1)) (hy : y ≠ 0) (hr : W l R C E h k n (pc + 1) Ls (.int (x % y) :: st)) : W l R C E h k n pc Ls (.int y :: .int x :: st) := .via (fun T t L X _ r => iremM X H.1 rfl (hb H.2.1 hd) rfl hy r) hr
theorem k_iand {x y : Int32} (H : Cx C Z own code ml ret nm E.1) (hd : decode code pc = .ok (.iand, 1)) (hr : W l R C E h k n (pc + 1) Ls (.int (x &&& y) :: st)) : W l R C E h k n pc Ls (.int y :: .int x :: st) := .via (fun T t L X _ r => XS.iand X.here H.1 rfl (hb H.2.1 hd) rfl r) hr
theorem k_ior {x y : Int32} (H : Cx C Z own code ml ret nm E.1) (hd : decode code pc = .ok (.ior, 1)) (hr : W l R C E h k n (pc + 1) Ls (.int (x ||| y) :: st)) : W l R C E h k n pc Ls (.int y :: .int x :: st) := .via (fun T t L X _ r => XT.ior X.here H.1 rfl (hb H.2.1 hd) rfl r) hr
theorem k_ixor {x y : Int32} (H : Cx C Z own code ml ret nm E.1) (hd : decode code pc = .ok (.ixor, 1)) (hr : W l R C E h k n (pc + 1) Ls (.int (x ^^^ y) :: st)) : W l R C E h k n pc Ls (.int y :: .int x :: st) := .via (fun T t L X _ r => XT.ixor X.here H.1 rfl (hb H.2.1 hd) rfl r) hr
theorem k_ishl {x y : Int32} (H : Cx C Z own code ml ret nm E.1) (hd : decode code pc = .ok (.ishl, 1)) (hr : W l R C E h k n (pc + 1) Ls (.int (x <<< (y &&& 31)) :: st)) : W l R C E h k n pc Ls (.int y :: .int x :: st) := .via (fun T t L X _ r => XT.ishl X.here H.1 rfl (hb H.2.1 hd) rfl r) hr
theorem k_ishr {x y : Int32} (H : Cx C Z own code ml ret nm E.1) (hd : decode code pc = .ok (.ishr, 1)) (hr : W l R C E h k n (pc + 1) Ls (.int (x >>> (y &&& 31)) :: st)) : W l R C E h k n pc Ls (.int y :: .int x :: st) := .via (fun T t L X _ r => XT.ishr X.here H.1 rfl (hb H.2.1 hd) rfl r) hr
theorem k_iushr {x y : Int32} (H : Cx C Z own code ml ret nm E.1) (hd : decode code pc = .ok (.iushr, 1)) (hr : W l R C E h k n (pc + 1) Ls (.int (XT.ushr x y) :: st)) : W l R C E h k n pc Ls (.int y :: .int x :: st) := .via (fun T t L X _ r => XT.iushr X.here H.1 rfl (hb H.2.1 hd) rfl r) hr
theorem k_ineg {x : Int32} (H : Cx C Z own code ml ret nm E.1) (hd : decode code pc = .ok (.ineg, 1)) (hr : W l R C E h k n (pc + 1) Ls (.int (-x) :: st)) : W l R C E h k n pc Ls (.int x :: st) := .via (fun T t L X _ r => XS.ineg X.here H.1 rfl (hb H.2.1 hd) rfl r) hr
theorem k_ladd {x y : Int64} (H : Cx C Z own code ml ret nm E.1) (hd : decode code pc = .ok (.ladd, 1)) (hr : W l R C E h k n (pc + 1) Ls (.long (x + y) :: st)) : W l R C E h k n pc Ls (.long y :: .long x :: st) := .via (fun T t L X _ r => XT.ladd X.here H.1 rfl (hb H.2.1 hd) rfl r) hr
theorem k_lsub {x y : Int64} (H : Cx C Z own code ml ret nm E.1) (hd : decode code pc = .ok (.lsub, 1)) (hr : W l R C E h k n (pc + 1) Ls (.long (x - y) :: st)) : W l R C E h k n pc Ls (.long y :: .long x :: st) := .via (fun T t L X _ r => XT.lsub X.here H.1 rfl (hb H.2.1 hd) rfl r) hr
theorem k_land {x y : Int64} (H : Cx C Z own code ml ret nm E.1) (hd : decode code pc = .ok (.land, 1)) (hr : W l R C E h k n (pc + 1) Ls (.long (x &&& y) :: st)) : W l R C E h k n pc Ls (.long y :: .long x :: st) := .via (fun T t L X _ r => XT.land X.here H.1 rfl (hb H.2.1 hd) rfl r) hr
theorem k_lor {x y : Int64} (H : Cx C Z own code ml ret nm E.1) (hd : decode code pc = .ok (.lor, 1)) (hr : W l R C E h k n (pc + 1) Ls (.long (x ||| y) :: st)) : W l R C E h k n pc Ls (.long y :: .long x :: st) := .via (fun T t L X _ r => XT.lor X.here H.1 rfl (hb H.2.1 hd) rfl r) hr
theorem k_lxor {x y : Int64} (H : Cx C Z own code ml ret nm E.1) (hd : decode code pc = .ok (.lxor, 1)) (hr : W l R C E h k n (pc + 1) Ls (.long (x ^^^ y) :: st)) : W l R C E h k n pc Ls (.long y :: .long x :: st) := .via (fun T t L X _ r => XT.lxor X.here H.1 rfl (hb H.2.1 hd) rfl r) hr
theorem k_lshl {x : Int64} {y : Int32} (H : Cx C Z own code ml ret nm E.1) (hd : decode code pc = .ok (.lshl, 1)) (hr : W l R C E h k n (pc + 1) Ls (.long (x <<< (y.toInt64 &&& 63)) :: st)) : W l R C E h k n pc Ls (.int y :: .long x :: st) := .via (fun T t L X _ r => XT.lshl X.here H.1 rfl (hb H.2.1 hd) rfl r) hr
theorem k_lushr {x : Int64} {y : Int32} (H : Cx C Z own code ml ret nm E.1) (hd : decode code pc = .ok (.lushr, 1)) (hr : W l R C E h k n (pc + 1) Ls (.long (XT.ushrL x y) :: st)) : W l R C E h k n pc Ls (.int y :: .long x :: st) := .via (fun T t L X _ r => XT.lushr X.here H.1 rfl (hb H.2.1 hd) rfl r) hr
theorem k_i2l {x : Int32} (H : Cx C Z own code ml ret nm E.1) (hd : decode code pc = .ok (.i2l, 1)) (hr : W l R C E h k n (pc + 1) Ls (.long x.toInt64 :: st)) : W l R C E h k n pc Ls (.int x :: st) := .via (fun T t L X _ r => XT.i2l X.here H.1 rfl (hb H.2.1 hd) rfl r) hr
theorem k_l2i {x : Int64} (H : Cx C Z own code ml ret nm E.1) (hd : decode code pc = .ok (.l2i, 1)) (hr : W l R C E h k n (pc + 1) Ls (.int x.toInt32 :: st)) : W l R C E h k n pc Ls (.long x :: st) := .via (fun T t L X _ r => XT.l2i X.here H.1 rfl (hb H.2.1 hd) rfl r) hr
theorem k_i2b {x : Int32} (H : Cx C Z own code ml ret nm E.1) (hd : decode code pc = .ok (.i2b, 1)) (hr : W l R C E h k n (pc + 1) Ls (.int x.toInt8.toInt32 :: st)) : W l R C E h k n pc Ls (.int x :: st) := .via (fun T t L X _ r => XT.i2b X.here H.1 rfl (hb H.2.1 hd) rfl r) hr
theorem k_i2c {x : Int32} (H : Cx C Z own code ml ret nm E.1) (hd : decode code pc = .ok (.i2c, 1)) (hr : W l R C E h k n (pc + 1) Ls (.int x.toUInt32.toUInt16.toUInt32.toInt32 :: st)) : W l R C E h k n pc Ls (.int x :: st) := .via (fun T t L X _ r => XT.i2c X.here H.1 rfl (hb H.2.1 hd) rfl r) hr
theorem k_lcmp {x y : Int64} (H : Cx C Z own code ml ret nm E.1) (hd : decode code pc = .ok (.lcmp, 1)) (hr : W l R C E h k n (pc + 1) Ls (.int (XT.cmpL x y) :: st)) : W l R C E h k n pc Ls (.long y :: .long x :: st) := .via (fun T t L X _ r => XT.lcmp X.here H.1 rfl (hb H.2.1 hd) rfl r) hr
theorem k_dup {v : Value} (H : Cx C Z own code ml ret nm E.1) (hd : decode code pc = .ok (.dup, 1)) (hc : v.category = 1) (hr : W l R C E h k n (pc + 1) Ls (v :: v :: st)) : W l R C E h k n pc Ls (v :: st) := .via (fun T t L X _ r => XS.dup X.here H.1 rfl (hb H.2.1 hd) rfl hc r) hr
theorem k_pop {v : Value} (H : Cx C Z own code ml ret nm E.1) (hd : decode code pc = .ok (.pop, 1)) (hc : v.category = 1) (hr : W l R C E h k n (pc + 1) Ls st) : W l R C E h k n pc Ls (v :: st) := .via (fun T t L X _ r => XT.pop X.here H.1 rfl (hb H.2.1 hd) rfl hc r) hr
theorem k_dupX1 {v w : Value} (H : Cx C Z own code ml ret nm E.1) (hd : decode code pc = .ok (.dup_x1, 1)) (hc : v.category = 1) (hc' : w.category = 1) (hr : W l R C E h k n (pc + 1) Ls (v :: w :: v :: st)) : W l R C E h k n pc Ls (v :: w :: st) := .via (fun T t L X _ r => XT.dupX1 X.here H.1 rfl (hb H.2.1 hd) rfl hc hc' r) hr
theorem k_dup2 {v w : Value} (H : Cx C Z own code ml ret nm E.1) (hd : decode code pc = .ok (.dup2, 1)) (hc : v.category = 1) (hc' : w.category = 1) (hr : W l R C E h k n (pc + 1) Ls (v :: w :: v :: w :: st)) : W l R C E h k n pc Ls (v :: w :: st) := .via (fun T t L X _ r => XT.dup2 X.here H.1 rfl (hb H.2.1 hd) rfl hc hc' r) hr
theorem k_goto {o : Int} (pc' : Nat) (H : Cx C Z own code ml ret nm E.1) (hd : decode code pc = .ok (.goto o, 3)) (hp : (pc : Int) + o = (pc' : Int)) (hr : W l R C E h k n pc' Ls st) : W l R C E h k n pc Ls st := .via (fun T t L X _ r => XS.goto X.here H.1 rfl rfl (hb H.2.1 hd) (by rw [hp]; exact Int.natCast_nonneg _) (by rw [hp]; rfl) r) hr
theorem k_icmpT {cd : ClassFile.Cond} {o : Int} {x y : Int32} (pc' : Nat) (H : Cx C Z own code ml ret nm E.1) (hd : decode code pc = .ok (.if_icmp cd o, 3)) (hp : (pc : Int) + o = (pc' : Int)) (hc : if_icmp.holds cd x y = true) (hr : W l R C E h k n pc' Ls st) : W l R C E h k n pc Ls (.int y :: .int x :: st) :=
  .via (fun T t L X _ r => XS.icmpYes X.here H.1 rfl rfl (hb H.2.1 hd) rfl hc (by rw [hp]; exact Int.natCast_nonneg _) (by rw [hp]; rfl) r) hr
theorem k_icmpF {cd : ClassFile.Cond} {o : Int} {x y : Int32} (H : Cx C Z own code ml ret nm E.1) (hd : decode code pc = .ok (.if_icmp cd o, 3)) (hc : if_icmp.holds cd x y = false) (hr : W l R C E h k n (pc + 3) Ls st) : W l R C E h k n pc Ls (.int y :: .int x :: st) :=
  .via (fun T t L X _ r => XS.icmpNo X.here H.1 rfl (hb H.2.1 hd) rfl hc r) hr
theorem k_ifT {cd : ClassFile.Cond} {o : Int} {x : Int32} (pc' : Nat) (H : Cx C Z own code ml ret nm E.1) (hd : decode code pc = .ok (.ifCond cd o, 3)) (hp : (pc : Int) + o = (pc' : Int)) (hc : ifCond.holds cd x = true) (hr : W l R C E h k n pc' Ls st) : W l R C E h k n pc Ls (.int x :: st) :=
  .via (fun T t L X _ r => XS.ifYes X.here H.1 rfl rfl (hb H.2.1 hd) rfl hc (by rw [hp]; exact Int.natCast_nonneg _) (by rw [hp]; rfl) r) hr
theorem k_ifF {cd : ClassFile.Cond} {o : Int} {x : Int32} (H : Cx C Z own code ml ret nm E.1) (hd : decode code pc = .ok (.ifCond cd o, 3)) (hc : ifCond.holds cd x = false) (hr : W l R C E h k n (pc + 3) Ls st) : W l R C E h k n pc Ls (.int x :: st) :=
  .via (fun T t L X _ r => XS.ifNo X.here H.1 rfl (hb H.2.1 hd) rfl hc r) hr
theorem k_acmpT {cd : ClassFile.ACond} {o : Int} {x y : Value} (pc' : Nat) (H : Cx C Z own code ml ret nm E.1) (hd : decode code pc = .ok (.if_acmp cd o, 3)) (hp : (pc : Int) + o = (pc' : Int)) (hx : x.isRef = true) (hy : y.isRef = true) (hc : XT.acmp cd x y = true) (hr : W l R C E h k n pc' Ls st) : W l R C E h k n pc Ls (y :: x :: st) :=
  .via (fun T t L X _ r => XT.acmpYes X.here H.1 rfl rfl (hb H.2.1 hd) rfl hx hy hc (by rw [hp]; exact Int.natCast_nonneg _) (by rw [hp]; rfl) r) hr
theorem k_acmpF {cd : ClassFile.ACond} {o : Int} {x y : Value} (H : Cx C Z own code ml ret nm E.1) (hd : decode code pc = .ok (.if_acmp cd o, 3)) (hx : x.isRef = true) (hy : y.isRef = true) (hc : XT.acmp cd x y = false) (hr : W l R C E h k n (pc + 3) Ls st) : W l R C E h k n pc Ls (y :: x :: st) :=
  .via (fun T t L X _ r => XT.acmpNo X.here H.1 rfl (hb H.2.1 hd) rfl hx hy hc r) hr
theorem k_nonnullT {o : Int} {b : Addr} (pc' : Nat) (H : Cx C Z own code ml ret nm E.1) (hd : decode code pc = .ok (.ifnonnull o, 3)) (hp : (pc : Int) + o = (pc' : Int)) (hr : W l R C E h k n pc' Ls st) : W l R C E h k n pc Ls (.ref b :: st) :=
  .via (fun T t L X _ r => XT.ifnonnullYes X.here H.1 rfl rfl (hb H.2.1 hd) rfl (by rw [hp]; exact Int.natCast_nonneg _) (by rw [hp]; rfl) r) hr
theorem k_tsw {dflt low high o : Int} {offs : Array Int} {len : Nat} {i : Int32} (pc' : Nat) (H : Cx C Z own code ml ret nm E.1) (hd : decode code pc = .ok (.tableswitch dflt low high offs, len)) (hin : ¬ (i.toInt < low ∨ i.toInt > high)) (hoff : offs[(i.toInt - low).toNat]? = some o) (hp : (pc : Int) + o = (pc' : Int)) (hr : W l R C E h k n pc' Ls st) : W l R C E h k n pc Ls (.int i :: st) :=
  .via (fun T t L X _ r => XS.tswIn X.here H.1 rfl rfl (hb H.2.1 hd) rfl hin hoff (by rw [hp]; exact Int.natCast_nonneg _) (by rw [hp]; rfl) r) hr
theorem lsw {tb : Tables} [Ours tb] {e : Env} {below : List Frame} {T target : State} {m : MethodId} {c : Code} {g : JFrame} (h : At T m c below) (hx : tb.exec = Jvm.exec) (hg : g.method = m) {dflt : Int} {pairs : Array (Int × Int)} {len : Nat} {pc0 pc' : Nat} (hpc : g.pc = pc0) (hd : decode c.code g.pc = .ok (.lookupswitch dflt pairs, len)) {i : Int32} {rest : List Value} (hs : g.stack = .int i :: rest)
    (ho : 0 ≤ (pc0 : Int) + lookupswitch.offset pairs.toList dflt i.toInt) (hp : ((pc0 : Int) + lookupswitch.offset pairs.toList dflt i.toInt).toNat = pc') (hsort : ∀ (a b c d : Int), ((a, b), c, d) ∈ pairs.toList.zip pairs.toList.tail → a < c) (hr : Steps tb e below (T.setTop { g with pc := pc', stack := rest }) target) : Steps tb e below (T.setTop g) target := by
  subst hg hpc hp
  jvm_step h [h.top, hx, hd, hs, ho, lookupswitch.wp_chain]
  exact ⟨hsort, hr⟩
theorem k_lsw {dflt : Int} {pairs : Array (Int × Int)} {len : Nat} {i : Int32} (pc' : Nat) (H : Cx C Z own code ml ret nm E.1) (hd : decode code pc = .ok (.lookupswitch dflt pairs, len)) (hsort : ∀ (a b c d : Int), ((a, b), c, d) ∈ pairs.toList.zip pairs.toList.tail → a < c) (hp : (pc : Int) + lookupswitch.offset pairs.toList dflt i.toInt = (pc' : Int)) (hr : W l R C E h k n pc' Ls st) : W l R C E h k n pc Ls (.int i :: st) :=
  .via (fun T t L X _ r => lsw X.here H.1 rfl rfl (hb H.2.1 hd) rfl (by rw [hp]; exact Int.natCast_nonneg _) (by rw [hp]; rfl) hsort r) hr
end Plain
/-! branches, both ways -/
theorem k_icmp {cd : ClassFile.Cond} {o : Int} {x y : Int32} {P : Prop} [Decidable P] (pc' : Nat) (H : Cx C Z own code ml ret nm E.1) (hd : decode code pc = .ok (.if_icmp cd o, 3)) (hp : (pc : Int) + o = (pc' : Int)) (hT : P → if_icmp.holds cd x y = true) (hF : ¬ P → if_icmp.holds cd x y = false)
    (h1 : P → W l R C E h k n pc' Ls st) (h2 : ¬ P → W l R C E h k n (pc + 3) Ls st) : W l R C E h k n pc Ls (.int y :: .int x :: st) := by
  by_cases q : P
  · exact k_icmpT pc' H hd hp (hT q) (h1 q)
  · exact k_icmpF H hd (hF q) (h2 q)
theorem k_iff0 {cd : ClassFile.Cond} {o : Int} {x : Int32} {P : Prop} [Decidable P] (pc' : Nat) (H : Cx C Z own code ml ret nm E.1) (hd : decode code pc = .ok (.ifCond cd o, 3)) (hp : (pc : Int) + o = (pc' : Int)) (hT : P → ifCond.holds cd x = true) (hF : ¬ P → ifCond.holds cd x = false)
    (h1 : P → W l R C E h k n pc' Ls st) (h2 : ¬ P → W l R C E h k n (pc + 3) Ls st) : W l R C E h k n pc Ls (.int x :: st) := by
  by_cases q : P
  · exact k_ifT pc' H hd hp (hT q) (h1 q)
  · exact k_ifF H hd (hF q) (h2 q)
theorem k_icmpR {cd : ClassFile.Cond} {o : Int} {x y : Int32} {P : Prop} [Decidable P] (pc' : Nat) (H : Cx C Z own code ml ret nm E.1) (hd : decode code pc = .ok (.if_icmp cd o, 3)) (hp : (pc : Int) + o = (pc' : Int)) (hT : ¬ P → if_icmp.holds cd x y = true) (hF : P → if_icmp.holds cd x y = false)
    (h1 : ¬ P → W l R C E h k n pc' Ls st) (h2 : P → W l R C E h k n (pc + 3) Ls st) : W l R C E h k n pc Ls (.int y :: .int x :: st) := by
  by_cases q : P
  · exact k_icmpF H hd (hF q) (h2 q)
  · exact k_icmpT pc' H hd hp (hT q) (h1 q)
theorem k_iff0R {cd : ClassFile.Cond} {o : Int} {x : Int32} {P : Prop} [Decidable P] (pc' : Nat) (H : Cx C Z own code ml ret nm E.1) (hd : decode code pc = .ok (.ifCond cd o, 3)) (hp : (pc : Int) + o = (pc' : Int)) (hT : ¬ P → ifCond.holds cd x = true) (hF : P → ifCond.holds cd x = false)
    (h1 : ¬ P → W l R C E h k n pc' Ls st) (h2 : P → W l R C E h k n (pc + 3) Ls st) : W l R C E h k n pc Ls (.int x :: st) := by
  by_cases q : P
  · exact k_ifF H hd (hF q) (h2 q)
  · exact k_ifT pc' H hd hp (hT q) (h1 q)
theorem k_acmp {cd : ClassFile.ACond} {o : Int} {x y : Value} {P : Prop} [Decidable P] (pc' : Nat) (H : Cx C Z own code ml ret nm E.1) (hd : decode code pc = .ok (.if_acmp cd o, 3)) (hp : (pc : Int) + o = (pc' : Int)) (hx : x.isRef = true) (hy : y.isRef = true) (hT : P → XT.acmp cd x y = true) (hF : ¬ P → XT.acmp cd x y = false)
    (h1 : P → W l R C E h k n pc' Ls st) (h2 : ¬ P → W l R C E h k n (pc + 3) Ls st) : W l R C E h k n pc Ls (y :: x :: st) := by
  by_cases q : P
  · exact k_acmpT pc' H hd hp hx hy (hT q) (h1 q)
  · exact k_acmpF H hd hx hy (hF q) (h2 q)
/-! heap steps -/
/-- an array: its kind and all that it holds -/
def Vec (Z : State) (h : Heap) (a : Addr) (ty : FieldType) (vs : List Value) : Prop := ∃ c : Cell, Arr Z h a c ty ∧ c.slots = vs.toArray ∧ vs.length < 2 ^ 31
abbrev IA (Z : State) (h : Heap) (a : Addr) (xs : List Int32) : Prop := Vec Z h a .int (xs.map Value.int)
abbrev JA (Z : State) (h : Heap) (a : Addr) (xs : List Int64) : Prop := Vec Z h a .long (xs.map Value.long)
abbrev BA (Z : State) (h : Heap) (a : Addr) (xs : List Int8) : Prop := Vec Z h a .byte (xs.map fun b => Value.int b.toInt32)
abbrev CA (Z : State) (h : Heap) (a : Addr) (xs : List UInt16) : Prop := Vec Z h a .char (xs.map fun b => Value.int b.toUInt32.toInt32)
theorem Vec.lt {a : Addr} {ty : FieldType} {vs : List Value} (F : Vec Z h a ty vs) : a < h.size := by obtain ⟨c, A, -⟩ := F; exact A.lt
theorem Vec.ext {a : Addr} {ty : FieldType} {vs : List Value} (F : Vec Z h a ty vs) (X : Ext h h') : Vec Z h' a ty vs := by obtain ⟨c, A, r⟩ := F; exact ⟨c, A.ext X, r⟩
theorem Vec.keep {a : Addr} {ty : FieldType} {vs : List Value} {ws : List Addr} (F : Vec Z h a ty vs) (K : Keep h h' ws) (q : a ∉ ws) : Vec Z h' a ty vs := by obtain ⟨c, A, r⟩ := F; exact ⟨c, ⟨K.2.1 a c A.1 q, A.2⟩, r⟩
theorem Vec.other {a b : Addr} {ty : FieldType} {vs : List Value} {sl : Nat} {v : Value} (F : Vec Z h b ty vs) (X : Wr h h' a sl v) (q : b ≠ a) : Vec Z h' b ty vs := by obtain ⟨c, A, r⟩ := F; exact ⟨c, A.other X q, r⟩
theorem Vec.set {a : Addr} {ty : FieldType} {vs : List Value} {sl : Nat} {v : Value} (F : Vec Z h a ty vs) (X : Wr h h' a sl v) : Vec Z h' a ty (vs.set sl v) := by
  obtain ⟨c, A, e, r⟩ := F
  refine ⟨_, A.same X, ?_, by simpa using r⟩
  simp [Cell.setSlot, e]
theorem Vec.ne {a b : Addr} {ty ty' : FieldType} {vs vs' : List Value} (F : Vec Z h a ty vs) (G : Vec Z h b ty' vs') (q : ty ≠ ty') : a ≠ b := fun e => by
  subst e
  obtain ⟨c, A, -⟩ := F
  obtain ⟨c', A', -⟩ := G
  cases A.1.symm.trans A'.1
  obtain ⟨-, k, h1, comp, h2⟩ := A.2.1
  obtain ⟨-, k', h1', comp', h2'⟩ := A'.2.1
  cases h1.symm.trans h1'
  rw [h2] at h2'; cases h2'; exact q rfl
theorem Vec.neX {a b : Addr} {ty : FieldType} {vs : List Value} {cls : String} {kk : Nat} (G : Vec Z h b ty vs) (F : Exa Z h a cls) (wi : (Cond.instantiable cls kk).before a0 Z = true) : a ≠ b := by obtain ⟨c, A, -⟩ := G; exact ne_arr F wi A
theorem Keep.ofExt (X : Ext h h') : Keep h h' [] := (Keep.refl h []).ext X
theorem idx_ok {j : Int32} {i : Nat} (hj : j.toInt = (i : Int)) : ¬ j < 0 ∧ j.toNatClampNeg = i := by
  have e0 : (0 : Int32).toInt = 0 := rfl
  constructor
  · rw [Int32.lt_iff_toInt_lt]; omega
  · simp only [Int32.toNatClampNeg, hj]; rfl
theorem len_ok {c : Cell} {vs : List Value} (e : c.slots = vs.toArray) (hl : vs.length < 2 ^ 31) : c.slots.size.toInt32.toInt = (vs.length : Int) := by
  rw [e]; exact len_toInt hl
section Arrs
variable {a : Addr} {j : Int32} {i : Nat} {v : Value} {vs : List Value}
theorem in_ok {c : Cell} (e : c.slots = vs.toArray) (hj : j.toInt = (i : Int)) (hv : vs[i]? = some v) : ¬ (j < 0 ∨ c.slots.size ≤ j.toNatClampNeg) ∧ c.slots[j.toNatClampNeg]? = some v := by
  obtain ⟨q1, q2⟩ := idx_ok hj
  rw [q2, e]
  have hlt : i < vs.length := (List.getElem?_eq_some_iff.mp hv).1
  exact ⟨fun z => z.elim q1 (fun z => absurd hlt (Nat.not_lt.mpr (by simpa using z))), by simpa using hv⟩
theorem k_arraylength {ty : FieldType} {N : Int32} (H : Cx C Z own code ml ret nm E.1) (A : Vec Z h a ty vs) (hN : N.toInt = (vs.length : Int)) (hd : decode code pc = .ok (.arraylength, 1)) (hr : W l R C E h k n (pc + 1) Ls (.int N :: st)) : W l R C E h k n pc Ls (.ref a :: st) := by
  obtain ⟨c, A, e, hl⟩ := A
  have q : c.slots.size.toInt32 = N := Int32.toInt_inj.mp ((len_ok e hl).trans hN.symm)
  subst q
  exact .via (fun T t L X eT r => X.arraylength H.1 (by rw [eT]; exact A.1) (State.isArrayOf_alike H.2.2.2.2.1.alike A.2.1) (g := mkF C.2.2.2.1 pc Ls (.ref a :: st)) rfl rfl (hb H.2.1 hd) _ r) hr
theorem k_iaload (H : Cx C Z own code ml ret nm E.1) (A : Vec Z h a .int vs) (hj : j.toInt = (i : Int)) (hv : vs[i]? = some v) (hd : decode code pc = .ok (.iaload, 1)) (hr : W l R C E h k n (pc + 1) Ls (v :: st)) : W l R C E h k n pc Ls (.int j :: .ref a :: st) := by
  obtain ⟨c, A, e, hl⟩ := A
  obtain ⟨q1, q2⟩ := in_ok e hj hv
  exact .via (fun T t L X eT r => X.iaload H.1 (by rw [eT]; exact A.1) (State.isArrayOf_alike H.2.2.2.2.1.alike A.2.1) A.2.2 q1 q2 (g := mkF C.2.2.2.1 pc Ls (.int j :: .ref a :: st)) rfl rfl (hb H.2.1 hd) _ r) hr
theorem k_laload (H : Cx C Z own code ml ret nm E.1) (A : Vec Z h a .long vs) (hj : j.toInt = (i : Int)) (hv : vs[i]? = some v) (hd : decode code pc = .ok (.laload, 1)) (hr : W l R C E h k n (pc + 1) Ls (v :: st)) : W l R C E h k n pc Ls (.int j :: .ref a :: st) := by
  obtain ⟨c, A, e, hl⟩ := A
  obtain ⟨q1, q2⟩ := in_ok e hj hv
  exact .via (fun T t L X eT r => X.laload H.1 (by rw [eT]; exact A.1) (State.isArrayOf_alike H.2.2.2.2.1.alike A.2.1) A.2.2 q1 q2 (g := mkF C.2.2.2.1 pc Ls (.int j :: .ref a :: st)) rfl rfl (hb H.2.1 hd) _ r) hr
theorem k_caload (H : Cx C Z own code ml ret nm E.1) (A : Vec Z h a .char vs) (hj : j.toInt = (i : Int)) (hv : vs[i]? = some v) (hd : decode code pc = .ok (.caload, 1)) (hr : W l R C E h k n (pc + 1) Ls (v :: st)) : W l R C E h k n pc Ls (.int j :: .ref a :: st) := by
  obtain ⟨c, A, e, hl⟩ := A
  obtain ⟨q1, q2⟩ := in_ok e hj hv
  exact .via (fun T t L X eT r => X.caload H.1 (by rw [eT]; exact A.1) (State.isArrayOf_alike H.2.2.2.2.1.alike A.2.1) A.2.2 q1 q2 (g := mkF C.2.2.2.1 pc Ls (.int j :: .ref a :: st)) rfl rfl (hb H.2.1 hd) _ r) hr
theorem k_baload (H : Cx C Z own code ml ret nm E.1) (A : Vec Z h a .byte vs) (hj : j.toInt = (i : Int)) (hv : vs[i]? = some v) (hd : decode code pc = .ok (.baload, 1)) (hr : W l R C E h k n (pc + 1) Ls (v :: st)) : W l R C E h k n pc Ls (.int j :: .ref a :: st) := by
  obtain ⟨c, A, e, hl⟩ := A
  obtain ⟨q1, q2⟩ := in_ok e hj hv
  exact .via (fun T t L X eT r => X.baloadBytes H.1 (by rw [eT]; exact A.1) (State.isArrayOf_alike H.2.2.2.2.1.alike A.2.1) A.2.2 q1 q2 (g := mkF C.2.2.2.1 pc Ls (.int j :: .ref a :: st)) rfl rfl (hb H.2.1 hd) _ r) hr
theorem out_ok {c : Cell} (e : c.slots = vs.toArray) (hj : j.toInt = (i : Int)) (hi : i < vs.length) : ¬ (j < 0 ∨ c.slots.size ≤ j.toNatClampNeg) := by
  obtain ⟨q1, q2⟩ := idx_ok hj
  rw [q2, e]
  exact fun z => z.elim q1 (fun z => absurd hi (Nat.not_lt.mpr (by simpa using z)))
theorem Goes.step {T T' : State} {g g' : JFrame} (q : ∀ t, Sp C (T'.setTop g') t → Sp C (T.setTop g) t) (r : Goes C E (T'.setTop g')) : Goes C E (T.setTop g) := by
  rcases r with ⟨t, o, h1, h2⟩ | ⟨t, h1, h2⟩
  · exact Or.inl ⟨t, o, q t h1, h2⟩
  · exact Or.inr ⟨t, q t h1, h2⟩
theorem k_iastore {x : Int32} (H : Cx C Z own code ml ret nm E.1) (A : Vec Z h a .int vs) (hj : j.toInt = (i : Int)) (hi : i < vs.length) (ge : E.1 ≤ a) (hd : decode code pc = .ok (.iastore, 1))
    (hr : ∀ h', Keep h h' [a] → Vec Z h' a .int (vs.set i (.int x)) → W l R C E h' k n (pc + 1) Ls st) : W l R C E h k n pc Ls (.int x :: .int j :: .ref a :: st) := fun T L X N eT => by
  have A' := A
  obtain ⟨c, A, e, hl⟩ := A
  obtain ⟨T', h', X', e', Wx, q⟩ := stI X H.1 H.2.2.2.2.1 eT A (out_ok e hj hi) (g := mkF C.2.2.2.1 pc Ls (.int x :: .int j :: .ref a :: st)) rfl rfl (hb H.2.1 hd)
  refine .step q (hr h' (Keep.of_wr Wx) ?_ T' _ X' (Fr.snoc X' N ge) e')
  rw [(idx_ok hj).2] at Wx; exact A'.set Wx
theorem k_lastore {x : Int64} (H : Cx C Z own code ml ret nm E.1) (A : Vec Z h a .long vs) (hj : j.toInt = (i : Int)) (hi : i < vs.length) (ge : E.1 ≤ a) (hd : decode code pc = .ok (.lastore, 1))
    (hr : ∀ h', Keep h h' [a] → Vec Z h' a .long (vs.set i (.long x)) → W l R C E h' k n (pc + 1) Ls st) : W l R C E h k n pc Ls (.long x :: .int j :: .ref a :: st) := fun T L X N eT => by
  have A' := A
  obtain ⟨c, A, e, hl⟩ := A
  obtain ⟨T', h', X', e', Wx, q⟩ := stJ X H.1 H.2.2.2.2.1 eT A (out_ok e hj hi) (g := mkF C.2.2.2.1 pc Ls (.long x :: .int j :: .ref a :: st)) rfl rfl (hb H.2.1 hd)
  refine .step q (hr h' (Keep.of_wr Wx) ?_ T' _ X' (Fr.snoc X' N ge) e')
  rw [(idx_ok hj).2] at Wx; exact A'.set Wx
theorem k_bastore {x : Int32} (H : Cx C Z own code ml ret nm E.1) (A : Vec Z h a .byte vs) (hj : j.toInt = (i : Int)) (hi : i < vs.length) (ge : E.1 ≤ a) (hd : decode code pc = .ok (.bastore, 1))
    (hr : ∀ h', Keep h h' [a] → Vec Z h' a .byte (vs.set i (.int x.toInt8.toInt32)) → W l R C E h' k n (pc + 1) Ls st) : W l R C E h k n pc Ls (.int x :: .int j :: .ref a :: st) := fun T L X N eT => by
  have A' := A
  obtain ⟨c, A, e, hl⟩ := A
  obtain ⟨T', h', X', e', Wx, q⟩ := stB X H.1 H.2.2.2.2.1 eT A (out_ok e hj hi) (g := mkF C.2.2.2.1 pc Ls (.int x :: .int j :: .ref a :: st)) rfl rfl (hb H.2.1 hd)
  refine .step q (hr h' (Keep.of_wr Wx) ?_ T' _ X' (Fr.snoc X' N ge) e')
  rw [(idx_ok hj).2] at Wx; exact A'.set Wx
theorem k_castore {x : Int32} (H : Cx C Z own code ml ret nm E.1) (A : Vec Z h a .char vs) (hj : j.toInt = (i : Int)) (hi : i < vs.length) (ge : E.1 ≤ a) (hd : decode code pc = .ok (.castore, 1))
    (hr : ∀ h', Keep h h' [a] → Vec Z h' a .char (vs.set i (.int x.toUInt32.toUInt16.toUInt32.toInt32)) → W l R C E h' k n (pc + 1) Ls st) : W l R C E h k n pc Ls (.int x :: .int j :: .ref a :: st) := fun T L X N eT => by
  have A' := A
  obtain ⟨c, A, e, hl⟩ := A
  obtain ⟨T', h', X', e', Wx, q⟩ := stC X H.1 H.2.2.2.2.1 eT A (out_ok e hj hi) (g := mkF C.2.2.2.1 pc Ls (.int x :: .int j :: .ref a :: st)) rfl rfl (hb H.2.1 hd)
  refine .step q (hr h' (Keep.of_wr Wx) ?_ T' _ X' (Fr.snoc X' N ge) e')
  rw [(idx_ok hj).2] at Wx; exact A'.set Wx
end Arrs
/-- newarray of a plain kind, at most cap long -/
theorem k_newarray {aty : ArrayType} {ty : FieldType} {len : Int32} (m cap : Nat) (H : Cx C Z own code ml ret nm E.1) (w : (Cond.arrayClass ty).before a0 Z = true) (hty : newarray.typeOf aty = ty) (hd : decode code pc = .ok (.newarray aty, 2)) (hm : len.toInt = (m : Int)) (hcap : m ≤ cap) (hB : cap * 8 ≤ 536870912) (hC : k + 1 ≤ R.cells) (hS : n + cap ≤ R.slots)
    (hr : ∀ h' a, a = h.size → E.1 ≤ a → Ext h h' → Exa Z h' a ("[" ++ ty.toString) → Vec Z h' a ty (List.replicate m (defaultValue ty)) → W l R C E h' (k + 1) (n + cap) (pc + 2) Ls (.ref a :: st)) : W l R C E h k n pc Ls (.int len :: st) := fun T L X N eT => by
  subst hty
  obtain ⟨q1, q2⟩ := idx_ok hm
  obtain ⟨T', h', cA, X', e', Ex, A, XA, q⟩ := newPE X H.1 H.2.2.2.2.1 w eT (g := mkF C.2.2.2.1 pc Ls (.int len :: st)) rfl (hb H.2.1 hd) rfl q1 (cap := cap) (by rw [q2]; exact hcap) hB hC hS rfl
  have hlt : m < 2 ^ 31 := by have := len.toInt_lt; omega
  refine .step q (hr h' h.size rfl (by rw [← eT]; exact size_ge H X) Ex XA ⟨_, A, ?_, by simpa using hlt⟩ T' _ X' N e')
  simp [newA, q2]
theorem k_newObj {idx ns : Nat} {cls : String} (H : Cx C Z own code ml ret nm E.1) (w : (Cond.classLink own idx cls).before a0 Z = true) (wi : (Cond.instantiable cls ns).before a0 Z = true) (wz : (Cond.initialized cls).before a0 Z = true) (hd : decode code pc = .ok (.new idx, 3)) (hC : k + 1 ≤ R.cells) (hS : n + ns ≤ R.slots)
    (hr : ∀ h' a, a = h.size → E.1 ≤ a → Ext h h' → Exa Z h' a cls → (∀ {O nf d : String} {ty : FieldType}, Laid Z a0 cls O nf d → parseFieldDescriptor d = some ty → Fld Z h' a O nf d (defaultValue ty)) → W l R C E h' (k + 1) (n + ns) (pc + 3) Ls (.ref a :: st)) : W l R C E h k n pc Ls st := fun T L X N eT => by
  obtain ⟨T', h', X', e', Ex, A, D, -, q⟩ := newO X H.1 H.2.2.2.2.1 H.2.2.2.1 w wi wz eT (g := mkF C.2.2.2.1 pc Ls st) rfl (hb H.2.1 hd) hC hS
  exact .step q (hr h' h.size rfl (by rw [← eT]; exact size_ge H X) Ex A D T' _ X' N e')
theorem k_initObj {idx w : Nat} {a : Addr} (H : Cx C Z own code ml ret nm E.1) (w1 : (Cond.methodLink own idx Lib.objectInit).before a0 Z = true) (w2 : (Cond.instanceMethod Lib.objectInit).before a0 Z = true) (w3 : (Cond.code Lib.objectInit ⟨#[0xb1]⟩ 1 none).before a0 Z = true) (hd : decode code pc = .ok (.invokespecial idx, 3)) (hsz : Ls.size = ml) (hF : 1 ≤ R.frames)
    (hw : (st.map fun v => v.category).sum = w) (hL : w + 12 ≤ R.locals) (hr : W l R C E h k n (pc + 3) Ls st) : W l R C E h k n pc Ls (.ref a :: st) :=
  .viaT (fun T L X eT => initO X H.1 H.2.2.2.2.1 H.2.2.2.1 w1 w2 w3 eT (g := mkF C.2.2.2.1 pc Ls (.ref a :: st)) rfl (by show Ls.size = _; rw [H.2.2.1]; exact hsz) rfl (hb H.2.1 hd) hF (W := w) (by show 2 * 0 + _ ≤ _; rw [hw]; omega) hL) hr
theorem k_getfield {idx : Nat} {O nf d : String} {a : Addr} {v : Value} (H : Cx C Z own code ml ret nm E.1) (w : (Cond.fieldLink own idx O nf d).before a0 Z = true) (F : Fld Z h a O nf d v) (hd : decode code pc = .ok (.getfield idx, 3)) (hr : W l R C E h k n (pc + 3) Ls (v :: st)) : W l R C E h k n pc Ls (.ref a :: st) :=
  .viaT (fun T L X eT => getF X H.1 H.2.2.2.2.1 H.2.2.2.1 (host := "") (Or.inl w) Via.refl eT F (g := mkF C.2.2.2.1 pc Ls (.ref a :: st)) rfl rfl (hb H.2.1 hd)) hr
theorem k_putfield {idx kk : Nat} {O nf d cls : String} {a : Addr} {v old : Value} (ty : FieldType) (H : Cx C Z own code ml ret nm E.1) (w : (Cond.fieldLink own idx O nf d).before a0 Z = true) (F : Fld Z h a O nf d old) (X0 : Exa Z h a cls) (La : (Cond.lays cls O nf d).before a0 Z = true ∨ ((Cond.laysFinal cls O nf d).before a0 Z = true ∧ own = O ∧ nm = "<init>"))
    (wi : (Cond.instantiable cls kk).before a0 Z = true) (hty : parseFieldDescriptor d = some ty) (hn : narrow ty v = v) (hf : fits ty v = true) (ge : E.1 ≤ a) (hd : decode code pc = .ok (.putfield idx, 3))
    (hr : ∀ h', Wr h h' a (Jvm.RoadKit.slotOf Z O nf d) v → Fld Z h' a O nf d v → W l R C E h' k n (pc + 3) Ls st) : W l R C E h k n pc Ls (v :: .ref a :: st) := fun T L X N eT => by
  obtain ⟨T', h', X', e', Wx, q⟩ := putF X H.1 H.2.2.2.2.1 H.2.2.2.1 (host := "") (Or.inl w) Via.refl eT F X0 (La.imp id fun z => ⟨z.1, z.2.1, H.2.2.2.2.2.2.2.1.trans z.2.2⟩) wi hty hn hf (g := mkF C.2.2.2.1 pc Ls (v :: .ref a :: st)) rfl rfl (hb H.2.1 hd)
  exact .step q (hr h' Wx (F.same Wx) T' _ X' (Fr.snoc X' N ge) e')
/-! arrays by the kind of what they hold -/
section Typed
variable {a : Addr} {j : Int32} {i : Nat}
theorem map_at {α : Type} {f : α → Value} {xs : List α} {x : α} (hv : xs[i]? = some x) : (xs.map f)[i]? = some (f x) := by rw [List.getElem?_map, hv]; rfl
theorem k_ialoadT {xs : List Int32} {x : Int32} (H : Cx C Z own code ml ret nm E.1) (A : IA Z h a xs) (hj : j.toInt = (i : Int)) (hv : xs[i]? = some x) (hd : decode code pc = .ok (.iaload, 1)) (hr : W l R C E h k n (pc + 1) Ls ((.int x) :: st)) : W l R C E h k n pc Ls (.int j :: .ref a :: st) := k_iaload H A hj (map_at hv) hd hr
theorem k_iastoreT {xs : List Int32} {x : Int32} (H : Cx C Z own code ml ret nm E.1) (A : IA Z h a xs) (hj : j.toInt = (i : Int)) (hi : i < xs.length) (ge : E.1 ≤ a) (hd : decode code pc = .ok (.iastore, 1))
    (hr : ∀ h', Keep h h' [a] → IA Z h' a (xs.set i x) → W l R C E h' k n (pc + 1) Ls st) : W l R C E h k n pc Ls ((.int x) :: .int j :: .ref a :: st) := k_iastore H A hj (by simpa using hi) ge hd (fun h' K V => hr h' K (by rw [IA, List.map_set]; exact V))
theorem k_new_int {len : Int32} (m cap : Nat) (H : Cx C Z own code ml ret nm E.1) (w : (Cond.arrayClass .int).before a0 Z = true) (hd : decode code pc = .ok (.newarray .int, 2)) (hm : len.toInt = (m : Int)) (hcap : m ≤ cap) (hB : cap * 8 ≤ 536870912) (hC : k + 1 ≤ R.cells) (hS : n + cap ≤ R.slots)
    (hr : ∀ h' a, a = h.size → E.1 ≤ a → Ext h h' → Exa Z h' a "[I" → IA Z h' a (List.replicate m 0) → W l R C E h' (k + 1) (n + cap) (pc + 2) Ls (.ref a :: st)) : W l R C E h k n pc Ls (.int len :: st) := k_newarray m cap H w rfl hd hm hcap hB hC hS (fun h' a e g X XA V => hr h' a e g X XA (by rw [IA, List.map_replicate]; exact V))
theorem k_laloadT {xs : List Int64} {x : Int64} (H : Cx C Z own code ml ret nm E.1) (A : JA Z h a xs) (hj : j.toInt = (i : Int)) (hv : xs[i]? = some x) (hd : decode code pc = .ok (.laload, 1)) (hr : W l R C E h k n (pc + 1) Ls ((.long x) :: st)) : W l R C E h k n pc Ls (.int j :: .ref a :: st) := k_laload H A hj (map_at hv) hd hr
theorem k_lastoreT {xs : List Int64} {x : Int64} (H : Cx C Z own code ml ret nm E.1) (A : JA Z h a xs) (hj : j.toInt = (i : Int)) (hi : i < xs.length) (ge : E.1 ≤ a) (hd : decode code pc = .ok (.lastore, 1))
    (hr : ∀ h', Keep h h' [a] → JA Z h' a (xs.set i x) → W l R C E h' k n (pc + 1) Ls st) : W l R C E h k n pc Ls ((.long x) :: .int j :: .ref a :: st) := k_lastore H A hj (by simpa using hi) ge hd (fun h' K V => hr h' K (by rw [JA, List.map_set]; exact V))
theorem k_new_long {len : Int32} (m cap : Nat) (H : Cx C Z own code ml ret nm E.1) (w : (Cond.arrayClass .long).before a0 Z = true) (hd : decode code pc = .ok (.newarray .long, 2)) (hm : len.toInt = (m : Int)) (hcap : m ≤ cap) (hB : cap * 8 ≤ 536870912) (hC : k + 1 ≤ R.cells) (hS : n + cap ≤ R.slots)
    (hr : ∀ h' a, a = h.size → E.1 ≤ a → Ext h h' → Exa Z h' a "[J" → JA Z h' a (List.replicate m 0) → W l R C E h' (k + 1) (n + cap) (pc + 2) Ls (.ref a :: st)) : W l R C E h k n pc Ls (.int len :: st) := k_newarray m cap H w rfl hd hm hcap hB hC hS (fun h' a e g X XA V => hr h' a e g X XA (by rw [JA, List.map_replicate]; exact V))
theorem k_baloadT {xs : List Int8} {x : Int8} (H : Cx C Z own code ml ret nm E.1) (A : BA Z h a xs) (hj : j.toInt = (i : Int)) (hv : xs[i]? = some x) (hd : decode code pc = .ok (.baload, 1)) (hr : W l R C E h k n (pc + 1) Ls ((.int x.toInt32) :: st)) : W l R C E h k n pc Ls (.int j :: .ref a :: st) := k_baload H A hj (map_at hv) hd hr
theorem k_bastoreT {xs : List Int8} {x : Int32} (H : Cx C Z own code ml ret nm E.1) (A : BA Z h a xs) (hj : j.toInt = (i : Int)) (hi : i < xs.length) (ge : E.1 ≤ a) (hd : decode code pc = .ok (.bastore, 1))
    (hr : ∀ h', Keep h h' [a] → BA Z h' a (xs.set i x.toInt8) → W l R C E h' k n (pc + 1) Ls st) : W l R C E h k n pc Ls ((.int x) :: .int j :: .ref a :: st) := k_bastore H A hj (by simpa using hi) ge hd (fun h' K V => hr h' K (by rw [BA, List.map_set]; exact V))
theorem k_new_byte {len : Int32} (m cap : Nat) (H : Cx C Z own code ml ret nm E.1) (w : (Cond.arrayClass .byte).before a0 Z = true) (hd : decode code pc = .ok (.newarray .byte, 2)) (hm : len.toInt = (m : Int)) (hcap : m ≤ cap) (hB : cap * 8 ≤ 536870912) (hC : k + 1 ≤ R.cells) (hS : n + cap ≤ R.slots)
    (hr : ∀ h' a, a = h.size → E.1 ≤ a → Ext h h' → Exa Z h' a "[B" → BA Z h' a (List.replicate m 0) → W l R C E h' (k + 1) (n + cap) (pc + 2) Ls (.ref a :: st)) : W l R C E h k n pc Ls (.int len :: st) := k_newarray m cap H w rfl hd hm hcap hB hC hS (fun h' a e g X XA V => hr h' a e g X XA (by rw [BA, List.map_replicate]; exact V))
theorem k_caloadT {xs : List UInt16} {x : UInt16} (H : Cx C Z own code ml ret nm E.1) (A : CA Z h a xs) (hj : j.toInt = (i : Int)) (hv : xs[i]? = some x) (hd : decode code pc = .ok (.caload, 1)) (hr : W l R C E h k n (pc + 1) Ls ((.int x.toUInt32.toInt32) :: st)) : W l R C E h k n pc Ls (.int j :: .ref a :: st) := k_caload H A hj (map_at hv) hd hr
theorem k_castoreT {xs : List UInt16} {x : Int32} (H : Cx C Z own code ml ret nm E.1) (A : CA Z h a xs) (hj : j.toInt = (i : Int)) (hi : i < xs.length) (ge : E.1 ≤ a) (hd : decode code pc = .ok (.castore, 1))
    (hr : ∀ h', Keep h h' [a] → CA Z h' a (xs.set i x.toUInt32.toUInt16) → W l R C E h' k n (pc + 1) Ls st) : W l R C E h k n pc Ls ((.int x) :: .int j :: .ref a :: st) := k_castore H A hj (by simpa using hi) ge hd (fun h' K V => hr h' K (by rw [CA, List.map_set]; exact V))
theorem k_new_char {len : Int32} (m cap : Nat) (H : Cx C Z own code ml ret nm E.1) (w : (Cond.arrayClass .char).before a0 Z = true) (hd : decode code pc = .ok (.newarray .char, 2)) (hm : len.toInt = (m : Int)) (hcap : m ≤ cap) (hB : cap * 8 ≤ 536870912) (hC : k + 1 ≤ R.cells) (hS : n + cap ≤ R.slots)
    (hr : ∀ h' a, a = h.size → E.1 ≤ a → Ext h h' → Exa Z h' a "[C" → CA Z h' a (List.replicate m 0) → W l R C E h' (k + 1) (n + cap) (pc + 2) Ls (.ref a :: st)) : W l R C E h k n pc Ls (.int len :: st) := k_newarray m cap H w rfl hd hm hcap hB hC hS (fun h' a e g X XA V => hr h' a e g X XA (by rw [CA, List.map_replicate]; exact V))
theorem fits_of {ty : FieldType} {vs : List Value} {c : Cell} (A : Arr Z h a c ty) (e : c.slots = vs.toArray) (hf : ∀ v ∈ vs, fits ty v = true) : FitC Z c := fitC_of A fun i hi v hv => hf v (by rw [e] at hv; simp at hv; exact List.mem_of_getElem? hv)
theorem k_clone {idx w cap : Nat} {ty : FieldType} {ad : String} {vs : List Value} (H : Cx C Z own code ml ret nm E.1)
    (w1 : (Cond.methodLink own idx ⟨ad, "clone", "()Ljava/lang/Object;"⟩).before a0 Z = true) (w2 : (Cond.sameMethod ad "java/lang/Object" "clone" "()Ljava/lang/Object;").before a0 Z = true) (w3 : (Cond.native ⟨"java/lang/Object", "clone", "()Ljava/lang/Object;"⟩).before a0 Z = true)
    (w4 : (Cond.instanceMethod ⟨"java/lang/Object", "clone", "()Ljava/lang/Object;"⟩).before a0 Z = true) (w5 : (Cond.selects ad ⟨ad, "clone", "()Ljava/lang/Object;"⟩ ⟨"java/lang/Object", "clone", "()Ljava/lang/Object;"⟩).before a0 Z = true) (w6 : (Cond.castable ad "java/lang/Cloneable").before a0 Z = true)
    (V : Vec Z h a ty vs) (hf : ∀ v ∈ vs, fits ty v = true) (X0 : Exa Z h a ad) (hd : decode code pc = .ok (.invokevirtual idx, 3)) (hsz : Ls.size = ml) (hF : 1 ≤ R.frames) (hw : (st.map fun v => v.category).sum = w) (hL : w + 14 ≤ R.locals) (hcap : vs.length ≤ cap) (hC : k + 1 ≤ R.cells) (hS : n + cap ≤ R.slots)
    (hr : ∀ h' b, b = h.size → E.1 ≤ b → Ext h h' → Exa Z h' b ad → Vec Z h' b ty vs → W l R C E h' (k + 1) (n + cap) (pc + 3) Ls (.ref b :: st)) : W l R C E h k n pc Ls (.ref a :: st) := fun T L X N eT => by
  obtain ⟨c, A, e, hl⟩ := V
  obtain ⟨T', h', X', e', Ex, A', XA, q⟩ := cloneA X H.1 H.2.2.2.2.1 H.2.2.2.1 w1 w2 w3 w4 w5 w6 eT A X0 (fits_of A e hf) (g := mkF C.2.2.2.1 pc Ls (.ref a :: st)) rfl (by show Ls.size = _; rw [H.2.2.1]; exact hsz) rfl (hb H.2.1 hd) hF (W := w) (cap := cap) (by show 2 * 0 + _ ≤ _; rw [hw]; omega) hL (by rw [e]; simpa using hcap) hC hS
  exact .step q (hr h' h.size rfl (by rw [← eT]; exact size_ge H X) Ex XA ⟨_, A', e, hl⟩ T' _ X' N e')
theorem k_castY {idx : Nat} {K ad : String} (H : Cx C Z own code ml ret nm E.1) (w : (Cond.classLink own idx K).before a0 Z = true) (wc : (Cond.castable ad K).before a0 Z = true) (X0 : Exa Z h a ad) (hd : decode code pc = .ok (.checkcast idx, 3)) (hr : W l R C E h k n (pc + 3) Ls (.ref a :: st)) : W l R C E h k n pc Ls (.ref a :: st) :=
  .viaT (fun T L X eT => castY X H.1 H.2.2.2.2.1 H.2.2.2.1 w eT (Ins.of_exa X0 wc) (g := mkF C.2.2.2.1 pc Ls (.ref a :: st)) rfl rfl (hb H.2.1 hd)) hr
end Typed
/-! calls -/
section Calls
variable {y : MethodName} {bytes : ByteArray} {maxL : Nat} {rt : Option FieldType} {rm : Room} {Q : Option Value → Heap → Prop} {S : List Value}
theorem Goes.trans {T T' : State} {g g' : JFrame} (q : Sp C (T.setTop g) (T'.setTop g')) (r : Goes C E (T'.setTop g')) : Goes C E (T.setTop g) := by
  rcases r with ⟨t, o, h1, h2⟩ | ⟨t, h1, h2⟩
  · exact Or.inl ⟨t, o, q.trans h1, h2⟩
  · exact Or.inr ⟨t, q.trans h1, h2⟩
theorem payOf {s : State} {p : Program} {e : Env} {below : List Frame} {args : Array Value} {w n0 : Nat} {as' : Array Value} (hc : Ctr l Z y bytes maxL rt rm n0 as' h Q) (hZ : Z.Warmed39 s.vm) (w4 : (Cond.code y bytes maxL rt).before a0 Z = true) (w3 : (Cond.initialized y.cls).before a0 Z = true) (hF : rm.frames + 1 ≤ R.frames) (hL : w + (maxL + 11) + rm.locals ≤ R.locals) :
    Back l R p e below s args y 3 w (fun A a => a = as' ∧ A.U.heap = h ∧ A.cells + rm.cells ≤ R.cells ∧ A.slots + rm.slots ≤ R.slots)
      (fun A _ v B => ∃ L, (Q v B.U.heap ∧ Fr n0 L) ∧ B.locs = A.locs ++ L ∧ B.cells = A.cells + rm.cells ∧ B.slots = A.slots + rm.slots) :=
  backOf (Q := fun v h L => Q v h ∧ Fr n0 L) hc hZ w4 w3 hF hL
theorem k_invS {idx : Nat} (argsL : List Value) (w : Nat) (H : Cx C Z own code ml ret nm E.1) (w1 : (Cond.methodLink own idx y).before a0 Z = true) (w2 : (Cond.static y).before a0 Z = true) (w3 : (Cond.initialized y.cls).before a0 Z = true) (w4 : (Cond.code y bytes maxL rt).before a0 Z = true)
    (hy : y.cls ≠ "java/lang/invoke/MethodHandle" ∧ y.cls ≠ "java/lang/invoke/VarHandle") (hc : E.1 ≤ h.size → Ctr l Z y bytes maxL rt rm E.1 argsL.toArray h Q) (hlen : ∀ sig, parseMethodDescriptor y.desc = some sig → argsL.length = sig.parameters.length)
    (hd : decode code pc = .ok (.invokestatic idx, 3)) (hS : S = argsL.reverse ++ st) (hsz : Ls.size = ml) (hw : (st.map fun v => v.category).sum = w) (hF : rm.frames + 1 ≤ R.frames) (hL : w + (maxL + 11) + rm.locals ≤ R.locals) (hk : k + rm.cells ≤ R.cells) (hn : n + rm.slots ≤ R.slots)
    (hr : ∀ v h', Q v h' → W l R C E h' (k + rm.cells) (n + rm.slots) (pc + 3) Ls (v.toList ++ st)) : W l R C E h k n pc Ls S := fun T L X N eT => by
  obtain ⟨v, _, ⟨T', L', k', n'⟩, -, X', ⟨Lc, ⟨hQ, hN⟩, l', y', z'⟩, q⟩ := Jvm.LawKit.callS X H.1 (y := y) H.2.2.2.1 (mvT H.2.2.2.2.1 w1) (mvT H.2.2.2.2.1 w2) (mvT H.2.2.2.2.1 w3) (mvT H.2.2.2.2.1 w4) hy (payOf (w := w) (hc (by rw [← eT]; exact size_ge H X)) H.2.2.2.2.1 w4 w3 hF hL)
    (g := mkF C.2.2.2.1 pc Ls S) rfl (by show Ls.size = _; rw [H.2.2.1]; exact hsz) (argsL := argsL) (rest := st) hlen hS (by show 2 * 0 + _ ≤ _; rw [hw]; omega) (hb H.2.1 hd) (fun _ _ => ⟨rfl, eT, hk, hn⟩)
  dsimp only [Pt.U, Pt.locs, Pt.cells, Pt.slots] at X' l' y' z' q hQ
  subst l' y' z'
  exact .step q (hr v _ hQ T' _ X' (N.app hN) rfl)
theorem k_invI {idx : Nat} {a : Addr} (argsL : List Value) (w : Nat) (H : Cx C Z own code ml ret nm E.1) (hy1 : y.name = "<init>") (w1 : (Cond.methodLink own idx y).before a0 Z = true) (w2 : (Cond.instanceMethod y).before a0 Z = true) (w3 : (Cond.initialized y.cls).before a0 Z = true) (w4 : (Cond.code y bytes maxL none).before a0 Z = true)
    (hy : y.cls ≠ "java/lang/invoke/MethodHandle" ∧ y.cls ≠ "java/lang/invoke/VarHandle") (hc : E.1 ≤ h.size → Ctr l Z y bytes maxL none rm E.1 (.ref a :: argsL).toArray h Q) (hlen : ∀ sig, parseMethodDescriptor y.desc = some sig → argsL.length = sig.parameters.length)
    (hd : decode code pc = .ok (.invokespecial idx, 3)) (hS : S = argsL.reverse ++ .ref a :: st) (hsz : Ls.size = ml) (hw : (st.map fun v => v.category).sum = w) (hF : rm.frames + 1 ≤ R.frames) (hL : w + (maxL + 11) + rm.locals ≤ R.locals) (hk : k + rm.cells ≤ R.cells) (hn : n + rm.slots ≤ R.slots)
    (hr : ∀ v h', Q v h' → W l R C E h' (k + rm.cells) (n + rm.slots) (pc + 3) Ls (v.toList ++ st)) : W l R C E h k n pc Ls S := fun T L X N eT => by
  obtain ⟨v, _, ⟨T', L', k', n'⟩, -, X', ⟨Lc, ⟨hQ, hN⟩, l', y', z'⟩, q⟩ := X.specialBack H.1 (y := y) hy1 H.2.2.2.1 (mvT H.2.2.2.2.1 w1) (mvT H.2.2.2.2.1 w2) (mvT H.2.2.2.2.1 w4) hy (payOf (w := w) (hc (by rw [← eT]; exact size_ge H X)) H.2.2.2.2.1 w4 w3 hF hL)
    (g := mkF C.2.2.2.1 pc Ls S) rfl (by show Ls.size = _; rw [H.2.2.1]; exact hsz) (Steps.refl _) (a := a) (argsL := argsL) (rest := st) hlen hS (by show 2 * 0 + _ ≤ _; rw [hw]; omega) (hb H.2.1 hd) (fun _ _ => ⟨rfl, eT, hk, hn⟩)
  dsimp only [Pt.U, Pt.locs, Pt.cells, Pt.slots] at X' l' y' z' q hQ
  subst l' y' z'
  exact .trans q (hr v _ hQ T' _ X' (N.app hN) rfl)
theorem k_invV {idx : Nat} {a : Addr} {cls : String} (argsL : List Value) (w : Nat) (H : Cx C Z own code ml ret nm E.1) (w1 : (Cond.methodLink own idx y).before a0 Z = true) (w2 : (Cond.declares y).before a0 Z = true) (w5 : (Cond.selects cls y y).before a0 Z = true) (w6 : (Cond.instanceMethod y).before a0 Z = true) (w3 : (Cond.initialized y.cls).before a0 Z = true) (w4 : (Cond.code y bytes maxL rt).before a0 Z = true)
    (hcl : y.cls = cls) (hy : y.cls ≠ "java/lang/invoke/MethodHandle" ∧ y.cls ≠ "java/lang/invoke/VarHandle") (X0 : Exa Z h a cls) (hc : E.1 ≤ h.size → Ctr l Z y bytes maxL rt rm E.1 (.ref a :: argsL).toArray h Q) (hlen : ∀ sig, parseMethodDescriptor y.desc = some sig → argsL.length = sig.parameters.length)
    (hd : decode code pc = .ok (.invokevirtual idx, 3)) (hS : S = argsL.reverse ++ .ref a :: st) (hsz : Ls.size = ml) (hw : (st.map fun v => v.category).sum = w) (hF : rm.frames + 1 ≤ R.frames) (hL : w + (maxL + 11) + rm.locals ≤ R.locals) (hk : k + rm.cells ≤ R.cells) (hn : n + rm.slots ≤ R.slots)
    (hr : ∀ v h', Q v h' → W l R C E h' (k + rm.cells) (n + rm.slots) (pc + 3) Ls (v.toList ++ st)) : W l R C E h k n pc Ls S := fun T L X N eT => by
  subst hcl
  obtain ⟨cq, kq, qa, qb, qc⟩ := isOf H.2.2.2.2.1 eT X0
  obtain ⟨v, _, ⟨T', L', k', n'⟩, -, X', ⟨Lc, ⟨hQ, hN⟩, l', y', z'⟩, q⟩ := X.virtualBack H.1 (y := y) (z := y) H.2.2.2.1 (mvT H.2.2.2.2.1 w1) (mvT H.2.2.2.2.1 w2) (notFace_of_selects (args := #[]) (mvT H.2.2.2.2.1 w5)) (mvT H.2.2.2.2.1 w5) (mvT H.2.2.2.2.1 w6) hy (payOf (w := w) (hc (by rw [← eT]; exact size_ge H X)) H.2.2.2.2.1 w4 w3 hF hL) qa qc
    (g := mkF C.2.2.2.1 pc Ls S) rfl (by show Ls.size = _; rw [H.2.2.1]; exact hsz) (Steps.refl _) (argsL := argsL) (rest := st) hlen hS (by show 2 * 0 + _ ≤ _; rw [hw]; omega) (hb H.2.1 hd) (fun _ _ => ⟨rfl, eT, hk, hn⟩)
  dsimp only [Pt.U, Pt.locs, Pt.cells, Pt.slots] at X' l' y' z' q hQ
  subst l' y' z'
  exact .trans q (hr v _ hQ T' _ X' (N.app hN) rfl)
theorem Ctr.of {n0 : Nat} {as' : Array Value} (Ls : Array Slot) (hp : plainFor y = true) (hn0 : n0 ≤ h.size) (hef : ∀ m, entryFrame m as' maxL = mkF m 0 Ls []) (hW : ∀ C : Cxt, Cx C Z y.cls bytes maxL rt y.name n0 → W l rm C (n0, rm.cells, rm.slots, Q, fun _ => False) h 0 0 0 Ls []) : Ctr l Z y bytes maxL rt rm n0 as' h Q := by
  refine MetFree.of_bodySF hp hisR ?_
  intro p e s m args below meth c s₁ Bd hml0 hP hK
  obtain ⟨rfl, hZ, hh⟩ := hP
  have hnm := (name_of_methodNamed Bd.named Bd.method).1
  have X0 : Stand p l e rm s m args below meth c s₁ [] 0 0 := Stand.of_body Bd
  have e0 : s₁.heap = h := by rw [← hh, Bd.state]; rfl
  obtain ⟨t, o, h1, h2, h3, v, L, h4, h5, h6⟩ | ⟨_, _, z⟩ := hW (p, e, s, m, args, below, meth, c) ⟨Bd.exec, Bd.bytes, hml0, findClass_of_methodNamed Bd.named, hZ, Bd.returns, Bd.notSynchronized, hnm, by rw [hh]; exact hn0⟩ s₁ [] X0 (Fr.nil n0) e0
  · exact ⟨t, o, castTop (hef m) h1, h2, h3, v, L, h4, h5, h6⟩
  · exact z.elim
/-- the judged body itself -/
theorem met_of {n0 K N : Nat} {ws : List Jvm.Cond} {as' : Array Value} (Ls : Array Slot) (hp : plainFor y = true) (hn0 : n0 ≤ h.size) (hef : ∀ m, entryFrame m as' maxL = mkF m 0 Ls []) (hW : ∀ C : Cxt, Cx C Z y.cls bytes maxL rt y.name n0 → W l rm C (n0, K, N, Q, fun _ => False) h 0 0 0 Ls []) :
    MetFree l y (head1 (Cond.code y bytes maxL rt :: ws) rm) (fun a U => a = as' ∧ Z.Warmed39 U.vm ∧ U.heap = h) (fun _ _ _ _ _ => True) (fun _ U o U' => ∃ v L, o = .returned v ∧ (Q v U'.heap ∧ Fr n0 L) ∧ FrameEnd U o U' L K N) := by
  refine MetFree.of_bodySF hp hisR ?_
  intro p e s m args below meth c s₁ Bd hml0 hP hK
  obtain ⟨rfl, hZ, hh⟩ := hP
  have hnm := (name_of_methodNamed Bd.named Bd.method).1
  have X0 : Stand p l e rm s m args below meth c s₁ [] 0 0 := Stand.of_body Bd
  have e0 : s₁.heap = h := by rw [← hh, Bd.state]; rfl
  obtain ⟨t, o, h1, h2, h3, v, L, h4, h5, h6⟩ | ⟨_, _, z⟩ := hW (p, e, s, m, args, below, meth, c) ⟨Bd.exec, Bd.bytes, hml0, findClass_of_methodNamed Bd.named, hZ, Bd.returns, Bd.notSynchronized, hnm, by rw [hh]; exact hn0⟩ s₁ [] X0 (Fr.nil n0) e0
  · exact ⟨t, o, castTop (hef m) h1, h2, h3, v, L, h4, h5, h6⟩
  · exact z.elim
end Calls
/-! ends -/
theorem k_retInt {x : Int32} (H : Cx C Z own code ml (some .int) nm E.1) (hd : decode code pc = .ok (.ireturn, 1)) (hk : k ≤ E.2.1) (hn : n ≤ E.2.2.1) (hq : E.2.2.2.1 (some (.int x)) h) : W l R C E h k n pc Ls (.int x :: st) := fun T L X N eT => by
  obtain ⟨fs, hr, hrun, hend, hW, hs⟩ := X.leave (v := some (.int x)) (fun z => by rw [H.2.2.2.2.2.1] at z; cases z) H.2.2.2.2.2.2.1
  exact Or.inl ⟨_, _, retOut X H.1 H.2.2.2.2.2.1 rfl (Or.inl ⟨rfl, Or.inl rfl, _, rfl⟩) (hb H.2.1 hd) hr, hrun, hend, _, L, rfl, ⟨by subst eT; exact hq, N⟩, ⟨_, rfl⟩, hW, hs.mono hk hn⟩
theorem k_retN' {x : Int32} {t : FieldType} (ht : t = .boolean ∨ t = .byte ∨ t = .char ∨ t = .short) (H : Cx C Z own code ml (some t) nm E.1) (hd : decode code pc = .ok (.ireturn, 1)) (hk : k ≤ E.2.1) (hn : n ≤ E.2.2.1) (hq : E.2.2.2.1 (some (.int (nar t x))) h) : W l R C E h k n pc Ls (.int x :: st) := fun T L X N eT => by
  obtain ⟨fs, hr, hrun, hend, hW, hs⟩ := X.leave (v := some (.int (nar t x))) (fun z => by rw [H.2.2.2.2.2.1] at z; cases z) H.2.2.2.2.2.2.1
  exact Or.inl ⟨_, _, retN X H.1 H.2.2.2.2.2.1 ht (hb H.2.1 hd) hr, hrun, hend, _, L, rfl, ⟨by subst eT; exact hq, N⟩, ⟨_, rfl⟩, hW, hs.mono hk hn⟩
theorem k_retLong {x : Int64} (H : Cx C Z own code ml (some .long) nm E.1) (hd : decode code pc = .ok (.lreturn, 1)) (hk : k ≤ E.2.1) (hn : n ≤ E.2.2.1) (hq : E.2.2.2.1 (some (.long x)) h) : W l R C E h k n pc Ls (.long x :: st) := fun T L X N eT => by
  obtain ⟨fs, hr, hrun, hend, hW, hs⟩ := X.leave (v := some (.long x)) (fun z => by rw [H.2.2.2.2.2.1] at z; cases z) H.2.2.2.2.2.2.1
  exact Or.inl ⟨_, _, retOut X H.1 H.2.2.2.2.2.1 rfl (Or.inr (Or.inl ⟨rfl, rfl, _, rfl⟩)) (hb H.2.1 hd) hr, hrun, hend, _, L, rfl, ⟨by subst eT; exact hq, N⟩, ⟨_, rfl⟩, hW, hs.mono hk hn⟩
theorem k_retRef {a : Addr} {t : FieldType} (ht : t.isReference = true) (hnar : narrow t (.ref a) = .ref a) (H : Cx C Z own code ml (some t) nm E.1) (hd : decode code pc = .ok (.areturn, 1)) (hk : k ≤ E.2.1) (hn : n ≤ E.2.2.1) (hq : E.2.2.2.1 (some (.ref a)) h) : W l R C E h k n pc Ls (.ref a :: st) := fun T L X N eT => by
  obtain ⟨fs, hr, hrun, hend, hW, hs⟩ := X.leave (v := some (.ref a)) (fun z => by rw [H.2.2.2.2.2.1] at z; cases z) H.2.2.2.2.2.2.1
  exact Or.inl ⟨_, _, retOut X H.1 H.2.2.2.2.2.1 hnar (Or.inr (Or.inr (Or.inr (Or.inr ⟨rfl, ht, rfl⟩)))) (hb H.2.1 hd) hr, hrun, hend, _, L, rfl, ⟨by subst eT; exact hq, N⟩, ⟨_, rfl⟩, hW, hs.mono hk hn⟩
theorem k_retVoid (H : Cx C Z own code ml none nm E.1) (hd : decode code pc = .ok (.return_, 1)) (hk : k ≤ E.2.1) (hn : n ≤ E.2.2.1) (hq : E.2.2.2.1 none h) : W l R C E h k n pc Ls [] := fun T L X N eT => by
  obtain ⟨fs, hr, hrun, hend, hW, hs⟩ := X.leave (v := none) (fun _ => rfl) H.2.2.2.2.2.2.1
  exact Or.inl ⟨_, _, X.returnOut H.1 H.2.2.2.2.2.1 (hb H.2.1 hd) hr, hrun, hend, _, L, rfl, ⟨by subst eT; exact hq, N⟩, ⟨_, rfl⟩, hW, hs.mono hk hn⟩
end Own
end Jvm.OwnKit
namespace Jvm.OwnKit
/-! small naturals as ints -/
theorem lt_nat {x y : Int32} {i j : Nat} (hx : x.toInt = (i : Int)) (hy : y.toInt = (j : Int)) : x < y ↔ i < j := by rw [Int32.lt_iff_toInt_lt, hx, hy]; omega
theorem eq_nat {x y : Int32} {i j : Nat} (hx : x.toInt = (i : Int)) (hy : y.toInt = (j : Int)) : x = y ↔ i = j := by rw [← Int32.toInt_inj, hx, hy]; omega
theorem add_nat {x y : Int32} {i j : Nat} (hx : x.toInt = (i : Int)) (hy : y.toInt = (j : Int)) (hb : i + j < 2147483648) : (x + y).toInt = ((i + j : Nat) : Int) := by rw [Jvm.Kit.i32_add] <;> rw [hx, hy] <;> omega
theorem sub_nat {x y : Int32} {i j : Nat} (hx : x.toInt = (i : Int)) (hy : y.toInt = (j : Int)) (hb : j ≤ i) : (x - y).toInt = ((i - j : Nat) : Int) := by have := x.toInt_lt; rw [Jvm.Kit.i32_sub] <;> rw [hx, hy] <;> omega
theorem mul_nat {x y : Int32} {i j : Nat} (hx : x.toInt = (i : Int)) (hy : y.toInt = (j : Int)) (hb : i * j < 2147483648) : (x * y).toInt = ((i * j : Nat) : Int) := by
  have e : (i : Int) * (j : Int) = ((i * j : Nat) : Int) := by simp
  rw [Jvm.Kit.i32_mul] <;> rw [hx, hy, e] <;> omega
theorem rem_nat {x y : Int32} {i j : Nat} (hx : x.toInt = (i : Int)) (hy : y.toInt = (j : Int)) : (x % y).toInt = ((i % j : Nat) : Int) := by rw [Jvm.Kit.i32_rem_nonneg (by omega), hx, hy]; simp
theorem nat_of_nonneg {x : Int32} (h : 0 ≤ x.toInt) : ∃ i : Nat, x.toInt = (i : Int) ∧ i < 2147483648 := ⟨x.toInt.toNat, by omega, by have := x.toInt_lt; omega⟩
/-- a mask of k ones: a natural below 2 ^ k -/
theorem mask_nat (x m : Int32) (k : Nat) (hk : k < 32) (hm : m.toBitVec.toNat = 2 ^ k - 1) : ∃ i : Nat, (x &&& m).toInt = (i : Int) ∧ i < 2 ^ k := by
  have e := Jvm.Kit.i32_mask x m hk hm
  have p : (0 : Int) < 2 ^ k := Int.pow_pos (by omega)
  have h1 := Int.emod_nonneg x.toInt (Int.ne_of_gt p)
  have h2 := Int.emod_lt_of_pos x.toInt p
  refine ⟨(x.toInt % 2 ^ k).toNat, by rw [e]; omega, ?_⟩
  have h3 : ((2 ^ k : Nat) : Int) = 2 ^ k := by simp
  omega
theorem mod_nat (x m y : Int32) (k j : Nat) (hk : k < 32) (hm : m.toBitVec.toNat = 2 ^ k - 1) (hy : y.toInt = (j : Int)) (hj : 0 < j) : ∃ i : Nat, ((x &&& m) % y).toInt = (i : Int) ∧ i < j := by
  obtain ⟨i, h1, h2⟩ := mask_nat x m k hk hm
  exact ⟨i % j, rem_nat h1 hy, Nat.mod_lt _ hj⟩
theorem div_nat {x y : Int32} {i j : Nat} (hx : x.toInt = (i : Int)) (hy : y.toInt = (j : Int)) : (x / y).toInt = ((i / j : Nat) : Int) := by
  rw [Jvm.Kit.i32_div (by omega), hx, hy]; rfl
theorem ushr_nat {x y : Int32} {i : Nat} (k : Nat) (hx : x.toInt = (i : Int)) (hy : (y &&& 31).toUInt32.toNat = k) (hk : k < 32) : (Jvm.Free.XT.ushr x y).toInt = ((i / 2 ^ k : Nat) : Int) := by
  unfold Jvm.Free.XT.ushr
  rw [Jvm.Kit.i32_iushr (by rw [Int32.le_iff_toInt_le, hx]; exact Int.natCast_nonneg _) hy hk, hx]; simp
theorem c16 (c : UInt16) : c.toUInt32.toInt32.toUInt32.toUInt16 = c := by simp
theorem b8 (b : Int8) : b.toInt32.toInt8 = b := by simp
/-- a local's slot of one word -/
def OneW (s : Slot) : Prop := s = .unset ∨ ∃ w, s = .val w ∧ w.category = 1
theorem OneW.unset : OneW .unset := Or.inl rfl
theorem OneW.int (x : Int32) : OneW (.val (.int x)) := Or.inr ⟨_, rfl, rfl⟩
theorem OneW.ref (x : Addr) : OneW (.val (.ref x)) := Or.inr ⟨_, rfl, rfl⟩
end Jvm.OwnKit
namespace Jvm.OwnKit
open Sem ClassFile Op Lib Jvm.Stand Jvm.Free Jvm.LawKit Jvm.RoadKit
section Wide
variable {l : Launch} {R : Room} {C : Cxt} {E : En} {h h' : Heap} {k n pc : Nat} {Ls : Array Slot} {st : List Value} {Z : State} {own nm : String} {code : ByteArray} {ml : Nat} {ret : Option FieldType} {a0 : Array Value} {EL : List (String × Nat)} {s0 : State} {as : List Addr}
/-- the walk stands over the start with later tables; the constants of EL are held; the addresses of 'as' are none of theirs -/
def Inv (Z : State) (EL : List (String × Nat)) (s0 : State) (C : Cxt) (h : Heap) (as : List Addr) : Prop :=
  ∃ vm0 k0, C.2.2.1 = s0.setVm vm0 ∧ s0.Since vm0 k0 ∧ k0 ≤ h.size ∧ CHr Z EL s0.vm s0.heap vm0 h ∧ ∀ x ∈ as, x < h.size ∧ Safe Z EL vm0 h x
theorem Inv.ext (I : Inv Z EL s0 C h as) (X : Ext h h') : Inv Z EL s0 C h' as := by
  obtain ⟨vm0, k0, h1, h2, h3, h4, h5⟩ := I
  exact ⟨vm0, k0, h1, h2, Nat.le_trans h3 X.1, h4.trans (CHr.ext X h4.1), fun x hx => ⟨Nat.lt_of_lt_of_le (h5 x hx).1 X.1, Safe.ext X h4.1 (h5 x hx).2⟩⟩
theorem Inv.push (I : Inv Z EL s0 C h as) (X : Ext h h') {a : Addr} (ha : h.size ≤ a) (hl : a < h'.size) : Inv Z EL s0 C h' (a :: as) := by
  obtain ⟨vm0, k0, h1, h2, h3, h4, h5⟩ := I
  refine ⟨vm0, k0, h1, h2, Nat.le_trans h3 X.1, h4.trans (CHr.ext X h4.1), fun x hx => ?_⟩
  rcases List.mem_cons.mp hx with rfl | hx
  · exact ⟨hl, Safe.ext X h4.1 (Safe.new ha)⟩
  · exact ⟨Nat.lt_of_lt_of_le (h5 x hx).1 X.1, Safe.ext X h4.1 (h5 x hx).2⟩
theorem Inv.keep {ws : List Addr} (I : Inv Z EL s0 C h as) (K : Keep h h' ws) (hs : ∀ x ∈ ws, x ∈ as) : Inv Z EL s0 C h' as := by
  obtain ⟨vm0, k0, h1, h2, h3, h4, h5⟩ := I
  have hw : ∀ x ∈ ws, Safe Z EL vm0 h x := fun x hx => (h5 x (hs x hx)).2
  exact ⟨vm0, k0, h1, h2, Nat.le_trans h3 K.1, h4.trans (CHr.keep K hw h4.1), fun x hx => ⟨Nat.lt_of_lt_of_le (h5 x hx).1 K.1, Safe.keep K hw h4.1 (h5 x hx).2⟩⟩
theorem Ext.keep {h2 : Heap} {ws : List Addr} (X : Ext h h') (K : Keep h' h2 ws) (hs : ∀ x ∈ ws, h.size ≤ x) : Ext h h2 :=
  ⟨Nat.le_trans X.1 K.1, fun a c e => K.2.1 a c (X.2 a c e) fun hm => absurd (Array.getElem?_eq_some_iff.mp e).1 (Nat.not_lt.mpr (hs a hm))⟩
theorem Ext.trans {h2 : Heap} (X : Ext h h') (Y : Ext h' h2) : Ext h h2 := ⟨Nat.le_trans X.1 Y.1, fun a c e => Y.2 a c (X.2 a c e)⟩
theorem k_getstatic {idx : Nat} {O nf d : String} {v : Value} (H : Cx C Z own code ml ret nm E.1) (w : (Cond.fieldLink own idx O nf d).before a0 Z = true) (F : Sta Z h O nf d v) (hd : decode code pc = .ok (.getstatic idx, 3)) (hr : W l R C E h k n (pc + 3) Ls (v :: st)) : W l R C E h k n pc Ls st :=
  .viaT (fun T L X eT => getS X H.1 H.2.2.2.2.1 H.2.2.2.1 (host := "") w Via.refl eT F (g := mkF C.2.2.2.1 pc Ls st) rfl (hb H.2.1 hd)) hr
theorem vec_of {b : Addr} {kb : ClassId} {z : Int32} {vs : List Value} {d : Value} (A : Arv Z h b kb .byte z vs d) (hl : z.toNatClampNeg = vs.length) (hb : vs.length < 2 ^ 31) : Vec Z h b .byte vs := by
  obtain ⟨c, h1, -, h3, -, h5, -⟩ := A
  refine ⟨c, h1, ?_, hb⟩
  apply Array.ext_getElem?
  intro i
  by_cases q : i < c.slots.size
  · rw [h5 i q]
    rw [h3, hl] at q
    simp [List.getD_eq_getElem?_getD, q]
  · rw [Array.getElem?_eq_none (Nat.not_lt.mp q)]
    rw [h3, hl] at q
    simp; omega
/-- ldc of a held constant, read -/
theorem k_ldcC {idx : Nat} {text : String} {vs : List Value} {z : Int32} (nn : Nat) (H : Cx C Z own code ml ret nm E.1) (I : Inv Z EL s0 C h as) (w : (Cond.stringLink own idx text).before a0 Z = true) (wS : ∀ a ∈ Bundle.stringAtoms, a.before a0 Z = true) (hEL : EW Z a0 EL) (hmem : (own, idx) ∈ EL)
    (ht : (∀ c ∈ text.toList, c.toNat < 256) ∧ text.toList.map (fun c => Value.int (Jvm.Lit.byteI c.toNat.toUInt16)) = vs) (hz : ¬ z < 0) (hl : z.toNatClampNeg = vs.length) (hQ : ∀ v h, ¬ E.2.2.2.1 v h)
    (hd : decode code pc = .ok (.ldc idx, 2)) (hn : 4 * text.toList.length ≤ nn) (hbig : nn ≤ 536870912) (hc : k + 2 ≤ R.cells) (hs : n + (nn + 4) ≤ R.slots)
    (hr : ∀ (C' : Cxt) (h' : Heap) (a b : Addr) (kb : ClassId), Cx C' Z own code ml ret nm E.1 → Inv Z EL s0 C' h' as → Ext h h' → Exa Z h' a "java/lang/String" → Fld Z h' a "java/lang/String" "coder" "B" (.int 0) → Fld Z h' a "java/lang/String" "value" "[B" (.ref b) → Arv Z h' b kb .byte z vs (.int 0) → Lit C'.2.2.1 own idx a → C'.2.2.2.2.2.1 = C.2.2.2.2.2.1 → W l R C' E h' (k + 2) (n + (nn + 4)) (pc + 2) Ls (.ref a :: st)) :
    W l R C E h k n pc Ls st := fun T L X N eT => by
  obtain ⟨p, e, s, m, args, below, meth, c⟩ := C
  obtain ⟨vm0, k0, h1, h2, h3, h4, h5⟩ := I
  dsimp only at h1
  subst h1
  obtain ⟨a, T', h', k1, b, kb, X', e', E1, hS', hk', hZ', hown', x1, x2, x3, x4, -, -, hC, hLit, -, st'⟩ := ldcCH X H.1 H.2.2.2.2.1 H.2.2.2.1 w wS eT h2 h3 hEL hmem h4.1 ht hz hl (g := mkF m pc Ls st) rfl (hb H.2.1 hd) hn hbig hc hs
  have g := hr (p, e, s0.setVm T'.vm, m, args, below, meth, c) h' a b kb ⟨H.1, H.2.1, H.2.2.1, hown', hZ', H.2.2.2.2.2.1, H.2.2.2.2.2.2.1, H.2.2.2.2.2.2.2.1, H.2.2.2.2.2.2.2.2⟩ ⟨T'.vm, k1, rfl, hS', hk', h4.trans hC, fun x hx => ⟨Nat.lt_of_lt_of_le (h5 x hx).1 E1.1, hC.safe (h5 x hx).1 (h5 x hx).2⟩⟩ E1 x1 x2 x3 x4 hLit rfl T' L X' N e'
  rcases g with ⟨t, o, g1, g2, g3, v, L', g4, ⟨g5, -⟩, -⟩ | ⟨t, g1, g2⟩
  · exact (hQ _ _ g5).elim
  · exact Or.inr ⟨t, st' t g1, g2⟩
/-- .. of one that is resolved -/
theorem k_ldcA {idx : Nat} {text : String} {a : Addr} (H : Cx C Z own code ml ret nm E.1) (I : Inv Z EL s0 C h as) (w : (Cond.stringLink own idx text).before a0 Z = true) (Li : Lit C.2.2.1 own idx a) (hd : decode code pc = .ok (.ldc idx, 2)) (hr : W l R C E h k n (pc + 2) Ls (.ref a :: st)) : W l R C E h k n pc Ls st := by
  obtain ⟨p, e, s, m, args, below, meth, c⟩ := C
  obtain ⟨vm0, k0, h1, -⟩ := I
  dsimp only at h1
  subst h1
  exact .via (fun T t L X _ r => ldcAgain X H.1 H.2.2.2.2.1 H.2.2.2.1 w Li (g := mkF m pc Ls st) rfl (hb H.2.1 hd) t r) hr
/-- a contract of a call that may intern -/
def CtrW (l : Launch) (Z : State) (EL : List (String × Nat)) (y : MethodName) (bytes : ByteArray) (maxL : Nat) (ret : Option FieldType) (rm : Room) (n0 : Nat) (as' : Array Value) (h : Heap) (Q : Option Value → Heap → Prop) : Prop :=
  MetFree l y (head1 [Cond.code y bytes maxL ret] rm) (fun a U => a = as' ∧ Z.Warmed39 U.vm ∧ U.heap = h ∧ CHv Z EL U.vm h) (fun _ _ _ _ _ => True) (fun _ U o U' => ∃ v L, o = .returned v ∧ (Q v U'.heap ∧ Fr n0 L) ∧ CHr Z EL U.vm U.heap U'.vm U'.heap ∧ ReturnedEndW U o U' L rm.cells rm.slots)
def FinW (Z : State) (EL : List (String × Nat)) (s0 : State) (bl : List Frame) (n0 K N : Nat) (Q : Option Value → Heap → Prop) (t : State) : Prop :=
  ∃ o, t.status = .running ∧ Ended t bl o ∧ ∃ v L, o = .returned v ∧ (Q v t.heap ∧ Fr n0 L) ∧ CHr Z EL s0.vm s0.heap t.vm t.heap ∧ ReturnedEndW s0 o t L K N
def FinL (s0 : State) (bl : List Frame) (n0 K N : Nat) (Q : Option Value → Heap → Prop) (t : State) : Prop :=
  ∃ o, t.status = .running ∧ Ended t bl o ∧ ∃ v L, o = .returned v ∧ (Q v t.heap ∧ Fr n0 L) ∧ ReturnedEndW s0 o t L K N
theorem W.tailP {n0 K N : Nat} {Q : Option Value → Heap → Prop} {F : Option Value → Heap → Prop} {bl : List Frame} (H : Cx C Z own code ml ret nm n0) (I : Inv Z EL s0 C h as) (hEL : EW Z a0 EL) (hbl : C.2.2.2.2.2.1 = bl) (hr : W l R C (n0, K, N, (fun v h1 => Q v h1 ∧ h1 = h), fun _ => False) h k n pc Ls st) : W l R C (n0, K, N, F, FinW Z EL s0 bl n0 K N Q) h k n pc Ls st := fun T L X N' eT => by
  obtain ⟨p, e, s, m, args, below, meth, c⟩ := C
  obtain ⟨vm0, k0, h1, h2, h3, h4, h5⟩ := I
  dsimp only at h1 hbl
  subst h1 hbl
  rcases hr T L X N' eT with ⟨t, o, g1, g2, g3, v, L', g4, ⟨⟨g5, g6⟩, g7⟩, g8, g9, g10⟩ | ⟨_, _, z⟩
  · obtain ⟨r1, r2, r3⟩ := h2.ended g9 (by rw [g6]; exact h3) g10
    have q := CHv.later (h' := h) H.2.2.2.2.1 (hW := (show (Wst Z vm0 h).Warmed39 t.vm from g9.wide)) hEL ⟨Nat.le_refl _, fun _ _ q => q⟩ (Or.inl g9.interned_eq) h4.1
    exact Or.inr ⟨t, g1, o, g2, g3, v, L', g4, ⟨g5, g7⟩, by rw [g6]; exact h4.trans ⟨q.1, Nat.le_refl _, q.2⟩, g8, r1, r2, r3⟩
  · exact z.elim
theorem W.tailL {n0 K N : Nat} {Q : Option Value → Heap → Prop} {F : Option Value → Heap → Prop} {bl : List Frame} (I : Inv Z EL s0 C h as) (hbl : C.2.2.2.2.2.1 = bl) (hr : W l R C (n0, K, N, (fun v h1 => Q v h1 ∧ h.size ≤ h1.size), fun _ => False) h k n pc Ls st) : W l R C (n0, K, N, F, FinL s0 bl n0 K N Q) h k n pc Ls st := fun T L X N' eT => by
  obtain ⟨p, e, s, m, args, below, meth, c⟩ := C
  obtain ⟨vm0, k0, h1, h2, h3, h4, h5⟩ := I
  dsimp only at h1 hbl
  subst h1 hbl
  rcases hr T L X N' eT with ⟨t, o, g1, g2, g3, v, L', g4, ⟨⟨g5, g6⟩, g7⟩, g8, g9, g10⟩ | ⟨_, _, z⟩
  · obtain ⟨r1, r2, r3⟩ := h2.ended g9 (Nat.le_trans h3 g6) g10
    exact Or.inr ⟨t, g1, o, g2, g3, v, L', g4, ⟨g5, g7⟩, g8, r1, r2, r3⟩
  · exact z.elim
theorem CtrW.of {y : MethodName} {bytes : ByteArray} {maxL : Nat} {rt : Option FieldType} {rm : Room} {Q : Option Value → Heap → Prop} {n0 : Nat} {as' : Array Value} (Ls : Array Slot) (hp : plainFor y = true) (hn0 : n0 ≤ h.size) (hef : ∀ m, entryFrame m as' maxL = mkF m 0 Ls [])
    (hW : ∀ (s0 : State) (bl : List Frame) (C : Cxt), C.2.2.2.2.2.1 = bl → Cx C Z y.cls bytes maxL rt y.name n0 → Inv Z EL s0 C h [] → W l rm C (n0, rm.cells, rm.slots, (fun _ _ => False), FinW Z EL s0 bl n0 rm.cells rm.slots Q) h 0 0 0 Ls []) : CtrW l Z EL y bytes maxL rt rm n0 as' h Q := by
  refine MetFree.of_bodySF hp hisR ?_
  intro p e s m args below meth c s₁ Bd hml0 hP hK
  obtain ⟨rfl, hZ, hh, hC⟩ := hP
  have hnm := (name_of_methodNamed Bd.named Bd.method).1
  have X0 : Stand p l e rm s m args below meth c s₁ [] 0 0 := Stand.of_body Bd
  have e0 : s₁.heap = h := by rw [← hh, Bd.state]; rfl
  obtain ⟨_, _, _, _, _, _, _, _, ⟨z, _⟩, _⟩ | ⟨t, h1, o, h2, h3, v, L, h4, h5, h6⟩ := hW s below (p, e, s, m, args, below, meth, c) rfl ⟨Bd.exec, Bd.bytes, hml0, findClass_of_methodNamed Bd.named, hZ, Bd.returns, Bd.notSynchronized, hnm, by rw [hh]; exact hn0⟩ ⟨s.vm, 0, rfl, (State.WarmedH.refl s).since 0, Nat.zero_le _, by rw [hh]; exact CHr.refl hC, fun x hx => by cases hx⟩ s₁ [] X0 (Fr.nil n0) e0
  · exact z.elim
  · exact ⟨t, o, castTop (hef m) h1, h2, h3, v, L, h4, h5, h6⟩
theorem metW_of {y : MethodName} {bytes : ByteArray} {maxL : Nat} {rt : Option FieldType} {rm : Room} {Q : Option Value → Heap → Prop} {n0 K N : Nat} {ws : List Jvm.Cond} {as' : Array Value} (Ls : Array Slot) (hp : plainFor y = true) (hn0 : n0 ≤ h.size) (hef : ∀ m, entryFrame m as' maxL = mkF m 0 Ls [])
    (hW : ∀ (s0 : State) (bl : List Frame) (C : Cxt), C.2.2.2.2.2.1 = bl → Cx C Z y.cls bytes maxL rt y.name n0 → Inv Z EL s0 C h [] → W l rm C (n0, K, N, (fun _ _ => False), FinL s0 bl n0 K N Q) h 0 0 0 Ls []) :
    MetFree l y (head1 (Cond.code y bytes maxL rt :: ws) rm) (fun a U => a = as' ∧ Z.Warmed39 U.vm ∧ U.heap = h ∧ CHv Z EL U.vm h) (fun _ _ _ _ _ => True) (fun _ U o U' => ∃ v L, o = .returned v ∧ (Q v U'.heap ∧ Fr n0 L) ∧ ReturnedEndW U o U' L K N) := by
  refine MetFree.of_bodySF hp hisR ?_
  intro p e s m args below meth c s₁ Bd hml0 hP hK
  obtain ⟨rfl, hZ, hh, hC⟩ := hP
  have hnm := (name_of_methodNamed Bd.named Bd.method).1
  have X0 : Stand p l e rm s m args below meth c s₁ [] 0 0 := Stand.of_body Bd
  have e0 : s₁.heap = h := by rw [← hh, Bd.state]; rfl
  obtain ⟨_, _, _, _, _, _, _, _, ⟨z, _⟩, _⟩ | ⟨t, h1, o, h2, h3, v, L, h4, h5, h6⟩ := hW s below (p, e, s, m, args, below, meth, c) rfl ⟨Bd.exec, Bd.bytes, hml0, findClass_of_methodNamed Bd.named, hZ, Bd.returns, Bd.notSynchronized, hnm, by rw [hh]; exact hn0⟩ ⟨s.vm, 0, rfl, (State.WarmedH.refl s).since 0, Nat.zero_le _, by rw [hh]; exact CHr.refl hC, fun x hx => by cases hx⟩ s₁ [] X0 (Fr.nil n0) e0
  · exact z.elim
  · exact ⟨t, o, castTop (hef m) h1, h2, h3, v, L, h4, h5, h6⟩
theorem k_invW {idx : Nat} {y : MethodName} {bytes : ByteArray} {maxL : Nat} {rt : Option FieldType} {rm : Room} {Q : Option Value → Heap → Prop} {S : List Value} (argsL : List Value) (w : Nat) (H : Cx C Z own code ml ret nm E.1) (I : Inv Z EL s0 C h as) (hEL : EW Z a0 EL) (hQ : ∀ v h, ¬ E.2.2.2.1 v h) (w1 : (Cond.methodLink own idx y).before a0 Z = true) (w2 : (Cond.static y).before a0 Z = true) (w3 : (Cond.initialized y.cls).before a0 Z = true) (w4 : (Cond.code y bytes maxL rt).before a0 Z = true)
    (hy : y.cls ≠ "java/lang/invoke/MethodHandle" ∧ y.cls ≠ "java/lang/invoke/VarHandle") (hc : E.1 ≤ h.size → CtrW l Z EL y bytes maxL rt rm E.1 argsL.toArray h Q) (hlen : ∀ sig, parseMethodDescriptor y.desc = some sig → argsL.length = sig.parameters.length)
    (hd : decode code pc = .ok (.invokestatic idx, 3)) (hS : S = argsL.reverse ++ st) (hsz : Ls.size = ml) (hw : (st.map fun v => v.category).sum = w) (hF : rm.frames + 1 ≤ R.frames) (hL : w + (maxL + 11) + rm.locals ≤ R.locals) (hk : k + rm.cells ≤ R.cells) (hn : n + rm.slots ≤ R.slots)
    (hr : ∀ (C' : Cxt) v h', Cx C' Z own code ml ret nm E.1 → Inv Z EL s0 C' h' as → C'.2.2.2.2.2.1 = C.2.2.2.2.2.1 → Q v h' → W l R C' E h' (k + rm.cells) (n + rm.slots) (pc + 3) Ls (v.toList ++ st)) : W l R C E h k n pc Ls S := fun T L X N eT => by
  obtain ⟨p, e, s, m, args, below, meth, c⟩ := C
  obtain ⟨vm0, k0, h1, h2, h3, h4, h5⟩ := I
  dsimp only at h1
  subst h1
  obtain ⟨v, _, ⟨T', L', k', n'⟩, -, X', hS', hle, ⟨Lc, ⟨hq, hN⟩, l', y', z', hC⟩, q⟩ := callSS X H.1 (y := y) H.2.2.2.1 (mvT H.2.2.2.2.1 w1) (mvT H.2.2.2.2.1 w2) (mvT H.2.2.2.2.1 w3) (mvT H.2.2.2.2.1 w4) hy (backOfSH (W := w) (Q := fun v h L => Q v h ∧ Fr E.1 L) (hc (by rw [← eT]; exact size_ge H X)) H.2.2.2.2.1 w4 w3 hF hL hEL h4.1)
    (g := mkF m pc Ls S) rfl (by show Ls.size = _; rw [H.2.2.1]; exact hsz) (argsL := argsL) (rest := st) hlen hS (by show 2 * 0 + _ ≤ _; rw [hw]; omega) (hb H.2.1 hd) (fun _ _ => ⟨rfl, eT, hk, hn⟩)
  dsimp only [Pt.U, Pt.locs, Pt.cells, Pt.slots] at X' l' y' z' q hq hS' hle hC
  subst l' y' z'
  have hsz' : h.size ≤ T'.heap.size := by rw [← eT]; exact hle
  have g := hr (p, e, s0.setVm T'.vm, m, args, below, meth, c) v T'.heap ⟨H.1, H.2.1, H.2.2.1, by show T'.vm.findClass own = _; rw [hS'.1.alike.findClass]; exact H.2.2.2.1, State.Warmed39.trans (t := s0.setVm vm0) H.2.2.2.2.1 hS'.1, H.2.2.2.2.2.1, H.2.2.2.2.2.2.1, H.2.2.2.2.2.2.2.1, H.2.2.2.2.2.2.2.2⟩ ⟨T'.vm, _, rfl, h2.trans hS' (Nat.le_trans h3 hsz'), Nat.le_refl _, h4.trans hC, fun x hx => ⟨Nat.lt_of_lt_of_le (h5 x hx).1 hsz', hC.safe (h5 x hx).1 (h5 x hx).2⟩⟩ rfl hq T' _ X' (N.app hN) rfl
  rcases g with ⟨t, o, g1, g2, g3, v', L', g4, ⟨g5, -⟩, -⟩ | ⟨t, g1, g2⟩
  · exact (hQ _ _ g5).elim
  · exact Or.inr ⟨t, q.trans g1, g2⟩
end Wide
end Jvm.OwnKit
namespace Jvm.Pilot.@@N@@
open Jvm Jvm.ClassFile Sem Op Lib Jvm.Free Jvm.Stand Jvm.LawKit Jvm.RoadKit Jvm.OwnKit Bundle Jvm.Pilot.@@N@@.Jvm.D
theorem pn_0 : plainName "paramwick/util/PercentEncoding" = true := by first | (simp [plainName, overriddenIn]; done) | decide +kernel
theorem pn_1 : plainName "paramwick/util/PercentEncodingDecodePinLaw" = true := by first | (simp [plainName, overriddenIn]; done) | decide +kernel
theorem pd_0 : parseMethodDescriptor "(B)I" = some ⟨[.byte], some .int⟩ := by decide +kernel
theorem pf_2 : plainFor (⟨"java/lang/Math", "min", "(II)I"⟩ : MethodName) = true := by decide +kernel
theorem pd_1 : parseMethodDescriptor "(B)Z" = some ⟨[.byte], some .boolean⟩ := by decide +kernel
theorem pd_2 : parseMethodDescriptor "([BII)Z" = some ⟨[(.array .byte), .int, .int], some .boolean⟩ := by decide +kernel
theorem pf_5 : plainFor (⟨"java/lang/String", "coder", "()B"⟩ : MethodName) = true := by decide +kernel
theorem pf_7 : plainFor (⟨"java/lang/String", "isLatin1", "()Z"⟩ : MethodName) = true := by decide +kernel
theorem pf_4 : plainFor (⟨"java/lang/String", "length", "()I"⟩ : MethodName) = true := by decide +kernel
theorem pd_3 : parseMethodDescriptor "()B" = some ⟨[], some .byte⟩ := by decide +kernel
theorem pf_10 : plainFor (⟨"jdk/internal/util/Preconditions", "checkIndex", "(IILjava/util/function/BiFunction;)I"⟩ : MethodName) = true := by decide +kernel
theorem pf_9 : plainFor (⟨"java/lang/String", "checkIndex", "(II)V"⟩ : MethodName) = true := by decide +kernel
theorem pd_4 : parseMethodDescriptor "(IILjava/util/function/BiFunction;)I" = some ⟨[.int, .int, (.object "java/util/function/BiFunction")], some .int⟩ := by decide +kernel
theorem pf_8 : plainFor (⟨"java/lang/StringLatin1", "charAt", "([BI)C"⟩ : MethodName) = true := by decide +kernel
theorem pd_5 : parseMethodDescriptor "(II)V" = some ⟨[.int, .int], none⟩ := by decide +kernel
theorem pf_6 : plainFor (⟨"java/lang/String", "charAt", "(I)C"⟩ : MethodName) = true := by decide +kernel
theorem pd_6 : parseMethodDescriptor "()Z" = some ⟨[], some .boolean⟩ := by decide +kernel
theorem pd_7 : parseMethodDescriptor "([BI)C" = some ⟨[(.array .byte), .int], some .char⟩ := by decide +kernel
theorem pd_8 : parseMethodDescriptor "()I" = some ⟨[], some .int⟩ := by decide +kernel
theorem pd_9 : parseMethodDescriptor "(I)C" = some ⟨[.int], some .char⟩ := by decide +kernel
theorem pd_10 : parseMethodDescriptor "(II)I" = some ⟨[.int, .int], some .int⟩ := by decide +kernel
theorem pd_11 : parseMethodDescriptor "([BIIZ[B)I" = some ⟨[(.array .byte), .int, .int, .boolean, (.array .byte)], some .int⟩ := by decide +kernel
theorem pd_12 : parseMethodDescriptor "([B[BII)Z" = some ⟨[(.array .byte), (.array .byte), .int, .int], some .boolean⟩ := by decide +kernel
theorem pd_13 : parseMethodDescriptor "(I)B" = some ⟨[.int], some .byte⟩ := by decide +kernel
theorem own_get {α : Type} {xs : List α} {i : Nat} (dv : α) (h : i < xs.length) : xs[i]? = some (xs.getD i dv) := by simp [List.getD_eq_getElem?_getD, h]
def own_hv (y : Int32) : Int32 := if y < 48 then (if y < 65 then (if y < 97 then -1 else if 102 < y then -1 else y - 97 + 10) else if 70 < y then (if y < 97 then -1 else if 102 < y then -1 else y - 97 + 10) else y - 65 + 10) else if 57 < y then (if y < 65 then (if y < 97 then -1 else if 102 < y then -1 else y - 97 + 10) else if 70 < y then (if y < 97 then -1 else if 102 < y then -1 else y - 97 + 10) else y - 65 + 10) else y - 48
def own_hv2 (y : Int32) : Int32 := if y < 48 then (if y ||| 32 < 97 then -1 else if 102 < y ||| 32 then -1 else (y ||| 32) - 97 + 10) else if 57 < y then (if y ||| 32 < 97 then -1 else if 102 < y ||| 32 then -1 else (y ||| 32) - 97 + 10) else y - 48
theorem own_all (p : Int8 → Bool) (h : ∀ j < 256, p (Int8.ofNat j) = true) (b : Int8) : p b = true := by
  have e : b = Int8.ofNat b.toBitVec.toNat := by apply Int8.toBitVec_inj.mp; rw [Int8.toBitVec_ofNat']; simp
  rw [e]; exact h _ b.toBitVec.isLt
theorem own_hv_eq (b : Int8) : own_hv2 b.toInt32 = own_hv b.toInt32 := of_decide_eq_true (own_all (fun b => decide (own_hv2 b.toInt32 = own_hv b.toInt32)) (by decide +kernel) b)
def own_rng (y : Int32) : Bool := decide (y < 0) || (List.range 16).any fun j => decide (y = Int32.ofNat j)
theorem own_hv_rng (b : Int8) : own_rng (own_hv b.toInt32) = true := own_all (fun b => own_rng (own_hv b.toInt32)) (by decide +kernel) b
theorem own_16 : ∀ i < 16, ∀ j < 16, (Int32.ofNat i * 16 + Int32.ofNat j).toInt8 = ((Int32.ofNat i <<< ((4 : Int32) &&& 31)) ||| Int32.ofNat j).toInt8 := by decide +kernel
theorem own_nn {b : Int8} (h : ¬ own_hv b.toInt32 < 0) : ∃ j < 16, own_hv b.toInt32 = Int32.ofNat j := by
  have q := own_hv_rng b
  simp only [own_rng, h, decide_false, Bool.false_or, List.any_eq_true, List.mem_range, decide_eq_true_eq] at q
  exact q
theorem own_hl {b c : Int8} (h1 : ¬ own_hv b.toInt32 < 0) (h2 : ¬ own_hv c.toInt32 < 0) : (own_hv b.toInt32 * 16 + own_hv c.toInt32).toInt8 = ((own_hv b.toInt32 <<< ((4 : Int32) &&& 31)) ||| own_hv c.toInt32).toInt8 := by
  obtain ⟨i, hi, e1⟩ := own_nn h1
  obtain ⟨j, hj, e2⟩ := own_nn h2
  rw [e1, e2]; exact own_16 i hi j hj
def own_b (t : Bool) : Int32 := if t then 1 else 0
def own_ih (y : Int32) : Int32 := if own_hv y < 0 then 0 else 1
theorem own_ih0 (y : Int32) : own_ih y = 0 ↔ own_hv y < 0 := by unfold own_ih; by_cases q : own_hv y < 0 <;> simp [q]
def own_esc (bs : List Int8) (T i : Nat) : Bool := decide ((bs.getD i 0).toInt32 = 37) && (decide (i + 2 < T) && (decide (¬ own_hv (bs.getD (i + 1) 0).toInt32 < 0) && decide (¬ own_hv (bs.getD (i + 2) 0).toInt32 < 0)))
theorem own_e1 {bs : List Int8} {T i : Nat} (h : ¬ (bs.getD i 0).toInt32 = 37) : own_esc bs T i = false := by unfold own_esc; rw [decide_eq_false h]; rfl
theorem own_e2 {bs : List Int8} {T i : Nat} (h : ¬ i + 2 < T) : own_esc bs T i = false := by unfold own_esc; rw [decide_eq_false h]; simp
theorem own_e3 {bs : List Int8} {T i : Nat} (h : own_hv (bs.getD (i + 1) 0).toInt32 < 0) : own_esc bs T i = false := by unfold own_esc; rw [decide_eq_false (p := ¬ own_hv (bs.getD (i + 1) 0).toInt32 < 0) (fun z => z h)]; simp
theorem own_e4 {bs : List Int8} {T i : Nat} (h : own_hv (bs.getD (i + 2) 0).toInt32 < 0) : own_esc bs T i = false := by unfold own_esc; rw [decide_eq_false (p := ¬ own_hv (bs.getD (i + 2) 0).toInt32 < 0) (fun z => z h)]; simp
theorem own_e5 {bs : List Int8} {T i : Nat} (h1 : (bs.getD i 0).toInt32 = 37) (h2 : i + 2 < T) (h3 : ¬ own_hv (bs.getD (i + 1) 0).toInt32 < 0) (h4 : ¬ own_hv (bs.getD (i + 2) 0).toInt32 < 0) : own_esc bs T i = true := by unfold own_esc; rw [decide_eq_true h1, decide_eq_true h2, decide_eq_true h3, decide_eq_true h4]; rfl
theorem own_e6 {bs : List Int8} {T i : Nat} (h : own_esc bs T i = true) : i + 2 < T := by
  by_cases q : i + 2 < T
  · exact q
  · rw [own_e2 q] at h; cases h
def own_tok (bs : List Int8) (T : Nat) (pl : Int32) (i : Nat) : Int8 × Nat := if (bs.getD i 0).toInt32 = 43 ∧ ¬ pl = 0 then ((32 : Int32).toInt8, 1) else if own_esc bs T i = true then (((own_hv (bs.getD (i + 1) 0).toInt32 <<< ((4 : Int32) &&& 31)) ||| own_hv (bs.getD (i + 2) 0).toInt32).toInt8, 3) else (bs.getD i 0, 1)
theorem own_tp {bs : List Int8} {T i : Nat} {pl : Int32} (h : (bs.getD i 0).toInt32 = 43) (h' : ¬ pl = 0) : own_tok bs T pl i = ((32 : Int32).toInt8, 1) := if_pos ⟨h, h'⟩
theorem own_te {bs : List Int8} {T i : Nat} {pl : Int32} (h : ¬ ((bs.getD i 0).toInt32 = 43 ∧ ¬ pl = 0)) (e : own_esc bs T i = true) : own_tok bs T pl i = (((own_hv (bs.getD (i + 1) 0).toInt32 <<< ((4 : Int32) &&& 31)) ||| own_hv (bs.getD (i + 2) 0).toInt32).toInt8, 3) := (if_neg h).trans (if_pos e)
theorem own_tn {bs : List Int8} {T i : Nat} {pl : Int32} (h : ¬ ((bs.getD i 0).toInt32 = 43 ∧ ¬ pl = 0)) (e : own_esc bs T i = false) : own_tok bs T pl i = (bs.getD i 0, 1) := (if_neg h).trans (if_neg (by rw [e]; decide))
def own_dec (bs : List Int8) (T : Nat) (pl : Int32) : Nat → Nat → List Int8
  | 0, _ => []
  | f + 1, i => if i < T then (own_tok bs T pl i).1 :: own_dec bs T pl f (i + (own_tok bs T pl i).2) else []
theorem own_ds {bs : List Int8} {T f i k : Nat} {pl : Int32} {b : Int8} (h : i < T) (e : own_tok bs T pl i = (b, k)) : own_dec bs T pl (f + 1) i = b :: own_dec bs T pl f (i + k) := by rw [own_dec, if_pos h, e]
theorem own_dg (bs : List Int8) {T i : Nat} (pl : Int32) (f : Nat) (h : T ≤ i) : own_dec bs T pl f i = [] := by
  cases f with
  | zero => rfl
  | succ f => rw [own_dec, if_neg (by omega)]
theorem own_tk (bs : List Int8) (T i : Nat) (pl : Int32) : 1 ≤ (own_tok bs T pl i).2 := by
  unfold own_tok; split
  · exact Nat.le_refl 1
  · split
    · show 1 ≤ 3; decide
    · exact Nat.le_refl 1
theorem own_df (bs : List Int8) {T : Nat} (pl : Int32) : ∀ (f i : Nat), T ≤ i + f → own_dec bs T pl f i = own_dec bs T pl (f + 1) i := by
  intro f
  induction f with
  | zero => intro i h; rw [own_dg bs pl 0 (by omega), own_dg bs pl 1 (by omega)]
  | succ f ih =>
    intro i h
    by_cases q : i < T
    · have := own_tk bs T i pl
      rw [own_ds (b := (own_tok bs T pl i).1) (k := (own_tok bs T pl i).2) q rfl, own_ds (f := f + 1) (b := (own_tok bs T pl i).1) (k := (own_tok bs T pl i).2) q rfl, ih (i + (own_tok bs T pl i).2) (by omega)]
    · rw [own_dg bs pl _ (by omega), own_dg bs pl _ (by omega)]
theorem own_dl (bs : List Int8) (T : Nat) (pl : Int32) : ∀ (f i : Nat), (own_dec bs T pl f i).length ≤ f := by
  intro f
  induction f with
  | zero => intro i; simp [own_dec]
  | succ f ih =>
    intro i
    rw [own_dec]
    split
    · simp; exact ih _
    · simp
def own_pad (D : List Int8) : List Int8 := D ++ List.replicate (6 - D.length) 0
theorem own_pl {D : List Int8} (h : D.length ≤ 6) : (own_pad D).length = 6 := by simp [own_pad]; omega
theorem own_ps {D : List Int8} {b : Int8} (h : D.length < 6) : (own_pad D).set D.length b = own_pad (D ++ [b]) := by
  have e : 6 - D.length = (6 - (D ++ [b]).length) + 1 := by simp; omega
  unfold own_pad; rw [e, List.replicate_succ, List.set_append_right _ _ (Nat.le_refl _)]; simp
theorem own_pc {d : List Int8} {b : Int8} {j : Nat} (h : d.length ≤ 5) (hj : j < 5) : (own_pad (b :: d))[j + 1]? = (own_pad d)[j]? := by
  unfold own_pad
  rw [List.cons_append, List.getElem?_cons_succ]
  by_cases q : j < d.length
  · rw [List.getElem?_append_left q, List.getElem?_append_left q]
  · rw [List.getElem?_append_right (by omega), List.getElem?_append_right (by omega), List.getElem?_replicate, List.getElem?_replicate, if_pos (by simp; omega), if_pos (by omega)]
theorem own_pz {d : List Int8} {j : Nat} (h : d.length ≤ 5) (hj : j < 5) (q : d.length ≤ j) : (own_pad d).getD j 0 = 0 := by
  unfold own_pad
  rw [List.getD_eq_getElem?_getD, List.getElem?_append_right q, List.getElem?_replicate, if_pos (by omega)]; rfl
def own_min (a b : Int32) : Int32 := if b < a then b else a
theorem own_min6 {y : Int32} {n : Nat} (h : y.toInt = (n : Int)) : ∃ T : Nat, (own_min 6 y).toInt = (T : Int) ∧ T ≤ 6 ∧ T ≤ n ∧ (T = n ∨ T = 6) := by
  unfold own_min
  by_cases q : y < 6
  · rw [if_pos q]; exact ⟨n, h, by have := (lt_nat (j := 6) h rfl).mp q; omega, Nat.le_refl _, Or.inl rfl⟩
  · rw [if_neg q]; exact ⟨6, rfl, Nat.le_refl _, by have : ¬ n < 6 := fun z => q ((lt_nat (j := 6) h rfl).mpr z); omega, Or.inr rfl⟩
def own_xs : List Int8 := [48, 49, 50, 51, 52, 53, 54, 55, 56, 57, 97, 98, 99, 100, 101, 102, 65, 66, 67, 68, 69, 70, 47, 58, 64, 71, 96, 103]
def own_EL : List (String × Nat) := [("paramwick/util/PercentEncodingDecodePinLaw", 7)]
theorem own_txt : (∀ c ∈ ("0123456789abcdefABCDEF/:@G`g" : String).toList, c.toNat < 256) ∧ ("0123456789abcdefABCDEF/:@G`g" : String).toList.map (fun c => Value.int (Jvm.Lit.byteI c.toNat.toUInt16)) = own_xs.map (fun b => Value.int b.toInt32) := ⟨by decide +kernel, by rfl⟩
theorem d14_0 : decode prog_78_method_5_code 0 = .ok (.iload_n 0, 1) := by decide +kernel
theorem d14_1 : decode prog_78_method_5_code 1 = .ok (.bipush 48, 2) := by decide +kernel
theorem d14_3 : decode prog_78_method_5_code 3 = .ok (.if_icmp .lt 14, 3) := by decide +kernel
theorem d14_6 : decode prog_78_method_5_code 6 = .ok (.iload_n 0, 1) := by decide +kernel
theorem d14_7 : decode prog_78_method_5_code 7 = .ok (.bipush 57, 2) := by decide +kernel
theorem d14_9 : decode prog_78_method_5_code 9 = .ok (.if_icmp .gt 8, 3) := by decide +kernel
theorem d14_12 : decode prog_78_method_5_code 12 = .ok (.iload_n 0, 1) := by decide +kernel
theorem d14_13 : decode prog_78_method_5_code 13 = .ok (.bipush 48, 2) := by decide +kernel
theorem d14_15 : decode prog_78_method_5_code 15 = .ok (.isub, 1) := by decide +kernel
theorem d14_16 : decode prog_78_method_5_code 16 = .ok (.ireturn, 1) := by decide +kernel
theorem d14_17 : decode prog_78_method_5_code 17 = .ok (.iload_n 0, 1) := by decide +kernel
theorem d14_18 : decode prog_78_method_5_code 18 = .ok (.bipush 65, 2) := by decide +kernel
theorem d14_20 : decode prog_78_method_5_code 20 = .ok (.if_icmp .lt 17, 3) := by decide +kernel
theorem d14_23 : decode prog_78_method_5_code 23 = .ok (.iload_n 0, 1) := by decide +kernel
theorem d14_24 : decode prog_78_method_5_code 24 = .ok (.bipush 70, 2) := by decide +kernel
theorem d14_26 : decode prog_78_method_5_code 26 = .ok (.if_icmp .gt 11, 3) := by decide +kernel
theorem d14_29 : decode prog_78_method_5_code 29 = .ok (.iload_n 0, 1) := by decide +kernel
theorem d14_30 : decode prog_78_method_5_code 30 = .ok (.bipush 65, 2) := by decide +kernel
theorem d14_32 : decode prog_78_method_5_code 32 = .ok (.isub, 1) := by decide +kernel
theorem d14_33 : decode prog_78_method_5_code 33 = .ok (.bipush 10, 2) := by decide +kernel
theorem d14_35 : decode prog_78_method_5_code 35 = .ok (.iadd, 1) := by decide +kernel
theorem d14_36 : decode prog_78_method_5_code 36 = .ok (.ireturn, 1) := by decide +kernel
theorem d14_37 : decode prog_78_method_5_code 37 = .ok (.iload_n 0, 1) := by decide +kernel
theorem d14_38 : decode prog_78_method_5_code 38 = .ok (.bipush 97, 2) := by decide +kernel
theorem d14_40 : decode prog_78_method_5_code 40 = .ok (.if_icmp .lt 17, 3) := by decide +kernel
theorem d14_43 : decode prog_78_method_5_code 43 = .ok (.iload_n 0, 1) := by decide +kernel
theorem d14_44 : decode prog_78_method_5_code 44 = .ok (.bipush 102, 2) := by decide +kernel
theorem d14_46 : decode prog_78_method_5_code 46 = .ok (.if_icmp .gt 11, 3) := by decide +kernel
theorem d14_49 : decode prog_78_method_5_code 49 = .ok (.iload_n 0, 1) := by decide +kernel
theorem d14_50 : decode prog_78_method_5_code 50 = .ok (.bipush 97, 2) := by decide +kernel
theorem d14_52 : decode prog_78_method_5_code 52 = .ok (.isub, 1) := by decide +kernel
theorem d14_53 : decode prog_78_method_5_code 53 = .ok (.bipush 10, 2) := by decide +kernel
theorem d14_55 : decode prog_78_method_5_code 55 = .ok (.iadd, 1) := by decide +kernel
theorem d14_56 : decode prog_78_method_5_code 56 = .ok (.ireturn, 1) := by decide +kernel
theorem d14_57 : decode prog_78_method_5_code 57 = .ok (.iconst (-1), 1) := by decide +kernel
theorem d14_58 : decode prog_78_method_5_code 58 = .ok (.ireturn, 1) := by decide +kernel
abbrev own_rm14_room : Room := { frames := 0, cells := 0, slots := 0, locals := 0 }
set_option maxRecDepth 65536 in
set_option maxHeartbeats 40000000 in
theorem rm14 (l : Launch) (Z : State) (a0 : Array Value) (hw : ∀ d ∈ tables_1, d.before a0 Z = true) (n0 : Nat) (h0 : Heap) (Z0 : n0 ≤ h0.size) (y0 : Int32)  :
    Ctr l Z (⟨"paramwick/util/PercentEncoding", "hexValue", "(B)I"⟩ : MethodName) prog_78_method_5_code 1 (some .int) own_rm14_room n0 #[(.int y0)] h0 (fun v h => v = some (.int (own_hv y0)) ∧ h = h0) := by
  refine Ctr.of #[.val (.int y0)] (plainFor_of_name pn_0) Z0 (fun m => by first | (simp [entryFrame, mkF, argsToLocals, Value.category]; done) | rfl) ?_
  intro C H
  refine k_iloadN (pc := 0) H d14_0 rfl ?_
  refine k_bipush (48 : Int32) (pc := 1) H d14_1 rfl ?_
  refine k_icmp (P := y0 < (48 : Int32)) 17 (pc := 3) H d14_3 rfl XT.ii_lt_t XT.ii_lt_f (fun c3 => ?_) (fun c3 => ?_)
  · refine k_iloadN (pc := 17) H d14_17 rfl ?_
    refine k_bipush (65 : Int32) (pc := 18) H d14_18 rfl ?_
    refine k_icmp (P := y0 < (65 : Int32)) 37 (pc := 20) H d14_20 rfl XT.ii_lt_t XT.ii_lt_f (fun c20 => ?_) (fun c20 => ?_)
    · refine k_iloadN (pc := 37) H d14_37 rfl ?_
      refine k_bipush (97 : Int32) (pc := 38) H d14_38 rfl ?_
      refine k_icmp (P := y0 < (97 : Int32)) 57 (pc := 40) H d14_40 rfl XT.ii_lt_t XT.ii_lt_f (fun c40 => ?_) (fun c40 => ?_)
      · refine k_iconst (-1 : Int32) (pc := 57) H d14_57 rfl ?_
        exact k_retInt (pc := 58) H d14_58 (by show 0 ≤ own_rm14_room.cells; decide) (by show 0 ≤ own_rm14_room.slots; decide) (⟨by simp only [own_hv, *, if_true, if_false], rfl⟩)
      · refine k_iloadN (pc := 43) H d14_43 rfl ?_
        refine k_bipush (102 : Int32) (pc := 44) H d14_44 rfl ?_
        refine k_icmp (P := (102 : Int32) < y0) 57 (pc := 46) H d14_46 rfl XT.ii_gt_t XT.ii_gt_f (fun c46 => ?_) (fun c46 => ?_)
        · refine k_iconst (-1 : Int32) (pc := 57) H d14_57 rfl ?_
          exact k_retInt (pc := 58) H d14_58 (by show 0 ≤ own_rm14_room.cells; decide) (by show 0 ≤ own_rm14_room.slots; decide) (⟨by simp only [own_hv, *, if_true, if_false], rfl⟩)
        · refine k_iloadN (pc := 49) H d14_49 rfl ?_
          refine k_bipush (97 : Int32) (pc := 50) H d14_50 rfl ?_
          refine k_isub (pc := 52) H d14_52 ?_
          refine k_bipush (10 : Int32) (pc := 53) H d14_53 rfl ?_
          refine k_iadd (pc := 55) H d14_55 ?_
          exact k_retInt (pc := 56) H d14_56 (by show 0 ≤ own_rm14_room.cells; decide) (by show 0 ≤ own_rm14_room.slots; decide) (⟨by simp only [own_hv, *, if_true, if_false], rfl⟩)
    · refine k_iloadN (pc := 23) H d14_23 rfl ?_
      refine k_bipush (70 : Int32) (pc := 24) H d14_24 rfl ?_
      refine k_icmp (P := (70 : Int32) < y0) 37 (pc := 26) H d14_26 rfl XT.ii_gt_t XT.ii_gt_f (fun c26 => ?_) (fun c26 => ?_)
      · refine k_iloadN (pc := 37) H d14_37 rfl ?_
        refine k_bipush (97 : Int32) (pc := 38) H d14_38 rfl ?_
        refine k_icmp (P := y0 < (97 : Int32)) 57 (pc := 40) H d14_40 rfl XT.ii_lt_t XT.ii_lt_f (fun c40 => ?_) (fun c40 => ?_)
        · refine k_iconst (-1 : Int32) (pc := 57) H d14_57 rfl ?_
          exact k_retInt (pc := 58) H d14_58 (by show 0 ≤ own_rm14_room.cells; decide) (by show 0 ≤ own_rm14_room.slots; decide) (⟨by simp only [own_hv, *, if_true, if_false], rfl⟩)
        · refine k_iloadN (pc := 43) H d14_43 rfl ?_
          refine k_bipush (102 : Int32) (pc := 44) H d14_44 rfl ?_
          refine k_icmp (P := (102 : Int32) < y0) 57 (pc := 46) H d14_46 rfl XT.ii_gt_t XT.ii_gt_f (fun c46 => ?_) (fun c46 => ?_)
          · refine k_iconst (-1 : Int32) (pc := 57) H d14_57 rfl ?_
            exact k_retInt (pc := 58) H d14_58 (by show 0 ≤ own_rm14_room.cells; decide) (by show 0 ≤ own_rm14_room.slots; decide) (⟨by simp only [own_hv, *, if_true, if_false], rfl⟩)
          · refine k_iloadN (pc := 49) H d14_49 rfl ?_
            refine k_bipush (97 : Int32) (pc := 50) H d14_50 rfl ?_
            refine k_isub (pc := 52) H d14_52 ?_
            refine k_bipush (10 : Int32) (pc := 53) H d14_53 rfl ?_
            refine k_iadd (pc := 55) H d14_55 ?_
            exact k_retInt (pc := 56) H d14_56 (by show 0 ≤ own_rm14_room.cells; decide) (by show 0 ≤ own_rm14_room.slots; decide) (⟨by simp only [own_hv, *, if_true, if_false], rfl⟩)
      · refine k_iloadN (pc := 29) H d14_29 rfl ?_
        refine k_bipush (65 : Int32) (pc := 30) H d14_30 rfl ?_
        refine k_isub (pc := 32) H d14_32 ?_
        refine k_bipush (10 : Int32) (pc := 33) H d14_33 rfl ?_
        refine k_iadd (pc := 35) H d14_35 ?_
        exact k_retInt (pc := 36) H d14_36 (by show 0 ≤ own_rm14_room.cells; decide) (by show 0 ≤ own_rm14_room.slots; decide) (⟨by simp only [own_hv, *, if_true, if_false], rfl⟩)
  · refine k_iloadN (pc := 6) H d14_6 rfl ?_
    refine k_bipush (57 : Int32) (pc := 7) H d14_7 rfl ?_
    refine k_icmp (P := (57 : Int32) < y0) 17 (pc := 9) H d14_9 rfl XT.ii_gt_t XT.ii_gt_f (fun c9 => ?_) (fun c9 => ?_)
    · refine k_iloadN (pc := 17) H d14_17 rfl ?_
      refine k_bipush (65 : Int32) (pc := 18) H d14_18 rfl ?_
      refine k_icmp (P := y0 < (65 : Int32)) 37 (pc := 20) H d14_20 rfl XT.ii_lt_t XT.ii_lt_f (fun c20 => ?_) (fun c20 => ?_)
      · refine k_iloadN (pc := 37) H d14_37 rfl ?_
        refine k_bipush (97 : Int32) (pc := 38) H d14_38 rfl ?_
        refine k_icmp (P := y0 < (97 : Int32)) 57 (pc := 40) H d14_40 rfl XT.ii_lt_t XT.ii_lt_f (fun c40 => ?_) (fun c40 => ?_)
        · refine k_iconst (-1 : Int32) (pc := 57) H d14_57 rfl ?_
          exact k_retInt (pc := 58) H d14_58 (by show 0 ≤ own_rm14_room.cells; decide) (by show 0 ≤ own_rm14_room.slots; decide) (⟨by simp only [own_hv, *, if_true, if_false], rfl⟩)
        · refine k_iloadN (pc := 43) H d14_43 rfl ?_
          refine k_bipush (102 : Int32) (pc := 44) H d14_44 rfl ?_
          refine k_icmp (P := (102 : Int32) < y0) 57 (pc := 46) H d14_46 rfl XT.ii_gt_t XT.ii_gt_f (fun c46 => ?_) (fun c46 => ?_)
          · refine k_iconst (-1 : Int32) (pc := 57) H d14_57 rfl ?_
            exact k_retInt (pc := 58) H d14_58 (by show 0 ≤ own_rm14_room.cells; decide) (by show 0 ≤ own_rm14_room.slots; decide) (⟨by simp only [own_hv, *, if_true, if_false], rfl⟩)
          · refine k_iloadN (pc := 49) H d14_49 rfl ?_
            refine k_bipush (97 : Int32) (pc := 50) H d14_50 rfl ?_
            refine k_isub (pc := 52) H d14_52 ?_
            refine k_bipush (10 : Int32) (pc := 53) H d14_53 rfl ?_
            refine k_iadd (pc := 55) H d14_55 ?_
            exact k_retInt (pc := 56) H d14_56 (by show 0 ≤ own_rm14_room.cells; decide) (by show 0 ≤ own_rm14_room.slots; decide) (⟨by simp only [own_hv, *, if_true, if_false], rfl⟩)
      · refine k_iloadN (pc := 23) H d14_23 rfl ?_
        refine k_bipush (70 : Int32) (pc := 24) H d14_24 rfl ?_
        refine k_icmp (P := (70 : Int32) < y0) 37 (pc := 26) H d14_26 rfl XT.ii_gt_t XT.ii_gt_f (fun c26 => ?_) (fun c26 => ?_)
        · refine k_iloadN (pc := 37) H d14_37 rfl ?_
          refine k_bipush (97 : Int32) (pc := 38) H d14_38 rfl ?_
          refine k_icmp (P := y0 < (97 : Int32)) 57 (pc := 40) H d14_40 rfl XT.ii_lt_t XT.ii_lt_f (fun c40 => ?_) (fun c40 => ?_)
          · refine k_iconst (-1 : Int32) (pc := 57) H d14_57 rfl ?_
            exact k_retInt (pc := 58) H d14_58 (by show 0 ≤ own_rm14_room.cells; decide) (by show 0 ≤ own_rm14_room.slots; decide) (⟨by simp only [own_hv, *, if_true, if_false], rfl⟩)
          · refine k_iloadN (pc := 43) H d14_43 rfl ?_
            refine k_bipush (102 : Int32) (pc := 44) H d14_44 rfl ?_
            refine k_icmp (P := (102 : Int32) < y0) 57 (pc := 46) H d14_46 rfl XT.ii_gt_t XT.ii_gt_f (fun c46 => ?_) (fun c46 => ?_)
            · refine k_iconst (-1 : Int32) (pc := 57) H d14_57 rfl ?_
              exact k_retInt (pc := 58) H d14_58 (by show 0 ≤ own_rm14_room.cells; decide) (by show 0 ≤ own_rm14_room.slots; decide) (⟨by simp only [own_hv, *, if_true, if_false], rfl⟩)
            · refine k_iloadN (pc := 49) H d14_49 rfl ?_
              refine k_bipush (97 : Int32) (pc := 50) H d14_50 rfl ?_
              refine k_isub (pc := 52) H d14_52 ?_
              refine k_bipush (10 : Int32) (pc := 53) H d14_53 rfl ?_
              refine k_iadd (pc := 55) H d14_55 ?_
              exact k_retInt (pc := 56) H d14_56 (by show 0 ≤ own_rm14_room.cells; decide) (by show 0 ≤ own_rm14_room.slots; decide) (⟨by simp only [own_hv, *, if_true, if_false], rfl⟩)
        · refine k_iloadN (pc := 29) H d14_29 rfl ?_
          refine k_bipush (65 : Int32) (pc := 30) H d14_30 rfl ?_
          refine k_isub (pc := 32) H d14_32 ?_
          refine k_bipush (10 : Int32) (pc := 33) H d14_33 rfl ?_
          refine k_iadd (pc := 35) H d14_35 ?_
          exact k_retInt (pc := 36) H d14_36 (by show 0 ≤ own_rm14_room.cells; decide) (by show 0 ≤ own_rm14_room.slots; decide) (⟨by simp only [own_hv, *, if_true, if_false], rfl⟩)
    · refine k_iloadN (pc := 12) H d14_12 rfl ?_
      refine k_bipush (48 : Int32) (pc := 13) H d14_13 rfl ?_
      refine k_isub (pc := 15) H d14_15 ?_
      exact k_retInt (pc := 16) H d14_16 (by show 0 ≤ own_rm14_room.cells; decide) (by show 0 ≤ own_rm14_room.slots; decide) (⟨by simp only [own_hv, *, if_true, if_false], rfl⟩)
theorem d15_0 : decode method_3_code 0 = .ok (.iload_n 0, 1) := by decide +kernel
theorem d15_1 : decode method_3_code 1 = .ok (.bipush 48, 2) := by decide +kernel
theorem d15_3 : decode method_3_code 3 = .ok (.if_icmp .lt 14, 3) := by decide +kernel
theorem d15_6 : decode method_3_code 6 = .ok (.iload_n 0, 1) := by decide +kernel
theorem d15_7 : decode method_3_code 7 = .ok (.bipush 57, 2) := by decide +kernel
theorem d15_9 : decode method_3_code 9 = .ok (.if_icmp .gt 8, 3) := by decide +kernel
theorem d15_12 : decode method_3_code 12 = .ok (.iload_n 0, 1) := by decide +kernel
theorem d15_13 : decode method_3_code 13 = .ok (.bipush 48, 2) := by decide +kernel
theorem d15_15 : decode method_3_code 15 = .ok (.isub, 1) := by decide +kernel
theorem d15_16 : decode method_3_code 16 = .ok (.ireturn, 1) := by decide +kernel
theorem d15_17 : decode method_3_code 17 = .ok (.iload_n 0, 1) := by decide +kernel
theorem d15_18 : decode method_3_code 18 = .ok (.bipush 32, 2) := by decide +kernel
theorem d15_20 : decode method_3_code 20 = .ok (.ior, 1) := by decide +kernel
theorem d15_21 : decode method_3_code 21 = .ok (.istore_n 1, 1) := by decide +kernel
theorem d15_22 : decode method_3_code 22 = .ok (.iload_n 1, 1) := by decide +kernel
theorem d15_23 : decode method_3_code 23 = .ok (.bipush 97, 2) := by decide +kernel
theorem d15_25 : decode method_3_code 25 = .ok (.if_icmp .lt 17, 3) := by decide +kernel
theorem d15_28 : decode method_3_code 28 = .ok (.iload_n 1, 1) := by decide +kernel
theorem d15_29 : decode method_3_code 29 = .ok (.bipush 102, 2) := by decide +kernel
theorem d15_31 : decode method_3_code 31 = .ok (.if_icmp .gt 11, 3) := by decide +kernel
theorem d15_34 : decode method_3_code 34 = .ok (.iload_n 1, 1) := by decide +kernel
theorem d15_35 : decode method_3_code 35 = .ok (.bipush 97, 2) := by decide +kernel
theorem d15_37 : decode method_3_code 37 = .ok (.isub, 1) := by decide +kernel
theorem d15_38 : decode method_3_code 38 = .ok (.bipush 10, 2) := by decide +kernel
theorem d15_40 : decode method_3_code 40 = .ok (.iadd, 1) := by decide +kernel
theorem d15_41 : decode method_3_code 41 = .ok (.ireturn, 1) := by decide +kernel
theorem d15_42 : decode method_3_code 42 = .ok (.iconst (-1), 1) := by decide +kernel
theorem d15_43 : decode method_3_code 43 = .ok (.ireturn, 1) := by decide +kernel
abbrev own_rm15_room : Room := { frames := 0, cells := 0, slots := 0, locals := 0 }
set_option maxRecDepth 65536 in
set_option maxHeartbeats 40000000 in
theorem rm15 (l : Launch) (Z : State) (a0 : Array Value) (hw : ∀ d ∈ tables_1, d.before a0 Z = true) (n0 : Nat) (h0 : Heap) (Z0 : n0 ≤ h0.size) (b : Int8)  :
    Ctr l Z (⟨"paramwick/util/PercentEncodingDecodePinLaw", "hexv", "(B)I"⟩ : MethodName) method_3_code 2 (some .int) own_rm15_room n0 #[(.int b.toInt32)] h0 (fun v h => v = some (.int (own_hv b.toInt32)) ∧ h = h0) := by
  refine Ctr.of #[.val (.int b.toInt32), .unset] (plainFor_of_name pn_1) Z0 (fun m => by first | (simp [entryFrame, mkF, argsToLocals, Value.category]; done) | rfl) ?_
  intro C H
  refine k_iloadN (pc := 0) H d15_0 rfl ?_
  refine k_bipush (48 : Int32) (pc := 1) H d15_1 rfl ?_
  refine k_icmp (P := b.toInt32 < (48 : Int32)) 17 (pc := 3) H d15_3 rfl XT.ii_lt_t XT.ii_lt_f (fun c3 => ?_) (fun c3 => ?_)
  · refine k_iloadN (pc := 17) H d15_17 rfl ?_
    refine k_bipush (32 : Int32) (pc := 18) H d15_18 rfl ?_
    refine k_ior (pc := 20) H d15_20 ?_
    refine k_istoreN (pc := 21) H d15_21 (Ls' := #[.val (.int b.toInt32), .val (.int (b.toInt32 ||| (32 : Int32)))]) rfl ?_
    refine k_iloadN (pc := 22) H d15_22 rfl ?_
    refine k_bipush (97 : Int32) (pc := 23) H d15_23 rfl ?_
    refine k_icmp (P := (b.toInt32 ||| (32 : Int32)) < (97 : Int32)) 42 (pc := 25) H d15_25 rfl XT.ii_lt_t XT.ii_lt_f (fun c25 => ?_) (fun c25 => ?_)
    · refine k_iconst (-1 : Int32) (pc := 42) H d15_42 rfl ?_
      exact k_retInt (pc := 43) H d15_43 (by show 0 ≤ own_rm15_room.cells; decide) (by show 0 ≤ own_rm15_room.slots; decide) (⟨by rw [← own_hv_eq]; simp only [own_hv2, *, if_true, if_false], rfl⟩)
    · refine k_iloadN (pc := 28) H d15_28 rfl ?_
      refine k_bipush (102 : Int32) (pc := 29) H d15_29 rfl ?_
      refine k_icmp (P := (102 : Int32) < (b.toInt32 ||| (32 : Int32))) 42 (pc := 31) H d15_31 rfl XT.ii_gt_t XT.ii_gt_f (fun c31 => ?_) (fun c31 => ?_)
      · refine k_iconst (-1 : Int32) (pc := 42) H d15_42 rfl ?_
        exact k_retInt (pc := 43) H d15_43 (by show 0 ≤ own_rm15_room.cells; decide) (by show 0 ≤ own_rm15_room.slots; decide) (⟨by rw [← own_hv_eq]; simp only [own_hv2, *, if_true, if_false], rfl⟩)
      · refine k_iloadN (pc := 34) H d15_34 rfl ?_
        refine k_bipush (97 : Int32) (pc := 35) H d15_35 rfl ?_
        refine k_isub (pc := 37) H d15_37 ?_
        refine k_bipush (10 : Int32) (pc := 38) H d15_38 rfl ?_
        refine k_iadd (pc := 40) H d15_40 ?_
        exact k_retInt (pc := 41) H d15_41 (by show 0 ≤ own_rm15_room.cells; decide) (by show 0 ≤ own_rm15_room.slots; decide) (⟨by rw [← own_hv_eq]; simp only [own_hv2, *, if_true, if_false], rfl⟩)
  · refine k_iloadN (pc := 6) H d15_6 rfl ?_
    refine k_bipush (57 : Int32) (pc := 7) H d15_7 rfl ?_
    refine k_icmp (P := (57 : Int32) < b.toInt32) 17 (pc := 9) H d15_9 rfl XT.ii_gt_t XT.ii_gt_f (fun c9 => ?_) (fun c9 => ?_)
    · refine k_iloadN (pc := 17) H d15_17 rfl ?_
      refine k_bipush (32 : Int32) (pc := 18) H d15_18 rfl ?_
      refine k_ior (pc := 20) H d15_20 ?_
      refine k_istoreN (pc := 21) H d15_21 (Ls' := #[.val (.int b.toInt32), .val (.int (b.toInt32 ||| (32 : Int32)))]) rfl ?_
      refine k_iloadN (pc := 22) H d15_22 rfl ?_
      refine k_bipush (97 : Int32) (pc := 23) H d15_23 rfl ?_
      refine k_icmp (P := (b.toInt32 ||| (32 : Int32)) < (97 : Int32)) 42 (pc := 25) H d15_25 rfl XT.ii_lt_t XT.ii_lt_f (fun c25 => ?_) (fun c25 => ?_)
      · refine k_iconst (-1 : Int32) (pc := 42) H d15_42 rfl ?_
        exact k_retInt (pc := 43) H d15_43 (by show 0 ≤ own_rm15_room.cells; decide) (by show 0 ≤ own_rm15_room.slots; decide) (⟨by rw [← own_hv_eq]; simp only [own_hv2, *, if_true, if_false], rfl⟩)
      · refine k_iloadN (pc := 28) H d15_28 rfl ?_
        refine k_bipush (102 : Int32) (pc := 29) H d15_29 rfl ?_
        refine k_icmp (P := (102 : Int32) < (b.toInt32 ||| (32 : Int32))) 42 (pc := 31) H d15_31 rfl XT.ii_gt_t XT.ii_gt_f (fun c31 => ?_) (fun c31 => ?_)
        · refine k_iconst (-1 : Int32) (pc := 42) H d15_42 rfl ?_
          exact k_retInt (pc := 43) H d15_43 (by show 0 ≤ own_rm15_room.cells; decide) (by show 0 ≤ own_rm15_room.slots; decide) (⟨by rw [← own_hv_eq]; simp only [own_hv2, *, if_true, if_false], rfl⟩)
        · refine k_iloadN (pc := 34) H d15_34 rfl ?_
          refine k_bipush (97 : Int32) (pc := 35) H d15_35 rfl ?_
          refine k_isub (pc := 37) H d15_37 ?_
          refine k_bipush (10 : Int32) (pc := 38) H d15_38 rfl ?_
          refine k_iadd (pc := 40) H d15_40 ?_
          exact k_retInt (pc := 41) H d15_41 (by show 0 ≤ own_rm15_room.cells; decide) (by show 0 ≤ own_rm15_room.slots; decide) (⟨by rw [← own_hv_eq]; simp only [own_hv2, *, if_true, if_false], rfl⟩)
    · refine k_iloadN (pc := 12) H d15_12 rfl ?_
      refine k_bipush (48 : Int32) (pc := 13) H d15_13 rfl ?_
      refine k_isub (pc := 15) H d15_15 ?_
      exact k_retInt (pc := 16) H d15_16 (by show 0 ≤ own_rm15_room.cells; decide) (by show 0 ≤ own_rm15_room.slots; decide) (⟨by rw [← own_hv_eq]; simp only [own_hv2, *, if_true, if_false], rfl⟩)
theorem d13_0 : decode prog_78_method_4_code 0 = .ok (.iload_n 0, 1) := by decide +kernel
theorem d13_1 : decode prog_78_method_4_code 1 = .ok (.invokestatic 17, 3) := by decide +kernel
theorem d13_4 : decode prog_78_method_4_code 4 = .ok (.ifCond .lt 7, 3) := by decide +kernel
theorem d13_7 : decode prog_78_method_4_code 7 = .ok (.iconst 1, 1) := by decide +kernel
theorem d13_8 : decode prog_78_method_4_code 8 = .ok (.goto 4, 3) := by decide +kernel
theorem d13_11 : decode prog_78_method_4_code 11 = .ok (.iconst 0, 1) := by decide +kernel
theorem d13_12 : decode prog_78_method_4_code 12 = .ok (.ireturn, 1) := by decide +kernel
abbrev own_rm13_room : Room := { frames := 1, cells := 0, slots := 0, locals := 12 }
set_option maxRecDepth 65536 in
set_option maxHeartbeats 40000000 in
theorem rm13 (l : Launch) (Z : State) (a0 : Array Value) (hw : ∀ d ∈ tables_1, d.before a0 Z = true) (n0 : Nat) (h0 : Heap) (Z0 : n0 ≤ h0.size) (y0 : Int32)  :
    Ctr l Z (⟨"paramwick/util/PercentEncoding", "isHex", "(B)Z"⟩ : MethodName) prog_78_method_4_code 1 (some .boolean) own_rm13_room n0 #[(.int y0)] h0 (fun v h => v = some (.int (own_ih y0)) ∧ h = h0) := by
  refine Ctr.of #[.val (.int y0)] (plainFor_of_name pn_0) Z0 (fun m => by first | (simp [entryFrame, mkF, argsToLocals, Value.category]; done) | rfl) ?_
  intro C H
  refine k_iloadN (pc := 0) H d13_0 rfl ?_
  refine k_invS (y := (⟨"paramwick/util/PercentEncoding", "hexValue", "(B)I"⟩ : MethodName)) (st := []) [(.int y0)] 0 (pc := 1) H (wd hw 64 rfl) (wd hw 65 rfl) (wd hw 11 rfl) (wd hw 66 rfl) (by decide) (fun z0 => rm14 l Z a0 hw n0 h0 z0 y0) (lenOf pd_0 rfl) d13_1 rfl rfl rfl (by decide) (by decide) (by decide) (by decide) ?_
  rintro v hx ⟨rfl, ex⟩
  rw [ex]
  clear ex hx
  show W l own_rm13_room C _ h0 0 0 4 #[.val (.int y0)] [(.int (own_hv y0))]
  refine k_iff0 (P := (own_hv y0) < 0) 11 (pc := 4) H d13_4 rfl XT.i0_lt_t XT.i0_lt_f (fun c4 => ?_) (fun c4 => ?_)
  · refine k_iconst (0 : Int32) (pc := 11) H d13_11 rfl ?_
    exact k_retN' (t := .boolean) (by simp) (pc := 12) H d13_12 (by show 0 ≤ own_rm13_room.cells; decide) (by show 0 ≤ own_rm13_room.slots; decide) (⟨by simp only [own_ih, *, if_true, if_false]; rfl, rfl⟩)
  · refine k_iconst (1 : Int32) (pc := 7) H d13_7 rfl ?_
    refine k_goto 12 (pc := 8) H d13_8 rfl ?_
    exact k_retN' (t := .boolean) (by simp) (pc := 12) H d13_12 (by show 0 ≤ own_rm13_room.cells; decide) (by show 0 ≤ own_rm13_room.slots; decide) (⟨by simp only [own_ih, *, if_true, if_false]; rfl, rfl⟩)
theorem d2_0 : decode jdk_29_method_69_code 0 = .ok (.iload_n 0, 1) := by decide +kernel
theorem d2_1 : decode jdk_29_method_69_code 1 = .ok (.iload_n 1, 1) := by decide +kernel
theorem d2_2 : decode jdk_29_method_69_code 2 = .ok (.if_icmp .gt 7, 3) := by decide +kernel
theorem d2_5 : decode jdk_29_method_69_code 5 = .ok (.iload_n 0, 1) := by decide +kernel
theorem d2_6 : decode jdk_29_method_69_code 6 = .ok (.goto 4, 3) := by decide +kernel
theorem d2_9 : decode jdk_29_method_69_code 9 = .ok (.iload_n 1, 1) := by decide +kernel
theorem d2_10 : decode jdk_29_method_69_code 10 = .ok (.ireturn, 1) := by decide +kernel
abbrev own_rm2_room : Room := { frames := 0, cells := 0, slots := 0, locals := 0 }
set_option maxRecDepth 65536 in
set_option maxHeartbeats 40000000 in
theorem rm2 (l : Launch) (Z : State) (a0 : Array Value) (hw : ∀ d ∈ tables_1, d.before a0 Z = true) (n0 : Nat) (h0 : Heap) (Z0 : n0 ≤ h0.size) (y0 y1 : Int32)  :
    Ctr l Z (⟨"java/lang/Math", "min", "(II)I"⟩ : MethodName) jdk_29_method_69_code 2 (some .int) own_rm2_room n0 #[(.int y0), (.int y1)] h0 (fun v h => v = some (.int (own_min y0 y1)) ∧ h = h0) := by
  refine Ctr.of #[.val (.int y0), .val (.int y1)] pf_2 Z0 (fun m => by first | (simp [entryFrame, mkF, argsToLocals, Value.category]; done) | rfl) ?_
  intro C H
  refine k_iloadN (pc := 0) H d2_0 rfl ?_
  refine k_iloadN (pc := 1) H d2_1 rfl ?_
  refine k_icmp (P := y1 < y0) 9 (pc := 2) H d2_2 rfl XT.ii_gt_t XT.ii_gt_f (fun c2 => ?_) (fun c2 => ?_)
  · refine k_iloadN (pc := 9) H d2_9 rfl ?_
    exact k_retInt (pc := 10) H d2_10 (by show 0 ≤ own_rm2_room.cells; decide) (by show 0 ≤ own_rm2_room.slots; decide) (⟨by simp only [own_min, *, if_true, if_false], rfl⟩)
  · refine k_iloadN (pc := 5) H d2_5 rfl ?_
    refine k_goto 10 (pc := 6) H d2_6 rfl ?_
    exact k_retInt (pc := 10) H d2_10 (by show 0 ≤ own_rm2_room.cells; decide) (by show 0 ≤ own_rm2_room.slots; decide) (⟨by simp only [own_min, *, if_true, if_false], rfl⟩)
theorem d11_0 : decode prog_78_method_2_code 0 = .ok (.aload_n 0, 1) := by decide +kernel
theorem d11_1 : decode prog_78_method_2_code 1 = .ok (.iload_n 1, 1) := by decide +kernel
theorem d11_2 : decode prog_78_method_2_code 2 = .ok (.baload, 1) := by decide +kernel
theorem d11_3 : decode prog_78_method_2_code 3 = .ok (.bipush 37, 2) := by decide +kernel
theorem d11_5 : decode prog_78_method_2_code 5 = .ok (.if_icmp .ne 36, 3) := by decide +kernel
theorem d11_8 : decode prog_78_method_2_code 8 = .ok (.iload_n 1, 1) := by decide +kernel
theorem d11_9 : decode prog_78_method_2_code 9 = .ok (.iconst 2, 1) := by decide +kernel
theorem d11_10 : decode prog_78_method_2_code 10 = .ok (.iadd, 1) := by decide +kernel
theorem d11_11 : decode prog_78_method_2_code 11 = .ok (.iload_n 2, 1) := by decide +kernel
theorem d11_12 : decode prog_78_method_2_code 12 = .ok (.if_icmp .ge 29, 3) := by decide +kernel
theorem d11_15 : decode prog_78_method_2_code 15 = .ok (.aload_n 0, 1) := by decide +kernel
theorem d11_16 : decode prog_78_method_2_code 16 = .ok (.iload_n 1, 1) := by decide +kernel
theorem d11_17 : decode prog_78_method_2_code 17 = .ok (.iconst 1, 1) := by decide +kernel
theorem d11_18 : decode prog_78_method_2_code 18 = .ok (.iadd, 1) := by decide +kernel
theorem d11_19 : decode prog_78_method_2_code 19 = .ok (.baload, 1) := by decide +kernel
theorem d11_20 : decode prog_78_method_2_code 20 = .ok (.invokestatic 7, 3) := by decide +kernel
theorem d11_23 : decode prog_78_method_2_code 23 = .ok (.ifCond .eq 18, 3) := by decide +kernel
theorem d11_26 : decode prog_78_method_2_code 26 = .ok (.aload_n 0, 1) := by decide +kernel
theorem d11_27 : decode prog_78_method_2_code 27 = .ok (.iload_n 1, 1) := by decide +kernel
theorem d11_28 : decode prog_78_method_2_code 28 = .ok (.iconst 2, 1) := by decide +kernel
theorem d11_29 : decode prog_78_method_2_code 29 = .ok (.iadd, 1) := by decide +kernel
theorem d11_30 : decode prog_78_method_2_code 30 = .ok (.baload, 1) := by decide +kernel
theorem d11_31 : decode prog_78_method_2_code 31 = .ok (.invokestatic 7, 3) := by decide +kernel
theorem d11_34 : decode prog_78_method_2_code 34 = .ok (.ifCond .eq 7, 3) := by decide +kernel
theorem d11_37 : decode prog_78_method_2_code 37 = .ok (.iconst 1, 1) := by decide +kernel
theorem d11_38 : decode prog_78_method_2_code 38 = .ok (.goto 4, 3) := by decide +kernel
theorem d11_41 : decode prog_78_method_2_code 41 = .ok (.iconst 0, 1) := by decide +kernel
theorem d11_42 : decode prog_78_method_2_code 42 = .ok (.ireturn, 1) := by decide +kernel
abbrev own_rm11_room : Room := { frames := 2, cells := 0, slots := 0, locals := 24 }
set_option maxRecDepth 65536 in
set_option maxHeartbeats 40000000 in
theorem rm11 (l : Launch) (Z : State) (a0 : Array Value) (hw : ∀ d ∈ tables_1, d.before a0 Z = true) (n0 : Nat) (h0 : Heap) (Z0 : n0 ≤ h0.size) (a : Addr) (bs : List Int8) (ii ti : Int32) (i T : Nat) (V : BA Z h0 a bs) (hb : bs.length = 6) (hi : ii.toInt = (i : Int)) (ht : ti.toInt = (T : Int)) (hi6 : i < 6) (hT : T ≤ 6) :
    Ctr l Z (⟨"paramwick/util/PercentEncoding", "isEscape", "([BII)Z"⟩ : MethodName) prog_78_method_2_code 3 (some .boolean) own_rm11_room n0 #[(.ref a), (.int ii), (.int ti)] h0 (fun v h => v = some (.int (own_b (own_esc bs T i))) ∧ h = h0) := by
  refine Ctr.of #[.val (.ref a), .val (.int ii), .val (.int ti)] (plainFor_of_name pn_0) Z0 (fun m => by first | (simp [entryFrame, mkF, argsToLocals, Value.category]; done) | rfl) ?_
  intro C H
  have q2 := lt_nat (add_nat (y := 2) (j := 2) hi rfl (by omega)) ht
  refine k_aloadN (pc := 0) H d11_0 rfl rfl ?_
  refine k_iloadN (pc := 1) H d11_1 rfl ?_
  refine k_baloadT (i := i) (x := (bs.getD i 0)) (pc := 2) H V (hi) (own_get 0 (by omega)) d11_2 ?_
  refine k_bipush (37 : Int32) (pc := 3) H d11_3 rfl ?_
  refine k_icmpR (P := (bs.getD i 0).toInt32 = (37 : Int32)) 41 (pc := 5) H d11_5 rfl XT.ii_ne_t XT.ii_ne_f (fun c1 => ?_) (fun c1 => ?_)
  · refine k_iconst (0 : Int32) (pc := 41) H d11_41 rfl ?_
    exact k_retN' (t := .boolean) (by simp) (pc := 42) H d11_42 (by show 0 ≤ own_rm11_room.cells; decide) (by show 0 ≤ own_rm11_room.slots; decide) (⟨by rw [own_e1 c1]; rfl, rfl⟩)
  · refine k_iloadN (pc := 8) H d11_8 rfl ?_
    refine k_iconst (2 : Int32) (pc := 9) H d11_9 rfl ?_
    refine k_iadd (pc := 10) H d11_10 ?_
    refine k_iloadN (pc := 11) H d11_11 rfl ?_
    refine k_icmpR (P := (ii + (2 : Int32)) < ti) 41 (pc := 12) H d11_12 rfl XT.ii_ge_t XT.ii_ge_f (fun c2 => ?_) (fun c2 => ?_)
    · refine k_iconst (0 : Int32) (pc := 41) H d11_41 rfl ?_
      exact k_retN' (t := .boolean) (by simp) (pc := 42) H d11_42 (by show 0 ≤ own_rm11_room.cells; decide) (by show 0 ≤ own_rm11_room.slots; decide) (⟨by rw [own_e2 (fun z => c2 (q2.mpr z))]; rfl, rfl⟩)
    · have g2 := q2.mp c2
      refine k_aloadN (pc := 15) H d11_15 rfl rfl ?_
      refine k_iloadN (pc := 16) H d11_16 rfl ?_
      refine k_iconst (1 : Int32) (pc := 17) H d11_17 rfl ?_
      refine k_iadd (pc := 18) H d11_18 ?_
      refine k_baloadT (i := (i + 1)) (x := (bs.getD (i + 1) 0)) (pc := 19) H V (add_nat hi rfl (by omega)) (own_get 0 (by omega)) d11_19 ?_
      refine k_invS (y := (⟨"paramwick/util/PercentEncoding", "isHex", "(B)Z"⟩ : MethodName)) (st := []) [(.int (bs.getD (i + 1) 0).toInt32)] 0 (pc := 20) H (wd hw 61 rfl) (wd hw 62 rfl) (wd hw 11 rfl) (wd hw 63 rfl) (by decide) (fun z0 => rm13 l Z a0 hw n0 h0 z0 _) (lenOf pd_1 rfl) d11_20 rfl rfl rfl (by decide) (by decide) (by decide) (by decide) ?_
      rintro v hx ⟨rfl, ex⟩
      rw [ex]
      clear ex hx
      show W l own_rm11_room C _ h0 0 0 23 #[.val (.ref a), .val (.int ii), .val (.int ti)] [(.int (own_ih (bs.getD (i + 1) 0).toInt32))]
      refine k_iff0 (P := (own_ih (bs.getD (i + 1) 0).toInt32) = 0) 41 (pc := 23) H d11_23 rfl XT.i0_eq_t XT.i0_eq_f (fun c3 => ?_) (fun c3 => ?_)
      · rw [own_ih0] at c3
        refine k_iconst (0 : Int32) (pc := 41) H d11_41 rfl ?_
        exact k_retN' (t := .boolean) (by simp) (pc := 42) H d11_42 (by show 0 ≤ own_rm11_room.cells; decide) (by show 0 ≤ own_rm11_room.slots; decide) (⟨by rw [own_e3 c3]; rfl, rfl⟩)
      · rw [own_ih0] at c3
        refine k_aloadN (pc := 26) H d11_26 rfl rfl ?_
        refine k_iloadN (pc := 27) H d11_27 rfl ?_
        refine k_iconst (2 : Int32) (pc := 28) H d11_28 rfl ?_
        refine k_iadd (pc := 29) H d11_29 ?_
        refine k_baloadT (i := (i + 2)) (x := (bs.getD (i + 2) 0)) (pc := 30) H V (add_nat hi rfl (by omega)) (own_get 0 (by omega)) d11_30 ?_
        refine k_invS (y := (⟨"paramwick/util/PercentEncoding", "isHex", "(B)Z"⟩ : MethodName)) (st := []) [(.int (bs.getD (i + 2) 0).toInt32)] 0 (pc := 31) H (wd hw 61 rfl) (wd hw 62 rfl) (wd hw 11 rfl) (wd hw 63 rfl) (by decide) (fun z0 => rm13 l Z a0 hw n0 h0 z0 _) (lenOf pd_1 rfl) d11_31 rfl rfl rfl (by decide) (by decide) (by decide) (by decide) ?_
        rintro v hx ⟨rfl, ex⟩
        rw [ex]
        clear ex hx
        show W l own_rm11_room C _ h0 0 0 34 #[.val (.ref a), .val (.int ii), .val (.int ti)] [(.int (own_ih (bs.getD (i + 2) 0).toInt32))]
        refine k_iff0 (P := (own_ih (bs.getD (i + 2) 0).toInt32) = 0) 41 (pc := 34) H d11_34 rfl XT.i0_eq_t XT.i0_eq_f (fun c4 => ?_) (fun c4 => ?_)
        · rw [own_ih0] at c4
          refine k_iconst (0 : Int32) (pc := 41) H d11_41 rfl ?_
          exact k_retN' (t := .boolean) (by simp) (pc := 42) H d11_42 (by show 0 ≤ own_rm11_room.cells; decide) (by show 0 ≤ own_rm11_room.slots; decide) (⟨by rw [own_e4 c4]; rfl, rfl⟩)
        · rw [own_ih0] at c4
          refine k_iconst (1 : Int32) (pc := 37) H d11_37 rfl ?_
          refine k_goto 42 (pc := 38) H d11_38 rfl ?_
          exact k_retN' (t := .boolean) (by simp) (pc := 42) H d11_42 (by show 0 ≤ own_rm11_room.cells; decide) (by show 0 ≤ own_rm11_room.slots; decide) (⟨by rw [own_e5 c1 g2 c3 c4]; rfl, rfl⟩)
theorem d3_0 : decode prog_78_method_3_code 0 = .ok (.iconst 0, 1) := by decide +kernel
theorem d3_1 : decode prog_78_method_3_code 1 = .ok (.istore 5, 2) := by decide +kernel
theorem d3_3 : decode prog_78_method_3_code 3 = .ok (.iload_n 1, 1) := by decide +kernel
theorem d3_4 : decode prog_78_method_3_code 4 = .ok (.istore 6, 2) := by decide +kernel
theorem d3_6 : decode prog_78_method_3_code 6 = .ok (.iload 6, 2) := by decide +kernel
theorem d3_8 : decode prog_78_method_3_code 8 = .ok (.iload_n 2, 1) := by decide +kernel
theorem d3_9 : decode prog_78_method_3_code 9 = .ok (.if_icmp .ge 95, 3) := by decide +kernel
theorem d3_12 : decode prog_78_method_3_code 12 = .ok (.aload_n 0, 1) := by decide +kernel
theorem d3_13 : decode prog_78_method_3_code 13 = .ok (.iload 6, 2) := by decide +kernel
theorem d3_15 : decode prog_78_method_3_code 15 = .ok (.baload, 1) := by decide +kernel
theorem d3_16 : decode prog_78_method_3_code 16 = .ok (.istore 7, 2) := by decide +kernel
theorem d3_18 : decode prog_78_method_3_code 18 = .ok (.iload 7, 2) := by decide +kernel
theorem d3_20 : decode prog_78_method_3_code 20 = .ok (.bipush 43, 2) := by decide +kernel
theorem d3_22 : decode prog_78_method_3_code 22 = .ok (.if_icmp .ne 20, 3) := by decide +kernel
theorem d3_25 : decode prog_78_method_3_code 25 = .ok (.iload_n 3, 1) := by decide +kernel
theorem d3_26 : decode prog_78_method_3_code 26 = .ok (.ifCond .eq 16, 3) := by decide +kernel
theorem d3_29 : decode prog_78_method_3_code 29 = .ok (.aload 4, 2) := by decide +kernel
theorem d3_31 : decode prog_78_method_3_code 31 = .ok (.iload 5, 2) := by decide +kernel
theorem d3_33 : decode prog_78_method_3_code 33 = .ok (.iinc 5 1, 3) := by decide +kernel
theorem d3_36 : decode prog_78_method_3_code 36 = .ok (.bipush 32, 2) := by decide +kernel
theorem d3_38 : decode prog_78_method_3_code 38 = .ok (.bastore, 1) := by decide +kernel
theorem d3_39 : decode prog_78_method_3_code 39 = .ok (.goto 59, 3) := by decide +kernel
theorem d3_42 : decode prog_78_method_3_code 42 = .ok (.aload_n 0, 1) := by decide +kernel
theorem d3_43 : decode prog_78_method_3_code 43 = .ok (.iload 6, 2) := by decide +kernel
theorem d3_45 : decode prog_78_method_3_code 45 = .ok (.iload_n 2, 1) := by decide +kernel
theorem d3_46 : decode prog_78_method_3_code 46 = .ok (.invokestatic 13, 3) := by decide +kernel
theorem d3_49 : decode prog_78_method_3_code 49 = .ok (.ifCond .eq 39, 3) := by decide +kernel
theorem d3_52 : decode prog_78_method_3_code 52 = .ok (.aload 4, 2) := by decide +kernel
theorem d3_54 : decode prog_78_method_3_code 54 = .ok (.iload 5, 2) := by decide +kernel
theorem d3_56 : decode prog_78_method_3_code 56 = .ok (.iinc 5 1, 3) := by decide +kernel
theorem d3_59 : decode prog_78_method_3_code 59 = .ok (.aload_n 0, 1) := by decide +kernel
theorem d3_60 : decode prog_78_method_3_code 60 = .ok (.iload 6, 2) := by decide +kernel
theorem d3_62 : decode prog_78_method_3_code 62 = .ok (.iconst 1, 1) := by decide +kernel
theorem d3_63 : decode prog_78_method_3_code 63 = .ok (.iadd, 1) := by decide +kernel
theorem d3_64 : decode prog_78_method_3_code 64 = .ok (.baload, 1) := by decide +kernel
theorem d3_65 : decode prog_78_method_3_code 65 = .ok (.invokestatic 17, 3) := by decide +kernel
theorem d3_68 : decode prog_78_method_3_code 68 = .ok (.iconst 4, 1) := by decide +kernel
theorem d3_69 : decode prog_78_method_3_code 69 = .ok (.ishl, 1) := by decide +kernel
theorem d3_70 : decode prog_78_method_3_code 70 = .ok (.aload_n 0, 1) := by decide +kernel
theorem d3_71 : decode prog_78_method_3_code 71 = .ok (.iload 6, 2) := by decide +kernel
theorem d3_73 : decode prog_78_method_3_code 73 = .ok (.iconst 2, 1) := by decide +kernel
theorem d3_74 : decode prog_78_method_3_code 74 = .ok (.iadd, 1) := by decide +kernel
theorem d3_75 : decode prog_78_method_3_code 75 = .ok (.baload, 1) := by decide +kernel
theorem d3_76 : decode prog_78_method_3_code 76 = .ok (.invokestatic 17, 3) := by decide +kernel
theorem d3_79 : decode prog_78_method_3_code 79 = .ok (.ior, 1) := by decide +kernel
theorem d3_80 : decode prog_78_method_3_code 80 = .ok (.i2b, 1) := by decide +kernel
theorem d3_81 : decode prog_78_method_3_code 81 = .ok (.bastore, 1) := by decide +kernel
theorem d3_82 : decode prog_78_method_3_code 82 = .ok (.iinc 6 2, 3) := by decide +kernel
theorem d3_85 : decode prog_78_method_3_code 85 = .ok (.goto 13, 3) := by decide +kernel
theorem d3_88 : decode prog_78_method_3_code 88 = .ok (.aload 4, 2) := by decide +kernel
theorem d3_90 : decode prog_78_method_3_code 90 = .ok (.iload 5, 2) := by decide +kernel
theorem d3_92 : decode prog_78_method_3_code 92 = .ok (.iinc 5 1, 3) := by decide +kernel
theorem d3_95 : decode prog_78_method_3_code 95 = .ok (.iload 7, 2) := by decide +kernel
theorem d3_97 : decode prog_78_method_3_code 97 = .ok (.bastore, 1) := by decide +kernel
theorem d3_98 : decode prog_78_method_3_code 98 = .ok (.iinc 6 1, 3) := by decide +kernel
theorem d3_101 : decode prog_78_method_3_code 101 = .ok (.goto (-95), 3) := by decide +kernel
theorem d3_104 : decode prog_78_method_3_code 104 = .ok (.iload 5, 2) := by decide +kernel
theorem d3_106 : decode prog_78_method_3_code 106 = .ok (.ireturn, 1) := by decide +kernel
abbrev own_rm3_room : Room := { frames := 3, cells := 0, slots := 0, locals := 38 }
set_option maxRecDepth 65536 in
set_option maxHeartbeats 40000000 in
theorem rm3 (l : Launch) (Z : State) (a0 : Array Value) (hw : ∀ d ∈ tables_1, d.before a0 Z = true) (n0 : Nat) (h0 : Heap) (Z0 : n0 ≤ h0.size) (a o : Addr) (bs : List Int8) (ai ti pl : Int32) (t0 T : Nat) (ge : n0 ≤ o) (nao : a ≠ o) (V : BA Z h0 a bs) (hb : bs.length = 6) (VO : BA Z h0 o (List.replicate 6 0)) (hi : ai.toInt = (t0 : Int)) (ht : ti.toInt = (T : Int)) (hT : T ≤ 6) :
    Ctr l Z (⟨"paramwick/util/PercentEncoding", "decode", "([BIIZ[B)I"⟩ : MethodName) prog_78_method_3_code 8 (some .int) own_rm3_room n0 #[(.ref a), (.int ai), (.int ti), (.int pl), (.ref o)] h0 (fun v h => ∃ r : Int32, r.toInt = ((own_dec bs T pl 6 t0).length : Int) ∧ v = some (.int r) ∧ Keep h0 h [o] ∧ BA Z h o (own_pad (own_dec bs T pl 6 t0))) := by
  refine Ctr.of #[.val (.ref a), .val (.int ai), .val (.int ti), .val (.int pl), .val (.ref o), .unset, .unset, .unset] (plainFor_of_name pn_0) Z0 (fun m => by first | (simp [entryFrame, mkF, argsToLocals, Value.category]; done) | rfl) ?_
  intro C H
  refine k_iconst (0 : Int32) (pc := 0) H d3_0 rfl ?_
  refine k_istore (pc := 1) H d3_1 (Ls' := #[.val (.ref a), .val (.int ai), .val (.int ti), .val (.int pl), .val (.ref o), .val (.int (0 : Int32)), .unset, .unset]) rfl ?_
  refine k_iloadN (pc := 3) H d3_3 rfl ?_
  refine k_istore (pc := 4) H d3_4 (Ls' := #[.val (.ref a), .val (.int ai), .val (.int ti), .val (.int pl), .val (.ref o), .val (.int (0 : Int32)), .val (.int ai), .unset]) rfl ?_
  have L : ∀ (f i : Nat) (D : List Int8) (jj ii : Int32) (s7 : Slot) (hs7 : OneW s7) (hh : Heap) (K : Keep h0 hh [o]) (VA : BA Z hh a bs) (VD : BA Z hh o (own_pad D)) (g1 : jj.toInt = (D.length : Int)) (g2 : ii.toInt = (i : Int)) (g3 : T ≤ i + f) (g4 : D.length + f = 6) (g5 : D ++ own_dec bs T pl f i = (own_dec bs T pl 6 t0)), W l own_rm3_room C (n0, own_rm3_room.cells, own_rm3_room.slots, (fun v h => ∃ r : Int32, r.toInt = ((own_dec bs T pl 6 t0).length : Int) ∧ v = some (.int r) ∧ Keep h0 h [o] ∧ BA Z h o (own_pad (own_dec bs T pl 6 t0))), fun _ => False) hh 0 0 6 #[.val (.ref a), .val (.int ai), .val (.int ti), .val (.int pl), .val (.ref o), .val (.int jj), .val (.int ii), s7] [] := by
    intro f
    induction f with
    | zero =>
      intro i D jj ii s7 hs7 hh K VA VD g1 g2 g3 g4 g5
      refine k_iload (pc := 6) H d3_6 rfl ?_
      refine k_iloadN (pc := 8) H d3_8 rfl ?_
      refine k_icmpT 104 (pc := 9) H d3_9 rfl (XT.ii_ge_t (fun q => by have := (lt_nat g2 ht).mp q; omega)) ?_
      refine k_iload (pc := 104) H d3_104 rfl ?_
      rw [own_dg bs pl _ (by omega), List.append_nil] at g5
      exact k_retInt (pc := 106) H d3_106 (by show 0 ≤ own_rm3_room.cells; decide) (by show 0 ≤ own_rm3_room.slots; decide) (⟨_, by rw [← g5]; exact g1, rfl, K, by rw [← g5]; exact VD⟩)
    | succ f ih =>
      intro i D jj ii s7 hs7 hh K VA VD g1 g2 g3 g4 g5
      have q0 := lt_nat g2 ht
      refine k_iload (pc := 6) H d3_6 rfl ?_
      refine k_iloadN (pc := 8) H d3_8 rfl ?_
      refine k_icmpR (P := ii < ti) 104 (pc := 9) H d3_9 rfl XT.ii_ge_t XT.ii_ge_f (fun k0 => ?_) (fun k0 => ?_)
      · have : ¬ i < T := fun z => k0 (q0.mpr z)
        refine k_iload (pc := 104) H d3_104 rfl ?_
        rw [own_dg bs pl _ (by omega), List.append_nil] at g5
        exact k_retInt (pc := 106) H d3_106 (by show 0 ≤ own_rm3_room.cells; decide) (by show 0 ≤ own_rm3_room.slots; decide) (⟨_, by rw [← g5]; exact g1, rfl, K, by rw [← g5]; exact VD⟩)
      · have lt := q0.mp k0
        refine k_aloadN (pc := 12) H d3_12 rfl rfl ?_
        refine k_iload (pc := 13) H d3_13 rfl ?_
        refine k_baloadT (i := i) (x := (bs.getD i 0)) (pc := 15) H VA (g2) (own_get 0 (by omega)) d3_15 ?_
        refine k_istore (pc := 16) H d3_16 (Ls' := #[.val (.ref a), .val (.int ai), .val (.int ti), .val (.int pl), .val (.ref o), .val (.int jj), .val (.int ii), .val (.int (bs.getD i 0).toInt32)]) (XS.store1 rfl hs7 rfl) ?_
        refine k_iload (pc := 18) H d3_18 rfl ?_
        refine k_bipush (43 : Int32) (pc := 20) H d3_20 rfl ?_
        have J42 : ∀ (np : ¬ ((bs.getD i 0).toInt32 = 43 ∧ ¬ pl = 0)), W l own_rm3_room C (n0, own_rm3_room.cells, own_rm3_room.slots, (fun v h => ∃ r : Int32, r.toInt = ((own_dec bs T pl 6 t0).length : Int) ∧ v = some (.int r) ∧ Keep h0 h [o] ∧ BA Z h o (own_pad (own_dec bs T pl 6 t0))), fun _ => False) hh 0 0 42 #[.val (.ref a), .val (.int ai), .val (.int ti), .val (.int pl), .val (.ref o), .val (.int jj), .val (.int ii), .val (.int (bs.getD i 0).toInt32)] [] := by
          intro np
          refine k_aloadN (pc := 42) H d3_42 rfl rfl ?_
          refine k_iload (pc := 43) H d3_43 rfl ?_
          refine k_iloadN (pc := 45) H d3_45 rfl ?_
          refine k_invS (y := (⟨"paramwick/util/PercentEncoding", "isEscape", "([BII)Z"⟩ : MethodName)) (st := []) [(.ref a), (.int ii), (.int ti)] 0 (pc := 46) H (wd hw 55 rfl) (wd hw 56 rfl) (wd hw 11 rfl) (wd hw 57 rfl) (by decide) (fun z0 => rm11 l Z a0 hw n0 hh z0 a bs ii ti i T VA hb g2 ht (by omega) hT) (lenOf pd_2 rfl) d3_46 rfl rfl rfl (by decide) (by decide) (by decide) (by decide) ?_
          rintro v hx ⟨rfl, ex⟩
          rw [ex]
          clear ex hx
          show W l own_rm3_room C _ hh 0 0 49 #[.val (.ref a), .val (.int ai), .val (.int ti), .val (.int pl), .val (.ref o), .val (.int jj), .val (.int ii), .val (.int (bs.getD i 0).toInt32)] [(.int (own_b (own_esc bs T i)))]
          obtain ⟨es, hes⟩ : ∃ z, z = own_esc bs T i := ⟨_, rfl⟩
          rw [← hes]
          refine k_iff0 (P := (own_b es) = 0) 88 (pc := 49) H d3_49 rfl XT.i0_eq_t XT.i0_eq_f (fun c2 => ?_) (fun c2 => ?_)
          · have ef : own_esc bs T i = false := by rw [← hes]; cases es with | true => exact absurd c2 (by decide) | false => rfl
            refine k_aload (pc := 88) H d3_88 rfl rfl ?_
            refine k_iload (pc := 90) H d3_90 rfl ?_
            refine k_iinc (1 : Int32) (pc := 92) H d3_92 rfl rfl (Ls' := #[.val (.ref a), .val (.int ai), .val (.int ti), .val (.int pl), .val (.ref o), .val (.int (jj + (1 : Int32))), .val (.int ii), .val (.int (bs.getD i 0).toInt32)]) rfl ?_
            refine k_iload (pc := 95) H d3_95 rfl ?_
            refine k_bastoreT (i := D.length) (pc := 97) H VD (g1) (by rw [own_pl (by omega)]; omega) ge d3_97 ?_
            intro h1 K2 V3
            have KW4 : Keep h0 h1 [o] := K.trans K2 (allS (Or.inl (List.mem_of_getElem? (i := 0) rfl)) all0)
            have f5 : BA Z h1 a bs := VA.keep K2 (ninS nao nin0)
            have V6 : BA Z h1 o (own_pad (D ++ [bs.getD i 0])) := by have z9 := V3; rw [b8, own_ps (by omega)] at z9; exact z9
            refine k_iinc (1 : Int32) (pc := 98) H d3_98 rfl rfl (Ls' := #[.val (.ref a), .val (.int ai), .val (.int ti), .val (.int pl), .val (.ref o), .val (.int (jj + (1 : Int32))), .val (.int (ii + (1 : Int32))), .val (.int (bs.getD i 0).toInt32)]) rfl ?_
            refine k_goto 6 (pc := 101) H d3_101 rfl ?_
            have tk := own_tn np ef
            exact ih (i + 1) (D ++ [bs.getD i 0]) _ _ _ (OneW.int _) _ KW4 f5 V6 (by rw [List.length_append]; exact add_nat (y := 1) (j := 1) g1 rfl (by omega)) (add_nat (y := 1) (j := 1) g2 rfl (by omega)) (by omega) (by rw [List.length_append]; show D.length + 1 + f = 6; omega) (by rw [← g5, own_ds lt tk]; simp)
          · have ef : own_esc bs T i = true := by rw [← hes]; cases es with | true => rfl | false => exact absurd rfl c2
            have lt2 := own_e6 ef
            refine k_aload (pc := 52) H d3_52 rfl rfl ?_
            refine k_iload (pc := 54) H d3_54 rfl ?_
            refine k_iinc (1 : Int32) (pc := 56) H d3_56 rfl rfl (Ls' := #[.val (.ref a), .val (.int ai), .val (.int ti), .val (.int pl), .val (.ref o), .val (.int (jj + (1 : Int32))), .val (.int ii), .val (.int (bs.getD i 0).toInt32)]) rfl ?_
            refine k_aloadN (pc := 59) H d3_59 rfl rfl ?_
            refine k_iload (pc := 60) H d3_60 rfl ?_
            refine k_iconst (1 : Int32) (pc := 62) H d3_62 rfl ?_
            refine k_iadd (pc := 63) H d3_63 ?_
            refine k_baloadT (i := (i + 1)) (x := (bs.getD (i + 1) 0)) (pc := 64) H VA (add_nat g2 rfl (by omega)) (own_get 0 (by omega)) d3_64 ?_
            refine k_invS (y := (⟨"paramwick/util/PercentEncoding", "hexValue", "(B)I"⟩ : MethodName)) (st := [(.int jj), (.ref o)]) [(.int (bs.getD (i + 1) 0).toInt32)] 2 (pc := 65) H (wd hw 64 rfl) (wd hw 65 rfl) (wd hw 11 rfl) (wd hw 66 rfl) (by decide) (fun z0 => rm14 l Z a0 hw n0 hh z0 _) (lenOf pd_0 rfl) d3_65 rfl rfl rfl (by decide) (by decide) (by decide) (by decide) ?_
            rintro v hx ⟨rfl, ex⟩
            rw [ex]
            clear ex hx
            show W l own_rm3_room C _ hh 0 0 68 #[.val (.ref a), .val (.int ai), .val (.int ti), .val (.int pl), .val (.ref o), .val (.int (jj + (1 : Int32))), .val (.int ii), .val (.int (bs.getD i 0).toInt32)] [(.int (own_hv (bs.getD (i + 1) 0).toInt32)), (.int jj), (.ref o)]
            refine k_iconst (4 : Int32) (pc := 68) H d3_68 rfl ?_
            refine k_ishl (pc := 69) H d3_69 ?_
            refine k_aloadN (pc := 70) H d3_70 rfl rfl ?_
            refine k_iload (pc := 71) H d3_71 rfl ?_
            refine k_iconst (2 : Int32) (pc := 73) H d3_73 rfl ?_
            refine k_iadd (pc := 74) H d3_74 ?_
            refine k_baloadT (i := (i + 2)) (x := (bs.getD (i + 2) 0)) (pc := 75) H VA (add_nat g2 rfl (by omega)) (own_get 0 (by omega)) d3_75 ?_
            refine k_invS (y := (⟨"paramwick/util/PercentEncoding", "hexValue", "(B)I"⟩ : MethodName)) (st := [(.int ((own_hv (bs.getD (i + 1) 0).toInt32) <<< ((4 : Int32) &&& 31))), (.int jj), (.ref o)]) [(.int (bs.getD (i + 2) 0).toInt32)] 3 (pc := 76) H (wd hw 64 rfl) (wd hw 65 rfl) (wd hw 11 rfl) (wd hw 66 rfl) (by decide) (fun z0 => rm14 l Z a0 hw n0 hh z0 _) (lenOf pd_0 rfl) d3_76 rfl rfl rfl (by decide) (by decide) (by decide) (by decide) ?_
            rintro v hx ⟨rfl, ex⟩
            rw [ex]
            clear ex hx
            show W l own_rm3_room C _ hh 0 0 79 #[.val (.ref a), .val (.int ai), .val (.int ti), .val (.int pl), .val (.ref o), .val (.int (jj + (1 : Int32))), .val (.int ii), .val (.int (bs.getD i 0).toInt32)] [(.int (own_hv (bs.getD (i + 2) 0).toInt32)), (.int ((own_hv (bs.getD (i + 1) 0).toInt32) <<< ((4 : Int32) &&& 31))), (.int jj), (.ref o)]
            refine k_ior (pc := 79) H d3_79 ?_
            refine k_i2b (pc := 80) H d3_80 ?_
            refine k_bastoreT (i := D.length) (pc := 81) H VD (g1) (by rw [own_pl (by omega)]; omega) ge d3_81 ?_
            intro h7 K8 V9
            have KW10 : Keep h0 h7 [o] := K.trans K8 (allS (Or.inl (List.mem_of_getElem? (i := 0) rfl)) all0)
            have f11 : BA Z h7 a bs := VA.keep K8 (ninS nao nin0)
            have V12 : BA Z h7 o (own_pad (D ++ [((own_hv (bs.getD (i + 1) 0).toInt32 <<< ((4 : Int32) &&& 31)) ||| own_hv (bs.getD (i + 2) 0).toInt32).toInt8])) := by have z9 := V9; rw [b8, own_ps (by omega)] at z9; exact z9
            refine k_iinc (2 : Int32) (pc := 82) H d3_82 rfl rfl (Ls' := #[.val (.ref a), .val (.int ai), .val (.int ti), .val (.int pl), .val (.ref o), .val (.int (jj + (1 : Int32))), .val (.int (ii + (2 : Int32))), .val (.int (bs.getD i 0).toInt32)]) rfl ?_
            refine k_goto 98 (pc := 85) H d3_85 rfl ?_
            refine k_iinc (1 : Int32) (pc := 98) H d3_98 rfl rfl (Ls' := #[.val (.ref a), .val (.int ai), .val (.int ti), .val (.int pl), .val (.ref o), .val (.int (jj + (1 : Int32))), .val (.int ((ii + (2 : Int32)) + (1 : Int32))), .val (.int (bs.getD i 0).toInt32)]) rfl ?_
            refine k_goto 6 (pc := 101) H d3_101 rfl ?_
            have tk := own_te np ef
            exact ih (i + 3) (D ++ [((own_hv (bs.getD (i + 1) 0).toInt32 <<< ((4 : Int32) &&& 31)) ||| own_hv (bs.getD (i + 2) 0).toInt32).toInt8]) _ _ _ (OneW.int _) _ KW10 f11 V12 (by rw [List.length_append]; exact add_nat (y := 1) (j := 1) g1 rfl (by omega)) (add_nat (i := i + 2) (y := 1) (j := 1) (add_nat (y := 2) (j := 2) g2 rfl (by omega)) rfl (by omega)) (by omega) (by rw [List.length_append]; show D.length + 1 + f = 6; omega) (by rw [← g5, own_ds lt tk]; simp)
        refine k_icmpR (P := (bs.getD i 0).toInt32 = (43 : Int32)) 42 (pc := 22) H d3_22 rfl XT.ii_ne_t XT.ii_ne_f (fun k1 => ?_) (fun k1 => ?_)
        · exact J42 (fun z => k1 z.1)
        · refine k_iloadN (pc := 25) H d3_25 rfl ?_
          refine k_iff0 (P := pl = 0) 42 (pc := 26) H d3_26 rfl XT.i0_eq_t XT.i0_eq_f (fun k2 => ?_) (fun k2 => ?_)
          · exact J42 (fun z => z.2 k2)
          · refine k_aload (pc := 29) H d3_29 rfl rfl ?_
            refine k_iload (pc := 31) H d3_31 rfl ?_
            refine k_iinc (1 : Int32) (pc := 33) H d3_33 rfl rfl (Ls' := #[.val (.ref a), .val (.int ai), .val (.int ti), .val (.int pl), .val (.ref o), .val (.int (jj + (1 : Int32))), .val (.int ii), .val (.int (bs.getD i 0).toInt32)]) rfl ?_
            refine k_bipush (32 : Int32) (pc := 36) H d3_36 rfl ?_
            refine k_bastoreT (i := D.length) (pc := 38) H VD (g1) (by rw [own_pl (by omega)]; omega) ge d3_38 ?_
            intro h13 K14 V15
            have KW16 : Keep h0 h13 [o] := K.trans K14 (allS (Or.inl (List.mem_of_getElem? (i := 0) rfl)) all0)
            have f17 : BA Z h13 a bs := VA.keep K14 (ninS nao nin0)
            have V18 : BA Z h13 o (own_pad (D ++ [(32 : Int32).toInt8])) := by have z9 := V15; rw [own_ps (by omega)] at z9; exact z9
            refine k_goto 98 (pc := 39) H d3_39 rfl ?_
            refine k_iinc (1 : Int32) (pc := 98) H d3_98 rfl rfl (Ls' := #[.val (.ref a), .val (.int ai), .val (.int ti), .val (.int pl), .val (.ref o), .val (.int (jj + (1 : Int32))), .val (.int (ii + (1 : Int32))), .val (.int (bs.getD i 0).toInt32)]) rfl ?_
            refine k_goto 6 (pc := 101) H d3_101 rfl ?_
            have tk := own_tp (T := T) k1 k2
            exact ih (i + 1) (D ++ [(32 : Int32).toInt8]) _ _ _ (OneW.int _) _ KW16 f17 V18 (by rw [List.length_append]; exact add_nat (y := 1) (j := 1) g1 rfl (by omega)) (add_nat (y := 1) (j := 1) g2 rfl (by omega)) (by omega) (by rw [List.length_append]; show D.length + 1 + f = 6; omega) (by rw [← g5, own_ds lt tk]; simp)
  exact L 6 t0 [] _ _ _ OneW.unset _ (Keep.refl h0 [o]) V VO rfl hi (by omega) rfl (by simp)
theorem d12_0 : decode method_4_code 0 = .ok (.iload_n 3, 1) := by decide +kernel
theorem d12_1 : decode method_4_code 1 = .ok (.iload_n 2, 1) := by decide +kernel
theorem d12_2 : decode method_4_code 2 = .ok (.if_icmp .ge 20, 3) := by decide +kernel
theorem d12_5 : decode method_4_code 5 = .ok (.aload_n 0, 1) := by decide +kernel
theorem d12_6 : decode method_4_code 6 = .ok (.iload_n 3, 1) := by decide +kernel
theorem d12_7 : decode method_4_code 7 = .ok (.baload, 1) := by decide +kernel
theorem d12_8 : decode method_4_code 8 = .ok (.aload_n 1, 1) := by decide +kernel
theorem d12_9 : decode method_4_code 9 = .ok (.iload_n 3, 1) := by decide +kernel
theorem d12_10 : decode method_4_code 10 = .ok (.iconst 1, 1) := by decide +kernel
theorem d12_11 : decode method_4_code 11 = .ok (.isub, 1) := by decide +kernel
theorem d12_12 : decode method_4_code 12 = .ok (.baload, 1) := by decide +kernel
theorem d12_13 : decode method_4_code 13 = .ok (.if_icmp .ne 7, 3) := by decide +kernel
theorem d12_16 : decode method_4_code 16 = .ok (.iconst 1, 1) := by decide +kernel
theorem d12_17 : decode method_4_code 17 = .ok (.goto 4, 3) := by decide +kernel
theorem d12_20 : decode method_4_code 20 = .ok (.iconst 0, 1) := by decide +kernel
theorem d12_21 : decode method_4_code 21 = .ok (.ireturn, 1) := by decide +kernel
theorem d12_22 : decode method_4_code 22 = .ok (.aload_n 0, 1) := by decide +kernel
theorem d12_23 : decode method_4_code 23 = .ok (.iload_n 3, 1) := by decide +kernel
theorem d12_24 : decode method_4_code 24 = .ok (.baload, 1) := by decide +kernel
theorem d12_25 : decode method_4_code 25 = .ok (.ifCond .ne 7, 3) := by decide +kernel
theorem d12_28 : decode method_4_code 28 = .ok (.iconst 1, 1) := by decide +kernel
theorem d12_29 : decode method_4_code 29 = .ok (.goto 4, 3) := by decide +kernel
theorem d12_32 : decode method_4_code 32 = .ok (.iconst 0, 1) := by decide +kernel
theorem d12_33 : decode method_4_code 33 = .ok (.ireturn, 1) := by decide +kernel
abbrev own_rm12_room : Room := { frames := 0, cells := 0, slots := 0, locals := 0 }
set_option maxRecDepth 65536 in
set_option maxHeartbeats 40000000 in
theorem rm12 (l : Launch) (Z : State) (a0 : Array Value) (hw : ∀ d ∈ tables_1, d.before a0 Z = true) (n0 : Nat) (h0 : Heap) (Z0 : n0 ≤ h0.size) (a b : Addr) (ys zs : List Int8) (nn jj : Int32) (m j : Nat) (y0 : Int8) (V : BA Z h0 a ys) (V2 : BA Z h0 b zs) (hm : nn.toInt = (m : Int)) (hj : jj.toInt = ((j + 1 : Nat) : Int)) (h1 : ys[j + 1]? = some y0) (h2 : zs[j]? = some y0) (h3 : m ≤ j + 1 → y0 = 0) :
    Ctr l Z (⟨"paramwick/util/PercentEncodingDecodePinLaw", "same", "([B[BII)Z"⟩ : MethodName) method_4_code 4 (some .boolean) own_rm12_room n0 #[(.ref a), (.ref b), (.int nn), (.int jj)] h0 (fun v h => v = some (.int 1) ∧ h = h0) := by
  refine Ctr.of #[.val (.ref a), .val (.ref b), .val (.int nn), .val (.int jj)] (plainFor_of_name pn_1) Z0 (fun m => by first | (simp [entryFrame, mkF, argsToLocals, Value.category]; done) | rfl) ?_
  intro C H
  have q := lt_nat hj hm
  refine k_iloadN (pc := 0) H d12_0 rfl ?_
  refine k_iloadN (pc := 1) H d12_1 rfl ?_
  refine k_icmpR (P := jj < nn) 22 (pc := 2) H d12_2 rfl XT.ii_ge_t XT.ii_ge_f (fun c1 => ?_) (fun c1 => ?_)
  · have z0 : y0 = 0 := h3 (by have : ¬ j + 1 < m := fun z => c1 (q.mpr z); omega)
    refine k_aloadN (pc := 22) H d12_22 rfl rfl ?_
    refine k_iloadN (pc := 23) H d12_23 rfl ?_
    refine k_baloadT (i := (j + 1)) (x := y0) (pc := 24) H V (hj) (h1) d12_24 ?_
    refine k_ifF (pc := 25) H d12_25 (XT.i0_ne_f (by rw [z0]; rfl)) ?_
    refine k_iconst (1 : Int32) (pc := 28) H d12_28 rfl ?_
    refine k_goto 33 (pc := 29) H d12_29 rfl ?_
    exact k_retN' (t := .boolean) (by simp) (pc := 33) H d12_33 (by show 0 ≤ own_rm12_room.cells; decide) (by show 0 ≤ own_rm12_room.slots; decide) (⟨rfl, rfl⟩)
  · refine k_aloadN (pc := 5) H d12_5 rfl rfl ?_
    refine k_iloadN (pc := 6) H d12_6 rfl ?_
    refine k_baloadT (i := (j + 1)) (x := y0) (pc := 7) H V (hj) (h1) d12_7 ?_
    refine k_aloadN (pc := 8) H d12_8 rfl rfl ?_
    refine k_iloadN (pc := 9) H d12_9 rfl ?_
    refine k_iconst (1 : Int32) (pc := 10) H d12_10 rfl ?_
    refine k_isub (pc := 11) H d12_11 ?_
    refine k_baloadT (i := j) (x := y0) (pc := 12) H V2 (sub_nat (j := 1) hj rfl (by omega)) (h2) d12_12 ?_
    refine k_icmpF (pc := 13) H d12_13 (XT.ii_ne_f (rfl)) ?_
    refine k_iconst (1 : Int32) (pc := 16) H d12_16 rfl ?_
    refine k_goto 21 (pc := 17) H d12_17 rfl ?_
    exact k_retN' (t := .boolean) (by simp) (pc := 21) H d12_21 (by show 0 ≤ own_rm12_room.cells; decide) (by show 0 ≤ own_rm12_room.slots; decide) (⟨rfl, rfl⟩)
theorem d5_0 : decode jdk_42_method_152_code 0 = .ok (.getstatic 38, 3) := by decide +kernel
theorem d5_3 : decode jdk_42_method_152_code 3 = .ok (.ifCond .eq 10, 3) := by decide +kernel
theorem d5_6 : decode jdk_42_method_152_code 6 = .ok (.aload_n 0, 1) := by decide +kernel
theorem d5_7 : decode jdk_42_method_152_code 7 = .ok (.getfield 15, 3) := by decide +kernel
theorem d5_10 : decode jdk_42_method_152_code 10 = .ok (.goto 4, 3) := by decide +kernel
theorem d5_13 : decode jdk_42_method_152_code 13 = .ok (.iconst 1, 1) := by decide +kernel
theorem d5_14 : decode jdk_42_method_152_code 14 = .ok (.ireturn, 1) := by decide +kernel
abbrev own_rm5_room : Room := { frames := 0, cells := 0, slots := 0, locals := 0 }
set_option maxRecDepth 65536 in
set_option maxHeartbeats 40000000 in
theorem rm5 (l : Launch) (Z : State) (a0 : Array Value) (hw : ∀ d ∈ tables_1, d.before a0 Z = true) (n0 : Nat) (h0 : Heap) (Z0 : n0 ≤ h0.size) (z : Int32) (a b : Addr) (S1 : Sta Z h0 "java/lang/String" "COMPACT_STRINGS" "Z" (.int z)) (hz : ¬ z = 0) (X : Exa Z h0 a "java/lang/String") (FC : Fld Z h0 a "java/lang/String" "coder" "B" (.int 0)) (FV : Fld Z h0 a "java/lang/String" "value" "[B" (.ref b)) (V : BA Z h0 b own_xs) :
    Ctr l Z (⟨"java/lang/String", "coder", "()B"⟩ : MethodName) jdk_42_method_152_code 1 (some .byte) own_rm5_room n0 #[(.ref a)] h0 (fun v h => v = some (.int 0) ∧ h = h0) := by
  refine Ctr.of #[.val (.ref a)] pf_5 Z0 (fun m => by first | (simp [entryFrame, mkF, argsToLocals, Value.category]; done) | rfl) ?_
  intro C H
  refine k_getstatic (pc := 0) H (wd hw 31 rfl) S1 d5_0 ?_
  refine k_ifF (pc := 3) H d5_3 (XT.i0_eq_f (hz)) ?_
  refine k_aloadN (pc := 6) H d5_6 rfl rfl ?_
  refine k_getfield (pc := 7) H (wd hw 32 rfl) FC d5_7 ?_
  refine k_goto 14 (pc := 10) H d5_10 rfl ?_
  exact k_retN' (t := .byte) (by simp) (pc := 14) H d5_14 (by show 0 ≤ own_rm5_room.cells; decide) (by show 0 ≤ own_rm5_room.slots; decide) (⟨rfl, rfl⟩)
theorem d7_0 : decode jdk_42_method_154_code 0 = .ok (.getstatic 38, 3) := by decide +kernel
theorem d7_3 : decode jdk_42_method_154_code 3 = .ok (.ifCond .eq 14, 3) := by decide +kernel
theorem d7_6 : decode jdk_42_method_154_code 6 = .ok (.aload_n 0, 1) := by decide +kernel
theorem d7_7 : decode jdk_42_method_154_code 7 = .ok (.getfield 15, 3) := by decide +kernel
theorem d7_10 : decode jdk_42_method_154_code 10 = .ok (.ifCond .ne 7, 3) := by decide +kernel
theorem d7_13 : decode jdk_42_method_154_code 13 = .ok (.iconst 1, 1) := by decide +kernel
theorem d7_14 : decode jdk_42_method_154_code 14 = .ok (.goto 4, 3) := by decide +kernel
theorem d7_17 : decode jdk_42_method_154_code 17 = .ok (.iconst 0, 1) := by decide +kernel
theorem d7_18 : decode jdk_42_method_154_code 18 = .ok (.ireturn, 1) := by decide +kernel
abbrev own_rm7_room : Room := { frames := 0, cells := 0, slots := 0, locals := 0 }
set_option maxRecDepth 65536 in
set_option maxHeartbeats 40000000 in
theorem rm7 (l : Launch) (Z : State) (a0 : Array Value) (hw : ∀ d ∈ tables_1, d.before a0 Z = true) (n0 : Nat) (h0 : Heap) (Z0 : n0 ≤ h0.size) (z : Int32) (a b : Addr) (S1 : Sta Z h0 "java/lang/String" "COMPACT_STRINGS" "Z" (.int z)) (hz : ¬ z = 0) (X : Exa Z h0 a "java/lang/String") (FC : Fld Z h0 a "java/lang/String" "coder" "B" (.int 0)) (FV : Fld Z h0 a "java/lang/String" "value" "[B" (.ref b)) (V : BA Z h0 b own_xs) :
    Ctr l Z (⟨"java/lang/String", "isLatin1", "()Z"⟩ : MethodName) jdk_42_method_154_code 1 (some .boolean) own_rm7_room n0 #[(.ref a)] h0 (fun v h => v = some (.int 1) ∧ h = h0) := by
  refine Ctr.of #[.val (.ref a)] pf_7 Z0 (fun m => by first | (simp [entryFrame, mkF, argsToLocals, Value.category]; done) | rfl) ?_
  intro C H
  refine k_getstatic (pc := 0) H (wd hw 31 rfl) S1 d7_0 ?_
  refine k_ifF (pc := 3) H d7_3 (XT.i0_eq_f (hz)) ?_
  refine k_aloadN (pc := 6) H d7_6 rfl rfl ?_
  refine k_getfield (pc := 7) H (wd hw 32 rfl) FC d7_7 ?_
  refine k_ifF (pc := 10) H d7_10 (XT.i0_ne_f (rfl)) ?_
  refine k_iconst (1 : Int32) (pc := 13) H d7_13 rfl ?_
  refine k_goto 18 (pc := 14) H d7_14 rfl ?_
  exact k_retN' (t := .boolean) (by simp) (pc := 18) H d7_18 (by show 0 ≤ own_rm7_room.cells; decide) (by show 0 ≤ own_rm7_room.slots; decide) (⟨rfl, rfl⟩)
theorem d4_0 : decode jdk_42_method_54_code 0 = .ok (.aload_n 0, 1) := by decide +kernel
theorem d4_1 : decode jdk_42_method_54_code 1 = .ok (.getfield 9, 3) := by decide +kernel
theorem d4_4 : decode jdk_42_method_54_code 4 = .ok (.arraylength, 1) := by decide +kernel
theorem d4_5 : decode jdk_42_method_54_code 5 = .ok (.aload_n 0, 1) := by decide +kernel
theorem d4_6 : decode jdk_42_method_54_code 6 = .ok (.invokevirtual 335, 3) := by decide +kernel
theorem d4_9 : decode jdk_42_method_54_code 9 = .ok (.ishr, 1) := by decide +kernel
theorem d4_10 : decode jdk_42_method_54_code 10 = .ok (.ireturn, 1) := by decide +kernel
abbrev own_rm4_room : Room := { frames := 1, cells := 0, slots := 0, locals := 13 }
set_option maxRecDepth 65536 in
set_option maxHeartbeats 40000000 in
theorem rm4 (l : Launch) (Z : State) (a0 : Array Value) (hw : ∀ d ∈ tables_1, d.before a0 Z = true) (n0 : Nat) (h0 : Heap) (Z0 : n0 ≤ h0.size) (z : Int32) (a b : Addr) (S1 : Sta Z h0 "java/lang/String" "COMPACT_STRINGS" "Z" (.int z)) (hz : ¬ z = 0) (X : Exa Z h0 a "java/lang/String") (FC : Fld Z h0 a "java/lang/String" "coder" "B" (.int 0)) (FV : Fld Z h0 a "java/lang/String" "value" "[B" (.ref b)) (V : BA Z h0 b own_xs) :
    Ctr l Z (⟨"java/lang/String", "length", "()I"⟩ : MethodName) jdk_42_method_54_code 1 (some .int) own_rm4_room n0 #[(.ref a)] h0 (fun v h => v = some (.int 28) ∧ h = h0) := by
  refine Ctr.of #[.val (.ref a)] pf_4 Z0 (fun m => by first | (simp [entryFrame, mkF, argsToLocals, Value.category]; done) | rfl) ?_
  intro C H
  refine k_aloadN (pc := 0) H d4_0 rfl rfl ?_
  refine k_getfield (pc := 1) H (wd hw 25 rfl) FV d4_1 ?_
  refine k_arraylength (N := (28 : Int32)) (pc := 4) H V (by decide) d4_4 ?_
  refine k_aloadN (pc := 5) H d4_5 rfl rfl ?_
  refine k_invV (y := (⟨"java/lang/String", "coder", "()B"⟩ : MethodName)) (st := [(.int (28 : Int32))]) (a := a) [] 1 (pc := 6) H (wd hw 26 rfl) (wd hw 27 rfl) (wd hw 29 rfl) (wd hw 28 rfl) (wd hw 14 rfl) (wd hw 30 rfl) rfl (by decide) X (fun z0 => rm5 l Z a0 hw n0 h0 z0 z a b S1 hz X FC FV V) (lenOf pd_3 rfl) d4_6 rfl rfl rfl (by decide) (by decide) (by decide) (by decide) ?_
  rintro v hx ⟨rfl, ex⟩
  rw [ex]
  clear ex hx
  show W l own_rm4_room C _ h0 0 0 9 #[.val (.ref a)] [(.int (0 : Int32)), (.int (28 : Int32))]
  refine k_ishr (pc := 9) H d4_9 ?_
  exact k_retInt (pc := 10) H d4_10 (by show 0 ≤ own_rm4_room.cells; decide) (by show 0 ≤ own_rm4_room.slots; decide) (⟨congrArg (fun q => some (Value.int q)) (by decide : (28 : Int32) >>> ((0 : Int32) &&& 31) = 28), rfl⟩)
theorem d10_0 : decode jdk_41_method_11_code 0 = .ok (.iload_n 0, 1) := by decide +kernel
theorem d10_1 : decode jdk_41_method_11_code 1 = .ok (.ifCond .lt 8, 3) := by decide +kernel
theorem d10_4 : decode jdk_41_method_11_code 4 = .ok (.iload_n 0, 1) := by decide +kernel
theorem d10_5 : decode jdk_41_method_11_code 5 = .ok (.iload_n 1, 1) := by decide +kernel
theorem d10_6 : decode jdk_41_method_11_code 6 = .ok (.if_icmp .lt 10, 3) := by decide +kernel
theorem d10_9 : decode jdk_41_method_11_code 9 = .ok (.aload_n 2, 1) := by decide +kernel
theorem d10_10 : decode jdk_41_method_11_code 10 = .ok (.iload_n 0, 1) := by decide +kernel
theorem d10_11 : decode jdk_41_method_11_code 11 = .ok (.iload_n 1, 1) := by decide +kernel
theorem d10_12 : decode jdk_41_method_11_code 12 = .ok (.invokestatic 95, 3) := by decide +kernel
theorem d10_15 : decode jdk_41_method_11_code 15 = .ok (.athrow, 1) := by decide +kernel
theorem d10_16 : decode jdk_41_method_11_code 16 = .ok (.iload_n 0, 1) := by decide +kernel
theorem d10_17 : decode jdk_41_method_11_code 17 = .ok (.ireturn, 1) := by decide +kernel
abbrev own_pcN_room : Room := { frames := 0, cells := 0, slots := 0, locals := 0 }
set_option maxRecDepth 65536 in
set_option maxHeartbeats 40000000 in
theorem pcN (l : Launch) (Z : State) (a0 : Array Value) (hw : ∀ d ∈ tables_1, d.before a0 Z = true) (n0 : Nat) (h0 : Heap) (Z0 : n0 ≤ h0.size) (ii nn : Int32) (i m : Nat)  (hi : ii.toInt = (i : Int)) (hm : nn.toInt = (m : Int)) (lt : i < m) :
    Ctr l Z (⟨"jdk/internal/util/Preconditions", "checkIndex", "(IILjava/util/function/BiFunction;)I"⟩ : MethodName) jdk_41_method_11_code 3 (some .int) own_pcN_room n0 #[(.int ii), (.int nn), .null] h0 (fun v h => v = some (.int ii) ∧ h = h0) := by
  refine Ctr.of #[.val (.int ii), .val (.int nn), .val .null] pf_10 Z0 (fun m => by first | (simp [entryFrame, mkF, argsToLocals, Value.category]; done) | rfl) ?_
  intro C H
  refine k_iloadN (pc := 0) H d10_0 rfl ?_
  refine k_ifF (pc := 1) H d10_1 (XT.i0_lt_f (fun q => absurd ((lt_nat (j := 0) hi rfl).mp q) (Nat.not_lt_zero _))) ?_
  refine k_iloadN (pc := 4) H d10_4 rfl ?_
  refine k_iloadN (pc := 5) H d10_5 rfl ?_
  refine k_icmpT 16 (pc := 6) H d10_6 rfl (XT.ii_lt_t ((lt_nat hi hm).mpr lt)) ?_
  refine k_iloadN (pc := 16) H d10_16 rfl ?_
  exact k_retInt (pc := 17) H d10_17 (by show 0 ≤ own_pcN_room.cells; decide) (by show 0 ≤ own_pcN_room.slots; decide) (⟨rfl, rfl⟩)
abbrev own_pcA_room : Room := { frames := 0, cells := 0, slots := 0, locals := 0 }
set_option maxRecDepth 65536 in
set_option maxHeartbeats 40000000 in
theorem pcA (l : Launch) (Z : State) (a0 : Array Value) (hw : ∀ d ∈ tables_1, d.before a0 Z = true) (n0 : Nat) (h0 : Heap) (Z0 : n0 ≤ h0.size) (ii nn : Int32) (i m : Nat) (fa : Addr) (hi : ii.toInt = (i : Int)) (hm : nn.toInt = (m : Int)) (lt : i < m) :
    Ctr l Z (⟨"jdk/internal/util/Preconditions", "checkIndex", "(IILjava/util/function/BiFunction;)I"⟩ : MethodName) jdk_41_method_11_code 3 (some .int) own_pcA_room n0 #[(.int ii), (.int nn), (.ref fa)] h0 (fun v h => v = some (.int ii) ∧ h = h0) := by
  refine Ctr.of #[.val (.int ii), .val (.int nn), .val (.ref fa)] pf_10 Z0 (fun m => by first | (simp [entryFrame, mkF, argsToLocals, Value.category]; done) | rfl) ?_
  intro C H
  refine k_iloadN (pc := 0) H d10_0 rfl ?_
  refine k_ifF (pc := 1) H d10_1 (XT.i0_lt_f (fun q => absurd ((lt_nat (j := 0) hi rfl).mp q) (Nat.not_lt_zero _))) ?_
  refine k_iloadN (pc := 4) H d10_4 rfl ?_
  refine k_iloadN (pc := 5) H d10_5 rfl ?_
  refine k_icmpT 16 (pc := 6) H d10_6 rfl (XT.ii_lt_t ((lt_nat hi hm).mpr lt)) ?_
  refine k_iloadN (pc := 16) H d10_16 rfl ?_
  exact k_retInt (pc := 17) H d10_17 (by show 0 ≤ own_pcA_room.cells; decide) (by show 0 ≤ own_pcA_room.slots; decide) (⟨rfl, rfl⟩)
theorem d9_0 : decode jdk_42_method_155_code 0 = .ok (.iload_n 0, 1) := by decide +kernel
theorem d9_1 : decode jdk_42_method_155_code 1 = .ok (.iload_n 1, 1) := by decide +kernel
theorem d9_2 : decode jdk_42_method_155_code 2 = .ok (.getstatic 1053, 3) := by decide +kernel
theorem d9_5 : decode jdk_42_method_155_code 5 = .ok (.invokestatic 1059, 3) := by decide +kernel
theorem d9_8 : decode jdk_42_method_155_code 8 = .ok (.pop, 1) := by decide +kernel
theorem d9_9 : decode jdk_42_method_155_code 9 = .ok (.return_, 1) := by decide +kernel
abbrev own_rm9_room : Room := { frames := 1, cells := 0, slots := 0, locals := 14 }
set_option maxRecDepth 65536 in
set_option maxHeartbeats 40000000 in
theorem rm9 (l : Launch) (Z : State) (a0 : Array Value) (hw : ∀ d ∈ tables_1, d.before a0 Z = true) (n0 : Nat) (h0 : Heap) (Z0 : n0 ≤ h0.size) (fm : Value) (ii nn : Int32) (i m : Nat) (S2 : Sta Z h0 "jdk/internal/util/Preconditions" "SIOOBE_FORMATTER" "Ljava/util/function/BiFunction;" fm) (rf : fm.isRef = true) (hi : ii.toInt = (i : Int)) (hm : nn.toInt = (m : Int)) (lt : i < m) :
    Ctr l Z (⟨"java/lang/String", "checkIndex", "(II)V"⟩ : MethodName) jdk_42_method_155_code 2 none own_rm9_room n0 #[(.int ii), (.int nn)] h0 (fun v h => v = none ∧ h = h0) := by
  refine Ctr.of #[.val (.int ii), .val (.int nn)] pf_9 Z0 (fun m => by first | (simp [entryFrame, mkF, argsToLocals, Value.category]; done) | rfl) ?_
  intro C H
  rcases Jvm.RoadKit.ref_cases rf with rfl | ⟨fa, rfl⟩
  · refine k_iloadN (pc := 0) H d9_0 rfl ?_
    refine k_iloadN (pc := 1) H d9_1 rfl ?_
    refine k_getstatic (pc := 2) H (wd hw 50 rfl) S2 d9_2 ?_
    refine k_invS (y := (⟨"jdk/internal/util/Preconditions", "checkIndex", "(IILjava/util/function/BiFunction;)I"⟩ : MethodName)) (st := []) [(.int ii), (.int nn), .null] 0 (pc := 5) H (wd hw 52 rfl) (wd hw 53 rfl) (wd hw 51 rfl) (wd hw 54 rfl) (by decide) (fun z0 => pcN l Z a0 hw n0 h0 z0 ii nn i m  hi hm lt) (lenOf pd_4 rfl) d9_5 rfl rfl rfl (by decide) (by decide) (by decide) (by decide) ?_
    rintro v hx ⟨rfl, ex⟩
    rw [ex]
    clear ex hx
    show W l own_rm9_room C _ h0 0 0 8 #[.val (.int ii), .val (.int nn)] [(.int ii)]
    refine k_pop (pc := 8) H d9_8 rfl ?_
    exact k_retVoid (pc := 9) H d9_9 (by show 0 ≤ own_rm9_room.cells; decide) (by show 0 ≤ own_rm9_room.slots; decide) (⟨rfl, rfl⟩)
  · refine k_iloadN (pc := 0) H d9_0 rfl ?_
    refine k_iloadN (pc := 1) H d9_1 rfl ?_
    refine k_getstatic (pc := 2) H (wd hw 50 rfl) S2 d9_2 ?_
    refine k_invS (y := (⟨"jdk/internal/util/Preconditions", "checkIndex", "(IILjava/util/function/BiFunction;)I"⟩ : MethodName)) (st := []) [(.int ii), (.int nn), (.ref fa)] 0 (pc := 5) H (wd hw 52 rfl) (wd hw 53 rfl) (wd hw 51 rfl) (wd hw 54 rfl) (by decide) (fun z0 => pcA l Z a0 hw n0 h0 z0 ii nn i m fa hi hm lt) (lenOf pd_4 rfl) d9_5 rfl rfl rfl (by decide) (by decide) (by decide) (by decide) ?_
    rintro v hx ⟨rfl, ex⟩
    rw [ex]
    clear ex hx
    show W l own_rm9_room C _ h0 0 0 8 #[.val (.int ii), .val (.int nn)] [(.int ii)]
    refine k_pop (pc := 8) H d9_8 rfl ?_
    exact k_retVoid (pc := 9) H d9_9 (by show 0 ≤ own_rm9_room.cells; decide) (by show 0 ≤ own_rm9_room.slots; decide) (⟨rfl, rfl⟩)
theorem d8_0 : decode jdk_43_method_2_code 0 = .ok (.iload_n 1, 1) := by decide +kernel
theorem d8_1 : decode jdk_43_method_2_code 1 = .ok (.aload_n 0, 1) := by decide +kernel
theorem d8_2 : decode jdk_43_method_2_code 2 = .ok (.arraylength, 1) := by decide +kernel
theorem d8_3 : decode jdk_43_method_2_code 3 = .ok (.invokestatic 9, 3) := by decide +kernel
theorem d8_6 : decode jdk_43_method_2_code 6 = .ok (.aload_n 0, 1) := by decide +kernel
theorem d8_7 : decode jdk_43_method_2_code 7 = .ok (.iload_n 1, 1) := by decide +kernel
theorem d8_8 : decode jdk_43_method_2_code 8 = .ok (.baload, 1) := by decide +kernel
theorem d8_9 : decode jdk_43_method_2_code 9 = .ok (.sipush 255, 3) := by decide +kernel
theorem d8_12 : decode jdk_43_method_2_code 12 = .ok (.iand, 1) := by decide +kernel
theorem d8_13 : decode jdk_43_method_2_code 13 = .ok (.i2c, 1) := by decide +kernel
theorem d8_14 : decode jdk_43_method_2_code 14 = .ok (.ireturn, 1) := by decide +kernel
abbrev own_rm8_room : Room := { frames := 2, cells := 0, slots := 0, locals := 27 }
set_option maxRecDepth 65536 in
set_option maxHeartbeats 40000000 in
theorem rm8 (l : Launch) (Z : State) (a0 : Array Value) (hw : ∀ d ∈ tables_1, d.before a0 Z = true) (n0 : Nat) (h0 : Heap) (Z0 : n0 ≤ h0.size) (fm : Value) (b : Addr) (ii : Int32) (i : Nat) (S2 : Sta Z h0 "jdk/internal/util/Preconditions" "SIOOBE_FORMATTER" "Ljava/util/function/BiFunction;" fm) (rf : fm.isRef = true) (V : BA Z h0 b own_xs) (hi : ii.toInt = (i : Int)) (lt : i < 28) :
    Ctr l Z (⟨"java/lang/StringLatin1", "charAt", "([BI)C"⟩ : MethodName) jdk_43_method_2_code 2 (some .char) own_rm8_room n0 #[(.ref b), (.int ii)] h0 (fun v h => ∃ q : Int32, v = some (.int q) ∧ h = h0) := by
  refine Ctr.of #[.val (.ref b), .val (.int ii)] pf_8 Z0 (fun m => by first | (simp [entryFrame, mkF, argsToLocals, Value.category]; done) | rfl) ?_
  intro C H
  refine k_iloadN (pc := 0) H d8_0 rfl ?_
  refine k_aloadN (pc := 1) H d8_1 rfl rfl ?_
  refine k_arraylength (N := (28 : Int32)) (pc := 2) H V (by decide) d8_2 ?_
  refine k_invS (y := (⟨"java/lang/String", "checkIndex", "(II)V"⟩ : MethodName)) (st := []) [(.int ii), (.int (28 : Int32))] 0 (pc := 3) H (wd hw 47 rfl) (wd hw 48 rfl) (wd hw 14 rfl) (wd hw 49 rfl) (by decide) (fun z0 => rm9 l Z a0 hw n0 h0 z0 fm ii (28 : Int32) i 28 S2 rf hi rfl lt) (lenOf pd_5 rfl) d8_3 rfl rfl rfl (by decide) (by decide) (by decide) (by decide) ?_
  rintro v hx ⟨rfl, ex⟩
  rw [ex]
  clear ex hx
  show W l own_rm8_room C _ h0 0 0 6 #[.val (.ref b), .val (.int ii)] []
  refine k_aloadN (pc := 6) H d8_6 rfl rfl ?_
  refine k_iloadN (pc := 7) H d8_7 rfl ?_
  refine k_baloadT (i := i) (x := (own_xs.getD i 0)) (pc := 8) H V (hi) (own_get 0 lt) d8_8 ?_
  refine k_sipush (255 : Int32) (pc := 9) H d8_9 rfl ?_
  refine k_iand (pc := 12) H d8_12 ?_
  refine k_i2c (pc := 13) H d8_13 ?_
  exact k_retN' (t := .char) (by simp) (pc := 14) H d8_14 (by show 0 ≤ own_rm8_room.cells; decide) (by show 0 ≤ own_rm8_room.slots; decide) (⟨_, rfl, rfl⟩)
theorem d6_0 : decode jdk_42_method_56_code 0 = .ok (.aload_n 0, 1) := by decide +kernel
theorem d6_1 : decode jdk_42_method_56_code 1 = .ok (.invokevirtual 492, 3) := by decide +kernel
theorem d6_4 : decode jdk_42_method_56_code 4 = .ok (.ifCond .eq 12, 3) := by decide +kernel
theorem d6_7 : decode jdk_42_method_56_code 7 = .ok (.aload_n 0, 1) := by decide +kernel
theorem d6_8 : decode jdk_42_method_56_code 8 = .ok (.getfield 9, 3) := by decide +kernel
theorem d6_11 : decode jdk_42_method_56_code 11 = .ok (.iload_n 1, 1) := by decide +kernel
theorem d6_12 : decode jdk_42_method_56_code 12 = .ok (.invokestatic 495, 3) := by decide +kernel
theorem d6_15 : decode jdk_42_method_56_code 15 = .ok (.ireturn, 1) := by decide +kernel
theorem d6_16 : decode jdk_42_method_56_code 16 = .ok (.aload_n 0, 1) := by decide +kernel
theorem d6_17 : decode jdk_42_method_56_code 17 = .ok (.getfield 9, 3) := by decide +kernel
theorem d6_20 : decode jdk_42_method_56_code 20 = .ok (.iload_n 1, 1) := by decide +kernel
theorem d6_21 : decode jdk_42_method_56_code 21 = .ok (.invokestatic 498, 3) := by decide +kernel
theorem d6_24 : decode jdk_42_method_56_code 24 = .ok (.ireturn, 1) := by decide +kernel
abbrev own_rm6_room : Room := { frames := 3, cells := 0, slots := 0, locals := 40 }
set_option maxRecDepth 65536 in
set_option maxHeartbeats 40000000 in
theorem rm6 (l : Launch) (Z : State) (a0 : Array Value) (hw : ∀ d ∈ tables_1, d.before a0 Z = true) (n0 : Nat) (h0 : Heap) (Z0 : n0 ≤ h0.size) (z : Int32) (a b : Addr) (fm : Value) (ii : Int32) (i : Nat) (S1 : Sta Z h0 "java/lang/String" "COMPACT_STRINGS" "Z" (.int z)) (hz : ¬ z = 0) (X : Exa Z h0 a "java/lang/String") (FC : Fld Z h0 a "java/lang/String" "coder" "B" (.int 0)) (FV : Fld Z h0 a "java/lang/String" "value" "[B" (.ref b)) (V : BA Z h0 b own_xs) (S2 : Sta Z h0 "jdk/internal/util/Preconditions" "SIOOBE_FORMATTER" "Ljava/util/function/BiFunction;" fm) (rf : fm.isRef = true) (hi : ii.toInt = (i : Int)) (lt : i < 28) :
    Ctr l Z (⟨"java/lang/String", "charAt", "(I)C"⟩ : MethodName) jdk_42_method_56_code 2 (some .char) own_rm6_room n0 #[(.ref a), (.int ii)] h0 (fun v h => ∃ q : Int32, v = some (.int q) ∧ h = h0) := by
  refine Ctr.of #[.val (.ref a), .val (.int ii)] pf_6 Z0 (fun m => by first | (simp [entryFrame, mkF, argsToLocals, Value.category]; done) | rfl) ?_
  intro C H
  refine k_aloadN (pc := 0) H d6_0 rfl rfl ?_
  refine k_invV (y := (⟨"java/lang/String", "isLatin1", "()Z"⟩ : MethodName)) (st := []) (a := a) [] 0 (pc := 1) H (wd hw 38 rfl) (wd hw 39 rfl) (wd hw 41 rfl) (wd hw 40 rfl) (wd hw 14 rfl) (wd hw 42 rfl) rfl (by decide) X (fun z0 => rm7 l Z a0 hw n0 h0 z0 z a b S1 hz X FC FV V) (lenOf pd_6 rfl) d6_1 rfl rfl rfl (by decide) (by decide) (by decide) (by decide) ?_
  rintro v hx ⟨rfl, ex⟩
  rw [ex]
  clear ex hx
  show W l own_rm6_room C _ h0 0 0 4 #[.val (.ref a), .val (.int ii)] [(.int (1 : Int32))]
  refine k_ifF (pc := 4) H d6_4 (XT.i0_eq_f (by decide)) ?_
  refine k_aloadN (pc := 7) H d6_7 rfl rfl ?_
  refine k_getfield (pc := 8) H (wd hw 25 rfl) FV d6_8 ?_
  refine k_iloadN (pc := 11) H d6_11 rfl ?_
  refine k_invS (y := (⟨"java/lang/StringLatin1", "charAt", "([BI)C"⟩ : MethodName)) (st := []) [(.ref b), (.int ii)] 0 (pc := 12) H (wd hw 43 rfl) (wd hw 44 rfl) (wd hw 45 rfl) (wd hw 46 rfl) (by decide) (fun z0 => rm8 l Z a0 hw n0 h0 z0 fm b ii i S2 rf V hi lt) (lenOf pd_7 rfl) d6_12 rfl rfl rfl (by decide) (by decide) (by decide) (by decide) ?_
  rintro v hx ⟨q, rfl, ex⟩
  rw [ex]
  clear ex hx
  show W l own_rm6_room C _ h0 0 0 15 #[.val (.ref a), .val (.int ii)] [(.int q)]
  exact k_retN' (t := .char) (by simp) (pc := 15) H d6_15 (by show 0 ≤ own_rm6_room.cells; decide) (by show 0 ≤ own_rm6_room.slots; decide) (⟨_, rfl, rfl⟩)
theorem own_atoms {Z : State} {a0 : Array Value} (hw : ∀ d ∈ tables_1, d.before a0 Z = true) : ∀ a ∈ Bundle.stringAtoms, a.before a0 Z = true := by
  intro a ha
  simp only [Bundle.stringAtoms, List.mem_cons, List.not_mem_nil, or_false] at ha
  rcases ha with rfl | rfl | rfl | rfl | rfl | rfl | rfl
  · exact (wd hw 14 rfl)
  · exact (wd hw 15 rfl)
  · exact (wd hw 0 rfl)
  · exact (wd hw 16 rfl)
  · exact (wd hw 17 rfl)
  · exact (wd hw 18 rfl)
  · exact (wd hw 19 rfl)
theorem own_ew {Z : State} {a0 : Array Value} (hw : ∀ d ∈ tables_1, d.before a0 Z = true) : EW Z a0 own_EL := EW.cons (wd hw 13 rfl) own_txt.1 EW.nil
theorem d1_0 : decode method_2_code 0 = .ok (.iload_n 0, 1) := by decide +kernel
theorem d1_1 : decode method_2_code 1 = .ok (.iconst 3, 1) := by decide +kernel
theorem d1_2 : decode method_2_code 2 = .ok (.iand, 1) := by decide +kernel
theorem d1_3 : decode method_2_code 3 = .ok (.istore_n 1, 1) := by decide +kernel
theorem d1_4 : decode method_2_code 4 = .ok (.iload_n 0, 1) := by decide +kernel
theorem d1_5 : decode method_2_code 5 = .ok (.iconst 2, 1) := by decide +kernel
theorem d1_6 : decode method_2_code 6 = .ok (.iushr, 1) := by decide +kernel
theorem d1_7 : decode method_2_code 7 = .ok (.sipush 255, 3) := by decide +kernel
theorem d1_10 : decode method_2_code 10 = .ok (.iand, 1) := by decide +kernel
theorem d1_11 : decode method_2_code 11 = .ok (.istore_n 2, 1) := by decide +kernel
theorem d1_12 : decode method_2_code 12 = .ok (.iload_n 1, 1) := by decide +kernel
theorem d1_13 : decode method_2_code 13 = .ok (.ifCond .ne 6, 3) := by decide +kernel
theorem d1_16 : decode method_2_code 16 = .ok (.bipush 37, 2) := by decide +kernel
theorem d1_18 : decode method_2_code 18 = .ok (.ireturn, 1) := by decide +kernel
theorem d1_19 : decode method_2_code 19 = .ok (.iload_n 1, 1) := by decide +kernel
theorem d1_20 : decode method_2_code 20 = .ok (.iconst 1, 1) := by decide +kernel
theorem d1_21 : decode method_2_code 21 = .ok (.if_icmp .ne 6, 3) := by decide +kernel
theorem d1_24 : decode method_2_code 24 = .ok (.bipush 43, 2) := by decide +kernel
theorem d1_26 : decode method_2_code 26 = .ok (.ireturn, 1) := by decide +kernel
theorem d1_27 : decode method_2_code 27 = .ok (.iload_n 1, 1) := by decide +kernel
theorem d1_28 : decode method_2_code 28 = .ok (.iconst 2, 1) := by decide +kernel
theorem d1_29 : decode method_2_code 29 = .ok (.if_icmp .ne 17, 3) := by decide +kernel
theorem d1_32 : decode method_2_code 32 = .ok (.ldc 7, 2) := by decide +kernel
theorem d1_34 : decode method_2_code 34 = .ok (.iload_n 2, 1) := by decide +kernel
theorem d1_35 : decode method_2_code 35 = .ok (.ldc 7, 2) := by decide +kernel
theorem d1_37 : decode method_2_code 37 = .ok (.invokevirtual 9, 3) := by decide +kernel
theorem d1_40 : decode method_2_code 40 = .ok (.irem, 1) := by decide +kernel
theorem d1_41 : decode method_2_code 41 = .ok (.invokevirtual 15, 3) := by decide +kernel
theorem d1_44 : decode method_2_code 44 = .ok (.i2b, 1) := by decide +kernel
theorem d1_45 : decode method_2_code 45 = .ok (.ireturn, 1) := by decide +kernel
theorem d1_46 : decode method_2_code 46 = .ok (.iload_n 2, 1) := by decide +kernel
theorem d1_47 : decode method_2_code 47 = .ok (.i2b, 1) := by decide +kernel
theorem d1_48 : decode method_2_code 48 = .ok (.ireturn, 1) := by decide +kernel
abbrev own_pk_room : Room := { frames := 4, cells := 2, slots := 116, locals := 53 }
set_option maxRecDepth 65536 in
set_option maxHeartbeats 40000000 in
theorem rmpk (l : Launch) (Z : State) (a0 : Array Value) (hw : ∀ d ∈ tables_1, d.before a0 Z = true) (n0 : Nat) (h0 : Heap) (Z0 : n0 ≤ h0.size) (z : Int32) (fm : Value) (sel : Int32) (S1 : Sta Z h0 "java/lang/String" "COMPACT_STRINGS" "Z" (.int z)) (hz : ¬ z = 0) (S2 : Sta Z h0 "jdk/internal/util/Preconditions" "SIOOBE_FORMATTER" "Ljava/util/function/BiFunction;" fm) (rf : fm.isRef = true) :
    CtrW l Z own_EL (⟨"paramwick/util/PercentEncodingDecodePinLaw", "pick", "(I)B"⟩ : MethodName) method_2_code 3 (some .byte) own_pk_room n0 #[.int sel] h0 (fun v h => ∃ b8 : Int8, v = some (.int b8.toInt32) ∧ Ext h0 h) := by
  refine CtrW.of #[.val (.int sel), .unset, .unset] (plainFor_of_name pn_1) Z0 (fun m => by first | (simp [entryFrame, mkF, argsToLocals, Value.category]; done) | rfl) ?_
  intro s0 bl C hbl H I
  refine k_iloadN (pc := 0) H d1_0 rfl ?_
  refine k_iconst (3 : Int32) (pc := 1) H d1_1 rfl ?_
  refine k_iand (pc := 2) H d1_2 ?_
  refine k_istoreN (pc := 3) H d1_3 (Ls' := #[.val (.int sel), .val (.int (sel &&& (3 : Int32))), .unset]) rfl ?_
  refine k_iloadN (pc := 4) H d1_4 rfl ?_
  refine k_iconst (2 : Int32) (pc := 5) H d1_5 rfl ?_
  refine k_iushr (pc := 6) H d1_6 ?_
  refine k_sipush (255 : Int32) (pc := 7) H d1_7 rfl ?_
  refine k_iand (pc := 10) H d1_10 ?_
  refine k_istoreN (pc := 11) H d1_11 (Ls' := #[.val (.int sel), .val (.int (sel &&& (3 : Int32))), .val (.int ((XT.ushr sel (2 : Int32)) &&& (255 : Int32)))]) rfl ?_
  refine k_iloadN (pc := 12) H d1_12 rfl ?_
  refine k_iff0R (P := (sel &&& (3 : Int32)) = 0) 19 (pc := 13) H d1_13 rfl XT.i0_ne_t XT.i0_ne_f (fun m0 => ?_) (fun m0 => ?_)
  · refine k_iloadN (pc := 19) H d1_19 rfl ?_
    refine k_iconst (1 : Int32) (pc := 20) H d1_20 rfl ?_
    refine k_icmpR (P := (sel &&& (3 : Int32)) = (1 : Int32)) 27 (pc := 21) H d1_21 rfl XT.ii_ne_t XT.ii_ne_f (fun m1 => ?_) (fun m1 => ?_)
    · refine k_iloadN (pc := 27) H d1_27 rfl ?_
      refine k_iconst (2 : Int32) (pc := 28) H d1_28 rfl ?_
      refine k_icmpR (P := (sel &&& (3 : Int32)) = (2 : Int32)) 46 (pc := 29) H d1_29 rfl XT.ii_ne_t XT.ii_ne_f (fun m2 => ?_) (fun m2 => ?_)
      · refine W.tailP H I (own_ew hw) hbl ?_
        refine k_iloadN (pc := 46) H d1_46 rfl ?_
        refine k_i2b (pc := 47) H d1_47 ?_
        exact k_retN' (t := .byte) (by simp) (pc := 48) H d1_48 (by show 0 ≤ own_pk_room.cells; decide) (by show 0 ≤ own_pk_room.slots; decide) (⟨⟨(XT.ushr sel 2 &&& 255).toInt8.toInt32.toInt8, rfl, ⟨Nat.le_refl _, fun _ _ q => q⟩⟩, rfl⟩)
      · refine k_ldcC (text := "0123456789abcdefABCDEF/:@G`g") (z := 28) 112 (pc := 32) H I (wd hw 13 rfl) (own_atoms hw) (own_ew hw) (List.mem_of_getElem? (i := 0) rfl) own_txt (by decide) (by decide) (fun _ _ q => q) d1_32 (by decide +kernel) (by decide) (by decide) (by decide) ?_
        intro C h1 sa sb kb H I E1 X1 FC FV AV Li hB
        have hbl := hB.trans hbl
        show W l own_pk_room C _ h1 2 116 34 #[.val (.int sel), .val (.int (sel &&& (3 : Int32))), .val (.int ((XT.ushr sel (2 : Int32)) &&& (255 : Int32)))] [(.ref sa)]
        refine k_iloadN (pc := 34) H d1_34 rfl ?_
        refine k_ldcA (text := "0123456789abcdefABCDEF/:@G`g") (pc := 35) H I (wd hw 13 rfl) Li d1_35 ?_
        refine W.tailP H I (own_ew hw) hbl ?_
        show W l own_pk_room C _ h1 2 116 37 #[.val (.int sel), .val (.int (sel &&& (3 : Int32))), .val (.int ((XT.ushr sel (2 : Int32)) &&& (255 : Int32)))] [(.ref sa), (.int ((XT.ushr sel (2 : Int32)) &&& (255 : Int32))), (.ref sa)]
        have VX : BA Z h1 sb own_xs := vec_of AV (by decide) (by decide)
        have S1 := Jvm.RoadKit.Sta.ext E1 S1
        have S2 := Jvm.RoadKit.Sta.ext E1 S2
        refine k_invV (y := (⟨"java/lang/String", "length", "()I"⟩ : MethodName)) (st := [(.int ((XT.ushr sel (2 : Int32)) &&& (255 : Int32))), (.ref sa)]) (a := sa) [] 2 (pc := 37) H (wd hw 20 rfl) (wd hw 21 rfl) (wd hw 23 rfl) (wd hw 22 rfl) (wd hw 14 rfl) (wd hw 24 rfl) rfl (by decide) X1 (fun z0 => rm4 l Z a0 hw n0 h1 z0 z sa sb S1 hz X1 FC FV VX) (lenOf pd_8 rfl) d1_37 rfl rfl rfl (by decide) (by decide) (by decide) (by decide) ?_
        rintro v hx ⟨rfl, ex⟩
        rw [ex]
        clear ex hx
        show W l own_pk_room C _ h1 2 116 40 #[.val (.int sel), .val (.int (sel &&& (3 : Int32))), .val (.int ((XT.ushr sel (2 : Int32)) &&& (255 : Int32)))] [(.int (28 : Int32)), (.int ((XT.ushr sel (2 : Int32)) &&& (255 : Int32))), (.ref sa)]
        refine k_irem (pc := 40) H d1_40 (by decide) ?_
        obtain ⟨i, hi, li⟩ := mod_nat (XT.ushr sel 2) 255 28 8 28 (by decide) (by decide) rfl (by decide)
        refine k_invV (y := (⟨"java/lang/String", "charAt", "(I)C"⟩ : MethodName)) (st := []) (a := sa) [(.int (((XT.ushr sel (2 : Int32)) &&& (255 : Int32)) % (28 : Int32)))] 0 (pc := 41) H (wd hw 33 rfl) (wd hw 34 rfl) (wd hw 36 rfl) (wd hw 35 rfl) (wd hw 14 rfl) (wd hw 37 rfl) rfl (by decide) X1 (fun z0 => rm6 l Z a0 hw n0 h1 z0 z sa sb fm _ i S1 hz X1 FC FV VX S2 rf hi li) (lenOf pd_9 rfl) d1_41 rfl rfl rfl (by decide) (by decide) (by decide) (by decide) ?_
        rintro v hx ⟨q, rfl, ex⟩
        rw [ex]
        clear ex hx
        show W l own_pk_room C _ h1 2 116 44 #[.val (.int sel), .val (.int (sel &&& (3 : Int32))), .val (.int ((XT.ushr sel (2 : Int32)) &&& (255 : Int32)))] [(.int q)]
        refine k_i2b (pc := 44) H d1_44 ?_
        exact k_retN' (t := .byte) (by simp) (pc := 45) H d1_45 (by show 2 ≤ own_pk_room.cells; decide) (by show 116 ≤ own_pk_room.slots; decide) (⟨⟨_, rfl, E1⟩, rfl⟩)
    · refine W.tailP H I (own_ew hw) hbl ?_
      refine k_bipush (43 : Int32) (pc := 24) H d1_24 rfl ?_
      exact k_retN' (t := .byte) (by simp) (pc := 26) H d1_26 (by show 0 ≤ own_pk_room.cells; decide) (by show 0 ≤ own_pk_room.slots; decide) (⟨⟨(43 : Int32).toInt8, rfl, ⟨Nat.le_refl _, fun _ _ q => q⟩⟩, rfl⟩)
  · refine W.tailP H I (own_ew hw) hbl ?_
    refine k_bipush (37 : Int32) (pc := 16) H d1_16 rfl ?_
    exact k_retN' (t := .byte) (by simp) (pc := 18) H d1_18 (by show 0 ≤ own_pk_room.cells; decide) (by show 0 ≤ own_pk_room.slots; decide) (⟨⟨(37 : Int32).toInt8, rfl, ⟨Nat.le_refl _, fun _ _ q => q⟩⟩, rfl⟩)
theorem d0_0 : decode code 0 = .ok (.bipush 6, 2) := by decide +kernel
theorem d0_2 : decode code 2 = .ok (.newarray .byte, 2) := by decide +kernel
theorem d0_4 : decode code 4 = .ok (.astore_n 3, 1) := by decide +kernel
theorem d0_5 : decode code 5 = .ok (.aload_n 3, 1) := by decide +kernel
theorem d0_6 : decode code 6 = .ok (.iconst 0, 1) := by decide +kernel
theorem d0_7 : decode code 7 = .ok (.iload_n 0, 1) := by decide +kernel
theorem d0_8 : decode code 8 = .ok (.invokestatic 19, 3) := by decide +kernel
theorem d0_11 : decode code 11 = .ok (.bastore, 1) := by decide +kernel
theorem d0_12 : decode code 12 = .ok (.aload_n 3, 1) := by decide +kernel
theorem d0_13 : decode code 13 = .ok (.iconst 1, 1) := by decide +kernel
theorem d0_14 : decode code 14 = .ok (.iload_n 0, 1) := by decide +kernel
theorem d0_15 : decode code 15 = .ok (.bipush 10, 2) := by decide +kernel
theorem d0_17 : decode code 17 = .ok (.iushr, 1) := by decide +kernel
theorem d0_18 : decode code 18 = .ok (.invokestatic 19, 3) := by decide +kernel
theorem d0_21 : decode code 21 = .ok (.bastore, 1) := by decide +kernel
theorem d0_22 : decode code 22 = .ok (.aload_n 3, 1) := by decide +kernel
theorem d0_23 : decode code 23 = .ok (.iconst 2, 1) := by decide +kernel
theorem d0_24 : decode code 24 = .ok (.iload_n 0, 1) := by decide +kernel
theorem d0_25 : decode code 25 = .ok (.bipush 20, 2) := by decide +kernel
theorem d0_27 : decode code 27 = .ok (.iushr, 1) := by decide +kernel
theorem d0_28 : decode code 28 = .ok (.invokestatic 19, 3) := by decide +kernel
theorem d0_31 : decode code 31 = .ok (.bastore, 1) := by decide +kernel
theorem d0_32 : decode code 32 = .ok (.aload_n 3, 1) := by decide +kernel
theorem d0_33 : decode code 33 = .ok (.iconst 3, 1) := by decide +kernel
theorem d0_34 : decode code 34 = .ok (.iload_n 1, 1) := by decide +kernel
theorem d0_35 : decode code 35 = .ok (.invokestatic 19, 3) := by decide +kernel
theorem d0_38 : decode code 38 = .ok (.bastore, 1) := by decide +kernel
theorem d0_39 : decode code 39 = .ok (.aload_n 3, 1) := by decide +kernel
theorem d0_40 : decode code 40 = .ok (.iconst 4, 1) := by decide +kernel
theorem d0_41 : decode code 41 = .ok (.iload_n 1, 1) := by decide +kernel
theorem d0_42 : decode code 42 = .ok (.bipush 10, 2) := by decide +kernel
theorem d0_44 : decode code 44 = .ok (.iushr, 1) := by decide +kernel
theorem d0_45 : decode code 45 = .ok (.invokestatic 19, 3) := by decide +kernel
theorem d0_48 : decode code 48 = .ok (.bastore, 1) := by decide +kernel
theorem d0_49 : decode code 49 = .ok (.aload_n 3, 1) := by decide +kernel
theorem d0_50 : decode code 50 = .ok (.iconst 5, 1) := by decide +kernel
theorem d0_51 : decode code 51 = .ok (.iload_n 1, 1) := by decide +kernel
theorem d0_52 : decode code 52 = .ok (.bipush 20, 2) := by decide +kernel
theorem d0_54 : decode code 54 = .ok (.iushr, 1) := by decide +kernel
theorem d0_55 : decode code 55 = .ok (.invokestatic 19, 3) := by decide +kernel
theorem d0_58 : decode code 58 = .ok (.bastore, 1) := by decide +kernel
theorem d0_59 : decode code 59 = .ok (.iload_n 2, 1) := by decide +kernel
theorem d0_60 : decode code 60 = .ok (.bipush 7, 2) := by decide +kernel
theorem d0_62 : decode code 62 = .ok (.iand, 1) := by decide +kernel
theorem d0_63 : decode code 63 = .ok (.bipush 7, 2) := by decide +kernel
theorem d0_65 : decode code 65 = .ok (.irem, 1) := by decide +kernel
theorem d0_66 : decode code 66 = .ok (.istore 4, 2) := by decide +kernel
theorem d0_68 : decode code 68 = .ok (.iload_n 2, 1) := by decide +kernel
theorem d0_69 : decode code 69 = .ok (.iconst 3, 1) := by decide +kernel
theorem d0_70 : decode code 70 = .ok (.iushr, 1) := by decide +kernel
theorem d0_71 : decode code 71 = .ok (.bipush 7, 2) := by decide +kernel
theorem d0_73 : decode code 73 = .ok (.iand, 1) := by decide +kernel
theorem d0_74 : decode code 74 = .ok (.bipush 7, 2) := by decide +kernel
theorem d0_76 : decode code 76 = .ok (.irem, 1) := by decide +kernel
theorem d0_77 : decode code 77 = .ok (.istore 5, 2) := by decide +kernel
theorem d0_79 : decode code 79 = .ok (.bipush 6, 2) := by decide +kernel
theorem d0_81 : decode code 81 = .ok (.iload 4, 2) := by decide +kernel
theorem d0_83 : decode code 83 = .ok (.iload 5, 2) := by decide +kernel
theorem d0_85 : decode code 85 = .ok (.iadd, 1) := by decide +kernel
theorem d0_86 : decode code 86 = .ok (.invokestatic 25, 3) := by decide +kernel
theorem d0_89 : decode code 89 = .ok (.istore 6, 2) := by decide +kernel
theorem d0_91 : decode code 91 = .ok (.iload_n 2, 1) := by decide +kernel
theorem d0_92 : decode code 92 = .ok (.bipush 6, 2) := by decide +kernel
theorem d0_94 : decode code 94 = .ok (.iushr, 1) := by decide +kernel
theorem d0_95 : decode code 95 = .ok (.iconst 1, 1) := by decide +kernel
theorem d0_96 : decode code 96 = .ok (.iand, 1) := by decide +kernel
theorem d0_97 : decode code 97 = .ok (.ifCond .eq 7, 3) := by decide +kernel
theorem d0_100 : decode code 100 = .ok (.iconst 1, 1) := by decide +kernel
theorem d0_101 : decode code 101 = .ok (.goto 4, 3) := by decide +kernel
theorem d0_104 : decode code 104 = .ok (.iconst 0, 1) := by decide +kernel
theorem d0_105 : decode code 105 = .ok (.istore 7, 2) := by decide +kernel
theorem d0_107 : decode code 107 = .ok (.bipush 6, 2) := by decide +kernel
theorem d0_109 : decode code 109 = .ok (.newarray .byte, 2) := by decide +kernel
theorem d0_111 : decode code 111 = .ok (.astore 8, 2) := by decide +kernel
theorem d0_113 : decode code 113 = .ok (.bipush 6, 2) := by decide +kernel
theorem d0_115 : decode code 115 = .ok (.newarray .byte, 2) := by decide +kernel
theorem d0_117 : decode code 117 = .ok (.astore 9, 2) := by decide +kernel
theorem d0_119 : decode code 119 = .ok (.aload_n 3, 1) := by decide +kernel
theorem d0_120 : decode code 120 = .ok (.iload 4, 2) := by decide +kernel
theorem d0_122 : decode code 122 = .ok (.iload 6, 2) := by decide +kernel
theorem d0_124 : decode code 124 = .ok (.iload 7, 2) := by decide +kernel
theorem d0_126 : decode code 126 = .ok (.aload 8, 2) := by decide +kernel
theorem d0_128 : decode code 128 = .ok (.invokestatic 31, 3) := by decide +kernel
theorem d0_131 : decode code 131 = .ok (.istore 10, 2) := by decide +kernel
theorem d0_133 : decode code 133 = .ok (.iload 4, 2) := by decide +kernel
theorem d0_135 : decode code 135 = .ok (.iload 6, 2) := by decide +kernel
theorem d0_137 : decode code 137 = .ok (.if_icmp .ne 56, 3) := by decide +kernel
theorem d0_140 : decode code 140 = .ok (.iload 10, 2) := by decide +kernel
theorem d0_142 : decode code 142 = .ok (.ifCond .ne 49, 3) := by decide +kernel
theorem d0_145 : decode code 145 = .ok (.aload 8, 2) := by decide +kernel
theorem d0_147 : decode code 147 = .ok (.iconst 0, 1) := by decide +kernel
theorem d0_148 : decode code 148 = .ok (.baload, 1) := by decide +kernel
theorem d0_149 : decode code 149 = .ok (.ifCond .ne 42, 3) := by decide +kernel
theorem d0_152 : decode code 152 = .ok (.aload 8, 2) := by decide +kernel
theorem d0_154 : decode code 154 = .ok (.iconst 1, 1) := by decide +kernel
theorem d0_155 : decode code 155 = .ok (.baload, 1) := by decide +kernel
theorem d0_156 : decode code 156 = .ok (.ifCond .ne 35, 3) := by decide +kernel
theorem d0_159 : decode code 159 = .ok (.aload 8, 2) := by decide +kernel
theorem d0_161 : decode code 161 = .ok (.iconst 2, 1) := by decide +kernel
theorem d0_162 : decode code 162 = .ok (.baload, 1) := by decide +kernel
theorem d0_163 : decode code 163 = .ok (.ifCond .ne 28, 3) := by decide +kernel
theorem d0_166 : decode code 166 = .ok (.aload 8, 2) := by decide +kernel
theorem d0_168 : decode code 168 = .ok (.iconst 3, 1) := by decide +kernel
theorem d0_169 : decode code 169 = .ok (.baload, 1) := by decide +kernel
theorem d0_170 : decode code 170 = .ok (.ifCond .ne 21, 3) := by decide +kernel
theorem d0_173 : decode code 173 = .ok (.aload 8, 2) := by decide +kernel
theorem d0_175 : decode code 175 = .ok (.iconst 4, 1) := by decide +kernel
theorem d0_176 : decode code 176 = .ok (.baload, 1) := by decide +kernel
theorem d0_177 : decode code 177 = .ok (.ifCond .ne 14, 3) := by decide +kernel
theorem d0_180 : decode code 180 = .ok (.aload 8, 2) := by decide +kernel
theorem d0_182 : decode code 182 = .ok (.iconst 5, 1) := by decide +kernel
theorem d0_183 : decode code 183 = .ok (.baload, 1) := by decide +kernel
theorem d0_184 : decode code 184 = .ok (.ifCond .ne 7, 3) := by decide +kernel
theorem d0_187 : decode code 187 = .ok (.iconst 1, 1) := by decide +kernel
theorem d0_188 : decode code 188 = .ok (.goto 4, 3) := by decide +kernel
theorem d0_191 : decode code 191 = .ok (.iconst 0, 1) := by decide +kernel
theorem d0_192 : decode code 192 = .ok (.ireturn, 1) := by decide +kernel
theorem d0_193 : decode code 193 = .ok (.aload_n 3, 1) := by decide +kernel
theorem d0_194 : decode code 194 = .ok (.iload 4, 2) := by decide +kernel
theorem d0_196 : decode code 196 = .ok (.baload, 1) := by decide +kernel
theorem d0_197 : decode code 197 = .ok (.istore 11, 2) := by decide +kernel
theorem d0_199 : decode code 199 = .ok (.iload 11, 2) := by decide +kernel
theorem d0_201 : decode code 201 = .ok (.bipush 43, 2) := by decide +kernel
theorem d0_203 : decode code 203 = .ok (.if_icmp .ne 18, 3) := by decide +kernel
theorem d0_206 : decode code 206 = .ok (.iload 7, 2) := by decide +kernel
theorem d0_208 : decode code 208 = .ok (.ifCond .eq 13, 3) := by decide +kernel
theorem d0_211 : decode code 211 = .ok (.bipush 32, 2) := by decide +kernel
theorem d0_213 : decode code 213 = .ok (.istore 12, 2) := by decide +kernel
theorem d0_215 : decode code 215 = .ok (.iconst 1, 1) := by decide +kernel
theorem d0_216 : decode code 216 = .ok (.istore 13, 2) := by decide +kernel
theorem d0_218 : decode code 218 = .ok (.goto 81, 3) := by decide +kernel
theorem d0_221 : decode code 221 = .ok (.iload 11, 2) := by decide +kernel
theorem d0_223 : decode code 223 = .ok (.bipush 37, 2) := by decide +kernel
theorem d0_225 : decode code 225 = .ok (.if_icmp .ne 67, 3) := by decide +kernel
theorem d0_228 : decode code 228 = .ok (.iload 4, 2) := by decide +kernel
theorem d0_230 : decode code 230 = .ok (.iconst 2, 1) := by decide +kernel
theorem d0_231 : decode code 231 = .ok (.iadd, 1) := by decide +kernel
theorem d0_232 : decode code 232 = .ok (.iload 6, 2) := by decide +kernel
theorem d0_234 : decode code 234 = .ok (.if_icmp .ge 58, 3) := by decide +kernel
theorem d0_237 : decode code 237 = .ok (.aload_n 3, 1) := by decide +kernel
theorem d0_238 : decode code 238 = .ok (.iload 4, 2) := by decide +kernel
theorem d0_240 : decode code 240 = .ok (.iconst 1, 1) := by decide +kernel
theorem d0_241 : decode code 241 = .ok (.iadd, 1) := by decide +kernel
theorem d0_242 : decode code 242 = .ok (.baload, 1) := by decide +kernel
theorem d0_243 : decode code 243 = .ok (.invokestatic 37, 3) := by decide +kernel
theorem d0_246 : decode code 246 = .ok (.ifCond .lt 46, 3) := by decide +kernel
theorem d0_249 : decode code 249 = .ok (.aload_n 3, 1) := by decide +kernel
theorem d0_250 : decode code 250 = .ok (.iload 4, 2) := by decide +kernel
theorem d0_252 : decode code 252 = .ok (.iconst 2, 1) := by decide +kernel
theorem d0_253 : decode code 253 = .ok (.iadd, 1) := by decide +kernel
theorem d0_254 : decode code 254 = .ok (.baload, 1) := by decide +kernel
theorem d0_255 : decode code 255 = .ok (.invokestatic 37, 3) := by decide +kernel
theorem d0_258 : decode code 258 = .ok (.ifCond .lt 34, 3) := by decide +kernel
theorem d0_261 : decode code 261 = .ok (.aload_n 3, 1) := by decide +kernel
theorem d0_262 : decode code 262 = .ok (.iload 4, 2) := by decide +kernel
theorem d0_264 : decode code 264 = .ok (.iconst 1, 1) := by decide +kernel
theorem d0_265 : decode code 265 = .ok (.iadd, 1) := by decide +kernel
theorem d0_266 : decode code 266 = .ok (.baload, 1) := by decide +kernel
theorem d0_267 : decode code 267 = .ok (.invokestatic 37, 3) := by decide +kernel
theorem d0_270 : decode code 270 = .ok (.bipush 16, 2) := by decide +kernel
theorem d0_272 : decode code 272 = .ok (.imul, 1) := by decide +kernel
theorem d0_273 : decode code 273 = .ok (.aload_n 3, 1) := by decide +kernel
theorem d0_274 : decode code 274 = .ok (.iload 4, 2) := by decide +kernel
theorem d0_276 : decode code 276 = .ok (.iconst 2, 1) := by decide +kernel
theorem d0_277 : decode code 277 = .ok (.iadd, 1) := by decide +kernel
theorem d0_278 : decode code 278 = .ok (.baload, 1) := by decide +kernel
theorem d0_279 : decode code 279 = .ok (.invokestatic 37, 3) := by decide +kernel
theorem d0_282 : decode code 282 = .ok (.iadd, 1) := by decide +kernel
theorem d0_283 : decode code 283 = .ok (.i2b, 1) := by decide +kernel
theorem d0_284 : decode code 284 = .ok (.istore 12, 2) := by decide +kernel
theorem d0_286 : decode code 286 = .ok (.iconst 3, 1) := by decide +kernel
theorem d0_287 : decode code 287 = .ok (.istore 13, 2) := by decide +kernel
theorem d0_289 : decode code 289 = .ok (.goto 10, 3) := by decide +kernel
theorem d0_292 : decode code 292 = .ok (.iload 11, 2) := by decide +kernel
theorem d0_294 : decode code 294 = .ok (.istore 12, 2) := by decide +kernel
theorem d0_296 : decode code 296 = .ok (.iconst 1, 1) := by decide +kernel
theorem d0_297 : decode code 297 = .ok (.istore 13, 2) := by decide +kernel
theorem d0_299 : decode code 299 = .ok (.aload_n 3, 1) := by decide +kernel
theorem d0_300 : decode code 300 = .ok (.iload 4, 2) := by decide +kernel
theorem d0_302 : decode code 302 = .ok (.iload 13, 2) := by decide +kernel
theorem d0_304 : decode code 304 = .ok (.iadd, 1) := by decide +kernel
theorem d0_305 : decode code 305 = .ok (.iload 6, 2) := by decide +kernel
theorem d0_307 : decode code 307 = .ok (.iload 7, 2) := by decide +kernel
theorem d0_309 : decode code 309 = .ok (.aload 9, 2) := by decide +kernel
theorem d0_311 : decode code 311 = .ok (.invokestatic 31, 3) := by decide +kernel
theorem d0_314 : decode code 314 = .ok (.istore 14, 2) := by decide +kernel
theorem d0_316 : decode code 316 = .ok (.iload 10, 2) := by decide +kernel
theorem d0_318 : decode code 318 = .ok (.iload 14, 2) := by decide +kernel
theorem d0_320 : decode code 320 = .ok (.iconst 1, 1) := by decide +kernel
theorem d0_321 : decode code 321 = .ok (.iadd, 1) := by decide +kernel
theorem d0_322 : decode code 322 = .ok (.if_icmp .eq 5, 3) := by decide +kernel
theorem d0_325 : decode code 325 = .ok (.iconst 0, 1) := by decide +kernel
theorem d0_326 : decode code 326 = .ok (.ireturn, 1) := by decide +kernel
theorem d0_327 : decode code 327 = .ok (.aload 8, 2) := by decide +kernel
theorem d0_329 : decode code 329 = .ok (.iconst 0, 1) := by decide +kernel
theorem d0_330 : decode code 330 = .ok (.baload, 1) := by decide +kernel
theorem d0_331 : decode code 331 = .ok (.iload 12, 2) := by decide +kernel
theorem d0_333 : decode code 333 = .ok (.if_icmp .eq 5, 3) := by decide +kernel
theorem d0_336 : decode code 336 = .ok (.iconst 0, 1) := by decide +kernel
theorem d0_337 : decode code 337 = .ok (.ireturn, 1) := by decide +kernel
theorem d0_338 : decode code 338 = .ok (.aload 8, 2) := by decide +kernel
theorem d0_340 : decode code 340 = .ok (.aload 9, 2) := by decide +kernel
theorem d0_342 : decode code 342 = .ok (.iload 10, 2) := by decide +kernel
theorem d0_344 : decode code 344 = .ok (.iconst 1, 1) := by decide +kernel
theorem d0_345 : decode code 345 = .ok (.invokestatic 41, 3) := by decide +kernel
theorem d0_348 : decode code 348 = .ok (.ifCond .eq 59, 3) := by decide +kernel
theorem d0_351 : decode code 351 = .ok (.aload 8, 2) := by decide +kernel
theorem d0_353 : decode code 353 = .ok (.aload 9, 2) := by decide +kernel
theorem d0_355 : decode code 355 = .ok (.iload 10, 2) := by decide +kernel
theorem d0_357 : decode code 357 = .ok (.iconst 2, 1) := by decide +kernel
theorem d0_358 : decode code 358 = .ok (.invokestatic 41, 3) := by decide +kernel
theorem d0_361 : decode code 361 = .ok (.ifCond .eq 46, 3) := by decide +kernel
theorem d0_364 : decode code 364 = .ok (.aload 8, 2) := by decide +kernel
theorem d0_366 : decode code 366 = .ok (.aload 9, 2) := by decide +kernel
theorem d0_368 : decode code 368 = .ok (.iload 10, 2) := by decide +kernel
theorem d0_370 : decode code 370 = .ok (.iconst 3, 1) := by decide +kernel
theorem d0_371 : decode code 371 = .ok (.invokestatic 41, 3) := by decide +kernel
theorem d0_374 : decode code 374 = .ok (.ifCond .eq 33, 3) := by decide +kernel
theorem d0_377 : decode code 377 = .ok (.aload 8, 2) := by decide +kernel
theorem d0_379 : decode code 379 = .ok (.aload 9, 2) := by decide +kernel
theorem d0_381 : decode code 381 = .ok (.iload 10, 2) := by decide +kernel
theorem d0_383 : decode code 383 = .ok (.iconst 4, 1) := by decide +kernel
theorem d0_384 : decode code 384 = .ok (.invokestatic 41, 3) := by decide +kernel
theorem d0_387 : decode code 387 = .ok (.ifCond .eq 20, 3) := by decide +kernel
theorem d0_390 : decode code 390 = .ok (.aload 8, 2) := by decide +kernel
theorem d0_392 : decode code 392 = .ok (.aload 9, 2) := by decide +kernel
theorem d0_394 : decode code 394 = .ok (.iload 10, 2) := by decide +kernel
theorem d0_396 : decode code 396 = .ok (.iconst 5, 1) := by decide +kernel
theorem d0_397 : decode code 397 = .ok (.invokestatic 41, 3) := by decide +kernel
theorem d0_400 : decode code 400 = .ok (.ifCond .eq 7, 3) := by decide +kernel
theorem d0_403 : decode code 403 = .ok (.iconst 1, 1) := by decide +kernel
theorem d0_404 : decode code 404 = .ok (.goto 4, 3) := by decide +kernel
theorem d0_407 : decode code 407 = .ok (.iconst 0, 1) := by decide +kernel
theorem d0_408 : decode code 408 = .ok (.ireturn, 1) := by decide +kernel
set_option maxRecDepth 65536 in
set_option maxHeartbeats 40000000 in
theorem own_tail (l : Launch) (Z : State) (a0 : Array Value) (hw : ∀ d ∈ tables_1, d.before a0 Z = true) (n0 : Nat) (h0 : Heap) (Z0 : n0 ≤ h0.size) (C : Cxt) (H : Cx C Z "paramwick/util/PercentEncodingDecodePinLaw" code maxLocals ret "law" n0) (s0' s1' r : Int32) (a : Addr) (bs : List Int8) (hb : bs.length = 6) (V : BA Z h0 a bs) :
    W l room_1 C (n0, 16, 1152, (fun v h => v = some (.int 1) ∧ h0.size ≤ h.size), fun _ => False) h0 13 702 59 #[.val (.int s0'), .val (.int s1'), .val (.int r), .val (.ref a), .unset, .unset, .unset, .unset, .unset, .unset, .unset, .unset, .unset, .unset, .unset] [] := by
  refine k_iloadN (pc := 59) H d0_59 rfl ?_
  refine k_bipush (7 : Int32) (pc := 60) H d0_60 rfl ?_
  refine k_iand (pc := 62) H d0_62 ?_
  refine k_bipush (7 : Int32) (pc := 63) H d0_63 rfl ?_
  refine k_irem (pc := 65) H d0_65 (by decide) ?_
  generalize hv_fi : ((r &&& (7 : Int32)) % (7 : Int32)) = fi
  refine k_istore (pc := 66) H d0_66 (Ls' := #[.val (.int s0'), .val (.int s1'), .val (.int r), .val (.ref a), .val (.int fi), .unset, .unset, .unset, .unset, .unset, .unset, .unset, .unset, .unset, .unset]) rfl ?_
  refine k_iloadN (pc := 68) H d0_68 rfl ?_
  refine k_iconst (3 : Int32) (pc := 69) H d0_69 rfl ?_
  refine k_iushr (pc := 70) H d0_70 ?_
  refine k_bipush (7 : Int32) (pc := 71) H d0_71 rfl ?_
  refine k_iand (pc := 73) H d0_73 ?_
  refine k_bipush (7 : Int32) (pc := 74) H d0_74 rfl ?_
  refine k_irem (pc := 76) H d0_76 (by decide) ?_
  generalize hv_le : (((XT.ushr r (3 : Int32)) &&& (7 : Int32)) % (7 : Int32)) = le
  refine k_istore (pc := 77) H d0_77 (Ls' := #[.val (.int s0'), .val (.int s1'), .val (.int r), .val (.ref a), .val (.int fi), .val (.int le), .unset, .unset, .unset, .unset, .unset, .unset, .unset, .unset, .unset]) rfl ?_
  refine k_bipush (6 : Int32) (pc := 79) H d0_79 rfl ?_
  refine k_iload (pc := 81) H d0_81 rfl ?_
  refine k_iload (pc := 83) H d0_83 rfl ?_
  refine k_iadd (pc := 85) H d0_85 ?_
  obtain ⟨t0, h_f, l_f⟩ := mod_nat r 7 7 3 7 (by decide) (by decide) rfl (by decide)
  rw [hv_fi] at h_f
  obtain ⟨ln, h_l, l_l⟩ := mod_nat (XT.ushr r 3) 7 7 3 7 (by decide) (by decide) rfl (by decide)
  rw [hv_le] at h_l
  refine k_invS (y := (⟨"java/lang/Math", "min", "(II)I"⟩ : MethodName)) (st := []) [(.int (6 : Int32)), (.int (fi + le))] 0 (pc := 86) H (wd hw 5 rfl) (wd hw 6 rfl) (wd hw 7 rfl) (wd hw 8 rfl) (by decide) (fun z0 => rm2 l Z a0 hw n0 h0 z0 _ _) (lenOf pd_10 rfl) d0_86 rfl rfl rfl (by decide) (by decide) (by decide) (by decide) ?_
  rintro v hx ⟨rfl, ex⟩
  rw [ex]
  clear ex hx
  show W l room_1 C _ h0 13 702 89 #[.val (.int s0'), .val (.int s1'), .val (.int r), .val (.ref a), .val (.int fi), .val (.int le), .unset, .unset, .unset, .unset, .unset, .unset, .unset, .unset, .unset] [(.int (own_min (6 : Int32) (fi + le)))]
  generalize hv_ti : (own_min (6 : Int32) (fi + le)) = ti
  refine k_istore (pc := 89) H d0_89 (Ls' := #[.val (.int s0'), .val (.int s1'), .val (.int r), .val (.ref a), .val (.int fi), .val (.int le), .val (.int ti), .unset, .unset, .unset, .unset, .unset, .unset, .unset, .unset]) rfl ?_
  refine k_iloadN (pc := 91) H d0_91 rfl ?_
  refine k_bipush (6 : Int32) (pc := 92) H d0_92 rfl ?_
  refine k_iushr (pc := 94) H d0_94 ?_
  refine k_iconst (1 : Int32) (pc := 95) H d0_95 rfl ?_
  refine k_iand (pc := 96) H d0_96 ?_
  obtain ⟨T, ht, hT, hT2, hT3⟩ := own_min6 (add_nat h_f h_l (by omega))
  rw [hv_ti] at ht
  have h_le : t0 ≤ T := by omega
  have J105 : ∀ (pl : Int32), W l room_1 C (n0, 16, 1152, (fun v h => v = some (.int 1) ∧ h0.size ≤ h.size), fun _ => False) h0 13 702 105 #[.val (.int s0'), .val (.int s1'), .val (.int r), .val (.ref a), .val (.int fi), .val (.int le), .val (.int ti), .unset, .unset, .unset, .unset, .unset, .unset, .unset, .unset] [(.int pl)] := by
    intro pl
    refine k_istore (pc := 105) H d0_105 (Ls' := #[.val (.int s0'), .val (.int s1'), .val (.int r), .val (.ref a), .val (.int fi), .val (.int le), .val (.int ti), .val (.int pl), .unset, .unset, .unset, .unset, .unset, .unset, .unset]) rfl ?_
    refine k_bipush (6 : Int32) (pc := 107) H d0_107 rfl ?_
    refine k_new_byte (6) 6 (pc := 109) H (wd hw 0 rfl) d0_109 (by decide) (by decide) (by decide) (by decide) (by decide) ?_
    intro h20 o1 ea21 ge22 E23 XA19 V24
    have fr25 : h0.size ≤ o1 := by rw [ea21]; exact (Keep.refl h0 []).1
    have ne26 : a ≠ o1 := Nat.ne_of_lt (by rw [ea21]; exact V.lt)
    have KW27 : Keep h0 h20 [] := (Keep.refl h0 []).ext E23
    have f28 : BA Z h20 a bs := V.ext E23
    refine k_astore (pc := 111) H d0_111 rfl (Ls' := #[.val (.int s0'), .val (.int s1'), .val (.int r), .val (.ref a), .val (.int fi), .val (.int le), .val (.int ti), .val (.int pl), .val (.ref o1), .unset, .unset, .unset, .unset, .unset, .unset]) rfl ?_
    refine k_bipush (6 : Int32) (pc := 113) H d0_113 rfl ?_
    refine k_new_byte (6) 6 (pc := 115) H (wd hw 0 rfl) d0_115 (by decide) (by decide) (by decide) (by decide) (by decide) ?_
    intro h30 o2 ea31 ge32 E33 XA29 V34
    have fr35 : h0.size ≤ o2 := by rw [ea31]; exact KW27.1
    have ne36 : a ≠ o2 := Nat.ne_of_lt (by rw [ea31]; exact f28.lt)
    have ne37 : o1 ≠ o2 := Nat.ne_of_lt (by rw [ea31]; exact V24.lt)
    have KW38 : Keep h0 h30 [] := KW27.ext E33
    have f39 : BA Z h30 a bs := f28.ext E33
    have f40 : BA Z h30 o1 (List.replicate (6) 0) := V24.ext E33
    refine k_astore (pc := 117) H d0_117 rfl (Ls' := #[.val (.int s0'), .val (.int s1'), .val (.int r), .val (.ref a), .val (.int fi), .val (.int le), .val (.int ti), .val (.int pl), .val (.ref o1), .val (.ref o2), .unset, .unset, .unset, .unset, .unset]) rfl ?_
    refine k_aloadN (pc := 119) H d0_119 rfl rfl ?_
    refine k_iload (pc := 120) H d0_120 rfl ?_
    refine k_iload (pc := 122) H d0_122 rfl ?_
    refine k_iload (pc := 124) H d0_124 rfl ?_
    refine k_aload (pc := 126) H d0_126 rfl rfl ?_
    refine k_invS (y := (⟨"paramwick/util/PercentEncoding", "decode", "([BIIZ[B)I"⟩ : MethodName)) (st := []) [(.ref a), (.int fi), (.int ti), (.int pl), (.ref o1)] 0 (pc := 128) H (wd hw 9 rfl) (wd hw 10 rfl) (wd hw 11 rfl) (wd hw 12 rfl) (by decide) (fun z0 => rm3 l Z a0 hw n0 h30 z0 a o1 bs fi ti pl t0 T ge22 ne26 f39 hb f40 h_f ht hT) (lenOf pd_11 rfl) d0_128 rfl rfl rfl (by decide) (by decide) (by decide) (by decide) ?_
    rintro v h43 ⟨r1, hr1, rfl, K41, V42⟩
    show W l room_1 C _ h43 15 714 131 #[.val (.int s0'), .val (.int s1'), .val (.int r), .val (.ref a), .val (.int fi), .val (.int le), .val (.int ti), .val (.int pl), .val (.ref o1), .val (.ref o2), .unset, .unset, .unset, .unset, .unset] [(.int r1)]
    have KW44 : Keep h0 h43 [] := KW38.trans K41 (allS (Or.inr fr25) all0)
    have f45 : BA Z h43 a bs := f39.keep K41 (ninS ne26 nin0)
    have f46 : BA Z h43 o2 (List.replicate (6) 0) := V34.keep K41 (ninS (Ne.symm ne37) nin0)
    refine k_istore (pc := 131) H d0_131 (Ls' := #[.val (.int s0'), .val (.int s1'), .val (.int r), .val (.ref a), .val (.int fi), .val (.int le), .val (.int ti), .val (.int pl), .val (.ref o1), .val (.ref o2), .val (.int r1), .unset, .unset, .unset, .unset]) rfl ?_
    refine k_iload (pc := 133) H d0_133 rfl ?_
    refine k_iload (pc := 135) H d0_135 rfl ?_
    have qe := eq_nat h_f ht
    refine k_icmpR (P := fi = ti) 193 (pc := 137) H d0_137 rfl XT.ii_ne_t XT.ii_ne_f (fun ce => ?_) (fun ce => ?_)
    · have lt : t0 < T := by have : ¬ t0 = T := fun z => ce (qe.mpr z); omega
      refine k_aloadN (pc := 193) H d0_193 rfl rfl ?_
      refine k_iload (pc := 194) H d0_194 rfl ?_
      refine k_baloadT (i := t0) (x := (bs.getD t0 0)) (pc := 196) H f45 (h_f) (own_get 0 (by omega)) d0_196 ?_
      refine k_istore (pc := 197) H d0_197 (Ls' := #[.val (.int s0'), .val (.int s1'), .val (.int r), .val (.ref a), .val (.int fi), .val (.int le), .val (.int ti), .val (.int pl), .val (.ref o1), .val (.ref o2), .val (.int r1), .val (.int (bs.getD t0 0).toInt32), .unset, .unset, .unset]) rfl ?_
      refine k_iload (pc := 199) H d0_199 rfl ?_
      refine k_bipush (43 : Int32) (pc := 201) H d0_201 rfl ?_
      have J299 : ∀ (hd : Int8) (kv : Int32) (kn : Nat) (hk : kv.toInt = (kn : Int)) (hk1 : 1 ≤ kn) (hk3 : kn ≤ 3) (tk : own_tok bs T pl t0 = (hd, kn)), W l room_1 C (n0, 16, 1152, (fun v h => v = some (.int 1) ∧ h0.size ≤ h.size), fun _ => False) h43 15 714 299 #[.val (.int s0'), .val (.int s1'), .val (.int r), .val (.ref a), .val (.int fi), .val (.int le), .val (.int ti), .val (.int pl), .val (.ref o1), .val (.ref o2), .val (.int r1), .val (.int (bs.getD t0 0).toInt32), .val (.int hd.toInt32), .val (.int kv), .unset] [] := by
        intro hd kv kn hk hk1 hk3 tk
        refine k_aloadN (pc := 299) H d0_299 rfl rfl ?_
        refine k_iload (pc := 300) H d0_300 rfl ?_
        refine k_iload (pc := 302) H d0_302 rfl ?_
        refine k_iadd (pc := 304) H d0_304 ?_
        refine k_iload (pc := 305) H d0_305 rfl ?_
        refine k_iload (pc := 307) H d0_307 rfl ?_
        refine k_aload (pc := 309) H d0_309 rfl rfl ?_
        refine k_invS (y := (⟨"paramwick/util/PercentEncoding", "decode", "([BIIZ[B)I"⟩ : MethodName)) (st := []) [(.ref a), (.int (fi + kv)), (.int ti), (.int pl), (.ref o2)] 0 (pc := 311) H (wd hw 9 rfl) (wd hw 10 rfl) (wd hw 11 rfl) (wd hw 12 rfl) (by decide) (fun z0 => rm3 l Z a0 hw n0 h43 z0 a o2 bs (fi + kv) ti pl (t0 + kn) T ge32 ne36 f45 hb f46 (add_nat h_f hk (by omega)) ht hT) (lenOf pd_11 rfl) d0_311 rfl rfl rfl (by decide) (by decide) (by decide) (by decide) ?_
        rintro v h49 ⟨r2, hr2, rfl, K47, V48⟩
        show W l room_1 C _ h49 15 714 314 #[.val (.int s0'), .val (.int s1'), .val (.int r), .val (.ref a), .val (.int fi), .val (.int le), .val (.int ti), .val (.int pl), .val (.ref o1), .val (.ref o2), .val (.int r1), .val (.int (bs.getD t0 0).toInt32), .val (.int hd.toInt32), .val (.int kv), .unset] [(.int r2)]
        have KW50 : Keep h0 h49 [] := KW44.trans K47 (allS (Or.inr fr35) all0)
        have f51 : BA Z h49 a bs := f45.keep K47 (ninS ne36 nin0)
        have f52 : BA Z h49 o1 (own_pad (own_dec bs T pl 6 t0)) := V42.keep K47 (ninS ne37 nin0)
        refine k_istore (pc := 314) H d0_314 (Ls' := #[.val (.int s0'), .val (.int s1'), .val (.int r), .val (.ref a), .val (.int fi), .val (.int le), .val (.int ti), .val (.int pl), .val (.ref o1), .val (.ref o2), .val (.int r1), .val (.int (bs.getD t0 0).toInt32), .val (.int hd.toInt32), .val (.int kv), .val (.int r2)]) rfl ?_
        refine k_iload (pc := 316) H d0_316 rfl ?_
        refine k_iload (pc := 318) H d0_318 rfl ?_
        refine k_iconst (1 : Int32) (pc := 320) H d0_320 rfl ?_
        refine k_iadd (pc := 321) H d0_321 ?_
        have e1 : own_dec bs T pl 6 t0 = hd :: own_dec bs T pl 6 (t0 + kn) := by rw [own_ds lt tk, own_df bs pl 5 (t0 + kn) (by omega)]
        have l6 := own_dl bs T pl 6 t0
        rw [e1] at f52 hr1 l6
        obtain ⟨d2, hd2⟩ : ∃ z, z = own_dec bs T pl 6 (t0 + kn) := ⟨_, rfl⟩
        rw [← hd2] at f52 V48 hr1 hr2 l6
        have l5 : d2.length ≤ 5 := by simp at l6; omega
        refine k_icmpT 327 (pc := 322) H d0_322 rfl (XT.ii_eq_t ((eq_nat hr1 (add_nat (y := 1) (j := 1) hr2 rfl (by omega))).mpr (by simp))) ?_
        refine k_aload (pc := 327) H d0_327 rfl rfl ?_
        refine k_iconst (0 : Int32) (pc := 329) H d0_329 rfl ?_
        refine k_baloadT (i := 0) (x := hd) (pc := 330) H f52 (rfl) (rfl) d0_330 ?_
        refine k_iload (pc := 331) H d0_331 rfl ?_
        refine k_icmpT 338 (pc := 333) H d0_333 rfl (XT.ii_eq_t (rfl)) ?_
        refine k_aload (pc := 338) H d0_338 rfl rfl ?_
        refine k_aload (pc := 340) H d0_340 rfl rfl ?_
        refine k_iload (pc := 342) H d0_342 rfl ?_
        refine k_iconst (1 : Int32) (pc := 344) H d0_344 rfl ?_
        refine k_invS (y := (⟨"paramwick/util/PercentEncodingDecodePinLaw", "same", "([B[BII)Z"⟩ : MethodName)) (st := []) [(.ref o1), (.ref o2), (.int r1), (.int (1 : Int32))] 0 (pc := 345) H (wd hw 58 rfl) (wd hw 59 rfl) (wd hw 3 rfl) (wd hw 60 rfl) (by decide) (fun z0 => rm12 l Z a0 hw n0 h49 z0 o1 o2 (own_pad (hd :: d2)) (own_pad d2) r1 (1 : Int32) (hd :: d2).length 0 ((own_pad d2).getD 0 0) f52 V48 hr1 rfl (by rw [own_pc l5 (by decide)]; exact own_get 0 (by rw [own_pl (by omega)]; decide)) (own_get 0 (by rw [own_pl (by omega)]; decide)) (fun q => own_pz l5 (by decide) (by have q' : d2.length + 1 ≤ 1 := q; omega))) (lenOf pd_12 rfl) d0_345 rfl rfl rfl (by decide) (by decide) (by decide) (by decide) ?_
        rintro v hx ⟨rfl, ex⟩
        rw [ex]
        clear ex hx
        show W l room_1 C _ h49 15 714 348 #[.val (.int s0'), .val (.int s1'), .val (.int r), .val (.ref a), .val (.int fi), .val (.int le), .val (.int ti), .val (.int pl), .val (.ref o1), .val (.ref o2), .val (.int r1), .val (.int (bs.getD t0 0).toInt32), .val (.int hd.toInt32), .val (.int kv), .val (.int r2)] [(.int (1 : Int32))]
        refine k_ifF (pc := 348) H d0_348 (XT.i0_eq_f (by decide)) ?_
        refine k_aload (pc := 351) H d0_351 rfl rfl ?_
        refine k_aload (pc := 353) H d0_353 rfl rfl ?_
        refine k_iload (pc := 355) H d0_355 rfl ?_
        refine k_iconst (2 : Int32) (pc := 357) H d0_357 rfl ?_
        refine k_invS (y := (⟨"paramwick/util/PercentEncodingDecodePinLaw", "same", "([B[BII)Z"⟩ : MethodName)) (st := []) [(.ref o1), (.ref o2), (.int r1), (.int (2 : Int32))] 0 (pc := 358) H (wd hw 58 rfl) (wd hw 59 rfl) (wd hw 3 rfl) (wd hw 60 rfl) (by decide) (fun z0 => rm12 l Z a0 hw n0 h49 z0 o1 o2 (own_pad (hd :: d2)) (own_pad d2) r1 (2 : Int32) (hd :: d2).length 1 ((own_pad d2).getD 1 0) f52 V48 hr1 rfl (by rw [own_pc l5 (by decide)]; exact own_get 0 (by rw [own_pl (by omega)]; decide)) (own_get 0 (by rw [own_pl (by omega)]; decide)) (fun q => own_pz l5 (by decide) (by have q' : d2.length + 1 ≤ 2 := q; omega))) (lenOf pd_12 rfl) d0_358 rfl rfl rfl (by decide) (by decide) (by decide) (by decide) ?_
        rintro v hx ⟨rfl, ex⟩
        rw [ex]
        clear ex hx
        show W l room_1 C _ h49 15 714 361 #[.val (.int s0'), .val (.int s1'), .val (.int r), .val (.ref a), .val (.int fi), .val (.int le), .val (.int ti), .val (.int pl), .val (.ref o1), .val (.ref o2), .val (.int r1), .val (.int (bs.getD t0 0).toInt32), .val (.int hd.toInt32), .val (.int kv), .val (.int r2)] [(.int (1 : Int32))]
        refine k_ifF (pc := 361) H d0_361 (XT.i0_eq_f (by decide)) ?_
        refine k_aload (pc := 364) H d0_364 rfl rfl ?_
        refine k_aload (pc := 366) H d0_366 rfl rfl ?_
        refine k_iload (pc := 368) H d0_368 rfl ?_
        refine k_iconst (3 : Int32) (pc := 370) H d0_370 rfl ?_
        refine k_invS (y := (⟨"paramwick/util/PercentEncodingDecodePinLaw", "same", "([B[BII)Z"⟩ : MethodName)) (st := []) [(.ref o1), (.ref o2), (.int r1), (.int (3 : Int32))] 0 (pc := 371) H (wd hw 58 rfl) (wd hw 59 rfl) (wd hw 3 rfl) (wd hw 60 rfl) (by decide) (fun z0 => rm12 l Z a0 hw n0 h49 z0 o1 o2 (own_pad (hd :: d2)) (own_pad d2) r1 (3 : Int32) (hd :: d2).length 2 ((own_pad d2).getD 2 0) f52 V48 hr1 rfl (by rw [own_pc l5 (by decide)]; exact own_get 0 (by rw [own_pl (by omega)]; decide)) (own_get 0 (by rw [own_pl (by omega)]; decide)) (fun q => own_pz l5 (by decide) (by have q' : d2.length + 1 ≤ 3 := q; omega))) (lenOf pd_12 rfl) d0_371 rfl rfl rfl (by decide) (by decide) (by decide) (by decide) ?_
        rintro v hx ⟨rfl, ex⟩
        rw [ex]
        clear ex hx
        show W l room_1 C _ h49 15 714 374 #[.val (.int s0'), .val (.int s1'), .val (.int r), .val (.ref a), .val (.int fi), .val (.int le), .val (.int ti), .val (.int pl), .val (.ref o1), .val (.ref o2), .val (.int r1), .val (.int (bs.getD t0 0).toInt32), .val (.int hd.toInt32), .val (.int kv), .val (.int r2)] [(.int (1 : Int32))]
        refine k_ifF (pc := 374) H d0_374 (XT.i0_eq_f (by decide)) ?_
        refine k_aload (pc := 377) H d0_377 rfl rfl ?_
        refine k_aload (pc := 379) H d0_379 rfl rfl ?_
        refine k_iload (pc := 381) H d0_381 rfl ?_
        refine k_iconst (4 : Int32) (pc := 383) H d0_383 rfl ?_
        refine k_invS (y := (⟨"paramwick/util/PercentEncodingDecodePinLaw", "same", "([B[BII)Z"⟩ : MethodName)) (st := []) [(.ref o1), (.ref o2), (.int r1), (.int (4 : Int32))] 0 (pc := 384) H (wd hw 58 rfl) (wd hw 59 rfl) (wd hw 3 rfl) (wd hw 60 rfl) (by decide) (fun z0 => rm12 l Z a0 hw n0 h49 z0 o1 o2 (own_pad (hd :: d2)) (own_pad d2) r1 (4 : Int32) (hd :: d2).length 3 ((own_pad d2).getD 3 0) f52 V48 hr1 rfl (by rw [own_pc l5 (by decide)]; exact own_get 0 (by rw [own_pl (by omega)]; decide)) (own_get 0 (by rw [own_pl (by omega)]; decide)) (fun q => own_pz l5 (by decide) (by have q' : d2.length + 1 ≤ 4 := q; omega))) (lenOf pd_12 rfl) d0_384 rfl rfl rfl (by decide) (by decide) (by decide) (by decide) ?_
        rintro v hx ⟨rfl, ex⟩
        rw [ex]
        clear ex hx
        show W l room_1 C _ h49 15 714 387 #[.val (.int s0'), .val (.int s1'), .val (.int r), .val (.ref a), .val (.int fi), .val (.int le), .val (.int ti), .val (.int pl), .val (.ref o1), .val (.ref o2), .val (.int r1), .val (.int (bs.getD t0 0).toInt32), .val (.int hd.toInt32), .val (.int kv), .val (.int r2)] [(.int (1 : Int32))]
        refine k_ifF (pc := 387) H d0_387 (XT.i0_eq_f (by decide)) ?_
        refine k_aload (pc := 390) H d0_390 rfl rfl ?_
        refine k_aload (pc := 392) H d0_392 rfl rfl ?_
        refine k_iload (pc := 394) H d0_394 rfl ?_
        refine k_iconst (5 : Int32) (pc := 396) H d0_396 rfl ?_
        refine k_invS (y := (⟨"paramwick/util/PercentEncodingDecodePinLaw", "same", "([B[BII)Z"⟩ : MethodName)) (st := []) [(.ref o1), (.ref o2), (.int r1), (.int (5 : Int32))] 0 (pc := 397) H (wd hw 58 rfl) (wd hw 59 rfl) (wd hw 3 rfl) (wd hw 60 rfl) (by decide) (fun z0 => rm12 l Z a0 hw n0 h49 z0 o1 o2 (own_pad (hd :: d2)) (own_pad d2) r1 (5 : Int32) (hd :: d2).length 4 ((own_pad d2).getD 4 0) f52 V48 hr1 rfl (by rw [own_pc l5 (by decide)]; exact own_get 0 (by rw [own_pl (by omega)]; decide)) (own_get 0 (by rw [own_pl (by omega)]; decide)) (fun q => own_pz l5 (by decide) (by have q' : d2.length + 1 ≤ 5 := q; omega))) (lenOf pd_12 rfl) d0_397 rfl rfl rfl (by decide) (by decide) (by decide) (by decide) ?_
        rintro v hx ⟨rfl, ex⟩
        rw [ex]
        clear ex hx
        show W l room_1 C _ h49 15 714 400 #[.val (.int s0'), .val (.int s1'), .val (.int r), .val (.ref a), .val (.int fi), .val (.int le), .val (.int ti), .val (.int pl), .val (.ref o1), .val (.ref o2), .val (.int r1), .val (.int (bs.getD t0 0).toInt32), .val (.int hd.toInt32), .val (.int kv), .val (.int r2)] [(.int (1 : Int32))]
        refine k_ifF (pc := 400) H d0_400 (XT.i0_eq_f (by decide)) ?_
        refine k_iconst (1 : Int32) (pc := 403) H d0_403 rfl ?_
        refine k_goto 408 (pc := 404) H d0_404 rfl ?_
        exact k_retN' (t := .boolean) (by simp) (pc := 408) H d0_408 (by show 15 ≤ 16; decide) (by show 714 ≤ 1152; decide) (⟨rfl, KW50.1⟩)
      have J221 : ∀ (np : ¬ ((bs.getD t0 0).toInt32 = 43 ∧ ¬ pl = 0)), W l room_1 C (n0, 16, 1152, (fun v h => v = some (.int 1) ∧ h0.size ≤ h.size), fun _ => False) h43 15 714 221 #[.val (.int s0'), .val (.int s1'), .val (.int r), .val (.ref a), .val (.int fi), .val (.int le), .val (.int ti), .val (.int pl), .val (.ref o1), .val (.ref o2), .val (.int r1), .val (.int (bs.getD t0 0).toInt32), .unset, .unset, .unset] [] := by
        intro np
        have q2 := lt_nat (add_nat (y := 2) (j := 2) h_f rfl (by omega)) ht
        refine k_iload (pc := 221) H d0_221 rfl ?_
        refine k_bipush (37 : Int32) (pc := 223) H d0_223 rfl ?_
        refine k_icmpR (P := (bs.getD t0 0).toInt32 = (37 : Int32)) 292 (pc := 225) H d0_225 rfl XT.ii_ne_t XT.ii_ne_f (fun c1 => ?_) (fun c1 => ?_)
        · refine k_iload (pc := 292) H d0_292 rfl ?_
          refine k_istore (pc := 294) H d0_294 (Ls' := #[.val (.int s0'), .val (.int s1'), .val (.int r), .val (.ref a), .val (.int fi), .val (.int le), .val (.int ti), .val (.int pl), .val (.ref o1), .val (.ref o2), .val (.int r1), .val (.int (bs.getD t0 0).toInt32), .val (.int (bs.getD t0 0).toInt32), .unset, .unset]) rfl ?_
          refine k_iconst (1 : Int32) (pc := 296) H d0_296 rfl ?_
          refine k_istore (pc := 297) H d0_297 (Ls' := #[.val (.int s0'), .val (.int s1'), .val (.int r), .val (.ref a), .val (.int fi), .val (.int le), .val (.int ti), .val (.int pl), .val (.ref o1), .val (.ref o2), .val (.int r1), .val (.int (bs.getD t0 0).toInt32), .val (.int (bs.getD t0 0).toInt32), .val (.int (1 : Int32)), .unset]) rfl ?_
          exact J299 (bs.getD t0 0) 1 1 rfl (by decide) (by decide) (own_tn np (own_e1 c1))
        · refine k_iload (pc := 228) H d0_228 rfl ?_
          refine k_iconst (2 : Int32) (pc := 230) H d0_230 rfl ?_
          refine k_iadd (pc := 231) H d0_231 ?_
          refine k_iload (pc := 232) H d0_232 rfl ?_
          refine k_icmpR (P := (fi + (2 : Int32)) < ti) 292 (pc := 234) H d0_234 rfl XT.ii_ge_t XT.ii_ge_f (fun c2 => ?_) (fun c2 => ?_)
          · refine k_iload (pc := 292) H d0_292 rfl ?_
            refine k_istore (pc := 294) H d0_294 (Ls' := #[.val (.int s0'), .val (.int s1'), .val (.int r), .val (.ref a), .val (.int fi), .val (.int le), .val (.int ti), .val (.int pl), .val (.ref o1), .val (.ref o2), .val (.int r1), .val (.int (bs.getD t0 0).toInt32), .val (.int (bs.getD t0 0).toInt32), .unset, .unset]) rfl ?_
            refine k_iconst (1 : Int32) (pc := 296) H d0_296 rfl ?_
            refine k_istore (pc := 297) H d0_297 (Ls' := #[.val (.int s0'), .val (.int s1'), .val (.int r), .val (.ref a), .val (.int fi), .val (.int le), .val (.int ti), .val (.int pl), .val (.ref o1), .val (.ref o2), .val (.int r1), .val (.int (bs.getD t0 0).toInt32), .val (.int (bs.getD t0 0).toInt32), .val (.int (1 : Int32)), .unset]) rfl ?_
            exact J299 (bs.getD t0 0) 1 1 rfl (by decide) (by decide) (own_tn np (own_e2 (fun z => c2 (q2.mpr z))))
          · have g2 := q2.mp c2
            refine k_aloadN (pc := 237) H d0_237 rfl rfl ?_
            refine k_iload (pc := 238) H d0_238 rfl ?_
            refine k_iconst (1 : Int32) (pc := 240) H d0_240 rfl ?_
            refine k_iadd (pc := 241) H d0_241 ?_
            refine k_baloadT (i := (t0 + 1)) (x := (bs.getD (t0 + 1) 0)) (pc := 242) H f45 (add_nat h_f rfl (by omega)) (own_get 0 (by omega)) d0_242 ?_
            refine k_invS (y := (⟨"paramwick/util/PercentEncodingDecodePinLaw", "hexv", "(B)I"⟩ : MethodName)) (st := []) [(.int (bs.getD (t0 + 1) 0).toInt32)] 0 (pc := 243) H (wd hw 67 rfl) (wd hw 68 rfl) (wd hw 3 rfl) (wd hw 69 rfl) (by decide) (fun z0 => rm15 l Z a0 hw n0 h43 z0 (bs.getD (t0 + 1) 0)) (lenOf pd_0 rfl) d0_243 rfl rfl rfl (by decide) (by decide) (by decide) (by decide) ?_
            rintro v hx ⟨rfl, ex⟩
            rw [ex]
            clear ex hx
            show W l room_1 C _ h43 15 714 246 #[.val (.int s0'), .val (.int s1'), .val (.int r), .val (.ref a), .val (.int fi), .val (.int le), .val (.int ti), .val (.int pl), .val (.ref o1), .val (.ref o2), .val (.int r1), .val (.int (bs.getD t0 0).toInt32), .unset, .unset, .unset] [(.int (own_hv (bs.getD (t0 + 1) 0).toInt32))]
            refine k_iff0 (P := (own_hv (bs.getD (t0 + 1) 0).toInt32) < 0) 292 (pc := 246) H d0_246 rfl XT.i0_lt_t XT.i0_lt_f (fun c3 => ?_) (fun c3 => ?_)
            · refine k_iload (pc := 292) H d0_292 rfl ?_
              refine k_istore (pc := 294) H d0_294 (Ls' := #[.val (.int s0'), .val (.int s1'), .val (.int r), .val (.ref a), .val (.int fi), .val (.int le), .val (.int ti), .val (.int pl), .val (.ref o1), .val (.ref o2), .val (.int r1), .val (.int (bs.getD t0 0).toInt32), .val (.int (bs.getD t0 0).toInt32), .unset, .unset]) rfl ?_
              refine k_iconst (1 : Int32) (pc := 296) H d0_296 rfl ?_
              refine k_istore (pc := 297) H d0_297 (Ls' := #[.val (.int s0'), .val (.int s1'), .val (.int r), .val (.ref a), .val (.int fi), .val (.int le), .val (.int ti), .val (.int pl), .val (.ref o1), .val (.ref o2), .val (.int r1), .val (.int (bs.getD t0 0).toInt32), .val (.int (bs.getD t0 0).toInt32), .val (.int (1 : Int32)), .unset]) rfl ?_
              exact J299 (bs.getD t0 0) 1 1 rfl (by decide) (by decide) (own_tn np (own_e3 c3))
            · refine k_aloadN (pc := 249) H d0_249 rfl rfl ?_
              refine k_iload (pc := 250) H d0_250 rfl ?_
              refine k_iconst (2 : Int32) (pc := 252) H d0_252 rfl ?_
              refine k_iadd (pc := 253) H d0_253 ?_
              refine k_baloadT (i := (t0 + 2)) (x := (bs.getD (t0 + 2) 0)) (pc := 254) H f45 (add_nat h_f rfl (by omega)) (own_get 0 (by omega)) d0_254 ?_
              refine k_invS (y := (⟨"paramwick/util/PercentEncodingDecodePinLaw", "hexv", "(B)I"⟩ : MethodName)) (st := []) [(.int (bs.getD (t0 + 2) 0).toInt32)] 0 (pc := 255) H (wd hw 67 rfl) (wd hw 68 rfl) (wd hw 3 rfl) (wd hw 69 rfl) (by decide) (fun z0 => rm15 l Z a0 hw n0 h43 z0 (bs.getD (t0 + 2) 0)) (lenOf pd_0 rfl) d0_255 rfl rfl rfl (by decide) (by decide) (by decide) (by decide) ?_
              rintro v hx ⟨rfl, ex⟩
              rw [ex]
              clear ex hx
              show W l room_1 C _ h43 15 714 258 #[.val (.int s0'), .val (.int s1'), .val (.int r), .val (.ref a), .val (.int fi), .val (.int le), .val (.int ti), .val (.int pl), .val (.ref o1), .val (.ref o2), .val (.int r1), .val (.int (bs.getD t0 0).toInt32), .unset, .unset, .unset] [(.int (own_hv (bs.getD (t0 + 2) 0).toInt32))]
              refine k_iff0 (P := (own_hv (bs.getD (t0 + 2) 0).toInt32) < 0) 292 (pc := 258) H d0_258 rfl XT.i0_lt_t XT.i0_lt_f (fun c4 => ?_) (fun c4 => ?_)
              · refine k_iload (pc := 292) H d0_292 rfl ?_
                refine k_istore (pc := 294) H d0_294 (Ls' := #[.val (.int s0'), .val (.int s1'), .val (.int r), .val (.ref a), .val (.int fi), .val (.int le), .val (.int ti), .val (.int pl), .val (.ref o1), .val (.ref o2), .val (.int r1), .val (.int (bs.getD t0 0).toInt32), .val (.int (bs.getD t0 0).toInt32), .unset, .unset]) rfl ?_
                refine k_iconst (1 : Int32) (pc := 296) H d0_296 rfl ?_
                refine k_istore (pc := 297) H d0_297 (Ls' := #[.val (.int s0'), .val (.int s1'), .val (.int r), .val (.ref a), .val (.int fi), .val (.int le), .val (.int ti), .val (.int pl), .val (.ref o1), .val (.ref o2), .val (.int r1), .val (.int (bs.getD t0 0).toInt32), .val (.int (bs.getD t0 0).toInt32), .val (.int (1 : Int32)), .unset]) rfl ?_
                exact J299 (bs.getD t0 0) 1 1 rfl (by decide) (by decide) (own_tn np (own_e4 c4))
              · refine k_aloadN (pc := 261) H d0_261 rfl rfl ?_
                refine k_iload (pc := 262) H d0_262 rfl ?_
                refine k_iconst (1 : Int32) (pc := 264) H d0_264 rfl ?_
                refine k_iadd (pc := 265) H d0_265 ?_
                refine k_baloadT (i := (t0 + 1)) (x := (bs.getD (t0 + 1) 0)) (pc := 266) H f45 (add_nat h_f rfl (by omega)) (own_get 0 (by omega)) d0_266 ?_
                refine k_invS (y := (⟨"paramwick/util/PercentEncodingDecodePinLaw", "hexv", "(B)I"⟩ : MethodName)) (st := []) [(.int (bs.getD (t0 + 1) 0).toInt32)] 0 (pc := 267) H (wd hw 67 rfl) (wd hw 68 rfl) (wd hw 3 rfl) (wd hw 69 rfl) (by decide) (fun z0 => rm15 l Z a0 hw n0 h43 z0 (bs.getD (t0 + 1) 0)) (lenOf pd_0 rfl) d0_267 rfl rfl rfl (by decide) (by decide) (by decide) (by decide) ?_
                rintro v hx ⟨rfl, ex⟩
                rw [ex]
                clear ex hx
                show W l room_1 C _ h43 15 714 270 #[.val (.int s0'), .val (.int s1'), .val (.int r), .val (.ref a), .val (.int fi), .val (.int le), .val (.int ti), .val (.int pl), .val (.ref o1), .val (.ref o2), .val (.int r1), .val (.int (bs.getD t0 0).toInt32), .unset, .unset, .unset] [(.int (own_hv (bs.getD (t0 + 1) 0).toInt32))]
                refine k_bipush (16 : Int32) (pc := 270) H d0_270 rfl ?_
                refine k_imul (pc := 272) H d0_272 ?_
                refine k_aloadN (pc := 273) H d0_273 rfl rfl ?_
                refine k_iload (pc := 274) H d0_274 rfl ?_
                refine k_iconst (2 : Int32) (pc := 276) H d0_276 rfl ?_
                refine k_iadd (pc := 277) H d0_277 ?_
                refine k_baloadT (i := (t0 + 2)) (x := (bs.getD (t0 + 2) 0)) (pc := 278) H f45 (add_nat h_f rfl (by omega)) (own_get 0 (by omega)) d0_278 ?_
                refine k_invS (y := (⟨"paramwick/util/PercentEncodingDecodePinLaw", "hexv", "(B)I"⟩ : MethodName)) (st := [(.int ((own_hv (bs.getD (t0 + 1) 0).toInt32) * (16 : Int32)))]) [(.int (bs.getD (t0 + 2) 0).toInt32)] 1 (pc := 279) H (wd hw 67 rfl) (wd hw 68 rfl) (wd hw 3 rfl) (wd hw 69 rfl) (by decide) (fun z0 => rm15 l Z a0 hw n0 h43 z0 (bs.getD (t0 + 2) 0)) (lenOf pd_0 rfl) d0_279 rfl rfl rfl (by decide) (by decide) (by decide) (by decide) ?_
                rintro v hx ⟨rfl, ex⟩
                rw [ex]
                clear ex hx
                show W l room_1 C _ h43 15 714 282 #[.val (.int s0'), .val (.int s1'), .val (.int r), .val (.ref a), .val (.int fi), .val (.int le), .val (.int ti), .val (.int pl), .val (.ref o1), .val (.ref o2), .val (.int r1), .val (.int (bs.getD t0 0).toInt32), .unset, .unset, .unset] [(.int (own_hv (bs.getD (t0 + 2) 0).toInt32)), (.int ((own_hv (bs.getD (t0 + 1) 0).toInt32) * (16 : Int32)))]
                refine k_iadd (pc := 282) H d0_282 ?_
                refine k_i2b (pc := 283) H d0_283 ?_
                refine k_istore (pc := 284) H d0_284 (Ls' := #[.val (.int s0'), .val (.int s1'), .val (.int r), .val (.ref a), .val (.int fi), .val (.int le), .val (.int ti), .val (.int pl), .val (.ref o1), .val (.ref o2), .val (.int r1), .val (.int (bs.getD t0 0).toInt32), .val (.int (((own_hv (bs.getD (t0 + 1) 0).toInt32) * (16 : Int32)) + (own_hv (bs.getD (t0 + 2) 0).toInt32)).toInt8.toInt32), .unset, .unset]) rfl ?_
                refine k_iconst (3 : Int32) (pc := 286) H d0_286 rfl ?_
                refine k_istore (pc := 287) H d0_287 (Ls' := #[.val (.int s0'), .val (.int s1'), .val (.int r), .val (.ref a), .val (.int fi), .val (.int le), .val (.int ti), .val (.int pl), .val (.ref o1), .val (.ref o2), .val (.int r1), .val (.int (bs.getD t0 0).toInt32), .val (.int (((own_hv (bs.getD (t0 + 1) 0).toInt32) * (16 : Int32)) + (own_hv (bs.getD (t0 + 2) 0).toInt32)).toInt8.toInt32), .val (.int (3 : Int32)), .unset]) rfl ?_
                refine k_goto 299 (pc := 289) H d0_289 rfl ?_
                exact J299 ((own_hv (bs.getD (t0 + 1) 0).toInt32 * 16 + own_hv (bs.getD (t0 + 2) 0).toInt32).toInt8) 3 3 rfl (by decide) (by decide) (by rw [own_te np (own_e5 c1 g2 c3 c4), own_hl c3 c4])
      refine k_icmpR (P := (bs.getD t0 0).toInt32 = (43 : Int32)) 221 (pc := 203) H d0_203 rfl XT.ii_ne_t XT.ii_ne_f (fun k1 => ?_) (fun k1 => ?_)
      · exact J221 (fun z => k1 z.1)
      · refine k_iload (pc := 206) H d0_206 rfl ?_
        refine k_iff0 (P := pl = 0) 221 (pc := 208) H d0_208 rfl XT.i0_eq_t XT.i0_eq_f (fun k2 => ?_) (fun k2 => ?_)
        · exact J221 (fun z => z.2 k2)
        · refine k_bipush (32 : Int32) (pc := 211) H d0_211 rfl ?_
          refine k_istore (pc := 213) H d0_213 (Ls' := #[.val (.int s0'), .val (.int s1'), .val (.int r), .val (.ref a), .val (.int fi), .val (.int le), .val (.int ti), .val (.int pl), .val (.ref o1), .val (.ref o2), .val (.int r1), .val (.int (bs.getD t0 0).toInt32), .val (.int (32 : Int32)), .unset, .unset]) rfl ?_
          refine k_iconst (1 : Int32) (pc := 215) H d0_215 rfl ?_
          refine k_istore (pc := 216) H d0_216 (Ls' := #[.val (.int s0'), .val (.int s1'), .val (.int r), .val (.ref a), .val (.int fi), .val (.int le), .val (.int ti), .val (.int pl), .val (.ref o1), .val (.ref o2), .val (.int r1), .val (.int (bs.getD t0 0).toInt32), .val (.int (32 : Int32)), .val (.int (1 : Int32)), .unset]) rfl ?_
          refine k_goto 299 (pc := 218) H d0_218 rfl ?_
          exact J299 ((32 : Int32).toInt8) 1 1 rfl (by decide) (by decide) (own_tp k1 k2)
    · rw [own_dg bs pl 6 (by have := qe.mp ce; omega)] at hr1 V42
      refine k_iload (pc := 140) H d0_140 rfl ?_
      refine k_ifF (pc := 142) H d0_142 (XT.i0_ne_f ((eq_nat (j := 0) hr1 rfl).mpr rfl)) ?_
      refine k_aload (pc := 145) H d0_145 rfl rfl ?_
      refine k_iconst (0 : Int32) (pc := 147) H d0_147 rfl ?_
      refine k_baloadT (i := 0) (x := (0 : Int8)) (pc := 148) H V42 (rfl) (rfl) d0_148 ?_
      refine k_ifF (pc := 149) H d0_149 (XT.i0_ne_f (by decide)) ?_
      refine k_aload (pc := 152) H d0_152 rfl rfl ?_
      refine k_iconst (1 : Int32) (pc := 154) H d0_154 rfl ?_
      refine k_baloadT (i := 1) (x := (0 : Int8)) (pc := 155) H V42 (rfl) (rfl) d0_155 ?_
      refine k_ifF (pc := 156) H d0_156 (XT.i0_ne_f (by decide)) ?_
      refine k_aload (pc := 159) H d0_159 rfl rfl ?_
      refine k_iconst (2 : Int32) (pc := 161) H d0_161 rfl ?_
      refine k_baloadT (i := 2) (x := (0 : Int8)) (pc := 162) H V42 (rfl) (rfl) d0_162 ?_
      refine k_ifF (pc := 163) H d0_163 (XT.i0_ne_f (by decide)) ?_
      refine k_aload (pc := 166) H d0_166 rfl rfl ?_
      refine k_iconst (3 : Int32) (pc := 168) H d0_168 rfl ?_
      refine k_baloadT (i := 3) (x := (0 : Int8)) (pc := 169) H V42 (rfl) (rfl) d0_169 ?_
      refine k_ifF (pc := 170) H d0_170 (XT.i0_ne_f (by decide)) ?_
      refine k_aload (pc := 173) H d0_173 rfl rfl ?_
      refine k_iconst (4 : Int32) (pc := 175) H d0_175 rfl ?_
      refine k_baloadT (i := 4) (x := (0 : Int8)) (pc := 176) H V42 (rfl) (rfl) d0_176 ?_
      refine k_ifF (pc := 177) H d0_177 (XT.i0_ne_f (by decide)) ?_
      refine k_aload (pc := 180) H d0_180 rfl rfl ?_
      refine k_iconst (5 : Int32) (pc := 182) H d0_182 rfl ?_
      refine k_baloadT (i := 5) (x := (0 : Int8)) (pc := 183) H V42 (rfl) (rfl) d0_183 ?_
      refine k_ifF (pc := 184) H d0_184 (XT.i0_ne_f (by decide)) ?_
      refine k_iconst (1 : Int32) (pc := 187) H d0_187 rfl ?_
      refine k_goto 192 (pc := 188) H d0_188 rfl ?_
      exact k_retN' (t := .boolean) (by simp) (pc := 192) H d0_192 (by show 15 ≤ 16; decide) (by show 714 ≤ 1152; decide) (⟨rfl, KW44.1⟩)
  refine k_iff0 (P := ((XT.ushr r (6 : Int32)) &&& (1 : Int32)) = 0) 104 (pc := 97) H d0_97 rfl XT.i0_eq_t XT.i0_eq_f (fun cp => ?_) (fun cp => ?_)
  · refine k_iconst (0 : Int32) (pc := 104) H d0_104 rfl ?_
    exact J105 _
  · refine k_iconst (1 : Int32) (pc := 100) H d0_100 rfl ?_
    refine k_goto 105 (pc := 101) H d0_101 rfl ?_
    exact J105 _
set_option maxRecDepth 65536 in
set_option maxHeartbeats 40000000 in
theorem rm0 (l : Launch) (Z : State) (a0 : Array Value) (hw : ∀ d ∈ tables_1, d.before a0 Z = true) (ws : List Jvm.Cond) (n0 : Nat) (h0 : Heap) (Z0 : n0 ≤ h0.size) (z : Int32) (fm : Value) (O1 : Sta Z Z.heap "java/lang/String" "COMPACT_STRINGS" "Z" (.int z)) (hz : ¬ z = 0) (O2 : Sta Z Z.heap "jdk/internal/util/Preconditions" "SIOOBE_FORMATTER" "Ljava/util/function/BiFunction;" fm) (rf : fm.isRef = true) (EX : Ext Z.heap h0) (hn0 : Z.heap.size ≤ n0) (s0' s1' r : Int32) :
    MetFree l x (head1 (Jvm.Cond.code x code maxLocals ret :: ws) room_1) (fun as_ U => as_ = #[.int s0', .int s1', .int r] ∧ Z.Warmed39 U.vm ∧ U.heap = h0 ∧ CHv Z own_EL U.vm h0) (fun _ _ _ _ _ => True) (fun _ U o U' => ∃ v L, o = .returned v ∧ ((fun v h => v = some (.int 1)) v U'.heap ∧ Fr n0 L) ∧ ReturnedEndW U o U' L 16 1152) := by
  refine metW_of (Q := fun v h => v = some (.int 1)) #[.val (.int s0'), .val (.int s1'), .val (.int r), .unset, .unset, .unset, .unset, .unset, .unset, .unset, .unset, .unset, .unset, .unset, .unset] (plainFor_of_name pn_1) Z0 (fun m => by first | (simp [entryFrame, mkF, argsToLocals, Value.category, maxLocals]; done) | rfl) ?_
  intro s0 bl C hbl H I
  refine k_bipush (6 : Int32) (pc := 0) H d0_0 rfl ?_
  refine k_new_byte (6) 6 (pc := 2) H (wd hw 0 rfl) d0_2 (by decide) (by decide) (by decide) (by decide) (by decide) ?_
  intro h54 a ea55 ge56 E57 XA53 V58
  have I := I.push E57 (Nat.le_of_eq ea55.symm) V58.lt
  have EX := Jvm.OwnKit.Ext.trans EX E57
  have ga : Z.heap.size ≤ a := Nat.le_trans hn0 ge56
  refine k_astoreN (pc := 4) H d0_4 rfl (Ls' := #[.val (.int s0'), .val (.int s1'), .val (.int r), .val (.ref a), .unset, .unset, .unset, .unset, .unset, .unset, .unset, .unset, .unset, .unset, .unset]) rfl ?_
  refine k_aloadN (pc := 5) H d0_5 rfl rfl ?_
  refine k_iconst (0 : Int32) (pc := 6) H d0_6 rfl ?_
  refine k_iloadN (pc := 7) H d0_7 rfl ?_
  refine k_invW (y := (⟨"paramwick/util/PercentEncodingDecodePinLaw", "pick", "(I)B"⟩ : MethodName)) (st := [(.int (0 : Int32)), (.ref a)]) [(.int s0')] 2 (pc := 8) H I (own_ew hw) (fun _ _ q => q) (wd hw 1 rfl) (wd hw 2 rfl) (wd hw 3 rfl) (wd hw 4 rfl) (by decide) (fun z0 => rmpk l Z a0 hw n0 h54 z0 z fm _ (Jvm.RoadKit.Sta.ext EX O1) hz (Jvm.RoadKit.Sta.ext EX O2) rf) (lenOf pd_13 rfl) d0_8 rfl rfl rfl (by decide) (by decide) (by decide) (by decide) ?_
  rintro C v h59 H I hB ⟨b0, rfl, E60⟩
  have hbl := hB.trans hbl
  have EX := Jvm.OwnKit.Ext.trans EX E60
  show W l room_1 C _ h59 3 122 11 #[.val (.int s0'), .val (.int s1'), .val (.int r), .val (.ref a), .unset, .unset, .unset, .unset, .unset, .unset, .unset, .unset, .unset, .unset, .unset] [(.int b0.toInt32), (.int (0 : Int32)), (.ref a)]
  have f61 : BA Z h59 a (List.replicate (6) 0) := V58.ext E60
  refine k_bastoreT (i := 0) (pc := 11) H f61 (by decide) (by simp) ge56 d0_11 ?_
  intro h62 K63 V64
  have I := I.keep K63 (fun q hq => hq)
  have EX := Jvm.OwnKit.Ext.keep EX K63 (fun q hq => by rw [List.mem_singleton.mp hq]; exact ga)
  refine k_aloadN (pc := 12) H d0_12 rfl rfl ?_
  refine k_iconst (1 : Int32) (pc := 13) H d0_13 rfl ?_
  refine k_iloadN (pc := 14) H d0_14 rfl ?_
  refine k_bipush (10 : Int32) (pc := 15) H d0_15 rfl ?_
  refine k_iushr (pc := 17) H d0_17 ?_
  refine k_invW (y := (⟨"paramwick/util/PercentEncodingDecodePinLaw", "pick", "(I)B"⟩ : MethodName)) (st := [(.int (1 : Int32)), (.ref a)]) [(.int (XT.ushr s0' (10 : Int32)))] 2 (pc := 18) H I (own_ew hw) (fun _ _ q => q) (wd hw 1 rfl) (wd hw 2 rfl) (wd hw 3 rfl) (wd hw 4 rfl) (by decide) (fun z0 => rmpk l Z a0 hw n0 h62 z0 z fm _ (Jvm.RoadKit.Sta.ext EX O1) hz (Jvm.RoadKit.Sta.ext EX O2) rf) (lenOf pd_13 rfl) d0_18 rfl rfl rfl (by decide) (by decide) (by decide) (by decide) ?_
  rintro C v h65 H I hB ⟨b1, rfl, E66⟩
  have hbl := hB.trans hbl
  have EX := Jvm.OwnKit.Ext.trans EX E66
  show W l room_1 C _ h65 5 238 21 #[.val (.int s0'), .val (.int s1'), .val (.int r), .val (.ref a), .unset, .unset, .unset, .unset, .unset, .unset, .unset, .unset, .unset, .unset, .unset] [(.int b1.toInt32), (.int (1 : Int32)), (.ref a)]
  have f67 : BA Z h65 a ((List.replicate (6) 0).set 0 b0.toInt32.toInt8) := V64.ext E66
  refine k_bastoreT (i := 1) (pc := 21) H f67 (by decide) (by simp) ge56 d0_21 ?_
  intro h68 K69 V70
  have I := I.keep K69 (fun q hq => hq)
  have EX := Jvm.OwnKit.Ext.keep EX K69 (fun q hq => by rw [List.mem_singleton.mp hq]; exact ga)
  refine k_aloadN (pc := 22) H d0_22 rfl rfl ?_
  refine k_iconst (2 : Int32) (pc := 23) H d0_23 rfl ?_
  refine k_iloadN (pc := 24) H d0_24 rfl ?_
  refine k_bipush (20 : Int32) (pc := 25) H d0_25 rfl ?_
  refine k_iushr (pc := 27) H d0_27 ?_
  refine k_invW (y := (⟨"paramwick/util/PercentEncodingDecodePinLaw", "pick", "(I)B"⟩ : MethodName)) (st := [(.int (2 : Int32)), (.ref a)]) [(.int (XT.ushr s0' (20 : Int32)))] 2 (pc := 28) H I (own_ew hw) (fun _ _ q => q) (wd hw 1 rfl) (wd hw 2 rfl) (wd hw 3 rfl) (wd hw 4 rfl) (by decide) (fun z0 => rmpk l Z a0 hw n0 h68 z0 z fm _ (Jvm.RoadKit.Sta.ext EX O1) hz (Jvm.RoadKit.Sta.ext EX O2) rf) (lenOf pd_13 rfl) d0_28 rfl rfl rfl (by decide) (by decide) (by decide) (by decide) ?_
  rintro C v h71 H I hB ⟨b2, rfl, E72⟩
  have hbl := hB.trans hbl
  have EX := Jvm.OwnKit.Ext.trans EX E72
  show W l room_1 C _ h71 7 354 31 #[.val (.int s0'), .val (.int s1'), .val (.int r), .val (.ref a), .unset, .unset, .unset, .unset, .unset, .unset, .unset, .unset, .unset, .unset, .unset] [(.int b2.toInt32), (.int (2 : Int32)), (.ref a)]
  have f73 : BA Z h71 a (((List.replicate (6) 0).set 0 b0.toInt32.toInt8).set 1 b1.toInt32.toInt8) := V70.ext E72
  refine k_bastoreT (i := 2) (pc := 31) H f73 (by decide) (by simp) ge56 d0_31 ?_
  intro h74 K75 V76
  have I := I.keep K75 (fun q hq => hq)
  have EX := Jvm.OwnKit.Ext.keep EX K75 (fun q hq => by rw [List.mem_singleton.mp hq]; exact ga)
  refine k_aloadN (pc := 32) H d0_32 rfl rfl ?_
  refine k_iconst (3 : Int32) (pc := 33) H d0_33 rfl ?_
  refine k_iloadN (pc := 34) H d0_34 rfl ?_
  refine k_invW (y := (⟨"paramwick/util/PercentEncodingDecodePinLaw", "pick", "(I)B"⟩ : MethodName)) (st := [(.int (3 : Int32)), (.ref a)]) [(.int s1')] 2 (pc := 35) H I (own_ew hw) (fun _ _ q => q) (wd hw 1 rfl) (wd hw 2 rfl) (wd hw 3 rfl) (wd hw 4 rfl) (by decide) (fun z0 => rmpk l Z a0 hw n0 h74 z0 z fm _ (Jvm.RoadKit.Sta.ext EX O1) hz (Jvm.RoadKit.Sta.ext EX O2) rf) (lenOf pd_13 rfl) d0_35 rfl rfl rfl (by decide) (by decide) (by decide) (by decide) ?_
  rintro C v h77 H I hB ⟨b3, rfl, E78⟩
  have hbl := hB.trans hbl
  have EX := Jvm.OwnKit.Ext.trans EX E78
  show W l room_1 C _ h77 9 470 38 #[.val (.int s0'), .val (.int s1'), .val (.int r), .val (.ref a), .unset, .unset, .unset, .unset, .unset, .unset, .unset, .unset, .unset, .unset, .unset] [(.int b3.toInt32), (.int (3 : Int32)), (.ref a)]
  have f79 : BA Z h77 a ((((List.replicate (6) 0).set 0 b0.toInt32.toInt8).set 1 b1.toInt32.toInt8).set 2 b2.toInt32.toInt8) := V76.ext E78
  refine k_bastoreT (i := 3) (pc := 38) H f79 (by decide) (by simp) ge56 d0_38 ?_
  intro h80 K81 V82
  have I := I.keep K81 (fun q hq => hq)
  have EX := Jvm.OwnKit.Ext.keep EX K81 (fun q hq => by rw [List.mem_singleton.mp hq]; exact ga)
  refine k_aloadN (pc := 39) H d0_39 rfl rfl ?_
  refine k_iconst (4 : Int32) (pc := 40) H d0_40 rfl ?_
  refine k_iloadN (pc := 41) H d0_41 rfl ?_
  refine k_bipush (10 : Int32) (pc := 42) H d0_42 rfl ?_
  refine k_iushr (pc := 44) H d0_44 ?_
  refine k_invW (y := (⟨"paramwick/util/PercentEncodingDecodePinLaw", "pick", "(I)B"⟩ : MethodName)) (st := [(.int (4 : Int32)), (.ref a)]) [(.int (XT.ushr s1' (10 : Int32)))] 2 (pc := 45) H I (own_ew hw) (fun _ _ q => q) (wd hw 1 rfl) (wd hw 2 rfl) (wd hw 3 rfl) (wd hw 4 rfl) (by decide) (fun z0 => rmpk l Z a0 hw n0 h80 z0 z fm _ (Jvm.RoadKit.Sta.ext EX O1) hz (Jvm.RoadKit.Sta.ext EX O2) rf) (lenOf pd_13 rfl) d0_45 rfl rfl rfl (by decide) (by decide) (by decide) (by decide) ?_
  rintro C v h83 H I hB ⟨b4, rfl, E84⟩
  have hbl := hB.trans hbl
  have EX := Jvm.OwnKit.Ext.trans EX E84
  show W l room_1 C _ h83 11 586 48 #[.val (.int s0'), .val (.int s1'), .val (.int r), .val (.ref a), .unset, .unset, .unset, .unset, .unset, .unset, .unset, .unset, .unset, .unset, .unset] [(.int b4.toInt32), (.int (4 : Int32)), (.ref a)]
  have f85 : BA Z h83 a (((((List.replicate (6) 0).set 0 b0.toInt32.toInt8).set 1 b1.toInt32.toInt8).set 2 b2.toInt32.toInt8).set 3 b3.toInt32.toInt8) := V82.ext E84
  refine k_bastoreT (i := 4) (pc := 48) H f85 (by decide) (by simp) ge56 d0_48 ?_
  intro h86 K87 V88
  have I := I.keep K87 (fun q hq => hq)
  have EX := Jvm.OwnKit.Ext.keep EX K87 (fun q hq => by rw [List.mem_singleton.mp hq]; exact ga)
  refine k_aloadN (pc := 49) H d0_49 rfl rfl ?_
  refine k_iconst (5 : Int32) (pc := 50) H d0_50 rfl ?_
  refine k_iloadN (pc := 51) H d0_51 rfl ?_
  refine k_bipush (20 : Int32) (pc := 52) H d0_52 rfl ?_
  refine k_iushr (pc := 54) H d0_54 ?_
  refine k_invW (y := (⟨"paramwick/util/PercentEncodingDecodePinLaw", "pick", "(I)B"⟩ : MethodName)) (st := [(.int (5 : Int32)), (.ref a)]) [(.int (XT.ushr s1' (20 : Int32)))] 2 (pc := 55) H I (own_ew hw) (fun _ _ q => q) (wd hw 1 rfl) (wd hw 2 rfl) (wd hw 3 rfl) (wd hw 4 rfl) (by decide) (fun z0 => rmpk l Z a0 hw n0 h86 z0 z fm _ (Jvm.RoadKit.Sta.ext EX O1) hz (Jvm.RoadKit.Sta.ext EX O2) rf) (lenOf pd_13 rfl) d0_55 rfl rfl rfl (by decide) (by decide) (by decide) (by decide) ?_
  rintro C v h89 H I hB ⟨b5, rfl, E90⟩
  have hbl := hB.trans hbl
  have EX := Jvm.OwnKit.Ext.trans EX E90
  show W l room_1 C _ h89 13 702 58 #[.val (.int s0'), .val (.int s1'), .val (.int r), .val (.ref a), .unset, .unset, .unset, .unset, .unset, .unset, .unset, .unset, .unset, .unset, .unset] [(.int b5.toInt32), (.int (5 : Int32)), (.ref a)]
  have f91 : BA Z h89 a ((((((List.replicate (6) 0).set 0 b0.toInt32.toInt8).set 1 b1.toInt32.toInt8).set 2 b2.toInt32.toInt8).set 3 b3.toInt32.toInt8).set 4 b4.toInt32.toInt8) := V88.ext E90
  refine k_bastoreT (i := 5) (pc := 58) H f91 (by decide) (by simp) ge56 d0_58 ?_
  intro h92 K93 V94
  have I := I.keep K93 (fun q hq => hq)
  have EX := Jvm.OwnKit.Ext.keep EX K93 (fun q hq => by rw [List.mem_singleton.mp hq]; exact ga)
  have VA : BA Z h92 a [b0, b1, b2, b3, b4, b5] := by simpa [List.replicate] using V94
  refine W.tailL I hbl ?_
  exact own_tail l Z a0 hw n0 h92 (Nat.le_trans ge56 (Nat.le_of_lt VA.lt)) C H s0' s1' r a [b0, b1, b2, b3, b4, b5] rfl VA
set_option maxRecDepth 65536 in
set_option maxHeartbeats 40000000 in
theorem comes_1 {Post : Tables → Env → Array Value → State → Outcome → State → Prop} (hpost : ∀ tb e args s v u, (limb_1_1.after args s (.returned v) u = true ∧ limb_1_2.after args s (.returned v) u = true ∧ True) → FramedW s (.returned v) u (Jvm.fieldLocs frame_1_writes args s ++ Jvm.arrayLocs frame_1_arrays args s ++ Jvm.staticLocs frame_1_statics s) 16 1152 → Post tb e args s (.returned v) u) :
    ArmFor flags0 classFile x code maxLocals ret World_1 tables_1 room_1 Calls_1 rest_1 Pre_1 Post := by
  intro l hfl _ _ p e ha hc hk s m args below hf hA hF happ hP
  obtain ⟨hcalls, hrest, hpre⟩ := hP
  obtain ⟨-, -, -, hnamed, -, -, -, hat⟩ := (Spec.applies_iff hf).mp happ
  obtain ⟨hg, hn⟩ := and_e (Cond.before_iff.mp (show (Jvm.Cond.and given_1 narrow_1).before args s = true from hpre))
  obtain ⟨hcnt, g0⟩ := and_e hg
  obtain ⟨q0, g1⟩ := and_e g0
  obtain ⟨q1, g2⟩ := and_e g1
  obtain ⟨w0, w1, w2, rfl⟩ : ∃ w0 w1 w2 : Value, args = #[w0, w1, w2] := by
    have hs : args.size = 3 := by simpa [Cond.value, given_1] using hcnt
    obtain ⟨L⟩ := args
    match L, hs with
    | [w0, w1, w2], _ => exact ⟨w0, w1, w2, rfl⟩
  have hw := fun d (hd : d ∈ tables_1) => atoms_spec (ws := Jvm.Cond.code x code maxLocals ret :: tables_1) hat d (List.mem_cons_of_mem _ hd)
  obtain ⟨hsets, hown0⟩ := atoms_of _ (rest_1_c_eq ▸ (show rest_1_c.before _ s = true from hrest))
  obtain ⟨i0, e0⟩ := is_v q0
  obtain rfl : w0 = (.int i0) := Option.some.inj e0
  obtain ⟨i1, e1⟩ := is_v q1
  obtain rfl : w1 = (.int i1) := Option.some.inj e1
  obtain ⟨i2, e2⟩ := is_v g2
  obtain rfl : w2 = (.int i2) := Option.some.inj e2
  have n3 := not_v (Cond.before_iff.mp (hsets _ (List.mem_of_getElem? (i := 2) rfl)))
  obtain ⟨i7, e6⟩ := is_v (Cond.before_iff.mp (hsets _ (List.mem_of_getElem? (i := 1) rfl)))
  have S8 : Sta s s.heap "java/lang/String" "COMPACT_STRINGS" "Z" (.int i7) := Sta.start e6 (Or.inl (hsets _ (List.mem_of_getElem? (i := 0) rfl)))
  obtain ⟨v9, e10, r11⟩ := isR_v (Cond.before_iff.mp (hsets _ (List.mem_of_getElem? (i := 8) rfl)))
  have S12 : Sta s s.heap "jdk/internal/util/Preconditions" "SIOOBE_FORMATTER" "Ljava/util/function/BiFunction;" v9 := Sta.start e10 (Or.inl (hsets _ (List.mem_of_getElem? (i := 7) rfl)))
  have c13 : ¬ (i7 = (0 : Int32)) := gotF (Cond.eq_ints e6 (Term.int_eval (0))) n3
  have hCH : CHv s own_EL s.vm s.heap := CHv.start (own_ew hw) (fun q hq => hcalls.1 q hq) (hsets _ (List.mem_of_getElem? (i := 2) rfl)) (wd hw 0 rfl) (wd hw 15 rfl)
  obtain ⟨n, o, h1, h2, h3, _, L, rfl, ⟨rfl, N⟩, hq⟩ := rm0 l s _ hw tables_1 s.heap.size s.heap (Nat.le_refl _) i7 v9 S8 c13 S12 r11 ⟨Nat.le_refl _, fun _ _ q => q⟩ (Nat.le_refl _) i0 i1 i2 p e ha hc hk s m _ below hf ((Spec.applies_iff_loose hf).mp happ).1 ⟨rfl, State.Warmed39.refl s, rfl, hCH⟩ trivial
  refine ⟨n, _, h1, h2, h3, hpost _ _ _ _ _ _ ⟨Cond.after_iff.mpr rfl, Cond.after_iff.mpr (eq_i res_at (Term.int_eval (1)) rfl), trivial⟩ ⟨hq.1, hq.2.1, hq.2.2.1, (hq.2.2.2.sift fun y hy => Or.inr (N y hy)).mono (by decide) (by decide)⟩⟩
theorem main_1_1 : Claimed_1_1 := comes_1 fun _ _ _ _ _ _ h hF => ⟨h.1, hF⟩
theorem main_1_2 : Claimed_1_2 := comes_1 fun _ _ _ _ _ _ h hF => ⟨h.2.1, hF⟩
end Jvm.Pilot.@@N@@
namespace Jvm.Pilot.@@N@@
open Jvm Jvm.ClassFile Sem Op Lib Jvm.Free Jvm.Stand Jvm.Pilot.@@N@@.Jvm.D
/-! MADE BY PROGRAM (witnessworld.py) out of the Statement's table words and the real class files: 18 classes; the members and pool entries that the words name. The judged class is class 1, her method 4. -/
namespace start1
open Jvm.ClassFile
def u (s : String) : CpInfo := .utf8 (stringToUtf16 s)
/-- a pool by its gaps: so many unusable entries, then the entry; so many at the end -/
def gap : Nat → List CpInfo → List CpInfo
  | 0, r => r
  | n + 1, r => .unusable :: gap n r
def poolList (es : List (Nat × CpInfo)) (last : Nat) : List CpInfo := es.foldr (fun e r => gap e.1 (e.2 :: r)) (gap last [])
def pool (es : List (Nat × CpInfo)) (last : Nat) : Array CpInfo := ⟨poolList es last⟩
def fileOf (pool : Array CpInfo) (this : Nat) (attrs : Array Attribute := #[]) (ms : Array MethodInfo := #[]) (fl : Nat := 33) (sup : Nat := 0) (ifs : Array Nat := #[]) (fds : Array FieldInfo := #[]) : ClassFile where
  minorVersion := 0
  majorVersion := 65
  constantPool := pool
  accessFlags := fl
  thisClass := this
  superClass := sup
  interfaces := ifs
  fields := fds
  methods := ms
  attributes := attrs
def plain (name : String) (sup : Option ClassId) : Class where
  name := name
  kind := .ordinary
  loader := none
  accessFlags := 33
  super := sup
  interfaces := #[]
  cf := none
  fields := #[]
  methods := #[]
  instanceTypes := #[]
  staticTypes := #[]
  resolved := #[]
  callSites := []
  init := .initialized
  statics := none
  mirror := none

def pool0 : Array CpInfo := pool [(5, u "<init>"), (0, u "()V"), (1, .class_ 10), (1, u "java/lang/Object")] 113

def k0m0 : Method := { name := "<init>", desc := "()V", sig := { parameters := [], returnType := none }, accessFlags := 1, code := none }
/-- java/lang/Object -/
def k0 : Class := { plain "java/lang/Object" none with
  accessFlags := 33
  interfaces := #[]
  cf := some (fileOf pool0 8 #[] #[{ accessFlags := 1, nameIndex := 5, descriptorIndex := 6, attributes := #[] }] 33 0 #[] #[])
  fields := #[]
  methods := #[k0m0]
  instanceTypes := #[]
  staticTypes := #[]
  resolved := Array.replicate 124 none
  statics := none }

def pool1 : Array CpInfo := pool [(2, .class_ 4), (1, u "java/lang/Object"), (0, u "<init>"), (0, u "()V"), (0, .string 8), (0, u "0123456789abcdefABCDEF/:@G`g"), (0, .methodref 10 11), (0, .class_ 12), (0, .nameAndType 13 14), (0, u "java/lang/String"), (0, u "length"), (0, u "()I"), (0, .methodref 10 16), (0, .nameAndType 17 18), (0, u "charAt"), (0, u "(I)C"), (0, .methodref 20 21), (0, .class_ 22), (0, .nameAndType 23 24), (0, u "paramwick/util/PercentEncodingDecodePinLaw"), (0, u "pick"), (0, u "(I)B"), (0, .methodref 26 27), (0, .class_ 28), (0, .nameAndType 29 30), (0, u "java/lang/Math"), (0, u "min"), (0, u "(II)I"), (0, .methodref 32 33), (0, .class_ 34), (0, .nameAndType 35 36), (0, u "paramwick/util/PercentEncoding"), (0, u "decode"), (0, u "([BIIZ[B)I"), (0, .methodref 20 38), (0, .nameAndType 39 40), (0, u "hexv"), (0, u "(B)I"), (0, .methodref 20 42), (0, .nameAndType 43 44), (0, u "same"), (0, u "([B[BII)Z"), (3, u "law"), (0, u "(III)Z")] 4

def k1m0 : Method := { name := "<init>", desc := "()V", sig := { parameters := [], returnType := none }, accessFlags := 2, code := none }
def k1c1 : Code := { maxStack := 3, maxLocals := 3, code := method_2_code, exceptionTable := #[], attributes := #[] }
def k1m1 : Method := { name := "pick", desc := "(I)B", sig := { parameters := [.int], returnType := some .byte }, accessFlags := 10, code := some k1c1 }
def k1c2 : Code := { maxStack := 2, maxLocals := 2, code := method_3_code, exceptionTable := #[], attributes := #[] }
def k1m2 : Method := { name := "hexv", desc := "(B)I", sig := { parameters := [.byte], returnType := some .int }, accessFlags := 10, code := some k1c2 }
def k1c3 : Code := { maxStack := 4, maxLocals := 4, code := method_4_code, exceptionTable := #[], attributes := #[] }
def k1m3 : Method := { name := "same", desc := "([B[BII)Z", sig := { parameters := [(.array .byte), (.array .byte), .int, .int], returnType := some .boolean }, accessFlags := 10, code := some k1c3 }
def k1c4 : Code := { maxStack := 5, maxLocals := 15, code := code, exceptionTable := #[], attributes := #[] }
def k1m4 : Method := { name := "law", desc := "(III)Z", sig := { parameters := [.int, .int, .int], returnType := some .boolean }, accessFlags := 9, code := some k1c4 }
/-- paramwick/util/PercentEncodingDecodePinLaw -/
def k1 : Class := { plain "paramwick/util/PercentEncodingDecodePinLaw" (some 0) with
  accessFlags := 49
  interfaces := #[]
  cf := some (fileOf pool1 20 #[] #[{ accessFlags := 2, nameIndex := 5, descriptorIndex := 6, attributes := #[] }, { accessFlags := 10, nameIndex := 23, descriptorIndex := 24, attributes := #[] }, { accessFlags := 10, nameIndex := 39, descriptorIndex := 40, attributes := #[] }, { accessFlags := 10, nameIndex := 43, descriptorIndex := 44, attributes := #[] }, { accessFlags := 9, nameIndex := 48, descriptorIndex := 49, attributes := #[] }] 49 2 #[] #[])
  fields := #[]
  methods := #[k1m0, k1m1, k1m2, k1m3, k1m4]
  instanceTypes := #[]
  staticTypes := #[]
  resolved := Array.replicate 54 none
  statics := none }

def pool2 : Array CpInfo := pool [(1, .class_ 2), (0, u "java/lang/Math"), (1, .class_ 6), (1, u "java/lang/Object"), (0, u "<init>"), (0, u "()V"), (89, .class_ 100), (1, u "java/lang/Math$RandomNumberGeneratorHolder"), (71, u "negativeZeroFloatBits"), (0, u "J"), (2, u "negativeZeroDoubleBits"), (24, u "min"), (43, u "$assertionsDisabled"), (0, u "Z"), (88, u "(II)I"), (2, u "twoToTheDoubleScaleDown"), (0, u "D"), (4, u "twoToTheDoubleScaleUp"), (9, u "E"), (3, u "PI"), (2, u "TAU"), (2, u "DEGREES_TO_RADIANS"), (0, u "RADIANS_TO_DEGREES")] 94

def k2m0 : Method := { name := "<init>", desc := "()V", sig := { parameters := [], returnType := none }, accessFlags := 2, code := none }
def k2c1 : Code := { maxStack := 2, maxLocals := 2, code := jdk_29_method_69_code, exceptionTable := #[], attributes := #[] }
def k2m1 : Method := { name := "min", desc := "(II)I", sig := { parameters := [.int, .int], returnType := some .int }, accessFlags := 9, code := some k2c1 }
/-- java/lang/Math -/
def k2 : Class := { plain "java/lang/Math" (some 0) with
  accessFlags := 49
  interfaces := #[]
  cf := some (fileOf pool2 1 #[.nestMembers #[98]] #[{ accessFlags := 2, nameIndex := 7, descriptorIndex := 8, attributes := #[] }, { accessFlags := 9, nameIndex := 201, descriptorIndex := 335, attributes := #[] }] 49 4 #[] #[{ accessFlags := 25, nameIndex := 354, descriptorIndex := 339, attributes := #[] }, { accessFlags := 25, nameIndex := 358, descriptorIndex := 339, attributes := #[] }, { accessFlags := 25, nameIndex := 361, descriptorIndex := 339, attributes := #[] }, { accessFlags := 26, nameIndex := 364, descriptorIndex := 339, attributes := #[] }, { accessFlags := 26, nameIndex := 365, descriptorIndex := 339, attributes := #[] }, { accessFlags := 26, nameIndex := 172, descriptorIndex := 173, attributes := #[] }, { accessFlags := 26, nameIndex := 176, descriptorIndex := 173, attributes := #[] }, { accessFlags := 8, nameIndex := 344, descriptorIndex := 339, attributes := #[] }, { accessFlags := 8, nameIndex := 338, descriptorIndex := 339, attributes := #[] }, { accessFlags := 4120, nameIndex := 245, descriptorIndex := 246, attributes := #[] }])
  fields := #[{ name := "E", type := .double, accessFlags := 25, slot := 0, constantValue := 0 }, { name := "PI", type := .double, accessFlags := 25, slot := 1, constantValue := 0 }, { name := "TAU", type := .double, accessFlags := 25, slot := 2, constantValue := 0 }, { name := "DEGREES_TO_RADIANS", type := .double, accessFlags := 26, slot := 3, constantValue := 0 }, { name := "RADIANS_TO_DEGREES", type := .double, accessFlags := 26, slot := 4, constantValue := 0 }, { name := "negativeZeroFloatBits", type := .long, accessFlags := 26, slot := 5, constantValue := 0 }, { name := "negativeZeroDoubleBits", type := .long, accessFlags := 26, slot := 6, constantValue := 0 }, { name := "twoToTheDoubleScaleUp", type := .double, accessFlags := 8, slot := 7, constantValue := 0 }, { name := "twoToTheDoubleScaleDown", type := .double, accessFlags := 8, slot := 8, constantValue := 0 }, { name := "$assertionsDisabled", type := .boolean, accessFlags := 4120, slot := 9, constantValue := 0 }]
  methods := #[k2m0, k2m1]
  instanceTypes := #[]
  staticTypes := #[.double, .double, .double, .double, .double, .long, .long, .double, .double, .boolean]
  resolved := Array.replicate 460 none
  statics := none }

def pool3 : Array CpInfo := pool [(2, .class_ 4), (1, u "java/lang/Object"), (0, u "<init>"), (0, u "()V"), (0, .methodref 8 9), (0, .class_ 10), (0, .nameAndType 11 12), (0, u "paramwick/util/PercentEncoding"), (0, u "isHex"), (0, u "(B)Z"), (0, .methodref 8 14), (0, .nameAndType 15 16), (0, u "isEscape"), (0, u "([BII)Z"), (0, .methodref 8 18), (0, .nameAndType 19 20), (0, u "hexValue"), (0, u "(B)I"), (3, u "decode"), (0, u "([BIIZ[B)I")] 2

def k3m0 : Method := { name := "<init>", desc := "()V", sig := { parameters := [], returnType := none }, accessFlags := 2, code := none }
def k3c1 : Code := { maxStack := 3, maxLocals := 3, code := prog_78_method_2_code, exceptionTable := #[], attributes := #[] }
def k3m1 : Method := { name := "isEscape", desc := "([BII)Z", sig := { parameters := [(.array .byte), .int, .int], returnType := some .boolean }, accessFlags := 9, code := some k3c1 }
def k3c2 : Code := { maxStack := 6, maxLocals := 8, code := prog_78_method_3_code, exceptionTable := #[], attributes := #[] }
def k3m2 : Method := { name := "decode", desc := "([BIIZ[B)I", sig := { parameters := [(.array .byte), .int, .int, .boolean, (.array .byte)], returnType := some .int }, accessFlags := 9, code := some k3c2 }
def k3c3 : Code := { maxStack := 1, maxLocals := 1, code := prog_78_method_4_code, exceptionTable := #[], attributes := #[] }
def k3m3 : Method := { name := "isHex", desc := "(B)Z", sig := { parameters := [.byte], returnType := some .boolean }, accessFlags := 10, code := some k3c3 }
def k3c4 : Code := { maxStack := 2, maxLocals := 1, code := prog_78_method_5_code, exceptionTable := #[], attributes := #[] }
def k3m4 : Method := { name := "hexValue", desc := "(B)I", sig := { parameters := [.byte], returnType := some .int }, accessFlags := 10, code := some k3c4 }
/-- paramwick/util/PercentEncoding -/
def k3 : Class := { plain "paramwick/util/PercentEncoding" (some 0) with
  accessFlags := 49
  interfaces := #[]
  cf := some (fileOf pool3 8 #[] #[{ accessFlags := 2, nameIndex := 5, descriptorIndex := 6, attributes := #[] }, { accessFlags := 9, nameIndex := 15, descriptorIndex := 16, attributes := #[] }, { accessFlags := 9, nameIndex := 24, descriptorIndex := 25, attributes := #[] }, { accessFlags := 10, nameIndex := 11, descriptorIndex := 12, attributes := #[] }, { accessFlags := 10, nameIndex := 19, descriptorIndex := 20, attributes := #[] }] 49 2 #[] #[])
  fields := #[]
  methods := #[k3m0, k3m1, k3m2, k3m3, k3m4]
  instanceTypes := #[]
  staticTypes := #[]
  resolved := Array.replicate 28 none
  statics := none }

def pool4 : Array CpInfo := pool [(1, .class_ 2), (0, u "java/io/Serializable"), (0, .class_ 4), (0, u "java/lang/Object")] 2

/-- java/io/Serializable -/
def k4 : Class := { plain "java/io/Serializable" (some 0) with
  accessFlags := 1537
  interfaces := #[]
  cf := some (fileOf pool4 1 #[] #[] 1537 3 #[] #[])
  fields := #[]
  methods := #[]
  instanceTypes := #[]
  staticTypes := #[]
  resolved := Array.replicate 7 none
  statics := none }

def pool5 : Array CpInfo := pool [(1, .class_ 2), (0, u "java/lang/Comparable"), (0, .class_ 4), (0, u "java/lang/Object")] 7

/-- java/lang/Comparable -/
def k5 : Class := { plain "java/lang/Comparable" (some 0) with
  accessFlags := 1537
  interfaces := #[]
  cf := some (fileOf pool5 1 #[] #[] 1537 3 #[] #[])
  fields := #[]
  methods := #[]
  instanceTypes := #[]
  staticTypes := #[]
  resolved := Array.replicate 12 none
  statics := none }

def pool6 : Array CpInfo := pool [(2, .class_ 4), (1, u "java/lang/CharSequence"), (42, .class_ 48), (0, u "java/lang/CharSequence$1CodePointIterator"), (10, .class_ 60), (0, u "java/lang/CharSequence$1CharIterator"), (5, .class_ 67), (0, u "java/lang/Object")] 63

/-- java/lang/CharSequence -/
def k6 : Class := { plain "java/lang/CharSequence" (some 0) with
  accessFlags := 1537
  interfaces := #[]
  cf := some (fileOf pool6 2 #[.nestMembers #[47, 59]] #[] 1537 66 #[] #[])
  fields := #[]
  methods := #[]
  instanceTypes := #[]
  staticTypes := #[]
  resolved := Array.replicate 131 none
  statics := none }

def pool7 : Array CpInfo := pool [(1, .class_ 2), (0, u "java/lang/constant/Constable"), (0, .class_ 4), (0, u "java/lang/Object")] 6

/-- java/lang/constant/Constable -/
def k7 : Class := { plain "java/lang/constant/Constable" (some 0) with
  accessFlags := 1537
  interfaces := #[]
  cf := some (fileOf pool7 1 #[] #[] 1537 3 #[] #[])
  fields := #[]
  methods := #[]
  instanceTypes := #[]
  staticTypes := #[]
  resolved := Array.replicate 11 none
  statics := none }

def pool8 : Array CpInfo := pool [(1, .class_ 2), (0, u "java/lang/constant/ConstantDesc"), (0, .class_ 4), (0, u "java/lang/Object")] 32

/-- java/lang/constant/ConstantDesc -/
def k8 : Class := { plain "java/lang/constant/ConstantDesc" (some 0) with
  accessFlags := 1537
  interfaces := #[]
  cf := some (fileOf pool8 1 #[] #[] 1537 3 #[] #[])
  fields := #[]
  methods := #[]
  instanceTypes := #[]
  staticTypes := #[]
  resolved := Array.replicate 37 none
  statics := none }

def pool9 : Array CpInfo := pool [(2, .class_ 4), (1, u "java/lang/Object"), (0, u "<init>"), (0, u "()V"), (2, .fieldref 10 11), (0, .class_ 12), (0, .nameAndType 13 14), (0, u "java/lang/String"), (0, u "value"), (0, u "[B"), (0, .fieldref 10 16), (0, .nameAndType 17 18), (0, u "coder"), (0, u "B"), (2, u "hash"), (0, u "I"), (2, u "hashIsZero"), (0, u "Z"), (11, .fieldref 10 39), (0, .nameAndType 40 26), (0, u "COMPACT_STRINGS"), (66, .class_ 109), (1, u "java/lang/StringLatin1"), (32, u "()Z"), (191, u "()I"), (0, .methodref 10 336), (0, .nameAndType 17 337), (0, u "()B"), (25, u "([BI)C"), (27, u "(II)V"), (35, u "(I)C"), (64, .methodref 10 493), (0, .nameAndType 494 142), (0, u "isLatin1"), (0, .methodref 107 496), (0, .nameAndType 497 363), (0, u "charAt"), (3, u "checkIndex"), (5, u "length"), (67, .class_ 576), (0, u "java/lang/CharSequence"), (22, u "CASE_INSENSITIVE_ORDER"), (0, u "Ljava/util/Comparator;"), (452, .fieldref 1054 1055), (0, .class_ 1056), (0, .nameAndType 1057 1058), (0, u "jdk/internal/util/Preconditions"), (0, u "SIOOBE_FORMATTER"), (0, u "Ljava/util/function/BiFunction;"), (0, .methodref 1054 1060), (0, .nameAndType 501 1061), (0, u "(IILjava/util/function/BiFunction;)I"), (39, u "serialPersistentFields"), (0, u "[Ljava/io/ObjectStreamField;"), (0, .class_ 1104), (0, u "java/lang/String$CaseInsensitiveComparator"), (1, .class_ 1107), (0, u "java/io/Serializable"), (0, .class_ 1109), (0, u "java/lang/Comparable"), (0, .class_ 1111), (0, u "java/lang/constant/Constable"), (0, .class_ 1113), (0, u "java/lang/constant/ConstantDesc"), (2, u "serialVersionUID"), (0, u "J"), (3, u "REPL"), (0, u "C"), (2, u "LATIN1"), (1, u "UTF16")] 323

def k9m0 : Method := { name := "<init>", desc := "()V", sig := { parameters := [], returnType := none }, accessFlags := 1, code := none }
def k9c1 : Code := { maxStack := 2, maxLocals := 1, code := jdk_42_method_54_code, exceptionTable := #[], attributes := #[] }
def k9m1 : Method := { name := "length", desc := "()I", sig := { parameters := [], returnType := some .int }, accessFlags := 1, code := some k9c1 }
def k9c2 : Code := { maxStack := 2, maxLocals := 2, code := jdk_42_method_56_code, exceptionTable := #[], attributes := #[] }
def k9m2 : Method := { name := "charAt", desc := "(I)C", sig := { parameters := [.int], returnType := some .char }, accessFlags := 1, code := some k9c2 }
def k9c3 : Code := { maxStack := 1, maxLocals := 1, code := jdk_42_method_152_code, exceptionTable := #[], attributes := #[] }
def k9m3 : Method := { name := "coder", desc := "()B", sig := { parameters := [], returnType := some .byte }, accessFlags := 0, code := some k9c3 }
def k9c4 : Code := { maxStack := 1, maxLocals := 1, code := jdk_42_method_154_code, exceptionTable := #[], attributes := #[] }
def k9m4 : Method := { name := "isLatin1", desc := "()Z", sig := { parameters := [], returnType := some .boolean }, accessFlags := 0, code := some k9c4 }
def k9c5 : Code := { maxStack := 3, maxLocals := 2, code := jdk_42_method_155_code, exceptionTable := #[], attributes := #[] }
def k9m5 : Method := { name := "checkIndex", desc := "(II)V", sig := { parameters := [.int, .int], returnType := none }, accessFlags := 8, code := some k9c5 }
/-- java/lang/String -/
def k9 : Class := { plain "java/lang/String" (some 0) with
  accessFlags := 49
  interfaces := #[4, 5, 6, 7, 8]
  cf := some (fileOf pool9 10 #[.nestMembers #[1103]] #[{ accessFlags := 1, nameIndex := 5, descriptorIndex := 6, attributes := #[] }, { accessFlags := 1, nameIndex := 507, descriptorIndex := 334, attributes := #[] }, { accessFlags := 1, nameIndex := 497, descriptorIndex := 427, attributes := #[] }, { accessFlags := 0, nameIndex := 17, descriptorIndex := 337, attributes := #[] }, { accessFlags := 0, nameIndex := 494, descriptorIndex := 142, attributes := #[] }, { accessFlags := 8, nameIndex := 501, descriptorIndex := 391, attributes := #[] }] 49 2 #[1106, 1108, 575, 1110, 1112] #[{ accessFlags := 18, nameIndex := 13, descriptorIndex := 14, attributes := #[] }, { accessFlags := 18, nameIndex := 17, descriptorIndex := 18, attributes := #[] }, { accessFlags := 2, nameIndex := 21, descriptorIndex := 22, attributes := #[] }, { accessFlags := 2, nameIndex := 25, descriptorIndex := 26, attributes := #[] }, { accessFlags := 26, nameIndex := 1116, descriptorIndex := 1117, attributes := #[] }, { accessFlags := 24, nameIndex := 40, descriptorIndex := 26, attributes := #[] }, { accessFlags := 26, nameIndex := 1101, descriptorIndex := 1102, attributes := #[] }, { accessFlags := 26, nameIndex := 1121, descriptorIndex := 1122, attributes := #[] }, { accessFlags := 25, nameIndex := 599, descriptorIndex := 600, attributes := #[] }, { accessFlags := 24, nameIndex := 1125, descriptorIndex := 18, attributes := #[] }, { accessFlags := 24, nameIndex := 1127, descriptorIndex := 18, attributes := #[] }])
  fields := #[{ name := "value", type := (.array .byte), accessFlags := 18, slot := 0, constantValue := 0 }, { name := "coder", type := .byte, accessFlags := 18, slot := 1, constantValue := 0 }, { name := "hash", type := .int, accessFlags := 2, slot := 2, constantValue := 0 }, { name := "hashIsZero", type := .boolean, accessFlags := 2, slot := 3, constantValue := 0 }, { name := "serialVersionUID", type := .long, accessFlags := 26, slot := 0, constantValue := 0 }, { name := "COMPACT_STRINGS", type := .boolean, accessFlags := 24, slot := 1, constantValue := 0 }, { name := "serialPersistentFields", type := (.array (.object "java/io/ObjectStreamField")), accessFlags := 26, slot := 2, constantValue := 0 }, { name := "REPL", type := .char, accessFlags := 26, slot := 3, constantValue := 0 }, { name := "CASE_INSENSITIVE_ORDER", type := (.object "java/util/Comparator"), accessFlags := 25, slot := 4, constantValue := 0 }, { name := "LATIN1", type := .byte, accessFlags := 24, slot := 5, constantValue := 0 }, { name := "UTF16", type := .byte, accessFlags := 24, slot := 6, constantValue := 0 }]
  methods := #[k9m0, k9m1, k9m2, k9m3, k9m4, k9m5]
  instanceTypes := #[(.array .byte), .byte, .int, .boolean]
  staticTypes := #[.long, .boolean, (.array (.object "java/io/ObjectStreamField")), .char, (.object "java/util/Comparator"), .byte, .byte]
  resolved := Array.replicate 1451 none
  statics := some 0 }

def pool10 : Array CpInfo := pool [(1, .class_ 2), (0, u "java/lang/String"), (1, .class_ 6), (1, u "java/lang/Object"), (0, u "<init>"), (0, u "()V"), (0, .methodref 1 10), (0, .nameAndType 11 12), (0, u "checkIndex"), (0, u "(II)V"), (1, .class_ 16), (1, u "java/lang/StringLatin1"), (36, u "([BI)C"), (67, u "$assertionsDisabled"), (0, u "Z"), (98, .class_ 223), (1, u "java/lang/StringLatin1$LinesSpliterator"), (28, u "charAt"), (137, .class_ 391), (0, u "java/lang/StringLatin1$CharsSpliterator")] 3

def k10m0 : Method := { name := "<init>", desc := "()V", sig := { parameters := [], returnType := none }, accessFlags := 0, code := none }
def k10c1 : Code := { maxStack := 2, maxLocals := 2, code := jdk_43_method_2_code, exceptionTable := #[], attributes := #[] }
def k10m1 : Method := { name := "charAt", desc := "([BI)C", sig := { parameters := [(.array .byte), .int], returnType := some .char }, accessFlags := 9, code := some k10c1 }
/-- java/lang/StringLatin1 -/
def k10 : Class := { plain "java/lang/StringLatin1" (some 0) with
  accessFlags := 48
  interfaces := #[]
  cf := some (fileOf pool10 14 #[.nestMembers #[390, 221]] #[{ accessFlags := 0, nameIndex := 7, descriptorIndex := 8, attributes := #[] }, { accessFlags := 9, nameIndex := 252, descriptorIndex := 53, attributes := #[] }] 48 4 #[] #[{ accessFlags := 4120, nameIndex := 121, descriptorIndex := 122, attributes := #[] }])
  fields := #[{ name := "$assertionsDisabled", type := .boolean, accessFlags := 4120, slot := 0, constantValue := 0 }]
  methods := #[k10m0, k10m1]
  instanceTypes := #[]
  staticTypes := #[.boolean]
  resolved := Array.replicate 395 none
  statics := none }

def pool11 : Array CpInfo := pool [(2, .class_ 4), (1, u "java/lang/Object"), (0, u "<init>"), (0, u "()V"), (17, .class_ 26), (1, u "jdk/internal/util/Preconditions"), (6, u "checkIndex"), (21, .class_ 56), (0, u "jdk/internal/util/Preconditions$4"), (57, .class_ 115), (0, u "jdk/internal/util/Preconditions$1"), (7, u "SIOOBE_FORMATTER"), (0, u "Ljava/util/function/BiFunction;"), (0, .class_ 126), (0, u "jdk/internal/util/Preconditions$2"), (3, u "AIOOBE_FORMATTER"), (0, .class_ 132), (0, u "jdk/internal/util/Preconditions$3"), (3, u "IOOBE_FORMATTER"), (41, u "(IILjava/util/function/BiFunction;)I")] 15

def k11m0 : Method := { name := "<init>", desc := "()V", sig := { parameters := [], returnType := none }, accessFlags := 1, code := none }
def k11c1 : Code := { maxStack := 3, maxLocals := 3, code := jdk_41_method_11_code, exceptionTable := #[], attributes := #[] }
def k11m1 : Method := { name := "checkIndex", desc := "(IILjava/util/function/BiFunction;)I", sig := { parameters := [.int, .int, (.object "java/util/function/BiFunction")], returnType := some .int }, accessFlags := 9, code := some k11c1 }
/-- jdk/internal/util/Preconditions -/
def k11 : Class := { plain "jdk/internal/util/Preconditions" (some 0) with
  accessFlags := 33
  interfaces := #[]
  cf := some (fileOf pool11 24 #[.nestMembers #[55, 131, 125, 114]] #[{ accessFlags := 1, nameIndex := 5, descriptorIndex := 6, attributes := #[] }, { accessFlags := 9, nameIndex := 33, descriptorIndex := 178, attributes := #[] }] 33 2 #[] #[{ accessFlags := 25, nameIndex := 123, descriptorIndex := 124, attributes := #[] }, { accessFlags := 25, nameIndex := 130, descriptorIndex := 124, attributes := #[] }, { accessFlags := 25, nameIndex := 136, descriptorIndex := 124, attributes := #[] }])
  fields := #[{ name := "SIOOBE_FORMATTER", type := (.object "java/util/function/BiFunction"), accessFlags := 25, slot := 0, constantValue := 0 }, { name := "AIOOBE_FORMATTER", type := (.object "java/util/function/BiFunction"), accessFlags := 25, slot := 1, constantValue := 0 }, { name := "IOOBE_FORMATTER", type := (.object "java/util/function/BiFunction"), accessFlags := 25, slot := 2, constantValue := 0 }]
  methods := #[k11m0, k11m1]
  instanceTypes := #[]
  staticTypes := #[(.object "java/util/function/BiFunction"), (.object "java/util/function/BiFunction"), (.object "java/util/function/BiFunction")]
  resolved := Array.replicate 194 none
  statics := some 1 }

def pool12 : Array CpInfo := pool [(9, u "<init>"), (6, .class_ 18), (1, u "java/lang/Object"), (0, u "()V"), (1, .class_ 23), (1, u "jdk/internal/util/ArraysSupport"), (0, u "LOG2_ARRAY_LONG_INDEX_SCALE"), (0, u "I"), (2, u "U"), (0, u "Ljdk/internal/misc/Unsafe;"), (8, u "BIG_ENDIAN"), (0, u "Z"), (8, u "LOG2_BYTE_BIT_SIZE"), (4, u "LOG2_ARRAY_INT_INDEX_SCALE"), (54, u "JLA"), (0, u "Ljdk/internal/access/JavaLangAccess;"), (11, u "LOG2_ARRAY_BOOLEAN_INDEX_SCALE"), (9, u "LOG2_ARRAY_BYTE_INDEX_SCALE"), (5, u "LOG2_ARRAY_CHAR_INDEX_SCALE"), (5, u "LOG2_ARRAY_SHORT_INDEX_SCALE"), (18, u "LOG2_ARRAY_FLOAT_INDEX_SCALE"), (24, u "LOG2_ARRAY_DOUBLE_INDEX_SCALE"), (89, u "T_BOOLEAN"), (2, u "T_CHAR"), (1, u "T_FLOAT"), (1, u "T_DOUBLE"), (1, u "T_BYTE"), (1, u "T_SHORT"), (1, u "T_INT"), (1, u "T_LONG"), (1, u "SOFT_MAX_ARRAY_LENGTH")] 83

def k12m0 : Method := { name := "<init>", desc := "()V", sig := { parameters := [], returnType := none }, accessFlags := 2, code := none }
/-- jdk/internal/util/ArraysSupport -/
def k12 : Class := { plain "jdk/internal/util/ArraysSupport" (some 0) with
  accessFlags := 33
  interfaces := #[]
  cf := some (fileOf pool12 21 #[] #[{ accessFlags := 2, nameIndex := 9, descriptorIndex := 19, attributes := #[] }] 33 16 #[] #[{ accessFlags := 24, nameIndex := 28, descriptorIndex := 29, attributes := #[] }, { accessFlags := 26, nameIndex := 38, descriptorIndex := 39, attributes := #[] }, { accessFlags := 25, nameIndex := 121, descriptorIndex := 25, attributes := #[] }, { accessFlags := 25, nameIndex := 131, descriptorIndex := 25, attributes := #[] }, { accessFlags := 25, nameIndex := 137, descriptorIndex := 25, attributes := #[] }, { accessFlags := 25, nameIndex := 143, descriptorIndex := 25, attributes := #[] }, { accessFlags := 25, nameIndex := 53, descriptorIndex := 25, attributes := #[] }, { accessFlags := 25, nameIndex := 24, descriptorIndex := 25, attributes := #[] }, { accessFlags := 25, nameIndex := 162, descriptorIndex := 25, attributes := #[] }, { accessFlags := 25, nameIndex := 187, descriptorIndex := 25, attributes := #[] }, { accessFlags := 26, nameIndex := 48, descriptorIndex := 25, attributes := #[] }, { accessFlags := 25, nameIndex := 277, descriptorIndex := 25, attributes := #[] }, { accessFlags := 25, nameIndex := 280, descriptorIndex := 25, attributes := #[] }, { accessFlags := 25, nameIndex := 282, descriptorIndex := 25, attributes := #[] }, { accessFlags := 25, nameIndex := 284, descriptorIndex := 25, attributes := #[] }, { accessFlags := 25, nameIndex := 286, descriptorIndex := 25, attributes := #[] }, { accessFlags := 25, nameIndex := 288, descriptorIndex := 25, attributes := #[] }, { accessFlags := 25, nameIndex := 290, descriptorIndex := 25, attributes := #[] }, { accessFlags := 25, nameIndex := 292, descriptorIndex := 25, attributes := #[] }, { accessFlags := 26, nameIndex := 108, descriptorIndex := 109, attributes := #[] }, { accessFlags := 25, nameIndex := 294, descriptorIndex := 25, attributes := #[] }])
  fields := #[{ name := "U", type := (.object "jdk/internal/misc/Unsafe"), accessFlags := 24, slot := 0, constantValue := 0 }, { name := "BIG_ENDIAN", type := .boolean, accessFlags := 26, slot := 1, constantValue := 0 }, { name := "LOG2_ARRAY_BOOLEAN_INDEX_SCALE", type := .int, accessFlags := 25, slot := 2, constantValue := 0 }, { name := "LOG2_ARRAY_BYTE_INDEX_SCALE", type := .int, accessFlags := 25, slot := 3, constantValue := 0 }, { name := "LOG2_ARRAY_CHAR_INDEX_SCALE", type := .int, accessFlags := 25, slot := 4, constantValue := 0 }, { name := "LOG2_ARRAY_SHORT_INDEX_SCALE", type := .int, accessFlags := 25, slot := 5, constantValue := 0 }, { name := "LOG2_ARRAY_INT_INDEX_SCALE", type := .int, accessFlags := 25, slot := 6, constantValue := 0 }, { name := "LOG2_ARRAY_LONG_INDEX_SCALE", type := .int, accessFlags := 25, slot := 7, constantValue := 0 }, { name := "LOG2_ARRAY_FLOAT_INDEX_SCALE", type := .int, accessFlags := 25, slot := 8, constantValue := 0 }, { name := "LOG2_ARRAY_DOUBLE_INDEX_SCALE", type := .int, accessFlags := 25, slot := 9, constantValue := 0 }, { name := "LOG2_BYTE_BIT_SIZE", type := .int, accessFlags := 26, slot := 10, constantValue := 0 }, { name := "T_BOOLEAN", type := .int, accessFlags := 25, slot := 11, constantValue := 0 }, { name := "T_CHAR", type := .int, accessFlags := 25, slot := 12, constantValue := 0 }, { name := "T_FLOAT", type := .int, accessFlags := 25, slot := 13, constantValue := 0 }, { name := "T_DOUBLE", type := .int, accessFlags := 25, slot := 14, constantValue := 0 }, { name := "T_BYTE", type := .int, accessFlags := 25, slot := 15, constantValue := 0 }, { name := "T_SHORT", type := .int, accessFlags := 25, slot := 16, constantValue := 0 }, { name := "T_INT", type := .int, accessFlags := 25, slot := 17, constantValue := 0 }, { name := "T_LONG", type := .int, accessFlags := 25, slot := 18, constantValue := 0 }, { name := "JLA", type := (.object "jdk/internal/access/JavaLangAccess"), accessFlags := 26, slot := 19, constantValue := 0 }, { name := "SOFT_MAX_ARRAY_LENGTH", type := .int, accessFlags := 25, slot := 20, constantValue := 0 }]
  methods := #[k12m0]
  instanceTypes := #[]
  staticTypes := #[(.object "jdk/internal/misc/Unsafe"), .boolean, .int, .int, .int, .int, .int, .int, .int, .int, .int, .int, .int, .int, .int, .int, .int, .int, .int, (.object "jdk/internal/access/JavaLangAccess"), .int]
  resolved := Array.replicate 378 none
  statics := none }

def pool13 : Array CpInfo := pool [(1, u "java/lang/Cloneable"), (0, .class_ 1), (0, u "java/lang/Object"), (0, .class_ 3)] 3

/-- java/lang/Cloneable -/
def k13 : Class := { plain "java/lang/Cloneable" (some 0) with
  accessFlags := 1537
  interfaces := #[]
  cf := some (fileOf pool13 2 #[] #[] 1537 4 #[] #[])
  fields := #[]
  methods := #[]
  instanceTypes := #[]
  staticTypes := #[]
  resolved := Array.replicate 8 none
  statics := none }

/-- the primitive byte -/
def k14 : Class := { plain "byte" none with kind := .primitive 'B', accessFlags := 0x411 }
/-- [B -/
def k15 : Class := { plain "[B" (some 0) with kind := .array 14 .byte, interfaces := #[13, 4], accessFlags := 1041 }

/-- the primitive int -/
def k16 : Class := { plain "int" none with kind := .primitive 'I', accessFlags := 0x411 }
/-- [I -/
def k17 : Class := { plain "[I" (some 0) with kind := .array 16 .int, interfaces := #[13, 4], accessFlags := 1041 }

def heap : Heap := #[{ cls := 9, slots := #[.long 0, .int 1, .null, .int 0, .null, .int 0, .int 0], vm := .statics 9 },
  { cls := 11, slots := #[.null, .null, .null], vm := .statics 11 }]
def classes : Array Class := #[k0, k1, k2, k3, k4, k5, k6, k7, k8, k9, k10, k11, k12, k13, k14, k15, k16, k17]
def interned : List (Array UInt16 × Addr) := []
def slotsUsed : Nat := 10
def theMethod : MethodId := ⟨1, 4⟩
def args0 : Array Value := #[.int 1, .int 2, .int 3]
def aboutOver (below : List Frame) : State where
  vm := { classes := classes, interned := interned.toArray }
  heap := heap
  slotsUsed := slotsUsed
  threads := #[{ frames := .invoking theMethod args0 :: below }]
def below0 : List Frame := [.native { method := ⟨0, 0⟩, args := #[] }]
def about1 : State := aboutOver below0
def p0 : Program := .bare "" "" ""
def e0 : Env := launch0.env 0 0 0
theorem w_frames : about1.frames = Frame.invoking theMethod args0 :: below0 := rfl
set_option maxRecDepth 65536 in
theorem w_args : argsFit about1.vm theMethod args0 = true := by decide +kernel
set_option maxRecDepth 65536 in
theorem w_heap : heapFits about1 = true := by decide +kernel
set_option maxRecDepth 65536 in
theorem w_runnable : about1.curStatus? = some .runnable := by decide +kernel
set_option maxRecDepth 65536 in
theorem w_alone : about1.alone = true := by decide +kernel
set_option maxRecDepth 65536 in
theorem w_named : about1.methodNamed? x = some theMethod := by decide +kernel
set_option maxRecDepth 65536 in
theorem w_hears : about1.hears theMethod below0 = true := by decide +kernel
set_option maxRecDepth 65536 in
theorem w_ripe : about1.ripe theMethod args0 below0 = true := by decide +kernel
theorem w_running : about1.status = .running := rfl
set_option maxRecDepth 65536 in
theorem w_room : about1.hasRoom e0.platform room_1 = true :=
  launch0.hasRoom_least _ room_1 (by decide +kernel) (by decide +kernel) (by decide +kernel) (by decide +kernel) (by decide +kernel) (by decide +kernel)
theorem allAtoms_all (ts : List Jvm.Cond) (a : Array Jvm.Value) (st : Jvm.State) : (allAtoms ts).before a st = ts.all (fun c => c.before a st) := by
  induction ts with
  | nil => rfl
  | cons c t ih =>
    show (Jvm.Cond.and c (allAtoms t)).before a st = _
    rw [Jvm.Cond.before_and, ih, List.all_cons]
def words1 : List Jvm.Cond := Jvm.Cond.code x code maxLocals ret :: tables_1
/-- a 'code' word, met by the world's own term for the bytes: nothing is compared byte by byte -/
theorem code_word {y : MethodName} {bytes : ByteArray} {mx : Nat} {rt : Option FieldType} {a : Array Value} {s : State} {m : MethodId} {meth : Method} {c : Code} (h1 : s.methodNamed? y = some m) (h2 : s.vm.method? m = some meth) (h3 : meth.code = some c) (h4 : c.code = bytes)
    (h5 : (c.maxLocals == mx && c.exceptionTable.isEmpty && decide (c.maxStack ≤ mostOperands) && decide (meth.sig.returnType = rt) && !meth.locks && decide (parseMethodDescriptor y.desc = some meth.sig)) = true) : (Jvm.Cond.code y bytes mx rt).before a s = true := by
  simp only [Bool.and_eq_true, beq_iff_eq, Bool.not_eq_true', decide_eq_true_eq] at h5
  obtain ⟨⟨⟨⟨⟨g1, g2⟩, g3⟩, g4⟩, g5⟩, g6⟩ := h5
  simp [Cond.before, Cond.holds, Cond.value, h1, h2, h3, h4, g1, g2, g3, g4, g5, g6]
def isCode : Jvm.Cond → Bool
  | .code _ _ _ _ => true
  | _ => false
theorem all_split {L : List Jvm.Cond} {P : Jvm.Cond → Bool} (h1 : L.all (fun c => isCode c || P c) = true) (h2 : ∀ c ∈ L.filter isCode, P c = true) : L.all P = true := by
  refine List.all_eq_true.mpr fun c hc => ?_
  have h := List.all_eq_true.mp h1 c hc
  rcases Bool.eq_false_or_eq_true (isCode c) with hi | hi
  · exact h2 c (List.mem_filter.mpr ⟨hc, hi⟩)
  · simpa [hi] using h
set_option maxRecDepth 65536 in
theorem w_c0 : (Jvm.Cond.code x code maxLocals ret).before args0 about1 = true := code_word (m := ⟨1, 4⟩) (meth := k1m4) (c := k1c4) (by decide +kernel) rfl rfl rfl (by decide +kernel)
set_option maxRecDepth 65536 in
theorem w_c1 : (Jvm.Cond.code ({ cls := "paramwick/util/PercentEncodingDecodePinLaw", name := "pick", desc := "(I)B" } : Jvm.MethodName) method_2_code (3 : Nat) (Option.some Jvm.ClassFile.FieldType.byte)).before args0 about1 = true := code_word (m := ⟨1, 1⟩) (meth := k1m1) (c := k1c1) (by decide +kernel) rfl rfl rfl (by decide +kernel)
set_option maxRecDepth 65536 in
theorem w_c2 : (Jvm.Cond.code ({ cls := "java/lang/Math", name := "min", desc := "(II)I" } : Jvm.MethodName) jdk_29_method_69_code (2 : Nat) (Option.some Jvm.ClassFile.FieldType.int)).before args0 about1 = true := code_word (m := ⟨2, 1⟩) (meth := k2m1) (c := k2c1) (by decide +kernel) rfl rfl rfl (by decide +kernel)
set_option maxRecDepth 65536 in
theorem w_c3 : (Jvm.Cond.code ({ cls := "paramwick/util/PercentEncoding", name := "decode", desc := "([BIIZ[B)I" } : Jvm.MethodName) prog_78_method_3_code (8 : Nat) (Option.some Jvm.ClassFile.FieldType.int)).before args0 about1 = true := code_word (m := ⟨3, 2⟩) (meth := k3m2) (c := k3c2) (by decide +kernel) rfl rfl rfl (by decide +kernel)
set_option maxRecDepth 65536 in
theorem w_c4 : (Jvm.Cond.code ({ cls := "java/lang/String", name := "length", desc := "()I" } : Jvm.MethodName) jdk_42_method_54_code (1 : Nat) (Option.some Jvm.ClassFile.FieldType.int)).before args0 about1 = true := code_word (m := ⟨9, 1⟩) (meth := k9m1) (c := k9c1) (by decide +kernel) rfl rfl rfl (by decide +kernel)
set_option maxRecDepth 65536 in
theorem w_c5 : (Jvm.Cond.code ({ cls := "java/lang/String", name := "coder", desc := "()B" } : Jvm.MethodName) jdk_42_method_152_code (1 : Nat) (Option.some Jvm.ClassFile.FieldType.byte)).before args0 about1 = true := code_word (m := ⟨9, 3⟩) (meth := k9m3) (c := k9c3) (by decide +kernel) rfl rfl rfl (by decide +kernel)
set_option maxRecDepth 65536 in
theorem w_c6 : (Jvm.Cond.code ({ cls := "java/lang/String", name := "charAt", desc := "(I)C" } : Jvm.MethodName) jdk_42_method_56_code (2 : Nat) (Option.some Jvm.ClassFile.FieldType.char)).before args0 about1 = true := code_word (m := ⟨9, 2⟩) (meth := k9m2) (c := k9c2) (by decide +kernel) rfl rfl rfl (by decide +kernel)
set_option maxRecDepth 65536 in
theorem w_c7 : (Jvm.Cond.code ({ cls := "java/lang/String", name := "isLatin1", desc := "()Z" } : Jvm.MethodName) jdk_42_method_154_code (1 : Nat) (Option.some Jvm.ClassFile.FieldType.boolean)).before args0 about1 = true := code_word (m := ⟨9, 4⟩) (meth := k9m4) (c := k9c4) (by decide +kernel) rfl rfl rfl (by decide +kernel)
set_option maxRecDepth 65536 in
theorem w_c8 : (Jvm.Cond.code ({ cls := "java/lang/StringLatin1", name := "charAt", desc := "([BI)C" } : Jvm.MethodName) jdk_43_method_2_code (2 : Nat) (Option.some Jvm.ClassFile.FieldType.char)).before args0 about1 = true := code_word (m := ⟨10, 1⟩) (meth := k10m1) (c := k10c1) (by decide +kernel) rfl rfl rfl (by decide +kernel)
set_option maxRecDepth 65536 in
theorem w_c9 : (Jvm.Cond.code ({ cls := "java/lang/String", name := "checkIndex", desc := "(II)V" } : Jvm.MethodName) jdk_42_method_155_code (2 : Nat) (Option.none : Option Jvm.ClassFile.FieldType)).before args0 about1 = true := code_word (m := ⟨9, 5⟩) (meth := k9m5) (c := k9c5) (by decide +kernel) rfl rfl rfl (by decide +kernel)
set_option maxRecDepth 65536 in
theorem w_c10 : (Jvm.Cond.code ({ cls := "jdk/internal/util/Preconditions", name := "checkIndex", desc := "(IILjava/util/function/BiFunction;)I" } : Jvm.MethodName) jdk_41_method_11_code (3 : Nat) (Option.some Jvm.ClassFile.FieldType.int)).before args0 about1 = true := code_word (m := ⟨11, 1⟩) (meth := k11m1) (c := k11c1) (by decide +kernel) rfl rfl rfl (by decide +kernel)
set_option maxRecDepth 65536 in
theorem w_c11 : (Jvm.Cond.code ({ cls := "paramwick/util/PercentEncoding", name := "isEscape", desc := "([BII)Z" } : Jvm.MethodName) prog_78_method_2_code (3 : Nat) (Option.some Jvm.ClassFile.FieldType.boolean)).before args0 about1 = true := code_word (m := ⟨3, 1⟩) (meth := k3m1) (c := k3c1) (by decide +kernel) rfl rfl rfl (by decide +kernel)
set_option maxRecDepth 65536 in
theorem w_c12 : (Jvm.Cond.code ({ cls := "paramwick/util/PercentEncodingDecodePinLaw", name := "same", desc := "([B[BII)Z" } : Jvm.MethodName) method_4_code (4 : Nat) (Option.some Jvm.ClassFile.FieldType.boolean)).before args0 about1 = true := code_word (m := ⟨1, 3⟩) (meth := k1m3) (c := k1c3) (by decide +kernel) rfl rfl rfl (by decide +kernel)
set_option maxRecDepth 65536 in
theorem w_c13 : (Jvm.Cond.code ({ cls := "paramwick/util/PercentEncoding", name := "isHex", desc := "(B)Z" } : Jvm.MethodName) prog_78_method_4_code (1 : Nat) (Option.some Jvm.ClassFile.FieldType.boolean)).before args0 about1 = true := code_word (m := ⟨3, 3⟩) (meth := k3m3) (c := k3c3) (by decide +kernel) rfl rfl rfl (by decide +kernel)
set_option maxRecDepth 65536 in
theorem w_c14 : (Jvm.Cond.code ({ cls := "paramwick/util/PercentEncoding", name := "hexValue", desc := "(B)I" } : Jvm.MethodName) prog_78_method_5_code (1 : Nat) (Option.some Jvm.ClassFile.FieldType.int)).before args0 about1 = true := code_word (m := ⟨3, 4⟩) (meth := k3m4) (c := k3c4) (by decide +kernel) rfl rfl rfl (by decide +kernel)
set_option maxRecDepth 65536 in
theorem w_c15 : (Jvm.Cond.code ({ cls := "paramwick/util/PercentEncodingDecodePinLaw", name := "hexv", desc := "(B)I" } : Jvm.MethodName) method_3_code (2 : Nat) (Option.some Jvm.ClassFile.FieldType.int)).before args0 about1 = true := code_word (m := ⟨1, 2⟩) (meth := k1m2) (c := k1c2) (by decide +kernel) rfl rfl rfl (by decide +kernel)
def codes1 : List Jvm.Cond := [Jvm.Cond.code x code maxLocals ret, Jvm.Cond.code ({ cls := "paramwick/util/PercentEncodingDecodePinLaw", name := "pick", desc := "(I)B" } : Jvm.MethodName) method_2_code (3 : Nat) (Option.some Jvm.ClassFile.FieldType.byte), Jvm.Cond.code ({ cls := "java/lang/Math", name := "min", desc := "(II)I" } : Jvm.MethodName) jdk_29_method_69_code (2 : Nat) (Option.some Jvm.ClassFile.FieldType.int), Jvm.Cond.code ({ cls := "paramwick/util/PercentEncoding", name := "decode", desc := "([BIIZ[B)I" } : Jvm.MethodName) prog_78_method_3_code (8 : Nat) (Option.some Jvm.ClassFile.FieldType.int), Jvm.Cond.code ({ cls := "java/lang/String", name := "length", desc := "()I" } : Jvm.MethodName) jdk_42_method_54_code (1 : Nat) (Option.some Jvm.ClassFile.FieldType.int), Jvm.Cond.code ({ cls := "java/lang/String", name := "coder", desc := "()B" } : Jvm.MethodName) jdk_42_method_152_code (1 : Nat) (Option.some Jvm.ClassFile.FieldType.byte), Jvm.Cond.code ({ cls := "java/lang/String", name := "charAt", desc := "(I)C" } : Jvm.MethodName) jdk_42_method_56_code (2 : Nat) (Option.some Jvm.ClassFile.FieldType.char), Jvm.Cond.code ({ cls := "java/lang/String", name := "isLatin1", desc := "()Z" } : Jvm.MethodName) jdk_42_method_154_code (1 : Nat) (Option.some Jvm.ClassFile.FieldType.boolean), Jvm.Cond.code ({ cls := "java/lang/StringLatin1", name := "charAt", desc := "([BI)C" } : Jvm.MethodName) jdk_43_method_2_code (2 : Nat) (Option.some Jvm.ClassFile.FieldType.char), Jvm.Cond.code ({ cls := "java/lang/String", name := "checkIndex", desc := "(II)V" } : Jvm.MethodName) jdk_42_method_155_code (2 : Nat) (Option.none : Option Jvm.ClassFile.FieldType), Jvm.Cond.code ({ cls := "jdk/internal/util/Preconditions", name := "checkIndex", desc := "(IILjava/util/function/BiFunction;)I" } : Jvm.MethodName) jdk_41_method_11_code (3 : Nat) (Option.some Jvm.ClassFile.FieldType.int), Jvm.Cond.code ({ cls := "paramwick/util/PercentEncoding", name := "isEscape", desc := "([BII)Z" } : Jvm.MethodName) prog_78_method_2_code (3 : Nat) (Option.some Jvm.ClassFile.FieldType.boolean), Jvm.Cond.code ({ cls := "paramwick/util/PercentEncodingDecodePinLaw", name := "same", desc := "([B[BII)Z" } : Jvm.MethodName) method_4_code (4 : Nat) (Option.some Jvm.ClassFile.FieldType.boolean), Jvm.Cond.code ({ cls := "paramwick/util/PercentEncoding", name := "isHex", desc := "(B)Z" } : Jvm.MethodName) prog_78_method_4_code (1 : Nat) (Option.some Jvm.ClassFile.FieldType.boolean), Jvm.Cond.code ({ cls := "paramwick/util/PercentEncoding", name := "hexValue", desc := "(B)I" } : Jvm.MethodName) prog_78_method_5_code (1 : Nat) (Option.some Jvm.ClassFile.FieldType.int), Jvm.Cond.code ({ cls := "paramwick/util/PercentEncodingDecodePinLaw", name := "hexv", desc := "(B)I" } : Jvm.MethodName) method_3_code (2 : Nat) (Option.some Jvm.ClassFile.FieldType.int)]
set_option maxRecDepth 65536 in
theorem codes_eq : words1.filter isCode = codes1 := rfl
theorem w_codes : ∀ c ∈ words1.filter isCode, c.before args0 about1 = true := by
  rw [codes_eq]
  intro c hc
  simp only [codes1, List.mem_cons, List.not_mem_nil, or_false] at hc
  rcases hc with rfl | rfl | rfl | rfl | rfl | rfl | rfl | rfl | rfl | rfl | rfl | rfl | rfl | rfl | rfl | rfl
  · exact w_c0
  · exact w_c1
  · exact w_c2
  · exact w_c3
  · exact w_c4
  · exact w_c5
  · exact w_c6
  · exact w_c7
  · exact w_c8
  · exact w_c9
  · exact w_c10
  · exact w_c11
  · exact w_c12
  · exact w_c13
  · exact w_c14
  · exact w_c15
set_option maxRecDepth 65536 in
theorem w_t1 : (words1.take 24).all (fun c => isCode c || c.before args0 about1) = true := by decide +kernel
set_option maxRecDepth 65536 in
theorem w_t2 : ((words1.drop 24).take 24).all (fun c => isCode c || c.before args0 about1) = true := by decide +kernel
set_option maxRecDepth 65536 in
theorem w_t3 : ((words1.drop 24).drop 24).all (fun c => isCode c || c.before args0 about1) = true := by decide +kernel
theorem w_tables : (allAtoms (Jvm.Cond.code x code maxLocals ret :: tables_1)).before args0 about1 = true := by
  rw [allAtoms_all]
  show words1.all (fun c => c.before args0 about1) = true
  refine all_split ?_ w_codes
  rw [← List.take_append_drop 24 words1, List.all_append, w_t1, ← List.take_append_drop 24 (words1.drop 24), List.all_append, w_t2, w_t3]
  rfl
set_option maxRecDepth 65536 in
theorem w_rest : rest_1_c.before args0 about1 = true := by decide +kernel
set_option maxRecDepth 65536 in
theorem w_case : (Jvm.Cond.and given_1 narrow_1).before args0 about1 = true := by decide +kernel
set_option maxRecDepth 65536 in
theorem w_consts : constsHeld consts_1 about1 := Jvm.Lit.constsHeldB_iff.mp (by decide +kernel)
theorem w_applies : (headSpec (Jvm.Cond.code x code maxLocals ret :: tables_1) room_1).applies x e0.platform about1 = true :=
  (Spec.applies_iff w_frames).mpr ⟨w_running, w_runnable, w_alone, w_named, w_hears, w_ripe, w_room, w_tables⟩
theorem atStart : AtStart classFile x code maxLocals ret World_1 tables_1 room_1 Calls_1 rest_1 Pre_1 launch0 p0 e0 about1 theMethod args0 below0 :=
  ⟨lists_1, trivial, launch0.admits_env _ _ _, launch0.least_env, fairChoices_fair.cas, fairChoices_fair.clock, w_frames, w_args, w_heap, w_applies, ⟨w_consts, trivial⟩, w_rest, w_case⟩
end start1
theorem witness_1 : WitnessClaimed_1 := ⟨start1.p0, start1.e0, start1.about1, start1.theMethod, start1.args0, start1.below0, start1.atStart⟩
end Jvm.Pilot.@@N@@

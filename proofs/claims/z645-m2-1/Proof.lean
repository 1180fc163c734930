import JvmDerived
import JvmDerived.Pilot.@@N@@Statement
import JvmDerived.Pilot.@@N@@Code
set_option linter.unusedVariables false
set_option linter.unusedSimpArgs false
@@BLOCK:NumsL.lean.txt@@
namespace Jvm.OwnKit
open Sem ClassFile Op Lib Jvm.Stand Jvm.Free Jvm.LawKit Jvm.RoadKit
/-- the surroundings of one body: program, environment, start, method, arguments, frames below, method record, code -/
abbrev Cxt := Program × Env × State × MethodId × Array Value × List Frame × Method × Code
/-- what a body owes: the first new address, cells, slots, what it leaves -/
abbrev En := Nat × Nat × Nat × (Option Value → Heap → Prop)
abbrev St (l : Launch) (R : Room) (C : Cxt) (T : State) (L : List Loc) (k n : Nat) : Prop :=
  Stand C.1 l C.2.1 R C.2.2.1 C.2.2.2.1 C.2.2.2.2.1 C.2.2.2.2.2.1 C.2.2.2.2.2.2.1 C.2.2.2.2.2.2.2 T L k n
abbrev Sp (C : Cxt) (a b : State) : Prop := Steps C.1.tables C.2.1 C.2.2.2.2.2.1 a b
def Goes (C : Cxt) (E : En) (a : State) : Prop :=
  ∃ t o, Sp C a t ∧ t.status = .running ∧ Ended t C.2.2.2.2.2.1 o ∧ ∃ v L, o = .returned v ∧ (E.2.2.2 v t.heap ∧ Fr E.1 L) ∧ FrameEnd C.2.2.1 o t L E.2.1 E.2.2.1
/-- from this place of the code, with this heap, these locals and this stack, and so many cells and slots made, the body comes to its end as owed -/
def W (l : Launch) (R : Room) (C : Cxt) (E : En) (h : Heap) (k n pc : Nat) (Ls : Array Slot) (st : List Value) : Prop :=
  ∀ T L, St l R C T L k n → Fr E.1 L → T.heap = h → Goes C E (T.setTop (mkF C.2.2.2.1 pc Ls st))
def Cx (C : Cxt) (Z : State) (own : String) (code : ByteArray) (ml : Nat) (ret : Option FieldType) (nm : String) (n0 : Nat) : Prop :=
  C.1.tables.exec = Jvm.exec ∧ C.2.2.2.2.2.2.2.code = code ∧ C.2.2.2.2.2.2.2.maxLocals = ml ∧ C.2.2.1.vm.findClass own = some C.2.2.2.1.cls ∧ Z.Warmed39 C.2.2.1.vm ∧ C.2.2.2.2.2.2.1.sig.returnType = ret ∧ C.2.2.2.2.2.2.1.locks = false ∧ C.2.2.2.2.2.2.1.name = nm ∧ n0 ≤ C.2.2.1.heap.size
/-- a contract of one call: these arguments, this heap -/
def Ctr (l : Launch) (Z : State) (y : MethodName) (bytes : ByteArray) (maxL : Nat) (ret : Option FieldType) (rm : Room) (n0 : Nat) (as' : Array Value) (h : Heap) (Q : Option Value → Heap → Prop) : Prop :=
  MetFree l y (head1 [Cond.code y bytes maxL ret] rm) (fun a U => a = as' ∧ Z.Warmed39 U.vm ∧ U.heap = h) (fun _ _ _ _ _ => True) (fun _ U o U' => ∃ v L, o = .returned v ∧ (Q v U'.heap ∧ Fr n0 L) ∧ FrameEnd U o U' L rm.cells rm.slots)
section Own
variable {l : Launch} {R : Room} {C : Cxt} {E : En} {h h' : Heap} {k n pc : Nat} {Ls : Array Slot} {st : List Value} {Z : State} {own nm : String} {code : ByteArray} {ml : Nat} {ret : Option FieldType} {a0 : Array Value}
theorem wd {ts : List Jvm.Cond} (hw : ∀ d ∈ ts, d.before a0 Z = true) (i : Nat) {d : Jvm.Cond} (hi : ts[i]? = some d) : d.before a0 Z = true := hw _ (List.mem_of_getElem? hi)
theorem W.via {pc' : Nat} {Ls' : Array Slot} {st' : List Value} (f : ∀ T t L, St l R C T L k n → T.heap = h → Sp C (T.setTop (mkF C.2.2.2.1 pc' Ls' st')) t → Sp C (T.setTop (mkF C.2.2.2.1 pc Ls st)) t)
    (hr : W l R C E h k n pc' Ls' st') : W l R C E h k n pc Ls st := fun T L X N eT => by
  obtain ⟨t, o, h1, h2⟩ := hr T L X N eT
  exact ⟨t, o, f T t L X eT h1, h2⟩
theorem W.more {k' n' : Nat} (hk : k ≤ k') (hn : n ≤ n') (hr : W l R C E h k' n' pc Ls st) : W l R C E h k n pc Ls st := fun T L X N eT => hr T L (X.more hk hn) N eT
/-- a step that moves the tables alone -/
theorem W.viaT {pc' : Nat} {Ls' : Array Slot} {st' : List Value} (f : ∀ T L, St l R C T L k n → T.heap = h → ∃ T', St l R C T' L k n ∧ T'.heap = h ∧ ∀ t, Sp C (T'.setTop (mkF C.2.2.2.1 pc' Ls' st')) t → Sp C (T.setTop (mkF C.2.2.2.1 pc Ls st)) t)
    (hr : W l R C E h k n pc' Ls' st') : W l R C E h k n pc Ls st := fun T L X N eT => by
  obtain ⟨T', X', e', q⟩ := f T L X eT
  obtain ⟨t, o, h1, h2⟩ := hr T' L X' N e'
  exact ⟨t, o, q t h1, h2⟩
theorem size_ge {n0 : Nat} (H : Cx C Z own code ml ret nm n0) {T : State} {L : List Loc} (X : St l R C T L k n) : n0 ≤ T.heap.size := Nat.le_trans H.2.2.2.2.2.2.2.2 X.same.2.1
/-! plain steps -/
section Plain
theorem k_iloadN {i : Fin 4} {x : Int32} (H : Cx C Z own code ml ret nm E.1) (hd : decode code pc = .ok (.iload_n i, 1)) (hl : Ls[i.val]? = some (.val (.int x))) (hr : W l R C E h k n (pc + 1) Ls (.int x :: st)) : W l R C E h k n pc Ls st := .via (fun T t L X _ r => XS.iloadN X.here H.1 rfl (hb H.2.1 hd) hl r) hr
theorem k_iload {i : Nat} {x : Int32} (H : Cx C Z own code ml ret nm E.1) (hd : decode code pc = .ok (.iload i, 2)) (hl : Ls[i]? = some (.val (.int x))) (hr : W l R C E h k n (pc + 2) Ls (.int x :: st)) : W l R C E h k n pc Ls st := .via (fun T t L X _ r => XS.iload X.here H.1 rfl (hb H.2.1 hd) hl r) hr
theorem k_lloadN {i : Fin 4} {x : Int64} (H : Cx C Z own code ml ret nm E.1) (hd : decode code pc = .ok (.lload_n i, 1)) (hl : Ls[i.val]? = some (.val (.long x))) (hr : W l R C E h k n (pc + 1) Ls (.long x :: st)) : W l R C E h k n pc Ls st := .via (fun T t L X _ r => XT.lloadN X.here H.1 rfl (hb H.2.1 hd) hl r) hr
theorem k_lload {i : Nat} {x : Int64} (H : Cx C Z own code ml ret nm E.1) (hd : decode code pc = .ok (.lload i, 2)) (hl : Ls[i]? = some (.val (.long x))) (hr : W l R C E h k n (pc + 2) Ls (.long x :: st)) : W l R C E h k n pc Ls st := .via (fun T t L X _ r => XT.lload X.here H.1 rfl (hb H.2.1 hd) hl r) hr
theorem k_aloadN {i : Fin 4} {v : Value} (H : Cx C Z own code ml ret nm E.1) (hd : decode code pc = .ok (.aload_n i, 1)) (hl : Ls[i.val]? = some (.val v)) (hv : v.isRef = true) (hr : W l R C E h k n (pc + 1) Ls (v :: st)) : W l R C E h k n pc Ls st := .via (fun T t L X _ r => XS.aloadN X.here H.1 rfl (hb H.2.1 hd) hl hv r) hr
theorem k_aload {i : Nat} {v : Value} (H : Cx C Z own code ml ret nm E.1) (hd : decode code pc = .ok (.aload i, 2)) (hl : Ls[i]? = some (.val v)) (hv : v.isRef = true) (hr : W l R C E h k n (pc + 2) Ls (v :: st)) : W l R C E h k n pc Ls st := .via (fun T t L X _ r => XS.aload X.here H.1 rfl (hb H.2.1 hd) hl hv r) hr
theorem k_istoreN {i : Fin 4} {x : Int32} {Ls' : Array Slot} (H : Cx C Z own code ml ret nm E.1) (hd : decode code pc = .ok (.istore_n i, 1)) (hl : storeLocals Ls i.val (.int x) = some Ls') (hr : W l R C E h k n (pc + 1) Ls' st) : W l R C E h k n pc Ls (.int x :: st) := .via (fun T t L X _ r => XS.istoreN X.here H.1 rfl (hb H.2.1 hd) rfl hl r) hr
theorem k_istore {i : Nat} {x : Int32} {Ls' : Array Slot} (H : Cx C Z own code ml ret nm E.1) (hd : decode code pc = .ok (.istore i, 2)) (hl : storeLocals Ls i (.int x) = some Ls') (hr : W l R C E h k n (pc + 2) Ls' st) : W l R C E h k n pc Ls (.int x :: st) := .via (fun T t L X _ r => XS.istore X.here H.1 rfl (hb H.2.1 hd) rfl hl r) hr
theorem k_lstoreN {i : Fin 4} {x : Int64} {Ls' : Array Slot} (H : Cx C Z own code ml ret nm E.1) (hd : decode code pc = .ok (.lstore_n i, 1)) (hl : storeLocals Ls i.val (.long x) = some Ls') (hr : W l R C E h k n (pc + 1) Ls' st) : W l R C E h k n pc Ls (.long x :: st) := .via (fun T t L X _ r => XT.lstoreN X.here H.1 rfl (hb H.2.1 hd) rfl hl r) hr
theorem k_lstore {i : Nat} {x : Int64} {Ls' : Array Slot} (H : Cx C Z own code ml ret nm E.1) (hd : decode code pc = .ok (.lstore i, 2)) (hl : storeLocals Ls i (.long x) = some Ls') (hr : W l R C E h k n (pc + 2) Ls' st) : W l R C E h k n pc Ls (.long x :: st) := .via (fun T t L X _ r => XT.lstore X.here H.1 rfl (hb H.2.1 hd) rfl hl r) hr
theorem k_astoreN {i : Fin 4} {x : Value} {Ls' : Array Slot} (H : Cx C Z own code ml ret nm E.1) (hd : decode code pc = .ok (.astore_n i, 1)) (hv : x.isRef = true) (hl : storeLocals Ls i.val x = some Ls') (hr : W l R C E h k n (pc + 1) Ls' st) : W l R C E h k n pc Ls (x :: st) := .via (fun T t L X _ r => XS.astoreN X.here H.1 rfl (hb H.2.1 hd) rfl hv hl r) hr
theorem k_astore {i : Nat} {x : Value} {Ls' : Array Slot} (H : Cx C Z own code ml ret nm E.1) (hd : decode code pc = .ok (.astore i, 2)) (hv : x.isRef = true) (hl : storeLocals Ls i x = some Ls') (hr : W l R C E h k n (pc + 2) Ls' st) : W l R C E h k n pc Ls (x :: st) := .via (fun T t L X _ r => XS.astore X.here H.1 rfl (hb H.2.1 hd) rfl hv hl r) hr
theorem k_iconst {i : Int} (v : Int32) (H : Cx C Z own code ml ret nm E.1) (hd : decode code pc = .ok (.iconst i, 1)) (hv : Int32.ofInt i = v) (hr : W l R C E h k n (pc + 1) Ls (.int v :: st)) : W l R C E h k n pc Ls st := .via (fun T t L X _ r => XT.iconstV X.here H.1 rfl v (hb H.2.1 hd) hv r) hr
theorem k_bipush {i : Int} (v : Int32) (H : Cx C Z own code ml ret nm E.1) (hd : decode code pc = .ok (.bipush i, 2)) (hv : (Int8.ofInt i).toInt32 = v) (hr : W l R C E h k n (pc + 2) Ls (.int v :: st)) : W l R C E h k n pc Ls st := .via (fun T t L X _ r => XT.bipushV X.here H.1 rfl v (hb H.2.1 hd) hv r) hr
theorem k_sipush {i : Int} (v : Int32) (H : Cx C Z own code ml ret nm E.1) (hd : decode code pc = .ok (.sipush i, 3)) (hv : (Int16.ofInt i).toInt32 = v) (hr : W l R C E h k n (pc + 3) Ls (.int v :: st)) : W l R C E h k n pc Ls st := .via (fun T t L X _ r => XT.sipushV X.here H.1 rfl v (hb H.2.1 hd) hv r) hr
theorem k_lconst {i : Fin 2} (v : Int64) (H : Cx C Z own code ml ret nm E.1) (hd : decode code pc = .ok (.lconst i, 1)) (hv : Int64.ofNat i = v) (hr : W l R C E h k n (pc + 1) Ls (.long v :: st)) : W l R C E h k n pc Ls st := .via (fun T t L X _ r => XT.lconstV X.here H.1 rfl v (hb H.2.1 hd) hv r) hr
theorem k_aconstNull (H : Cx C Z own code ml ret nm E.1) (hd : decode code pc = .ok (.aconst_null, 1)) (hr : W l R C E h k n (pc + 1) Ls (.null :: st)) : W l R C E h k n pc Ls st := .via (fun T t L X _ r => XS.aconstNull X.here H.1 rfl (hb H.2.1 hd) r) hr
theorem k_ldcI {i : Nat} {v : Int32} (H : Cx C Z own code ml ret nm E.1) (hc : (Cond.constant own i v).before a0 Z = true) (hd : decode code pc = .ok (.ldc i, 2)) (hr : W l R C E h k n (pc + 2) Ls (.int v :: st)) : W l R C E h k n pc Ls st := .via (fun T t L X _ r => X.ldcI H.1 H.2.2.2.1 (mv H.2.2.2.2.1 hc) rfl (hb H.2.1 hd) r) hr
theorem k_ldcWI {i : Nat} {v : Int32} (H : Cx C Z own code ml ret nm E.1) (hc : (Cond.constant own i v).before a0 Z = true) (hd : decode code pc = .ok (.ldc_w i, 3)) (hr : W l R C E h k n (pc + 3) Ls (.int v :: st)) : W l R C E h k n pc Ls st := .via (fun T t L X _ r => X.ldcWI H.1 H.2.2.2.1 (mv H.2.2.2.2.1 hc) rfl (hb H.2.1 hd) r) hr
theorem k_ldc2J {i : Nat} {v : Int64} (H : Cx C Z own code ml ret nm E.1) (hc : (Cond.constantLong own i v).before a0 Z = true) (hd : decode code pc = .ok (.ldc2_w i, 3)) (hr : W l R C E h k n (pc + 3) Ls (.long v :: st)) : W l R C E h k n pc Ls st := .via (fun T t L X _ r => X.ldc2J H.1 H.2.2.2.1 (mv H.2.2.2.2.1 hc) rfl (hb H.2.1 hd) r) hr
theorem k_iinc {i : Nat} {c : Int} (v : Int32) {x : Int32} {Ls' : Array Slot} (H : Cx C Z own code ml ret nm E.1) (hd : decode code pc = .ok (.iinc i c, 3)) (hv : Int32.ofInt c = v) (hl : Ls[i]? = some (.val (.int x))) (hl' : storeLocals Ls i (.int (x + v)) = some Ls') (hr : W l R C E h k n (pc + 3) Ls' st) : W l R C E h k n pc Ls st := .via (fun T t L X _ r => XT.iincV X.here H.1 rfl v (hb H.2.1 hd) hv hl hl' r) hr
theorem k_iadd {x y : Int32} (H : Cx C Z own code ml ret nm E.1) (hd : decode code pc = .ok (.iadd, 1)) (hr : W l R C E h k n (pc + 1) Ls (.int (x + y) :: st)) : W l R C E h k n pc Ls (.int y :: .int x :: st) := .via (fun T t L X _ r => XS.iadd X.here H.1 rfl (hb H.2.1 hd) rfl r) hr
theorem k_isub {x y : Int32} (H : Cx C Z own code ml ret nm E.1) (hd : decode code pc = .ok (.isub, 1)) (hr : W l R C E h k n (pc + 1) Ls (.int (x - y) :: st)) : W l R C E h k n pc Ls (.int y :: .int x :: st) := .via (fun T t L X _ r => XS.isub X.here H.1 rfl (hb H.2.1 hd) rfl r) hr
theorem k_imul {x y : Int32} (H : Cx C Z own code ml ret nm E.1) (hd : decode code pc = .ok (.imul, 1)) (hr : W l R C E h k n (pc + 1) Ls (.int (x * y) :: st)) : W l R C E h k n pc Ls (.int y :: .int x :: st) := .via (fun T t L X _ r => XS.imul X.here H.1 rfl (hb H.2.1 hd) rfl r) hr
theorem k_idiv {x y : Int32} (H : Cx C Z own code ml ret nm E.1) (hd : decode code pc = .ok (.idiv, 1)) (hy : y ≠ 0) (hr : W l R C E h k n (pc + 1) Ls (.int (x / y) :: st)) : W l R C E h k n pc Ls (.int y :: .int x :: st) := .via (fun T t L X _ r => XS.idiv X.here H.1 rfl (hb H.2.1 hd) rfl hy r) hr
theorem k_irem {x y : Int32} (H : Cx C Z own code ml ret nm E.1) (hd : decode code pc = .ok (.irem, 1)) (hy : y ≠ 0) (hr : W l R C E h k n (pc + 1) Ls (.int (x % y) :: st)) : W l R C E h k n pc Ls (.int y :: .int x :: st) := .via (fun T t L X _ r => iremM X H.1 rfl (hb H.2.1 hd) rfl hy r) hr
theorem k_iand {x y : Int32} (H : Cx C Z own code ml ret nm E.1) (hd : decode code pc = .ok (.iand, 1)) (hr : W l R C E h k n (pc + 1) Ls (.int (x &&& y) :: st)) : W l R C E h k n pc Ls (.int y :: .int x :: st) := .via (fun T t L X _ r => XS.iand X.here H.1 rfl (hb H.2.1 hd) rfl r) hr
theorem k_ior {x y : Int32} (H : Cx C Z own code ml ret nm E.1) (hd : decode code pc = .ok (.ior, 1)) (hr : W l R C E h k n (pc + 1) Ls (.int (x ||| y) :: st)) : W l R C E h k n pc Ls (.int y :: .int x :: st) := .via (fun T t L X _ r => XT.ior X.here H.1 rfl (hb H.2.1 hd) rfl r) hr
theorem k_ixor {x y : Int32} (H : Cx C Z own code ml ret nm E.1) (hd : decode code pc = .ok (.ixor, 1)) (hr : W l R C E h k n (pc + 1) Ls (.int (x ^^^ y) :: st)) : W l R C E h k n pc Ls (.int y :: .int x :: st) := .via (fun T t L X _ r => XT.ixor X.here H.1 rfl (hb H.2.1 hd) rfl r) hr
theorem k_ishl {x y : Int32} (H : Cx C Z own code ml ret nm E.1) (hd : decode code pc = .ok (.ishl, 1)) (hr : W l R C E h k n (pc + 1) Ls (.int (x <<< (y &&& 31)) :: st)) : W l R C E h k n pc Ls (.int y :: .int x :: st) := .via (fun T t L X _ r => XT.ishl X.here H.1 rfl (hb H.2.1 hd) rfl r) hr
theorem k_ishr {x y : Int32} (H : Cx C Z own code ml ret nm E.1) (hd : decode code pc = .ok (.ishr, 1)) (hr : W l R C E h k n (pc + 1) Ls (.int (x >>> (y &&& 31)) :: st)) : W l R C E h k n pc Ls (.int y :: .int x :: st) := .via (fun T t L X _ r => XT.ishr X.here H.1 rfl (hb H.2.1 hd) rfl r) hr
theorem k_iushr {x y : Int32} (H : Cx C Z own code ml ret nm E.1) (hd : decode code pc = .ok (.iushr, 1)) (hr : W l R C E h k n (pc + 1) Ls (.int (XT.ushr x y) :: st)) : W l R C E h k n pc Ls (.int y :: .int x :: st) := .via (fun T t L X _ r => XT.iushr X.here H.1 rfl (hb H.2.1 hd) rfl r) hr
theorem k_ineg {x : Int32} (H : Cx C Z own code ml ret nm E.1) (hd : decode code pc = .ok (.ineg, 1)) (hr : W l R C E h k n (pc + 1) Ls (.int (-x) :: st)) : W l R C E h k n pc Ls (.int x :: st) := .via (fun T t L X _ r => XS.ineg X.here H.1 rfl (hb H.2.1 hd) rfl r) hr
theorem k_ladd {x y : Int64} (H : Cx C Z own code ml ret nm E.1) (hd : decode code pc = .ok (.ladd, 1)) (hr : W l R C E h k n (pc + 1) Ls (.long (x + y) :: st)) : W l R C E h k n pc Ls (.long y :: .long x :: st) := .via (fun T t L X _ r => XT.ladd X.here H.1 rfl (hb H.2.1 hd) rfl r) hr
theorem k_lsub {x y : Int64} (H : Cx C Z own code ml ret nm E.1) (hd : decode code pc = .ok (.lsub, 1)) (hr : W l R C E h k n (pc + 1) Ls (.long (x - y) :: st)) : W l R C E h k n pc Ls (.long y :: .long x :: st) := .via (fun T t L X _ r => XT.lsub X.here H.1 rfl (hb H.2.1 hd) rfl r) hr
theorem k_land {x y : Int64} (H : Cx C Z own code ml ret nm E.1) (hd : decode code pc = .ok (.land, 1)) (hr : W l R C E h k n (pc + 1) Ls (.long (x &&& y) :: st)) : W l R C E h k n pc Ls (.long y :: .long x :: st) := .via (fun T t L X _ r => XT.land X.here H.1 rfl (hb H.2.1 hd) rfl r) hr
theorem k_lor {x y : Int64} (H : Cx C Z own code ml ret nm E.1) (hd : decode code pc = .ok (.lor, 1)) (hr : W l R C E h k n (pc + 1) Ls (.long (x ||| y) :: st)) : W l R C E h k n pc Ls (.long y :: .long x :: st) := .via (fun T t L X _ r => XT.lor X.here H.1 rfl (hb H.2.1 hd) rfl r) hr
theorem k_lxor {x y : Int64} (H : Cx C Z own code ml ret nm E.1) (hd : decode code pc = .ok (.lxor, 1)) (hr : W l R C E h k n (pc + 1) Ls (.long (x ^^^ y) :: st)) : W l R C E h k n pc Ls (.long y :: .long x :: st) := .via (fun T t L X _ r => XT.lxor X.here H.1 rfl (hb H.2.1 hd) rfl r) hr
theorem k_lshl {x : Int64} {y : Int32} (H : Cx C Z own code ml ret nm E.1) (hd : decode code pc = .ok (.lshl, 1)) (hr : W l R C E h k n (pc + 1) Ls (.long (x <<< (y.toInt64 &&& 63)) :: st)) : W l R C E h k n pc Ls (.int y :: .long x :: st) := .via (fun T t L X _ r => XT.lshl X.here H.1 rfl (hb H.2.1 hd) rfl r) hr
theorem k_lushr {x : Int64} {y : Int32} (H : Cx C Z own code ml ret nm E.1) (hd : decode code pc = .ok (.lushr, 1)) (hr : W l R C E h k n (pc + 1) Ls (.long (XT.ushrL x y) :: st)) : W l R C E h k n pc Ls (.int y :: .long x :: st) := .via (fun T t L X _ r => XT.lushr X.here H.1 rfl (hb H.2.1 hd) rfl r) hr
theorem k_i2l {x : Int32} (H : Cx C Z own code ml ret nm E.1) (hd : decode code pc = .ok (.i2l, 1)) (hr : W l R C E h k n (pc + 1) Ls (.long x.toInt64 :: st)) : W l R C E h k n pc Ls (.int x :: st) := .via (fun T t L X _ r => XT.i2l X.here H.1 rfl (hb H.2.1 hd) rfl r) hr
theorem k_l2i {x : Int64} (H : Cx C Z own code ml ret nm E.1) (hd : decode code pc = .ok (.l2i, 1)) (hr : W l R C E h k n (pc + 1) Ls (.int x.toInt32 :: st)) : W l R C E h k n pc Ls (.long x :: st) := .via (fun T t L X _ r => XT.l2i X.here H.1 rfl (hb H.2.1 hd) rfl r) hr
theorem k_i2b {x : Int32} (H : Cx C Z own code ml ret nm E.1) (hd : decode code pc = .ok (.i2b, 1)) (hr : W l R C E h k n (pc + 1) Ls (.int x.toInt8.toInt32 :: st)) : W l R C E h k n pc Ls (.int x :: st) := .via (fun T t L X _ r => XT.i2b X.here H.1 rfl (hb H.2.1 hd) rfl r) hr
theorem k_i2c {x : Int32} (H : Cx C Z own code ml ret nm E.1) (hd : decode code pc = .ok (.i2c, 1)) (hr : W l R C E h k n (pc + 1) Ls (.int x.toUInt32.toUInt16.toUInt32.toInt32 :: st)) : W l R C E h k n pc Ls (.int x :: st) := .via (fun T t L X _ r => XT.i2c X.here H.1 rfl (hb H.2.1 hd) rfl r) hr
theorem k_lcmp {x y : Int64} (H : Cx C Z own code ml ret nm E.1) (hd : decode code pc = .ok (.lcmp, 1)) (hr : W l R C E h k n (pc + 1) Ls (.int (XT.cmpL x y) :: st)) : W l R C E h k n pc Ls (.long y :: .long x :: st) := .via (fun T t L X _ r => XT.lcmp X.here H.1 rfl (hb H.2.1 hd) rfl r) hr
theorem k_dup {v : Value} (H : Cx C Z own code ml ret nm E.1) (hd : decode code pc = .ok (.dup, 1)) (hc : v.category = 1) (hr : W l R C E h k n (pc + 1) Ls (v :: v :: st)) : W l R C E h k n pc Ls (v :: st) := .via (fun T t L X _ r => XS.dup X.here H.1 rfl (hb H.2.1 hd) rfl hc r) hr
theorem k_pop {v : Value} (H : Cx C Z own code ml ret nm E.1) (hd : decode code pc = .ok (.pop, 1)) (hc : v.category = 1) (hr : W l R C E h k n (pc + 1) Ls st) : W l R C E h k n pc Ls (v :: st) := .via (fun T t L X _ r => XT.pop X.here H.1 rfl (hb H.2.1 hd) rfl hc r) hr
theorem k_dupX1 {v w : Value} (H : Cx C Z own code ml ret nm E.1) (hd : decode code pc = .ok (.dup_x1, 1)) (hc : v.category = 1) (hc' : w.category = 1) (hr : W l R C E h k n (pc + 1) Ls (v :: w :: v :: st)) : W l R C E h k n pc Ls (v :: w :: st) := .via (fun T t L X _ r => XT.dupX1 X.here H.1 rfl (hb H.2.1 hd) rfl hc hc' r) hr
theorem k_dup2 {v w : Value} (H : Cx C Z own code ml ret nm E.1) (hd : decode code pc = .ok (.dup2, 1)) (hc : v.category = 1) (hc' : w.category = 1) (hr : W l R C E h k n (pc + 1) Ls (v :: w :: v :: w :: st)) : W l R C E h k n pc Ls (v :: w :: st) := .via (fun T t L X _ r => XT.dup2 X.here H.1 rfl (hb H.2.1 hd) rfl hc hc' r) hr
theorem k_goto {o : Int} (pc' : Nat) (H : Cx C Z own code ml ret nm E.1) (hd : decode code pc = .ok (.goto o, 3)) (hp : (pc : Int) + o = (pc' : Int)) (hr : W l R C E h k n pc' Ls st) : W l R C E h k n pc Ls st := .via (fun T t L X _ r => XS.goto X.here H.1 rfl rfl (hb H.2.1 hd) (by rw [hp]; exact Int.natCast_nonneg _) (by rw [hp]; rfl) r) hr
theorem k_icmpT {cd : ClassFile.Cond} {o : Int} {x y : Int32} (pc' : Nat) (H : Cx C Z own code ml ret nm E.1) (hd : decode code pc = .ok (.if_icmp cd o, 3)) (hp : (pc : Int) + o = (pc' : Int)) (hc : if_icmp.holds cd x y = true) (hr : W l R C E h k n pc' Ls st) : W l R C E h k n pc Ls (.int y :: .int x :: st) :=
  .via (fun T t L X _ r => XS.icmpYes X.here H.1 rfl rfl (hb H.2.1 hd) rfl hc (by rw [hp]; exact Int.natCast_nonneg _) (by rw [hp]; rfl) r) hr
theorem k_icmpF {cd : ClassFile.Cond} {o : Int} {x y : Int32} (H : Cx C Z own code ml ret nm E.1) (hd : decode code pc = .ok (.if_icmp cd o, 3)) (hc : if_icmp.holds cd x y = false) (hr : W l R C E h k n (pc + 3) Ls st) : W l R C E h k n pc Ls (.int y :: .int x :: st) :=
  .via (fun T t L X _ r => XS.icmpNo X.here H.1 rfl (hb H.2.1 hd) rfl hc r) hr
theorem k_ifT {cd : ClassFile.Cond} {o : Int} {x : Int32} (pc' : Nat) (H : Cx C Z own code ml ret nm E.1) (hd : decode code pc = .ok (.ifCond cd o, 3)) (hp : (pc : Int) + o = (pc' : Int)) (hc : ifCond.holds cd x = true) (hr : W l R C E h k n pc' Ls st) : W l R C E h k n pc Ls (.int x :: st) :=
  .via (fun T t L X _ r => XS.ifYes X.here H.1 rfl rfl (hb H.2.1 hd) rfl hc (by rw [hp]; exact Int.natCast_nonneg _) (by rw [hp]; rfl) r) hr
theorem k_ifF {cd : ClassFile.Cond} {o : Int} {x : Int32} (H : Cx C Z own code ml ret nm E.1) (hd : decode code pc = .ok (.ifCond cd o, 3)) (hc : ifCond.holds cd x = false) (hr : W l R C E h k n (pc + 3) Ls st) : W l R C E h k n pc Ls (.int x :: st) :=
  .via (fun T t L X _ r => XS.ifNo X.here H.1 rfl (hb H.2.1 hd) rfl hc r) hr
theorem k_acmpT {cd : ClassFile.ACond} {o : Int} {x y : Value} (pc' : Nat) (H : Cx C Z own code ml ret nm E.1) (hd : decode code pc = .ok (.if_acmp cd o, 3)) (hp : (pc : Int) + o = (pc' : Int)) (hx : x.isRef = true) (hy : y.isRef = true) (hc : XT.acmp cd x y = true) (hr : W l R C E h k n pc' Ls st) : W l R C E h k n pc Ls (y :: x :: st) :=
  .via (fun T t L X _ r => XT.acmpYes X.here H.1 rfl rfl (hb H.2.1 hd) rfl hx hy hc (by rw [hp]; exact Int.natCast_nonneg _) (by rw [hp]; rfl) r) hr
theorem k_acmpF {cd : ClassFile.ACond} {o : Int} {x y : Value} (H : Cx C Z own code ml ret nm E.1) (hd : decode code pc = .ok (.if_acmp cd o, 3)) (hx : x.isRef = true) (hy : y.isRef = true) (hc : XT.acmp cd x y = false) (hr : W l R C E h k n (pc + 3) Ls st) : W l R C E h k n pc Ls (y :: x :: st) :=
  .via (fun T t L X _ r => XT.acmpNo X.here H.1 rfl (hb H.2.1 hd) rfl hx hy hc r) hr
theorem k_nonnullT {o : Int} {b : Addr} (pc' : Nat) (H : Cx C Z own code ml ret nm E.1) (hd : decode code pc = .ok (.ifnonnull o, 3)) (hp : (pc : Int) + o = (pc' : Int)) (hr : W l R C E h k n pc' Ls st) : W l R C E h k n pc Ls (.ref b :: st) :=
  .via (fun T t L X _ r => XT.ifnonnullYes X.here H.1 rfl rfl (hb H.2.1 hd) rfl (by rw [hp]; exact Int.natCast_nonneg _) (by rw [hp]; rfl) r) hr
theorem k_tsw {dflt low high o : Int} {offs : Array Int} {len : Nat} {i : Int32} (pc' : Nat) (H : Cx C Z own code ml ret nm E.1) (hd : decode code pc = .ok (.tableswitch dflt low high offs, len)) (hin : ¬ (i.toInt < low ∨ i.toInt > high)) (hoff : offs[(i.toInt - low).toNat]? = some o) (hp : (pc : Int) + o = (pc' : Int)) (hr : W l R C E h k n pc' Ls st) : W l R C E h k n pc Ls (.int i :: st) :=
  .via (fun T t L X _ r => XS.tswIn X.here H.1 rfl rfl (hb H.2.1 hd) rfl hin hoff (by rw [hp]; exact Int.natCast_nonneg _) (by rw [hp]; rfl) r) hr
theorem lsw {tb : Tables} [Ours tb] {e : Env} {below : List Frame} {T target : State} {m : MethodId} {c : Code} {g : JFrame} (h : At T m c below) (hx : tb.exec = Jvm.exec) (hg : g.method = m) {dflt : Int} {pairs : Array (Int × Int)} {len : Nat} {pc0 pc' : Nat} (hpc : g.pc = pc0) (hd : decode c.code g.pc = .ok (.lookupswitch dflt pairs, len)) {i : Int32} {rest : List Value} (hs : g.stack = .int i :: rest)
    (ho : 0 ≤ (pc0 : Int) + lookupswitch.offset pairs.toList dflt i.toInt) (hp : ((pc0 : Int) + lookupswitch.offset pairs.toList dflt i.toInt).toNat = pc') (hsort : ∀ (a b c d : Int), ((a, b), c, d) ∈ pairs.toList.zip pairs.toList.tail → a < c) (hr : Steps tb e below (T.setTop { g with pc := pc', stack := rest }) target) : Steps tb e below (T.setTop g) target := by
  subst hg hpc hp
  jvm_step h [h.top, hx, hd, hs, ho, lookupswitch.wp_chain]
  exact ⟨hsort, hr⟩
theorem k_lsw {dflt : Int} {pairs : Array (Int × Int)} {len : Nat} {i : Int32} (pc' : Nat) (H : Cx C Z own code ml ret nm E.1) (hd : decode code pc = .ok (.lookupswitch dflt pairs, len)) (hsort : ∀ (a b c d : Int), ((a, b), c, d) ∈ pairs.toList.zip pairs.toList.tail → a < c) (hp : (pc : Int) + lookupswitch.offset pairs.toList dflt i.toInt = (pc' : Int)) (hr : W l R C E h k n pc' Ls st) : W l R C E h k n pc Ls (.int i :: st) :=
  .via (fun T t L X _ r => lsw X.here H.1 rfl rfl (hb H.2.1 hd) rfl (by rw [hp]; exact Int.natCast_nonneg _) (by rw [hp]; rfl) hsort r) hr
end Plain
/-! branches, both ways -/
theorem k_icmp {cd : ClassFile.Cond} {o : Int} {x y : Int32} {P : Prop} [Decidable P] (pc' : Nat) (H : Cx C Z own code ml ret nm E.1) (hd : decode code pc = .ok (.if_icmp cd o, 3)) (hp : (pc : Int) + o = (pc' : Int)) (hT : P → if_icmp.holds cd x y = true) (hF : ¬ P → if_icmp.holds cd x y = false)
    (h1 : P → W l R C E h k n pc' Ls st) (h2 : ¬ P → W l R C E h k n (pc + 3) Ls st) : W l R C E h k n pc Ls (.int y :: .int x :: st) := by
  by_cases q : P
  · exact k_icmpT pc' H hd hp (hT q) (h1 q)
  · exact k_icmpF H hd (hF q) (h2 q)
theorem k_iff0 {cd : ClassFile.Cond} {o : Int} {x : Int32} {P : Prop} [Decidable P] (pc' : Nat) (H : Cx C Z own code ml ret nm E.1) (hd : decode code pc = .ok (.ifCond cd o, 3)) (hp : (pc : Int) + o = (pc' : Int)) (hT : P → ifCond.holds cd x = true) (hF : ¬ P → ifCond.holds cd x = false)
    (h1 : P → W l R C E h k n pc' Ls st) (h2 : ¬ P → W l R C E h k n (pc + 3) Ls st) : W l R C E h k n pc Ls (.int x :: st) := by
  by_cases q : P
  · exact k_ifT pc' H hd hp (hT q) (h1 q)
  · exact k_ifF H hd (hF q) (h2 q)
theorem k_icmpR {cd : ClassFile.Cond} {o : Int} {x y : Int32} {P : Prop} [Decidable P] (pc' : Nat) (H : Cx C Z own code ml ret nm E.1) (hd : decode code pc = .ok (.if_icmp cd o, 3)) (hp : (pc : Int) + o = (pc' : Int)) (hT : ¬ P → if_icmp.holds cd x y = true) (hF : P → if_icmp.holds cd x y = false)
    (h1 : ¬ P → W l R C E h k n pc' Ls st) (h2 : P → W l R C E h k n (pc + 3) Ls st) : W l R C E h k n pc Ls (.int y :: .int x :: st) := by
  by_cases q : P
  · exact k_icmpF H hd (hF q) (h2 q)
  · exact k_icmpT pc' H hd hp (hT q) (h1 q)
theorem k_iff0R {cd : ClassFile.Cond} {o : Int} {x : Int32} {P : Prop} [Decidable P] (pc' : Nat) (H : Cx C Z own code ml ret nm E.1) (hd : decode code pc = .ok (.ifCond cd o, 3)) (hp : (pc : Int) + o = (pc' : Int)) (hT : ¬ P → ifCond.holds cd x = true) (hF : P → ifCond.holds cd x = false)
    (h1 : ¬ P → W l R C E h k n pc' Ls st) (h2 : P → W l R C E h k n (pc + 3) Ls st) : W l R C E h k n pc Ls (.int x :: st) := by
  by_cases q : P
  · exact k_ifF H hd (hF q) (h2 q)
  · exact k_ifT pc' H hd hp (hT q) (h1 q)
theorem k_acmp {cd : ClassFile.ACond} {o : Int} {x y : Value} {P : Prop} [Decidable P] (pc' : Nat) (H : Cx C Z own code ml ret nm E.1) (hd : decode code pc = .ok (.if_acmp cd o, 3)) (hp : (pc : Int) + o = (pc' : Int)) (hx : x.isRef = true) (hy : y.isRef = true) (hT : P → XT.acmp cd x y = true) (hF : ¬ P → XT.acmp cd x y = false)
    (h1 : P → W l R C E h k n pc' Ls st) (h2 : ¬ P → W l R C E h k n (pc + 3) Ls st) : W l R C E h k n pc Ls (y :: x :: st) := by
  by_cases q : P
  · exact k_acmpT pc' H hd hp hx hy (hT q) (h1 q)
  · exact k_acmpF H hd hx hy (hF q) (h2 q)
/-! heap steps -/
/-- an array: its kind and all that it holds -/
def Vec (Z : State) (h : Heap) (a : Addr) (ty : FieldType) (vs : List Value) : Prop := ∃ c : Cell, Arr Z h a c ty ∧ c.slots = vs.toArray ∧ vs.length < 2 ^ 31
abbrev IA (Z : State) (h : Heap) (a : Addr) (xs : List Int32) : Prop := Vec Z h a .int (xs.map Value.int)
abbrev JA (Z : State) (h : Heap) (a : Addr) (xs : List Int64) : Prop := Vec Z h a .long (xs.map Value.long)
abbrev BA (Z : State) (h : Heap) (a : Addr) (xs : List Int8) : Prop := Vec Z h a .byte (xs.map fun b => Value.int b.toInt32)
abbrev CA (Z : State) (h : Heap) (a : Addr) (xs : List UInt16) : Prop := Vec Z h a .char (xs.map fun b => Value.int b.toUInt32.toInt32)
theorem Vec.lt {a : Addr} {ty : FieldType} {vs : List Value} (F : Vec Z h a ty vs) : a < h.size := by obtain ⟨c, A, -⟩ := F; exact A.lt
theorem Vec.ext {a : Addr} {ty : FieldType} {vs : List Value} (F : Vec Z h a ty vs) (X : Ext h h') : Vec Z h' a ty vs := by obtain ⟨c, A, r⟩ := F; exact ⟨c, A.ext X, r⟩
theorem Vec.keep {a : Addr} {ty : FieldType} {vs : List Value} {ws : List Addr} (F : Vec Z h a ty vs) (K : Keep h h' ws) (q : a ∉ ws) : Vec Z h' a ty vs := by obtain ⟨c, A, r⟩ := F; exact ⟨c, ⟨K.2.1 a c A.1 q, A.2⟩, r⟩
theorem Vec.other {a b : Addr} {ty : FieldType} {vs : List Value} {sl : Nat} {v : Value} (F : Vec Z h b ty vs) (X : Wr h h' a sl v) (q : b ≠ a) : Vec Z h' b ty vs := by obtain ⟨c, A, r⟩ := F; exact ⟨c, A.other X q, r⟩
theorem Vec.set {a : Addr} {ty : FieldType} {vs : List Value} {sl : Nat} {v : Value} (F : Vec Z h a ty vs) (X : Wr h h' a sl v) : Vec Z h' a ty (vs.set sl v) := by
  obtain ⟨c, A, e, r⟩ := F
  refine ⟨_, A.same X, ?_, by simpa using r⟩
  simp [Cell.setSlot, e]
theorem Vec.ne {a b : Addr} {ty ty' : FieldType} {vs vs' : List Value} (F : Vec Z h a ty vs) (G : Vec Z h b ty' vs') (q : ty ≠ ty') : a ≠ b := fun e => by
  subst e
  obtain ⟨c, A, -⟩ := F
  obtain ⟨c', A', -⟩ := G
  cases A.1.symm.trans A'.1
  obtain ⟨-, k, h1, comp, h2⟩ := A.2.1
  obtain ⟨-, k', h1', comp', h2'⟩ := A'.2.1
  cases h1.symm.trans h1'
  rw [h2] at h2'; cases h2'; exact q rfl
theorem Vec.neX {a b : Addr} {ty : FieldType} {vs : List Value} {cls : String} {kk : Nat} (G : Vec Z h b ty vs) (F : Exa Z h a cls) (wi : (Cond.instantiable cls kk).before a0 Z = true) : a ≠ b := by obtain ⟨c, A, -⟩ := G; exact ne_arr F wi A
theorem Keep.ofExt (X : Ext h h') : Keep h h' [] := (Keep.refl h []).ext X
theorem idx_ok {j : Int32} {i : Nat} (hj : j.toInt = (i : Int)) : ¬ j < 0 ∧ j.toNatClampNeg = i := by
  have e0 : (0 : Int32).toInt = 0 := rfl
  constructor
  · rw [Int32.lt_iff_toInt_lt]; omega
  · simp only [Int32.toNatClampNeg, hj]; rfl
theorem len_ok {c : Cell} {vs : List Value} (e : c.slots = vs.toArray) (hl : vs.length < 2 ^ 31) : c.slots.size.toInt32.toInt = (vs.length : Int) := by
  rw [e]; exact len_toInt hl
section Arrs
variable {a : Addr} {j : Int32} {i : Nat} {v : Value} {vs : List Value}
theorem in_ok {c : Cell} (e : c.slots = vs.toArray) (hj : j.toInt = (i : Int)) (hv : vs[i]? = some v) : ¬ (j < 0 ∨ c.slots.size ≤ j.toNatClampNeg) ∧ c.slots[j.toNatClampNeg]? = some v := by
  obtain ⟨q1, q2⟩ := idx_ok hj
  rw [q2, e]
  have hlt : i < vs.length := (List.getElem?_eq_some_iff.mp hv).1
  exact ⟨fun z => z.elim q1 (fun z => absurd hlt (Nat.not_lt.mpr (by simpa using z))), by simpa using hv⟩
theorem k_arraylength {ty : FieldType} {N : Int32} (H : Cx C Z own code ml ret nm E.1) (A : Vec Z h a ty vs) (hN : N.toInt = (vs.length : Int)) (hd : decode code pc = .ok (.arraylength, 1)) (hr : W l R C E h k n (pc + 1) Ls (.int N :: st)) : W l R C E h k n pc Ls (.ref a :: st) := by
  obtain ⟨c, A, e, hl⟩ := A
  have q : c.slots.size.toInt32 = N := Int32.toInt_inj.mp ((len_ok e hl).trans hN.symm)
  subst q
  exact .via (fun T t L X eT r => X.arraylength H.1 (by rw [eT]; exact A.1) (State.isArrayOf_alike H.2.2.2.2.1.alike A.2.1) (g := mkF C.2.2.2.1 pc Ls (.ref a :: st)) rfl rfl (hb H.2.1 hd) _ r) hr
theorem k_iaload (H : Cx C Z own code ml ret nm E.1) (A : Vec Z h a .int vs) (hj : j.toInt = (i : Int)) (hv : vs[i]? = some v) (hd : decode code pc = .ok (.iaload, 1)) (hr : W l R C E h k n (pc + 1) Ls (v :: st)) : W l R C E h k n pc Ls (.int j :: .ref a :: st) := by
  obtain ⟨c, A, e, hl⟩ := A
  obtain ⟨q1, q2⟩ := in_ok e hj hv
  exact .via (fun T t L X eT r => X.iaload H.1 (by rw [eT]; exact A.1) (State.isArrayOf_alike H.2.2.2.2.1.alike A.2.1) A.2.2 q1 q2 (g := mkF C.2.2.2.1 pc Ls (.int j :: .ref a :: st)) rfl rfl (hb H.2.1 hd) _ r) hr
theorem k_laload (H : Cx C Z own code ml ret nm E.1) (A : Vec Z h a .long vs) (hj : j.toInt = (i : Int)) (hv : vs[i]? = some v) (hd : decode code pc = .ok (.laload, 1)) (hr : W l R C E h k n (pc + 1) Ls (v :: st)) : W l R C E h k n pc Ls (.int j :: .ref a :: st) := by
  obtain ⟨c, A, e, hl⟩ := A
  obtain ⟨q1, q2⟩ := in_ok e hj hv
  exact .via (fun T t L X eT r => X.laload H.1 (by rw [eT]; exact A.1) (State.isArrayOf_alike H.2.2.2.2.1.alike A.2.1) A.2.2 q1 q2 (g := mkF C.2.2.2.1 pc Ls (.int j :: .ref a :: st)) rfl rfl (hb H.2.1 hd) _ r) hr
theorem k_caload (H : Cx C Z own code ml ret nm E.1) (A : Vec Z h a .char vs) (hj : j.toInt = (i : Int)) (hv : vs[i]? = some v) (hd : decode code pc = .ok (.caload, 1)) (hr : W l R C E h k n (pc + 1) Ls (v :: st)) : W l R C E h k n pc Ls (.int j :: .ref a :: st) := by
  obtain ⟨c, A, e, hl⟩ := A
  obtain ⟨q1, q2⟩ := in_ok e hj hv
  exact .via (fun T t L X eT r => X.caload H.1 (by rw [eT]; exact A.1) (State.isArrayOf_alike H.2.2.2.2.1.alike A.2.1) A.2.2 q1 q2 (g := mkF C.2.2.2.1 pc Ls (.int j :: .ref a :: st)) rfl rfl (hb H.2.1 hd) _ r) hr
theorem k_baload (H : Cx C Z own code ml ret nm E.1) (A : Vec Z h a .byte vs) (hj : j.toInt = (i : Int)) (hv : vs[i]? = some v) (hd : decode code pc = .ok (.baload, 1)) (hr : W l R C E h k n (pc + 1) Ls (v :: st)) : W l R C E h k n pc Ls (.int j :: .ref a :: st) := by
  obtain ⟨c, A, e, hl⟩ := A
  obtain ⟨q1, q2⟩ := in_ok e hj hv
  exact .via (fun T t L X eT r => X.baloadBytes H.1 (by rw [eT]; exact A.1) (State.isArrayOf_alike H.2.2.2.2.1.alike A.2.1) A.2.2 q1 q2 (g := mkF C.2.2.2.1 pc Ls (.int j :: .ref a :: st)) rfl rfl (hb H.2.1 hd) _ r) hr
theorem out_ok {c : Cell} (e : c.slots = vs.toArray) (hj : j.toInt = (i : Int)) (hi : i < vs.length) : ¬ (j < 0 ∨ c.slots.size ≤ j.toNatClampNeg) := by
  obtain ⟨q1, q2⟩ := idx_ok hj
  rw [q2, e]
  exact fun z => z.elim q1 (fun z => absurd hi (Nat.not_lt.mpr (by simpa using z)))
theorem Goes.step {T T' : State} {g g' : JFrame} (q : ∀ t, Sp C (T'.setTop g') t → Sp C (T.setTop g) t) (r : Goes C E (T'.setTop g')) : Goes C E (T.setTop g) := by
  obtain ⟨t, o, h1, h2⟩ := r; exact ⟨t, o, q t h1, h2⟩
theorem k_iastore {x : Int32} (H : Cx C Z own code ml ret nm E.1) (A : Vec Z h a .int vs) (hj : j.toInt = (i : Int)) (hi : i < vs.length) (ge : E.1 ≤ a) (hd : decode code pc = .ok (.iastore, 1))
    (hr : ∀ h', Keep h h' [a] → Vec Z h' a .int (vs.set i (.int x)) → W l R C E h' k n (pc + 1) Ls st) : W l R C E h k n pc Ls (.int x :: .int j :: .ref a :: st) := fun T L X N eT => by
  have A' := A
  obtain ⟨c, A, e, hl⟩ := A
  obtain ⟨T', h', X', e', Wx, q⟩ := stI X H.1 H.2.2.2.2.1 eT A (out_ok e hj hi) (g := mkF C.2.2.2.1 pc Ls (.int x :: .int j :: .ref a :: st)) rfl rfl (hb H.2.1 hd)
  refine .step q (hr h' (Keep.of_wr Wx) ?_ T' _ X' (Fr.snoc X' N ge) e')
  rw [(idx_ok hj).2] at Wx; exact A'.set Wx
theorem k_lastore {x : Int64} (H : Cx C Z own code ml ret nm E.1) (A : Vec Z h a .long vs) (hj : j.toInt = (i : Int)) (hi : i < vs.length) (ge : E.1 ≤ a) (hd : decode code pc = .ok (.lastore, 1))
    (hr : ∀ h', Keep h h' [a] → Vec Z h' a .long (vs.set i (.long x)) → W l R C E h' k n (pc + 1) Ls st) : W l R C E h k n pc Ls (.long x :: .int j :: .ref a :: st) := fun T L X N eT => by
  have A' := A
  obtain ⟨c, A, e, hl⟩ := A
  obtain ⟨T', h', X', e', Wx, q⟩ := stJ X H.1 H.2.2.2.2.1 eT A (out_ok e hj hi) (g := mkF C.2.2.2.1 pc Ls (.long x :: .int j :: .ref a :: st)) rfl rfl (hb H.2.1 hd)
  refine .step q (hr h' (Keep.of_wr Wx) ?_ T' _ X' (Fr.snoc X' N ge) e')
  rw [(idx_ok hj).2] at Wx; exact A'.set Wx
theorem k_bastore {x : Int32} (H : Cx C Z own code ml ret nm E.1) (A : Vec Z h a .byte vs) (hj : j.toInt = (i : Int)) (hi : i < vs.length) (ge : E.1 ≤ a) (hd : decode code pc = .ok (.bastore, 1))
    (hr : ∀ h', Keep h h' [a] → Vec Z h' a .byte (vs.set i (.int x.toInt8.toInt32)) → W l R C E h' k n (pc + 1) Ls st) : W l R C E h k n pc Ls (.int x :: .int j :: .ref a :: st) := fun T L X N eT => by
  have A' := A
  obtain ⟨c, A, e, hl⟩ := A
  obtain ⟨T', h', X', e', Wx, q⟩ := stB X H.1 H.2.2.2.2.1 eT A (out_ok e hj hi) (g := mkF C.2.2.2.1 pc Ls (.int x :: .int j :: .ref a :: st)) rfl rfl (hb H.2.1 hd)
  refine .step q (hr h' (Keep.of_wr Wx) ?_ T' _ X' (Fr.snoc X' N ge) e')
  rw [(idx_ok hj).2] at Wx; exact A'.set Wx
theorem k_castore {x : Int32} (H : Cx C Z own code ml ret nm E.1) (A : Vec Z h a .char vs) (hj : j.toInt = (i : Int)) (hi : i < vs.length) (ge : E.1 ≤ a) (hd : decode code pc = .ok (.castore, 1))
    (hr : ∀ h', Keep h h' [a] → Vec Z h' a .char (vs.set i (.int x.toUInt32.toUInt16.toUInt32.toInt32)) → W l R C E h' k n (pc + 1) Ls st) : W l R C E h k n pc Ls (.int x :: .int j :: .ref a :: st) := fun T L X N eT => by
  have A' := A
  obtain ⟨c, A, e, hl⟩ := A
  obtain ⟨T', h', X', e', Wx, q⟩ := stC X H.1 H.2.2.2.2.1 eT A (out_ok e hj hi) (g := mkF C.2.2.2.1 pc Ls (.int x :: .int j :: .ref a :: st)) rfl rfl (hb H.2.1 hd)
  refine .step q (hr h' (Keep.of_wr Wx) ?_ T' _ X' (Fr.snoc X' N ge) e')
  rw [(idx_ok hj).2] at Wx; exact A'.set Wx
end Arrs
/-- newarray of a plain kind, at most cap long -/
theorem k_newarray {aty : ArrayType} {ty : FieldType} {len : Int32} (m cap : Nat) (H : Cx C Z own code ml ret nm E.1) (w : (Cond.arrayClass ty).before a0 Z = true) (hty : newarray.typeOf aty = ty) (hd : decode code pc = .ok (.newarray aty, 2)) (hm : len.toInt = (m : Int)) (hcap : m ≤ cap) (hB : cap * 8 ≤ 536870912) (hC : k + 1 ≤ R.cells) (hS : n + cap ≤ R.slots)
    (hr : ∀ h' a, a = h.size → E.1 ≤ a → Ext h h' → Exa Z h' a ("[" ++ ty.toString) → Vec Z h' a ty (List.replicate m (defaultValue ty)) → W l R C E h' (k + 1) (n + cap) (pc + 2) Ls (.ref a :: st)) : W l R C E h k n pc Ls (.int len :: st) := fun T L X N eT => by
  subst hty
  obtain ⟨q1, q2⟩ := idx_ok hm
  obtain ⟨T', h', cA, X', e', Ex, A, XA, q⟩ := newPE X H.1 H.2.2.2.2.1 w eT (g := mkF C.2.2.2.1 pc Ls (.int len :: st)) rfl (hb H.2.1 hd) rfl q1 (cap := cap) (by rw [q2]; exact hcap) hB hC hS rfl
  have hlt : m < 2 ^ 31 := by have := len.toInt_lt; omega
  refine .step q (hr h' h.size rfl (by rw [← eT]; exact size_ge H X) Ex XA ⟨_, A, ?_, by simpa using hlt⟩ T' _ X' N e')
  simp [newA, q2]
theorem k_newObj {idx ns : Nat} {cls : String} (H : Cx C Z own code ml ret nm E.1) (w : (Cond.classLink own idx cls).before a0 Z = true) (wi : (Cond.instantiable cls ns).before a0 Z = true) (wz : (Cond.initialized cls).before a0 Z = true) (hd : decode code pc = .ok (.new idx, 3)) (hC : k + 1 ≤ R.cells) (hS : n + ns ≤ R.slots)
    (hr : ∀ h' a, a = h.size → E.1 ≤ a → Ext h h' → Exa Z h' a cls → (∀ {O nf d : String} {ty : FieldType}, Laid Z a0 cls O nf d → parseFieldDescriptor d = some ty → Fld Z h' a O nf d (defaultValue ty)) → W l R C E h' (k + 1) (n + ns) (pc + 3) Ls (.ref a :: st)) : W l R C E h k n pc Ls st := fun T L X N eT => by
  obtain ⟨T', h', X', e', Ex, A, D, -, q⟩ := newO X H.1 H.2.2.2.2.1 H.2.2.2.1 w wi wz eT (g := mkF C.2.2.2.1 pc Ls st) rfl (hb H.2.1 hd) hC hS
  exact .step q (hr h' h.size rfl (by rw [← eT]; exact size_ge H X) Ex A D T' _ X' N e')
theorem k_initObj {idx w : Nat} {a : Addr} (H : Cx C Z own code ml ret nm E.1) (w1 : (Cond.methodLink own idx Lib.objectInit).before a0 Z = true) (w2 : (Cond.instanceMethod Lib.objectInit).before a0 Z = true) (w3 : (Cond.code Lib.objectInit ⟨#[0xb1]⟩ 1 none).before a0 Z = true) (hd : decode code pc = .ok (.invokespecial idx, 3)) (hsz : Ls.size = ml) (hF : 1 ≤ R.frames)
    (hw : (st.map fun v => v.category).sum = w) (hL : w + 12 ≤ R.locals) (hr : W l R C E h k n (pc + 3) Ls st) : W l R C E h k n pc Ls (.ref a :: st) :=
  .viaT (fun T L X eT => initO X H.1 H.2.2.2.2.1 H.2.2.2.1 w1 w2 w3 eT (g := mkF C.2.2.2.1 pc Ls (.ref a :: st)) rfl (by show Ls.size = _; rw [H.2.2.1]; exact hsz) rfl (hb H.2.1 hd) hF (W := w) (by show 2 * 0 + _ ≤ _; rw [hw]; omega) hL) hr
theorem k_getfield {idx : Nat} {O nf d : String} {a : Addr} {v : Value} (H : Cx C Z own code ml ret nm E.1) (w : (Cond.fieldLink own idx O nf d).before a0 Z = true) (F : Fld Z h a O nf d v) (hd : decode code pc = .ok (.getfield idx, 3)) (hr : W l R C E h k n (pc + 3) Ls (v :: st)) : W l R C E h k n pc Ls (.ref a :: st) :=
  .viaT (fun T L X eT => getF X H.1 H.2.2.2.2.1 H.2.2.2.1 (host := "") (Or.inl w) Via.refl eT F (g := mkF C.2.2.2.1 pc Ls (.ref a :: st)) rfl rfl (hb H.2.1 hd)) hr
theorem k_putfield {idx kk : Nat} {O nf d cls : String} {a : Addr} {v old : Value} (ty : FieldType) (H : Cx C Z own code ml ret nm E.1) (w : (Cond.fieldLink own idx O nf d).before a0 Z = true) (F : Fld Z h a O nf d old) (X0 : Exa Z h a cls) (La : (Cond.lays cls O nf d).before a0 Z = true ∨ ((Cond.laysFinal cls O nf d).before a0 Z = true ∧ own = O ∧ nm = "<init>"))
    (wi : (Cond.instantiable cls kk).before a0 Z = true) (hty : parseFieldDescriptor d = some ty) (hn : narrow ty v = v) (hf : fits ty v = true) (ge : E.1 ≤ a) (hd : decode code pc = .ok (.putfield idx, 3))
    (hr : ∀ h', Wr h h' a (Jvm.RoadKit.slotOf Z O nf d) v → Fld Z h' a O nf d v → W l R C E h' k n (pc + 3) Ls st) : W l R C E h k n pc Ls (v :: .ref a :: st) := fun T L X N eT => by
  obtain ⟨T', h', X', e', Wx, q⟩ := putF X H.1 H.2.2.2.2.1 H.2.2.2.1 (host := "") (Or.inl w) Via.refl eT F X0 (La.imp id fun z => ⟨z.1, z.2.1, H.2.2.2.2.2.2.2.1.trans z.2.2⟩) wi hty hn hf (g := mkF C.2.2.2.1 pc Ls (v :: .ref a :: st)) rfl rfl (hb H.2.1 hd)
  exact .step q (hr h' Wx (F.same Wx) T' _ X' (Fr.snoc X' N ge) e')
/-! arrays by the kind of what they hold -/
section Typed
variable {a : Addr} {j : Int32} {i : Nat}
theorem map_at {α : Type} {f : α → Value} {xs : List α} {x : α} (hv : xs[i]? = some x) : (xs.map f)[i]? = some (f x) := by rw [List.getElem?_map, hv]; rfl
theorem k_ialoadT {xs : List Int32} {x : Int32} (H : Cx C Z own code ml ret nm E.1) (A : IA Z h a xs) (hj : j.toInt = (i : Int)) (hv : xs[i]? = some x) (hd : decode code pc = .ok (.iaload, 1)) (hr : W l R C E h k n (pc + 1) Ls ((.int x) :: st)) : W l R C E h k n pc Ls (.int j :: .ref a :: st) := k_iaload H A hj (map_at hv) hd hr
theorem k_iastoreT {xs : List Int32} {x : Int32} (H : Cx C Z own code ml ret nm E.1) (A : IA Z h a xs) (hj : j.toInt = (i : Int)) (hi : i < xs.length) (ge : E.1 ≤ a) (hd : decode code pc = .ok (.iastore, 1))
    (hr : ∀ h', Keep h h' [a] → IA Z h' a (xs.set i x) → W l R C E h' k n (pc + 1) Ls st) : W l R C E h k n pc Ls ((.int x) :: .int j :: .ref a :: st) := k_iastore H A hj (by simpa using hi) ge hd (fun h' K V => hr h' K (by rw [IA, List.map_set]; exact V))
theorem k_new_int {len : Int32} (m cap : Nat) (H : Cx C Z own code ml ret nm E.1) (w : (Cond.arrayClass .int).before a0 Z = true) (hd : decode code pc = .ok (.newarray .int, 2)) (hm : len.toInt = (m : Int)) (hcap : m ≤ cap) (hB : cap * 8 ≤ 536870912) (hC : k + 1 ≤ R.cells) (hS : n + cap ≤ R.slots)
    (hr : ∀ h' a, a = h.size → E.1 ≤ a → Ext h h' → Exa Z h' a "[I" → IA Z h' a (List.replicate m 0) → W l R C E h' (k + 1) (n + cap) (pc + 2) Ls (.ref a :: st)) : W l R C E h k n pc Ls (.int len :: st) := k_newarray m cap H w rfl hd hm hcap hB hC hS (fun h' a e g X XA V => hr h' a e g X XA (by rw [IA, List.map_replicate]; exact V))
theorem k_laloadT {xs : List Int64} {x : Int64} (H : Cx C Z own code ml ret nm E.1) (A : JA Z h a xs) (hj : j.toInt = (i : Int)) (hv : xs[i]? = some x) (hd : decode code pc = .ok (.laload, 1)) (hr : W l R C E h k n (pc + 1) Ls ((.long x) :: st)) : W l R C E h k n pc Ls (.int j :: .ref a :: st) := k_laload H A hj (map_at hv) hd hr
theorem k_lastoreT {xs : List Int64} {x : Int64} (H : Cx C Z own code ml ret nm E.1) (A : JA Z h a xs) (hj : j.toInt = (i : Int)) (hi : i < xs.length) (ge : E.1 ≤ a) (hd : decode code pc = .ok (.lastore, 1))
    (hr : ∀ h', Keep h h' [a] → JA Z h' a (xs.set i x) → W l R C E h' k n (pc + 1) Ls st) : W l R C E h k n pc Ls ((.long x) :: .int j :: .ref a :: st) := k_lastore H A hj (by simpa using hi) ge hd (fun h' K V => hr h' K (by rw [JA, List.map_set]; exact V))
theorem k_new_long {len : Int32} (m cap : Nat) (H : Cx C Z own code ml ret nm E.1) (w : (Cond.arrayClass .long).before a0 Z = true) (hd : decode code pc = .ok (.newarray .long, 2)) (hm : len.toInt = (m : Int)) (hcap : m ≤ cap) (hB : cap * 8 ≤ 536870912) (hC : k + 1 ≤ R.cells) (hS : n + cap ≤ R.slots)
    (hr : ∀ h' a, a = h.size → E.1 ≤ a → Ext h h' → Exa Z h' a "[J" → JA Z h' a (List.replicate m 0) → W l R C E h' (k + 1) (n + cap) (pc + 2) Ls (.ref a :: st)) : W l R C E h k n pc Ls (.int len :: st) := k_newarray m cap H w rfl hd hm hcap hB hC hS (fun h' a e g X XA V => hr h' a e g X XA (by rw [JA, List.map_replicate]; exact V))
theorem k_baloadT {xs : List Int8} {x : Int8} (H : Cx C Z own code ml ret nm E.1) (A : BA Z h a xs) (hj : j.toInt = (i : Int)) (hv : xs[i]? = some x) (hd : decode code pc = .ok (.baload, 1)) (hr : W l R C E h k n (pc + 1) Ls ((.int x.toInt32) :: st)) : W l R C E h k n pc Ls (.int j :: .ref a :: st) := k_baload H A hj (map_at hv) hd hr
theorem k_bastoreT {xs : List Int8} {x : Int32} (H : Cx C Z own code ml ret nm E.1) (A : BA Z h a xs) (hj : j.toInt = (i : Int)) (hi : i < xs.length) (ge : E.1 ≤ a) (hd : decode code pc = .ok (.bastore, 1))
    (hr : ∀ h', Keep h h' [a] → BA Z h' a (xs.set i x.toInt8) → W l R C E h' k n (pc + 1) Ls st) : W l R C E h k n pc Ls ((.int x) :: .int j :: .ref a :: st) := k_bastore H A hj (by simpa using hi) ge hd (fun h' K V => hr h' K (by rw [BA, List.map_set]; exact V))
theorem k_new_byte {len : Int32} (m cap : Nat) (H : Cx C Z own code ml ret nm E.1) (w : (Cond.arrayClass .byte).before a0 Z = true) (hd : decode code pc = .ok (.newarray .byte, 2)) (hm : len.toInt = (m : Int)) (hcap : m ≤ cap) (hB : cap * 8 ≤ 536870912) (hC : k + 1 ≤ R.cells) (hS : n + cap ≤ R.slots)
    (hr : ∀ h' a, a = h.size → E.1 ≤ a → Ext h h' → Exa Z h' a "[B" → BA Z h' a (List.replicate m 0) → W l R C E h' (k + 1) (n + cap) (pc + 2) Ls (.ref a :: st)) : W l R C E h k n pc Ls (.int len :: st) := k_newarray m cap H w rfl hd hm hcap hB hC hS (fun h' a e g X XA V => hr h' a e g X XA (by rw [BA, List.map_replicate]; exact V))
theorem k_caloadT {xs : List UInt16} {x : UInt16} (H : Cx C Z own code ml ret nm E.1) (A : CA Z h a xs) (hj : j.toInt = (i : Int)) (hv : xs[i]? = some x) (hd : decode code pc = .ok (.caload, 1)) (hr : W l R C E h k n (pc + 1) Ls ((.int x.toUInt32.toInt32) :: st)) : W l R C E h k n pc Ls (.int j :: .ref a :: st) := k_caload H A hj (map_at hv) hd hr
theorem k_castoreT {xs : List UInt16} {x : Int32} (H : Cx C Z own code ml ret nm E.1) (A : CA Z h a xs) (hj : j.toInt = (i : Int)) (hi : i < xs.length) (ge : E.1 ≤ a) (hd : decode code pc = .ok (.castore, 1))
    (hr : ∀ h', Keep h h' [a] → CA Z h' a (xs.set i x.toUInt32.toUInt16) → W l R C E h' k n (pc + 1) Ls st) : W l R C E h k n pc Ls ((.int x) :: .int j :: .ref a :: st) := k_castore H A hj (by simpa using hi) ge hd (fun h' K V => hr h' K (by rw [CA, List.map_set]; exact V))
theorem k_new_char {len : Int32} (m cap : Nat) (H : Cx C Z own code ml ret nm E.1) (w : (Cond.arrayClass .char).before a0 Z = true) (hd : decode code pc = .ok (.newarray .char, 2)) (hm : len.toInt = (m : Int)) (hcap : m ≤ cap) (hB : cap * 8 ≤ 536870912) (hC : k + 1 ≤ R.cells) (hS : n + cap ≤ R.slots)
    (hr : ∀ h' a, a = h.size → E.1 ≤ a → Ext h h' → Exa Z h' a "[C" → CA Z h' a (List.replicate m 0) → W l R C E h' (k + 1) (n + cap) (pc + 2) Ls (.ref a :: st)) : W l R C E h k n pc Ls (.int len :: st) := k_newarray m cap H w rfl hd hm hcap hB hC hS (fun h' a e g X XA V => hr h' a e g X XA (by rw [CA, List.map_replicate]; exact V))
theorem fits_of {ty : FieldType} {vs : List Value} {c : Cell} (A : Arr Z h a c ty) (e : c.slots = vs.toArray) (hf : ∀ v ∈ vs, fits ty v = true) : FitC Z c := fitC_of A fun i hi v hv => hf v (by rw [e] at hv; simp at hv; exact List.mem_of_getElem? hv)
theorem k_clone {idx w cap : Nat} {ty : FieldType} {ad : String} {vs : List Value} (H : Cx C Z own code ml ret nm E.1)
    (w1 : (Cond.methodLink own idx ⟨ad, "clone", "()Ljava/lang/Object;"⟩).before a0 Z = true) (w2 : (Cond.sameMethod ad "java/lang/Object" "clone" "()Ljava/lang/Object;").before a0 Z = true) (w3 : (Cond.native ⟨"java/lang/Object", "clone", "()Ljava/lang/Object;"⟩).before a0 Z = true)
    (w4 : (Cond.instanceMethod ⟨"java/lang/Object", "clone", "()Ljava/lang/Object;"⟩).before a0 Z = true) (w5 : (Cond.selects ad ⟨ad, "clone", "()Ljava/lang/Object;"⟩ ⟨"java/lang/Object", "clone", "()Ljava/lang/Object;"⟩).before a0 Z = true) (w6 : (Cond.castable ad "java/lang/Cloneable").before a0 Z = true)
    (V : Vec Z h a ty vs) (hf : ∀ v ∈ vs, fits ty v = true) (X0 : Exa Z h a ad) (hd : decode code pc = .ok (.invokevirtual idx, 3)) (hsz : Ls.size = ml) (hF : 1 ≤ R.frames) (hw : (st.map fun v => v.category).sum = w) (hL : w + 14 ≤ R.locals) (hcap : vs.length ≤ cap) (hC : k + 1 ≤ R.cells) (hS : n + cap ≤ R.slots)
    (hr : ∀ h' b, b = h.size → E.1 ≤ b → Ext h h' → Exa Z h' b ad → Vec Z h' b ty vs → W l R C E h' (k + 1) (n + cap) (pc + 3) Ls (.ref b :: st)) : W l R C E h k n pc Ls (.ref a :: st) := fun T L X N eT => by
  obtain ⟨c, A, e, hl⟩ := V
  obtain ⟨T', h', X', e', Ex, A', XA, q⟩ := cloneA X H.1 H.2.2.2.2.1 H.2.2.2.1 w1 w2 w3 w4 w5 w6 eT A X0 (fits_of A e hf) (g := mkF C.2.2.2.1 pc Ls (.ref a :: st)) rfl (by show Ls.size = _; rw [H.2.2.1]; exact hsz) rfl (hb H.2.1 hd) hF (W := w) (cap := cap) (by show 2 * 0 + _ ≤ _; rw [hw]; omega) hL (by rw [e]; simpa using hcap) hC hS
  exact .step q (hr h' h.size rfl (by rw [← eT]; exact size_ge H X) Ex XA ⟨_, A', e, hl⟩ T' _ X' N e')
theorem k_castY {idx : Nat} {K ad : String} (H : Cx C Z own code ml ret nm E.1) (w : (Cond.classLink own idx K).before a0 Z = true) (wc : (Cond.castable ad K).before a0 Z = true) (X0 : Exa Z h a ad) (hd : decode code pc = .ok (.checkcast idx, 3)) (hr : W l R C E h k n (pc + 3) Ls (.ref a :: st)) : W l R C E h k n pc Ls (.ref a :: st) :=
  .viaT (fun T L X eT => castY X H.1 H.2.2.2.2.1 H.2.2.2.1 w eT (Ins.of_exa X0 wc) (g := mkF C.2.2.2.1 pc Ls (.ref a :: st)) rfl rfl (hb H.2.1 hd)) hr
end Typed
/-! calls -/
section Calls
variable {y : MethodName} {bytes : ByteArray} {maxL : Nat} {rt : Option FieldType} {rm : Room} {Q : Option Value → Heap → Prop} {S : List Value}
theorem Goes.trans {T T' : State} {g g' : JFrame} (q : Sp C (T.setTop g) (T'.setTop g')) (r : Goes C E (T'.setTop g')) : Goes C E (T.setTop g) := by
  obtain ⟨t, o, h1, h2⟩ := r; exact ⟨t, o, q.trans h1, h2⟩
theorem payOf {s : State} {p : Program} {e : Env} {below : List Frame} {args : Array Value} {w n0 : Nat} {as' : Array Value} (hc : Ctr l Z y bytes maxL rt rm n0 as' h Q) (hZ : Z.Warmed39 s.vm) (w4 : (Cond.code y bytes maxL rt).before a0 Z = true) (w3 : (Cond.initialized y.cls).before a0 Z = true) (hF : rm.frames + 1 ≤ R.frames) (hL : w + (maxL + 11) + rm.locals ≤ R.locals) :
    Back l R p e below s args y 3 w (fun A a => a = as' ∧ A.U.heap = h ∧ A.cells + rm.cells ≤ R.cells ∧ A.slots + rm.slots ≤ R.slots)
      (fun A _ v B => ∃ L, (Q v B.U.heap ∧ Fr n0 L) ∧ B.locs = A.locs ++ L ∧ B.cells = A.cells + rm.cells ∧ B.slots = A.slots + rm.slots) :=
  backOf (Q := fun v h L => Q v h ∧ Fr n0 L) hc hZ w4 w3 hF hL
theorem k_invS {idx : Nat} (argsL : List Value) (w : Nat) (H : Cx C Z own code ml ret nm E.1) (w1 : (Cond.methodLink own idx y).before a0 Z = true) (w2 : (Cond.static y).before a0 Z = true) (w3 : (Cond.initialized y.cls).before a0 Z = true) (w4 : (Cond.code y bytes maxL rt).before a0 Z = true)
    (hy : y.cls ≠ "java/lang/invoke/MethodHandle" ∧ y.cls ≠ "java/lang/invoke/VarHandle") (hc : E.1 ≤ h.size → Ctr l Z y bytes maxL rt rm E.1 argsL.toArray h Q) (hlen : ∀ sig, parseMethodDescriptor y.desc = some sig → argsL.length = sig.parameters.length)
    (hd : decode code pc = .ok (.invokestatic idx, 3)) (hS : S = argsL.reverse ++ st) (hsz : Ls.size = ml) (hw : (st.map fun v => v.category).sum = w) (hF : rm.frames + 1 ≤ R.frames) (hL : w + (maxL + 11) + rm.locals ≤ R.locals) (hk : k + rm.cells ≤ R.cells) (hn : n + rm.slots ≤ R.slots)
    (hr : ∀ v h', Q v h' → W l R C E h' (k + rm.cells) (n + rm.slots) (pc + 3) Ls (v.toList ++ st)) : W l R C E h k n pc Ls S := fun T L X N eT => by
  obtain ⟨v, _, ⟨T', L', k', n'⟩, -, X', ⟨Lc, ⟨hQ, hN⟩, l', y', z'⟩, q⟩ := Jvm.LawKit.callS X H.1 (y := y) H.2.2.2.1 (mvT H.2.2.2.2.1 w1) (mvT H.2.2.2.2.1 w2) (mvT H.2.2.2.2.1 w3) (mvT H.2.2.2.2.1 w4) hy (payOf (w := w) (hc (by rw [← eT]; exact size_ge H X)) H.2.2.2.2.1 w4 w3 hF hL)
    (g := mkF C.2.2.2.1 pc Ls S) rfl (by show Ls.size = _; rw [H.2.2.1]; exact hsz) (argsL := argsL) (rest := st) hlen hS (by show 2 * 0 + _ ≤ _; rw [hw]; omega) (hb H.2.1 hd) (fun _ _ => ⟨rfl, eT, hk, hn⟩)
  dsimp only [Pt.U, Pt.locs, Pt.cells, Pt.slots] at X' l' y' z' q hQ
  subst l' y' z'
  exact .step q (hr v _ hQ T' _ X' (N.app hN) rfl)
theorem k_invI {idx : Nat} {a : Addr} (argsL : List Value) (w : Nat) (H : Cx C Z own code ml ret nm E.1) (hy1 : y.name = "<init>") (w1 : (Cond.methodLink own idx y).before a0 Z = true) (w2 : (Cond.instanceMethod y).before a0 Z = true) (w3 : (Cond.initialized y.cls).before a0 Z = true) (w4 : (Cond.code y bytes maxL none).before a0 Z = true)
    (hy : y.cls ≠ "java/lang/invoke/MethodHandle" ∧ y.cls ≠ "java/lang/invoke/VarHandle") (hc : E.1 ≤ h.size → Ctr l Z y bytes maxL none rm E.1 (.ref a :: argsL).toArray h Q) (hlen : ∀ sig, parseMethodDescriptor y.desc = some sig → argsL.length = sig.parameters.length)
    (hd : decode code pc = .ok (.invokespecial idx, 3)) (hS : S = argsL.reverse ++ .ref a :: st) (hsz : Ls.size = ml) (hw : (st.map fun v => v.category).sum = w) (hF : rm.frames + 1 ≤ R.frames) (hL : w + (maxL + 11) + rm.locals ≤ R.locals) (hk : k + rm.cells ≤ R.cells) (hn : n + rm.slots ≤ R.slots)
    (hr : ∀ v h', Q v h' → W l R C E h' (k + rm.cells) (n + rm.slots) (pc + 3) Ls (v.toList ++ st)) : W l R C E h k n pc Ls S := fun T L X N eT => by
  obtain ⟨v, _, ⟨T', L', k', n'⟩, -, X', ⟨Lc, ⟨hQ, hN⟩, l', y', z'⟩, q⟩ := X.specialBack H.1 (y := y) hy1 H.2.2.2.1 (mvT H.2.2.2.2.1 w1) (mvT H.2.2.2.2.1 w2) (mvT H.2.2.2.2.1 w4) hy (payOf (w := w) (hc (by rw [← eT]; exact size_ge H X)) H.2.2.2.2.1 w4 w3 hF hL)
    (g := mkF C.2.2.2.1 pc Ls S) rfl (by show Ls.size = _; rw [H.2.2.1]; exact hsz) (Steps.refl _) (a := a) (argsL := argsL) (rest := st) hlen hS (by show 2 * 0 + _ ≤ _; rw [hw]; omega) (hb H.2.1 hd) (fun _ _ => ⟨rfl, eT, hk, hn⟩)
  dsimp only [Pt.U, Pt.locs, Pt.cells, Pt.slots] at X' l' y' z' q hQ
  subst l' y' z'
  exact .trans q (hr v _ hQ T' _ X' (N.app hN) rfl)
theorem k_invV {idx : Nat} {a : Addr} {cls : String} (argsL : List Value) (w : Nat) (H : Cx C Z own code ml ret nm E.1) (w1 : (Cond.methodLink own idx y).before a0 Z = true) (w2 : (Cond.declares y).before a0 Z = true) (w5 : (Cond.selects cls y y).before a0 Z = true) (w6 : (Cond.instanceMethod y).before a0 Z = true) (w3 : (Cond.initialized y.cls).before a0 Z = true) (w4 : (Cond.code y bytes maxL rt).before a0 Z = true)
    (hcl : y.cls = cls) (hy : y.cls ≠ "java/lang/invoke/MethodHandle" ∧ y.cls ≠ "java/lang/invoke/VarHandle") (X0 : Exa Z h a cls) (hc : E.1 ≤ h.size → Ctr l Z y bytes maxL rt rm E.1 (.ref a :: argsL).toArray h Q) (hlen : ∀ sig, parseMethodDescriptor y.desc = some sig → argsL.length = sig.parameters.length)
    (hd : decode code pc = .ok (.invokevirtual idx, 3)) (hS : S = argsL.reverse ++ .ref a :: st) (hsz : Ls.size = ml) (hw : (st.map fun v => v.category).sum = w) (hF : rm.frames + 1 ≤ R.frames) (hL : w + (maxL + 11) + rm.locals ≤ R.locals) (hk : k + rm.cells ≤ R.cells) (hn : n + rm.slots ≤ R.slots)
    (hr : ∀ v h', Q v h' → W l R C E h' (k + rm.cells) (n + rm.slots) (pc + 3) Ls (v.toList ++ st)) : W l R C E h k n pc Ls S := fun T L X N eT => by
  subst hcl
  obtain ⟨cq, kq, qa, qb, qc⟩ := isOf H.2.2.2.2.1 eT X0
  obtain ⟨v, _, ⟨T', L', k', n'⟩, -, X', ⟨Lc, ⟨hQ, hN⟩, l', y', z'⟩, q⟩ := X.virtualBack H.1 (y := y) (z := y) H.2.2.2.1 (mvT H.2.2.2.2.1 w1) (mvT H.2.2.2.2.1 w2) (notFace_of_selects (args := #[]) (mvT H.2.2.2.2.1 w5)) (mvT H.2.2.2.2.1 w5) (mvT H.2.2.2.2.1 w6) hy (payOf (w := w) (hc (by rw [← eT]; exact size_ge H X)) H.2.2.2.2.1 w4 w3 hF hL) qa qc
    (g := mkF C.2.2.2.1 pc Ls S) rfl (by show Ls.size = _; rw [H.2.2.1]; exact hsz) (Steps.refl _) (argsL := argsL) (rest := st) hlen hS (by show 2 * 0 + _ ≤ _; rw [hw]; omega) (hb H.2.1 hd) (fun _ _ => ⟨rfl, eT, hk, hn⟩)
  dsimp only [Pt.U, Pt.locs, Pt.cells, Pt.slots] at X' l' y' z' q hQ
  subst l' y' z'
  exact .trans q (hr v _ hQ T' _ X' (N.app hN) rfl)
theorem Ctr.of {n0 : Nat} {as' : Array Value} (Ls : Array Slot) (hp : plainFor y = true) (hn0 : n0 ≤ h.size) (hef : ∀ m, entryFrame m as' maxL = mkF m 0 Ls []) (hW : ∀ C : Cxt, Cx C Z y.cls bytes maxL rt y.name n0 → W l rm C (n0, rm.cells, rm.slots, Q) h 0 0 0 Ls []) : Ctr l Z y bytes maxL rt rm n0 as' h Q := by
  refine MetFree.of_bodySF hp hisR ?_
  intro p e s m args below meth c s₁ Bd hml0 hP hK
  obtain ⟨rfl, hZ, hh⟩ := hP
  have hnm := (name_of_methodNamed Bd.named Bd.method).1
  have X0 : Stand p l e rm s m args below meth c s₁ [] 0 0 := Stand.of_body Bd
  have e0 : s₁.heap = h := by rw [← hh, Bd.state]; rfl
  obtain ⟨t, o, h1, h2, h3, v, L, h4, h5, h6⟩ := hW (p, e, s, m, args, below, meth, c) ⟨Bd.exec, Bd.bytes, hml0, findClass_of_methodNamed Bd.named, hZ, Bd.returns, Bd.notSynchronized, hnm, by rw [hh]; exact hn0⟩ s₁ [] X0 (Fr.nil n0) e0
  exact ⟨t, o, castTop (hef m) h1, h2, h3, v, L, h4, h5, h6⟩
/-- the judged body itself -/
theorem met_of {n0 K N : Nat} {ws : List Jvm.Cond} {as' : Array Value} (Ls : Array Slot) (hp : plainFor y = true) (hn0 : n0 ≤ h.size) (hef : ∀ m, entryFrame m as' maxL = mkF m 0 Ls []) (hW : ∀ C : Cxt, Cx C Z y.cls bytes maxL rt y.name n0 → W l rm C (n0, K, N, Q) h 0 0 0 Ls []) :
    MetFree l y (head1 (Cond.code y bytes maxL rt :: ws) rm) (fun a U => a = as' ∧ Z.Warmed39 U.vm ∧ U.heap = h) (fun _ _ _ _ _ => True) (fun _ U o U' => ∃ v L, o = .returned v ∧ (Q v U'.heap ∧ Fr n0 L) ∧ FrameEnd U o U' L K N) := by
  refine MetFree.of_bodySF hp hisR ?_
  intro p e s m args below meth c s₁ Bd hml0 hP hK
  obtain ⟨rfl, hZ, hh⟩ := hP
  have hnm := (name_of_methodNamed Bd.named Bd.method).1
  have X0 : Stand p l e rm s m args below meth c s₁ [] 0 0 := Stand.of_body Bd
  have e0 : s₁.heap = h := by rw [← hh, Bd.state]; rfl
  obtain ⟨t, o, h1, h2, h3, v, L, h4, h5, h6⟩ := hW (p, e, s, m, args, below, meth, c) ⟨Bd.exec, Bd.bytes, hml0, findClass_of_methodNamed Bd.named, hZ, Bd.returns, Bd.notSynchronized, hnm, by rw [hh]; exact hn0⟩ s₁ [] X0 (Fr.nil n0) e0
  exact ⟨t, o, castTop (hef m) h1, h2, h3, v, L, h4, h5, h6⟩
end Calls
/-! ends -/
theorem k_retInt {x : Int32} (H : Cx C Z own code ml (some .int) nm E.1) (hd : decode code pc = .ok (.ireturn, 1)) (hk : k ≤ E.2.1) (hn : n ≤ E.2.2.1) (hq : E.2.2.2 (some (.int x)) h) : W l R C E h k n pc Ls (.int x :: st) := fun T L X N eT => by
  obtain ⟨fs, hr, hrun, hend, hW, hs⟩ := X.leave (v := some (.int x)) (fun z => by rw [H.2.2.2.2.2.1] at z; cases z) H.2.2.2.2.2.2.1
  exact ⟨_, _, retOut X H.1 H.2.2.2.2.2.1 rfl (Or.inl ⟨rfl, Or.inl rfl, _, rfl⟩) (hb H.2.1 hd) hr, hrun, hend, _, L, rfl, ⟨by subst eT; exact hq, N⟩, ⟨_, rfl⟩, hW, hs.mono hk hn⟩
theorem k_retN' {x : Int32} {t : FieldType} (ht : t = .boolean ∨ t = .byte ∨ t = .char ∨ t = .short) (H : Cx C Z own code ml (some t) nm E.1) (hd : decode code pc = .ok (.ireturn, 1)) (hk : k ≤ E.2.1) (hn : n ≤ E.2.2.1) (hq : E.2.2.2 (some (.int (nar t x))) h) : W l R C E h k n pc Ls (.int x :: st) := fun T L X N eT => by
  obtain ⟨fs, hr, hrun, hend, hW, hs⟩ := X.leave (v := some (.int (nar t x))) (fun z => by rw [H.2.2.2.2.2.1] at z; cases z) H.2.2.2.2.2.2.1
  exact ⟨_, _, retN X H.1 H.2.2.2.2.2.1 ht (hb H.2.1 hd) hr, hrun, hend, _, L, rfl, ⟨by subst eT; exact hq, N⟩, ⟨_, rfl⟩, hW, hs.mono hk hn⟩
theorem k_retLong {x : Int64} (H : Cx C Z own code ml (some .long) nm E.1) (hd : decode code pc = .ok (.lreturn, 1)) (hk : k ≤ E.2.1) (hn : n ≤ E.2.2.1) (hq : E.2.2.2 (some (.long x)) h) : W l R C E h k n pc Ls (.long x :: st) := fun T L X N eT => by
  obtain ⟨fs, hr, hrun, hend, hW, hs⟩ := X.leave (v := some (.long x)) (fun z => by rw [H.2.2.2.2.2.1] at z; cases z) H.2.2.2.2.2.2.1
  exact ⟨_, _, retOut X H.1 H.2.2.2.2.2.1 rfl (Or.inr (Or.inl ⟨rfl, rfl, _, rfl⟩)) (hb H.2.1 hd) hr, hrun, hend, _, L, rfl, ⟨by subst eT; exact hq, N⟩, ⟨_, rfl⟩, hW, hs.mono hk hn⟩
theorem k_retRef {a : Addr} {t : FieldType} (ht : t.isReference = true) (hnar : narrow t (.ref a) = .ref a) (H : Cx C Z own code ml (some t) nm E.1) (hd : decode code pc = .ok (.areturn, 1)) (hk : k ≤ E.2.1) (hn : n ≤ E.2.2.1) (hq : E.2.2.2 (some (.ref a)) h) : W l R C E h k n pc Ls (.ref a :: st) := fun T L X N eT => by
  obtain ⟨fs, hr, hrun, hend, hW, hs⟩ := X.leave (v := some (.ref a)) (fun z => by rw [H.2.2.2.2.2.1] at z; cases z) H.2.2.2.2.2.2.1
  exact ⟨_, _, retOut X H.1 H.2.2.2.2.2.1 hnar (Or.inr (Or.inr (Or.inr (Or.inr ⟨rfl, ht, rfl⟩)))) (hb H.2.1 hd) hr, hrun, hend, _, L, rfl, ⟨by subst eT; exact hq, N⟩, ⟨_, rfl⟩, hW, hs.mono hk hn⟩
theorem k_retVoid (H : Cx C Z own code ml none nm E.1) (hd : decode code pc = .ok (.return_, 1)) (hk : k ≤ E.2.1) (hn : n ≤ E.2.2.1) (hq : E.2.2.2 none h) : W l R C E h k n pc Ls [] := fun T L X N eT => by
  obtain ⟨fs, hr, hrun, hend, hW, hs⟩ := X.leave (v := none) (fun _ => rfl) H.2.2.2.2.2.2.1
  exact ⟨_, _, X.returnOut H.1 H.2.2.2.2.2.1 (hb H.2.1 hd) hr, hrun, hend, _, L, rfl, ⟨by subst eT; exact hq, N⟩, ⟨_, rfl⟩, hW, hs.mono hk hn⟩
end Own
end Jvm.OwnKit
namespace Jvm.OwnKit
/-! small naturals as ints -/
theorem lt_nat {x y : Int32} {i j : Nat} (hx : x.toInt = (i : Int)) (hy : y.toInt = (j : Int)) : x < y ↔ i < j := by rw [Int32.lt_iff_toInt_lt, hx, hy]; omega
theorem eq_nat {x y : Int32} {i j : Nat} (hx : x.toInt = (i : Int)) (hy : y.toInt = (j : Int)) : x = y ↔ i = j := by rw [← Int32.toInt_inj, hx, hy]; omega
theorem add_nat {x y : Int32} {i j : Nat} (hx : x.toInt = (i : Int)) (hy : y.toInt = (j : Int)) (hb : i + j < 2147483648) : (x + y).toInt = ((i + j : Nat) : Int) := by rw [Jvm.Kit.i32_add] <;> rw [hx, hy] <;> omega
theorem sub_nat {x y : Int32} {i j : Nat} (hx : x.toInt = (i : Int)) (hy : y.toInt = (j : Int)) (hb : j ≤ i) : (x - y).toInt = ((i - j : Nat) : Int) := by have := x.toInt_lt; rw [Jvm.Kit.i32_sub] <;> rw [hx, hy] <;> omega
theorem mul_nat {x y : Int32} {i j : Nat} (hx : x.toInt = (i : Int)) (hy : y.toInt = (j : Int)) (hb : i * j < 2147483648) : (x * y).toInt = ((i * j : Nat) : Int) := by
  have e : (i : Int) * (j : Int) = ((i * j : Nat) : Int) := by simp
  rw [Jvm.Kit.i32_mul] <;> rw [hx, hy, e] <;> omega
theorem rem_nat {x y : Int32} {i j : Nat} (hx : x.toInt = (i : Int)) (hy : y.toInt = (j : Int)) : (x % y).toInt = ((i % j : Nat) : Int) := by rw [Jvm.Kit.i32_rem_nonneg (by omega), hx, hy]; simp
theorem nat_of_nonneg {x : Int32} (h : 0 ≤ x.toInt) : ∃ i : Nat, x.toInt = (i : Int) ∧ i < 2147483648 := ⟨x.toInt.toNat, by omega, by have := x.toInt_lt; omega⟩
/-- a mask of k ones: a natural below 2 ^ k -/
theorem mask_nat (x m : Int32) (k : Nat) (hk : k < 32) (hm : m.toBitVec.toNat = 2 ^ k - 1) : ∃ i : Nat, (x &&& m).toInt = (i : Int) ∧ i < 2 ^ k := by
  have e := Jvm.Kit.i32_mask x m hk hm
  have p : (0 : Int) < 2 ^ k := Int.pow_pos (by omega)
  have h1 := Int.emod_nonneg x.toInt (Int.ne_of_gt p)
  have h2 := Int.emod_lt_of_pos x.toInt p
  refine ⟨(x.toInt % 2 ^ k).toNat, by rw [e]; omega, ?_⟩
  have h3 : ((2 ^ k : Nat) : Int) = 2 ^ k := by simp
  omega
theorem mod_nat (x m y : Int32) (k j : Nat) (hk : k < 32) (hm : m.toBitVec.toNat = 2 ^ k - 1) (hy : y.toInt = (j : Int)) (hj : 0 < j) : ∃ i : Nat, ((x &&& m) % y).toInt = (i : Int) ∧ i < j := by
  obtain ⟨i, h1, h2⟩ := mask_nat x m k hk hm
  exact ⟨i % j, rem_nat h1 hy, Nat.mod_lt _ hj⟩
theorem div_nat {x y : Int32} {i j : Nat} (hx : x.toInt = (i : Int)) (hy : y.toInt = (j : Int)) : (x / y).toInt = ((i / j : Nat) : Int) := by
  rw [Jvm.Kit.i32_div (by omega), hx, hy]; rfl
theorem ushr_nat {x y : Int32} {i : Nat} (k : Nat) (hx : x.toInt = (i : Int)) (hy : (y &&& 31).toUInt32.toNat = k) (hk : k < 32) : (Jvm.Free.XT.ushr x y).toInt = ((i / 2 ^ k : Nat) : Int) := by
  unfold Jvm.Free.XT.ushr
  rw [Jvm.Kit.i32_iushr (by rw [Int32.le_iff_toInt_le, hx]; exact Int.natCast_nonneg _) hy hk, hx]; simp
theorem c16 (c : UInt16) : c.toUInt32.toInt32.toUInt32.toUInt16 = c := by simp
theorem b8 (b : Int8) : b.toInt32.toInt8 = b := by simp
/-- a local's slot of one word -/
def OneW (s : Slot) : Prop := s = .unset ∨ ∃ w, s = .val w ∧ w.category = 1
theorem OneW.unset : OneW .unset := Or.inl rfl
theorem OneW.int (x : Int32) : OneW (.val (.int x)) := Or.inr ⟨_, rfl, rfl⟩
theorem OneW.ref (x : Addr) : OneW (.val (.ref x)) := Or.inr ⟨_, rfl, rfl⟩
end Jvm.OwnKit
namespace Jvm.Pilot.@@N@@
open Jvm Jvm.ClassFile Sem Op Lib Jvm.Free Jvm.Stand Jvm.LawKit Jvm.RoadKit Jvm.OwnKit Bundle Jvm.Pilot.@@N@@.Jvm.D
theorem pn_0 : plainName "com/example/querent/querent/search/PositionsBelowPinLaw" = true := by first | (simp [plainName, overriddenIn]; done) | decide +kernel
theorem pn_1 : plainName "com/example/querent/querent/search/Positions" = true := by first | (simp [plainName, overriddenIn]; done) | decide +kernel
theorem pd_0 : parseMethodDescriptor "([III)V" = some ⟨[(.array .int), .int, .int], none⟩ := by decide +kernel
theorem pd_1 : parseMethodDescriptor "(ZII)I" = some ⟨[.boolean, .int, .int], some .int⟩ := by decide +kernel
theorem pd_2 : parseMethodDescriptor "([II)I" = some ⟨[(.array .int), .int], some .int⟩ := by decide +kernel
theorem own_get {α : Type} {xs : List α} {i : Nat} (dv : α) (h : i < xs.length) : xs[i]? = some (xs.getD i dv) := by simp [List.getD_eq_getElem?_getD, h]
def own_lt (t v p : Int32) : Int32 := if t = 0 then 0 else if v < p then 1 else 0
theorem own_lt1 {v p : Int32} (h : v < p) : own_lt 1 v p = 1 := by simp [own_lt, h]
theorem own_lt0 {v p : Int32} (h : ¬ v < p) : own_lt 1 v p = 0 := by simp [own_lt, h]
theorem own_ltz (v p : Int32) : own_lt 0 v p = 0 := rfl
theorem own_sw (x y : Int32) : ∃ u v : Int32, (u.toInt = x.toInt ∧ v.toInt = y.toInt ∨ u.toInt = y.toInt ∧ v.toInt = x.toInt) ∧ u.toInt ≤ v.toInt ∧ ∀ f : Int32 → Int32 → List Int32, (if y < x then f y x else f x y) = f u v := by
  by_cases c : y < x
  · exact ⟨y, x, Or.inr ⟨rfl, rfl⟩, by rw [Int32.lt_iff_toInt_lt] at c; omega, fun f => if_pos c⟩
  · exact ⟨x, y, Or.inl ⟨rfl, rfl⟩, by rw [Int32.lt_iff_toInt_lt] at c; omega, fun f => if_neg c⟩
theorem d1_0 : decode method_2_code 0 = .ok (.aload_n 0, 1) := by decide +kernel
theorem d1_1 : decode method_2_code 1 = .ok (.iload_n 1, 1) := by decide +kernel
theorem d1_2 : decode method_2_code 2 = .ok (.iaload, 1) := by decide +kernel
theorem d1_3 : decode method_2_code 3 = .ok (.aload_n 0, 1) := by decide +kernel
theorem d1_4 : decode method_2_code 4 = .ok (.iload_n 2, 1) := by decide +kernel
theorem d1_5 : decode method_2_code 5 = .ok (.iaload, 1) := by decide +kernel
theorem d1_6 : decode method_2_code 6 = .ok (.if_icmp .le 17, 3) := by decide +kernel
theorem d1_9 : decode method_2_code 9 = .ok (.aload_n 0, 1) := by decide +kernel
theorem d1_10 : decode method_2_code 10 = .ok (.iload_n 1, 1) := by decide +kernel
theorem d1_11 : decode method_2_code 11 = .ok (.iaload, 1) := by decide +kernel
theorem d1_12 : decode method_2_code 12 = .ok (.istore_n 3, 1) := by decide +kernel
theorem d1_13 : decode method_2_code 13 = .ok (.aload_n 0, 1) := by decide +kernel
theorem d1_14 : decode method_2_code 14 = .ok (.iload_n 1, 1) := by decide +kernel
theorem d1_15 : decode method_2_code 15 = .ok (.aload_n 0, 1) := by decide +kernel
theorem d1_16 : decode method_2_code 16 = .ok (.iload_n 2, 1) := by decide +kernel
theorem d1_17 : decode method_2_code 17 = .ok (.iaload, 1) := by decide +kernel
theorem d1_18 : decode method_2_code 18 = .ok (.iastore, 1) := by decide +kernel
theorem d1_19 : decode method_2_code 19 = .ok (.aload_n 0, 1) := by decide +kernel
theorem d1_20 : decode method_2_code 20 = .ok (.iload_n 2, 1) := by decide +kernel
theorem d1_21 : decode method_2_code 21 = .ok (.iload_n 3, 1) := by decide +kernel
theorem d1_22 : decode method_2_code 22 = .ok (.iastore, 1) := by decide +kernel
theorem d1_23 : decode method_2_code 23 = .ok (.return_, 1) := by decide +kernel
abbrev own_rm1_room : Room := { frames := 0, cells := 0, slots := 0, locals := 0 }
set_option maxRecDepth 65536 in
set_option maxHeartbeats 40000000 in
theorem rm1 (l : Launch) (Z : State) (a0 : Array Value) (hw : ∀ d ∈ tables_1, d.before a0 Z = true) (n0 : Nat) (h0 : Heap) (Z0 : n0 ≤ h0.size) (a : Addr) (xs : List Int32) (ii jj : Int32) (i j : Nat) (x y : Int32) (ge : n0 ≤ a) (V : IA Z h0 a xs) (hi : ii.toInt = (i : Int)) (hj : jj.toInt = (j : Int)) (hx : xs[i]? = some x) (hy : xs[j]? = some y) :
    Ctr l Z (⟨"com/example/querent/querent/search/PositionsBelowPinLaw", "cs", "([III)V"⟩ : MethodName) method_2_code 4 none own_rm1_room n0 #[(.ref a), (.int ii), (.int jj)] h0 (fun v h => v = none ∧ Keep h0 h [a] ∧ IA Z h a (if y < x then (xs.set i y).set j x else xs)) := by
  refine Ctr.of #[.val (.ref a), .val (.int ii), .val (.int jj), .unset] (plainFor_of_name pn_0) Z0 (fun m => by first | (simp [entryFrame, mkF, argsToLocals, Value.category]; done) | rfl) ?_
  intro C H
  refine k_aloadN (pc := 0) H d1_0 rfl rfl ?_
  refine k_iloadN (pc := 1) H d1_1 rfl ?_
  refine k_ialoadT (i := i) (x := x) (pc := 2) H V (hi) (hx) d1_2 ?_
  refine k_aloadN (pc := 3) H d1_3 rfl rfl ?_
  refine k_iloadN (pc := 4) H d1_4 rfl ?_
  refine k_ialoadT (i := j) (x := y) (pc := 5) H V (hj) (hy) d1_5 ?_
  refine k_icmpR (P := y < x) 23 (pc := 6) H d1_6 rfl XT.ii_le_t XT.ii_le_f (fun c0 => ?_) (fun c0 => ?_)
  · exact k_retVoid (pc := 23) H d1_23 (by show 0 ≤ own_rm1_room.cells; decide) (by show 0 ≤ own_rm1_room.slots; decide) (⟨rfl, (Keep.refl h0 [a]), by rw [if_neg c0]; exact V⟩)
  · refine k_aloadN (pc := 9) H d1_9 rfl rfl ?_
    refine k_iloadN (pc := 10) H d1_10 rfl ?_
    refine k_ialoadT (i := i) (x := x) (pc := 11) H V (hi) (hx) d1_11 ?_
    refine k_istoreN (pc := 12) H d1_12 (Ls' := #[.val (.ref a), .val (.int ii), .val (.int jj), .val (.int x)]) rfl ?_
    refine k_aloadN (pc := 13) H d1_13 rfl rfl ?_
    refine k_iloadN (pc := 14) H d1_14 rfl ?_
    refine k_aloadN (pc := 15) H d1_15 rfl rfl ?_
    refine k_iloadN (pc := 16) H d1_16 rfl ?_
    refine k_ialoadT (i := j) (x := y) (pc := 17) H V (hj) (hy) d1_17 ?_
    have li := (List.getElem?_eq_some_iff.mp hx).1
    have lj := (List.getElem?_eq_some_iff.mp hy).1
    refine k_iastoreT (i := i) (pc := 18) H V (hi) (li) ge d1_18 ?_
    intro h1 K2 V3
    have KW4 : Keep h0 h1 [a] := (Keep.refl h0 [a]).trans K2 (allS (Or.inl (List.mem_of_getElem? (i := 0) rfl)) all0)
    refine k_aloadN (pc := 19) H d1_19 rfl rfl ?_
    refine k_iloadN (pc := 20) H d1_20 rfl ?_
    refine k_iloadN (pc := 21) H d1_21 rfl ?_
    refine k_iastoreT (i := j) (pc := 22) H V3 (hj) (by simpa using lj) ge d1_22 ?_
    intro h5 K6 V7
    have KW8 : Keep h0 h5 [a] := KW4.trans K6 (allS (Or.inl (List.mem_of_getElem? (i := 0) rfl)) all0)
    exact k_retVoid (pc := 23) H d1_23 (by show 0 ≤ own_rm1_room.cells; decide) (by show 0 ≤ own_rm1_room.slots; decide) (⟨rfl, KW8, by rw [if_pos c0]; exact V7⟩)
theorem d2_0 : decode method_3_code 0 = .ok (.iload_n 0, 1) := by decide +kernel
theorem d2_1 : decode method_3_code 1 = .ok (.ifCond .eq 12, 3) := by decide +kernel
theorem d2_4 : decode method_3_code 4 = .ok (.iload_n 1, 1) := by decide +kernel
theorem d2_5 : decode method_3_code 5 = .ok (.iload_n 2, 1) := by decide +kernel
theorem d2_6 : decode method_3_code 6 = .ok (.if_icmp .ge 7, 3) := by decide +kernel
theorem d2_9 : decode method_3_code 9 = .ok (.iconst 1, 1) := by decide +kernel
theorem d2_10 : decode method_3_code 10 = .ok (.goto 4, 3) := by decide +kernel
theorem d2_13 : decode method_3_code 13 = .ok (.iconst 0, 1) := by decide +kernel
theorem d2_14 : decode method_3_code 14 = .ok (.ireturn, 1) := by decide +kernel
abbrev own_rm2_room : Room := { frames := 0, cells := 0, slots := 0, locals := 0 }
set_option maxRecDepth 65536 in
set_option maxHeartbeats 40000000 in
theorem rm2 (l : Launch) (Z : State) (a0 : Array Value) (hw : ∀ d ∈ tables_1, d.before a0 Z = true) (n0 : Nat) (h0 : Heap) (Z0 : n0 ≤ h0.size) (t v' p : Int32)  :
    Ctr l Z (⟨"com/example/querent/querent/search/PositionsBelowPinLaw", "lt", "(ZII)I"⟩ : MethodName) method_3_code 3 (some .int) own_rm2_room n0 #[(.int t), (.int v'), (.int p)] h0 (fun v h => v = some (.int (own_lt t v' p)) ∧ h = h0) := by
  refine Ctr.of #[.val (.int t), .val (.int v'), .val (.int p)] (plainFor_of_name pn_0) Z0 (fun m => by first | (simp [entryFrame, mkF, argsToLocals, Value.category]; done) | rfl) ?_
  intro C H
  refine k_iloadN (pc := 0) H d2_0 rfl ?_
  refine k_iff0 (P := t = 0) 13 (pc := 1) H d2_1 rfl XT.i0_eq_t XT.i0_eq_f (fun c1 => ?_) (fun c1 => ?_)
  · refine k_iconst (0 : Int32) (pc := 13) H d2_13 rfl ?_
    exact k_retInt (pc := 14) H d2_14 (by show 0 ≤ own_rm2_room.cells; decide) (by show 0 ≤ own_rm2_room.slots; decide) (⟨by simp only [own_lt, *, if_true, if_false], rfl⟩)
  · refine k_iloadN (pc := 4) H d2_4 rfl ?_
    refine k_iloadN (pc := 5) H d2_5 rfl ?_
    refine k_icmpR (P := v' < p) 13 (pc := 6) H d2_6 rfl XT.ii_ge_t XT.ii_ge_f (fun c6 => ?_) (fun c6 => ?_)
    · refine k_iconst (0 : Int32) (pc := 13) H d2_13 rfl ?_
      exact k_retInt (pc := 14) H d2_14 (by show 0 ≤ own_rm2_room.cells; decide) (by show 0 ≤ own_rm2_room.slots; decide) (⟨by simp only [own_lt, *, if_true, if_false], rfl⟩)
    · refine k_iconst (1 : Int32) (pc := 9) H d2_9 rfl ?_
      refine k_goto 14 (pc := 10) H d2_10 rfl ?_
      exact k_retInt (pc := 14) H d2_14 (by show 0 ≤ own_rm2_room.cells; decide) (by show 0 ≤ own_rm2_room.slots; decide) (⟨by simp only [own_lt, *, if_true, if_false], rfl⟩)
theorem d3_0 : decode prog_34_method_5_code 0 = .ok (.iconst 0, 1) := by decide +kernel
theorem d3_1 : decode prog_34_method_5_code 1 = .ok (.istore_n 2, 1) := by decide +kernel
theorem d3_2 : decode prog_34_method_5_code 2 = .ok (.aload_n 0, 1) := by decide +kernel
theorem d3_3 : decode prog_34_method_5_code 3 = .ok (.arraylength, 1) := by decide +kernel
theorem d3_4 : decode prog_34_method_5_code 4 = .ok (.istore_n 3, 1) := by decide +kernel
theorem d3_5 : decode prog_34_method_5_code 5 = .ok (.iload_n 2, 1) := by decide +kernel
theorem d3_6 : decode prog_34_method_5_code 6 = .ok (.iload_n 3, 1) := by decide +kernel
theorem d3_7 : decode prog_34_method_5_code 7 = .ok (.if_icmp .ge 32, 3) := by decide +kernel
theorem d3_10 : decode prog_34_method_5_code 10 = .ok (.iload_n 2, 1) := by decide +kernel
theorem d3_11 : decode prog_34_method_5_code 11 = .ok (.iload_n 3, 1) := by decide +kernel
theorem d3_12 : decode prog_34_method_5_code 12 = .ok (.iadd, 1) := by decide +kernel
theorem d3_13 : decode prog_34_method_5_code 13 = .ok (.iconst 1, 1) := by decide +kernel
theorem d3_14 : decode prog_34_method_5_code 14 = .ok (.iushr, 1) := by decide +kernel
theorem d3_15 : decode prog_34_method_5_code 15 = .ok (.istore 4, 2) := by decide +kernel
theorem d3_17 : decode prog_34_method_5_code 17 = .ok (.aload_n 0, 1) := by decide +kernel
theorem d3_18 : decode prog_34_method_5_code 18 = .ok (.iload 4, 2) := by decide +kernel
theorem d3_20 : decode prog_34_method_5_code 20 = .ok (.iaload, 1) := by decide +kernel
theorem d3_21 : decode prog_34_method_5_code 21 = .ok (.iload_n 1, 1) := by decide +kernel
theorem d3_22 : decode prog_34_method_5_code 22 = .ok (.if_icmp .ge 11, 3) := by decide +kernel
theorem d3_25 : decode prog_34_method_5_code 25 = .ok (.iload 4, 2) := by decide +kernel
theorem d3_27 : decode prog_34_method_5_code 27 = .ok (.iconst 1, 1) := by decide +kernel
theorem d3_28 : decode prog_34_method_5_code 28 = .ok (.iadd, 1) := by decide +kernel
theorem d3_29 : decode prog_34_method_5_code 29 = .ok (.istore_n 2, 1) := by decide +kernel
theorem d3_30 : decode prog_34_method_5_code 30 = .ok (.goto 6, 3) := by decide +kernel
theorem d3_33 : decode prog_34_method_5_code 33 = .ok (.iload 4, 2) := by decide +kernel
theorem d3_35 : decode prog_34_method_5_code 35 = .ok (.istore_n 3, 1) := by decide +kernel
theorem d3_36 : decode prog_34_method_5_code 36 = .ok (.goto (-31), 3) := by decide +kernel
theorem d3_39 : decode prog_34_method_5_code 39 = .ok (.iload_n 2, 1) := by decide +kernel
theorem d3_40 : decode prog_34_method_5_code 40 = .ok (.ireturn, 1) := by decide +kernel
abbrev own_rm3_room : Room := { frames := 0, cells := 0, slots := 0, locals := 0 }
set_option maxRecDepth 65536 in
set_option maxHeartbeats 40000000 in
theorem rm3 (l : Launch) (Z : State) (a0 : Array Value) (hw : ∀ d ∈ tables_1, d.before a0 Z = true) (n0 : Nat) (h0 : Heap) (Z0 : n0 ≤ h0.size) (a : Addr) (xs : List Int32) (p : Int32) (V : IA Z h0 a xs) (hlen : xs.length < 1000) (hS : ∀ i j, i < j → j < xs.length → (xs.getD i 0).toInt ≤ (xs.getD j 0).toInt) :
    Ctr l Z (⟨"com/example/querent/querent/search/Positions", "below", "([II)I"⟩ : MethodName) prog_34_method_5_code 5 (some .int) own_rm3_room n0 #[(.ref a), (.int p)] h0 (fun v h => ∃ (kk : Nat) (r : Int32), r.toInt = (kk : Int) ∧ kk ≤ xs.length ∧ (∀ i, i < kk → xs.getD i 0 < p) ∧ (∀ i, kk ≤ i → i < xs.length → ¬ xs.getD i 0 < p) ∧ v = some (.int r) ∧ h = h0) := by
  refine Ctr.of #[.val (.ref a), .val (.int p), .unset, .unset, .unset] (plainFor_of_name pn_1) Z0 (fun m => by first | (simp [entryFrame, mkF, argsToLocals, Value.category]; done) | rfl) ?_
  intro C H
  refine k_iconst (0 : Int32) (pc := 0) H d3_0 rfl ?_
  refine k_istoreN (pc := 1) H d3_1 (Ls' := #[.val (.ref a), .val (.int p), .val (.int (0 : Int32)), .unset, .unset]) rfl ?_
  refine k_aloadN (pc := 2) H d3_2 rfl rfl ?_
  obtain ⟨N, hN⟩ : ∃ N : Int32, N.toInt = (xs.length : Int) := ⟨xs.length.toInt32, len_toInt (by omega)⟩
  refine k_arraylength (N := N) (pc := 3) H V (by simpa using hN) d3_3 ?_
  refine k_istoreN (pc := 4) H d3_4 (Ls' := #[.val (.ref a), .val (.int p), .val (.int (0 : Int32)), .val (.int N), .unset]) rfl ?_
  have L : ∀ (m l' u : Nat) (lo hi : Int32) (s4 : Slot) (hs : OneW s4) (h1 : lo.toInt = (l' : Int)) (h2 : hi.toInt = (u : Int)) (hlu : l' ≤ u) (hul : u ≤ xs.length) (hm : u - l' ≤ m) (i1 : ∀ i, i < l' → xs.getD i 0 < p) (i2 : ∀ i, u ≤ i → i < xs.length → ¬ xs.getD i 0 < p), W l own_rm3_room C (n0, own_rm3_room.cells, own_rm3_room.slots, fun v h => ∃ (kk : Nat) (r : Int32), r.toInt = (kk : Int) ∧ kk ≤ xs.length ∧ (∀ i, i < kk → xs.getD i 0 < p) ∧ (∀ i, kk ≤ i → i < xs.length → ¬ xs.getD i 0 < p) ∧ v = some (.int r) ∧ h = h0) h0 0 0 5 #[.val (.ref a), .val (.int p), .val (.int lo), .val (.int hi), s4] [] := by
    intro m
    induction m with
    | zero =>
      intro l' u lo hi s4 hs h1 h2 hlu hul hm i1 i2
      refine k_iloadN (pc := 5) H d3_5 rfl ?_
      refine k_iloadN (pc := 6) H d3_6 rfl ?_
      refine k_icmpT 39 (pc := 7) H d3_7 rfl (XT.ii_ge_t (fun q => by have := (lt_nat h1 h2).mp q; omega)) ?_
      refine k_iloadN (pc := 39) H d3_39 rfl ?_
      exact k_retInt (pc := 40) H d3_40 (by show 0 ≤ own_rm3_room.cells; decide) (by show 0 ≤ own_rm3_room.slots; decide) (⟨l', lo, h1, by omega, i1, fun i hi' => i2 i (by omega), rfl, rfl⟩)
    | succ m ih =>
      intro l' u lo hi s4 hs h1 h2 hlu hul hm i1 i2
      have hq := lt_nat h1 h2
      refine k_iloadN (pc := 5) H d3_5 rfl ?_
      refine k_iloadN (pc := 6) H d3_6 rfl ?_
      refine k_icmpR (P := lo < hi) 39 (pc := 7) H d3_7 rfl XT.ii_ge_t XT.ii_ge_f (fun k0 => ?_) (fun k0 => ?_)
      · refine k_iloadN (pc := 39) H d3_39 rfl ?_
        have : ¬ l' < u := fun z => k0 (hq.mpr z)
        exact k_retInt (pc := 40) H d3_40 (by show 0 ≤ own_rm3_room.cells; decide) (by show 0 ≤ own_rm3_room.slots; decide) (⟨l', lo, h1, by omega, i1, fun i hi' => i2 i (by omega), rfl, rfl⟩)
      · have lt := hq.mp k0
        refine k_iloadN (pc := 10) H d3_10 rfl ?_
        refine k_iloadN (pc := 11) H d3_11 rfl ?_
        refine k_iadd (pc := 12) H d3_12 ?_
        refine k_iconst (1 : Int32) (pc := 13) H d3_13 rfl ?_
        refine k_iushr (pc := 14) H d3_14 ?_
        generalize hv_md : (XT.ushr (lo + hi) (1 : Int32)) = md
        refine k_istore (pc := 15) H d3_15 (Ls' := #[.val (.ref a), .val (.int p), .val (.int lo), .val (.int hi), .val (.int md)]) (XS.store1 rfl hs rfl) ?_
        refine k_aloadN (pc := 17) H d3_17 rfl rfl ?_
        refine k_iload (pc := 18) H d3_18 rfl ?_
        have hmd : md.toInt = (((l' + u) / 2 : Nat) : Int) := by rw [← hv_md]; exact ushr_nat 1 (add_nat h1 h2 (by omega)) (by decide) (by decide)
        obtain ⟨k, hk⟩ : ∃ k, k = (l' + u) / 2 := ⟨_, rfl⟩
        rw [← hk] at hmd
        have k1 : l' ≤ k := by omega
        have k2 : k < u := by omega
        refine k_ialoadT (i := k) (x := (xs.getD k 0)) (pc := 20) H V (hmd) (own_get 0 (by omega)) d3_20 ?_
        refine k_iloadN (pc := 21) H d3_21 rfl ?_
        refine k_icmpR (P := (xs.getD k 0) < p) 33 (pc := 22) H d3_22 rfl XT.ii_ge_t XT.ii_ge_f (fun k3 => ?_) (fun k3 => ?_)
        · refine k_iload (pc := 33) H d3_33 rfl ?_
          refine k_istoreN (pc := 35) H d3_35 (Ls' := #[.val (.ref a), .val (.int p), .val (.int lo), .val (.int md), .val (.int md)]) rfl ?_
          refine k_goto 5 (pc := 36) H d3_36 rfl ?_
          exact ih l' k _ _ _ (OneW.int _) h1 hmd (by omega) (by omega) (by omega) i1 (fun i hi1 hi2 => if e : i = k then by rw [e]; exact k3 else by have := hS k i (by omega) hi2; rw [Int32.lt_iff_toInt_lt] at k3 ⊢; omega)
        · refine k_iload (pc := 25) H d3_25 rfl ?_
          refine k_iconst (1 : Int32) (pc := 27) H d3_27 rfl ?_
          refine k_iadd (pc := 28) H d3_28 ?_
          refine k_istoreN (pc := 29) H d3_29 (Ls' := #[.val (.ref a), .val (.int p), .val (.int (md + (1 : Int32))), .val (.int hi), .val (.int md)]) rfl ?_
          refine k_goto 36 (pc := 30) H d3_30 rfl ?_
          refine k_goto 5 (pc := 36) H d3_36 rfl ?_
          exact ih (k + 1) u _ _ _ (OneW.int _) (add_nat hmd rfl (by omega)) h2 (by omega) hul (by omega) (fun i hi' => if e : i = k then by rw [e]; exact k3 else by have := hS i k (by omega) (by omega); rw [Int32.lt_iff_toInt_lt] at k3 ⊢; omega) i2
  exact L xs.length 0 xs.length _ _ _ OneW.unset rfl hN (by omega) (by omega) (by omega) (fun i hi => by omega) (fun i h1 h2 => by omega)
theorem d0_0 : decode code 0 = .ok (.iconst 5, 1) := by decide +kernel
theorem d0_1 : decode code 1 = .ok (.newarray .int, 2) := by decide +kernel
theorem d0_3 : decode code 3 = .ok (.astore 7, 2) := by decide +kernel
theorem d0_5 : decode code 5 = .ok (.aload 7, 2) := by decide +kernel
theorem d0_7 : decode code 7 = .ok (.iconst 0, 1) := by decide +kernel
theorem d0_8 : decode code 8 = .ok (.lload_n 0, 1) := by decide +kernel
theorem d0_9 : decode code 9 = .ok (.bipush 32, 2) := by decide +kernel
theorem d0_11 : decode code 11 = .ok (.lushr, 1) := by decide +kernel
theorem d0_12 : decode code 12 = .ok (.l2i, 1) := by decide +kernel
theorem d0_13 : decode code 13 = .ok (.iastore, 1) := by decide +kernel
theorem d0_14 : decode code 14 = .ok (.aload 7, 2) := by decide +kernel
theorem d0_16 : decode code 16 = .ok (.iconst 1, 1) := by decide +kernel
theorem d0_17 : decode code 17 = .ok (.lload_n 0, 1) := by decide +kernel
theorem d0_18 : decode code 18 = .ok (.l2i, 1) := by decide +kernel
theorem d0_19 : decode code 19 = .ok (.iastore, 1) := by decide +kernel
theorem d0_20 : decode code 20 = .ok (.aload 7, 2) := by decide +kernel
theorem d0_22 : decode code 22 = .ok (.iconst 2, 1) := by decide +kernel
theorem d0_23 : decode code 23 = .ok (.lload_n 2, 1) := by decide +kernel
theorem d0_24 : decode code 24 = .ok (.bipush 32, 2) := by decide +kernel
theorem d0_26 : decode code 26 = .ok (.lushr, 1) := by decide +kernel
theorem d0_27 : decode code 27 = .ok (.l2i, 1) := by decide +kernel
theorem d0_28 : decode code 28 = .ok (.iastore, 1) := by decide +kernel
theorem d0_29 : decode code 29 = .ok (.aload 7, 2) := by decide +kernel
theorem d0_31 : decode code 31 = .ok (.iconst 3, 1) := by decide +kernel
theorem d0_32 : decode code 32 = .ok (.lload_n 2, 1) := by decide +kernel
theorem d0_33 : decode code 33 = .ok (.l2i, 1) := by decide +kernel
theorem d0_34 : decode code 34 = .ok (.iastore, 1) := by decide +kernel
theorem d0_35 : decode code 35 = .ok (.aload 7, 2) := by decide +kernel
theorem d0_37 : decode code 37 = .ok (.iconst 4, 1) := by decide +kernel
theorem d0_38 : decode code 38 = .ok (.iload 4, 2) := by decide +kernel
theorem d0_40 : decode code 40 = .ok (.iastore, 1) := by decide +kernel
theorem d0_41 : decode code 41 = .ok (.aload 7, 2) := by decide +kernel
theorem d0_43 : decode code 43 = .ok (.iconst 0, 1) := by decide +kernel
theorem d0_44 : decode code 44 = .ok (.iconst 1, 1) := by decide +kernel
theorem d0_45 : decode code 45 = .ok (.invokestatic 7, 3) := by decide +kernel
theorem d0_48 : decode code 48 = .ok (.aload 7, 2) := by decide +kernel
theorem d0_50 : decode code 50 = .ok (.iconst 1, 1) := by decide +kernel
theorem d0_51 : decode code 51 = .ok (.iconst 2, 1) := by decide +kernel
theorem d0_52 : decode code 52 = .ok (.invokestatic 7, 3) := by decide +kernel
theorem d0_55 : decode code 55 = .ok (.aload 7, 2) := by decide +kernel
theorem d0_57 : decode code 57 = .ok (.iconst 2, 1) := by decide +kernel
theorem d0_58 : decode code 58 = .ok (.iconst 3, 1) := by decide +kernel
theorem d0_59 : decode code 59 = .ok (.invokestatic 7, 3) := by decide +kernel
theorem d0_62 : decode code 62 = .ok (.aload 7, 2) := by decide +kernel
theorem d0_64 : decode code 64 = .ok (.iconst 3, 1) := by decide +kernel
theorem d0_65 : decode code 65 = .ok (.iconst 4, 1) := by decide +kernel
theorem d0_66 : decode code 66 = .ok (.invokestatic 7, 3) := by decide +kernel
theorem d0_69 : decode code 69 = .ok (.aload 7, 2) := by decide +kernel
theorem d0_71 : decode code 71 = .ok (.iconst 0, 1) := by decide +kernel
theorem d0_72 : decode code 72 = .ok (.iconst 1, 1) := by decide +kernel
theorem d0_73 : decode code 73 = .ok (.invokestatic 7, 3) := by decide +kernel
theorem d0_76 : decode code 76 = .ok (.aload 7, 2) := by decide +kernel
theorem d0_78 : decode code 78 = .ok (.iconst 1, 1) := by decide +kernel
theorem d0_79 : decode code 79 = .ok (.iconst 2, 1) := by decide +kernel
theorem d0_80 : decode code 80 = .ok (.invokestatic 7, 3) := by decide +kernel
theorem d0_83 : decode code 83 = .ok (.aload 7, 2) := by decide +kernel
theorem d0_85 : decode code 85 = .ok (.iconst 2, 1) := by decide +kernel
theorem d0_86 : decode code 86 = .ok (.iconst 3, 1) := by decide +kernel
theorem d0_87 : decode code 87 = .ok (.invokestatic 7, 3) := by decide +kernel
theorem d0_90 : decode code 90 = .ok (.aload 7, 2) := by decide +kernel
theorem d0_92 : decode code 92 = .ok (.iconst 0, 1) := by decide +kernel
theorem d0_93 : decode code 93 = .ok (.iconst 1, 1) := by decide +kernel
theorem d0_94 : decode code 94 = .ok (.invokestatic 7, 3) := by decide +kernel
theorem d0_97 : decode code 97 = .ok (.aload 7, 2) := by decide +kernel
theorem d0_99 : decode code 99 = .ok (.iconst 1, 1) := by decide +kernel
theorem d0_100 : decode code 100 = .ok (.iconst 2, 1) := by decide +kernel
theorem d0_101 : decode code 101 = .ok (.invokestatic 7, 3) := by decide +kernel
theorem d0_104 : decode code 104 = .ok (.aload 7, 2) := by decide +kernel
theorem d0_106 : decode code 106 = .ok (.iconst 0, 1) := by decide +kernel
theorem d0_107 : decode code 107 = .ok (.iconst 1, 1) := by decide +kernel
theorem d0_108 : decode code 108 = .ok (.invokestatic 7, 3) := by decide +kernel
theorem d0_111 : decode code 111 = .ok (.iload 6, 2) := by decide +kernel
theorem d0_113 : decode code 113 = .ok (.iconst 3, 1) := by decide +kernel
theorem d0_114 : decode code 114 = .ok (.iushr, 1) := by decide +kernel
theorem d0_115 : decode code 115 = .ok (.iconst 1, 1) := by decide +kernel
theorem d0_116 : decode code 116 = .ok (.iand, 1) := by decide +kernel
theorem d0_117 : decode code 117 = .ok (.ifCond .eq 11, 3) := by decide +kernel
theorem d0_120 : decode code 120 = .ok (.aload 7, 2) := by decide +kernel
theorem d0_122 : decode code 122 = .ok (.iconst 1, 1) := by decide +kernel
theorem d0_123 : decode code 123 = .ok (.aload 7, 2) := by decide +kernel
theorem d0_125 : decode code 125 = .ok (.iconst 0, 1) := by decide +kernel
theorem d0_126 : decode code 126 = .ok (.iaload, 1) := by decide +kernel
theorem d0_127 : decode code 127 = .ok (.iastore, 1) := by decide +kernel
theorem d0_128 : decode code 128 = .ok (.iload 6, 2) := by decide +kernel
theorem d0_130 : decode code 130 = .ok (.iconst 4, 1) := by decide +kernel
theorem d0_131 : decode code 131 = .ok (.iushr, 1) := by decide +kernel
theorem d0_132 : decode code 132 = .ok (.iconst 1, 1) := by decide +kernel
theorem d0_133 : decode code 133 = .ok (.iand, 1) := by decide +kernel
theorem d0_134 : decode code 134 = .ok (.ifCond .eq 11, 3) := by decide +kernel
theorem d0_137 : decode code 137 = .ok (.aload 7, 2) := by decide +kernel
theorem d0_139 : decode code 139 = .ok (.iconst 2, 1) := by decide +kernel
theorem d0_140 : decode code 140 = .ok (.aload 7, 2) := by decide +kernel
theorem d0_142 : decode code 142 = .ok (.iconst 1, 1) := by decide +kernel
theorem d0_143 : decode code 143 = .ok (.iaload, 1) := by decide +kernel
theorem d0_144 : decode code 144 = .ok (.iastore, 1) := by decide +kernel
theorem d0_145 : decode code 145 = .ok (.iload 6, 2) := by decide +kernel
theorem d0_147 : decode code 147 = .ok (.iconst 5, 1) := by decide +kernel
theorem d0_148 : decode code 148 = .ok (.iushr, 1) := by decide +kernel
theorem d0_149 : decode code 149 = .ok (.iconst 1, 1) := by decide +kernel
theorem d0_150 : decode code 150 = .ok (.iand, 1) := by decide +kernel
theorem d0_151 : decode code 151 = .ok (.ifCond .eq 11, 3) := by decide +kernel
theorem d0_154 : decode code 154 = .ok (.aload 7, 2) := by decide +kernel
theorem d0_156 : decode code 156 = .ok (.iconst 3, 1) := by decide +kernel
theorem d0_157 : decode code 157 = .ok (.aload 7, 2) := by decide +kernel
theorem d0_159 : decode code 159 = .ok (.iconst 2, 1) := by decide +kernel
theorem d0_160 : decode code 160 = .ok (.iaload, 1) := by decide +kernel
theorem d0_161 : decode code 161 = .ok (.iastore, 1) := by decide +kernel
theorem d0_162 : decode code 162 = .ok (.iload 6, 2) := by decide +kernel
theorem d0_164 : decode code 164 = .ok (.bipush 6, 2) := by decide +kernel
theorem d0_166 : decode code 166 = .ok (.iushr, 1) := by decide +kernel
theorem d0_167 : decode code 167 = .ok (.iconst 1, 1) := by decide +kernel
theorem d0_168 : decode code 168 = .ok (.iand, 1) := by decide +kernel
theorem d0_169 : decode code 169 = .ok (.ifCond .eq 11, 3) := by decide +kernel
theorem d0_172 : decode code 172 = .ok (.aload 7, 2) := by decide +kernel
theorem d0_174 : decode code 174 = .ok (.iconst 4, 1) := by decide +kernel
theorem d0_175 : decode code 175 = .ok (.aload 7, 2) := by decide +kernel
theorem d0_177 : decode code 177 = .ok (.iconst 3, 1) := by decide +kernel
theorem d0_178 : decode code 178 = .ok (.iaload, 1) := by decide +kernel
theorem d0_179 : decode code 179 = .ok (.iastore, 1) := by decide +kernel
theorem d0_180 : decode code 180 = .ok (.iload 6, 2) := by decide +kernel
theorem d0_182 : decode code 182 = .ok (.bipush 7, 2) := by decide +kernel
theorem d0_184 : decode code 184 = .ok (.iand, 1) := by decide +kernel
theorem d0_185 : decode code 185 = .ok (.bipush 6, 2) := by decide +kernel
theorem d0_187 : decode code 187 = .ok (.irem, 1) := by decide +kernel
theorem d0_188 : decode code 188 = .ok (.istore 8, 2) := by decide +kernel
theorem d0_190 : decode code 190 = .ok (.iload 6, 2) := by decide +kernel
theorem d0_192 : decode code 192 = .ok (.bipush 7, 2) := by decide +kernel
theorem d0_194 : decode code 194 = .ok (.iushr, 1) := by decide +kernel
theorem d0_195 : decode code 195 = .ok (.bipush 7, 2) := by decide +kernel
theorem d0_197 : decode code 197 = .ok (.iand, 1) := by decide +kernel
theorem d0_198 : decode code 198 = .ok (.iconst 5, 1) := by decide +kernel
theorem d0_199 : decode code 199 = .ok (.irem, 1) := by decide +kernel
theorem d0_200 : decode code 200 = .ok (.istore 9, 2) := by decide +kernel
theorem d0_202 : decode code 202 = .ok (.iload 6, 2) := by decide +kernel
theorem d0_204 : decode code 204 = .ok (.bipush 10, 2) := by decide +kernel
theorem d0_206 : decode code 206 = .ok (.iushr, 1) := by decide +kernel
theorem d0_207 : decode code 207 = .ok (.iconst 3, 1) := by decide +kernel
theorem d0_208 : decode code 208 = .ok (.iand, 1) := by decide +kernel
theorem d0_209 : decode code 209 = .ok (.istore 10, 2) := by decide +kernel
theorem d0_211 : decode code 211 = .ok (.iload 5, 2) := by decide +kernel
theorem d0_213 : decode code 213 = .ok (.istore 11, 2) := by decide +kernel
theorem d0_215 : decode code 215 = .ok (.iload 10, 2) := by decide +kernel
theorem d0_217 : decode code 217 = .ok (.iconst 1, 1) := by decide +kernel
theorem d0_218 : decode code 218 = .ok (.if_icmp .ne 13, 3) := by decide +kernel
theorem d0_221 : decode code 221 = .ok (.aload 7, 2) := by decide +kernel
theorem d0_223 : decode code 223 = .ok (.iload 9, 2) := by decide +kernel
theorem d0_225 : decode code 225 = .ok (.iaload, 1) := by decide +kernel
theorem d0_226 : decode code 226 = .ok (.istore 11, 2) := by decide +kernel
theorem d0_228 : decode code 228 = .ok (.goto 36, 3) := by decide +kernel
theorem d0_231 : decode code 231 = .ok (.iload 10, 2) := by decide +kernel
theorem d0_233 : decode code 233 = .ok (.iconst 2, 1) := by decide +kernel
theorem d0_234 : decode code 234 = .ok (.if_icmp .ne 15, 3) := by decide +kernel
theorem d0_237 : decode code 237 = .ok (.aload 7, 2) := by decide +kernel
theorem d0_239 : decode code 239 = .ok (.iload 9, 2) := by decide +kernel
theorem d0_241 : decode code 241 = .ok (.iaload, 1) := by decide +kernel
theorem d0_242 : decode code 242 = .ok (.iconst 1, 1) := by decide +kernel
theorem d0_243 : decode code 243 = .ok (.iadd, 1) := by decide +kernel
theorem d0_244 : decode code 244 = .ok (.istore 11, 2) := by decide +kernel
theorem d0_246 : decode code 246 = .ok (.goto 18, 3) := by decide +kernel
theorem d0_249 : decode code 249 = .ok (.iload 10, 2) := by decide +kernel
theorem d0_251 : decode code 251 = .ok (.iconst 3, 1) := by decide +kernel
theorem d0_252 : decode code 252 = .ok (.if_icmp .ne 12, 3) := by decide +kernel
theorem d0_255 : decode code 255 = .ok (.aload 7, 2) := by decide +kernel
theorem d0_257 : decode code 257 = .ok (.iload 9, 2) := by decide +kernel
theorem d0_259 : decode code 259 = .ok (.iaload, 1) := by decide +kernel
theorem d0_260 : decode code 260 = .ok (.iconst 1, 1) := by decide +kernel
theorem d0_261 : decode code 261 = .ok (.isub, 1) := by decide +kernel
theorem d0_262 : decode code 262 = .ok (.istore 11, 2) := by decide +kernel
theorem d0_264 : decode code 264 = .ok (.iload 8, 2) := by decide +kernel
theorem d0_266 : decode code 266 = .ok (.newarray .int, 2) := by decide +kernel
theorem d0_268 : decode code 268 = .ok (.astore 12, 2) := by decide +kernel
theorem d0_270 : decode code 270 = .ok (.iload 8, 2) := by decide +kernel
theorem d0_272 : decode code 272 = .ok (.ifCond .le 11, 3) := by decide +kernel
theorem d0_275 : decode code 275 = .ok (.aload 12, 2) := by decide +kernel
theorem d0_277 : decode code 277 = .ok (.iconst 0, 1) := by decide +kernel
theorem d0_278 : decode code 278 = .ok (.aload 7, 2) := by decide +kernel
theorem d0_280 : decode code 280 = .ok (.iconst 0, 1) := by decide +kernel
theorem d0_281 : decode code 281 = .ok (.iaload, 1) := by decide +kernel
theorem d0_282 : decode code 282 = .ok (.iastore, 1) := by decide +kernel
theorem d0_283 : decode code 283 = .ok (.iload 8, 2) := by decide +kernel
theorem d0_285 : decode code 285 = .ok (.iconst 1, 1) := by decide +kernel
theorem d0_286 : decode code 286 = .ok (.if_icmp .le 11, 3) := by decide +kernel
theorem d0_289 : decode code 289 = .ok (.aload 12, 2) := by decide +kernel
theorem d0_291 : decode code 291 = .ok (.iconst 1, 1) := by decide +kernel
theorem d0_292 : decode code 292 = .ok (.aload 7, 2) := by decide +kernel
theorem d0_294 : decode code 294 = .ok (.iconst 1, 1) := by decide +kernel
theorem d0_295 : decode code 295 = .ok (.iaload, 1) := by decide +kernel
theorem d0_296 : decode code 296 = .ok (.iastore, 1) := by decide +kernel
theorem d0_297 : decode code 297 = .ok (.iload 8, 2) := by decide +kernel
theorem d0_299 : decode code 299 = .ok (.iconst 2, 1) := by decide +kernel
theorem d0_300 : decode code 300 = .ok (.if_icmp .le 11, 3) := by decide +kernel
theorem d0_303 : decode code 303 = .ok (.aload 12, 2) := by decide +kernel
theorem d0_305 : decode code 305 = .ok (.iconst 2, 1) := by decide +kernel
theorem d0_306 : decode code 306 = .ok (.aload 7, 2) := by decide +kernel
theorem d0_308 : decode code 308 = .ok (.iconst 2, 1) := by decide +kernel
theorem d0_309 : decode code 309 = .ok (.iaload, 1) := by decide +kernel
theorem d0_310 : decode code 310 = .ok (.iastore, 1) := by decide +kernel
theorem d0_311 : decode code 311 = .ok (.iload 8, 2) := by decide +kernel
theorem d0_313 : decode code 313 = .ok (.iconst 3, 1) := by decide +kernel
theorem d0_314 : decode code 314 = .ok (.if_icmp .le 11, 3) := by decide +kernel
theorem d0_317 : decode code 317 = .ok (.aload 12, 2) := by decide +kernel
theorem d0_319 : decode code 319 = .ok (.iconst 3, 1) := by decide +kernel
theorem d0_320 : decode code 320 = .ok (.aload 7, 2) := by decide +kernel
theorem d0_322 : decode code 322 = .ok (.iconst 3, 1) := by decide +kernel
theorem d0_323 : decode code 323 = .ok (.iaload, 1) := by decide +kernel
theorem d0_324 : decode code 324 = .ok (.iastore, 1) := by decide +kernel
theorem d0_325 : decode code 325 = .ok (.iload 8, 2) := by decide +kernel
theorem d0_327 : decode code 327 = .ok (.iconst 4, 1) := by decide +kernel
theorem d0_328 : decode code 328 = .ok (.if_icmp .le 11, 3) := by decide +kernel
theorem d0_331 : decode code 331 = .ok (.aload 12, 2) := by decide +kernel
theorem d0_333 : decode code 333 = .ok (.iconst 4, 1) := by decide +kernel
theorem d0_334 : decode code 334 = .ok (.aload 7, 2) := by decide +kernel
theorem d0_336 : decode code 336 = .ok (.iconst 4, 1) := by decide +kernel
theorem d0_337 : decode code 337 = .ok (.iaload, 1) := by decide +kernel
theorem d0_338 : decode code 338 = .ok (.iastore, 1) := by decide +kernel
theorem d0_339 : decode code 339 = .ok (.iload 8, 2) := by decide +kernel
theorem d0_341 : decode code 341 = .ok (.ifCond .le 7, 3) := by decide +kernel
theorem d0_344 : decode code 344 = .ok (.iconst 1, 1) := by decide +kernel
theorem d0_345 : decode code 345 = .ok (.goto 4, 3) := by decide +kernel
theorem d0_348 : decode code 348 = .ok (.iconst 0, 1) := by decide +kernel
theorem d0_349 : decode code 349 = .ok (.aload 7, 2) := by decide +kernel
theorem d0_351 : decode code 351 = .ok (.iconst 0, 1) := by decide +kernel
theorem d0_352 : decode code 352 = .ok (.iaload, 1) := by decide +kernel
theorem d0_353 : decode code 353 = .ok (.iload 11, 2) := by decide +kernel
theorem d0_355 : decode code 355 = .ok (.invokestatic 13, 3) := by decide +kernel
theorem d0_358 : decode code 358 = .ok (.iload 8, 2) := by decide +kernel
theorem d0_360 : decode code 360 = .ok (.iconst 1, 1) := by decide +kernel
theorem d0_361 : decode code 361 = .ok (.if_icmp .le 7, 3) := by decide +kernel
theorem d0_364 : decode code 364 = .ok (.iconst 1, 1) := by decide +kernel
theorem d0_365 : decode code 365 = .ok (.goto 4, 3) := by decide +kernel
theorem d0_368 : decode code 368 = .ok (.iconst 0, 1) := by decide +kernel
theorem d0_369 : decode code 369 = .ok (.aload 7, 2) := by decide +kernel
theorem d0_371 : decode code 371 = .ok (.iconst 1, 1) := by decide +kernel
theorem d0_372 : decode code 372 = .ok (.iaload, 1) := by decide +kernel
theorem d0_373 : decode code 373 = .ok (.iload 11, 2) := by decide +kernel
theorem d0_375 : decode code 375 = .ok (.invokestatic 13, 3) := by decide +kernel
theorem d0_378 : decode code 378 = .ok (.iadd, 1) := by decide +kernel
theorem d0_379 : decode code 379 = .ok (.iload 8, 2) := by decide +kernel
theorem d0_381 : decode code 381 = .ok (.iconst 2, 1) := by decide +kernel
theorem d0_382 : decode code 382 = .ok (.if_icmp .le 7, 3) := by decide +kernel
theorem d0_385 : decode code 385 = .ok (.iconst 1, 1) := by decide +kernel
theorem d0_386 : decode code 386 = .ok (.goto 4, 3) := by decide +kernel
theorem d0_389 : decode code 389 = .ok (.iconst 0, 1) := by decide +kernel
theorem d0_390 : decode code 390 = .ok (.aload 7, 2) := by decide +kernel
theorem d0_392 : decode code 392 = .ok (.iconst 2, 1) := by decide +kernel
theorem d0_393 : decode code 393 = .ok (.iaload, 1) := by decide +kernel
theorem d0_394 : decode code 394 = .ok (.iload 11, 2) := by decide +kernel
theorem d0_396 : decode code 396 = .ok (.invokestatic 13, 3) := by decide +kernel
theorem d0_399 : decode code 399 = .ok (.iadd, 1) := by decide +kernel
theorem d0_400 : decode code 400 = .ok (.iload 8, 2) := by decide +kernel
theorem d0_402 : decode code 402 = .ok (.iconst 3, 1) := by decide +kernel
theorem d0_403 : decode code 403 = .ok (.if_icmp .le 7, 3) := by decide +kernel
theorem d0_406 : decode code 406 = .ok (.iconst 1, 1) := by decide +kernel
theorem d0_407 : decode code 407 = .ok (.goto 4, 3) := by decide +kernel
theorem d0_410 : decode code 410 = .ok (.iconst 0, 1) := by decide +kernel
theorem d0_411 : decode code 411 = .ok (.aload 7, 2) := by decide +kernel
theorem d0_413 : decode code 413 = .ok (.iconst 3, 1) := by decide +kernel
theorem d0_414 : decode code 414 = .ok (.iaload, 1) := by decide +kernel
theorem d0_415 : decode code 415 = .ok (.iload 11, 2) := by decide +kernel
theorem d0_417 : decode code 417 = .ok (.invokestatic 13, 3) := by decide +kernel
theorem d0_420 : decode code 420 = .ok (.iadd, 1) := by decide +kernel
theorem d0_421 : decode code 421 = .ok (.iload 8, 2) := by decide +kernel
theorem d0_423 : decode code 423 = .ok (.iconst 4, 1) := by decide +kernel
theorem d0_424 : decode code 424 = .ok (.if_icmp .le 7, 3) := by decide +kernel
theorem d0_427 : decode code 427 = .ok (.iconst 1, 1) := by decide +kernel
theorem d0_428 : decode code 428 = .ok (.goto 4, 3) := by decide +kernel
theorem d0_431 : decode code 431 = .ok (.iconst 0, 1) := by decide +kernel
theorem d0_432 : decode code 432 = .ok (.aload 7, 2) := by decide +kernel
theorem d0_434 : decode code 434 = .ok (.iconst 4, 1) := by decide +kernel
theorem d0_435 : decode code 435 = .ok (.iaload, 1) := by decide +kernel
theorem d0_436 : decode code 436 = .ok (.iload 11, 2) := by decide +kernel
theorem d0_438 : decode code 438 = .ok (.invokestatic 13, 3) := by decide +kernel
theorem d0_441 : decode code 441 = .ok (.iadd, 1) := by decide +kernel
theorem d0_442 : decode code 442 = .ok (.istore 13, 2) := by decide +kernel
theorem d0_444 : decode code 444 = .ok (.aload 12, 2) := by decide +kernel
theorem d0_446 : decode code 446 = .ok (.iload 11, 2) := by decide +kernel
theorem d0_448 : decode code 448 = .ok (.invokestatic 17, 3) := by decide +kernel
theorem d0_451 : decode code 451 = .ok (.iload 13, 2) := by decide +kernel
theorem d0_453 : decode code 453 = .ok (.if_icmp .ne 7, 3) := by decide +kernel
theorem d0_456 : decode code 456 = .ok (.iconst 1, 1) := by decide +kernel
theorem d0_457 : decode code 457 = .ok (.goto 4, 3) := by decide +kernel
theorem d0_460 : decode code 460 = .ok (.iconst 0, 1) := by decide +kernel
theorem d0_461 : decode code 461 = .ok (.ireturn, 1) := by decide +kernel
set_option maxRecDepth 65536 in
set_option maxHeartbeats 40000000 in
theorem rm0 (l : Launch) (Z : State) (a0 : Array Value) (hw : ∀ d ∈ tables_1, d.before a0 Z = true) (ws : List Jvm.Cond) (n0 : Nat) (h0 : Heap) (Z0 : n0 ≤ h0.size) (ab : Int64) (cd : Int64) (ee : Int32) (ps : Int32) (shp : Int32) :
    MetFree l x (head1 (Jvm.Cond.code x code maxLocals ret :: ws) room_1) (fun as_ U => as_ = #[(.long ab), (.long cd), (.int ee), (.int ps), (.int shp)] ∧ Z.Warmed39 U.vm ∧ U.heap = h0) (fun _ _ _ _ _ => True) (fun _ U o U' => ∃ v L, o = .returned v ∧ ((fun v h => v = some (.int 1)) v U'.heap ∧ Fr n0 L) ∧ FrameEnd U o U' L 16 128) := by
  refine met_of (Q := fun v h => v = some (.int 1)) #[.val (.long ab), .second, .val (.long cd), .second, .val (.int ee), .val (.int ps), .val (.int shp), .unset, .unset, .unset, .unset, .unset, .unset, .unset] (plainFor_of_name pn_0) Z0 (fun m => by first | (simp [entryFrame, mkF, argsToLocals, Value.category, maxLocals]; done) | rfl) ?_
  intro C H
  refine k_iconst (5 : Int32) (pc := 0) H d0_0 rfl ?_
  refine k_new_int (5) 5 (pc := 1) H (wd hw 0 rfl) d0_1 (by decide) (by decide) (by decide) (by decide) (by decide) ?_
  intro h10 a ea11 ge12 E13 XA9 V14
  refine k_astore (pc := 3) H d0_3 rfl (Ls' := #[.val (.long ab), .second, .val (.long cd), .second, .val (.int ee), .val (.int ps), .val (.int shp), .val (.ref a), .unset, .unset, .unset, .unset, .unset, .unset]) rfl ?_
  refine k_aload (pc := 5) H d0_5 rfl rfl ?_
  refine k_iconst (0 : Int32) (pc := 7) H d0_7 rfl ?_
  refine k_lloadN (pc := 8) H d0_8 rfl ?_
  refine k_bipush (32 : Int32) (pc := 9) H d0_9 rfl ?_
  refine k_lushr (pc := 11) H d0_11 ?_
  refine k_l2i (pc := 12) H d0_12 ?_
  refine k_iastoreT (i := 0) (pc := 13) H V14 (by decide) (by simp) ge12 d0_13 ?_
  intro h15 K16 V17
  refine k_aload (pc := 14) H d0_14 rfl rfl ?_
  refine k_iconst (1 : Int32) (pc := 16) H d0_16 rfl ?_
  refine k_lloadN (pc := 17) H d0_17 rfl ?_
  refine k_l2i (pc := 18) H d0_18 ?_
  refine k_iastoreT (i := 1) (pc := 19) H V17 (by decide) (by simp) ge12 d0_19 ?_
  intro h18 K19 V20
  refine k_aload (pc := 20) H d0_20 rfl rfl ?_
  refine k_iconst (2 : Int32) (pc := 22) H d0_22 rfl ?_
  refine k_lloadN (pc := 23) H d0_23 rfl ?_
  refine k_bipush (32 : Int32) (pc := 24) H d0_24 rfl ?_
  refine k_lushr (pc := 26) H d0_26 ?_
  refine k_l2i (pc := 27) H d0_27 ?_
  refine k_iastoreT (i := 2) (pc := 28) H V20 (by decide) (by simp) ge12 d0_28 ?_
  intro h21 K22 V23
  refine k_aload (pc := 29) H d0_29 rfl rfl ?_
  refine k_iconst (3 : Int32) (pc := 31) H d0_31 rfl ?_
  refine k_lloadN (pc := 32) H d0_32 rfl ?_
  refine k_l2i (pc := 33) H d0_33 ?_
  refine k_iastoreT (i := 3) (pc := 34) H V23 (by decide) (by simp) ge12 d0_34 ?_
  intro h24 K25 V26
  refine k_aload (pc := 35) H d0_35 rfl rfl ?_
  refine k_iconst (4 : Int32) (pc := 37) H d0_37 rfl ?_
  refine k_iload (pc := 38) H d0_38 rfl ?_
  refine k_iastoreT (i := 4) (pc := 40) H V26 (by decide) (by simp) ge12 d0_40 ?_
  intro h27 K28 V29
  refine k_aload (pc := 41) H d0_41 rfl rfl ?_
  refine k_iconst (0 : Int32) (pc := 43) H d0_43 rfl ?_
  refine k_iconst (1 : Int32) (pc := 44) H d0_44 rfl ?_
  obtain ⟨t0, hz0⟩ : ∃ z, z = (XT.ushrL ab (32 : Int32)).toInt32 := ⟨_, rfl⟩
  obtain ⟨t1, hz1⟩ : ∃ z, z = ab.toInt32 := ⟨_, rfl⟩
  obtain ⟨t2, hz2⟩ : ∃ z, z = (XT.ushrL cd (32 : Int32)).toInt32 := ⟨_, rfl⟩
  obtain ⟨t3, hz3⟩ : ∃ z, z = cd.toInt32 := ⟨_, rfl⟩
  obtain ⟨t4, hz4⟩ : ∃ z, z = ee := ⟨_, rfl⟩
  have VA : IA Z h27 a [t0, t1, t2, t3, t4] := by rw [hz0, hz1, hz2, hz3, hz4]; simpa [List.replicate] using V29
  clear hz0 hz1 hz2 hz3 hz4
  refine k_invS (y := (⟨"com/example/querent/querent/search/PositionsBelowPinLaw", "cs", "([III)V"⟩ : MethodName)) (st := []) [(.ref a), (.int (0 : Int32)), (.int (1 : Int32))] 0 (pc := 45) H (wd hw 1 rfl) (wd hw 2 rfl) (wd hw 3 rfl) (wd hw 4 rfl) (by decide) (fun z0 => rm1 l Z a0 hw n0 h27 z0 a [t0, t1, t2, t3, t4] (0 : Int32) (1 : Int32) 0 1 _ _ ge12 VA rfl rfl rfl rfl) (lenOf pd_0 rfl) d0_45 rfl rfl rfl (by decide) (by decide) (by decide) (by decide) ?_
  rintro v h30 ⟨rfl, K31, V32⟩
  show W l room_1 C _ h30 1 5 48 #[.val (.long ab), .second, .val (.long cd), .second, .val (.int ee), .val (.int ps), .val (.int shp), .val (.ref a), .unset, .unset, .unset, .unset, .unset, .unset] []
  obtain ⟨t5, t6, ho, hle, hf⟩ := own_sw t0 t1
  have V33 : IA Z h30 a [t5, t6, t2, t3, t4] := by rw [← hf (fun p q => [p, q, t2, t3, t4])]; exact V32
  have o34 : t5.toInt ≤ t6.toInt := by omega
  clear ho hle hf
  refine k_aload (pc := 48) H d0_48 rfl rfl ?_
  refine k_iconst (1 : Int32) (pc := 50) H d0_50 rfl ?_
  refine k_iconst (2 : Int32) (pc := 51) H d0_51 rfl ?_
  refine k_invS (y := (⟨"com/example/querent/querent/search/PositionsBelowPinLaw", "cs", "([III)V"⟩ : MethodName)) (st := []) [(.ref a), (.int (1 : Int32)), (.int (2 : Int32))] 0 (pc := 52) H (wd hw 1 rfl) (wd hw 2 rfl) (wd hw 3 rfl) (wd hw 4 rfl) (by decide) (fun z0 => rm1 l Z a0 hw n0 h30 z0 a [t5, t6, t2, t3, t4] (1 : Int32) (2 : Int32) 1 2 _ _ ge12 V33 rfl rfl rfl rfl) (lenOf pd_0 rfl) d0_52 rfl rfl rfl (by decide) (by decide) (by decide) (by decide) ?_
  rintro v h35 ⟨rfl, K36, V37⟩
  show W l room_1 C _ h35 1 5 55 #[.val (.long ab), .second, .val (.long cd), .second, .val (.int ee), .val (.int ps), .val (.int shp), .val (.ref a), .unset, .unset, .unset, .unset, .unset, .unset] []
  obtain ⟨t7, t8, ho, hle, hf⟩ := own_sw t6 t2
  have V38 : IA Z h35 a [t5, t7, t8, t3, t4] := by rw [← hf (fun p q => [t5, p, q, t3, t4])]; exact V37
  have o39 : t5.toInt ≤ t8.toInt := by omega
  have o40 : t7.toInt ≤ t8.toInt := by omega
  clear ho hle hf
  refine k_aload (pc := 55) H d0_55 rfl rfl ?_
  refine k_iconst (2 : Int32) (pc := 57) H d0_57 rfl ?_
  refine k_iconst (3 : Int32) (pc := 58) H d0_58 rfl ?_
  refine k_invS (y := (⟨"com/example/querent/querent/search/PositionsBelowPinLaw", "cs", "([III)V"⟩ : MethodName)) (st := []) [(.ref a), (.int (2 : Int32)), (.int (3 : Int32))] 0 (pc := 59) H (wd hw 1 rfl) (wd hw 2 rfl) (wd hw 3 rfl) (wd hw 4 rfl) (by decide) (fun z0 => rm1 l Z a0 hw n0 h35 z0 a [t5, t7, t8, t3, t4] (2 : Int32) (3 : Int32) 2 3 _ _ ge12 V38 rfl rfl rfl rfl) (lenOf pd_0 rfl) d0_59 rfl rfl rfl (by decide) (by decide) (by decide) (by decide) ?_
  rintro v h41 ⟨rfl, K42, V43⟩
  show W l room_1 C _ h41 1 5 62 #[.val (.long ab), .second, .val (.long cd), .second, .val (.int ee), .val (.int ps), .val (.int shp), .val (.ref a), .unset, .unset, .unset, .unset, .unset, .unset] []
  obtain ⟨t9, t10, ho, hle, hf⟩ := own_sw t8 t3
  have V44 : IA Z h41 a [t5, t7, t9, t10, t4] := by rw [← hf (fun p q => [t5, t7, p, q, t4])]; exact V43
  have o45 : t5.toInt ≤ t10.toInt := by omega
  have o46 : t7.toInt ≤ t10.toInt := by omega
  have o47 : t9.toInt ≤ t10.toInt := by omega
  clear ho hle hf
  refine k_aload (pc := 62) H d0_62 rfl rfl ?_
  refine k_iconst (3 : Int32) (pc := 64) H d0_64 rfl ?_
  refine k_iconst (4 : Int32) (pc := 65) H d0_65 rfl ?_
  refine k_invS (y := (⟨"com/example/querent/querent/search/PositionsBelowPinLaw", "cs", "([III)V"⟩ : MethodName)) (st := []) [(.ref a), (.int (3 : Int32)), (.int (4 : Int32))] 0 (pc := 66) H (wd hw 1 rfl) (wd hw 2 rfl) (wd hw 3 rfl) (wd hw 4 rfl) (by decide) (fun z0 => rm1 l Z a0 hw n0 h41 z0 a [t5, t7, t9, t10, t4] (3 : Int32) (4 : Int32) 3 4 _ _ ge12 V44 rfl rfl rfl rfl) (lenOf pd_0 rfl) d0_66 rfl rfl rfl (by decide) (by decide) (by decide) (by decide) ?_
  rintro v h48 ⟨rfl, K49, V50⟩
  show W l room_1 C _ h48 1 5 69 #[.val (.long ab), .second, .val (.long cd), .second, .val (.int ee), .val (.int ps), .val (.int shp), .val (.ref a), .unset, .unset, .unset, .unset, .unset, .unset] []
  obtain ⟨t11, t12, ho, hle, hf⟩ := own_sw t10 t4
  have V51 : IA Z h48 a [t5, t7, t9, t11, t12] := by rw [← hf (fun p q => [t5, t7, t9, p, q])]; exact V50
  have o52 : t5.toInt ≤ t12.toInt := by omega
  have o53 : t7.toInt ≤ t12.toInt := by omega
  have o54 : t9.toInt ≤ t12.toInt := by omega
  have o55 : t11.toInt ≤ t12.toInt := by omega
  clear ho hle hf
  refine k_aload (pc := 69) H d0_69 rfl rfl ?_
  refine k_iconst (0 : Int32) (pc := 71) H d0_71 rfl ?_
  refine k_iconst (1 : Int32) (pc := 72) H d0_72 rfl ?_
  refine k_invS (y := (⟨"com/example/querent/querent/search/PositionsBelowPinLaw", "cs", "([III)V"⟩ : MethodName)) (st := []) [(.ref a), (.int (0 : Int32)), (.int (1 : Int32))] 0 (pc := 73) H (wd hw 1 rfl) (wd hw 2 rfl) (wd hw 3 rfl) (wd hw 4 rfl) (by decide) (fun z0 => rm1 l Z a0 hw n0 h48 z0 a [t5, t7, t9, t11, t12] (0 : Int32) (1 : Int32) 0 1 _ _ ge12 V51 rfl rfl rfl rfl) (lenOf pd_0 rfl) d0_73 rfl rfl rfl (by decide) (by decide) (by decide) (by decide) ?_
  rintro v h56 ⟨rfl, K57, V58⟩
  show W l room_1 C _ h56 1 5 76 #[.val (.long ab), .second, .val (.long cd), .second, .val (.int ee), .val (.int ps), .val (.int shp), .val (.ref a), .unset, .unset, .unset, .unset, .unset, .unset] []
  obtain ⟨t13, t14, ho, hle, hf⟩ := own_sw t5 t7
  have V59 : IA Z h56 a [t13, t14, t9, t11, t12] := by rw [← hf (fun p q => [p, q, t9, t11, t12])]; exact V58
  have o60 : t13.toInt ≤ t14.toInt := by omega
  have o61 : t13.toInt ≤ t12.toInt := by omega
  have o62 : t14.toInt ≤ t12.toInt := by omega
  clear ho hle hf
  refine k_aload (pc := 76) H d0_76 rfl rfl ?_
  refine k_iconst (1 : Int32) (pc := 78) H d0_78 rfl ?_
  refine k_iconst (2 : Int32) (pc := 79) H d0_79 rfl ?_
  refine k_invS (y := (⟨"com/example/querent/querent/search/PositionsBelowPinLaw", "cs", "([III)V"⟩ : MethodName)) (st := []) [(.ref a), (.int (1 : Int32)), (.int (2 : Int32))] 0 (pc := 80) H (wd hw 1 rfl) (wd hw 2 rfl) (wd hw 3 rfl) (wd hw 4 rfl) (by decide) (fun z0 => rm1 l Z a0 hw n0 h56 z0 a [t13, t14, t9, t11, t12] (1 : Int32) (2 : Int32) 1 2 _ _ ge12 V59 rfl rfl rfl rfl) (lenOf pd_0 rfl) d0_80 rfl rfl rfl (by decide) (by decide) (by decide) (by decide) ?_
  rintro v h63 ⟨rfl, K64, V65⟩
  show W l room_1 C _ h63 1 5 83 #[.val (.long ab), .second, .val (.long cd), .second, .val (.int ee), .val (.int ps), .val (.int shp), .val (.ref a), .unset, .unset, .unset, .unset, .unset, .unset] []
  obtain ⟨t15, t16, ho, hle, hf⟩ := own_sw t14 t9
  have V66 : IA Z h63 a [t13, t15, t16, t11, t12] := by rw [← hf (fun p q => [t13, p, q, t11, t12])]; exact V65
  have o67 : t13.toInt ≤ t16.toInt := by omega
  have o68 : t15.toInt ≤ t16.toInt := by omega
  have o69 : t15.toInt ≤ t12.toInt := by omega
  have o70 : t16.toInt ≤ t12.toInt := by omega
  clear ho hle hf
  refine k_aload (pc := 83) H d0_83 rfl rfl ?_
  refine k_iconst (2 : Int32) (pc := 85) H d0_85 rfl ?_
  refine k_iconst (3 : Int32) (pc := 86) H d0_86 rfl ?_
  refine k_invS (y := (⟨"com/example/querent/querent/search/PositionsBelowPinLaw", "cs", "([III)V"⟩ : MethodName)) (st := []) [(.ref a), (.int (2 : Int32)), (.int (3 : Int32))] 0 (pc := 87) H (wd hw 1 rfl) (wd hw 2 rfl) (wd hw 3 rfl) (wd hw 4 rfl) (by decide) (fun z0 => rm1 l Z a0 hw n0 h63 z0 a [t13, t15, t16, t11, t12] (2 : Int32) (3 : Int32) 2 3 _ _ ge12 V66 rfl rfl rfl rfl) (lenOf pd_0 rfl) d0_87 rfl rfl rfl (by decide) (by decide) (by decide) (by decide) ?_
  rintro v h71 ⟨rfl, K72, V73⟩
  show W l room_1 C _ h71 1 5 90 #[.val (.long ab), .second, .val (.long cd), .second, .val (.int ee), .val (.int ps), .val (.int shp), .val (.ref a), .unset, .unset, .unset, .unset, .unset, .unset] []
  obtain ⟨t17, t18, ho, hle, hf⟩ := own_sw t16 t11
  have V74 : IA Z h71 a [t13, t15, t17, t18, t12] := by rw [← hf (fun p q => [t13, t15, p, q, t12])]; exact V73
  have o75 : t13.toInt ≤ t18.toInt := by omega
  have o76 : t15.toInt ≤ t18.toInt := by omega
  have o77 : t17.toInt ≤ t18.toInt := by omega
  have o78 : t17.toInt ≤ t12.toInt := by omega
  have o79 : t18.toInt ≤ t12.toInt := by omega
  clear ho hle hf
  refine k_aload (pc := 90) H d0_90 rfl rfl ?_
  refine k_iconst (0 : Int32) (pc := 92) H d0_92 rfl ?_
  refine k_iconst (1 : Int32) (pc := 93) H d0_93 rfl ?_
  refine k_invS (y := (⟨"com/example/querent/querent/search/PositionsBelowPinLaw", "cs", "([III)V"⟩ : MethodName)) (st := []) [(.ref a), (.int (0 : Int32)), (.int (1 : Int32))] 0 (pc := 94) H (wd hw 1 rfl) (wd hw 2 rfl) (wd hw 3 rfl) (wd hw 4 rfl) (by decide) (fun z0 => rm1 l Z a0 hw n0 h71 z0 a [t13, t15, t17, t18, t12] (0 : Int32) (1 : Int32) 0 1 _ _ ge12 V74 rfl rfl rfl rfl) (lenOf pd_0 rfl) d0_94 rfl rfl rfl (by decide) (by decide) (by decide) (by decide) ?_
  rintro v h80 ⟨rfl, K81, V82⟩
  show W l room_1 C _ h80 1 5 97 #[.val (.long ab), .second, .val (.long cd), .second, .val (.int ee), .val (.int ps), .val (.int shp), .val (.ref a), .unset, .unset, .unset, .unset, .unset, .unset] []
  obtain ⟨t19, t20, ho, hle, hf⟩ := own_sw t13 t15
  have V83 : IA Z h80 a [t19, t20, t17, t18, t12] := by rw [← hf (fun p q => [p, q, t17, t18, t12])]; exact V82
  have o84 : t19.toInt ≤ t20.toInt := by omega
  have o85 : t19.toInt ≤ t18.toInt := by omega
  have o86 : t19.toInt ≤ t12.toInt := by omega
  have o87 : t20.toInt ≤ t18.toInt := by omega
  have o88 : t20.toInt ≤ t12.toInt := by omega
  clear ho hle hf
  refine k_aload (pc := 97) H d0_97 rfl rfl ?_
  refine k_iconst (1 : Int32) (pc := 99) H d0_99 rfl ?_
  refine k_iconst (2 : Int32) (pc := 100) H d0_100 rfl ?_
  refine k_invS (y := (⟨"com/example/querent/querent/search/PositionsBelowPinLaw", "cs", "([III)V"⟩ : MethodName)) (st := []) [(.ref a), (.int (1 : Int32)), (.int (2 : Int32))] 0 (pc := 101) H (wd hw 1 rfl) (wd hw 2 rfl) (wd hw 3 rfl) (wd hw 4 rfl) (by decide) (fun z0 => rm1 l Z a0 hw n0 h80 z0 a [t19, t20, t17, t18, t12] (1 : Int32) (2 : Int32) 1 2 _ _ ge12 V83 rfl rfl rfl rfl) (lenOf pd_0 rfl) d0_101 rfl rfl rfl (by decide) (by decide) (by decide) (by decide) ?_
  rintro v h89 ⟨rfl, K90, V91⟩
  show W l room_1 C _ h89 1 5 104 #[.val (.long ab), .second, .val (.long cd), .second, .val (.int ee), .val (.int ps), .val (.int shp), .val (.ref a), .unset, .unset, .unset, .unset, .unset, .unset] []
  obtain ⟨t21, t22, ho, hle, hf⟩ := own_sw t20 t17
  have V92 : IA Z h89 a [t19, t21, t22, t18, t12] := by rw [← hf (fun p q => [t19, p, q, t18, t12])]; exact V91
  have o93 : t19.toInt ≤ t22.toInt := by omega
  have o94 : t21.toInt ≤ t22.toInt := by omega
  have o95 : t21.toInt ≤ t18.toInt := by omega
  have o96 : t21.toInt ≤ t12.toInt := by omega
  have o97 : t22.toInt ≤ t18.toInt := by omega
  have o98 : t22.toInt ≤ t12.toInt := by omega
  clear ho hle hf
  refine k_aload (pc := 104) H d0_104 rfl rfl ?_
  refine k_iconst (0 : Int32) (pc := 106) H d0_106 rfl ?_
  refine k_iconst (1 : Int32) (pc := 107) H d0_107 rfl ?_
  refine k_invS (y := (⟨"com/example/querent/querent/search/PositionsBelowPinLaw", "cs", "([III)V"⟩ : MethodName)) (st := []) [(.ref a), (.int (0 : Int32)), (.int (1 : Int32))] 0 (pc := 108) H (wd hw 1 rfl) (wd hw 2 rfl) (wd hw 3 rfl) (wd hw 4 rfl) (by decide) (fun z0 => rm1 l Z a0 hw n0 h89 z0 a [t19, t21, t22, t18, t12] (0 : Int32) (1 : Int32) 0 1 _ _ ge12 V92 rfl rfl rfl rfl) (lenOf pd_0 rfl) d0_108 rfl rfl rfl (by decide) (by decide) (by decide) (by decide) ?_
  rintro v h99 ⟨rfl, K100, V101⟩
  show W l room_1 C _ h99 1 5 111 #[.val (.long ab), .second, .val (.long cd), .second, .val (.int ee), .val (.int ps), .val (.int shp), .val (.ref a), .unset, .unset, .unset, .unset, .unset, .unset] []
  obtain ⟨t23, t24, ho, hle, hf⟩ := own_sw t19 t21
  have V102 : IA Z h99 a [t23, t24, t22, t18, t12] := by rw [← hf (fun p q => [p, q, t22, t18, t12])]; exact V101
  have o103 : t23.toInt ≤ t24.toInt := by omega
  have o104 : t23.toInt ≤ t22.toInt := by omega
  have o105 : t23.toInt ≤ t18.toInt := by omega
  have o106 : t23.toInt ≤ t12.toInt := by omega
  have o107 : t24.toInt ≤ t22.toInt := by omega
  have o108 : t24.toInt ≤ t18.toInt := by omega
  have o109 : t24.toInt ≤ t12.toInt := by omega
  clear ho hle hf
  have ga : n0 ≤ a := ge12
  have J180 : ∀ (hh : Heap) (x0 x1 x2 x3 x4 : Int32) (V : IA Z hh a [x0, x1, x2, x3, x4]) (r0 : x0.toInt ≤ x1.toInt) (r1 : x1.toInt ≤ x2.toInt) (r2 : x2.toInt ≤ x3.toInt) (r3 : x3.toInt ≤ x4.toInt), W l room_1 C (n0, 16, 128, fun v h => v = some (.int 1)) hh 1 5 180 #[.val (.long ab), .second, .val (.long cd), .second, .val (.int ee), .val (.int ps), .val (.int shp), .val (.ref a), .unset, .unset, .unset, .unset, .unset, .unset] [] := by
    intro hh x0 x1 x2 x3 x4 V r0 r1 r2 r3
    refine k_iload (pc := 180) H d0_180 rfl ?_
    refine k_bipush (7 : Int32) (pc := 182) H d0_182 rfl ?_
    refine k_iand (pc := 184) H d0_184 ?_
    refine k_bipush (6 : Int32) (pc := 185) H d0_185 rfl ?_
    refine k_irem (pc := 187) H d0_187 (by decide) ?_
    generalize hv_ni : ((shp &&& (7 : Int32)) % (6 : Int32)) = ni
    refine k_istore (pc := 188) H d0_188 (Ls' := #[.val (.long ab), .second, .val (.long cd), .second, .val (.int ee), .val (.int ps), .val (.int shp), .val (.ref a), .val (.int ni), .unset, .unset, .unset, .unset, .unset]) rfl ?_
    refine k_iload (pc := 190) H d0_190 rfl ?_
    refine k_bipush (7 : Int32) (pc := 192) H d0_192 rfl ?_
    refine k_iushr (pc := 194) H d0_194 ?_
    refine k_bipush (7 : Int32) (pc := 195) H d0_195 rfl ?_
    refine k_iand (pc := 197) H d0_197 ?_
    refine k_iconst (5 : Int32) (pc := 198) H d0_198 rfl ?_
    refine k_irem (pc := 199) H d0_199 (by decide) ?_
    generalize hv_ki : (((XT.ushr shp (7 : Int32)) &&& (7 : Int32)) % (5 : Int32)) = ki
    refine k_istore (pc := 200) H d0_200 (Ls' := #[.val (.long ab), .second, .val (.long cd), .second, .val (.int ee), .val (.int ps), .val (.int shp), .val (.ref a), .val (.int ni), .val (.int ki), .unset, .unset, .unset, .unset]) rfl ?_
    refine k_iload (pc := 202) H d0_202 rfl ?_
    refine k_bipush (10 : Int32) (pc := 204) H d0_204 rfl ?_
    refine k_iushr (pc := 206) H d0_206 ?_
    refine k_iconst (3 : Int32) (pc := 207) H d0_207 rfl ?_
    refine k_iand (pc := 208) H d0_208 ?_
    generalize hv_mi : ((XT.ushr shp (10 : Int32)) &&& (3 : Int32)) = mi
    refine k_istore (pc := 209) H d0_209 (Ls' := #[.val (.long ab), .second, .val (.long cd), .second, .val (.int ee), .val (.int ps), .val (.int shp), .val (.ref a), .val (.int ni), .val (.int ki), .val (.int mi), .unset, .unset, .unset]) rfl ?_
    refine k_iload (pc := 211) H d0_211 rfl ?_
    refine k_istore (pc := 213) H d0_213 (Ls' := #[.val (.long ab), .second, .val (.long cd), .second, .val (.int ee), .val (.int ps), .val (.int shp), .val (.ref a), .val (.int ni), .val (.int ki), .val (.int mi), .val (.int ps), .unset, .unset]) rfl ?_
    refine k_iload (pc := 215) H d0_215 rfl ?_
    refine k_iconst (1 : Int32) (pc := 217) H d0_217 rfl ?_
    obtain ⟨n, hn, ln⟩ := mod_nat shp 7 6 3 6 (by decide) (by decide) rfl (by decide)
    rw [hv_ni] at hn
    obtain ⟨k, hk, lk⟩ := mod_nat (XT.ushr shp 7) 7 5 3 5 (by decide) (by decide) rfl (by decide)
    rw [hv_ki] at hk
    have J264 : ∀ (p : Int32), W l room_1 C (n0, 16, 128, fun v h => v = some (.int 1)) hh 1 5 264 #[.val (.long ab), .second, .val (.long cd), .second, .val (.int ee), .val (.int ps), .val (.int shp), .val (.ref a), .val (.int ni), .val (.int ki), .val (.int mi), .val (.int p), .unset, .unset] [] := by
      intro p
      refine k_iload (pc := 264) H d0_264 rfl ?_
      have hn' : n = 0 ∨ n = 1 ∨ n = 2 ∨ n = 3 ∨ n = 4 ∨ n = 5 := by omega
      rcases hn' with rfl | rfl | rfl | rfl | rfl | rfl
      · refine k_new_int (0) 0 (pc := 266) H (wd hw 0 rfl) d0_266 (hn) (by decide) (by decide) (by decide) (by decide) ?_
        intro h111 b ea112 ge113 E114 XA110 V115
        have ne116 : a ≠ b := Nat.ne_of_lt (by rw [ea112]; exact V.lt)
        have f117 : IA Z h111 a [x0, x1, x2, x3, x4] := V.ext E114
        refine k_astore (pc := 268) H d0_268 rfl (Ls' := #[.val (.long ab), .second, .val (.long cd), .second, .val (.int ee), .val (.int ps), .val (.int shp), .val (.ref a), .val (.int ni), .val (.int ki), .val (.int mi), .val (.int p), .val (.ref b), .unset]) rfl ?_
        refine k_iload (pc := 270) H d0_270 rfl ?_
        refine k_ifT 283 (pc := 272) H d0_272 rfl (XT.i0_le_t (fun z => absurd ((lt_nat (x := 0) (i := 0) rfl hn).mp z) (by decide))) ?_
        refine k_iload (pc := 283) H d0_283 rfl ?_
        refine k_iconst (1 : Int32) (pc := 285) H d0_285 rfl ?_
        refine k_icmpT 297 (pc := 286) H d0_286 rfl (XT.ii_le_t (fun z => absurd ((lt_nat (x := 1) (i := 1) rfl hn).mp z) (by decide))) ?_
        refine k_iload (pc := 297) H d0_297 rfl ?_
        refine k_iconst (2 : Int32) (pc := 299) H d0_299 rfl ?_
        refine k_icmpT 311 (pc := 300) H d0_300 rfl (XT.ii_le_t (fun z => absurd ((lt_nat (x := 2) (i := 2) rfl hn).mp z) (by decide))) ?_
        refine k_iload (pc := 311) H d0_311 rfl ?_
        refine k_iconst (3 : Int32) (pc := 313) H d0_313 rfl ?_
        refine k_icmpT 325 (pc := 314) H d0_314 rfl (XT.ii_le_t (fun z => absurd ((lt_nat (x := 3) (i := 3) rfl hn).mp z) (by decide))) ?_
        refine k_iload (pc := 325) H d0_325 rfl ?_
        refine k_iconst (4 : Int32) (pc := 327) H d0_327 rfl ?_
        refine k_icmpT 339 (pc := 328) H d0_328 rfl (XT.ii_le_t (fun z => absurd ((lt_nat (x := 4) (i := 4) rfl hn).mp z) (by decide))) ?_
        refine k_iload (pc := 339) H d0_339 rfl ?_
        have VB : IA Z h111 b [] := by simpa [List.replicate] using V115
        refine k_ifT 348 (pc := 341) H d0_341 rfl (XT.i0_le_t (fun z => absurd ((lt_nat (x := 0) (i := 0) rfl hn).mp z) (by decide))) ?_
        refine k_iconst (0 : Int32) (pc := 348) H d0_348 rfl ?_
        refine k_aload (pc := 349) H d0_349 rfl rfl ?_
        refine k_iconst (0 : Int32) (pc := 351) H d0_351 rfl ?_
        refine k_ialoadT (i := 0) (x := x0) (pc := 352) H f117 (rfl) (rfl) d0_352 ?_
        refine k_iload (pc := 353) H d0_353 rfl ?_
        refine k_invS (y := (⟨"com/example/querent/querent/search/PositionsBelowPinLaw", "lt", "(ZII)I"⟩ : MethodName)) (st := []) [(.int (0 : Int32)), (.int x0), (.int p)] 0 (pc := 355) H (wd hw 5 rfl) (wd hw 6 rfl) (wd hw 3 rfl) (wd hw 7 rfl) (by decide) (fun z0 => rm2 l Z a0 hw n0 h111 z0 (0 : Int32) x0 p) (lenOf pd_1 rfl) d0_355 rfl rfl rfl (by decide) (by decide) (by decide) (by decide) ?_
        rintro v hx ⟨rfl, ex⟩
        rw [ex]
        clear ex hx
        show W l room_1 C _ h111 2 5 358 #[.val (.long ab), .second, .val (.long cd), .second, .val (.int ee), .val (.int ps), .val (.int shp), .val (.ref a), .val (.int ni), .val (.int ki), .val (.int mi), .val (.int p), .val (.ref b), .unset] [(.int (own_lt (0 : Int32) x0 p))]
        refine k_iload (pc := 358) H d0_358 rfl ?_
        refine k_iconst (1 : Int32) (pc := 360) H d0_360 rfl ?_
        refine k_icmpT 368 (pc := 361) H d0_361 rfl (XT.ii_le_t (fun z => absurd ((lt_nat (x := 1) (i := 1) rfl hn).mp z) (by decide))) ?_
        refine k_iconst (0 : Int32) (pc := 368) H d0_368 rfl ?_
        refine k_aload (pc := 369) H d0_369 rfl rfl ?_
        refine k_iconst (1 : Int32) (pc := 371) H d0_371 rfl ?_
        refine k_ialoadT (i := 1) (x := x1) (pc := 372) H f117 (rfl) (rfl) d0_372 ?_
        refine k_iload (pc := 373) H d0_373 rfl ?_
        refine k_invS (y := (⟨"com/example/querent/querent/search/PositionsBelowPinLaw", "lt", "(ZII)I"⟩ : MethodName)) (st := [(.int (own_lt (0 : Int32) x0 p))]) [(.int (0 : Int32)), (.int x1), (.int p)] 1 (pc := 375) H (wd hw 5 rfl) (wd hw 6 rfl) (wd hw 3 rfl) (wd hw 7 rfl) (by decide) (fun z0 => rm2 l Z a0 hw n0 h111 z0 (0 : Int32) x1 p) (lenOf pd_1 rfl) d0_375 rfl rfl rfl (by decide) (by decide) (by decide) (by decide) ?_
        rintro v hx ⟨rfl, ex⟩
        rw [ex]
        clear ex hx
        show W l room_1 C _ h111 2 5 378 #[.val (.long ab), .second, .val (.long cd), .second, .val (.int ee), .val (.int ps), .val (.int shp), .val (.ref a), .val (.int ni), .val (.int ki), .val (.int mi), .val (.int p), .val (.ref b), .unset] [(.int (own_lt (0 : Int32) x1 p)), (.int (own_lt (0 : Int32) x0 p))]
        refine k_iadd (pc := 378) H d0_378 ?_
        refine k_iload (pc := 379) H d0_379 rfl ?_
        refine k_iconst (2 : Int32) (pc := 381) H d0_381 rfl ?_
        refine k_icmpT 389 (pc := 382) H d0_382 rfl (XT.ii_le_t (fun z => absurd ((lt_nat (x := 2) (i := 2) rfl hn).mp z) (by decide))) ?_
        refine k_iconst (0 : Int32) (pc := 389) H d0_389 rfl ?_
        refine k_aload (pc := 390) H d0_390 rfl rfl ?_
        refine k_iconst (2 : Int32) (pc := 392) H d0_392 rfl ?_
        refine k_ialoadT (i := 2) (x := x2) (pc := 393) H f117 (rfl) (rfl) d0_393 ?_
        refine k_iload (pc := 394) H d0_394 rfl ?_
        refine k_invS (y := (⟨"com/example/querent/querent/search/PositionsBelowPinLaw", "lt", "(ZII)I"⟩ : MethodName)) (st := [(.int ((own_lt (0 : Int32) x0 p) + (own_lt (0 : Int32) x1 p)))]) [(.int (0 : Int32)), (.int x2), (.int p)] 1 (pc := 396) H (wd hw 5 rfl) (wd hw 6 rfl) (wd hw 3 rfl) (wd hw 7 rfl) (by decide) (fun z0 => rm2 l Z a0 hw n0 h111 z0 (0 : Int32) x2 p) (lenOf pd_1 rfl) d0_396 rfl rfl rfl (by decide) (by decide) (by decide) (by decide) ?_
        rintro v hx ⟨rfl, ex⟩
        rw [ex]
        clear ex hx
        show W l room_1 C _ h111 2 5 399 #[.val (.long ab), .second, .val (.long cd), .second, .val (.int ee), .val (.int ps), .val (.int shp), .val (.ref a), .val (.int ni), .val (.int ki), .val (.int mi), .val (.int p), .val (.ref b), .unset] [(.int (own_lt (0 : Int32) x2 p)), (.int ((own_lt (0 : Int32) x0 p) + (own_lt (0 : Int32) x1 p)))]
        refine k_iadd (pc := 399) H d0_399 ?_
        refine k_iload (pc := 400) H d0_400 rfl ?_
        refine k_iconst (3 : Int32) (pc := 402) H d0_402 rfl ?_
        refine k_icmpT 410 (pc := 403) H d0_403 rfl (XT.ii_le_t (fun z => absurd ((lt_nat (x := 3) (i := 3) rfl hn).mp z) (by decide))) ?_
        refine k_iconst (0 : Int32) (pc := 410) H d0_410 rfl ?_
        refine k_aload (pc := 411) H d0_411 rfl rfl ?_
        refine k_iconst (3 : Int32) (pc := 413) H d0_413 rfl ?_
        refine k_ialoadT (i := 3) (x := x3) (pc := 414) H f117 (rfl) (rfl) d0_414 ?_
        refine k_iload (pc := 415) H d0_415 rfl ?_
        refine k_invS (y := (⟨"com/example/querent/querent/search/PositionsBelowPinLaw", "lt", "(ZII)I"⟩ : MethodName)) (st := [(.int (((own_lt (0 : Int32) x0 p) + (own_lt (0 : Int32) x1 p)) + (own_lt (0 : Int32) x2 p)))]) [(.int (0 : Int32)), (.int x3), (.int p)] 1 (pc := 417) H (wd hw 5 rfl) (wd hw 6 rfl) (wd hw 3 rfl) (wd hw 7 rfl) (by decide) (fun z0 => rm2 l Z a0 hw n0 h111 z0 (0 : Int32) x3 p) (lenOf pd_1 rfl) d0_417 rfl rfl rfl (by decide) (by decide) (by decide) (by decide) ?_
        rintro v hx ⟨rfl, ex⟩
        rw [ex]
        clear ex hx
        show W l room_1 C _ h111 2 5 420 #[.val (.long ab), .second, .val (.long cd), .second, .val (.int ee), .val (.int ps), .val (.int shp), .val (.ref a), .val (.int ni), .val (.int ki), .val (.int mi), .val (.int p), .val (.ref b), .unset] [(.int (own_lt (0 : Int32) x3 p)), (.int (((own_lt (0 : Int32) x0 p) + (own_lt (0 : Int32) x1 p)) + (own_lt (0 : Int32) x2 p)))]
        refine k_iadd (pc := 420) H d0_420 ?_
        refine k_iload (pc := 421) H d0_421 rfl ?_
        refine k_iconst (4 : Int32) (pc := 423) H d0_423 rfl ?_
        refine k_icmpT 431 (pc := 424) H d0_424 rfl (XT.ii_le_t (fun z => absurd ((lt_nat (x := 4) (i := 4) rfl hn).mp z) (by decide))) ?_
        refine k_iconst (0 : Int32) (pc := 431) H d0_431 rfl ?_
        refine k_aload (pc := 432) H d0_432 rfl rfl ?_
        refine k_iconst (4 : Int32) (pc := 434) H d0_434 rfl ?_
        refine k_ialoadT (i := 4) (x := x4) (pc := 435) H f117 (rfl) (rfl) d0_435 ?_
        refine k_iload (pc := 436) H d0_436 rfl ?_
        refine k_invS (y := (⟨"com/example/querent/querent/search/PositionsBelowPinLaw", "lt", "(ZII)I"⟩ : MethodName)) (st := [(.int ((((own_lt (0 : Int32) x0 p) + (own_lt (0 : Int32) x1 p)) + (own_lt (0 : Int32) x2 p)) + (own_lt (0 : Int32) x3 p)))]) [(.int (0 : Int32)), (.int x4), (.int p)] 1 (pc := 438) H (wd hw 5 rfl) (wd hw 6 rfl) (wd hw 3 rfl) (wd hw 7 rfl) (by decide) (fun z0 => rm2 l Z a0 hw n0 h111 z0 (0 : Int32) x4 p) (lenOf pd_1 rfl) d0_438 rfl rfl rfl (by decide) (by decide) (by decide) (by decide) ?_
        rintro v hx ⟨rfl, ex⟩
        rw [ex]
        clear ex hx
        show W l room_1 C _ h111 2 5 441 #[.val (.long ab), .second, .val (.long cd), .second, .val (.int ee), .val (.int ps), .val (.int shp), .val (.ref a), .val (.int ni), .val (.int ki), .val (.int mi), .val (.int p), .val (.ref b), .unset] [(.int (own_lt (0 : Int32) x4 p)), (.int ((((own_lt (0 : Int32) x0 p) + (own_lt (0 : Int32) x1 p)) + (own_lt (0 : Int32) x2 p)) + (own_lt (0 : Int32) x3 p)))]
        refine k_iadd (pc := 441) H d0_441 ?_
        refine k_istore (pc := 442) H d0_442 (Ls' := #[.val (.long ab), .second, .val (.long cd), .second, .val (.int ee), .val (.int ps), .val (.int shp), .val (.ref a), .val (.int ni), .val (.int ki), .val (.int mi), .val (.int p), .val (.ref b), .val (.int (((((own_lt (0 : Int32) x0 p) + (own_lt (0 : Int32) x1 p)) + (own_lt (0 : Int32) x2 p)) + (own_lt (0 : Int32) x3 p)) + (own_lt (0 : Int32) x4 p)))]) rfl ?_
        refine k_aload (pc := 444) H d0_444 rfl rfl ?_
        refine k_iload (pc := 446) H d0_446 rfl ?_
        have hS : ∀ i j, i < j → j < ([] : List Int32).length → (([] : List Int32).getD i 0).toInt ≤ (([] : List Int32).getD j 0).toInt := by
          intro i j hij hj
          simp at hj
        refine k_invS (y := (⟨"com/example/querent/querent/search/Positions", "below", "([II)I"⟩ : MethodName)) (st := []) [(.ref b), (.int p)] 0 (pc := 448) H (wd hw 8 rfl) (wd hw 9 rfl) (wd hw 10 rfl) (wd hw 11 rfl) (by decide) (fun z0 => rm3 l Z a0 hw n0 h111 z0 b [] p VB (by simp) hS) (lenOf pd_2 rfl) d0_448 rfl rfl rfl (by decide) (by decide) (by decide) (by decide) ?_
        rintro v hx ⟨kk, r, hr, g1, g2, g3, rfl, ex⟩
        rw [ex]
        clear ex hx
        show W l room_1 C _ h111 2 5 451 #[.val (.long ab), .second, .val (.long cd), .second, .val (.int ee), .val (.int ps), .val (.int shp), .val (.ref a), .val (.int ni), .val (.int ki), .val (.int mi), .val (.int p), .val (.ref b), .val (.int (((((own_lt (0 : Int32) x0 p) + (own_lt (0 : Int32) x1 p)) + (own_lt (0 : Int32) x2 p)) + (own_lt (0 : Int32) x3 p)) + (own_lt (0 : Int32) x4 p)))] [(.int r)]
        refine k_iload (pc := 451) H d0_451 rfl ?_
        simp only [List.length_cons, List.length_nil] at g1
        have hfin : r = (((((own_lt (0 : Int32) x0 p) + (own_lt (0 : Int32) x1 p)) + (own_lt (0 : Int32) x2 p)) + (own_lt (0 : Int32) x3 p)) + (own_lt (0 : Int32) x4 p)) := by
          have hk' : kk = 0 := by omega
          rcases hk' with rfl
          · rw [own_ltz, own_ltz, own_ltz, own_ltz, own_ltz]; apply Int32.toInt_inj.mp; rw [hr]; rfl
        refine k_icmpF (pc := 453) H d0_453 (XT.ii_ne_f (hfin)) ?_
        refine k_iconst (1 : Int32) (pc := 456) H d0_456 rfl ?_
        refine k_goto 461 (pc := 457) H d0_457 rfl ?_
        exact k_retN' (t := .boolean) (by simp) (pc := 461) H d0_461 (by show 2 ≤ 16; decide) (by show 5 ≤ 128; decide) (rfl)
      · refine k_new_int (1) 1 (pc := 266) H (wd hw 0 rfl) d0_266 (hn) (by decide) (by decide) (by decide) (by decide) ?_
        intro h119 b ea120 ge121 E122 XA118 V123
        have ne124 : a ≠ b := Nat.ne_of_lt (by rw [ea120]; exact V.lt)
        have f125 : IA Z h119 a [x0, x1, x2, x3, x4] := V.ext E122
        refine k_astore (pc := 268) H d0_268 rfl (Ls' := #[.val (.long ab), .second, .val (.long cd), .second, .val (.int ee), .val (.int ps), .val (.int shp), .val (.ref a), .val (.int ni), .val (.int ki), .val (.int mi), .val (.int p), .val (.ref b), .unset]) rfl ?_
        refine k_iload (pc := 270) H d0_270 rfl ?_
        refine k_ifF (pc := 272) H d0_272 (XT.i0_le_f ((lt_nat (x := 0) (i := 0) rfl hn).mpr (by decide))) ?_
        refine k_aload (pc := 275) H d0_275 rfl rfl ?_
        refine k_iconst (0 : Int32) (pc := 277) H d0_277 rfl ?_
        refine k_aload (pc := 278) H d0_278 rfl rfl ?_
        refine k_iconst (0 : Int32) (pc := 280) H d0_280 rfl ?_
        refine k_ialoadT (i := 0) (x := x0) (pc := 281) H f125 (rfl) (rfl) d0_281 ?_
        refine k_iastoreT (i := 0) (pc := 282) H V123 (by decide) (by simp) ge121 d0_282 ?_
        intro h126 K127 V128
        have f129 : IA Z h126 a [x0, x1, x2, x3, x4] := f125.keep K127 (ninS ne124 nin0)
        refine k_iload (pc := 283) H d0_283 rfl ?_
        refine k_iconst (1 : Int32) (pc := 285) H d0_285 rfl ?_
        refine k_icmpT 297 (pc := 286) H d0_286 rfl (XT.ii_le_t (fun z => absurd ((lt_nat (x := 1) (i := 1) rfl hn).mp z) (by decide))) ?_
        refine k_iload (pc := 297) H d0_297 rfl ?_
        refine k_iconst (2 : Int32) (pc := 299) H d0_299 rfl ?_
        refine k_icmpT 311 (pc := 300) H d0_300 rfl (XT.ii_le_t (fun z => absurd ((lt_nat (x := 2) (i := 2) rfl hn).mp z) (by decide))) ?_
        refine k_iload (pc := 311) H d0_311 rfl ?_
        refine k_iconst (3 : Int32) (pc := 313) H d0_313 rfl ?_
        refine k_icmpT 325 (pc := 314) H d0_314 rfl (XT.ii_le_t (fun z => absurd ((lt_nat (x := 3) (i := 3) rfl hn).mp z) (by decide))) ?_
        refine k_iload (pc := 325) H d0_325 rfl ?_
        refine k_iconst (4 : Int32) (pc := 327) H d0_327 rfl ?_
        refine k_icmpT 339 (pc := 328) H d0_328 rfl (XT.ii_le_t (fun z => absurd ((lt_nat (x := 4) (i := 4) rfl hn).mp z) (by decide))) ?_
        refine k_iload (pc := 339) H d0_339 rfl ?_
        have VB : IA Z h126 b [x0] := by simpa [List.replicate] using V128
        refine k_ifF (pc := 341) H d0_341 (XT.i0_le_f ((lt_nat (x := 0) (i := 0) rfl hn).mpr (by decide))) ?_
        refine k_iconst (1 : Int32) (pc := 344) H d0_344 rfl ?_
        refine k_goto 349 (pc := 345) H d0_345 rfl ?_
        refine k_aload (pc := 349) H d0_349 rfl rfl ?_
        refine k_iconst (0 : Int32) (pc := 351) H d0_351 rfl ?_
        refine k_ialoadT (i := 0) (x := x0) (pc := 352) H f129 (rfl) (rfl) d0_352 ?_
        refine k_iload (pc := 353) H d0_353 rfl ?_
        refine k_invS (y := (⟨"com/example/querent/querent/search/PositionsBelowPinLaw", "lt", "(ZII)I"⟩ : MethodName)) (st := []) [(.int (1 : Int32)), (.int x0), (.int p)] 0 (pc := 355) H (wd hw 5 rfl) (wd hw 6 rfl) (wd hw 3 rfl) (wd hw 7 rfl) (by decide) (fun z0 => rm2 l Z a0 hw n0 h126 z0 (1 : Int32) x0 p) (lenOf pd_1 rfl) d0_355 rfl rfl rfl (by decide) (by decide) (by decide) (by decide) ?_
        rintro v hx ⟨rfl, ex⟩
        rw [ex]
        clear ex hx
        show W l room_1 C _ h126 2 6 358 #[.val (.long ab), .second, .val (.long cd), .second, .val (.int ee), .val (.int ps), .val (.int shp), .val (.ref a), .val (.int ni), .val (.int ki), .val (.int mi), .val (.int p), .val (.ref b), .unset] [(.int (own_lt (1 : Int32) x0 p))]
        refine k_iload (pc := 358) H d0_358 rfl ?_
        refine k_iconst (1 : Int32) (pc := 360) H d0_360 rfl ?_
        refine k_icmpT 368 (pc := 361) H d0_361 rfl (XT.ii_le_t (fun z => absurd ((lt_nat (x := 1) (i := 1) rfl hn).mp z) (by decide))) ?_
        refine k_iconst (0 : Int32) (pc := 368) H d0_368 rfl ?_
        refine k_aload (pc := 369) H d0_369 rfl rfl ?_
        refine k_iconst (1 : Int32) (pc := 371) H d0_371 rfl ?_
        refine k_ialoadT (i := 1) (x := x1) (pc := 372) H f129 (rfl) (rfl) d0_372 ?_
        refine k_iload (pc := 373) H d0_373 rfl ?_
        refine k_invS (y := (⟨"com/example/querent/querent/search/PositionsBelowPinLaw", "lt", "(ZII)I"⟩ : MethodName)) (st := [(.int (own_lt (1 : Int32) x0 p))]) [(.int (0 : Int32)), (.int x1), (.int p)] 1 (pc := 375) H (wd hw 5 rfl) (wd hw 6 rfl) (wd hw 3 rfl) (wd hw 7 rfl) (by decide) (fun z0 => rm2 l Z a0 hw n0 h126 z0 (0 : Int32) x1 p) (lenOf pd_1 rfl) d0_375 rfl rfl rfl (by decide) (by decide) (by decide) (by decide) ?_
        rintro v hx ⟨rfl, ex⟩
        rw [ex]
        clear ex hx
        show W l room_1 C _ h126 2 6 378 #[.val (.long ab), .second, .val (.long cd), .second, .val (.int ee), .val (.int ps), .val (.int shp), .val (.ref a), .val (.int ni), .val (.int ki), .val (.int mi), .val (.int p), .val (.ref b), .unset] [(.int (own_lt (0 : Int32) x1 p)), (.int (own_lt (1 : Int32) x0 p))]
        refine k_iadd (pc := 378) H d0_378 ?_
        refine k_iload (pc := 379) H d0_379 rfl ?_
        refine k_iconst (2 : Int32) (pc := 381) H d0_381 rfl ?_
        refine k_icmpT 389 (pc := 382) H d0_382 rfl (XT.ii_le_t (fun z => absurd ((lt_nat (x := 2) (i := 2) rfl hn).mp z) (by decide))) ?_
        refine k_iconst (0 : Int32) (pc := 389) H d0_389 rfl ?_
        refine k_aload (pc := 390) H d0_390 rfl rfl ?_
        refine k_iconst (2 : Int32) (pc := 392) H d0_392 rfl ?_
        refine k_ialoadT (i := 2) (x := x2) (pc := 393) H f129 (rfl) (rfl) d0_393 ?_
        refine k_iload (pc := 394) H d0_394 rfl ?_
        refine k_invS (y := (⟨"com/example/querent/querent/search/PositionsBelowPinLaw", "lt", "(ZII)I"⟩ : MethodName)) (st := [(.int ((own_lt (1 : Int32) x0 p) + (own_lt (0 : Int32) x1 p)))]) [(.int (0 : Int32)), (.int x2), (.int p)] 1 (pc := 396) H (wd hw 5 rfl) (wd hw 6 rfl) (wd hw 3 rfl) (wd hw 7 rfl) (by decide) (fun z0 => rm2 l Z a0 hw n0 h126 z0 (0 : Int32) x2 p) (lenOf pd_1 rfl) d0_396 rfl rfl rfl (by decide) (by decide) (by decide) (by decide) ?_
        rintro v hx ⟨rfl, ex⟩
        rw [ex]
        clear ex hx
        show W l room_1 C _ h126 2 6 399 #[.val (.long ab), .second, .val (.long cd), .second, .val (.int ee), .val (.int ps), .val (.int shp), .val (.ref a), .val (.int ni), .val (.int ki), .val (.int mi), .val (.int p), .val (.ref b), .unset] [(.int (own_lt (0 : Int32) x2 p)), (.int ((own_lt (1 : Int32) x0 p) + (own_lt (0 : Int32) x1 p)))]
        refine k_iadd (pc := 399) H d0_399 ?_
        refine k_iload (pc := 400) H d0_400 rfl ?_
        refine k_iconst (3 : Int32) (pc := 402) H d0_402 rfl ?_
        refine k_icmpT 410 (pc := 403) H d0_403 rfl (XT.ii_le_t (fun z => absurd ((lt_nat (x := 3) (i := 3) rfl hn).mp z) (by decide))) ?_
        refine k_iconst (0 : Int32) (pc := 410) H d0_410 rfl ?_
        refine k_aload (pc := 411) H d0_411 rfl rfl ?_
        refine k_iconst (3 : Int32) (pc := 413) H d0_413 rfl ?_
        refine k_ialoadT (i := 3) (x := x3) (pc := 414) H f129 (rfl) (rfl) d0_414 ?_
        refine k_iload (pc := 415) H d0_415 rfl ?_
        refine k_invS (y := (⟨"com/example/querent/querent/search/PositionsBelowPinLaw", "lt", "(ZII)I"⟩ : MethodName)) (st := [(.int (((own_lt (1 : Int32) x0 p) + (own_lt (0 : Int32) x1 p)) + (own_lt (0 : Int32) x2 p)))]) [(.int (0 : Int32)), (.int x3), (.int p)] 1 (pc := 417) H (wd hw 5 rfl) (wd hw 6 rfl) (wd hw 3 rfl) (wd hw 7 rfl) (by decide) (fun z0 => rm2 l Z a0 hw n0 h126 z0 (0 : Int32) x3 p) (lenOf pd_1 rfl) d0_417 rfl rfl rfl (by decide) (by decide) (by decide) (by decide) ?_
        rintro v hx ⟨rfl, ex⟩
        rw [ex]
        clear ex hx
        show W l room_1 C _ h126 2 6 420 #[.val (.long ab), .second, .val (.long cd), .second, .val (.int ee), .val (.int ps), .val (.int shp), .val (.ref a), .val (.int ni), .val (.int ki), .val (.int mi), .val (.int p), .val (.ref b), .unset] [(.int (own_lt (0 : Int32) x3 p)), (.int (((own_lt (1 : Int32) x0 p) + (own_lt (0 : Int32) x1 p)) + (own_lt (0 : Int32) x2 p)))]
        refine k_iadd (pc := 420) H d0_420 ?_
        refine k_iload (pc := 421) H d0_421 rfl ?_
        refine k_iconst (4 : Int32) (pc := 423) H d0_423 rfl ?_
        refine k_icmpT 431 (pc := 424) H d0_424 rfl (XT.ii_le_t (fun z => absurd ((lt_nat (x := 4) (i := 4) rfl hn).mp z) (by decide))) ?_
        refine k_iconst (0 : Int32) (pc := 431) H d0_431 rfl ?_
        refine k_aload (pc := 432) H d0_432 rfl rfl ?_
        refine k_iconst (4 : Int32) (pc := 434) H d0_434 rfl ?_
        refine k_ialoadT (i := 4) (x := x4) (pc := 435) H f129 (rfl) (rfl) d0_435 ?_
        refine k_iload (pc := 436) H d0_436 rfl ?_
        refine k_invS (y := (⟨"com/example/querent/querent/search/PositionsBelowPinLaw", "lt", "(ZII)I"⟩ : MethodName)) (st := [(.int ((((own_lt (1 : Int32) x0 p) + (own_lt (0 : Int32) x1 p)) + (own_lt (0 : Int32) x2 p)) + (own_lt (0 : Int32) x3 p)))]) [(.int (0 : Int32)), (.int x4), (.int p)] 1 (pc := 438) H (wd hw 5 rfl) (wd hw 6 rfl) (wd hw 3 rfl) (wd hw 7 rfl) (by decide) (fun z0 => rm2 l Z a0 hw n0 h126 z0 (0 : Int32) x4 p) (lenOf pd_1 rfl) d0_438 rfl rfl rfl (by decide) (by decide) (by decide) (by decide) ?_
        rintro v hx ⟨rfl, ex⟩
        rw [ex]
        clear ex hx
        show W l room_1 C _ h126 2 6 441 #[.val (.long ab), .second, .val (.long cd), .second, .val (.int ee), .val (.int ps), .val (.int shp), .val (.ref a), .val (.int ni), .val (.int ki), .val (.int mi), .val (.int p), .val (.ref b), .unset] [(.int (own_lt (0 : Int32) x4 p)), (.int ((((own_lt (1 : Int32) x0 p) + (own_lt (0 : Int32) x1 p)) + (own_lt (0 : Int32) x2 p)) + (own_lt (0 : Int32) x3 p)))]
        refine k_iadd (pc := 441) H d0_441 ?_
        refine k_istore (pc := 442) H d0_442 (Ls' := #[.val (.long ab), .second, .val (.long cd), .second, .val (.int ee), .val (.int ps), .val (.int shp), .val (.ref a), .val (.int ni), .val (.int ki), .val (.int mi), .val (.int p), .val (.ref b), .val (.int (((((own_lt (1 : Int32) x0 p) + (own_lt (0 : Int32) x1 p)) + (own_lt (0 : Int32) x2 p)) + (own_lt (0 : Int32) x3 p)) + (own_lt (0 : Int32) x4 p)))]) rfl ?_
        refine k_aload (pc := 444) H d0_444 rfl rfl ?_
        refine k_iload (pc := 446) H d0_446 rfl ?_
        have hS : ∀ i j, i < j → j < ([x0] : List Int32).length → (([x0] : List Int32).getD i 0).toInt ≤ (([x0] : List Int32).getD j 0).toInt := by
          intro i j hij hj
          simp at hj
          omega
        refine k_invS (y := (⟨"com/example/querent/querent/search/Positions", "below", "([II)I"⟩ : MethodName)) (st := []) [(.ref b), (.int p)] 0 (pc := 448) H (wd hw 8 rfl) (wd hw 9 rfl) (wd hw 10 rfl) (wd hw 11 rfl) (by decide) (fun z0 => rm3 l Z a0 hw n0 h126 z0 b [x0] p VB (by simp) hS) (lenOf pd_2 rfl) d0_448 rfl rfl rfl (by decide) (by decide) (by decide) (by decide) ?_
        rintro v hx ⟨kk, r, hr, g1, g2, g3, rfl, ex⟩
        rw [ex]
        clear ex hx
        show W l room_1 C _ h126 2 6 451 #[.val (.long ab), .second, .val (.long cd), .second, .val (.int ee), .val (.int ps), .val (.int shp), .val (.ref a), .val (.int ni), .val (.int ki), .val (.int mi), .val (.int p), .val (.ref b), .val (.int (((((own_lt (1 : Int32) x0 p) + (own_lt (0 : Int32) x1 p)) + (own_lt (0 : Int32) x2 p)) + (own_lt (0 : Int32) x3 p)) + (own_lt (0 : Int32) x4 p)))] [(.int r)]
        refine k_iload (pc := 451) H d0_451 rfl ?_
        simp only [List.length_cons, List.length_nil] at g1
        have hfin : r = (((((own_lt (1 : Int32) x0 p) + (own_lt (0 : Int32) x1 p)) + (own_lt (0 : Int32) x2 p)) + (own_lt (0 : Int32) x3 p)) + (own_lt (0 : Int32) x4 p)) := by
          have hk' : kk = 0 ∨ kk = 1 := by omega
          rcases hk' with rfl | rfl
          · rw [own_lt0 (show ¬ x0 < p from g3 0 (by decide) (by simp)), own_ltz, own_ltz, own_ltz, own_ltz]; apply Int32.toInt_inj.mp; rw [hr]; rfl
          · rw [own_lt1 (show x0 < p from g2 0 (by decide)), own_ltz, own_ltz, own_ltz, own_ltz]; apply Int32.toInt_inj.mp; rw [hr]; rfl
        refine k_icmpF (pc := 453) H d0_453 (XT.ii_ne_f (hfin)) ?_
        refine k_iconst (1 : Int32) (pc := 456) H d0_456 rfl ?_
        refine k_goto 461 (pc := 457) H d0_457 rfl ?_
        exact k_retN' (t := .boolean) (by simp) (pc := 461) H d0_461 (by show 2 ≤ 16; decide) (by show 6 ≤ 128; decide) (rfl)
      · refine k_new_int (2) 2 (pc := 266) H (wd hw 0 rfl) d0_266 (hn) (by decide) (by decide) (by decide) (by decide) ?_
        intro h131 b ea132 ge133 E134 XA130 V135
        have ne136 : a ≠ b := Nat.ne_of_lt (by rw [ea132]; exact V.lt)
        have f137 : IA Z h131 a [x0, x1, x2, x3, x4] := V.ext E134
        refine k_astore (pc := 268) H d0_268 rfl (Ls' := #[.val (.long ab), .second, .val (.long cd), .second, .val (.int ee), .val (.int ps), .val (.int shp), .val (.ref a), .val (.int ni), .val (.int ki), .val (.int mi), .val (.int p), .val (.ref b), .unset]) rfl ?_
        refine k_iload (pc := 270) H d0_270 rfl ?_
        refine k_ifF (pc := 272) H d0_272 (XT.i0_le_f ((lt_nat (x := 0) (i := 0) rfl hn).mpr (by decide))) ?_
        refine k_aload (pc := 275) H d0_275 rfl rfl ?_
        refine k_iconst (0 : Int32) (pc := 277) H d0_277 rfl ?_
        refine k_aload (pc := 278) H d0_278 rfl rfl ?_
        refine k_iconst (0 : Int32) (pc := 280) H d0_280 rfl ?_
        refine k_ialoadT (i := 0) (x := x0) (pc := 281) H f137 (rfl) (rfl) d0_281 ?_
        refine k_iastoreT (i := 0) (pc := 282) H V135 (by decide) (by simp) ge133 d0_282 ?_
        intro h138 K139 V140
        have f141 : IA Z h138 a [x0, x1, x2, x3, x4] := f137.keep K139 (ninS ne136 nin0)
        refine k_iload (pc := 283) H d0_283 rfl ?_
        refine k_iconst (1 : Int32) (pc := 285) H d0_285 rfl ?_
        refine k_icmpF (pc := 286) H d0_286 (XT.ii_le_f ((lt_nat (x := 1) (i := 1) rfl hn).mpr (by decide))) ?_
        refine k_aload (pc := 289) H d0_289 rfl rfl ?_
        refine k_iconst (1 : Int32) (pc := 291) H d0_291 rfl ?_
        refine k_aload (pc := 292) H d0_292 rfl rfl ?_
        refine k_iconst (1 : Int32) (pc := 294) H d0_294 rfl ?_
        refine k_ialoadT (i := 1) (x := x1) (pc := 295) H f141 (rfl) (rfl) d0_295 ?_
        refine k_iastoreT (i := 1) (pc := 296) H V140 (by decide) (by simp) ge133 d0_296 ?_
        intro h142 K143 V144
        have f145 : IA Z h142 a [x0, x1, x2, x3, x4] := f141.keep K143 (ninS ne136 nin0)
        refine k_iload (pc := 297) H d0_297 rfl ?_
        refine k_iconst (2 : Int32) (pc := 299) H d0_299 rfl ?_
        refine k_icmpT 311 (pc := 300) H d0_300 rfl (XT.ii_le_t (fun z => absurd ((lt_nat (x := 2) (i := 2) rfl hn).mp z) (by decide))) ?_
        refine k_iload (pc := 311) H d0_311 rfl ?_
        refine k_iconst (3 : Int32) (pc := 313) H d0_313 rfl ?_
        refine k_icmpT 325 (pc := 314) H d0_314 rfl (XT.ii_le_t (fun z => absurd ((lt_nat (x := 3) (i := 3) rfl hn).mp z) (by decide))) ?_
        refine k_iload (pc := 325) H d0_325 rfl ?_
        refine k_iconst (4 : Int32) (pc := 327) H d0_327 rfl ?_
        refine k_icmpT 339 (pc := 328) H d0_328 rfl (XT.ii_le_t (fun z => absurd ((lt_nat (x := 4) (i := 4) rfl hn).mp z) (by decide))) ?_
        refine k_iload (pc := 339) H d0_339 rfl ?_
        have VB : IA Z h142 b [x0, x1] := by simpa [List.replicate] using V144
        refine k_ifF (pc := 341) H d0_341 (XT.i0_le_f ((lt_nat (x := 0) (i := 0) rfl hn).mpr (by decide))) ?_
        refine k_iconst (1 : Int32) (pc := 344) H d0_344 rfl ?_
        refine k_goto 349 (pc := 345) H d0_345 rfl ?_
        refine k_aload (pc := 349) H d0_349 rfl rfl ?_
        refine k_iconst (0 : Int32) (pc := 351) H d0_351 rfl ?_
        refine k_ialoadT (i := 0) (x := x0) (pc := 352) H f145 (rfl) (rfl) d0_352 ?_
        refine k_iload (pc := 353) H d0_353 rfl ?_
        refine k_invS (y := (⟨"com/example/querent/querent/search/PositionsBelowPinLaw", "lt", "(ZII)I"⟩ : MethodName)) (st := []) [(.int (1 : Int32)), (.int x0), (.int p)] 0 (pc := 355) H (wd hw 5 rfl) (wd hw 6 rfl) (wd hw 3 rfl) (wd hw 7 rfl) (by decide) (fun z0 => rm2 l Z a0 hw n0 h142 z0 (1 : Int32) x0 p) (lenOf pd_1 rfl) d0_355 rfl rfl rfl (by decide) (by decide) (by decide) (by decide) ?_
        rintro v hx ⟨rfl, ex⟩
        rw [ex]
        clear ex hx
        show W l room_1 C _ h142 2 7 358 #[.val (.long ab), .second, .val (.long cd), .second, .val (.int ee), .val (.int ps), .val (.int shp), .val (.ref a), .val (.int ni), .val (.int ki), .val (.int mi), .val (.int p), .val (.ref b), .unset] [(.int (own_lt (1 : Int32) x0 p))]
        refine k_iload (pc := 358) H d0_358 rfl ?_
        refine k_iconst (1 : Int32) (pc := 360) H d0_360 rfl ?_
        refine k_icmpF (pc := 361) H d0_361 (XT.ii_le_f ((lt_nat (x := 1) (i := 1) rfl hn).mpr (by decide))) ?_
        refine k_iconst (1 : Int32) (pc := 364) H d0_364 rfl ?_
        refine k_goto 369 (pc := 365) H d0_365 rfl ?_
        refine k_aload (pc := 369) H d0_369 rfl rfl ?_
        refine k_iconst (1 : Int32) (pc := 371) H d0_371 rfl ?_
        refine k_ialoadT (i := 1) (x := x1) (pc := 372) H f145 (rfl) (rfl) d0_372 ?_
        refine k_iload (pc := 373) H d0_373 rfl ?_
        refine k_invS (y := (⟨"com/example/querent/querent/search/PositionsBelowPinLaw", "lt", "(ZII)I"⟩ : MethodName)) (st := [(.int (own_lt (1 : Int32) x0 p))]) [(.int (1 : Int32)), (.int x1), (.int p)] 1 (pc := 375) H (wd hw 5 rfl) (wd hw 6 rfl) (wd hw 3 rfl) (wd hw 7 rfl) (by decide) (fun z0 => rm2 l Z a0 hw n0 h142 z0 (1 : Int32) x1 p) (lenOf pd_1 rfl) d0_375 rfl rfl rfl (by decide) (by decide) (by decide) (by decide) ?_
        rintro v hx ⟨rfl, ex⟩
        rw [ex]
        clear ex hx
        show W l room_1 C _ h142 2 7 378 #[.val (.long ab), .second, .val (.long cd), .second, .val (.int ee), .val (.int ps), .val (.int shp), .val (.ref a), .val (.int ni), .val (.int ki), .val (.int mi), .val (.int p), .val (.ref b), .unset] [(.int (own_lt (1 : Int32) x1 p)), (.int (own_lt (1 : Int32) x0 p))]
        refine k_iadd (pc := 378) H d0_378 ?_
        refine k_iload (pc := 379) H d0_379 rfl ?_
        refine k_iconst (2 : Int32) (pc := 381) H d0_381 rfl ?_
        refine k_icmpT 389 (pc := 382) H d0_382 rfl (XT.ii_le_t (fun z => absurd ((lt_nat (x := 2) (i := 2) rfl hn).mp z) (by decide))) ?_
        refine k_iconst (0 : Int32) (pc := 389) H d0_389 rfl ?_
        refine k_aload (pc := 390) H d0_390 rfl rfl ?_
        refine k_iconst (2 : Int32) (pc := 392) H d0_392 rfl ?_
        refine k_ialoadT (i := 2) (x := x2) (pc := 393) H f145 (rfl) (rfl) d0_393 ?_
        refine k_iload (pc := 394) H d0_394 rfl ?_
        refine k_invS (y := (⟨"com/example/querent/querent/search/PositionsBelowPinLaw", "lt", "(ZII)I"⟩ : MethodName)) (st := [(.int ((own_lt (1 : Int32) x0 p) + (own_lt (1 : Int32) x1 p)))]) [(.int (0 : Int32)), (.int x2), (.int p)] 1 (pc := 396) H (wd hw 5 rfl) (wd hw 6 rfl) (wd hw 3 rfl) (wd hw 7 rfl) (by decide) (fun z0 => rm2 l Z a0 hw n0 h142 z0 (0 : Int32) x2 p) (lenOf pd_1 rfl) d0_396 rfl rfl rfl (by decide) (by decide) (by decide) (by decide) ?_
        rintro v hx ⟨rfl, ex⟩
        rw [ex]
        clear ex hx
        show W l room_1 C _ h142 2 7 399 #[.val (.long ab), .second, .val (.long cd), .second, .val (.int ee), .val (.int ps), .val (.int shp), .val (.ref a), .val (.int ni), .val (.int ki), .val (.int mi), .val (.int p), .val (.ref b), .unset] [(.int (own_lt (0 : Int32) x2 p)), (.int ((own_lt (1 : Int32) x0 p) + (own_lt (1 : Int32) x1 p)))]
        refine k_iadd (pc := 399) H d0_399 ?_
        refine k_iload (pc := 400) H d0_400 rfl ?_
        refine k_iconst (3 : Int32) (pc := 402) H d0_402 rfl ?_
        refine k_icmpT 410 (pc := 403) H d0_403 rfl (XT.ii_le_t (fun z => absurd ((lt_nat (x := 3) (i := 3) rfl hn).mp z) (by decide))) ?_
        refine k_iconst (0 : Int32) (pc := 410) H d0_410 rfl ?_
        refine k_aload (pc := 411) H d0_411 rfl rfl ?_
        refine k_iconst (3 : Int32) (pc := 413) H d0_413 rfl ?_
        refine k_ialoadT (i := 3) (x := x3) (pc := 414) H f145 (rfl) (rfl) d0_414 ?_
        refine k_iload (pc := 415) H d0_415 rfl ?_
        refine k_invS (y := (⟨"com/example/querent/querent/search/PositionsBelowPinLaw", "lt", "(ZII)I"⟩ : MethodName)) (st := [(.int (((own_lt (1 : Int32) x0 p) + (own_lt (1 : Int32) x1 p)) + (own_lt (0 : Int32) x2 p)))]) [(.int (0 : Int32)), (.int x3), (.int p)] 1 (pc := 417) H (wd hw 5 rfl) (wd hw 6 rfl) (wd hw 3 rfl) (wd hw 7 rfl) (by decide) (fun z0 => rm2 l Z a0 hw n0 h142 z0 (0 : Int32) x3 p) (lenOf pd_1 rfl) d0_417 rfl rfl rfl (by decide) (by decide) (by decide) (by decide) ?_
        rintro v hx ⟨rfl, ex⟩
        rw [ex]
        clear ex hx
        show W l room_1 C _ h142 2 7 420 #[.val (.long ab), .second, .val (.long cd), .second, .val (.int ee), .val (.int ps), .val (.int shp), .val (.ref a), .val (.int ni), .val (.int ki), .val (.int mi), .val (.int p), .val (.ref b), .unset] [(.int (own_lt (0 : Int32) x3 p)), (.int (((own_lt (1 : Int32) x0 p) + (own_lt (1 : Int32) x1 p)) + (own_lt (0 : Int32) x2 p)))]
        refine k_iadd (pc := 420) H d0_420 ?_
        refine k_iload (pc := 421) H d0_421 rfl ?_
        refine k_iconst (4 : Int32) (pc := 423) H d0_423 rfl ?_
        refine k_icmpT 431 (pc := 424) H d0_424 rfl (XT.ii_le_t (fun z => absurd ((lt_nat (x := 4) (i := 4) rfl hn).mp z) (by decide))) ?_
        refine k_iconst (0 : Int32) (pc := 431) H d0_431 rfl ?_
        refine k_aload (pc := 432) H d0_432 rfl rfl ?_
        refine k_iconst (4 : Int32) (pc := 434) H d0_434 rfl ?_
        refine k_ialoadT (i := 4) (x := x4) (pc := 435) H f145 (rfl) (rfl) d0_435 ?_
        refine k_iload (pc := 436) H d0_436 rfl ?_
        refine k_invS (y := (⟨"com/example/querent/querent/search/PositionsBelowPinLaw", "lt", "(ZII)I"⟩ : MethodName)) (st := [(.int ((((own_lt (1 : Int32) x0 p) + (own_lt (1 : Int32) x1 p)) + (own_lt (0 : Int32) x2 p)) + (own_lt (0 : Int32) x3 p)))]) [(.int (0 : Int32)), (.int x4), (.int p)] 1 (pc := 438) H (wd hw 5 rfl) (wd hw 6 rfl) (wd hw 3 rfl) (wd hw 7 rfl) (by decide) (fun z0 => rm2 l Z a0 hw n0 h142 z0 (0 : Int32) x4 p) (lenOf pd_1 rfl) d0_438 rfl rfl rfl (by decide) (by decide) (by decide) (by decide) ?_
        rintro v hx ⟨rfl, ex⟩
        rw [ex]
        clear ex hx
        show W l room_1 C _ h142 2 7 441 #[.val (.long ab), .second, .val (.long cd), .second, .val (.int ee), .val (.int ps), .val (.int shp), .val (.ref a), .val (.int ni), .val (.int ki), .val (.int mi), .val (.int p), .val (.ref b), .unset] [(.int (own_lt (0 : Int32) x4 p)), (.int ((((own_lt (1 : Int32) x0 p) + (own_lt (1 : Int32) x1 p)) + (own_lt (0 : Int32) x2 p)) + (own_lt (0 : Int32) x3 p)))]
        refine k_iadd (pc := 441) H d0_441 ?_
        refine k_istore (pc := 442) H d0_442 (Ls' := #[.val (.long ab), .second, .val (.long cd), .second, .val (.int ee), .val (.int ps), .val (.int shp), .val (.ref a), .val (.int ni), .val (.int ki), .val (.int mi), .val (.int p), .val (.ref b), .val (.int (((((own_lt (1 : Int32) x0 p) + (own_lt (1 : Int32) x1 p)) + (own_lt (0 : Int32) x2 p)) + (own_lt (0 : Int32) x3 p)) + (own_lt (0 : Int32) x4 p)))]) rfl ?_
        refine k_aload (pc := 444) H d0_444 rfl rfl ?_
        refine k_iload (pc := 446) H d0_446 rfl ?_
        have hS : ∀ i j, i < j → j < ([x0, x1] : List Int32).length → (([x0, x1] : List Int32).getD i 0).toInt ≤ (([x0, x1] : List Int32).getD j 0).toInt := by
          intro i j hij hj
          simp at hj
          have hc : (i = 0 ∧ j = 1) := by omega
          rcases hc with ⟨rfl, rfl⟩
          · show x0.toInt ≤ x1.toInt; omega
        refine k_invS (y := (⟨"com/example/querent/querent/search/Positions", "below", "([II)I"⟩ : MethodName)) (st := []) [(.ref b), (.int p)] 0 (pc := 448) H (wd hw 8 rfl) (wd hw 9 rfl) (wd hw 10 rfl) (wd hw 11 rfl) (by decide) (fun z0 => rm3 l Z a0 hw n0 h142 z0 b [x0, x1] p VB (by simp) hS) (lenOf pd_2 rfl) d0_448 rfl rfl rfl (by decide) (by decide) (by decide) (by decide) ?_
        rintro v hx ⟨kk, r, hr, g1, g2, g3, rfl, ex⟩
        rw [ex]
        clear ex hx
        show W l room_1 C _ h142 2 7 451 #[.val (.long ab), .second, .val (.long cd), .second, .val (.int ee), .val (.int ps), .val (.int shp), .val (.ref a), .val (.int ni), .val (.int ki), .val (.int mi), .val (.int p), .val (.ref b), .val (.int (((((own_lt (1 : Int32) x0 p) + (own_lt (1 : Int32) x1 p)) + (own_lt (0 : Int32) x2 p)) + (own_lt (0 : Int32) x3 p)) + (own_lt (0 : Int32) x4 p)))] [(.int r)]
        refine k_iload (pc := 451) H d0_451 rfl ?_
        simp only [List.length_cons, List.length_nil] at g1
        have hfin : r = (((((own_lt (1 : Int32) x0 p) + (own_lt (1 : Int32) x1 p)) + (own_lt (0 : Int32) x2 p)) + (own_lt (0 : Int32) x3 p)) + (own_lt (0 : Int32) x4 p)) := by
          have hk' : kk = 0 ∨ kk = 1 ∨ kk = 2 := by omega
          rcases hk' with rfl | rfl | rfl
          · rw [own_lt0 (show ¬ x0 < p from g3 0 (by decide) (by simp)), own_lt0 (show ¬ x1 < p from g3 1 (by decide) (by simp)), own_ltz, own_ltz, own_ltz]; apply Int32.toInt_inj.mp; rw [hr]; rfl
          · rw [own_lt1 (show x0 < p from g2 0 (by decide)), own_lt0 (show ¬ x1 < p from g3 1 (by decide) (by simp)), own_ltz, own_ltz, own_ltz]; apply Int32.toInt_inj.mp; rw [hr]; rfl
          · rw [own_lt1 (show x0 < p from g2 0 (by decide)), own_lt1 (show x1 < p from g2 1 (by decide)), own_ltz, own_ltz, own_ltz]; apply Int32.toInt_inj.mp; rw [hr]; rfl
        refine k_icmpF (pc := 453) H d0_453 (XT.ii_ne_f (hfin)) ?_
        refine k_iconst (1 : Int32) (pc := 456) H d0_456 rfl ?_
        refine k_goto 461 (pc := 457) H d0_457 rfl ?_
        exact k_retN' (t := .boolean) (by simp) (pc := 461) H d0_461 (by show 2 ≤ 16; decide) (by show 7 ≤ 128; decide) (rfl)
      · refine k_new_int (3) 3 (pc := 266) H (wd hw 0 rfl) d0_266 (hn) (by decide) (by decide) (by decide) (by decide) ?_
        intro h147 b ea148 ge149 E150 XA146 V151
        have ne152 : a ≠ b := Nat.ne_of_lt (by rw [ea148]; exact V.lt)
        have f153 : IA Z h147 a [x0, x1, x2, x3, x4] := V.ext E150
        refine k_astore (pc := 268) H d0_268 rfl (Ls' := #[.val (.long ab), .second, .val (.long cd), .second, .val (.int ee), .val (.int ps), .val (.int shp), .val (.ref a), .val (.int ni), .val (.int ki), .val (.int mi), .val (.int p), .val (.ref b), .unset]) rfl ?_
        refine k_iload (pc := 270) H d0_270 rfl ?_
        refine k_ifF (pc := 272) H d0_272 (XT.i0_le_f ((lt_nat (x := 0) (i := 0) rfl hn).mpr (by decide))) ?_
        refine k_aload (pc := 275) H d0_275 rfl rfl ?_
        refine k_iconst (0 : Int32) (pc := 277) H d0_277 rfl ?_
        refine k_aload (pc := 278) H d0_278 rfl rfl ?_
        refine k_iconst (0 : Int32) (pc := 280) H d0_280 rfl ?_
        refine k_ialoadT (i := 0) (x := x0) (pc := 281) H f153 (rfl) (rfl) d0_281 ?_
        refine k_iastoreT (i := 0) (pc := 282) H V151 (by decide) (by simp) ge149 d0_282 ?_
        intro h154 K155 V156
        have f157 : IA Z h154 a [x0, x1, x2, x3, x4] := f153.keep K155 (ninS ne152 nin0)
        refine k_iload (pc := 283) H d0_283 rfl ?_
        refine k_iconst (1 : Int32) (pc := 285) H d0_285 rfl ?_
        refine k_icmpF (pc := 286) H d0_286 (XT.ii_le_f ((lt_nat (x := 1) (i := 1) rfl hn).mpr (by decide))) ?_
        refine k_aload (pc := 289) H d0_289 rfl rfl ?_
        refine k_iconst (1 : Int32) (pc := 291) H d0_291 rfl ?_
        refine k_aload (pc := 292) H d0_292 rfl rfl ?_
        refine k_iconst (1 : Int32) (pc := 294) H d0_294 rfl ?_
        refine k_ialoadT (i := 1) (x := x1) (pc := 295) H f157 (rfl) (rfl) d0_295 ?_
        refine k_iastoreT (i := 1) (pc := 296) H V156 (by decide) (by simp) ge149 d0_296 ?_
        intro h158 K159 V160
        have f161 : IA Z h158 a [x0, x1, x2, x3, x4] := f157.keep K159 (ninS ne152 nin0)
        refine k_iload (pc := 297) H d0_297 rfl ?_
        refine k_iconst (2 : Int32) (pc := 299) H d0_299 rfl ?_
        refine k_icmpF (pc := 300) H d0_300 (XT.ii_le_f ((lt_nat (x := 2) (i := 2) rfl hn).mpr (by decide))) ?_
        refine k_aload (pc := 303) H d0_303 rfl rfl ?_
        refine k_iconst (2 : Int32) (pc := 305) H d0_305 rfl ?_
        refine k_aload (pc := 306) H d0_306 rfl rfl ?_
        refine k_iconst (2 : Int32) (pc := 308) H d0_308 rfl ?_
        refine k_ialoadT (i := 2) (x := x2) (pc := 309) H f161 (rfl) (rfl) d0_309 ?_
        refine k_iastoreT (i := 2) (pc := 310) H V160 (by decide) (by simp) ge149 d0_310 ?_
        intro h162 K163 V164
        have f165 : IA Z h162 a [x0, x1, x2, x3, x4] := f161.keep K163 (ninS ne152 nin0)
        refine k_iload (pc := 311) H d0_311 rfl ?_
        refine k_iconst (3 : Int32) (pc := 313) H d0_313 rfl ?_
        refine k_icmpT 325 (pc := 314) H d0_314 rfl (XT.ii_le_t (fun z => absurd ((lt_nat (x := 3) (i := 3) rfl hn).mp z) (by decide))) ?_
        refine k_iload (pc := 325) H d0_325 rfl ?_
        refine k_iconst (4 : Int32) (pc := 327) H d0_327 rfl ?_
        refine k_icmpT 339 (pc := 328) H d0_328 rfl (XT.ii_le_t (fun z => absurd ((lt_nat (x := 4) (i := 4) rfl hn).mp z) (by decide))) ?_
        refine k_iload (pc := 339) H d0_339 rfl ?_
        have VB : IA Z h162 b [x0, x1, x2] := by simpa [List.replicate] using V164
        refine k_ifF (pc := 341) H d0_341 (XT.i0_le_f ((lt_nat (x := 0) (i := 0) rfl hn).mpr (by decide))) ?_
        refine k_iconst (1 : Int32) (pc := 344) H d0_344 rfl ?_
        refine k_goto 349 (pc := 345) H d0_345 rfl ?_
        refine k_aload (pc := 349) H d0_349 rfl rfl ?_
        refine k_iconst (0 : Int32) (pc := 351) H d0_351 rfl ?_
        refine k_ialoadT (i := 0) (x := x0) (pc := 352) H f165 (rfl) (rfl) d0_352 ?_
        refine k_iload (pc := 353) H d0_353 rfl ?_
        refine k_invS (y := (⟨"com/example/querent/querent/search/PositionsBelowPinLaw", "lt", "(ZII)I"⟩ : MethodName)) (st := []) [(.int (1 : Int32)), (.int x0), (.int p)] 0 (pc := 355) H (wd hw 5 rfl) (wd hw 6 rfl) (wd hw 3 rfl) (wd hw 7 rfl) (by decide) (fun z0 => rm2 l Z a0 hw n0 h162 z0 (1 : Int32) x0 p) (lenOf pd_1 rfl) d0_355 rfl rfl rfl (by decide) (by decide) (by decide) (by decide) ?_
        rintro v hx ⟨rfl, ex⟩
        rw [ex]
        clear ex hx
        show W l room_1 C _ h162 2 8 358 #[.val (.long ab), .second, .val (.long cd), .second, .val (.int ee), .val (.int ps), .val (.int shp), .val (.ref a), .val (.int ni), .val (.int ki), .val (.int mi), .val (.int p), .val (.ref b), .unset] [(.int (own_lt (1 : Int32) x0 p))]
        refine k_iload (pc := 358) H d0_358 rfl ?_
        refine k_iconst (1 : Int32) (pc := 360) H d0_360 rfl ?_
        refine k_icmpF (pc := 361) H d0_361 (XT.ii_le_f ((lt_nat (x := 1) (i := 1) rfl hn).mpr (by decide))) ?_
        refine k_iconst (1 : Int32) (pc := 364) H d0_364 rfl ?_
        refine k_goto 369 (pc := 365) H d0_365 rfl ?_
        refine k_aload (pc := 369) H d0_369 rfl rfl ?_
        refine k_iconst (1 : Int32) (pc := 371) H d0_371 rfl ?_
        refine k_ialoadT (i := 1) (x := x1) (pc := 372) H f165 (rfl) (rfl) d0_372 ?_
        refine k_iload (pc := 373) H d0_373 rfl ?_
        refine k_invS (y := (⟨"com/example/querent/querent/search/PositionsBelowPinLaw", "lt", "(ZII)I"⟩ : MethodName)) (st := [(.int (own_lt (1 : Int32) x0 p))]) [(.int (1 : Int32)), (.int x1), (.int p)] 1 (pc := 375) H (wd hw 5 rfl) (wd hw 6 rfl) (wd hw 3 rfl) (wd hw 7 rfl) (by decide) (fun z0 => rm2 l Z a0 hw n0 h162 z0 (1 : Int32) x1 p) (lenOf pd_1 rfl) d0_375 rfl rfl rfl (by decide) (by decide) (by decide) (by decide) ?_
        rintro v hx ⟨rfl, ex⟩
        rw [ex]
        clear ex hx
        show W l room_1 C _ h162 2 8 378 #[.val (.long ab), .second, .val (.long cd), .second, .val (.int ee), .val (.int ps), .val (.int shp), .val (.ref a), .val (.int ni), .val (.int ki), .val (.int mi), .val (.int p), .val (.ref b), .unset] [(.int (own_lt (1 : Int32) x1 p)), (.int (own_lt (1 : Int32) x0 p))]
        refine k_iadd (pc := 378) H d0_378 ?_
        refine k_iload (pc := 379) H d0_379 rfl ?_
        refine k_iconst (2 : Int32) (pc := 381) H d0_381 rfl ?_
        refine k_icmpF (pc := 382) H d0_382 (XT.ii_le_f ((lt_nat (x := 2) (i := 2) rfl hn).mpr (by decide))) ?_
        refine k_iconst (1 : Int32) (pc := 385) H d0_385 rfl ?_
        refine k_goto 390 (pc := 386) H d0_386 rfl ?_
        refine k_aload (pc := 390) H d0_390 rfl rfl ?_
        refine k_iconst (2 : Int32) (pc := 392) H d0_392 rfl ?_
        refine k_ialoadT (i := 2) (x := x2) (pc := 393) H f165 (rfl) (rfl) d0_393 ?_
        refine k_iload (pc := 394) H d0_394 rfl ?_
        refine k_invS (y := (⟨"com/example/querent/querent/search/PositionsBelowPinLaw", "lt", "(ZII)I"⟩ : MethodName)) (st := [(.int ((own_lt (1 : Int32) x0 p) + (own_lt (1 : Int32) x1 p)))]) [(.int (1 : Int32)), (.int x2), (.int p)] 1 (pc := 396) H (wd hw 5 rfl) (wd hw 6 rfl) (wd hw 3 rfl) (wd hw 7 rfl) (by decide) (fun z0 => rm2 l Z a0 hw n0 h162 z0 (1 : Int32) x2 p) (lenOf pd_1 rfl) d0_396 rfl rfl rfl (by decide) (by decide) (by decide) (by decide) ?_
        rintro v hx ⟨rfl, ex⟩
        rw [ex]
        clear ex hx
        show W l room_1 C _ h162 2 8 399 #[.val (.long ab), .second, .val (.long cd), .second, .val (.int ee), .val (.int ps), .val (.int shp), .val (.ref a), .val (.int ni), .val (.int ki), .val (.int mi), .val (.int p), .val (.ref b), .unset] [(.int (own_lt (1 : Int32) x2 p)), (.int ((own_lt (1 : Int32) x0 p) + (own_lt (1 : Int32) x1 p)))]
        refine k_iadd (pc := 399) H d0_399 ?_
        refine k_iload (pc := 400) H d0_400 rfl ?_
        refine k_iconst (3 : Int32) (pc := 402) H d0_402 rfl ?_
        refine k_icmpT 410 (pc := 403) H d0_403 rfl (XT.ii_le_t (fun z => absurd ((lt_nat (x := 3) (i := 3) rfl hn).mp z) (by decide))) ?_
        refine k_iconst (0 : Int32) (pc := 410) H d0_410 rfl ?_
        refine k_aload (pc := 411) H d0_411 rfl rfl ?_
        refine k_iconst (3 : Int32) (pc := 413) H d0_413 rfl ?_
        refine k_ialoadT (i := 3) (x := x3) (pc := 414) H f165 (rfl) (rfl) d0_414 ?_
        refine k_iload (pc := 415) H d0_415 rfl ?_
        refine k_invS (y := (⟨"com/example/querent/querent/search/PositionsBelowPinLaw", "lt", "(ZII)I"⟩ : MethodName)) (st := [(.int (((own_lt (1 : Int32) x0 p) + (own_lt (1 : Int32) x1 p)) + (own_lt (1 : Int32) x2 p)))]) [(.int (0 : Int32)), (.int x3), (.int p)] 1 (pc := 417) H (wd hw 5 rfl) (wd hw 6 rfl) (wd hw 3 rfl) (wd hw 7 rfl) (by decide) (fun z0 => rm2 l Z a0 hw n0 h162 z0 (0 : Int32) x3 p) (lenOf pd_1 rfl) d0_417 rfl rfl rfl (by decide) (by decide) (by decide) (by decide) ?_
        rintro v hx ⟨rfl, ex⟩
        rw [ex]
        clear ex hx
        show W l room_1 C _ h162 2 8 420 #[.val (.long ab), .second, .val (.long cd), .second, .val (.int ee), .val (.int ps), .val (.int shp), .val (.ref a), .val (.int ni), .val (.int ki), .val (.int mi), .val (.int p), .val (.ref b), .unset] [(.int (own_lt (0 : Int32) x3 p)), (.int (((own_lt (1 : Int32) x0 p) + (own_lt (1 : Int32) x1 p)) + (own_lt (1 : Int32) x2 p)))]
        refine k_iadd (pc := 420) H d0_420 ?_
        refine k_iload (pc := 421) H d0_421 rfl ?_
        refine k_iconst (4 : Int32) (pc := 423) H d0_423 rfl ?_
        refine k_icmpT 431 (pc := 424) H d0_424 rfl (XT.ii_le_t (fun z => absurd ((lt_nat (x := 4) (i := 4) rfl hn).mp z) (by decide))) ?_
        refine k_iconst (0 : Int32) (pc := 431) H d0_431 rfl ?_
        refine k_aload (pc := 432) H d0_432 rfl rfl ?_
        refine k_iconst (4 : Int32) (pc := 434) H d0_434 rfl ?_
        refine k_ialoadT (i := 4) (x := x4) (pc := 435) H f165 (rfl) (rfl) d0_435 ?_
        refine k_iload (pc := 436) H d0_436 rfl ?_
        refine k_invS (y := (⟨"com/example/querent/querent/search/PositionsBelowPinLaw", "lt", "(ZII)I"⟩ : MethodName)) (st := [(.int ((((own_lt (1 : Int32) x0 p) + (own_lt (1 : Int32) x1 p)) + (own_lt (1 : Int32) x2 p)) + (own_lt (0 : Int32) x3 p)))]) [(.int (0 : Int32)), (.int x4), (.int p)] 1 (pc := 438) H (wd hw 5 rfl) (wd hw 6 rfl) (wd hw 3 rfl) (wd hw 7 rfl) (by decide) (fun z0 => rm2 l Z a0 hw n0 h162 z0 (0 : Int32) x4 p) (lenOf pd_1 rfl) d0_438 rfl rfl rfl (by decide) (by decide) (by decide) (by decide) ?_
        rintro v hx ⟨rfl, ex⟩
        rw [ex]
        clear ex hx
        show W l room_1 C _ h162 2 8 441 #[.val (.long ab), .second, .val (.long cd), .second, .val (.int ee), .val (.int ps), .val (.int shp), .val (.ref a), .val (.int ni), .val (.int ki), .val (.int mi), .val (.int p), .val (.ref b), .unset] [(.int (own_lt (0 : Int32) x4 p)), (.int ((((own_lt (1 : Int32) x0 p) + (own_lt (1 : Int32) x1 p)) + (own_lt (1 : Int32) x2 p)) + (own_lt (0 : Int32) x3 p)))]
        refine k_iadd (pc := 441) H d0_441 ?_
        refine k_istore (pc := 442) H d0_442 (Ls' := #[.val (.long ab), .second, .val (.long cd), .second, .val (.int ee), .val (.int ps), .val (.int shp), .val (.ref a), .val (.int ni), .val (.int ki), .val (.int mi), .val (.int p), .val (.ref b), .val (.int (((((own_lt (1 : Int32) x0 p) + (own_lt (1 : Int32) x1 p)) + (own_lt (1 : Int32) x2 p)) + (own_lt (0 : Int32) x3 p)) + (own_lt (0 : Int32) x4 p)))]) rfl ?_
        refine k_aload (pc := 444) H d0_444 rfl rfl ?_
        refine k_iload (pc := 446) H d0_446 rfl ?_
        have hS : ∀ i j, i < j → j < ([x0, x1, x2] : List Int32).length → (([x0, x1, x2] : List Int32).getD i 0).toInt ≤ (([x0, x1, x2] : List Int32).getD j 0).toInt := by
          intro i j hij hj
          simp at hj
          have hc : (i = 0 ∧ j = 1) ∨ (i = 0 ∧ j = 2) ∨ (i = 1 ∧ j = 2) := by omega
          rcases hc with ⟨rfl, rfl⟩ | ⟨rfl, rfl⟩ | ⟨rfl, rfl⟩
          · show x0.toInt ≤ x1.toInt; omega
          · show x0.toInt ≤ x2.toInt; omega
          · show x1.toInt ≤ x2.toInt; omega
        refine k_invS (y := (⟨"com/example/querent/querent/search/Positions", "below", "([II)I"⟩ : MethodName)) (st := []) [(.ref b), (.int p)] 0 (pc := 448) H (wd hw 8 rfl) (wd hw 9 rfl) (wd hw 10 rfl) (wd hw 11 rfl) (by decide) (fun z0 => rm3 l Z a0 hw n0 h162 z0 b [x0, x1, x2] p VB (by simp) hS) (lenOf pd_2 rfl) d0_448 rfl rfl rfl (by decide) (by decide) (by decide) (by decide) ?_
        rintro v hx ⟨kk, r, hr, g1, g2, g3, rfl, ex⟩
        rw [ex]
        clear ex hx
        show W l room_1 C _ h162 2 8 451 #[.val (.long ab), .second, .val (.long cd), .second, .val (.int ee), .val (.int ps), .val (.int shp), .val (.ref a), .val (.int ni), .val (.int ki), .val (.int mi), .val (.int p), .val (.ref b), .val (.int (((((own_lt (1 : Int32) x0 p) + (own_lt (1 : Int32) x1 p)) + (own_lt (1 : Int32) x2 p)) + (own_lt (0 : Int32) x3 p)) + (own_lt (0 : Int32) x4 p)))] [(.int r)]
        refine k_iload (pc := 451) H d0_451 rfl ?_
        simp only [List.length_cons, List.length_nil] at g1
        have hfin : r = (((((own_lt (1 : Int32) x0 p) + (own_lt (1 : Int32) x1 p)) + (own_lt (1 : Int32) x2 p)) + (own_lt (0 : Int32) x3 p)) + (own_lt (0 : Int32) x4 p)) := by
          have hk' : kk = 0 ∨ kk = 1 ∨ kk = 2 ∨ kk = 3 := by omega
          rcases hk' with rfl | rfl | rfl | rfl
          · rw [own_lt0 (show ¬ x0 < p from g3 0 (by decide) (by simp)), own_lt0 (show ¬ x1 < p from g3 1 (by decide) (by simp)), own_lt0 (show ¬ x2 < p from g3 2 (by decide) (by simp)), own_ltz, own_ltz]; apply Int32.toInt_inj.mp; rw [hr]; rfl
          · rw [own_lt1 (show x0 < p from g2 0 (by decide)), own_lt0 (show ¬ x1 < p from g3 1 (by decide) (by simp)), own_lt0 (show ¬ x2 < p from g3 2 (by decide) (by simp)), own_ltz, own_ltz]; apply Int32.toInt_inj.mp; rw [hr]; rfl
          · rw [own_lt1 (show x0 < p from g2 0 (by decide)), own_lt1 (show x1 < p from g2 1 (by decide)), own_lt0 (show ¬ x2 < p from g3 2 (by decide) (by simp)), own_ltz, own_ltz]; apply Int32.toInt_inj.mp; rw [hr]; rfl
          · rw [own_lt1 (show x0 < p from g2 0 (by decide)), own_lt1 (show x1 < p from g2 1 (by decide)), own_lt1 (show x2 < p from g2 2 (by decide)), own_ltz, own_ltz]; apply Int32.toInt_inj.mp; rw [hr]; rfl
        refine k_icmpF (pc := 453) H d0_453 (XT.ii_ne_f (hfin)) ?_
        refine k_iconst (1 : Int32) (pc := 456) H d0_456 rfl ?_
        refine k_goto 461 (pc := 457) H d0_457 rfl ?_
        exact k_retN' (t := .boolean) (by simp) (pc := 461) H d0_461 (by show 2 ≤ 16; decide) (by show 8 ≤ 128; decide) (rfl)
      · refine k_new_int (4) 4 (pc := 266) H (wd hw 0 rfl) d0_266 (hn) (by decide) (by decide) (by decide) (by decide) ?_
        intro h167 b ea168 ge169 E170 XA166 V171
        have ne172 : a ≠ b := Nat.ne_of_lt (by rw [ea168]; exact V.lt)
        have f173 : IA Z h167 a [x0, x1, x2, x3, x4] := V.ext E170
        refine k_astore (pc := 268) H d0_268 rfl (Ls' := #[.val (.long ab), .second, .val (.long cd), .second, .val (.int ee), .val (.int ps), .val (.int shp), .val (.ref a), .val (.int ni), .val (.int ki), .val (.int mi), .val (.int p), .val (.ref b), .unset]) rfl ?_
        refine k_iload (pc := 270) H d0_270 rfl ?_
        refine k_ifF (pc := 272) H d0_272 (XT.i0_le_f ((lt_nat (x := 0) (i := 0) rfl hn).mpr (by decide))) ?_
        refine k_aload (pc := 275) H d0_275 rfl rfl ?_
        refine k_iconst (0 : Int32) (pc := 277) H d0_277 rfl ?_
        refine k_aload (pc := 278) H d0_278 rfl rfl ?_
        refine k_iconst (0 : Int32) (pc := 280) H d0_280 rfl ?_
        refine k_ialoadT (i := 0) (x := x0) (pc := 281) H f173 (rfl) (rfl) d0_281 ?_
        refine k_iastoreT (i := 0) (pc := 282) H V171 (by decide) (by simp) ge169 d0_282 ?_
        intro h174 K175 V176
        have f177 : IA Z h174 a [x0, x1, x2, x3, x4] := f173.keep K175 (ninS ne172 nin0)
        refine k_iload (pc := 283) H d0_283 rfl ?_
        refine k_iconst (1 : Int32) (pc := 285) H d0_285 rfl ?_
        refine k_icmpF (pc := 286) H d0_286 (XT.ii_le_f ((lt_nat (x := 1) (i := 1) rfl hn).mpr (by decide))) ?_
        refine k_aload (pc := 289) H d0_289 rfl rfl ?_
        refine k_iconst (1 : Int32) (pc := 291) H d0_291 rfl ?_
        refine k_aload (pc := 292) H d0_292 rfl rfl ?_
        refine k_iconst (1 : Int32) (pc := 294) H d0_294 rfl ?_
        refine k_ialoadT (i := 1) (x := x1) (pc := 295) H f177 (rfl) (rfl) d0_295 ?_
        refine k_iastoreT (i := 1) (pc := 296) H V176 (by decide) (by simp) ge169 d0_296 ?_
        intro h178 K179 V180
        have f181 : IA Z h178 a [x0, x1, x2, x3, x4] := f177.keep K179 (ninS ne172 nin0)
        refine k_iload (pc := 297) H d0_297 rfl ?_
        refine k_iconst (2 : Int32) (pc := 299) H d0_299 rfl ?_
        refine k_icmpF (pc := 300) H d0_300 (XT.ii_le_f ((lt_nat (x := 2) (i := 2) rfl hn).mpr (by decide))) ?_
        refine k_aload (pc := 303) H d0_303 rfl rfl ?_
        refine k_iconst (2 : Int32) (pc := 305) H d0_305 rfl ?_
        refine k_aload (pc := 306) H d0_306 rfl rfl ?_
        refine k_iconst (2 : Int32) (pc := 308) H d0_308 rfl ?_
        refine k_ialoadT (i := 2) (x := x2) (pc := 309) H f181 (rfl) (rfl) d0_309 ?_
        refine k_iastoreT (i := 2) (pc := 310) H V180 (by decide) (by simp) ge169 d0_310 ?_
        intro h182 K183 V184
        have f185 : IA Z h182 a [x0, x1, x2, x3, x4] := f181.keep K183 (ninS ne172 nin0)
        refine k_iload (pc := 311) H d0_311 rfl ?_
        refine k_iconst (3 : Int32) (pc := 313) H d0_313 rfl ?_
        refine k_icmpF (pc := 314) H d0_314 (XT.ii_le_f ((lt_nat (x := 3) (i := 3) rfl hn).mpr (by decide))) ?_
        refine k_aload (pc := 317) H d0_317 rfl rfl ?_
        refine k_iconst (3 : Int32) (pc := 319) H d0_319 rfl ?_
        refine k_aload (pc := 320) H d0_320 rfl rfl ?_
        refine k_iconst (3 : Int32) (pc := 322) H d0_322 rfl ?_
        refine k_ialoadT (i := 3) (x := x3) (pc := 323) H f185 (rfl) (rfl) d0_323 ?_
        refine k_iastoreT (i := 3) (pc := 324) H V184 (by decide) (by simp) ge169 d0_324 ?_
        intro h186 K187 V188
        have f189 : IA Z h186 a [x0, x1, x2, x3, x4] := f185.keep K187 (ninS ne172 nin0)
        refine k_iload (pc := 325) H d0_325 rfl ?_
        refine k_iconst (4 : Int32) (pc := 327) H d0_327 rfl ?_
        refine k_icmpT 339 (pc := 328) H d0_328 rfl (XT.ii_le_t (fun z => absurd ((lt_nat (x := 4) (i := 4) rfl hn).mp z) (by decide))) ?_
        refine k_iload (pc := 339) H d0_339 rfl ?_
        have VB : IA Z h186 b [x0, x1, x2, x3] := by simpa [List.replicate] using V188
        refine k_ifF (pc := 341) H d0_341 (XT.i0_le_f ((lt_nat (x := 0) (i := 0) rfl hn).mpr (by decide))) ?_
        refine k_iconst (1 : Int32) (pc := 344) H d0_344 rfl ?_
        refine k_goto 349 (pc := 345) H d0_345 rfl ?_
        refine k_aload (pc := 349) H d0_349 rfl rfl ?_
        refine k_iconst (0 : Int32) (pc := 351) H d0_351 rfl ?_
        refine k_ialoadT (i := 0) (x := x0) (pc := 352) H f189 (rfl) (rfl) d0_352 ?_
        refine k_iload (pc := 353) H d0_353 rfl ?_
        refine k_invS (y := (⟨"com/example/querent/querent/search/PositionsBelowPinLaw", "lt", "(ZII)I"⟩ : MethodName)) (st := []) [(.int (1 : Int32)), (.int x0), (.int p)] 0 (pc := 355) H (wd hw 5 rfl) (wd hw 6 rfl) (wd hw 3 rfl) (wd hw 7 rfl) (by decide) (fun z0 => rm2 l Z a0 hw n0 h186 z0 (1 : Int32) x0 p) (lenOf pd_1 rfl) d0_355 rfl rfl rfl (by decide) (by decide) (by decide) (by decide) ?_
        rintro v hx ⟨rfl, ex⟩
        rw [ex]
        clear ex hx
        show W l room_1 C _ h186 2 9 358 #[.val (.long ab), .second, .val (.long cd), .second, .val (.int ee), .val (.int ps), .val (.int shp), .val (.ref a), .val (.int ni), .val (.int ki), .val (.int mi), .val (.int p), .val (.ref b), .unset] [(.int (own_lt (1 : Int32) x0 p))]
        refine k_iload (pc := 358) H d0_358 rfl ?_
        refine k_iconst (1 : Int32) (pc := 360) H d0_360 rfl ?_
        refine k_icmpF (pc := 361) H d0_361 (XT.ii_le_f ((lt_nat (x := 1) (i := 1) rfl hn).mpr (by decide))) ?_
        refine k_iconst (1 : Int32) (pc := 364) H d0_364 rfl ?_
        refine k_goto 369 (pc := 365) H d0_365 rfl ?_
        refine k_aload (pc := 369) H d0_369 rfl rfl ?_
        refine k_iconst (1 : Int32) (pc := 371) H d0_371 rfl ?_
        refine k_ialoadT (i := 1) (x := x1) (pc := 372) H f189 (rfl) (rfl) d0_372 ?_
        refine k_iload (pc := 373) H d0_373 rfl ?_
        refine k_invS (y := (⟨"com/example/querent/querent/search/PositionsBelowPinLaw", "lt", "(ZII)I"⟩ : MethodName)) (st := [(.int (own_lt (1 : Int32) x0 p))]) [(.int (1 : Int32)), (.int x1), (.int p)] 1 (pc := 375) H (wd hw 5 rfl) (wd hw 6 rfl) (wd hw 3 rfl) (wd hw 7 rfl) (by decide) (fun z0 => rm2 l Z a0 hw n0 h186 z0 (1 : Int32) x1 p) (lenOf pd_1 rfl) d0_375 rfl rfl rfl (by decide) (by decide) (by decide) (by decide) ?_
        rintro v hx ⟨rfl, ex⟩
        rw [ex]
        clear ex hx
        show W l room_1 C _ h186 2 9 378 #[.val (.long ab), .second, .val (.long cd), .second, .val (.int ee), .val (.int ps), .val (.int shp), .val (.ref a), .val (.int ni), .val (.int ki), .val (.int mi), .val (.int p), .val (.ref b), .unset] [(.int (own_lt (1 : Int32) x1 p)), (.int (own_lt (1 : Int32) x0 p))]
        refine k_iadd (pc := 378) H d0_378 ?_
        refine k_iload (pc := 379) H d0_379 rfl ?_
        refine k_iconst (2 : Int32) (pc := 381) H d0_381 rfl ?_
        refine k_icmpF (pc := 382) H d0_382 (XT.ii_le_f ((lt_nat (x := 2) (i := 2) rfl hn).mpr (by decide))) ?_
        refine k_iconst (1 : Int32) (pc := 385) H d0_385 rfl ?_
        refine k_goto 390 (pc := 386) H d0_386 rfl ?_
        refine k_aload (pc := 390) H d0_390 rfl rfl ?_
        refine k_iconst (2 : Int32) (pc := 392) H d0_392 rfl ?_
        refine k_ialoadT (i := 2) (x := x2) (pc := 393) H f189 (rfl) (rfl) d0_393 ?_
        refine k_iload (pc := 394) H d0_394 rfl ?_
        refine k_invS (y := (⟨"com/example/querent/querent/search/PositionsBelowPinLaw", "lt", "(ZII)I"⟩ : MethodName)) (st := [(.int ((own_lt (1 : Int32) x0 p) + (own_lt (1 : Int32) x1 p)))]) [(.int (1 : Int32)), (.int x2), (.int p)] 1 (pc := 396) H (wd hw 5 rfl) (wd hw 6 rfl) (wd hw 3 rfl) (wd hw 7 rfl) (by decide) (fun z0 => rm2 l Z a0 hw n0 h186 z0 (1 : Int32) x2 p) (lenOf pd_1 rfl) d0_396 rfl rfl rfl (by decide) (by decide) (by decide) (by decide) ?_
        rintro v hx ⟨rfl, ex⟩
        rw [ex]
        clear ex hx
        show W l room_1 C _ h186 2 9 399 #[.val (.long ab), .second, .val (.long cd), .second, .val (.int ee), .val (.int ps), .val (.int shp), .val (.ref a), .val (.int ni), .val (.int ki), .val (.int mi), .val (.int p), .val (.ref b), .unset] [(.int (own_lt (1 : Int32) x2 p)), (.int ((own_lt (1 : Int32) x0 p) + (own_lt (1 : Int32) x1 p)))]
        refine k_iadd (pc := 399) H d0_399 ?_
        refine k_iload (pc := 400) H d0_400 rfl ?_
        refine k_iconst (3 : Int32) (pc := 402) H d0_402 rfl ?_
        refine k_icmpF (pc := 403) H d0_403 (XT.ii_le_f ((lt_nat (x := 3) (i := 3) rfl hn).mpr (by decide))) ?_
        refine k_iconst (1 : Int32) (pc := 406) H d0_406 rfl ?_
        refine k_goto 411 (pc := 407) H d0_407 rfl ?_
        refine k_aload (pc := 411) H d0_411 rfl rfl ?_
        refine k_iconst (3 : Int32) (pc := 413) H d0_413 rfl ?_
        refine k_ialoadT (i := 3) (x := x3) (pc := 414) H f189 (rfl) (rfl) d0_414 ?_
        refine k_iload (pc := 415) H d0_415 rfl ?_
        refine k_invS (y := (⟨"com/example/querent/querent/search/PositionsBelowPinLaw", "lt", "(ZII)I"⟩ : MethodName)) (st := [(.int (((own_lt (1 : Int32) x0 p) + (own_lt (1 : Int32) x1 p)) + (own_lt (1 : Int32) x2 p)))]) [(.int (1 : Int32)), (.int x3), (.int p)] 1 (pc := 417) H (wd hw 5 rfl) (wd hw 6 rfl) (wd hw 3 rfl) (wd hw 7 rfl) (by decide) (fun z0 => rm2 l Z a0 hw n0 h186 z0 (1 : Int32) x3 p) (lenOf pd_1 rfl) d0_417 rfl rfl rfl (by decide) (by decide) (by decide) (by decide) ?_
        rintro v hx ⟨rfl, ex⟩
        rw [ex]
        clear ex hx
        show W l room_1 C _ h186 2 9 420 #[.val (.long ab), .second, .val (.long cd), .second, .val (.int ee), .val (.int ps), .val (.int shp), .val (.ref a), .val (.int ni), .val (.int ki), .val (.int mi), .val (.int p), .val (.ref b), .unset] [(.int (own_lt (1 : Int32) x3 p)), (.int (((own_lt (1 : Int32) x0 p) + (own_lt (1 : Int32) x1 p)) + (own_lt (1 : Int32) x2 p)))]
        refine k_iadd (pc := 420) H d0_420 ?_
        refine k_iload (pc := 421) H d0_421 rfl ?_
        refine k_iconst (4 : Int32) (pc := 423) H d0_423 rfl ?_
        refine k_icmpT 431 (pc := 424) H d0_424 rfl (XT.ii_le_t (fun z => absurd ((lt_nat (x := 4) (i := 4) rfl hn).mp z) (by decide))) ?_
        refine k_iconst (0 : Int32) (pc := 431) H d0_431 rfl ?_
        refine k_aload (pc := 432) H d0_432 rfl rfl ?_
        refine k_iconst (4 : Int32) (pc := 434) H d0_434 rfl ?_
        refine k_ialoadT (i := 4) (x := x4) (pc := 435) H f189 (rfl) (rfl) d0_435 ?_
        refine k_iload (pc := 436) H d0_436 rfl ?_
        refine k_invS (y := (⟨"com/example/querent/querent/search/PositionsBelowPinLaw", "lt", "(ZII)I"⟩ : MethodName)) (st := [(.int ((((own_lt (1 : Int32) x0 p) + (own_lt (1 : Int32) x1 p)) + (own_lt (1 : Int32) x2 p)) + (own_lt (1 : Int32) x3 p)))]) [(.int (0 : Int32)), (.int x4), (.int p)] 1 (pc := 438) H (wd hw 5 rfl) (wd hw 6 rfl) (wd hw 3 rfl) (wd hw 7 rfl) (by decide) (fun z0 => rm2 l Z a0 hw n0 h186 z0 (0 : Int32) x4 p) (lenOf pd_1 rfl) d0_438 rfl rfl rfl (by decide) (by decide) (by decide) (by decide) ?_
        rintro v hx ⟨rfl, ex⟩
        rw [ex]
        clear ex hx
        show W l room_1 C _ h186 2 9 441 #[.val (.long ab), .second, .val (.long cd), .second, .val (.int ee), .val (.int ps), .val (.int shp), .val (.ref a), .val (.int ni), .val (.int ki), .val (.int mi), .val (.int p), .val (.ref b), .unset] [(.int (own_lt (0 : Int32) x4 p)), (.int ((((own_lt (1 : Int32) x0 p) + (own_lt (1 : Int32) x1 p)) + (own_lt (1 : Int32) x2 p)) + (own_lt (1 : Int32) x3 p)))]
        refine k_iadd (pc := 441) H d0_441 ?_
        refine k_istore (pc := 442) H d0_442 (Ls' := #[.val (.long ab), .second, .val (.long cd), .second, .val (.int ee), .val (.int ps), .val (.int shp), .val (.ref a), .val (.int ni), .val (.int ki), .val (.int mi), .val (.int p), .val (.ref b), .val (.int (((((own_lt (1 : Int32) x0 p) + (own_lt (1 : Int32) x1 p)) + (own_lt (1 : Int32) x2 p)) + (own_lt (1 : Int32) x3 p)) + (own_lt (0 : Int32) x4 p)))]) rfl ?_
        refine k_aload (pc := 444) H d0_444 rfl rfl ?_
        refine k_iload (pc := 446) H d0_446 rfl ?_
        have hS : ∀ i j, i < j → j < ([x0, x1, x2, x3] : List Int32).length → (([x0, x1, x2, x3] : List Int32).getD i 0).toInt ≤ (([x0, x1, x2, x3] : List Int32).getD j 0).toInt := by
          intro i j hij hj
          simp at hj
          have hc : (i = 0 ∧ j = 1) ∨ (i = 0 ∧ j = 2) ∨ (i = 0 ∧ j = 3) ∨ (i = 1 ∧ j = 2) ∨ (i = 1 ∧ j = 3) ∨ (i = 2 ∧ j = 3) := by omega
          rcases hc with ⟨rfl, rfl⟩ | ⟨rfl, rfl⟩ | ⟨rfl, rfl⟩ | ⟨rfl, rfl⟩ | ⟨rfl, rfl⟩ | ⟨rfl, rfl⟩
          · show x0.toInt ≤ x1.toInt; omega
          · show x0.toInt ≤ x2.toInt; omega
          · show x0.toInt ≤ x3.toInt; omega
          · show x1.toInt ≤ x2.toInt; omega
          · show x1.toInt ≤ x3.toInt; omega
          · show x2.toInt ≤ x3.toInt; omega
        refine k_invS (y := (⟨"com/example/querent/querent/search/Positions", "below", "([II)I"⟩ : MethodName)) (st := []) [(.ref b), (.int p)] 0 (pc := 448) H (wd hw 8 rfl) (wd hw 9 rfl) (wd hw 10 rfl) (wd hw 11 rfl) (by decide) (fun z0 => rm3 l Z a0 hw n0 h186 z0 b [x0, x1, x2, x3] p VB (by simp) hS) (lenOf pd_2 rfl) d0_448 rfl rfl rfl (by decide) (by decide) (by decide) (by decide) ?_
        rintro v hx ⟨kk, r, hr, g1, g2, g3, rfl, ex⟩
        rw [ex]
        clear ex hx
        show W l room_1 C _ h186 2 9 451 #[.val (.long ab), .second, .val (.long cd), .second, .val (.int ee), .val (.int ps), .val (.int shp), .val (.ref a), .val (.int ni), .val (.int ki), .val (.int mi), .val (.int p), .val (.ref b), .val (.int (((((own_lt (1 : Int32) x0 p) + (own_lt (1 : Int32) x1 p)) + (own_lt (1 : Int32) x2 p)) + (own_lt (1 : Int32) x3 p)) + (own_lt (0 : Int32) x4 p)))] [(.int r)]
        refine k_iload (pc := 451) H d0_451 rfl ?_
        simp only [List.length_cons, List.length_nil] at g1
        have hfin : r = (((((own_lt (1 : Int32) x0 p) + (own_lt (1 : Int32) x1 p)) + (own_lt (1 : Int32) x2 p)) + (own_lt (1 : Int32) x3 p)) + (own_lt (0 : Int32) x4 p)) := by
          have hk' : kk = 0 ∨ kk = 1 ∨ kk = 2 ∨ kk = 3 ∨ kk = 4 := by omega
          rcases hk' with rfl | rfl | rfl | rfl | rfl
          · rw [own_lt0 (show ¬ x0 < p from g3 0 (by decide) (by simp)), own_lt0 (show ¬ x1 < p from g3 1 (by decide) (by simp)), own_lt0 (show ¬ x2 < p from g3 2 (by decide) (by simp)), own_lt0 (show ¬ x3 < p from g3 3 (by decide) (by simp)), own_ltz]; apply Int32.toInt_inj.mp; rw [hr]; rfl
          · rw [own_lt1 (show x0 < p from g2 0 (by decide)), own_lt0 (show ¬ x1 < p from g3 1 (by decide) (by simp)), own_lt0 (show ¬ x2 < p from g3 2 (by decide) (by simp)), own_lt0 (show ¬ x3 < p from g3 3 (by decide) (by simp)), own_ltz]; apply Int32.toInt_inj.mp; rw [hr]; rfl
          · rw [own_lt1 (show x0 < p from g2 0 (by decide)), own_lt1 (show x1 < p from g2 1 (by decide)), own_lt0 (show ¬ x2 < p from g3 2 (by decide) (by simp)), own_lt0 (show ¬ x3 < p from g3 3 (by decide) (by simp)), own_ltz]; apply Int32.toInt_inj.mp; rw [hr]; rfl
          · rw [own_lt1 (show x0 < p from g2 0 (by decide)), own_lt1 (show x1 < p from g2 1 (by decide)), own_lt1 (show x2 < p from g2 2 (by decide)), own_lt0 (show ¬ x3 < p from g3 3 (by decide) (by simp)), own_ltz]; apply Int32.toInt_inj.mp; rw [hr]; rfl
          · rw [own_lt1 (show x0 < p from g2 0 (by decide)), own_lt1 (show x1 < p from g2 1 (by decide)), own_lt1 (show x2 < p from g2 2 (by decide)), own_lt1 (show x3 < p from g2 3 (by decide)), own_ltz]; apply Int32.toInt_inj.mp; rw [hr]; rfl
        refine k_icmpF (pc := 453) H d0_453 (XT.ii_ne_f (hfin)) ?_
        refine k_iconst (1 : Int32) (pc := 456) H d0_456 rfl ?_
        refine k_goto 461 (pc := 457) H d0_457 rfl ?_
        exact k_retN' (t := .boolean) (by simp) (pc := 461) H d0_461 (by show 2 ≤ 16; decide) (by show 9 ≤ 128; decide) (rfl)
      · refine k_new_int (5) 5 (pc := 266) H (wd hw 0 rfl) d0_266 (hn) (by decide) (by decide) (by decide) (by decide) ?_
        intro h191 b ea192 ge193 E194 XA190 V195
        have ne196 : a ≠ b := Nat.ne_of_lt (by rw [ea192]; exact V.lt)
        have f197 : IA Z h191 a [x0, x1, x2, x3, x4] := V.ext E194
        refine k_astore (pc := 268) H d0_268 rfl (Ls' := #[.val (.long ab), .second, .val (.long cd), .second, .val (.int ee), .val (.int ps), .val (.int shp), .val (.ref a), .val (.int ni), .val (.int ki), .val (.int mi), .val (.int p), .val (.ref b), .unset]) rfl ?_
        refine k_iload (pc := 270) H d0_270 rfl ?_
        refine k_ifF (pc := 272) H d0_272 (XT.i0_le_f ((lt_nat (x := 0) (i := 0) rfl hn).mpr (by decide))) ?_
        refine k_aload (pc := 275) H d0_275 rfl rfl ?_
        refine k_iconst (0 : Int32) (pc := 277) H d0_277 rfl ?_
        refine k_aload (pc := 278) H d0_278 rfl rfl ?_
        refine k_iconst (0 : Int32) (pc := 280) H d0_280 rfl ?_
        refine k_ialoadT (i := 0) (x := x0) (pc := 281) H f197 (rfl) (rfl) d0_281 ?_
        refine k_iastoreT (i := 0) (pc := 282) H V195 (by decide) (by simp) ge193 d0_282 ?_
        intro h198 K199 V200
        have f201 : IA Z h198 a [x0, x1, x2, x3, x4] := f197.keep K199 (ninS ne196 nin0)
        refine k_iload (pc := 283) H d0_283 rfl ?_
        refine k_iconst (1 : Int32) (pc := 285) H d0_285 rfl ?_
        refine k_icmpF (pc := 286) H d0_286 (XT.ii_le_f ((lt_nat (x := 1) (i := 1) rfl hn).mpr (by decide))) ?_
        refine k_aload (pc := 289) H d0_289 rfl rfl ?_
        refine k_iconst (1 : Int32) (pc := 291) H d0_291 rfl ?_
        refine k_aload (pc := 292) H d0_292 rfl rfl ?_
        refine k_iconst (1 : Int32) (pc := 294) H d0_294 rfl ?_
        refine k_ialoadT (i := 1) (x := x1) (pc := 295) H f201 (rfl) (rfl) d0_295 ?_
        refine k_iastoreT (i := 1) (pc := 296) H V200 (by decide) (by simp) ge193 d0_296 ?_
        intro h202 K203 V204
        have f205 : IA Z h202 a [x0, x1, x2, x3, x4] := f201.keep K203 (ninS ne196 nin0)
        refine k_iload (pc := 297) H d0_297 rfl ?_
        refine k_iconst (2 : Int32) (pc := 299) H d0_299 rfl ?_
        refine k_icmpF (pc := 300) H d0_300 (XT.ii_le_f ((lt_nat (x := 2) (i := 2) rfl hn).mpr (by decide))) ?_
        refine k_aload (pc := 303) H d0_303 rfl rfl ?_
        refine k_iconst (2 : Int32) (pc := 305) H d0_305 rfl ?_
        refine k_aload (pc := 306) H d0_306 rfl rfl ?_
        refine k_iconst (2 : Int32) (pc := 308) H d0_308 rfl ?_
        refine k_ialoadT (i := 2) (x := x2) (pc := 309) H f205 (rfl) (rfl) d0_309 ?_
        refine k_iastoreT (i := 2) (pc := 310) H V204 (by decide) (by simp) ge193 d0_310 ?_
        intro h206 K207 V208
        have f209 : IA Z h206 a [x0, x1, x2, x3, x4] := f205.keep K207 (ninS ne196 nin0)
        refine k_iload (pc := 311) H d0_311 rfl ?_
        refine k_iconst (3 : Int32) (pc := 313) H d0_313 rfl ?_
        refine k_icmpF (pc := 314) H d0_314 (XT.ii_le_f ((lt_nat (x := 3) (i := 3) rfl hn).mpr (by decide))) ?_
        refine k_aload (pc := 317) H d0_317 rfl rfl ?_
        refine k_iconst (3 : Int32) (pc := 319) H d0_319 rfl ?_
        refine k_aload (pc := 320) H d0_320 rfl rfl ?_
        refine k_iconst (3 : Int32) (pc := 322) H d0_322 rfl ?_
        refine k_ialoadT (i := 3) (x := x3) (pc := 323) H f209 (rfl) (rfl) d0_323 ?_
        refine k_iastoreT (i := 3) (pc := 324) H V208 (by decide) (by simp) ge193 d0_324 ?_
        intro h210 K211 V212
        have f213 : IA Z h210 a [x0, x1, x2, x3, x4] := f209.keep K211 (ninS ne196 nin0)
        refine k_iload (pc := 325) H d0_325 rfl ?_
        refine k_iconst (4 : Int32) (pc := 327) H d0_327 rfl ?_
        refine k_icmpF (pc := 328) H d0_328 (XT.ii_le_f ((lt_nat (x := 4) (i := 4) rfl hn).mpr (by decide))) ?_
        refine k_aload (pc := 331) H d0_331 rfl rfl ?_
        refine k_iconst (4 : Int32) (pc := 333) H d0_333 rfl ?_
        refine k_aload (pc := 334) H d0_334 rfl rfl ?_
        refine k_iconst (4 : Int32) (pc := 336) H d0_336 rfl ?_
        refine k_ialoadT (i := 4) (x := x4) (pc := 337) H f213 (rfl) (rfl) d0_337 ?_
        refine k_iastoreT (i := 4) (pc := 338) H V212 (by decide) (by simp) ge193 d0_338 ?_
        intro h214 K215 V216
        have f217 : IA Z h214 a [x0, x1, x2, x3, x4] := f213.keep K215 (ninS ne196 nin0)
        refine k_iload (pc := 339) H d0_339 rfl ?_
        have VB : IA Z h214 b [x0, x1, x2, x3, x4] := by simpa [List.replicate] using V216
        refine k_ifF (pc := 341) H d0_341 (XT.i0_le_f ((lt_nat (x := 0) (i := 0) rfl hn).mpr (by decide))) ?_
        refine k_iconst (1 : Int32) (pc := 344) H d0_344 rfl ?_
        refine k_goto 349 (pc := 345) H d0_345 rfl ?_
        refine k_aload (pc := 349) H d0_349 rfl rfl ?_
        refine k_iconst (0 : Int32) (pc := 351) H d0_351 rfl ?_
        refine k_ialoadT (i := 0) (x := x0) (pc := 352) H f217 (rfl) (rfl) d0_352 ?_
        refine k_iload (pc := 353) H d0_353 rfl ?_
        refine k_invS (y := (⟨"com/example/querent/querent/search/PositionsBelowPinLaw", "lt", "(ZII)I"⟩ : MethodName)) (st := []) [(.int (1 : Int32)), (.int x0), (.int p)] 0 (pc := 355) H (wd hw 5 rfl) (wd hw 6 rfl) (wd hw 3 rfl) (wd hw 7 rfl) (by decide) (fun z0 => rm2 l Z a0 hw n0 h214 z0 (1 : Int32) x0 p) (lenOf pd_1 rfl) d0_355 rfl rfl rfl (by decide) (by decide) (by decide) (by decide) ?_
        rintro v hx ⟨rfl, ex⟩
        rw [ex]
        clear ex hx
        show W l room_1 C _ h214 2 10 358 #[.val (.long ab), .second, .val (.long cd), .second, .val (.int ee), .val (.int ps), .val (.int shp), .val (.ref a), .val (.int ni), .val (.int ki), .val (.int mi), .val (.int p), .val (.ref b), .unset] [(.int (own_lt (1 : Int32) x0 p))]
        refine k_iload (pc := 358) H d0_358 rfl ?_
        refine k_iconst (1 : Int32) (pc := 360) H d0_360 rfl ?_
        refine k_icmpF (pc := 361) H d0_361 (XT.ii_le_f ((lt_nat (x := 1) (i := 1) rfl hn).mpr (by decide))) ?_
        refine k_iconst (1 : Int32) (pc := 364) H d0_364 rfl ?_
        refine k_goto 369 (pc := 365) H d0_365 rfl ?_
        refine k_aload (pc := 369) H d0_369 rfl rfl ?_
        refine k_iconst (1 : Int32) (pc := 371) H d0_371 rfl ?_
        refine k_ialoadT (i := 1) (x := x1) (pc := 372) H f217 (rfl) (rfl) d0_372 ?_
        refine k_iload (pc := 373) H d0_373 rfl ?_
        refine k_invS (y := (⟨"com/example/querent/querent/search/PositionsBelowPinLaw", "lt", "(ZII)I"⟩ : MethodName)) (st := [(.int (own_lt (1 : Int32) x0 p))]) [(.int (1 : Int32)), (.int x1), (.int p)] 1 (pc := 375) H (wd hw 5 rfl) (wd hw 6 rfl) (wd hw 3 rfl) (wd hw 7 rfl) (by decide) (fun z0 => rm2 l Z a0 hw n0 h214 z0 (1 : Int32) x1 p) (lenOf pd_1 rfl) d0_375 rfl rfl rfl (by decide) (by decide) (by decide) (by decide) ?_
        rintro v hx ⟨rfl, ex⟩
        rw [ex]
        clear ex hx
        show W l room_1 C _ h214 2 10 378 #[.val (.long ab), .second, .val (.long cd), .second, .val (.int ee), .val (.int ps), .val (.int shp), .val (.ref a), .val (.int ni), .val (.int ki), .val (.int mi), .val (.int p), .val (.ref b), .unset] [(.int (own_lt (1 : Int32) x1 p)), (.int (own_lt (1 : Int32) x0 p))]
        refine k_iadd (pc := 378) H d0_378 ?_
        refine k_iload (pc := 379) H d0_379 rfl ?_
        refine k_iconst (2 : Int32) (pc := 381) H d0_381 rfl ?_
        refine k_icmpF (pc := 382) H d0_382 (XT.ii_le_f ((lt_nat (x := 2) (i := 2) rfl hn).mpr (by decide))) ?_
        refine k_iconst (1 : Int32) (pc := 385) H d0_385 rfl ?_
        refine k_goto 390 (pc := 386) H d0_386 rfl ?_
        refine k_aload (pc := 390) H d0_390 rfl rfl ?_
        refine k_iconst (2 : Int32) (pc := 392) H d0_392 rfl ?_
        refine k_ialoadT (i := 2) (x := x2) (pc := 393) H f217 (rfl) (rfl) d0_393 ?_
        refine k_iload (pc := 394) H d0_394 rfl ?_
        refine k_invS (y := (⟨"com/example/querent/querent/search/PositionsBelowPinLaw", "lt", "(ZII)I"⟩ : MethodName)) (st := [(.int ((own_lt (1 : Int32) x0 p) + (own_lt (1 : Int32) x1 p)))]) [(.int (1 : Int32)), (.int x2), (.int p)] 1 (pc := 396) H (wd hw 5 rfl) (wd hw 6 rfl) (wd hw 3 rfl) (wd hw 7 rfl) (by decide) (fun z0 => rm2 l Z a0 hw n0 h214 z0 (1 : Int32) x2 p) (lenOf pd_1 rfl) d0_396 rfl rfl rfl (by decide) (by decide) (by decide) (by decide) ?_
        rintro v hx ⟨rfl, ex⟩
        rw [ex]
        clear ex hx
        show W l room_1 C _ h214 2 10 399 #[.val (.long ab), .second, .val (.long cd), .second, .val (.int ee), .val (.int ps), .val (.int shp), .val (.ref a), .val (.int ni), .val (.int ki), .val (.int mi), .val (.int p), .val (.ref b), .unset] [(.int (own_lt (1 : Int32) x2 p)), (.int ((own_lt (1 : Int32) x0 p) + (own_lt (1 : Int32) x1 p)))]
        refine k_iadd (pc := 399) H d0_399 ?_
        refine k_iload (pc := 400) H d0_400 rfl ?_
        refine k_iconst (3 : Int32) (pc := 402) H d0_402 rfl ?_
        refine k_icmpF (pc := 403) H d0_403 (XT.ii_le_f ((lt_nat (x := 3) (i := 3) rfl hn).mpr (by decide))) ?_
        refine k_iconst (1 : Int32) (pc := 406) H d0_406 rfl ?_
        refine k_goto 411 (pc := 407) H d0_407 rfl ?_
        refine k_aload (pc := 411) H d0_411 rfl rfl ?_
        refine k_iconst (3 : Int32) (pc := 413) H d0_413 rfl ?_
        refine k_ialoadT (i := 3) (x := x3) (pc := 414) H f217 (rfl) (rfl) d0_414 ?_
        refine k_iload (pc := 415) H d0_415 rfl ?_
        refine k_invS (y := (⟨"com/example/querent/querent/search/PositionsBelowPinLaw", "lt", "(ZII)I"⟩ : MethodName)) (st := [(.int (((own_lt (1 : Int32) x0 p) + (own_lt (1 : Int32) x1 p)) + (own_lt (1 : Int32) x2 p)))]) [(.int (1 : Int32)), (.int x3), (.int p)] 1 (pc := 417) H (wd hw 5 rfl) (wd hw 6 rfl) (wd hw 3 rfl) (wd hw 7 rfl) (by decide) (fun z0 => rm2 l Z a0 hw n0 h214 z0 (1 : Int32) x3 p) (lenOf pd_1 rfl) d0_417 rfl rfl rfl (by decide) (by decide) (by decide) (by decide) ?_
        rintro v hx ⟨rfl, ex⟩
        rw [ex]
        clear ex hx
        show W l room_1 C _ h214 2 10 420 #[.val (.long ab), .second, .val (.long cd), .second, .val (.int ee), .val (.int ps), .val (.int shp), .val (.ref a), .val (.int ni), .val (.int ki), .val (.int mi), .val (.int p), .val (.ref b), .unset] [(.int (own_lt (1 : Int32) x3 p)), (.int (((own_lt (1 : Int32) x0 p) + (own_lt (1 : Int32) x1 p)) + (own_lt (1 : Int32) x2 p)))]
        refine k_iadd (pc := 420) H d0_420 ?_
        refine k_iload (pc := 421) H d0_421 rfl ?_
        refine k_iconst (4 : Int32) (pc := 423) H d0_423 rfl ?_
        refine k_icmpF (pc := 424) H d0_424 (XT.ii_le_f ((lt_nat (x := 4) (i := 4) rfl hn).mpr (by decide))) ?_
        refine k_iconst (1 : Int32) (pc := 427) H d0_427 rfl ?_
        refine k_goto 432 (pc := 428) H d0_428 rfl ?_
        refine k_aload (pc := 432) H d0_432 rfl rfl ?_
        refine k_iconst (4 : Int32) (pc := 434) H d0_434 rfl ?_
        refine k_ialoadT (i := 4) (x := x4) (pc := 435) H f217 (rfl) (rfl) d0_435 ?_
        refine k_iload (pc := 436) H d0_436 rfl ?_
        refine k_invS (y := (⟨"com/example/querent/querent/search/PositionsBelowPinLaw", "lt", "(ZII)I"⟩ : MethodName)) (st := [(.int ((((own_lt (1 : Int32) x0 p) + (own_lt (1 : Int32) x1 p)) + (own_lt (1 : Int32) x2 p)) + (own_lt (1 : Int32) x3 p)))]) [(.int (1 : Int32)), (.int x4), (.int p)] 1 (pc := 438) H (wd hw 5 rfl) (wd hw 6 rfl) (wd hw 3 rfl) (wd hw 7 rfl) (by decide) (fun z0 => rm2 l Z a0 hw n0 h214 z0 (1 : Int32) x4 p) (lenOf pd_1 rfl) d0_438 rfl rfl rfl (by decide) (by decide) (by decide) (by decide) ?_
        rintro v hx ⟨rfl, ex⟩
        rw [ex]
        clear ex hx
        show W l room_1 C _ h214 2 10 441 #[.val (.long ab), .second, .val (.long cd), .second, .val (.int ee), .val (.int ps), .val (.int shp), .val (.ref a), .val (.int ni), .val (.int ki), .val (.int mi), .val (.int p), .val (.ref b), .unset] [(.int (own_lt (1 : Int32) x4 p)), (.int ((((own_lt (1 : Int32) x0 p) + (own_lt (1 : Int32) x1 p)) + (own_lt (1 : Int32) x2 p)) + (own_lt (1 : Int32) x3 p)))]
        refine k_iadd (pc := 441) H d0_441 ?_
        refine k_istore (pc := 442) H d0_442 (Ls' := #[.val (.long ab), .second, .val (.long cd), .second, .val (.int ee), .val (.int ps), .val (.int shp), .val (.ref a), .val (.int ni), .val (.int ki), .val (.int mi), .val (.int p), .val (.ref b), .val (.int (((((own_lt (1 : Int32) x0 p) + (own_lt (1 : Int32) x1 p)) + (own_lt (1 : Int32) x2 p)) + (own_lt (1 : Int32) x3 p)) + (own_lt (1 : Int32) x4 p)))]) rfl ?_
        refine k_aload (pc := 444) H d0_444 rfl rfl ?_
        refine k_iload (pc := 446) H d0_446 rfl ?_
        have hS : ∀ i j, i < j → j < ([x0, x1, x2, x3, x4] : List Int32).length → (([x0, x1, x2, x3, x4] : List Int32).getD i 0).toInt ≤ (([x0, x1, x2, x3, x4] : List Int32).getD j 0).toInt := by
          intro i j hij hj
          simp at hj
          have hc : (i = 0 ∧ j = 1) ∨ (i = 0 ∧ j = 2) ∨ (i = 0 ∧ j = 3) ∨ (i = 0 ∧ j = 4) ∨ (i = 1 ∧ j = 2) ∨ (i = 1 ∧ j = 3) ∨ (i = 1 ∧ j = 4) ∨ (i = 2 ∧ j = 3) ∨ (i = 2 ∧ j = 4) ∨ (i = 3 ∧ j = 4) := by omega
          rcases hc with ⟨rfl, rfl⟩ | ⟨rfl, rfl⟩ | ⟨rfl, rfl⟩ | ⟨rfl, rfl⟩ | ⟨rfl, rfl⟩ | ⟨rfl, rfl⟩ | ⟨rfl, rfl⟩ | ⟨rfl, rfl⟩ | ⟨rfl, rfl⟩ | ⟨rfl, rfl⟩
          · show x0.toInt ≤ x1.toInt; omega
          · show x0.toInt ≤ x2.toInt; omega
          · show x0.toInt ≤ x3.toInt; omega
          · show x0.toInt ≤ x4.toInt; omega
          · show x1.toInt ≤ x2.toInt; omega
          · show x1.toInt ≤ x3.toInt; omega
          · show x1.toInt ≤ x4.toInt; omega
          · show x2.toInt ≤ x3.toInt; omega
          · show x2.toInt ≤ x4.toInt; omega
          · show x3.toInt ≤ x4.toInt; omega
        refine k_invS (y := (⟨"com/example/querent/querent/search/Positions", "below", "([II)I"⟩ : MethodName)) (st := []) [(.ref b), (.int p)] 0 (pc := 448) H (wd hw 8 rfl) (wd hw 9 rfl) (wd hw 10 rfl) (wd hw 11 rfl) (by decide) (fun z0 => rm3 l Z a0 hw n0 h214 z0 b [x0, x1, x2, x3, x4] p VB (by simp) hS) (lenOf pd_2 rfl) d0_448 rfl rfl rfl (by decide) (by decide) (by decide) (by decide) ?_
        rintro v hx ⟨kk, r, hr, g1, g2, g3, rfl, ex⟩
        rw [ex]
        clear ex hx
        show W l room_1 C _ h214 2 10 451 #[.val (.long ab), .second, .val (.long cd), .second, .val (.int ee), .val (.int ps), .val (.int shp), .val (.ref a), .val (.int ni), .val (.int ki), .val (.int mi), .val (.int p), .val (.ref b), .val (.int (((((own_lt (1 : Int32) x0 p) + (own_lt (1 : Int32) x1 p)) + (own_lt (1 : Int32) x2 p)) + (own_lt (1 : Int32) x3 p)) + (own_lt (1 : Int32) x4 p)))] [(.int r)]
        refine k_iload (pc := 451) H d0_451 rfl ?_
        simp only [List.length_cons, List.length_nil] at g1
        have hfin : r = (((((own_lt (1 : Int32) x0 p) + (own_lt (1 : Int32) x1 p)) + (own_lt (1 : Int32) x2 p)) + (own_lt (1 : Int32) x3 p)) + (own_lt (1 : Int32) x4 p)) := by
          have hk' : kk = 0 ∨ kk = 1 ∨ kk = 2 ∨ kk = 3 ∨ kk = 4 ∨ kk = 5 := by omega
          rcases hk' with rfl | rfl | rfl | rfl | rfl | rfl
          · rw [own_lt0 (show ¬ x0 < p from g3 0 (by decide) (by simp)), own_lt0 (show ¬ x1 < p from g3 1 (by decide) (by simp)), own_lt0 (show ¬ x2 < p from g3 2 (by decide) (by simp)), own_lt0 (show ¬ x3 < p from g3 3 (by decide) (by simp)), own_lt0 (show ¬ x4 < p from g3 4 (by decide) (by simp))]; apply Int32.toInt_inj.mp; rw [hr]; rfl
          · rw [own_lt1 (show x0 < p from g2 0 (by decide)), own_lt0 (show ¬ x1 < p from g3 1 (by decide) (by simp)), own_lt0 (show ¬ x2 < p from g3 2 (by decide) (by simp)), own_lt0 (show ¬ x3 < p from g3 3 (by decide) (by simp)), own_lt0 (show ¬ x4 < p from g3 4 (by decide) (by simp))]; apply Int32.toInt_inj.mp; rw [hr]; rfl
          · rw [own_lt1 (show x0 < p from g2 0 (by decide)), own_lt1 (show x1 < p from g2 1 (by decide)), own_lt0 (show ¬ x2 < p from g3 2 (by decide) (by simp)), own_lt0 (show ¬ x3 < p from g3 3 (by decide) (by simp)), own_lt0 (show ¬ x4 < p from g3 4 (by decide) (by simp))]; apply Int32.toInt_inj.mp; rw [hr]; rfl
          · rw [own_lt1 (show x0 < p from g2 0 (by decide)), own_lt1 (show x1 < p from g2 1 (by decide)), own_lt1 (show x2 < p from g2 2 (by decide)), own_lt0 (show ¬ x3 < p from g3 3 (by decide) (by simp)), own_lt0 (show ¬ x4 < p from g3 4 (by decide) (by simp))]; apply Int32.toInt_inj.mp; rw [hr]; rfl
          · rw [own_lt1 (show x0 < p from g2 0 (by decide)), own_lt1 (show x1 < p from g2 1 (by decide)), own_lt1 (show x2 < p from g2 2 (by decide)), own_lt1 (show x3 < p from g2 3 (by decide)), own_lt0 (show ¬ x4 < p from g3 4 (by decide) (by simp))]; apply Int32.toInt_inj.mp; rw [hr]; rfl
          · rw [own_lt1 (show x0 < p from g2 0 (by decide)), own_lt1 (show x1 < p from g2 1 (by decide)), own_lt1 (show x2 < p from g2 2 (by decide)), own_lt1 (show x3 < p from g2 3 (by decide)), own_lt1 (show x4 < p from g2 4 (by decide))]; apply Int32.toInt_inj.mp; rw [hr]; rfl
        refine k_icmpF (pc := 453) H d0_453 (XT.ii_ne_f (hfin)) ?_
        refine k_iconst (1 : Int32) (pc := 456) H d0_456 rfl ?_
        refine k_goto 461 (pc := 457) H d0_457 rfl ?_
        exact k_retN' (t := .boolean) (by simp) (pc := 461) H d0_461 (by show 2 ≤ 16; decide) (by show 10 ≤ 128; decide) (rfl)
    refine k_icmpR (P := mi = (1 : Int32)) 231 (pc := 218) H d0_218 rfl XT.ii_ne_t XT.ii_ne_f (fun c1 => ?_) (fun c1 => ?_)
    · refine k_iload (pc := 231) H d0_231 rfl ?_
      refine k_iconst (2 : Int32) (pc := 233) H d0_233 rfl ?_
      refine k_icmpR (P := mi = (2 : Int32)) 249 (pc := 234) H d0_234 rfl XT.ii_ne_t XT.ii_ne_f (fun c2 => ?_) (fun c2 => ?_)
      · refine k_iload (pc := 249) H d0_249 rfl ?_
        refine k_iconst (3 : Int32) (pc := 251) H d0_251 rfl ?_
        refine k_icmpR (P := mi = (3 : Int32)) 264 (pc := 252) H d0_252 rfl XT.ii_ne_t XT.ii_ne_f (fun c3 => ?_) (fun c3 => ?_)
        · exact J264 _
        · refine k_aload (pc := 255) H d0_255 rfl rfl ?_
          refine k_iload (pc := 257) H d0_257 rfl ?_
          refine k_ialoadT (i := k) (x := ([x0, x1, x2, x3, x4].getD k 0)) (pc := 259) H V (hk) (own_get 0 (by simp; omega)) d0_259 ?_
          refine k_iconst (1 : Int32) (pc := 260) H d0_260 rfl ?_
          refine k_isub (pc := 261) H d0_261 ?_
          refine k_istore (pc := 262) H d0_262 (Ls' := #[.val (.long ab), .second, .val (.long cd), .second, .val (.int ee), .val (.int ps), .val (.int shp), .val (.ref a), .val (.int ni), .val (.int ki), .val (.int mi), .val (.int (([x0, x1, x2, x3, x4].getD k 0) - (1 : Int32))), .unset, .unset]) rfl ?_
          exact J264 _
      · refine k_aload (pc := 237) H d0_237 rfl rfl ?_
        refine k_iload (pc := 239) H d0_239 rfl ?_
        refine k_ialoadT (i := k) (x := ([x0, x1, x2, x3, x4].getD k 0)) (pc := 241) H V (hk) (own_get 0 (by simp; omega)) d0_241 ?_
        refine k_iconst (1 : Int32) (pc := 242) H d0_242 rfl ?_
        refine k_iadd (pc := 243) H d0_243 ?_
        refine k_istore (pc := 244) H d0_244 (Ls' := #[.val (.long ab), .second, .val (.long cd), .second, .val (.int ee), .val (.int ps), .val (.int shp), .val (.ref a), .val (.int ni), .val (.int ki), .val (.int mi), .val (.int (([x0, x1, x2, x3, x4].getD k 0) + (1 : Int32))), .unset, .unset]) rfl ?_
        refine k_goto 264 (pc := 246) H d0_246 rfl ?_
        exact J264 _
    · refine k_aload (pc := 221) H d0_221 rfl rfl ?_
      refine k_iload (pc := 223) H d0_223 rfl ?_
      refine k_ialoadT (i := k) (x := ([x0, x1, x2, x3, x4].getD k 0)) (pc := 225) H V (hk) (own_get 0 (by simp; omega)) d0_225 ?_
      refine k_istore (pc := 226) H d0_226 (Ls' := #[.val (.long ab), .second, .val (.long cd), .second, .val (.int ee), .val (.int ps), .val (.int shp), .val (.ref a), .val (.int ni), .val (.int ki), .val (.int mi), .val (.int ([x0, x1, x2, x3, x4].getD k 0)), .unset, .unset]) rfl ?_
      refine k_goto 264 (pc := 228) H d0_228 rfl ?_
      exact J264 _
  have J162 : ∀ (hh : Heap) (x0 x1 x2 x3 x4 : Int32) (V : IA Z hh a [x0, x1, x2, x3, x4]) (r0 : x0.toInt ≤ x1.toInt) (r1 : x1.toInt ≤ x2.toInt) (r2 : x2.toInt ≤ x3.toInt) (r3 : x3.toInt ≤ x4.toInt), W l room_1 C (n0, 16, 128, fun v h => v = some (.int 1)) hh 1 5 162 #[.val (.long ab), .second, .val (.long cd), .second, .val (.int ee), .val (.int ps), .val (.int shp), .val (.ref a), .unset, .unset, .unset, .unset, .unset, .unset] [] := by
    intro hh x0 x1 x2 x3 x4 V r0 r1 r2 r3
    refine k_iload (pc := 162) H d0_162 rfl ?_
    refine k_bipush (6 : Int32) (pc := 164) H d0_164 rfl ?_
    refine k_iushr (pc := 166) H d0_166 ?_
    refine k_iconst (1 : Int32) (pc := 167) H d0_167 rfl ?_
    refine k_iand (pc := 168) H d0_168 ?_
    refine k_iff0 (P := ((XT.ushr shp (6 : Int32)) &&& (1 : Int32)) = 0) 180 (pc := 169) H d0_169 rfl XT.i0_eq_t XT.i0_eq_f (fun c1 => ?_) (fun c1 => ?_)
    · exact J180 hh x0 x1 x2 x3 x4 V r0 r1 r2 r3
    · refine k_aload (pc := 172) H d0_172 rfl rfl ?_
      refine k_iconst (4 : Int32) (pc := 174) H d0_174 rfl ?_
      refine k_aload (pc := 175) H d0_175 rfl rfl ?_
      refine k_iconst (3 : Int32) (pc := 177) H d0_177 rfl ?_
      refine k_ialoadT (i := 3) (x := x3) (pc := 178) H V (rfl) (rfl) d0_178 ?_
      refine k_iastoreT (i := 4) (pc := 179) H V (by decide) (by simp) ga d0_179 ?_
      intro h218 K219 V220
      exact J180 _ x0 x1 x2 x3 x3 V220 r0 r1 r2 (Int.le_refl _)
  have J145 : ∀ (hh : Heap) (x0 x1 x2 x3 x4 : Int32) (V : IA Z hh a [x0, x1, x2, x3, x4]) (r0 : x0.toInt ≤ x1.toInt) (r1 : x1.toInt ≤ x2.toInt) (r2 : x2.toInt ≤ x3.toInt) (r3 : x3.toInt ≤ x4.toInt), W l room_1 C (n0, 16, 128, fun v h => v = some (.int 1)) hh 1 5 145 #[.val (.long ab), .second, .val (.long cd), .second, .val (.int ee), .val (.int ps), .val (.int shp), .val (.ref a), .unset, .unset, .unset, .unset, .unset, .unset] [] := by
    intro hh x0 x1 x2 x3 x4 V r0 r1 r2 r3
    refine k_iload (pc := 145) H d0_145 rfl ?_
    refine k_iconst (5 : Int32) (pc := 147) H d0_147 rfl ?_
    refine k_iushr (pc := 148) H d0_148 ?_
    refine k_iconst (1 : Int32) (pc := 149) H d0_149 rfl ?_
    refine k_iand (pc := 150) H d0_150 ?_
    refine k_iff0 (P := ((XT.ushr shp (5 : Int32)) &&& (1 : Int32)) = 0) 162 (pc := 151) H d0_151 rfl XT.i0_eq_t XT.i0_eq_f (fun c1 => ?_) (fun c1 => ?_)
    · exact J162 hh x0 x1 x2 x3 x4 V r0 r1 r2 r3
    · refine k_aload (pc := 154) H d0_154 rfl rfl ?_
      refine k_iconst (3 : Int32) (pc := 156) H d0_156 rfl ?_
      refine k_aload (pc := 157) H d0_157 rfl rfl ?_
      refine k_iconst (2 : Int32) (pc := 159) H d0_159 rfl ?_
      refine k_ialoadT (i := 2) (x := x2) (pc := 160) H V (rfl) (rfl) d0_160 ?_
      refine k_iastoreT (i := 3) (pc := 161) H V (by decide) (by simp) ga d0_161 ?_
      intro h221 K222 V223
      exact J162 _ x0 x1 x2 x2 x4 V223 r0 r1 (Int.le_refl _) (by omega)
  have J128 : ∀ (hh : Heap) (x0 x1 x2 x3 x4 : Int32) (V : IA Z hh a [x0, x1, x2, x3, x4]) (r0 : x0.toInt ≤ x1.toInt) (r1 : x1.toInt ≤ x2.toInt) (r2 : x2.toInt ≤ x3.toInt) (r3 : x3.toInt ≤ x4.toInt), W l room_1 C (n0, 16, 128, fun v h => v = some (.int 1)) hh 1 5 128 #[.val (.long ab), .second, .val (.long cd), .second, .val (.int ee), .val (.int ps), .val (.int shp), .val (.ref a), .unset, .unset, .unset, .unset, .unset, .unset] [] := by
    intro hh x0 x1 x2 x3 x4 V r0 r1 r2 r3
    refine k_iload (pc := 128) H d0_128 rfl ?_
    refine k_iconst (4 : Int32) (pc := 130) H d0_130 rfl ?_
    refine k_iushr (pc := 131) H d0_131 ?_
    refine k_iconst (1 : Int32) (pc := 132) H d0_132 rfl ?_
    refine k_iand (pc := 133) H d0_133 ?_
    refine k_iff0 (P := ((XT.ushr shp (4 : Int32)) &&& (1 : Int32)) = 0) 145 (pc := 134) H d0_134 rfl XT.i0_eq_t XT.i0_eq_f (fun c1 => ?_) (fun c1 => ?_)
    · exact J145 hh x0 x1 x2 x3 x4 V r0 r1 r2 r3
    · refine k_aload (pc := 137) H d0_137 rfl rfl ?_
      refine k_iconst (2 : Int32) (pc := 139) H d0_139 rfl ?_
      refine k_aload (pc := 140) H d0_140 rfl rfl ?_
      refine k_iconst (1 : Int32) (pc := 142) H d0_142 rfl ?_
      refine k_ialoadT (i := 1) (x := x1) (pc := 143) H V (rfl) (rfl) d0_143 ?_
      refine k_iastoreT (i := 2) (pc := 144) H V (by decide) (by simp) ga d0_144 ?_
      intro h224 K225 V226
      exact J145 _ x0 x1 x1 x3 x4 V226 r0 (Int.le_refl _) (by omega) r3
  refine k_iload (pc := 111) H d0_111 rfl ?_
  refine k_iconst (3 : Int32) (pc := 113) H d0_113 rfl ?_
  refine k_iushr (pc := 114) H d0_114 ?_
  refine k_iconst (1 : Int32) (pc := 115) H d0_115 rfl ?_
  refine k_iand (pc := 116) H d0_116 ?_
  refine k_iff0 (P := ((XT.ushr shp (3 : Int32)) &&& (1 : Int32)) = 0) 128 (pc := 117) H d0_117 rfl XT.i0_eq_t XT.i0_eq_f (fun c1 => ?_) (fun c1 => ?_)
  · exact J128 _ t23 t24 t22 t18 t12 V102 o103 o107 o97 o79
  · refine k_aload (pc := 120) H d0_120 rfl rfl ?_
    refine k_iconst (1 : Int32) (pc := 122) H d0_122 rfl ?_
    refine k_aload (pc := 123) H d0_123 rfl rfl ?_
    refine k_iconst (0 : Int32) (pc := 125) H d0_125 rfl ?_
    refine k_ialoadT (i := 0) (x := t23) (pc := 126) H V102 (rfl) (rfl) d0_126 ?_
    refine k_iastoreT (i := 1) (pc := 127) H V102 (by decide) (by simp) ge12 d0_127 ?_
    intro h227 K228 V229
    exact J128 _ t23 t23 t22 t18 t12 V229 (Int.le_refl _) (by omega) o97 o79
set_option maxRecDepth 65536 in
set_option maxHeartbeats 40000000 in
theorem comes_1 {Post : Tables → Env → Array Value → State → Outcome → State → Prop} (hpost : ∀ tb e args s v u, (limb_1_1.after args s (.returned v) u = true ∧ limb_1_2.after args s (.returned v) u = true ∧ True) → FrameEnd s (.returned v) u (Jvm.fieldLocs frame_1_writes args s ++ Jvm.arrayLocs frame_1_arrays args s ++ Jvm.staticLocs frame_1_statics s) 16 128 → Post tb e args s (.returned v) u) :
    ArmFor flags0 classFile x code maxLocals ret World_1 tables_1 room_1 Calls_1 rest_1 Pre_1 Post := by
  intro l hfl _ _ p e ha hc hk s m args below hf hA hF happ hP
  obtain ⟨hcalls, hrest, hpre⟩ := hP
  obtain ⟨-, -, -, hnamed, -, -, -, hat⟩ := (Spec.applies_iff hf).mp happ
  obtain ⟨hg, hn⟩ := and_e (Cond.before_iff.mp (show (Jvm.Cond.and given_1 narrow_1).before args s = true from hpre))
  obtain ⟨hcnt, g0⟩ := and_e hg
  obtain ⟨q0, g1⟩ := and_e g0
  obtain ⟨q1, g2⟩ := and_e g1
  obtain ⟨q2, g3⟩ := and_e g2
  obtain ⟨q3, g4⟩ := and_e g3
  obtain ⟨w0, w1, w2, w3, w4, rfl⟩ : ∃ w0 w1 w2 w3 w4 : Value, args = #[w0, w1, w2, w3, w4] := by
    have hs : args.size = 5 := by simpa [Cond.value, given_1] using hcnt
    obtain ⟨L⟩ := args
    match L, hs with
    | [w0, w1, w2, w3, w4], _ => exact ⟨w0, w1, w2, w3, w4, rfl⟩
  have hw := fun d (hd : d ∈ tables_1) => atoms_spec (ws := Jvm.Cond.code x code maxLocals ret :: tables_1) hat d (List.mem_cons_of_mem _ hd)
  obtain ⟨i0, e0⟩ := isL_v q0
  obtain rfl : w0 = (.long i0) := Option.some.inj e0
  obtain ⟨i1, e1⟩ := isL_v q1
  obtain rfl : w1 = (.long i1) := Option.some.inj e1
  obtain ⟨i2, e2⟩ := is_v q2
  obtain rfl : w2 = (.int i2) := Option.some.inj e2
  obtain ⟨i3, e3⟩ := is_v q3
  obtain rfl : w3 = (.int i3) := Option.some.inj e3
  obtain ⟨i4, e4⟩ := is_v g4
  obtain rfl : w4 = (.int i4) := Option.some.inj e4
  obtain ⟨n, o, h1, h2, h3, _, L, rfl, ⟨rfl, N⟩, hq⟩ := rm0 l s _ hw tables_1 s.heap.size s.heap (Nat.le_refl _) i0 i1 i2 i3 i4  p e ha hc hk s m _ below hf ((Spec.applies_iff_loose hf).mp happ).1 ⟨rfl, State.Warmed39.refl s, rfl⟩ trivial
  refine ⟨n, _, h1, h2, h3, hpost _ _ _ _ _ _ ⟨Cond.after_iff.mpr rfl, Cond.after_iff.mpr (eq_i res_at (Term.int_eval (1)) rfl), trivial⟩ ⟨hq.1, hq.2.1, (hq.2.2.sift fun y hy => Or.inr (N y hy)).mono (by decide) (by decide)⟩⟩
theorem main_1_1 : Claimed_1_1 := comes_1 fun _ _ _ _ _ _ h hF => ⟨h.1, hF⟩
theorem main_1_2 : Claimed_1_2 := comes_1 fun _ _ _ _ _ _ h hF => ⟨h.2.1, hF⟩
end Jvm.Pilot.@@N@@
namespace Jvm.Pilot.@@N@@
open Jvm Jvm.ClassFile Sem Op Lib Jvm.Free Jvm.Stand Jvm.Pilot.@@N@@.Jvm.D
/-! MADE BY PROGRAM (witnessworld.py) out of the Statement's table words and the real class files: 9 classes; the members and pool entries that the words name. The judged class is class 1, her method 3. -/
namespace start1
open Jvm.ClassFile
def u (s : String) : CpInfo := .utf8 (stringToUtf16 s)
/-- a pool by its gaps: so many unusable entries, then the entry; so many at the end -/
def gap : Nat → List CpInfo → List CpInfo
  | 0, r => r
  | n + 1, r => .unusable :: gap n r
def poolList (es : List (Nat × CpInfo)) (last : Nat) : List CpInfo := es.foldr (fun e r => gap e.1 (e.2 :: r)) (gap last [])
def pool (es : List (Nat × CpInfo)) (last : Nat) : Array CpInfo := ⟨poolList es last⟩
def fileOf (pool : Array CpInfo) (this : Nat) (attrs : Array Attribute := #[]) (ms : Array MethodInfo := #[]) (fl : Nat := 33) (sup : Nat := 0) (ifs : Array Nat := #[]) (fds : Array FieldInfo := #[]) : ClassFile where
  minorVersion := 0
  majorVersion := 65
  constantPool := pool
  accessFlags := fl
  thisClass := this
  superClass := sup
  interfaces := ifs
  fields := fds
  methods := ms
  attributes := attrs
def plain (name : String) (sup : Option ClassId) : Class where
  name := name
  kind := .ordinary
  loader := none
  accessFlags := 33
  super := sup
  interfaces := #[]
  cf := none
  fields := #[]
  methods := #[]
  instanceTypes := #[]
  staticTypes := #[]
  resolved := #[]
  callSites := []
  init := .initialized
  statics := none
  mirror := none

def pool0 : Array CpInfo := pool [(5, u "<init>"), (0, u "()V"), (1, .class_ 10), (1, u "java/lang/Object")] 113

def k0m0 : Method := { name := "<init>", desc := "()V", sig := { parameters := [], returnType := none }, accessFlags := 1, code := none }
/-- java/lang/Object -/
def k0 : Class := { plain "java/lang/Object" none with
  accessFlags := 33
  interfaces := #[]
  cf := some (fileOf pool0 8 #[] #[{ accessFlags := 1, nameIndex := 5, descriptorIndex := 6, attributes := #[] }] 33 0 #[] #[])
  fields := #[]
  methods := #[k0m0]
  instanceTypes := #[]
  staticTypes := #[]
  resolved := Array.replicate 124 none
  statics := none }

def pool1 : Array CpInfo := pool [(2, .class_ 4), (1, u "java/lang/Object"), (0, u "<init>"), (0, u "()V"), (0, .methodref 8 9), (0, .class_ 10), (0, .nameAndType 11 12), (0, u "com/example/querent/querent/search/PositionsBelowPinLaw"), (0, u "cs"), (0, u "([III)V"), (0, .methodref 8 14), (0, .nameAndType 15 16), (0, u "lt"), (0, u "(ZII)I"), (0, .methodref 18 19), (0, .class_ 20), (0, .nameAndType 21 22), (0, u "com/example/querent/querent/search/Positions"), (0, u "below"), (0, u "([II)I"), (3, u "law"), (0, u "(JJIII)Z")] 4

def k1m0 : Method := { name := "<init>", desc := "()V", sig := { parameters := [], returnType := none }, accessFlags := 2, code := none }
def k1c1 : Code := { maxStack := 4, maxLocals := 4, code := method_2_code, exceptionTable := #[], attributes := #[] }
def k1m1 : Method := { name := "cs", desc := "([III)V", sig := { parameters := [(.array .int), .int, .int], returnType := none }, accessFlags := 10, code := some k1c1 }
def k1c2 : Code := { maxStack := 2, maxLocals := 3, code := method_3_code, exceptionTable := #[], attributes := #[] }
def k1m2 : Method := { name := "lt", desc := "(ZII)I", sig := { parameters := [.boolean, .int, .int], returnType := some .int }, accessFlags := 10, code := some k1c2 }
def k1c3 : Code := { maxStack := 5, maxLocals := 14, code := code, exceptionTable := #[], attributes := #[] }
def k1m3 : Method := { name := "law", desc := "(JJIII)Z", sig := { parameters := [.long, .long, .int, .int, .int], returnType := some .boolean }, accessFlags := 9, code := some k1c3 }
/-- com/example/querent/querent/search/PositionsBelowPinLaw -/
def k1 : Class := { plain "com/example/querent/querent/search/PositionsBelowPinLaw" (some 0) with
  accessFlags := 49
  interfaces := #[]
  cf := some (fileOf pool1 8 #[] #[{ accessFlags := 2, nameIndex := 5, descriptorIndex := 6, attributes := #[] }, { accessFlags := 10, nameIndex := 11, descriptorIndex := 12, attributes := #[] }, { accessFlags := 10, nameIndex := 15, descriptorIndex := 16, attributes := #[] }, { accessFlags := 9, nameIndex := 26, descriptorIndex := 27, attributes := #[] }] 49 2 #[] #[])
  fields := #[]
  methods := #[k1m0, k1m1, k1m2, k1m3]
  instanceTypes := #[]
  staticTypes := #[]
  resolved := Array.replicate 32 none
  statics := none }

def pool2 : Array CpInfo := pool [(2, .class_ 4), (1, u "java/lang/Object"), (0, u "<init>"), (0, u "()V"), (35, .class_ 44), (1, u "com/example/querent/querent/search/Positions"), (0, u "NONE"), (0, u "[I"), (31, .class_ 79), (0, u "com/example/querent/querent/search/Positions$Marks"), (26, u "below"), (0, u "([II)I"), (21, u "LOOKUP_RATIO"), (0, u "I"), (27, .class_ 159), (0, u "com/example/querent/querent/search/Positions$Growing")] 32

def k2m0 : Method := { name := "<init>", desc := "()V", sig := { parameters := [], returnType := none }, accessFlags := 2, code := none }
def k2c1 : Code := { maxStack := 2, maxLocals := 5, code := prog_34_method_5_code, exceptionTable := #[], attributes := #[] }
def k2m1 : Method := { name := "below", desc := "([II)I", sig := { parameters := [(.array .int), .int], returnType := some .int }, accessFlags := 8, code := some k2c1 }
/-- com/example/querent/querent/search/Positions -/
def k2 : Class := { plain "com/example/querent/querent/search/Positions" (some 0) with
  accessFlags := 48
  interfaces := #[]
  cf := some (fileOf pool2 42 #[.nestMembers #[78, 158]] #[{ accessFlags := 2, nameIndex := 5, descriptorIndex := 6, attributes := #[] }, { accessFlags := 8, nameIndex := 106, descriptorIndex := 107, attributes := #[] }] 48 2 #[] #[{ accessFlags := 24, nameIndex := 45, descriptorIndex := 46, attributes := #[] }, { accessFlags := 26, nameIndex := 129, descriptorIndex := 130, attributes := #[] }])
  fields := #[{ name := "NONE", type := (.array .int), accessFlags := 24, slot := 0, constantValue := 0 }, { name := "LOOKUP_RATIO", type := .int, accessFlags := 26, slot := 1, constantValue := 0 }]
  methods := #[k2m0, k2m1]
  instanceTypes := #[]
  staticTypes := #[(.array .int), .int]
  resolved := Array.replicate 192 none
  statics := none }

def pool3 : Array CpInfo := pool [(1, u "java/lang/Cloneable"), (0, .class_ 1), (0, u "java/lang/Object"), (0, .class_ 3)] 3

/-- java/lang/Cloneable -/
def k3 : Class := { plain "java/lang/Cloneable" (some 0) with
  accessFlags := 1537
  interfaces := #[]
  cf := some (fileOf pool3 2 #[] #[] 1537 4 #[] #[])
  fields := #[]
  methods := #[]
  instanceTypes := #[]
  staticTypes := #[]
  resolved := Array.replicate 8 none
  statics := none }

def pool4 : Array CpInfo := pool [(1, u "java/io/Serializable"), (0, .class_ 1), (0, u "java/lang/Object"), (0, .class_ 3)] 3

/-- java/io/Serializable -/
def k4 : Class := { plain "java/io/Serializable" (some 0) with
  accessFlags := 1537
  interfaces := #[]
  cf := some (fileOf pool4 2 #[] #[] 1537 4 #[] #[])
  fields := #[]
  methods := #[]
  instanceTypes := #[]
  staticTypes := #[]
  resolved := Array.replicate 8 none
  statics := none }

/-- the primitive byte -/
def k5 : Class := { plain "byte" none with kind := .primitive 'B', accessFlags := 0x411 }
/-- [B -/
def k6 : Class := { plain "[B" (some 0) with kind := .array 5 .byte, interfaces := #[3, 4], accessFlags := 1041 }

/-- the primitive int -/
def k7 : Class := { plain "int" none with kind := .primitive 'I', accessFlags := 0x411 }
/-- [I -/
def k8 : Class := { plain "[I" (some 0) with kind := .array 7 .int, interfaces := #[3, 4], accessFlags := 1041 }

def heap : Heap := #[]
def classes : Array Class := #[k0, k1, k2, k3, k4, k5, k6, k7, k8]
def interned : List (Array UInt16 × Addr) := []
def slotsUsed : Nat := 0
def theMethod : MethodId := ⟨1, 3⟩
def args0 : Array Value := #[.long 1, .long 2, .int 3, .int 4, .int 5]
def aboutOver (below : List Frame) : State where
  vm := { classes := classes, interned := interned.toArray }
  heap := heap
  slotsUsed := slotsUsed
  threads := #[{ frames := .invoking theMethod args0 :: below }]
def below0 : List Frame := [.native { method := ⟨0, 0⟩, args := #[] }]
def about1 : State := aboutOver below0
def p0 : Program := .bare "" "" ""
def e0 : Env := launch0.env 0 0 0
theorem w_frames : about1.frames = Frame.invoking theMethod args0 :: below0 := rfl
set_option maxRecDepth 65536 in
theorem w_args : argsFit about1.vm theMethod args0 = true := by decide +kernel
set_option maxRecDepth 65536 in
theorem w_heap : heapFits about1 = true := by decide +kernel
set_option maxRecDepth 65536 in
theorem w_runnable : about1.curStatus? = some .runnable := by decide +kernel
set_option maxRecDepth 65536 in
theorem w_alone : about1.alone = true := by decide +kernel
set_option maxRecDepth 65536 in
theorem w_named : about1.methodNamed? x = some theMethod := by decide +kernel
set_option maxRecDepth 65536 in
theorem w_hears : about1.hears theMethod below0 = true := by decide +kernel
set_option maxRecDepth 65536 in
theorem w_ripe : about1.ripe theMethod args0 below0 = true := by decide +kernel
theorem w_running : about1.status = .running := rfl
set_option maxRecDepth 65536 in
theorem w_room : about1.hasRoom e0.platform room_1 = true :=
  launch0.hasRoom_least _ room_1 (by decide +kernel) (by decide +kernel) (by decide +kernel) (by decide +kernel) (by decide +kernel) (by decide +kernel)
theorem allAtoms_all (ts : List Jvm.Cond) (a : Array Jvm.Value) (st : Jvm.State) : (allAtoms ts).before a st = ts.all (fun c => c.before a st) := by
  induction ts with
  | nil => rfl
  | cons c t ih =>
    show (Jvm.Cond.and c (allAtoms t)).before a st = _
    rw [Jvm.Cond.before_and, ih, List.all_cons]
def words1 : List Jvm.Cond := Jvm.Cond.code x code maxLocals ret :: tables_1
/-- a 'code' word, met by the world's own term for the bytes: nothing is compared byte by byte -/
theorem code_word {y : MethodName} {bytes : ByteArray} {mx : Nat} {rt : Option FieldType} {a : Array Value} {s : State} {m : MethodId} {meth : Method} {c : Code} (h1 : s.methodNamed? y = some m) (h2 : s.vm.method? m = some meth) (h3 : meth.code = some c) (h4 : c.code = bytes)
    (h5 : (c.maxLocals == mx && c.exceptionTable.isEmpty && decide (c.maxStack ≤ mostOperands) && decide (meth.sig.returnType = rt) && !meth.locks && decide (parseMethodDescriptor y.desc = some meth.sig)) = true) : (Jvm.Cond.code y bytes mx rt).before a s = true := by
  simp only [Bool.and_eq_true, beq_iff_eq, Bool.not_eq_true', decide_eq_true_eq] at h5
  obtain ⟨⟨⟨⟨⟨g1, g2⟩, g3⟩, g4⟩, g5⟩, g6⟩ := h5
  simp [Cond.before, Cond.holds, Cond.value, h1, h2, h3, h4, g1, g2, g3, g4, g5, g6]
def isCode : Jvm.Cond → Bool
  | .code _ _ _ _ => true
  | _ => false
theorem all_split {L : List Jvm.Cond} {P : Jvm.Cond → Bool} (h1 : L.all (fun c => isCode c || P c) = true) (h2 : ∀ c ∈ L.filter isCode, P c = true) : L.all P = true := by
  refine List.all_eq_true.mpr fun c hc => ?_
  have h := List.all_eq_true.mp h1 c hc
  rcases Bool.eq_false_or_eq_true (isCode c) with hi | hi
  · exact h2 c (List.mem_filter.mpr ⟨hc, hi⟩)
  · simpa [hi] using h
set_option maxRecDepth 65536 in
theorem w_c0 : (Jvm.Cond.code x code maxLocals ret).before args0 about1 = true := code_word (m := ⟨1, 3⟩) (meth := k1m3) (c := k1c3) (by decide +kernel) rfl rfl rfl (by decide +kernel)
set_option maxRecDepth 65536 in
theorem w_c1 : (Jvm.Cond.code ({ cls := "com/example/querent/querent/search/PositionsBelowPinLaw", name := "cs", desc := "([III)V" } : Jvm.MethodName) method_2_code (4 : Nat) (Option.none : Option Jvm.ClassFile.FieldType)).before args0 about1 = true := code_word (m := ⟨1, 1⟩) (meth := k1m1) (c := k1c1) (by decide +kernel) rfl rfl rfl (by decide +kernel)
set_option maxRecDepth 65536 in
theorem w_c2 : (Jvm.Cond.code ({ cls := "com/example/querent/querent/search/PositionsBelowPinLaw", name := "lt", desc := "(ZII)I" } : Jvm.MethodName) method_3_code (3 : Nat) (Option.some Jvm.ClassFile.FieldType.int)).before args0 about1 = true := code_word (m := ⟨1, 2⟩) (meth := k1m2) (c := k1c2) (by decide +kernel) rfl rfl rfl (by decide +kernel)
set_option maxRecDepth 65536 in
theorem w_c3 : (Jvm.Cond.code ({ cls := "com/example/querent/querent/search/Positions", name := "below", desc := "([II)I" } : Jvm.MethodName) prog_34_method_5_code (5 : Nat) (Option.some Jvm.ClassFile.FieldType.int)).before args0 about1 = true := code_word (m := ⟨2, 1⟩) (meth := k2m1) (c := k2c1) (by decide +kernel) rfl rfl rfl (by decide +kernel)
def codes1 : List Jvm.Cond := [Jvm.Cond.code x code maxLocals ret, Jvm.Cond.code ({ cls := "com/example/querent/querent/search/PositionsBelowPinLaw", name := "cs", desc := "([III)V" } : Jvm.MethodName) method_2_code (4 : Nat) (Option.none : Option Jvm.ClassFile.FieldType), Jvm.Cond.code ({ cls := "com/example/querent/querent/search/PositionsBelowPinLaw", name := "lt", desc := "(ZII)I" } : Jvm.MethodName) method_3_code (3 : Nat) (Option.some Jvm.ClassFile.FieldType.int), Jvm.Cond.code ({ cls := "com/example/querent/querent/search/Positions", name := "below", desc := "([II)I" } : Jvm.MethodName) prog_34_method_5_code (5 : Nat) (Option.some Jvm.ClassFile.FieldType.int)]
set_option maxRecDepth 65536 in
theorem codes_eq : words1.filter isCode = codes1 := rfl
theorem w_codes : ∀ c ∈ words1.filter isCode, c.before args0 about1 = true := by
  rw [codes_eq]
  intro c hc
  simp only [codes1, List.mem_cons, List.not_mem_nil, or_false] at hc
  rcases hc with rfl | rfl | rfl | rfl
  · exact w_c0
  · exact w_c1
  · exact w_c2
  · exact w_c3
set_option maxRecDepth 65536 in
theorem w_t1 : words1.all (fun c => isCode c || c.before args0 about1) = true := by decide +kernel
theorem w_tables : (allAtoms (Jvm.Cond.code x code maxLocals ret :: tables_1)).before args0 about1 = true := by
  rw [allAtoms_all]
  show words1.all (fun c => c.before args0 about1) = true
  refine all_split ?_ w_codes
  rw [w_t1]
set_option maxRecDepth 65536 in
theorem w_case : (Jvm.Cond.and given_1 narrow_1).before args0 about1 = true := by decide +kernel
theorem w_applies : (headSpec (Jvm.Cond.code x code maxLocals ret :: tables_1) room_1).applies x e0.platform about1 = true :=
  (Spec.applies_iff w_frames).mpr ⟨w_running, w_runnable, w_alone, w_named, w_hears, w_ripe, w_room, w_tables⟩
theorem atStart : AtStart classFile x code maxLocals ret World_1 tables_1 room_1 Calls_1 rest_1 Pre_1 launch0 p0 e0 about1 theMethod args0 below0 :=
  ⟨lists_1, trivial, launch0.admits_env _ _ _, launch0.least_env, fairChoices_fair.cas, fairChoices_fair.clock, w_frames, w_args, w_heap, w_applies, trivial, trivial, w_case⟩
end start1
theorem witness_1 : WitnessClaimed_1 := ⟨start1.p0, start1.e0, start1.about1, start1.theMethod, start1.args0, start1.below0, start1.atStart⟩
end Jvm.Pilot.@@N@@

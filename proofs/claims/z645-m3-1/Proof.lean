import JvmDerived
import JvmDerived.Pilot.@@N@@Statement
import JvmDerived.Pilot.@@N@@Code
set_option linter.unusedVariables false
set_option linter.unusedSimpArgs false
@@BLOCK:NumsL.lean.txt@@
namespace Jvm.OwnKit
open Sem ClassFile Op Lib Jvm.Stand Jvm.Free Jvm.LawKit Jvm.RoadKit
/-- the surroundings of one body: program, environment, start, method, arguments, frames below, method record, code -/
abbrev Cxt := Program × Env × State × MethodId × Array Value × List Frame × Method × Code
/-- what a body owes: the first new address, cells, slots, what it leaves -/
abbrev En := Nat × Nat × Nat × (Option Value → Heap → Prop)
abbrev St (l : Launch) (R : Room) (C : Cxt) (T : State) (L : List Loc) (k n : Nat) : Prop :=
  Stand C.1 l C.2.1 R C.2.2.1 C.2.2.2.1 C.2.2.2.2.1 C.2.2.2.2.2.1 C.2.2.2.2.2.2.1 C.2.2.2.2.2.2.2 T L k n
abbrev Sp (C : Cxt) (a b : State) : Prop := Steps C.1.tables C.2.1 C.2.2.2.2.2.1 a b
def Goes (C : Cxt) (E : En) (a : State) : Prop :=
  ∃ t o, Sp C a t ∧ t.status = .running ∧ Ended t C.2.2.2.2.2.1 o ∧ ∃ v L, o = .returned v ∧ (E.2.2.2 v t.heap ∧ Fr E.1 L) ∧ FrameEnd C.2.2.1 o t L E.2.1 E.2.2.1
/-- from this place of the code, with this heap, these locals and this stack, and so many cells and slots made, the body comes to its end as owed -/
def W (l : Launch) (R : Room) (C : Cxt) (E : En) (h : Heap) (k n pc : Nat) (Ls : Array Slot) (st : List Value) : Prop :=
  ∀ T L, St l R C T L k n → Fr E.1 L → T.heap = h → Goes C E (T.setTop (mkF C.2.2.2.1 pc Ls st))
def Cx (C : Cxt) (Z : State) (own : String) (code : ByteArray) (ml : Nat) (ret : Option FieldType) (nm : String) (n0 : Nat) : Prop :=
  C.1.tables.exec = Jvm.exec ∧ C.2.2.2.2.2.2.2.code = code ∧ C.2.2.2.2.2.2.2.maxLocals = ml ∧ C.2.2.1.vm.findClass own = some C.2.2.2.1.cls ∧ Z.Warmed39 C.2.2.1.vm ∧ C.2.2.2.2.2.2.1.sig.returnType = ret ∧ C.2.2.2.2.2.2.1.locks = false ∧ C.2.2.2.2.2.2.1.name = nm ∧ n0 ≤ C.2.2.1.heap.size
/-- a contract of one call: these arguments, this heap -/
def Ctr (l : Launch) (Z : State) (y : MethodName) (bytes : ByteArray) (maxL : Nat) (ret : Option FieldType) (rm : Room) (n0 : Nat) (as' : Array Value) (h : Heap) (Q : Option Value → Heap → Prop) : Prop :=
  MetFree l y (head1 [Cond.code y bytes maxL ret] rm) (fun a U => a = as' ∧ Z.Warmed39 U.vm ∧ U.heap = h) (fun _ _ _ _ _ => True) (fun _ U o U' => ∃ v L, o = .returned v ∧ (Q v U'.heap ∧ Fr n0 L) ∧ FrameEnd U o U' L rm.cells rm.slots)
section Own
variable {l : Launch} {R : Room} {C : Cxt} {E : En} {h h' : Heap} {k n pc : Nat} {Ls : Array Slot} {st : List Value} {Z : State} {own nm : String} {code : ByteArray} {ml : Nat} {ret : Option FieldType} {a0 : Array Value}
theorem wd {ts : List Jvm.Cond} (hw : ∀ d ∈ ts, d.before a0 Z = true) (i : Nat) {d : Jvm.Cond} (hi : ts[i]? = some d) : d.before a0 Z = true := hw _ (List.mem_of_getElem? hi)
theorem W.via {pc' : Nat} {Ls' : Array Slot} {st' : List Value} (f : ∀ T t L, St l R C T L k n → T.heap = h → Sp C (T.setTop (mkF C.2.2.2.1 pc' Ls' st')) t → Sp C (T.setTop (mkF C.2.2.2.1 pc Ls st)) t)
    (hr : W l R C E h k n pc' Ls' st') : W l R C E h k n pc Ls st := fun T L X N eT => by
  obtain ⟨t, o, h1, h2⟩ := hr T L X N eT
  exact ⟨t, o, f T t L X eT h1, h2⟩
theorem W.more {k' n' : Nat} (hk : k ≤ k') (hn : n ≤ n') (hr : W l R C E h k' n' pc Ls st) : W l R C E h k n pc Ls st := fun T L X N eT => hr T L (X.more hk hn) N eT
/-- a step that moves the tables alone -/
theorem W.viaT {pc' : Nat} {Ls' : Array Slot} {st' : List Value} (f : ∀ T L, St l R C T L k n → T.heap = h → ∃ T', St l R C T' L k n ∧ T'.heap = h ∧ ∀ t, Sp C (T'.setTop (mkF C.2.2.2.1 pc' Ls' st')) t → Sp C (T.setTop (mkF C.2.2.2.1 pc Ls st)) t)
    (hr : W l R C E h k n pc' Ls' st') : W l R C E h k n pc Ls st := fun T L X N eT => by
  obtain ⟨T', X', e', q⟩ := f T L X eT
  obtain ⟨t, o, h1, h2⟩ := hr T' L X' N e'
  exact ⟨t, o, q t h1, h2⟩
theorem size_ge {n0 : Nat} (H : Cx C Z own code ml ret nm n0) {T : State} {L : List Loc} (X : St l R C T L k n) : n0 ≤ T.heap.size := Nat.le_trans H.2.2.2.2.2.2.2.2 X.same.2.1
/-! plain steps -/
section Plain
theorem k_iloadN {i : Fin 4} {x : Int32} (H : Cx C Z own code ml ret nm E.1) (hd : decode code pc = .ok (.iload_n i, 1)) (hl : Ls[i.val]? = some (.val (.int x))) (hr : W l R C E h k n (pc + 1) Ls (.int x :: st)) : W l R C E h k n pc Ls st := .via (fun T t L X _ r => XS.iloadN X.here H.1 rfl (hb H.2.1 hd) hl r) hr
theorem k_iload {i : Nat} {x : Int32} (H : Cx C Z own code ml ret nm E.1) (hd : decode code pc = .ok (.iload i, 2)) (hl : Ls[i]? = some (.val (.int x))) (hr : W l R C E h k n (pc + 2) Ls (.int x :: st)) : W l R C E h k n pc Ls st := .via (fun T t L X _ r => XS.iload X.here H.1 rfl (hb H.2.1 hd) hl r) hr
theorem k_lloadN {i : Fin 4} {x : Int64} (H : Cx C Z own code ml ret nm E.1) (hd : decode code pc = .ok (.lload_n i, 1)) (hl : Ls[i.val]? = some (.val (.long x))) (hr : W l R C E h k n (pc + 1) Ls (.long x :: st)) : W l R C E h k n pc Ls st := .via (fun T t L X _ r => XT.lloadN X.here H.1 rfl (hb H.2.1 hd) hl r) hr
theorem k_lload {i : Nat} {x : Int64} (H : Cx C Z own code ml ret nm E.1) (hd : decode code pc = .ok (.lload i, 2)) (hl : Ls[i]? = some (.val (.long x))) (hr : W l R C E h k n (pc + 2) Ls (.long x :: st)) : W l R C E h k n pc Ls st := .via (fun T t L X _ r => XT.lload X.here H.1 rfl (hb H.2.1 hd) hl r) hr
theorem k_aloadN {i : Fin 4} {v : Value} (H : Cx C Z own code ml ret nm E.1) (hd : decode code pc = .ok (.aload_n i, 1)) (hl : Ls[i.val]? = some (.val v)) (hv : v.isRef = true) (hr : W l R C E h k n (pc + 1) Ls (v :: st)) : W l R C E h k n pc Ls st := .via (fun T t L X _ r => XS.aloadN X.here H.1 rfl (hb H.2.1 hd) hl hv r) hr
theorem k_aload {i : Nat} {v : Value} (H : Cx C Z own code ml ret nm E.1) (hd : decode code pc = .ok (.aload i, 2)) (hl : Ls[i]? = some (.val v)) (hv : v.isRef = true) (hr : W l R C E h k n (pc + 2) Ls (v :: st)) : W l R C E h k n pc Ls st := .via (fun T t L X _ r => XS.aload X.here H.1 rfl (hb H.2.1 hd) hl hv r) hr
theorem k_istoreN {i : Fin 4} {x : Int32} {Ls' : Array Slot} (H : Cx C Z own code ml ret nm E.1) (hd : decode code pc = .ok (.istore_n i, 1)) (hl : storeLocals Ls i.val (.int x) = some Ls') (hr : W l R C E h k n (pc + 1) Ls' st) : W l R C E h k n pc Ls (.int x :: st) := .via (fun T t L X _ r => XS.istoreN X.here H.1 rfl (hb H.2.1 hd) rfl hl r) hr
theorem k_istore {i : Nat} {x : Int32} {Ls' : Array Slot} (H : Cx C Z own code ml ret nm E.1) (hd : decode code pc = .ok (.istore i, 2)) (hl : storeLocals Ls i (.int x) = some Ls') (hr : W l R C E h k n (pc + 2) Ls' st) : W l R C E h k n pc Ls (.int x :: st) := .via (fun T t L X _ r => XS.istore X.here H.1 rfl (hb H.2.1 hd) rfl hl r) hr
theorem k_lstoreN {i : Fin 4} {x : Int64} {Ls' : Array Slot} (H : Cx C Z own code ml ret nm E.1) (hd : decode code pc = .ok (.lstore_n i, 1)) (hl : storeLocals Ls i.val (.long x) = some Ls') (hr : W l R C E h k n (pc + 1) Ls' st) : W l R C E h k n pc Ls (.long x :: st) := .via (fun T t L X _ r => XT.lstoreN X.here H.1 rfl (hb H.2.1 hd) rfl hl r) hr
theorem k_lstore {i : Nat} {x : Int64} {Ls' : Array Slot} (H : Cx C Z own code ml ret nm E.1) (hd : decode code pc = .ok (.lstore i, 2)) (hl : storeLocals Ls i (.long x) = some Ls') (hr : W l R C E h k n (pc + 2) Ls' st) : W l R C E h k n pc Ls (.long x :: st) := .via (fun T t L X _ r => XT.lstore X.here H.1 rfl (hb H.2.1 hd) rfl hl r) hr
theorem k_astoreN {i : Fin 4} {x : Value} {Ls' : Array Slot} (H : Cx C Z own code ml ret nm E.1) (hd : decode code pc = .ok (.astore_n i, 1)) (hv : x.isRef = true) (hl : storeLocals Ls i.val x = some Ls') (hr : W l R C E h k n (pc + 1) Ls' st) : W l R C E h k n pc Ls (x :: st) := .via (fun T t L X _ r => XS.astoreN X.here H.1 rfl (hb H.2.1 hd) rfl hv hl r) hr
theorem k_astore {i : Nat} {x : Value} {Ls' : Array Slot} (H : Cx C Z own code ml ret nm E.1) (hd : decode code pc = .ok (.astore i, 2)) (hv : x.isRef = true) (hl : storeLocals Ls i x = some Ls') (hr : W l R C E h k n (pc + 2) Ls' st) : W l R C E h k n pc Ls (x :: st) := .via (fun T t L X _ r => XS.astore X.here H.1 rfl (hb H.2.1 hd) rfl hv hl r) hr
theorem k_iconst {i : Int} (v : Int32) (H : Cx C Z own code ml ret nm E.1) (hd : decode code pc = .ok (.iconst i, 1)) (hv : Int32.ofInt i = v) (hr : W l R C E h k n (pc + 1) Ls (.int v :: st)) : W l R C E h k n pc Ls st := .via (fun T t L X _ r => XT.iconstV X.here H.1 rfl v (hb H.2.1 hd) hv r) hr
theorem k_bipush {i : Int} (v : Int32) (H : Cx C Z own code ml ret nm E.1) (hd : decode code pc = .ok (.bipush i, 2)) (hv : (Int8.ofInt i).toInt32 = v) (hr : W l R C E h k n (pc + 2) Ls (.int v :: st)) : W l R C E h k n pc Ls st := .via (fun T t L X _ r => XT.bipushV X.here H.1 rfl v (hb H.2.1 hd) hv r) hr
theorem k_sipush {i : Int} (v : Int32) (H : Cx C Z own code ml ret nm E.1) (hd : decode code pc = .ok (.sipush i, 3)) (hv : (Int16.ofInt i).toInt32 = v) (hr : W l R C E h k n (pc + 3) Ls (.int v :: st)) : W l R C E h k n pc Ls st := .via (fun T t L X _ r => XT.sipushV X.here H.1 rfl v (hb H.2.1 hd) hv r) hr
theorem k_lconst {i : Fin 2} (v : Int64) (H : Cx C Z own code ml ret nm E.1) (hd : decode code pc = .ok (.lconst i, 1)) (hv : Int64.ofNat i = v) (hr : W l R C E h k n (pc + 1) Ls (.long v :: st)) : W l R C E h k n pc Ls st := .via (fun T t L X _ r => XT.lconstV X.here H.1 rfl v (hb H.2.1 hd) hv r) hr
theorem k_aconstNull (H : Cx C Z own code ml ret nm E.1) (hd : decode code pc = .ok (.aconst_null, 1)) (hr : W l R C E h k n (pc + 1) Ls (.null :: st)) : W l R C E h k n pc Ls st := .via (fun T t L X _ r => XS.aconstNull X.here H.1 rfl (hb H.2.1 hd) r) hr
theorem k_ldcI {i : Nat} {v : Int32} (H : Cx C Z own code ml ret nm E.1) (hc : (Cond.constant own i v).before a0 Z = true) (hd : decode code pc = .ok (.ldc i, 2)) (hr : W l R C E h k n (pc + 2) Ls (.int v :: st)) : W l R C E h k n pc Ls st := .via (fun T t L X _ r => X.ldcI H.1 H.2.2.2.1 (mv H.2.2.2.2.1 hc) rfl (hb H.2.1 hd) r) hr
theorem k_ldcWI {i : Nat} {v : Int32} (H : Cx C Z own code ml ret nm E.1) (hc : (Cond.constant own i v).before a0 Z = true) (hd : decode code pc = .ok (.ldc_w i, 3)) (hr : W l R C E h k n (pc + 3) Ls (.int v :: st)) : W l R C E h k n pc Ls st := .via (fun T t L X _ r => X.ldcWI H.1 H.2.2.2.1 (mv H.2.2.2.2.1 hc) rfl (hb H.2.1 hd) r) hr
theorem k_ldc2J {i : Nat} {v : Int64} (H : Cx C Z own code ml ret nm E.1) (hc : (Cond.constantLong own i v).before a0 Z = true) (hd : decode code pc = .ok (.ldc2_w i, 3)) (hr : W l R C E h k n (pc + 3) Ls (.long v :: st)) : W l R C E h k n pc Ls st := .via (fun T t L X _ r => X.ldc2J H.1 H.2.2.2.1 (mv H.2.2.2.2.1 hc) rfl (hb H.2.1 hd) r) hr
theorem k_iinc {i : Nat} {c : Int} (v : Int32) {x : Int32} {Ls' : Array Slot} (H : Cx C Z own code ml ret nm E.1) (hd : decode code pc = .ok (.iinc i c, 3)) (hv : Int32.ofInt c = v) (hl : Ls[i]? = some (.val (.int x))) (hl' : storeLocals Ls i (.int (x + v)) = some Ls') (hr : W l R C E h k n (pc + 3) Ls' st) : W l R C E h k n pc Ls st := .via (fun T t L X _ r => XT.iincV X.here H.1 rfl v (hb H.2.1 hd) hv hl hl' r) hr
theorem k_iadd {x y : Int32} (H : Cx C Z own code ml ret nm E.1) (hd : decode code pc = .ok (.iadd, 1)) (hr : W l R C E h k n (pc + 1) Ls (.int (x + y) :: st)) : W l R C E h k n pc Ls (.int y :: .int x :: st) := .via (fun T t L X _ r => XS.iadd X.here H.1 rfl (hb H.2.1 hd) rfl r) hr
theorem k_isub {x y : Int32} (H : Cx C Z own code ml ret nm E.1) (hd : decode code pc = .ok (.isub, 1)) (hr : W l R C E h k n (pc + 1) Ls (.int (x - y) :: st)) : W l R C E h k n pc Ls (.int y :: .int x :: st) := .via (fun T t L X _ r => XS.isub X.here H.1 rfl (hb H.2.1 hd) rfl r) hr
theorem k_imul {x y : Int32} (H : Cx C Z own code ml ret nm E.1) (hd : decode code pc = .ok (.imul, 1)) (hr : W l R C E h k n (pc + 1) Ls (.int (x * y) :: st)) : W l R C E h k n pc Ls (.int y :: .int x :: st) := .via (fun T t L X _ r => XS.imul X.here H.1 rfl (hb H.2.1 hd) rfl r) hr
theorem k_idiv {x y : Int32} (H : Cx C Z own code ml ret nm E.1) (hd : decode code pc = .ok (.idiv, 1)) (hy : y ≠ 0) (hr : W l R C E h k n (pc + 1) Ls (.int (x / y) :: st)) : W l R C E h k n pc Ls (.int y :: .int x :: st) := .via (fun T t L X _ r => XS.idiv X.here H.1 rfl (hb H.2.1 hd) rfl hy r) hr
theorem k_irem {x y : Int32} (H : Cx C Z own code ml ret nm E.1) (hd : decode code pc = .ok (.irem, 1)) (hy : y ≠ 0) (hr : W l R C E h k n (pc + 1) Ls (.int (x % y) :: st)) : W l R C E h k n pc Ls (.int y :: .int x :: st) := .via (fun T t L X _ r => iremM X H.1 rfl (hb H.2.1 hd) rfl hy r) hr
theorem k_iand {x y : Int32} (H : Cx C Z own code ml ret nm E.1) (hd : decode code pc = .ok (.iand, 1)) (hr : W l R C E h k n (pc + 1) Ls (.int (x &&& y) :: st)) : W l R C E h k n pc Ls (.int y :: .int x :: st) := .via (fun T t L X _ r => XS.iand X.here H.1 rfl (hb H.2.1 hd) rfl r) hr
theorem k_ior {x y : Int32} (H : Cx C Z own code ml ret nm E.1) (hd : decode code pc = .ok (.ior, 1)) (hr : W l R C E h k n (pc + 1) Ls (.int (x ||| y) :: st)) : W l R C E h k n pc Ls (.int y :: .int x :: st) := .via (fun T t L X _ r => XT.ior X.here H.1 rfl (hb H.2.1 hd) rfl r) hr
theorem k_ixor {x y : Int32} (H : Cx C Z own code ml ret nm E.1) (hd : decode code pc = .ok (.ixor, 1)) (hr : W l R C E h k n (pc + 1) Ls (.int (x ^^^ y) :: st)) : W l R C E h k n pc Ls (.int y :: .int x :: st) := .via (fun T t L X _ r => XT.ixor X.here H.1 rfl (hb H.2.1 hd) rfl r) hr
theorem k_ishl {x y : Int32} (H : Cx C Z own code ml ret nm E.1) (hd : decode code pc = .ok (.ishl, 1)) (hr : W l R C E h k n (pc + 1) Ls (.int (x <<< (y &&& 31)) :: st)) : W l R C E h k n pc Ls (.int y :: .int x :: st) := .via (fun T t L X _ r => XT.ishl X.here H.1 rfl (hb H.2.1 hd) rfl r) hr
theorem k_ishr {x y : Int32} (H : Cx C Z own code ml ret nm E.1) (hd : decode code pc = .ok (.ishr, 1)) (hr : W l R C E h k n (pc + 1) Ls (.int (x >>> (y &&& 31)) :: st)) : W l R C E h k n pc Ls (.int y :: .int x :: st) := .via (fun T t L X _ r => XT.ishr X.here H.1 rfl (hb H.2.1 hd) rfl r) hr
theorem k_iushr {x y : Int32} (H : Cx C Z own code ml ret nm E.1) (hd : decode code pc = .ok (.iushr, 1)) (hr : W l R C E h k n (pc + 1) Ls (.int (XT.ushr x y) :: st)) : W l R C E h k n pc Ls (.int y :: .int x :: st) := .via (fun T t L X _ r => XT.iushr X.here H.1 rfl (hb H.2.1 hd) rfl r) hr
theorem k_ineg {x : Int32} (H : Cx C Z own code ml ret nm E.1) (hd : decode code pc = .ok (.ineg, 1)) (hr : W l R C E h k n (pc + 1) Ls (.int (-x) :: st)) : W l R C E h k n pc Ls (.int x :: st) := .via (fun T t L X _ r => XS.ineg X.here H.1 rfl (hb H.2.1 hd) rfl r) hr
theorem k_ladd {x y : Int64} (H : Cx C Z own code ml ret nm E.1) (hd : decode code pc = .ok (.ladd, 1)) (hr : W l R C E h k n (pc + 1) Ls (.long (x + y) :: st)) : W l R C E h k n pc Ls (.long y :: .long x :: st) := .via (fun T t L X _ r => XT.ladd X.here H.1 rfl (hb H.2.1 hd) rfl r) hr
theorem k_lsub {x y : Int64} (H : Cx C Z own code ml ret nm E.1) (hd : decode code pc = .ok (.lsub, 1)) (hr : W l R C E h k n (pc + 1) Ls (.long (x - y) :: st)) : W l R C E h k n pc Ls (.long y :: .long x :: st) := .via (fun T t L X _ r => XT.lsub X.here H.1 rfl (hb H.2.1 hd) rfl r) hr
theorem k_land {x y : Int64} (H : Cx C Z own code ml ret nm E.1) (hd : decode code pc = .ok (.land, 1)) (hr : W l R C E h k n (pc + 1) Ls (.long (x &&& y) :: st)) : W l R C E h k n pc Ls (.long y :: .long x :: st) := .via (fun T t L X _ r => XT.land X.here H.1 rfl (hb H.2.1 hd) rfl r) hr
theorem k_lor {x y : Int64} (H : Cx C Z own code ml ret nm E.1) (hd : decode code pc = .ok (.lor, 1)) (hr : W l R C E h k n (pc + 1) Ls (.long (x ||| y) :: st)) : W l R C E h k n pc Ls (.long y :: .long x :: st) := .via (fun T t L X _ r => XT.lor X.here H.1 rfl (hb H.2.1 hd) rfl r) hr
theorem k_lxor {x y : Int64} (H : Cx C Z own code ml ret nm E.1) (hd : decode code pc = .ok (.lxor, 1)) (hr : W l R C E h k n (pc + 1) Ls (.long (x ^^^ y) :: st)) : W l R C E h k n pc Ls (.long y :: .long x :: st) := .via (fun T t L X _ r => XT.lxor X.here H.1 rfl (hb H.2.1 hd) rfl r) hr
theorem k_lshl {x : Int64} {y : Int32} (H : Cx C Z own code ml ret nm E.1) (hd : decode code pc = .ok (.lshl, 1)) (hr : W l R C E h k n (pc + 1) Ls (.long (x <<< (y.toInt64 &&& 63)) :: st)) : W l R C E h k n pc Ls (.int y :: .long x :: st) := .via (fun T t L X _ r => XT.lshl X.here H.1 rfl (hb H.2.1 hd) rfl r) hr
theorem k_lushr {x : Int64} {y : Int32} (H : Cx C Z own code ml ret nm E.1) (hd : decode code pc = .ok (.lushr, 1)) (hr : W l R C E h k n (pc + 1) Ls (.long (XT.ushrL x y) :: st)) : W l R C E h k n pc Ls (.int y :: .long x :: st) := .via (fun T t L X _ r => XT.lushr X.here H.1 rfl (hb H.2.1 hd) rfl r) hr
theorem k_i2l {x : Int32} (H : Cx C Z own code ml ret nm E.1) (hd : decode code pc = .ok (.i2l, 1)) (hr : W l R C E h k n (pc + 1) Ls (.long x.toInt64 :: st)) : W l R C E h k n pc Ls (.int x :: st) := .via (fun T t L X _ r => XT.i2l X.here H.1 rfl (hb H.2.1 hd) rfl r) hr
theorem k_l2i {x : Int64} (H : Cx C Z own code ml ret nm E.1) (hd : decode code pc = .ok (.l2i, 1)) (hr : W l R C E h k n (pc + 1) Ls (.int x.toInt32 :: st)) : W l R C E h k n pc Ls (.long x :: st) := .via (fun T t L X _ r => XT.l2i X.here H.1 rfl (hb H.2.1 hd) rfl r) hr
theorem k_i2b {x : Int32} (H : Cx C Z own code ml ret nm E.1) (hd : decode code pc = .ok (.i2b, 1)) (hr : W l R C E h k n (pc + 1) Ls (.int x.toInt8.toInt32 :: st)) : W l R C E h k n pc Ls (.int x :: st) := .via (fun T t L X _ r => XT.i2b X.here H.1 rfl (hb H.2.1 hd) rfl r) hr
theorem k_i2c {x : Int32} (H : Cx C Z own code ml ret nm E.1) (hd : decode code pc = .ok (.i2c, 1)) (hr : W l R C E h k n (pc + 1) Ls (.int x.toUInt32.toUInt16.toUInt32.toInt32 :: st)) : W l R C E h k n pc Ls (.int x :: st) := .via (fun T t L X _ r => XT.i2c X.here H.1 rfl (hb H.2.1 hd) rfl r) hr
theorem k_lcmp {x y : Int64} (H : Cx C Z own code ml ret nm E.1) (hd : decode code pc = .ok (.lcmp, 1)) (hr : W l R C E h k n (pc + 1) Ls (.int (XT.cmpL x y) :: st)) : W l R C E h k n pc Ls (.long y :: .long x :: st) := .via (fun T t L X _ r => XT.lcmp X.here H.1 rfl (hb H.2.1 hd) rfl r) hr
theorem k_dup {v : Value} (H : Cx C Z own code ml ret nm E.1) (hd : decode code pc = .ok (.dup, 1)) (hc : v.category = 1) (hr : W l R C E h k n (pc + 1) Ls (v :: v :: st)) : W l R C E h k n pc Ls (v :: st) := .via (fun T t L X _ r => XS.dup X.here H.1 rfl (hb H.2.1 hd) rfl hc r) hr
theorem k_pop {v : Value} (H : Cx C Z own code ml ret nm E.1) (hd : decode code pc = .ok (.pop, 1)) (hc : v.category = 1) (hr : W l R C E h k n (pc + 1) Ls st) : W l R C E h k n pc Ls (v :: st) := .via (fun T t L X _ r => XT.pop X.here H.1 rfl (hb H.2.1 hd) rfl hc r) hr
theorem k_dupX1 {v w : Value} (H : Cx C Z own code ml ret nm E.1) (hd : decode code pc = .ok (.dup_x1, 1)) (hc : v.category = 1) (hc' : w.category = 1) (hr : W l R C E h k n (pc + 1) Ls (v :: w :: v :: st)) : W l R C E h k n pc Ls (v :: w :: st) := .via (fun T t L X _ r => XT.dupX1 X.here H.1 rfl (hb H.2.1 hd) rfl hc hc' r) hr
theorem k_dup2 {v w : Value} (H : Cx C Z own code ml ret nm E.1) (hd : decode code pc = .ok (.dup2, 1)) (hc : v.category = 1) (hc' : w.category = 1) (hr : W l R C E h k n (pc + 1) Ls (v :: w :: v :: w :: st)) : W l R C E h k n pc Ls (v :: w :: st) := .via (fun T t L X _ r => XT.dup2 X.here H.1 rfl (hb H.2.1 hd) rfl hc hc' r) hr
theorem k_goto {o : Int} (pc' : Nat) (H : Cx C Z own code ml ret nm E.1) (hd : decode code pc = .ok (.goto o, 3)) (hp : (pc : Int) + o = (pc' : Int)) (hr : W l R C E h k n pc' Ls st) : W l R C E h k n pc Ls st := .via (fun T t L X _ r => XS.goto X.here H.1 rfl rfl (hb H.2.1 hd) (by rw [hp]; exact Int.natCast_nonneg _) (by rw [hp]; rfl) r) hr
theorem k_icmpT {cd : ClassFile.Cond} {o : Int} {x y : Int32} (pc' : Nat) (H : Cx C Z own code ml ret nm E.1) (hd : decode code pc = .ok (.if_icmp cd o, 3)) (hp : (pc : Int) + o = (pc' : Int)) (hc : if_icmp.holds cd x y = true) (hr : W l R C E h k n pc' Ls st) : W l R C E h k n pc Ls (.int y :: .int x :: st) :=
  .via (fun T t L X _ r => XS.icmpYes X.here H.1 rfl rfl (hb H.2.1 hd) rfl hc (by rw [hp]; exact Int.natCast_nonneg _) (by rw [hp]; rfl) r) hr
theorem k_icmpF {cd : ClassFile.Cond} {o : Int} {x y : Int32} (H : Cx C Z own code ml ret nm E.1) (hd : decode code pc = .ok (.if_icmp cd o, 3)) (hc : if_icmp.holds cd x y = false) (hr : W l R C E h k n (pc + 3) Ls st) : W l R C E h k n pc Ls (.int y :: .int x :: st) :=
  .via (fun T t L X _ r => XS.icmpNo X.here H.1 rfl (hb H.2.1 hd) rfl hc r) hr
theorem k_ifT {cd : ClassFile.Cond} {o : Int} {x : Int32} (pc' : Nat) (H : Cx C Z own code ml ret nm E.1) (hd : decode code pc = .ok (.ifCond cd o, 3)) (hp : (pc : Int) + o = (pc' : Int)) (hc : ifCond.holds cd x = true) (hr : W l R C E h k n pc' Ls st) : W l R C E h k n pc Ls (.int x :: st) :=
  .via (fun T t L X _ r => XS.ifYes X.here H.1 rfl rfl (hb H.2.1 hd) rfl hc (by rw [hp]; exact Int.natCast_nonneg _) (by rw [hp]; rfl) r) hr
theorem k_ifF {cd : ClassFile.Cond} {o : Int} {x : Int32} (H : Cx C Z own code ml ret nm E.1) (hd : decode code pc = .ok (.ifCond cd o, 3)) (hc : ifCond.holds cd x = false) (hr : W l R C E h k n (pc + 3) Ls st) : W l R C E h k n pc Ls (.int x :: st) :=
  .via (fun T t L X _ r => XS.ifNo X.here H.1 rfl (hb H.2.1 hd) rfl hc r) hr
theorem k_acmpT {cd : ClassFile.ACond} {o : Int} {x y : Value} (pc' : Nat) (H : Cx C Z own code ml ret nm E.1) (hd : decode code pc = .ok (.if_acmp cd o, 3)) (hp : (pc : Int) + o = (pc' : Int)) (hx : x.isRef = true) (hy : y.isRef = true) (hc : XT.acmp cd x y = true) (hr : W l R C E h k n pc' Ls st) : W l R C E h k n pc Ls (y :: x :: st) :=
  .via (fun T t L X _ r => XT.acmpYes X.here H.1 rfl rfl (hb H.2.1 hd) rfl hx hy hc (by rw [hp]; exact Int.natCast_nonneg _) (by rw [hp]; rfl) r) hr
theorem k_acmpF {cd : ClassFile.ACond} {o : Int} {x y : Value} (H : Cx C Z own code ml ret nm E.1) (hd : decode code pc = .ok (.if_acmp cd o, 3)) (hx : x.isRef = true) (hy : y.isRef = true) (hc : XT.acmp cd x y = false) (hr : W l R C E h k n (pc + 3) Ls st) : W l R C E h k n pc Ls (y :: x :: st) :=
  .via (fun T t L X _ r => XT.acmpNo X.here H.1 rfl (hb H.2.1 hd) rfl hx hy hc r) hr
theorem k_nonnullT {o : Int} {b : Addr} (pc' : Nat) (H : Cx C Z own code ml ret nm E.1) (hd : decode code pc = .ok (.ifnonnull o, 3)) (hp : (pc : Int) + o = (pc' : Int)) (hr : W l R C E h k n pc' Ls st) : W l R C E h k n pc Ls (.ref b :: st) :=
  .via (fun T t L X _ r => XT.ifnonnullYes X.here H.1 rfl rfl (hb H.2.1 hd) rfl (by rw [hp]; exact Int.natCast_nonneg _) (by rw [hp]; rfl) r) hr
theorem k_tsw {dflt low high o : Int} {offs : Array Int} {len : Nat} {i : Int32} (pc' : Nat) (H : Cx C Z own code ml ret nm E.1) (hd : decode code pc = .ok (.tableswitch dflt low high offs, len)) (hin : ¬ (i.toInt < low ∨ i.toInt > high)) (hoff : offs[(i.toInt - low).toNat]? = some o) (hp : (pc : Int) + o = (pc' : Int)) (hr : W l R C E h k n pc' Ls st) : W l R C E h k n pc Ls (.int i :: st) :=
  .via (fun T t L X _ r => XS.tswIn X.here H.1 rfl rfl (hb H.2.1 hd) rfl hin hoff (by rw [hp]; exact Int.natCast_nonneg _) (by rw [hp]; rfl) r) hr
theorem lsw {tb : Tables} [Ours tb] {e : Env} {below : List Frame} {T target : State} {m : MethodId} {c : Code} {g : JFrame} (h : At T m c below) (hx : tb.exec = Jvm.exec) (hg : g.method = m) {dflt : Int} {pairs : Array (Int × Int)} {len : Nat} {pc0 pc' : Nat} (hpc : g.pc = pc0) (hd : decode c.code g.pc = .ok (.lookupswitch dflt pairs, len)) {i : Int32} {rest : List Value} (hs : g.stack = .int i :: rest)
    (ho : 0 ≤ (pc0 : Int) + lookupswitch.offset pairs.toList dflt i.toInt) (hp : ((pc0 : Int) + lookupswitch.offset pairs.toList dflt i.toInt).toNat = pc') (hsort : ∀ (a b c d : Int), ((a, b), c, d) ∈ pairs.toList.zip pairs.toList.tail → a < c) (hr : Steps tb e below (T.setTop { g with pc := pc', stack := rest }) target) : Steps tb e below (T.setTop g) target := by
  subst hg hpc hp
  jvm_step h [h.top, hx, hd, hs, ho, lookupswitch.wp_chain]
  exact ⟨hsort, hr⟩
theorem k_lsw {dflt : Int} {pairs : Array (Int × Int)} {len : Nat} {i : Int32} (pc' : Nat) (H : Cx C Z own code ml ret nm E.1) (hd : decode code pc = .ok (.lookupswitch dflt pairs, len)) (hsort : ∀ (a b c d : Int), ((a, b), c, d) ∈ pairs.toList.zip pairs.toList.tail → a < c) (hp : (pc : Int) + lookupswitch.offset pairs.toList dflt i.toInt = (pc' : Int)) (hr : W l R C E h k n pc' Ls st) : W l R C E h k n pc Ls (.int i :: st) :=
  .via (fun T t L X _ r => lsw X.here H.1 rfl rfl (hb H.2.1 hd) rfl (by rw [hp]; exact Int.natCast_nonneg _) (by rw [hp]; rfl) hsort r) hr
end Plain
/-! branches, both ways -/
theorem k_icmp {cd : ClassFile.Cond} {o : Int} {x y : Int32} {P : Prop} [Decidable P] (pc' : Nat) (H : Cx C Z own code ml ret nm E.1) (hd : decode code pc = .ok (.if_icmp cd o, 3)) (hp : (pc : Int) + o = (pc' : Int)) (hT : P → if_icmp.holds cd x y = true) (hF : ¬ P → if_icmp.holds cd x y = false)
    (h1 : P → W l R C E h k n pc' Ls st) (h2 : ¬ P → W l R C E h k n (pc + 3) Ls st) : W l R C E h k n pc Ls (.int y :: .int x :: st) := by
  by_cases q : P
  · exact k_icmpT pc' H hd hp (hT q) (h1 q)
  · exact k_icmpF H hd (hF q) (h2 q)
theorem k_iff0 {cd : ClassFile.Cond} {o : Int} {x : Int32} {P : Prop} [Decidable P] (pc' : Nat) (H : Cx C Z own code ml ret nm E.1) (hd : decode code pc = .ok (.ifCond cd o, 3)) (hp : (pc : Int) + o = (pc' : Int)) (hT : P → ifCond.holds cd x = true) (hF : ¬ P → ifCond.holds cd x = false)
    (h1 : P → W l R C E h k n pc' Ls st) (h2 : ¬ P → W l R C E h k n (pc + 3) Ls st) : W l R C E h k n pc Ls (.int x :: st) := by
  by_cases q : P
  · exact k_ifT pc' H hd hp (hT q) (h1 q)
  · exact k_ifF H hd (hF q) (h2 q)
theorem k_icmpR {cd : ClassFile.Cond} {o : Int} {x y : Int32} {P : Prop} [Decidable P] (pc' : Nat) (H : Cx C Z own code ml ret nm E.1) (hd : decode code pc = .ok (.if_icmp cd o, 3)) (hp : (pc : Int) + o = (pc' : Int)) (hT : ¬ P → if_icmp.holds cd x y = true) (hF : P → if_icmp.holds cd x y = false)
    (h1 : ¬ P → W l R C E h k n pc' Ls st) (h2 : P → W l R C E h k n (pc + 3) Ls st) : W l R C E h k n pc Ls (.int y :: .int x :: st) := by
  by_cases q : P
  · exact k_icmpF H hd (hF q) (h2 q)
  · exact k_icmpT pc' H hd hp (hT q) (h1 q)
theorem k_iff0R {cd : ClassFile.Cond} {o : Int} {x : Int32} {P : Prop} [Decidable P] (pc' : Nat) (H : Cx C Z own code ml ret nm E.1) (hd : decode code pc = .ok (.ifCond cd o, 3)) (hp : (pc : Int) + o = (pc' : Int)) (hT : ¬ P → ifCond.holds cd x = true) (hF : P → ifCond.holds cd x = false)
    (h1 : ¬ P → W l R C E h k n pc' Ls st) (h2 : P → W l R C E h k n (pc + 3) Ls st) : W l R C E h k n pc Ls (.int x :: st) := by
  by_cases q : P
  · exact k_ifF H hd (hF q) (h2 q)
  · exact k_ifT pc' H hd hp (hT q) (h1 q)
theorem k_acmp {cd : ClassFile.ACond} {o : Int} {x y : Value} {P : Prop} [Decidable P] (pc' : Nat) (H : Cx C Z own code ml ret nm E.1) (hd : decode code pc = .ok (.if_acmp cd o, 3)) (hp : (pc : Int) + o = (pc' : Int)) (hx : x.isRef = true) (hy : y.isRef = true) (hT : P → XT.acmp cd x y = true) (hF : ¬ P → XT.acmp cd x y = false)
    (h1 : P → W l R C E h k n pc' Ls st) (h2 : ¬ P → W l R C E h k n (pc + 3) Ls st) : W l R C E h k n pc Ls (y :: x :: st) := by
  by_cases q : P
  · exact k_acmpT pc' H hd hp hx hy (hT q) (h1 q)
  · exact k_acmpF H hd hx hy (hF q) (h2 q)
/-! heap steps -/
/-- an array: its kind and all that it holds -/
def Vec (Z : State) (h : Heap) (a : Addr) (ty : FieldType) (vs : List Value) : Prop := ∃ c : Cell, Arr Z h a c ty ∧ c.slots = vs.toArray ∧ vs.length < 2 ^ 31
abbrev IA (Z : State) (h : Heap) (a : Addr) (xs : List Int32) : Prop := Vec Z h a .int (xs.map Value.int)
abbrev JA (Z : State) (h : Heap) (a : Addr) (xs : List Int64) : Prop := Vec Z h a .long (xs.map Value.long)
abbrev BA (Z : State) (h : Heap) (a : Addr) (xs : List Int8) : Prop := Vec Z h a .byte (xs.map fun b => Value.int b.toInt32)
abbrev CA (Z : State) (h : Heap) (a : Addr) (xs : List UInt16) : Prop := Vec Z h a .char (xs.map fun b => Value.int b.toUInt32.toInt32)
theorem Vec.lt {a : Addr} {ty : FieldType} {vs : List Value} (F : Vec Z h a ty vs) : a < h.size := by obtain ⟨c, A, -⟩ := F; exact A.lt
theorem Vec.ext {a : Addr} {ty : FieldType} {vs : List Value} (F : Vec Z h a ty vs) (X : Ext h h') : Vec Z h' a ty vs := by obtain ⟨c, A, r⟩ := F; exact ⟨c, A.ext X, r⟩
theorem Vec.keep {a : Addr} {ty : FieldType} {vs : List Value} {ws : List Addr} (F : Vec Z h a ty vs) (K : Keep h h' ws) (q : a ∉ ws) : Vec Z h' a ty vs := by obtain ⟨c, A, r⟩ := F; exact ⟨c, ⟨K.2.1 a c A.1 q, A.2⟩, r⟩
theorem Vec.other {a b : Addr} {ty : FieldType} {vs : List Value} {sl : Nat} {v : Value} (F : Vec Z h b ty vs) (X : Wr h h' a sl v) (q : b ≠ a) : Vec Z h' b ty vs := by obtain ⟨c, A, r⟩ := F; exact ⟨c, A.other X q, r⟩
theorem Vec.set {a : Addr} {ty : FieldType} {vs : List Value} {sl : Nat} {v : Value} (F : Vec Z h a ty vs) (X : Wr h h' a sl v) : Vec Z h' a ty (vs.set sl v) := by
  obtain ⟨c, A, e, r⟩ := F
  refine ⟨_, A.same X, ?_, by simpa using r⟩
  simp [Cell.setSlot, e]
theorem Vec.ne {a b : Addr} {ty ty' : FieldType} {vs vs' : List Value} (F : Vec Z h a ty vs) (G : Vec Z h b ty' vs') (q : ty ≠ ty') : a ≠ b := fun e => by
  subst e
  obtain ⟨c, A, -⟩ := F
  obtain ⟨c', A', -⟩ := G
  cases A.1.symm.trans A'.1
  obtain ⟨-, k, h1, comp, h2⟩ := A.2.1
  obtain ⟨-, k', h1', comp', h2'⟩ := A'.2.1
  cases h1.symm.trans h1'
  rw [h2] at h2'; cases h2'; exact q rfl
theorem Vec.neX {a b : Addr} {ty : FieldType} {vs : List Value} {cls : String} {kk : Nat} (G : Vec Z h b ty vs) (F : Exa Z h a cls) (wi : (Cond.instantiable cls kk).before a0 Z = true) : a ≠ b := by obtain ⟨c, A, -⟩ := G; exact ne_arr F wi A
theorem Keep.ofExt (X : Ext h h') : Keep h h' [] := (Keep.refl h []).ext X
theorem idx_ok {j : Int32} {i : Nat} (hj : j.toInt = (i : Int)) : ¬ j < 0 ∧ j.toNatClampNeg = i := by
  have e0 : (0 : Int32).toInt = 0 := rfl
  constructor
  · rw [Int32.lt_iff_toInt_lt]; omega
  · simp only [Int32.toNatClampNeg, hj]; rfl
theorem len_ok {c : Cell} {vs : List Value} (e : c.slots = vs.toArray) (hl : vs.length < 2 ^ 31) : c.slots.size.toInt32.toInt = (vs.length : Int) := by
  rw [e]; exact len_toInt hl
section Arrs
variable {a : Addr} {j : Int32} {i : Nat} {v : Value} {vs : List Value}
theorem in_ok {c : Cell} (e : c.slots = vs.toArray) (hj : j.toInt = (i : Int)) (hv : vs[i]? = some v) : ¬ (j < 0 ∨ c.slots.size ≤ j.toNatClampNeg) ∧ c.slots[j.toNatClampNeg]? = some v := by
  obtain ⟨q1, q2⟩ := idx_ok hj
  rw [q2, e]
  have hlt : i < vs.length := (List.getElem?_eq_some_iff.mp hv).1
  exact ⟨fun z => z.elim q1 (fun z => absurd hlt (Nat.not_lt.mpr (by simpa using z))), by simpa using hv⟩
theorem k_arraylength {ty : FieldType} {N : Int32} (H : Cx C Z own code ml ret nm E.1) (A : Vec Z h a ty vs) (hN : N.toInt = (vs.length : Int)) (hd : decode code pc = .ok (.arraylength, 1)) (hr : W l R C E h k n (pc + 1) Ls (.int N :: st)) : W l R C E h k n pc Ls (.ref a :: st) := by
  obtain ⟨c, A, e, hl⟩ := A
  have q : c.slots.size.toInt32 = N := Int32.toInt_inj.mp ((len_ok e hl).trans hN.symm)
  subst q
  exact .via (fun T t L X eT r => X.arraylength H.1 (by rw [eT]; exact A.1) (State.isArrayOf_alike H.2.2.2.2.1.alike A.2.1) (g := mkF C.2.2.2.1 pc Ls (.ref a :: st)) rfl rfl (hb H.2.1 hd) _ r) hr
theorem k_iaload (H : Cx C Z own code ml ret nm E.1) (A : Vec Z h a .int vs) (hj : j.toInt = (i : Int)) (hv : vs[i]? = some v) (hd : decode code pc = .ok (.iaload, 1)) (hr : W l R C E h k n (pc + 1) Ls (v :: st)) : W l R C E h k n pc Ls (.int j :: .ref a :: st) := by
  obtain ⟨c, A, e, hl⟩ := A
  obtain ⟨q1, q2⟩ := in_ok e hj hv
  exact .via (fun T t L X eT r => X.iaload H.1 (by rw [eT]; exact A.1) (State.isArrayOf_alike H.2.2.2.2.1.alike A.2.1) A.2.2 q1 q2 (g := mkF C.2.2.2.1 pc Ls (.int j :: .ref a :: st)) rfl rfl (hb H.2.1 hd) _ r) hr
theorem k_laload (H : Cx C Z own code ml ret nm E.1) (A : Vec Z h a .long vs) (hj : j.toInt = (i : Int)) (hv : vs[i]? = some v) (hd : decode code pc = .ok (.laload, 1)) (hr : W l R C E h k n (pc + 1) Ls (v :: st)) : W l R C E h k n pc Ls (.int j :: .ref a :: st) := by
  obtain ⟨c, A, e, hl⟩ := A
  obtain ⟨q1, q2⟩ := in_ok e hj hv
  exact .via (fun T t L X eT r => X.laload H.1 (by rw [eT]; exact A.1) (State.isArrayOf_alike H.2.2.2.2.1.alike A.2.1) A.2.2 q1 q2 (g := mkF C.2.2.2.1 pc Ls (.int j :: .ref a :: st)) rfl rfl (hb H.2.1 hd) _ r) hr
theorem k_caload (H : Cx C Z own code ml ret nm E.1) (A : Vec Z h a .char vs) (hj : j.toInt = (i : Int)) (hv : vs[i]? = some v) (hd : decode code pc = .ok (.caload, 1)) (hr : W l R C E h k n (pc + 1) Ls (v :: st)) : W l R C E h k n pc Ls (.int j :: .ref a :: st) := by
  obtain ⟨c, A, e, hl⟩ := A
  obtain ⟨q1, q2⟩ := in_ok e hj hv
  exact .via (fun T t L X eT r => X.caload H.1 (by rw [eT]; exact A.1) (State.isArrayOf_alike H.2.2.2.2.1.alike A.2.1) A.2.2 q1 q2 (g := mkF C.2.2.2.1 pc Ls (.int j :: .ref a :: st)) rfl rfl (hb H.2.1 hd) _ r) hr
theorem k_baload (H : Cx C Z own code ml ret nm E.1) (A : Vec Z h a .byte vs) (hj : j.toInt = (i : Int)) (hv : vs[i]? = some v) (hd : decode code pc = .ok (.baload, 1)) (hr : W l R C E h k n (pc + 1) Ls (v :: st)) : W l R C E h k n pc Ls (.int j :: .ref a :: st) := by
  obtain ⟨c, A, e, hl⟩ := A
  obtain ⟨q1, q2⟩ := in_ok e hj hv
  exact .via (fun T t L X eT r => X.baloadBytes H.1 (by rw [eT]; exact A.1) (State.isArrayOf_alike H.2.2.2.2.1.alike A.2.1) A.2.2 q1 q2 (g := mkF C.2.2.2.1 pc Ls (.int j :: .ref a :: st)) rfl rfl (hb H.2.1 hd) _ r) hr
theorem out_ok {c : Cell} (e : c.slots = vs.toArray) (hj : j.toInt = (i : Int)) (hi : i < vs.length) : ¬ (j < 0 ∨ c.slots.size ≤ j.toNatClampNeg) := by
  obtain ⟨q1, q2⟩ := idx_ok hj
  rw [q2, e]
  exact fun z => z.elim q1 (fun z => absurd hi (Nat.not_lt.mpr (by simpa using z)))
theorem Goes.step {T T' : State} {g g' : JFrame} (q : ∀ t, Sp C (T'.setTop g') t → Sp C (T.setTop g) t) (r : Goes C E (T'.setTop g')) : Goes C E (T.setTop g) := by
  obtain ⟨t, o, h1, h2⟩ := r; exact ⟨t, o, q t h1, h2⟩
theorem k_iastore {x : Int32} (H : Cx C Z own code ml ret nm E.1) (A : Vec Z h a .int vs) (hj : j.toInt = (i : Int)) (hi : i < vs.length) (ge : E.1 ≤ a) (hd : decode code pc = .ok (.iastore, 1))
    (hr : ∀ h', Keep h h' [a] → Vec Z h' a .int (vs.set i (.int x)) → W l R C E h' k n (pc + 1) Ls st) : W l R C E h k n pc Ls (.int x :: .int j :: .ref a :: st) := fun T L X N eT => by
  have A' := A
  obtain ⟨c, A, e, hl⟩ := A
  obtain ⟨T', h', X', e', Wx, q⟩ := stI X H.1 H.2.2.2.2.1 eT A (out_ok e hj hi) (g := mkF C.2.2.2.1 pc Ls (.int x :: .int j :: .ref a :: st)) rfl rfl (hb H.2.1 hd)
  refine .step q (hr h' (Keep.of_wr Wx) ?_ T' _ X' (Fr.snoc X' N ge) e')
  rw [(idx_ok hj).2] at Wx; exact A'.set Wx
theorem k_lastore {x : Int64} (H : Cx C Z own code ml ret nm E.1) (A : Vec Z h a .long vs) (hj : j.toInt = (i : Int)) (hi : i < vs.length) (ge : E.1 ≤ a) (hd : decode code pc = .ok (.lastore, 1))
    (hr : ∀ h', Keep h h' [a] → Vec Z h' a .long (vs.set i (.long x)) → W l R C E h' k n (pc + 1) Ls st) : W l R C E h k n pc Ls (.long x :: .int j :: .ref a :: st) := fun T L X N eT => by
  have A' := A
  obtain ⟨c, A, e, hl⟩ := A
  obtain ⟨T', h', X', e', Wx, q⟩ := stJ X H.1 H.2.2.2.2.1 eT A (out_ok e hj hi) (g := mkF C.2.2.2.1 pc Ls (.long x :: .int j :: .ref a :: st)) rfl rfl (hb H.2.1 hd)
  refine .step q (hr h' (Keep.of_wr Wx) ?_ T' _ X' (Fr.snoc X' N ge) e')
  rw [(idx_ok hj).2] at Wx; exact A'.set Wx
theorem k_bastore {x : Int32} (H : Cx C Z own code ml ret nm E.1) (A : Vec Z h a .byte vs) (hj : j.toInt = (i : Int)) (hi : i < vs.length) (ge : E.1 ≤ a) (hd : decode code pc = .ok (.bastore, 1))
    (hr : ∀ h', Keep h h' [a] → Vec Z h' a .byte (vs.set i (.int x.toInt8.toInt32)) → W l R C E h' k n (pc + 1) Ls st) : W l R C E h k n pc Ls (.int x :: .int j :: .ref a :: st) := fun T L X N eT => by
  have A' := A
  obtain ⟨c, A, e, hl⟩ := A
  obtain ⟨T', h', X', e', Wx, q⟩ := stB X H.1 H.2.2.2.2.1 eT A (out_ok e hj hi) (g := mkF C.2.2.2.1 pc Ls (.int x :: .int j :: .ref a :: st)) rfl rfl (hb H.2.1 hd)
  refine .step q (hr h' (Keep.of_wr Wx) ?_ T' _ X' (Fr.snoc X' N ge) e')
  rw [(idx_ok hj).2] at Wx; exact A'.set Wx
theorem k_castore {x : Int32} (H : Cx C Z own code ml ret nm E.1) (A : Vec Z h a .char vs) (hj : j.toInt = (i : Int)) (hi : i < vs.length) (ge : E.1 ≤ a) (hd : decode code pc = .ok (.castore, 1))
    (hr : ∀ h', Keep h h' [a] → Vec Z h' a .char (vs.set i (.int x.toUInt32.toUInt16.toUInt32.toInt32)) → W l R C E h' k n (pc + 1) Ls st) : W l R C E h k n pc Ls (.int x :: .int j :: .ref a :: st) := fun T L X N eT => by
  have A' := A
  obtain ⟨c, A, e, hl⟩ := A
  obtain ⟨T', h', X', e', Wx, q⟩ := stC X H.1 H.2.2.2.2.1 eT A (out_ok e hj hi) (g := mkF C.2.2.2.1 pc Ls (.int x :: .int j :: .ref a :: st)) rfl rfl (hb H.2.1 hd)
  refine .step q (hr h' (Keep.of_wr Wx) ?_ T' _ X' (Fr.snoc X' N ge) e')
  rw [(idx_ok hj).2] at Wx; exact A'.set Wx
end Arrs
/-- newarray of a plain kind, at most cap long -/
theorem k_newarray {aty : ArrayType} {ty : FieldType} {len : Int32} (m cap : Nat) (H : Cx C Z own code ml ret nm E.1) (w : (Cond.arrayClass ty).before a0 Z = true) (hty : newarray.typeOf aty = ty) (hd : decode code pc = .ok (.newarray aty, 2)) (hm : len.toInt = (m : Int)) (hcap : m ≤ cap) (hB : cap * 8 ≤ 536870912) (hC : k + 1 ≤ R.cells) (hS : n + cap ≤ R.slots)
    (hr : ∀ h' a, a = h.size → E.1 ≤ a → Ext h h' → Exa Z h' a ("[" ++ ty.toString) → Vec Z h' a ty (List.replicate m (defaultValue ty)) → W l R C E h' (k + 1) (n + cap) (pc + 2) Ls (.ref a :: st)) : W l R C E h k n pc Ls (.int len :: st) := fun T L X N eT => by
  subst hty
  obtain ⟨q1, q2⟩ := idx_ok hm
  obtain ⟨T', h', cA, X', e', Ex, A, XA, q⟩ := newPE X H.1 H.2.2.2.2.1 w eT (g := mkF C.2.2.2.1 pc Ls (.int len :: st)) rfl (hb H.2.1 hd) rfl q1 (cap := cap) (by rw [q2]; exact hcap) hB hC hS rfl
  have hlt : m < 2 ^ 31 := by have := len.toInt_lt; omega
  refine .step q (hr h' h.size rfl (by rw [← eT]; exact size_ge H X) Ex XA ⟨_, A, ?_, by simpa using hlt⟩ T' _ X' N e')
  simp [newA, q2]
theorem k_newObj {idx ns : Nat} {cls : String} (H : Cx C Z own code ml ret nm E.1) (w : (Cond.classLink own idx cls).before a0 Z = true) (wi : (Cond.instantiable cls ns).before a0 Z = true) (wz : (Cond.initialized cls).before a0 Z = true) (hd : decode code pc = .ok (.new idx, 3)) (hC : k + 1 ≤ R.cells) (hS : n + ns ≤ R.slots)
    (hr : ∀ h' a, a = h.size → E.1 ≤ a → Ext h h' → Exa Z h' a cls → (∀ {O nf d : String} {ty : FieldType}, Laid Z a0 cls O nf d → parseFieldDescriptor d = some ty → Fld Z h' a O nf d (defaultValue ty)) → W l R C E h' (k + 1) (n + ns) (pc + 3) Ls (.ref a :: st)) : W l R C E h k n pc Ls st := fun T L X N eT => by
  obtain ⟨T', h', X', e', Ex, A, D, -, q⟩ := newO X H.1 H.2.2.2.2.1 H.2.2.2.1 w wi wz eT (g := mkF C.2.2.2.1 pc Ls st) rfl (hb H.2.1 hd) hC hS
  exact .step q (hr h' h.size rfl (by rw [← eT]; exact size_ge H X) Ex A D T' _ X' N e')
theorem k_initObj {idx w : Nat} {a : Addr} (H : Cx C Z own code ml ret nm E.1) (w1 : (Cond.methodLink own idx Lib.objectInit).before a0 Z = true) (w2 : (Cond.instanceMethod Lib.objectInit).before a0 Z = true) (w3 : (Cond.code Lib.objectInit ⟨#[0xb1]⟩ 1 none).before a0 Z = true) (hd : decode code pc = .ok (.invokespecial idx, 3)) (hsz : Ls.size = ml) (hF : 1 ≤ R.frames)
    (hw : (st.map fun v => v.category).sum = w) (hL : w + 12 ≤ R.locals) (hr : W l R C E h k n (pc + 3) Ls st) : W l R C E h k n pc Ls (.ref a :: st) :=
  .viaT (fun T L X eT => initO X H.1 H.2.2.2.2.1 H.2.2.2.1 w1 w2 w3 eT (g := mkF C.2.2.2.1 pc Ls (.ref a :: st)) rfl (by show Ls.size = _; rw [H.2.2.1]; exact hsz) rfl (hb H.2.1 hd) hF (W := w) (by show 2 * 0 + _ ≤ _; rw [hw]; omega) hL) hr
theorem k_getfield {idx : Nat} {O nf d : String} {a : Addr} {v : Value} (H : Cx C Z own code ml ret nm E.1) (w : (Cond.fieldLink own idx O nf d).before a0 Z = true) (F : Fld Z h a O nf d v) (hd : decode code pc = .ok (.getfield idx, 3)) (hr : W l R C E h k n (pc + 3) Ls (v :: st)) : W l R C E h k n pc Ls (.ref a :: st) :=
  .viaT (fun T L X eT => getF X H.1 H.2.2.2.2.1 H.2.2.2.1 (host := "") (Or.inl w) Via.refl eT F (g := mkF C.2.2.2.1 pc Ls (.ref a :: st)) rfl rfl (hb H.2.1 hd)) hr
theorem k_putfield {idx kk : Nat} {O nf d cls : String} {a : Addr} {v old : Value} (ty : FieldType) (H : Cx C Z own code ml ret nm E.1) (w : (Cond.fieldLink own idx O nf d).before a0 Z = true) (F : Fld Z h a O nf d old) (X0 : Exa Z h a cls) (La : (Cond.lays cls O nf d).before a0 Z = true ∨ ((Cond.laysFinal cls O nf d).before a0 Z = true ∧ own = O ∧ nm = "<init>"))
    (wi : (Cond.instantiable cls kk).before a0 Z = true) (hty : parseFieldDescriptor d = some ty) (hn : narrow ty v = v) (hf : fits ty v = true) (ge : E.1 ≤ a) (hd : decode code pc = .ok (.putfield idx, 3))
    (hr : ∀ h', Wr h h' a (Jvm.RoadKit.slotOf Z O nf d) v → Fld Z h' a O nf d v → W l R C E h' k n (pc + 3) Ls st) : W l R C E h k n pc Ls (v :: .ref a :: st) := fun T L X N eT => by
  obtain ⟨T', h', X', e', Wx, q⟩ := putF X H.1 H.2.2.2.2.1 H.2.2.2.1 (host := "") (Or.inl w) Via.refl eT F X0 (La.imp id fun z => ⟨z.1, z.2.1, H.2.2.2.2.2.2.2.1.trans z.2.2⟩) wi hty hn hf (g := mkF C.2.2.2.1 pc Ls (v :: .ref a :: st)) rfl rfl (hb H.2.1 hd)
  exact .step q (hr h' Wx (F.same Wx) T' _ X' (Fr.snoc X' N ge) e')
/-! arrays by the kind of what they hold -/
section Typed
variable {a : Addr} {j : Int32} {i : Nat}
theorem map_at {α : Type} {f : α → Value} {xs : List α} {x : α} (hv : xs[i]? = some x) : (xs.map f)[i]? = some (f x) := by rw [List.getElem?_map, hv]; rfl
theorem k_ialoadT {xs : List Int32} {x : Int32} (H : Cx C Z own code ml ret nm E.1) (A : IA Z h a xs) (hj : j.toInt = (i : Int)) (hv : xs[i]? = some x) (hd : decode code pc = .ok (.iaload, 1)) (hr : W l R C E h k n (pc + 1) Ls ((.int x) :: st)) : W l R C E h k n pc Ls (.int j :: .ref a :: st) := k_iaload H A hj (map_at hv) hd hr
theorem k_iastoreT {xs : List Int32} {x : Int32} (H : Cx C Z own code ml ret nm E.1) (A : IA Z h a xs) (hj : j.toInt = (i : Int)) (hi : i < xs.length) (ge : E.1 ≤ a) (hd : decode code pc = .ok (.iastore, 1))
    (hr : ∀ h', Keep h h' [a] → IA Z h' a (xs.set i x) → W l R C E h' k n (pc + 1) Ls st) : W l R C E h k n pc Ls ((.int x) :: .int j :: .ref a :: st) := k_iastore H A hj (by simpa using hi) ge hd (fun h' K V => hr h' K (by rw [IA, List.map_set]; exact V))
theorem k_new_int {len : Int32} (m cap : Nat) (H : Cx C Z own code ml ret nm E.1) (w : (Cond.arrayClass .int).before a0 Z = true) (hd : decode code pc = .ok (.newarray .int, 2)) (hm : len.toInt = (m : Int)) (hcap : m ≤ cap) (hB : cap * 8 ≤ 536870912) (hC : k + 1 ≤ R.cells) (hS : n + cap ≤ R.slots)
    (hr : ∀ h' a, a = h.size → E.1 ≤ a → Ext h h' → Exa Z h' a "[I" → IA Z h' a (List.replicate m 0) → W l R C E h' (k + 1) (n + cap) (pc + 2) Ls (.ref a :: st)) : W l R C E h k n pc Ls (.int len :: st) := k_newarray m cap H w rfl hd hm hcap hB hC hS (fun h' a e g X XA V => hr h' a e g X XA (by rw [IA, List.map_replicate]; exact V))
theorem k_laloadT {xs : List Int64} {x : Int64} (H : Cx C Z own code ml ret nm E.1) (A : JA Z h a xs) (hj : j.toInt = (i : Int)) (hv : xs[i]? = some x) (hd : decode code pc = .ok (.laload, 1)) (hr : W l R C E h k n (pc + 1) Ls ((.long x) :: st)) : W l R C E h k n pc Ls (.int j :: .ref a :: st) := k_laload H A hj (map_at hv) hd hr
theorem k_lastoreT {xs : List Int64} {x : Int64} (H : Cx C Z own code ml ret nm E.1) (A : JA Z h a xs) (hj : j.toInt = (i : Int)) (hi : i < xs.length) (ge : E.1 ≤ a) (hd : decode code pc = .ok (.lastore, 1))
    (hr : ∀ h', Keep h h' [a] → JA Z h' a (xs.set i x) → W l R C E h' k n (pc + 1) Ls st) : W l R C E h k n pc Ls ((.long x) :: .int j :: .ref a :: st) := k_lastore H A hj (by simpa using hi) ge hd (fun h' K V => hr h' K (by rw [JA, List.map_set]; exact V))
theorem k_new_long {len : Int32} (m cap : Nat) (H : Cx C Z own code ml ret nm E.1) (w : (Cond.arrayClass .long).before a0 Z = true) (hd : decode code pc = .ok (.newarray .long, 2)) (hm : len.toInt = (m : Int)) (hcap : m ≤ cap) (hB : cap * 8 ≤ 536870912) (hC : k + 1 ≤ R.cells) (hS : n + cap ≤ R.slots)
    (hr : ∀ h' a, a = h.size → E.1 ≤ a → Ext h h' → Exa Z h' a "[J" → JA Z h' a (List.replicate m 0) → W l R C E h' (k + 1) (n + cap) (pc + 2) Ls (.ref a :: st)) : W l R C E h k n pc Ls (.int len :: st) := k_newarray m cap H w rfl hd hm hcap hB hC hS (fun h' a e g X XA V => hr h' a e g X XA (by rw [JA, List.map_replicate]; exact V))
theorem k_baloadT {xs : List Int8} {x : Int8} (H : Cx C Z own code ml ret nm E.1) (A : BA Z h a xs) (hj : j.toInt = (i : Int)) (hv : xs[i]? = some x) (hd : decode code pc = .ok (.baload, 1)) (hr : W l R C E h k n (pc + 1) Ls ((.int x.toInt32) :: st)) : W l R C E h k n pc Ls (.int j :: .ref a :: st) := k_baload H A hj (map_at hv) hd hr
theorem k_bastoreT {xs : List Int8} {x : Int32} (H : Cx C Z own code ml ret nm E.1) (A : BA Z h a xs) (hj : j.toInt = (i : Int)) (hi : i < xs.length) (ge : E.1 ≤ a) (hd : decode code pc = .ok (.bastore, 1))
    (hr : ∀ h', Keep h h' [a] → BA Z h' a (xs.set i x.toInt8) → W l R C E h' k n (pc + 1) Ls st) : W l R C E h k n pc Ls ((.int x) :: .int j :: .ref a :: st) := k_bastore H A hj (by simpa using hi) ge hd (fun h' K V => hr h' K (by rw [BA, List.map_set]; exact V))
theorem k_new_byte {len : Int32} (m cap : Nat) (H : Cx C Z own code ml ret nm E.1) (w : (Cond.arrayClass .byte).before a0 Z = true) (hd : decode code pc = .ok (.newarray .byte, 2)) (hm : len.toInt = (m : Int)) (hcap : m ≤ cap) (hB : cap * 8 ≤ 536870912) (hC : k + 1 ≤ R.cells) (hS : n + cap ≤ R.slots)
    (hr : ∀ h' a, a = h.size → E.1 ≤ a → Ext h h' → Exa Z h' a "[B" → BA Z h' a (List.replicate m 0) → W l R C E h' (k + 1) (n + cap) (pc + 2) Ls (.ref a :: st)) : W l R C E h k n pc Ls (.int len :: st) := k_newarray m cap H w rfl hd hm hcap hB hC hS (fun h' a e g X XA V => hr h' a e g X XA (by rw [BA, List.map_replicate]; exact V))
theorem k_caloadT {xs : List UInt16} {x : UInt16} (H : Cx C Z own code ml ret nm E.1) (A : CA Z h a xs) (hj : j.toInt = (i : Int)) (hv : xs[i]? = some x) (hd : decode code pc = .ok (.caload, 1)) (hr : W l R C E h k n (pc + 1) Ls ((.int x.toUInt32.toInt32) :: st)) : W l R C E h k n pc Ls (.int j :: .ref a :: st) := k_caload H A hj (map_at hv) hd hr
theorem k_castoreT {xs : List UInt16} {x : Int32} (H : Cx C Z own code ml ret nm E.1) (A : CA Z h a xs) (hj : j.toInt = (i : Int)) (hi : i < xs.length) (ge : E.1 ≤ a) (hd : decode code pc = .ok (.castore, 1))
    (hr : ∀ h', Keep h h' [a] → CA Z h' a (xs.set i x.toUInt32.toUInt16) → W l R C E h' k n (pc + 1) Ls st) : W l R C E h k n pc Ls ((.int x) :: .int j :: .ref a :: st) := k_castore H A hj (by simpa using hi) ge hd (fun h' K V => hr h' K (by rw [CA, List.map_set]; exact V))
theorem k_new_char {len : Int32} (m cap : Nat) (H : Cx C Z own code ml ret nm E.1) (w : (Cond.arrayClass .char).before a0 Z = true) (hd : decode code pc = .ok (.newarray .char, 2)) (hm : len.toInt = (m : Int)) (hcap : m ≤ cap) (hB : cap * 8 ≤ 536870912) (hC : k + 1 ≤ R.cells) (hS : n + cap ≤ R.slots)
    (hr : ∀ h' a, a = h.size → E.1 ≤ a → Ext h h' → Exa Z h' a "[C" → CA Z h' a (List.replicate m 0) → W l R C E h' (k + 1) (n + cap) (pc + 2) Ls (.ref a :: st)) : W l R C E h k n pc Ls (.int len :: st) := k_newarray m cap H w rfl hd hm hcap hB hC hS (fun h' a e g X XA V => hr h' a e g X XA (by rw [CA, List.map_replicate]; exact V))
theorem fits_of {ty : FieldType} {vs : List Value} {c : Cell} (A : Arr Z h a c ty) (e : c.slots = vs.toArray) (hf : ∀ v ∈ vs, fits ty v = true) : FitC Z c := fitC_of A fun i hi v hv => hf v (by rw [e] at hv; simp at hv; exact List.mem_of_getElem? hv)
theorem k_clone {idx w cap : Nat} {ty : FieldType} {ad : String} {vs : List Value} (H : Cx C Z own code ml ret nm E.1)
    (w1 : (Cond.methodLink own idx ⟨ad, "clone", "()Ljava/lang/Object;"⟩).before a0 Z = true) (w2 : (Cond.sameMethod ad "java/lang/Object" "clone" "()Ljava/lang/Object;").before a0 Z = true) (w3 : (Cond.native ⟨"java/lang/Object", "clone", "()Ljava/lang/Object;"⟩).before a0 Z = true)
    (w4 : (Cond.instanceMethod ⟨"java/lang/Object", "clone", "()Ljava/lang/Object;"⟩).before a0 Z = true) (w5 : (Cond.selects ad ⟨ad, "clone", "()Ljava/lang/Object;"⟩ ⟨"java/lang/Object", "clone", "()Ljava/lang/Object;"⟩).before a0 Z = true) (w6 : (Cond.castable ad "java/lang/Cloneable").before a0 Z = true)
    (V : Vec Z h a ty vs) (hf : ∀ v ∈ vs, fits ty v = true) (X0 : Exa Z h a ad) (hd : decode code pc = .ok (.invokevirtual idx, 3)) (hsz : Ls.size = ml) (hF : 1 ≤ R.frames) (hw : (st.map fun v => v.category).sum = w) (hL : w + 14 ≤ R.locals) (hcap : vs.length ≤ cap) (hC : k + 1 ≤ R.cells) (hS : n + cap ≤ R.slots)
    (hr : ∀ h' b, b = h.size → E.1 ≤ b → Ext h h' → Exa Z h' b ad → Vec Z h' b ty vs → W l R C E h' (k + 1) (n + cap) (pc + 3) Ls (.ref b :: st)) : W l R C E h k n pc Ls (.ref a :: st) := fun T L X N eT => by
  obtain ⟨c, A, e, hl⟩ := V
  obtain ⟨T', h', X', e', Ex, A', XA, q⟩ := cloneA X H.1 H.2.2.2.2.1 H.2.2.2.1 w1 w2 w3 w4 w5 w6 eT A X0 (fits_of A e hf) (g := mkF C.2.2.2.1 pc Ls (.ref a :: st)) rfl (by show Ls.size = _; rw [H.2.2.1]; exact hsz) rfl (hb H.2.1 hd) hF (W := w) (cap := cap) (by show 2 * 0 + _ ≤ _; rw [hw]; omega) hL (by rw [e]; simpa using hcap) hC hS
  exact .step q (hr h' h.size rfl (by rw [← eT]; exact size_ge H X) Ex XA ⟨_, A', e, hl⟩ T' _ X' N e')
theorem k_castY {idx : Nat} {K ad : String} (H : Cx C Z own code ml ret nm E.1) (w : (Cond.classLink own idx K).before a0 Z = true) (wc : (Cond.castable ad K).before a0 Z = true) (X0 : Exa Z h a ad) (hd : decode code pc = .ok (.checkcast idx, 3)) (hr : W l R C E h k n (pc + 3) Ls (.ref a :: st)) : W l R C E h k n pc Ls (.ref a :: st) :=
  .viaT (fun T L X eT => castY X H.1 H.2.2.2.2.1 H.2.2.2.1 w eT (Ins.of_exa X0 wc) (g := mkF C.2.2.2.1 pc Ls (.ref a :: st)) rfl rfl (hb H.2.1 hd)) hr
end Typed
/-! calls -/
section Calls
variable {y : MethodName} {bytes : ByteArray} {maxL : Nat} {rt : Option FieldType} {rm : Room} {Q : Option Value → Heap → Prop} {S : List Value}
theorem Goes.trans {T T' : State} {g g' : JFrame} (q : Sp C (T.setTop g) (T'.setTop g')) (r : Goes C E (T'.setTop g')) : Goes C E (T.setTop g) := by
  obtain ⟨t, o, h1, h2⟩ := r; exact ⟨t, o, q.trans h1, h2⟩
theorem payOf {s : State} {p : Program} {e : Env} {below : List Frame} {args : Array Value} {w n0 : Nat} {as' : Array Value} (hc : Ctr l Z y bytes maxL rt rm n0 as' h Q) (hZ : Z.Warmed39 s.vm) (w4 : (Cond.code y bytes maxL rt).before a0 Z = true) (w3 : (Cond.initialized y.cls).before a0 Z = true) (hF : rm.frames + 1 ≤ R.frames) (hL : w + (maxL + 11) + rm.locals ≤ R.locals) :
    Back l R p e below s args y 3 w (fun A a => a = as' ∧ A.U.heap = h ∧ A.cells + rm.cells ≤ R.cells ∧ A.slots + rm.slots ≤ R.slots)
      (fun A _ v B => ∃ L, (Q v B.U.heap ∧ Fr n0 L) ∧ B.locs = A.locs ++ L ∧ B.cells = A.cells + rm.cells ∧ B.slots = A.slots + rm.slots) :=
  backOf (Q := fun v h L => Q v h ∧ Fr n0 L) hc hZ w4 w3 hF hL
theorem k_invS {idx : Nat} (argsL : List Value) (w : Nat) (H : Cx C Z own code ml ret nm E.1) (w1 : (Cond.methodLink own idx y).before a0 Z = true) (w2 : (Cond.static y).before a0 Z = true) (w3 : (Cond.initialized y.cls).before a0 Z = true) (w4 : (Cond.code y bytes maxL rt).before a0 Z = true)
    (hy : y.cls ≠ "java/lang/invoke/MethodHandle" ∧ y.cls ≠ "java/lang/invoke/VarHandle") (hc : E.1 ≤ h.size → Ctr l Z y bytes maxL rt rm E.1 argsL.toArray h Q) (hlen : ∀ sig, parseMethodDescriptor y.desc = some sig → argsL.length = sig.parameters.length)
    (hd : decode code pc = .ok (.invokestatic idx, 3)) (hS : S = argsL.reverse ++ st) (hsz : Ls.size = ml) (hw : (st.map fun v => v.category).sum = w) (hF : rm.frames + 1 ≤ R.frames) (hL : w + (maxL + 11) + rm.locals ≤ R.locals) (hk : k + rm.cells ≤ R.cells) (hn : n + rm.slots ≤ R.slots)
    (hr : ∀ v h', Q v h' → W l R C E h' (k + rm.cells) (n + rm.slots) (pc + 3) Ls (v.toList ++ st)) : W l R C E h k n pc Ls S := fun T L X N eT => by
  obtain ⟨v, _, ⟨T', L', k', n'⟩, -, X', ⟨Lc, ⟨hQ, hN⟩, l', y', z'⟩, q⟩ := Jvm.LawKit.callS X H.1 (y := y) H.2.2.2.1 (mvT H.2.2.2.2.1 w1) (mvT H.2.2.2.2.1 w2) (mvT H.2.2.2.2.1 w3) (mvT H.2.2.2.2.1 w4) hy (payOf (w := w) (hc (by rw [← eT]; exact size_ge H X)) H.2.2.2.2.1 w4 w3 hF hL)
    (g := mkF C.2.2.2.1 pc Ls S) rfl (by show Ls.size = _; rw [H.2.2.1]; exact hsz) (argsL := argsL) (rest := st) hlen hS (by show 2 * 0 + _ ≤ _; rw [hw]; omega) (hb H.2.1 hd) (fun _ _ => ⟨rfl, eT, hk, hn⟩)
  dsimp only [Pt.U, Pt.locs, Pt.cells, Pt.slots] at X' l' y' z' q hQ
  subst l' y' z'
  exact .step q (hr v _ hQ T' _ X' (N.app hN) rfl)
theorem k_invI {idx : Nat} {a : Addr} (argsL : List Value) (w : Nat) (H : Cx C Z own code ml ret nm E.1) (hy1 : y.name = "<init>") (w1 : (Cond.methodLink own idx y).before a0 Z = true) (w2 : (Cond.instanceMethod y).before a0 Z = true) (w3 : (Cond.initialized y.cls).before a0 Z = true) (w4 : (Cond.code y bytes maxL none).before a0 Z = true)
    (hy : y.cls ≠ "java/lang/invoke/MethodHandle" ∧ y.cls ≠ "java/lang/invoke/VarHandle") (hc : E.1 ≤ h.size → Ctr l Z y bytes maxL none rm E.1 (.ref a :: argsL).toArray h Q) (hlen : ∀ sig, parseMethodDescriptor y.desc = some sig → argsL.length = sig.parameters.length)
    (hd : decode code pc = .ok (.invokespecial idx, 3)) (hS : S = argsL.reverse ++ .ref a :: st) (hsz : Ls.size = ml) (hw : (st.map fun v => v.category).sum = w) (hF : rm.frames + 1 ≤ R.frames) (hL : w + (maxL + 11) + rm.locals ≤ R.locals) (hk : k + rm.cells ≤ R.cells) (hn : n + rm.slots ≤ R.slots)
    (hr : ∀ v h', Q v h' → W l R C E h' (k + rm.cells) (n + rm.slots) (pc + 3) Ls (v.toList ++ st)) : W l R C E h k n pc Ls S := fun T L X N eT => by
  obtain ⟨v, _, ⟨T', L', k', n'⟩, -, X', ⟨Lc, ⟨hQ, hN⟩, l', y', z'⟩, q⟩ := X.specialBack H.1 (y := y) hy1 H.2.2.2.1 (mvT H.2.2.2.2.1 w1) (mvT H.2.2.2.2.1 w2) (mvT H.2.2.2.2.1 w4) hy (payOf (w := w) (hc (by rw [← eT]; exact size_ge H X)) H.2.2.2.2.1 w4 w3 hF hL)
    (g := mkF C.2.2.2.1 pc Ls S) rfl (by show Ls.size = _; rw [H.2.2.1]; exact hsz) (Steps.refl _) (a := a) (argsL := argsL) (rest := st) hlen hS (by show 2 * 0 + _ ≤ _; rw [hw]; omega) (hb H.2.1 hd) (fun _ _ => ⟨rfl, eT, hk, hn⟩)
  dsimp only [Pt.U, Pt.locs, Pt.cells, Pt.slots] at X' l' y' z' q hQ
  subst l' y' z'
  exact .trans q (hr v _ hQ T' _ X' (N.app hN) rfl)
theorem k_invV {idx : Nat} {a : Addr} {cls : String} (argsL : List Value) (w : Nat) (H : Cx C Z own code ml ret nm E.1) (w1 : (Cond.methodLink own idx y).before a0 Z = true) (w2 : (Cond.declares y).before a0 Z = true) (w5 : (Cond.selects cls y y).before a0 Z = true) (w6 : (Cond.instanceMethod y).before a0 Z = true) (w3 : (Cond.initialized y.cls).before a0 Z = true) (w4 : (Cond.code y bytes maxL rt).before a0 Z = true)
    (hcl : y.cls = cls) (hy : y.cls ≠ "java/lang/invoke/MethodHandle" ∧ y.cls ≠ "java/lang/invoke/VarHandle") (X0 : Exa Z h a cls) (hc : E.1 ≤ h.size → Ctr l Z y bytes maxL rt rm E.1 (.ref a :: argsL).toArray h Q) (hlen : ∀ sig, parseMethodDescriptor y.desc = some sig → argsL.length = sig.parameters.length)
    (hd : decode code pc = .ok (.invokevirtual idx, 3)) (hS : S = argsL.reverse ++ .ref a :: st) (hsz : Ls.size = ml) (hw : (st.map fun v => v.category).sum = w) (hF : rm.frames + 1 ≤ R.frames) (hL : w + (maxL + 11) + rm.locals ≤ R.locals) (hk : k + rm.cells ≤ R.cells) (hn : n + rm.slots ≤ R.slots)
    (hr : ∀ v h', Q v h' → W l R C E h' (k + rm.cells) (n + rm.slots) (pc + 3) Ls (v.toList ++ st)) : W l R C E h k n pc Ls S := fun T L X N eT => by
  subst hcl
  obtain ⟨cq, kq, qa, qb, qc⟩ := isOf H.2.2.2.2.1 eT X0
  obtain ⟨v, _, ⟨T', L', k', n'⟩, -, X', ⟨Lc, ⟨hQ, hN⟩, l', y', z'⟩, q⟩ := X.virtualBack H.1 (y := y) (z := y) H.2.2.2.1 (mvT H.2.2.2.2.1 w1) (mvT H.2.2.2.2.1 w2) (notFace_of_selects (args := #[]) (mvT H.2.2.2.2.1 w5)) (mvT H.2.2.2.2.1 w5) (mvT H.2.2.2.2.1 w6) hy (payOf (w := w) (hc (by rw [← eT]; exact size_ge H X)) H.2.2.2.2.1 w4 w3 hF hL) qa qc
    (g := mkF C.2.2.2.1 pc Ls S) rfl (by show Ls.size = _; rw [H.2.2.1]; exact hsz) (Steps.refl _) (argsL := argsL) (rest := st) hlen hS (by show 2 * 0 + _ ≤ _; rw [hw]; omega) (hb H.2.1 hd) (fun _ _ => ⟨rfl, eT, hk, hn⟩)
  dsimp only [Pt.U, Pt.locs, Pt.cells, Pt.slots] at X' l' y' z' q hQ
  subst l' y' z'
  exact .trans q (hr v _ hQ T' _ X' (N.app hN) rfl)
theorem Ctr.of {n0 : Nat} {as' : Array Value} (Ls : Array Slot) (hp : plainName y.cls = true) (hn0 : n0 ≤ h.size) (hef : ∀ m, entryFrame m as' maxL = mkF m 0 Ls []) (hW : ∀ C : Cxt, Cx C Z y.cls bytes maxL rt y.name n0 → W l rm C (n0, rm.cells, rm.slots, Q) h 0 0 0 Ls []) : Ctr l Z y bytes maxL rt rm n0 as' h Q := by
  refine MetFree.of_bodySF (plainFor_of_name hp) hisR ?_
  intro p e s m args below meth c s₁ Bd hml0 hP hK
  obtain ⟨rfl, hZ, hh⟩ := hP
  have hnm := (name_of_methodNamed Bd.named Bd.method).1
  have X0 : Stand p l e rm s m args below meth c s₁ [] 0 0 := Stand.of_body Bd
  have e0 : s₁.heap = h := by rw [← hh, Bd.state]; rfl
  obtain ⟨t, o, h1, h2, h3, v, L, h4, h5, h6⟩ := hW (p, e, s, m, args, below, meth, c) ⟨Bd.exec, Bd.bytes, hml0, findClass_of_methodNamed Bd.named, hZ, Bd.returns, Bd.notSynchronized, hnm, by rw [hh]; exact hn0⟩ s₁ [] X0 (Fr.nil n0) e0
  exact ⟨t, o, castTop (hef m) h1, h2, h3, v, L, h4, h5, h6⟩
/-- the judged body itself -/
theorem met_of {n0 K N : Nat} {ws : List Jvm.Cond} {as' : Array Value} (Ls : Array Slot) (hp : plainName y.cls = true) (hn0 : n0 ≤ h.size) (hef : ∀ m, entryFrame m as' maxL = mkF m 0 Ls []) (hW : ∀ C : Cxt, Cx C Z y.cls bytes maxL rt y.name n0 → W l rm C (n0, K, N, Q) h 0 0 0 Ls []) :
    MetFree l y (head1 (Cond.code y bytes maxL rt :: ws) rm) (fun a U => a = as' ∧ Z.Warmed39 U.vm ∧ U.heap = h) (fun _ _ _ _ _ => True) (fun _ U o U' => ∃ v L, o = .returned v ∧ (Q v U'.heap ∧ Fr n0 L) ∧ FrameEnd U o U' L K N) := by
  refine MetFree.of_bodySF (plainFor_of_name hp) hisR ?_
  intro p e s m args below meth c s₁ Bd hml0 hP hK
  obtain ⟨rfl, hZ, hh⟩ := hP
  have hnm := (name_of_methodNamed Bd.named Bd.method).1
  have X0 : Stand p l e rm s m args below meth c s₁ [] 0 0 := Stand.of_body Bd
  have e0 : s₁.heap = h := by rw [← hh, Bd.state]; rfl
  obtain ⟨t, o, h1, h2, h3, v, L, h4, h5, h6⟩ := hW (p, e, s, m, args, below, meth, c) ⟨Bd.exec, Bd.bytes, hml0, findClass_of_methodNamed Bd.named, hZ, Bd.returns, Bd.notSynchronized, hnm, by rw [hh]; exact hn0⟩ s₁ [] X0 (Fr.nil n0) e0
  exact ⟨t, o, castTop (hef m) h1, h2, h3, v, L, h4, h5, h6⟩
end Calls
/-! ends -/
theorem k_retInt {x : Int32} (H : Cx C Z own code ml (some .int) nm E.1) (hd : decode code pc = .ok (.ireturn, 1)) (hk : k ≤ E.2.1) (hn : n ≤ E.2.2.1) (hq : E.2.2.2 (some (.int x)) h) : W l R C E h k n pc Ls (.int x :: st) := fun T L X N eT => by
  obtain ⟨fs, hr, hrun, hend, hW, hs⟩ := X.leave (v := some (.int x)) (fun z => by rw [H.2.2.2.2.2.1] at z; cases z) H.2.2.2.2.2.2.1
  exact ⟨_, _, retOut X H.1 H.2.2.2.2.2.1 rfl (Or.inl ⟨rfl, Or.inl rfl, _, rfl⟩) (hb H.2.1 hd) hr, hrun, hend, _, L, rfl, ⟨by subst eT; exact hq, N⟩, ⟨_, rfl⟩, hW, hs.mono hk hn⟩
theorem k_retN' {x : Int32} {t : FieldType} (ht : t = .boolean ∨ t = .byte ∨ t = .char ∨ t = .short) (H : Cx C Z own code ml (some t) nm E.1) (hd : decode code pc = .ok (.ireturn, 1)) (hk : k ≤ E.2.1) (hn : n ≤ E.2.2.1) (hq : E.2.2.2 (some (.int (nar t x))) h) : W l R C E h k n pc Ls (.int x :: st) := fun T L X N eT => by
  obtain ⟨fs, hr, hrun, hend, hW, hs⟩ := X.leave (v := some (.int (nar t x))) (fun z => by rw [H.2.2.2.2.2.1] at z; cases z) H.2.2.2.2.2.2.1
  exact ⟨_, _, retN X H.1 H.2.2.2.2.2.1 ht (hb H.2.1 hd) hr, hrun, hend, _, L, rfl, ⟨by subst eT; exact hq, N⟩, ⟨_, rfl⟩, hW, hs.mono hk hn⟩
theorem k_retLong {x : Int64} (H : Cx C Z own code ml (some .long) nm E.1) (hd : decode code pc = .ok (.lreturn, 1)) (hk : k ≤ E.2.1) (hn : n ≤ E.2.2.1) (hq : E.2.2.2 (some (.long x)) h) : W l R C E h k n pc Ls (.long x :: st) := fun T L X N eT => by
  obtain ⟨fs, hr, hrun, hend, hW, hs⟩ := X.leave (v := some (.long x)) (fun z => by rw [H.2.2.2.2.2.1] at z; cases z) H.2.2.2.2.2.2.1
  exact ⟨_, _, retOut X H.1 H.2.2.2.2.2.1 rfl (Or.inr (Or.inl ⟨rfl, rfl, _, rfl⟩)) (hb H.2.1 hd) hr, hrun, hend, _, L, rfl, ⟨by subst eT; exact hq, N⟩, ⟨_, rfl⟩, hW, hs.mono hk hn⟩
theorem k_retRef {a : Addr} {t : FieldType} (ht : t.isReference = true) (hnar : narrow t (.ref a) = .ref a) (H : Cx C Z own code ml (some t) nm E.1) (hd : decode code pc = .ok (.areturn, 1)) (hk : k ≤ E.2.1) (hn : n ≤ E.2.2.1) (hq : E.2.2.2 (some (.ref a)) h) : W l R C E h k n pc Ls (.ref a :: st) := fun T L X N eT => by
  obtain ⟨fs, hr, hrun, hend, hW, hs⟩ := X.leave (v := some (.ref a)) (fun z => by rw [H.2.2.2.2.2.1] at z; cases z) H.2.2.2.2.2.2.1
  exact ⟨_, _, retOut X H.1 H.2.2.2.2.2.1 hnar (Or.inr (Or.inr (Or.inr (Or.inr ⟨rfl, ht, rfl⟩)))) (hb H.2.1 hd) hr, hrun, hend, _, L, rfl, ⟨by subst eT; exact hq, N⟩, ⟨_, rfl⟩, hW, hs.mono hk hn⟩
theorem k_retVoid (H : Cx C Z own code ml none nm E.1) (hd : decode code pc = .ok (.return_, 1)) (hk : k ≤ E.2.1) (hn : n ≤ E.2.2.1) (hq : E.2.2.2 none h) : W l R C E h k n pc Ls [] := fun T L X N eT => by
  obtain ⟨fs, hr, hrun, hend, hW, hs⟩ := X.leave (v := none) (fun _ => rfl) H.2.2.2.2.2.2.1
  exact ⟨_, _, X.returnOut H.1 H.2.2.2.2.2.1 (hb H.2.1 hd) hr, hrun, hend, _, L, rfl, ⟨by subst eT; exact hq, N⟩, ⟨_, rfl⟩, hW, hs.mono hk hn⟩
end Own
end Jvm.OwnKit
namespace Jvm.OwnKit
/-! small naturals as ints -/
theorem lt_nat {x y : Int32} {i j : Nat} (hx : x.toInt = (i : Int)) (hy : y.toInt = (j : Int)) : x < y ↔ i < j := by rw [Int32.lt_iff_toInt_lt, hx, hy]; omega
theorem eq_nat {x y : Int32} {i j : Nat} (hx : x.toInt = (i : Int)) (hy : y.toInt = (j : Int)) : x = y ↔ i = j := by rw [← Int32.toInt_inj, hx, hy]; omega
theorem add_nat {x y : Int32} {i j : Nat} (hx : x.toInt = (i : Int)) (hy : y.toInt = (j : Int)) (hb : i + j < 2147483648) : (x + y).toInt = ((i + j : Nat) : Int) := by rw [Jvm.Kit.i32_add] <;> rw [hx, hy] <;> omega
theorem sub_nat {x y : Int32} {i j : Nat} (hx : x.toInt = (i : Int)) (hy : y.toInt = (j : Int)) (hb : j ≤ i) : (x - y).toInt = ((i - j : Nat) : Int) := by have := x.toInt_lt; rw [Jvm.Kit.i32_sub] <;> rw [hx, hy] <;> omega
theorem mul_nat {x y : Int32} {i j : Nat} (hx : x.toInt = (i : Int)) (hy : y.toInt = (j : Int)) (hb : i * j < 2147483648) : (x * y).toInt = ((i * j : Nat) : Int) := by
  have e : (i : Int) * (j : Int) = ((i * j : Nat) : Int) := by simp
  rw [Jvm.Kit.i32_mul] <;> rw [hx, hy, e] <;> omega
theorem rem_nat {x y : Int32} {i j : Nat} (hx : x.toInt = (i : Int)) (hy : y.toInt = (j : Int)) : (x % y).toInt = ((i % j : Nat) : Int) := by rw [Jvm.Kit.i32_rem_nonneg (by omega), hx, hy]; simp
theorem nat_of_nonneg {x : Int32} (h : 0 ≤ x.toInt) : ∃ i : Nat, x.toInt = (i : Int) ∧ i < 2147483648 := ⟨x.toInt.toNat, by omega, by have := x.toInt_lt; omega⟩
/-- a mask of k ones: a natural below 2 ^ k -/
theorem mask_nat (x m : Int32) (k : Nat) (hk : k < 32) (hm : m.toBitVec.toNat = 2 ^ k - 1) : ∃ i : Nat, (x &&& m).toInt = (i : Int) ∧ i < 2 ^ k := by
  have e := Jvm.Kit.i32_mask x m hk hm
  have p : (0 : Int) < 2 ^ k := Int.pow_pos (by omega)
  have h1 := Int.emod_nonneg x.toInt (Int.ne_of_gt p)
  have h2 := Int.emod_lt_of_pos x.toInt p
  refine ⟨(x.toInt % 2 ^ k).toNat, by rw [e]; omega, ?_⟩
  have h3 : ((2 ^ k : Nat) : Int) = 2 ^ k := by simp
  omega
theorem mod_nat (x m y : Int32) (k j : Nat) (hk : k < 32) (hm : m.toBitVec.toNat = 2 ^ k - 1) (hy : y.toInt = (j : Int)) (hj : 0 < j) : ∃ i : Nat, ((x &&& m) % y).toInt = (i : Int) ∧ i < j := by
  obtain ⟨i, h1, h2⟩ := mask_nat x m k hk hm
  exact ⟨i % j, rem_nat h1 hy, Nat.mod_lt _ hj⟩
theorem div_nat {x y : Int32} {i j : Nat} (hx : x.toInt = (i : Int)) (hy : y.toInt = (j : Int)) : (x / y).toInt = ((i / j : Nat) : Int) := by
  rw [Jvm.Kit.i32_div (by omega), hx, hy]; rfl
theorem ushr_nat {x y : Int32} {i : Nat} (k : Nat) (hx : x.toInt = (i : Int)) (hy : (y &&& 31).toUInt32.toNat = k) (hk : k < 32) : (Jvm.Free.XT.ushr x y).toInt = ((i / 2 ^ k : Nat) : Int) := by
  unfold Jvm.Free.XT.ushr
  rw [Jvm.Kit.i32_iushr (by rw [Int32.le_iff_toInt_le, hx]; exact Int.natCast_nonneg _) hy hk, hx]; simp
theorem c16 (c : UInt16) : c.toUInt32.toInt32.toUInt32.toUInt16 = c := by simp
theorem b8 (b : Int8) : b.toInt32.toInt8 = b := by simp
/-- a local's slot of one word -/
def OneW (s : Slot) : Prop := s = .unset ∨ ∃ w, s = .val w ∧ w.category = 1
theorem OneW.unset : OneW .unset := Or.inl rfl
theorem OneW.int (x : Int32) : OneW (.val (.int x)) := Or.inr ⟨_, rfl, rfl⟩
theorem OneW.ref (x : Addr) : OneW (.val (.ref x)) := Or.inr ⟨_, rfl, rfl⟩
end Jvm.OwnKit
namespace Jvm.OwnKit
/-! one bit of a long -/
def bitB (i : Nat) : Int64 := 1 <<< Int64.ofNat i
theorem bitB_of {x : Int32} {p : Nat} (hx : x.toInt = (p : Int)) : (1 : Int64) <<< (x.toInt64 &&& 63) = bitB (p % 64) := by
  have e : x.toInt64 &&& 63 = Int64.ofNat (p % 64) := by
    apply Int64.toInt_inj.mp
    rw [Jvm.Kit.i64_mask x.toInt64 63 (k := 6) (by decide) (by decide), Int32.toInt_toInt64, hx]
    have h64 : p % 64 < 64 := Nat.mod_lt _ (by decide)
    rw [Int64.toInt_ofNat_of_lt (by omega)]
    omega
  rw [e, bitB]
theorem bitB_and : ∀ i < 64, ∀ j < 64, (bitB i &&& bitB j = 0) ↔ i ≠ j := by decide +kernel
theorem bitB_ne : ∀ i < 64, bitB i ≠ 0 := by decide +kernel
theorem and_or {a b c : Int64} : ((a ||| b) &&& c = 0) ↔ (a &&& c = 0 ∧ b &&& c = 0) := by
  constructor
  · intro q
    have q' : (a.toBitVec ||| b.toBitVec) &&& c.toBitVec = 0 := by have := congrArg Int64.toBitVec q; simpa using this
    constructor <;> apply Int64.toBitVec_inj.mp <;> ext i hi <;> have r := congrArg (fun z : BitVec 64 => z[i]) q' <;> simp at r ⊢ <;> intro h1 <;> by_cases h2 : c.toBitVec[i] <;> simp_all
  · rintro ⟨q1, q2⟩
    apply Int64.toBitVec_inj.mp
    ext i hi
    have r1 := congrArg (fun z : Int64 => z.toBitVec[i]) q1
    have r2 := congrArg (fun z : Int64 => z.toBitVec[i]) q2
    simp at r1 r2 ⊢
    intro h1
    rcases h1 with h1 | h1
    · exact r1 h1
    · exact r2 h1
end Jvm.OwnKit
namespace Jvm.OwnKit
/-! a set of naturals as words of 64 bits -/
def wordB : List Nat → Nat → Int64
  | [], _ => 0
  | x :: S, w => wordB S w ||| (if x / 64 = w then bitB (x % 64) else 0)
def wds (S : List Nat) (c : Nat) : List Int64 := (List.range c).map (wordB S)
theorem wds_len (S : List Nat) (c : Nat) : (wds S c).length = c := by simp [wds]
theorem wds_at (S : List Nat) {c w : Nat} (h : w < c) : (wds S c)[w]? = some (wordB S w) := by simp [wds, h]
theorem wds_nil (c : Nat) : wds [] c = List.replicate c 0 := by
  apply List.ext_getElem?
  intro i
  by_cases h : i < c <;> simp [wds, h, wordB, List.getElem?_replicate]
theorem wds_mark (S : List Nat) {c p : Nat} : (wds S c).set (p / 64) (wordB S (p / 64) ||| bitB (p % 64)) = wds (p :: S) c := by
  apply List.ext_getElem?
  intro i
  rw [List.getElem?_set]
  by_cases h : i < c
  · by_cases q : p / 64 = i
    · subst q; simp [wds, h, wordB]
    · simp [wds, h, wordB, q]
  · by_cases q : p / 64 = i
    · subst q; simp [wds, h]
    · simp [wds, h, q]
theorem wordB_and (S : List Nat) (p : Nat) : (wordB S (p / 64) &&& bitB (p % 64) = 0) ↔ p ∉ S := by
  induction S with
  | nil => simp [wordB]
  | cons x S ih =>
    rw [wordB, and_or, ih, List.mem_cons, not_or]
    have h1 : x % 64 < 64 := Nat.mod_lt _ (by decide)
    have h2 : p % 64 < 64 := Nat.mod_lt _ (by decide)
    by_cases q : x / 64 = p / 64
    · simp only [q, if_true, bitB_and _ h1 _ h2]
      constructor
      · rintro ⟨a, b⟩; exact ⟨fun e => b (by rw [e]), a⟩
      · rintro ⟨a, b⟩; exact ⟨b, fun e => a (by omega)⟩
    · simp only [q, if_false]
      constructor
      · rintro ⟨a, b⟩; exact ⟨fun e => q (by rw [e]), a⟩
      · rintro ⟨a, b⟩; exact ⟨b, by simp⟩
end Jvm.OwnKit
namespace Jvm.Pilot.@@N@@
open Jvm Jvm.ClassFile Sem Op Lib Jvm.Free Jvm.Stand Jvm.LawKit Jvm.RoadKit Jvm.OwnKit Bundle Jvm.Pilot.@@N@@.Jvm.D
theorem pn_0 : plainName "com/example/querent/querent/search/Positions$Marks" = true := by first | (simp [plainName, overriddenIn]; done) | decide +kernel
theorem pn_1 : plainName "com/example/querent/querent/search/MarksMarkAllPinLaw" = true := by first | (simp [plainName, overriddenIn]; done) | decide +kernel
theorem pd_0 : parseMethodDescriptor "(I)V" = some ⟨[.int], none⟩ := by decide +kernel
theorem pd_1 : parseMethodDescriptor "([III)V" = some ⟨[(.array .int), .int, .int], none⟩ := by decide +kernel
theorem pd_2 : parseMethodDescriptor "()[J" = some ⟨[], some (.array .long)⟩ := by decide +kernel
theorem pd_3 : parseMethodDescriptor "(II)J" = some ⟨[.int, .int], some .long⟩ := by decide +kernel
theorem pd_4 : parseMethodDescriptor "(I)Z" = some ⟨[.int], some .boolean⟩ := by decide +kernel
def own_b (t : Bool) : Int32 := if t then 1 else 0
def own_bi (x w : Nat) : Int64 := if x / 64 = w then bitB (x % 64) else 0
theorem own_b0 (t : Bool) : own_b t = 0 ↔ t = false := by cases t <;> decide
/-- the positions from place i on, k of them, marked one after another -/
def own_ma (ps : List Nat) : Nat → Nat → List Nat → List Nat
  | _, 0, S => S
  | i, k + 1, S => own_ma ps (i + 1) k (ps.getD i 0 :: S)
def own_st (f t i p : Nat) (S : List Nat) : List Nat := if f ≤ i ∧ i < t then p :: S else S
theorem own_no {f t i p : Nat} {S : List Nat} (h : ¬ (f ≤ i ∧ i < t)) : own_st f t i p S = S := if_neg h
theorem own_yes {f t i p : Nat} {S : List Nat} (h : f ≤ i ∧ i < t) : own_st f t i p S = p :: S := if_pos h
theorem own_all (p0 p1 p2 p3 : Nat) (S : List Nat) : ∀ f < 5, ∀ t < 5, own_st f t 3 p3 (own_st f t 2 p2 (own_st f t 1 p1 (own_st f t 0 p0 S))) = own_ma [p0, p1, p2, p3] f (t - f) S := by
  intro f hf t ht
  have hf' : f = 0 ∨ f = 1 ∨ f = 2 ∨ f = 3 ∨ f = 4 := by omega
  have ht' : t = 0 ∨ t = 1 ∨ t = 2 ∨ t = 3 ∨ t = 4 := by omega
  rcases hf' with rfl | rfl | rfl | rfl | rfl <;> rcases ht' with rfl | rfl | rfl | rfl | rfl <;> simp [own_st, own_ma]
theorem d1_0 : decode prog_37_method_1_code 0 = .ok (.aload_n 0, 1) := by decide +kernel
theorem d1_1 : decode prog_37_method_1_code 1 = .ok (.invokespecial 1, 3) := by decide +kernel
theorem d1_4 : decode prog_37_method_1_code 4 = .ok (.aload_n 0, 1) := by decide +kernel
theorem d1_5 : decode prog_37_method_1_code 5 = .ok (.iload_n 1, 1) := by decide +kernel
theorem d1_6 : decode prog_37_method_1_code 6 = .ok (.bipush 64, 2) := by decide +kernel
theorem d1_8 : decode prog_37_method_1_code 8 = .ok (.iadd, 1) := by decide +kernel
theorem d1_9 : decode prog_37_method_1_code 9 = .ok (.iconst 1, 1) := by decide +kernel
theorem d1_10 : decode prog_37_method_1_code 10 = .ok (.isub, 1) := by decide +kernel
theorem d1_11 : decode prog_37_method_1_code 11 = .ok (.bipush 64, 2) := by decide +kernel
theorem d1_13 : decode prog_37_method_1_code 13 = .ok (.idiv, 1) := by decide +kernel
theorem d1_14 : decode prog_37_method_1_code 14 = .ok (.newarray .long, 2) := by decide +kernel
theorem d1_16 : decode prog_37_method_1_code 16 = .ok (.putfield 9, 3) := by decide +kernel
theorem d1_19 : decode prog_37_method_1_code 19 = .ok (.return_, 1) := by decide +kernel
abbrev own_rm1_room : Room := { frames := 1, cells := 1, slots := 2, locals := 12 }
set_option maxRecDepth 65536 in
set_option maxHeartbeats 40000000 in
theorem rm1 (l : Launch) (Z : State) (a0 : Array Value) (hw : ∀ d ∈ tables_1, d.before a0 Z = true) (n0 : Nat) (h0 : Heap) (Z0 : n0 ≤ h0.size) (m : Addr) (x : Int32) (sz : Nat) (ge : n0 ≤ m) (XM : Exa Z h0 m "com/example/querent/querent/search/Positions$Marks") (FW : Fld Z h0 m "com/example/querent/querent/search/Positions$Marks" "words" "[J" .null) (hx : x.toInt = (sz : Int)) (hsz : (sz + 63) / 64 ≤ 2) :
    Ctr l Z (⟨"com/example/querent/querent/search/Positions$Marks", "<init>", "(I)V"⟩ : MethodName) prog_37_method_1_code 2 none own_rm1_room n0 #[(.ref m), (.int x)] h0 (fun v h => v = none ∧ ∃ a : Addr, n0 ≤ a ∧ m ≠ a ∧ Keep h0 h [m] ∧ Exa Z h m "com/example/querent/querent/search/Positions$Marks" ∧ Fld Z h m "com/example/querent/querent/search/Positions$Marks" "words" "[J" (.ref a) ∧ Exa Z h a "[J" ∧ JA Z h a (wds [] ((sz + 63) / 64))) := by
  refine Ctr.of #[.val (.ref m), .val (.int x)] pn_0 Z0 (fun m => by first | (simp [entryFrame, mkF, argsToLocals, Value.category]; done) | rfl) ?_
  intro C H
  refine k_aloadN (pc := 0) H d1_0 rfl rfl ?_
  refine k_initObj (w := 0) (pc := 1) H (wd hw 8 rfl) (wd hw 9 rfl) (wd hw 10 rfl) d1_1 rfl (by decide) rfl (by decide) ?_
  refine k_aloadN (pc := 4) H d1_4 rfl rfl ?_
  refine k_iloadN (pc := 5) H d1_5 rfl ?_
  refine k_bipush (64 : Int32) (pc := 6) H d1_6 rfl ?_
  refine k_iadd (pc := 8) H d1_8 ?_
  refine k_iconst (1 : Int32) (pc := 9) H d1_9 rfl ?_
  refine k_isub (pc := 10) H d1_10 ?_
  refine k_bipush (64 : Int32) (pc := 11) H d1_11 rfl ?_
  refine k_idiv (pc := 13) H d1_13 (by decide) ?_
  have hl1 : (x + (64 : Int32)).toInt = ((sz + 64 : Nat) : Int) := add_nat hx rfl (by omega)
  have hl2 : (x + (64 : Int32) - (1 : Int32)).toInt = ((sz + 63 : Nat) : Int) := sub_nat (j := 1) hl1 rfl (by omega)
  have hlen : ((x + (64 : Int32) - (1 : Int32)) / (64 : Int32)).toInt = (((sz + 63) / 64 : Nat) : Int) := div_nat hl2 rfl
  refine k_new_long ((sz + 63) / 64) 2 (pc := 14) H (wd hw 11 rfl) d1_14 (hlen) (hsz) (by decide) (by decide) (by decide) ?_
  intro h2 a ea3 ge4 E5 XA1 V6
  have fr7 : h0.size ≤ a := by rw [ea3]; exact (Keep.refl h0 [m]).1
  have ne8 : m ≠ a := Nat.ne_of_lt (by rw [ea3]; exact XM.lt)
  have KW9 : Keep h0 h2 [m] := (Keep.refl h0 [m]).ext E5
  have f10 : Exa Z h2 m "com/example/querent/querent/search/Positions$Marks" := Jvm.RoadKit.Exa.ext E5 XM
  have f11 : Fld Z h2 m "com/example/querent/querent/search/Positions$Marks" "words" "[J" .null := Jvm.RoadKit.Fld.ext E5 FW
  refine k_putfield (.array .long) (pc := 16) H (wd hw 12 rfl) f11 f10 (Or.inr ⟨(wd hw 13 rfl), rfl, rfl⟩) (wd hw 3 rfl) (by decide) rfl rfl ge d1_16 ?_
  intro h12 Wr13 f14
  have KW15 : Keep h0 h12 [m] := KW9.wr Wr13 (Or.inl (List.mem_of_getElem? (i := 0) rfl))
  have f16 : Exa Z h12 m "com/example/querent/querent/search/Positions$Marks" := Jvm.RoadKit.Exa.wr Wr13 f10
  have f17 : Exa Z h12 a "[J" := Jvm.RoadKit.Exa.wr Wr13 XA1
  have f18 : JA Z h12 a (List.replicate ((sz + 63) / 64) 0) := V6.other Wr13 (Ne.symm ne8)
  exact k_retVoid (pc := 19) H d1_19 (by show 1 ≤ own_rm1_room.cells; decide) (by show 2 ≤ own_rm1_room.slots; decide) (⟨rfl, a, ge4, ne8, KW15, f16, f14, f17, by rw [wds_nil]; exact f18⟩)
theorem d5_0 : decode prog_37_method_2_code 0 = .ok (.lconst 1, 1) := by decide +kernel
theorem d5_1 : decode prog_37_method_2_code 1 = .ok (.iload_n 1, 1) := by decide +kernel
theorem d5_2 : decode prog_37_method_2_code 2 = .ok (.lshl, 1) := by decide +kernel
theorem d5_3 : decode prog_37_method_2_code 3 = .ok (.lstore_n 2, 1) := by decide +kernel
theorem d5_4 : decode prog_37_method_2_code 4 = .ok (.aload_n 0, 1) := by decide +kernel
theorem d5_5 : decode prog_37_method_2_code 5 = .ok (.getfield 9, 3) := by decide +kernel
theorem d5_8 : decode prog_37_method_2_code 8 = .ok (.iload_n 1, 1) := by decide +kernel
theorem d5_9 : decode prog_37_method_2_code 9 = .ok (.bipush 6, 2) := by decide +kernel
theorem d5_11 : decode prog_37_method_2_code 11 = .ok (.iushr, 1) := by decide +kernel
theorem d5_12 : decode prog_37_method_2_code 12 = .ok (.laload, 1) := by decide +kernel
theorem d5_13 : decode prog_37_method_2_code 13 = .ok (.lload_n 2, 1) := by decide +kernel
theorem d5_14 : decode prog_37_method_2_code 14 = .ok (.land, 1) := by decide +kernel
theorem d5_15 : decode prog_37_method_2_code 15 = .ok (.lconst 0, 1) := by decide +kernel
theorem d5_16 : decode prog_37_method_2_code 16 = .ok (.lcmp, 1) := by decide +kernel
theorem d5_17 : decode prog_37_method_2_code 17 = .ok (.ifCond .ne 7, 3) := by decide +kernel
theorem d5_20 : decode prog_37_method_2_code 20 = .ok (.iconst 1, 1) := by decide +kernel
theorem d5_21 : decode prog_37_method_2_code 21 = .ok (.goto 4, 3) := by decide +kernel
theorem d5_24 : decode prog_37_method_2_code 24 = .ok (.iconst 0, 1) := by decide +kernel
theorem d5_25 : decode prog_37_method_2_code 25 = .ok (.istore 4, 2) := by decide +kernel
theorem d5_27 : decode prog_37_method_2_code 27 = .ok (.aload_n 0, 1) := by decide +kernel
theorem d5_28 : decode prog_37_method_2_code 28 = .ok (.getfield 9, 3) := by decide +kernel
theorem d5_31 : decode prog_37_method_2_code 31 = .ok (.iload_n 1, 1) := by decide +kernel
theorem d5_32 : decode prog_37_method_2_code 32 = .ok (.bipush 6, 2) := by decide +kernel
theorem d5_34 : decode prog_37_method_2_code 34 = .ok (.iushr, 1) := by decide +kernel
theorem d5_35 : decode prog_37_method_2_code 35 = .ok (.dup2, 1) := by decide +kernel
theorem d5_36 : decode prog_37_method_2_code 36 = .ok (.laload, 1) := by decide +kernel
theorem d5_37 : decode prog_37_method_2_code 37 = .ok (.lload_n 2, 1) := by decide +kernel
theorem d5_38 : decode prog_37_method_2_code 38 = .ok (.lor, 1) := by decide +kernel
theorem d5_39 : decode prog_37_method_2_code 39 = .ok (.lastore, 1) := by decide +kernel
theorem d5_40 : decode prog_37_method_2_code 40 = .ok (.iload 4, 2) := by decide +kernel
theorem d5_42 : decode prog_37_method_2_code 42 = .ok (.ireturn, 1) := by decide +kernel
abbrev own_rm5_room : Room := { frames := 0, cells := 0, slots := 0, locals := 0 }
set_option maxRecDepth 65536 in
set_option maxHeartbeats 40000000 in
theorem rm5 (l : Launch) (Z : State) (a0 : Array Value) (hw : ∀ d ∈ tables_1, d.before a0 Z = true) (n0 : Nat) (h0 : Heap) (Z0 : n0 ≤ h0.size) (m a : Addr) (S : List Nat) (c : Nat) (x : Int32) (p : Nat) (ge : n0 ≤ a) (ne : m ≠ a) (XM : Exa Z h0 m "com/example/querent/querent/search/Positions$Marks") (FW : Fld Z h0 m "com/example/querent/querent/search/Positions$Marks" "words" "[J" (.ref a)) (XA : Exa Z h0 a "[J") (V : JA Z h0 a (wds S c)) (hx : x.toInt = (p : Int)) (hp : p / 64 < c) :
    Ctr l Z (⟨"com/example/querent/querent/search/Positions$Marks", "mark", "(I)Z"⟩ : MethodName) prog_37_method_2_code 5 (some .boolean) own_rm5_room n0 #[(.ref m), (.int x)] h0 (fun v h => v = some (.int (own_b (decide (p ∉ S)))) ∧ Keep h0 h [a] ∧ JA Z h a (wds (p :: S) c)) := by
  refine Ctr.of #[.val (.ref m), .val (.int x), .unset, .unset, .unset] pn_0 Z0 (fun m => by first | (simp [entryFrame, mkF, argsToLocals, Value.category]; done) | rfl) ?_
  intro C H
  refine k_lconst (1 : Int64) (pc := 0) H d5_0 rfl ?_
  refine k_iloadN (pc := 1) H d5_1 rfl ?_
  refine k_lshl (pc := 2) H d5_2 ?_
  refine k_lstoreN (pc := 3) H d5_3 (Ls' := #[.val (.ref m), .val (.int x), .val (.long ((1 : Int64) <<< (x.toInt64 &&& 63))), .second, .unset]) rfl ?_
  refine k_aloadN (pc := 4) H d5_4 rfl rfl ?_
  have hi : (XT.ushr x (6 : Int32)).toInt = ((p / 64 : Nat) : Int) := ushr_nat 6 hx (by decide) (by decide)
  have hbit := bitB_of hx
  refine k_getfield (pc := 5) H (wd hw 12 rfl) FW d5_5 ?_
  refine k_iloadN (pc := 8) H d5_8 rfl ?_
  refine k_bipush (6 : Int32) (pc := 9) H d5_9 rfl ?_
  refine k_iushr (pc := 11) H d5_11 ?_
  refine k_laloadT (i := (p / 64)) (x := (wordB S (p / 64))) (pc := 12) H V (hi) (wds_at S hp) d5_12 ?_
  refine k_lloadN (pc := 13) H d5_13 rfl ?_
  refine k_land (pc := 14) H d5_14 ?_
  refine k_lconst (0 : Int64) (pc := 15) H d5_15 rfl ?_
  refine k_lcmp (pc := 16) H d5_16 ?_
  refine k_iff0R (P := ((wordB S (p / 64)) &&& ((1 : Int64) <<< (x.toInt64 &&& 63))) = (0 : Int64)) 24 (pc := 17) H d5_17 rfl XT.ll_ne_t XT.ll_ne_f (fun q => ?_) (fun q => ?_)
  · rw [hbit, wordB_and] at q
    refine k_iconst (0 : Int32) (pc := 24) H d5_24 rfl ?_
    refine k_istore (pc := 25) H d5_25 (Ls' := #[.val (.ref m), .val (.int x), .val (.long ((1 : Int64) <<< (x.toInt64 &&& 63))), .second, .val (.int (0 : Int32))]) rfl ?_
    refine k_aloadN (pc := 27) H d5_27 rfl rfl ?_
    refine k_getfield (pc := 28) H (wd hw 12 rfl) FW d5_28 ?_
    refine k_iloadN (pc := 31) H d5_31 rfl ?_
    refine k_bipush (6 : Int32) (pc := 32) H d5_32 rfl ?_
    refine k_iushr (pc := 34) H d5_34 ?_
    refine k_dup2 (pc := 35) H d5_35 rfl rfl ?_
    refine k_laloadT (i := (p / 64)) (x := (wordB S (p / 64))) (pc := 36) H V (hi) (wds_at S hp) d5_36 ?_
    refine k_lloadN (pc := 37) H d5_37 rfl ?_
    refine k_lor (pc := 38) H d5_38 ?_
    refine k_lastoreT (i := (p / 64)) (pc := 39) H V (hi) (by rw [wds_len]; exact hp) ge d5_39 ?_
    intro h19 K20 V21
    have KW22 : Keep h0 h19 [a] := (Keep.refl h0 [a]).trans K20 (allS (Or.inl (List.mem_of_getElem? (i := 0) rfl)) all0)
    have f23 : Exa Z h19 m "com/example/querent/querent/search/Positions$Marks" := XM.keep K20
    have f24 : Fld Z h19 m "com/example/querent/querent/search/Positions$Marks" "words" "[J" (.ref a) := FW.keep K20 (ninS ne nin0)
    have f25 : Exa Z h19 a "[J" := XA.keep K20
    have V26 : JA Z h19 a (wds (p :: S) c) := by rw [← wds_mark, ← hbit]; exact V21
    refine k_iload (pc := 40) H d5_40 rfl ?_
    exact k_retN' (t := .boolean) (by simp) (pc := 42) H d5_42 (by show 0 ≤ own_rm5_room.cells; decide) (by show 0 ≤ own_rm5_room.slots; decide) (⟨by rw [decide_eq_false q]; rfl, KW22, V26⟩)
  · rw [hbit, wordB_and] at q
    refine k_iconst (1 : Int32) (pc := 20) H d5_20 rfl ?_
    refine k_goto 25 (pc := 21) H d5_21 rfl ?_
    refine k_istore (pc := 25) H d5_25 (Ls' := #[.val (.ref m), .val (.int x), .val (.long ((1 : Int64) <<< (x.toInt64 &&& 63))), .second, .val (.int (1 : Int32))]) rfl ?_
    refine k_aloadN (pc := 27) H d5_27 rfl rfl ?_
    refine k_getfield (pc := 28) H (wd hw 12 rfl) FW d5_28 ?_
    refine k_iloadN (pc := 31) H d5_31 rfl ?_
    refine k_bipush (6 : Int32) (pc := 32) H d5_32 rfl ?_
    refine k_iushr (pc := 34) H d5_34 ?_
    refine k_dup2 (pc := 35) H d5_35 rfl rfl ?_
    refine k_laloadT (i := (p / 64)) (x := (wordB S (p / 64))) (pc := 36) H V (hi) (wds_at S hp) d5_36 ?_
    refine k_lloadN (pc := 37) H d5_37 rfl ?_
    refine k_lor (pc := 38) H d5_38 ?_
    refine k_lastoreT (i := (p / 64)) (pc := 39) H V (hi) (by rw [wds_len]; exact hp) ge d5_39 ?_
    intro h27 K28 V29
    have KW30 : Keep h0 h27 [a] := (Keep.refl h0 [a]).trans K28 (allS (Or.inl (List.mem_of_getElem? (i := 0) rfl)) all0)
    have f31 : Exa Z h27 m "com/example/querent/querent/search/Positions$Marks" := XM.keep K28
    have f32 : Fld Z h27 m "com/example/querent/querent/search/Positions$Marks" "words" "[J" (.ref a) := FW.keep K28 (ninS ne nin0)
    have f33 : Exa Z h27 a "[J" := XA.keep K28
    have V34 : JA Z h27 a (wds (p :: S) c) := by rw [← wds_mark, ← hbit]; exact V29
    refine k_iload (pc := 40) H d5_40 rfl ?_
    exact k_retN' (t := .boolean) (by simp) (pc := 42) H d5_42 (by show 0 ≤ own_rm5_room.cells; decide) (by show 0 ≤ own_rm5_room.slots; decide) (⟨by simp only [q, not_false_eq_true, decide_true, decide_false]; rfl, KW30, V34⟩)
theorem d4_0 : decode prog_37_method_6_code 0 = .ok (.aload_n 0, 1) := by decide +kernel
theorem d4_1 : decode prog_37_method_6_code 1 = .ok (.getfield 9, 3) := by decide +kernel
theorem d4_4 : decode prog_37_method_6_code 4 = .ok (.invokevirtual 19, 3) := by decide +kernel
theorem d4_7 : decode prog_37_method_6_code 7 = .ok (.checkcast 20, 3) := by decide +kernel
theorem d4_10 : decode prog_37_method_6_code 10 = .ok (.areturn, 1) := by decide +kernel
abbrev own_rm4_room : Room := { frames := 1, cells := 1, slots := 2, locals := 14 }
set_option maxRecDepth 65536 in
set_option maxHeartbeats 40000000 in
theorem rm4 (l : Launch) (Z : State) (a0 : Array Value) (hw : ∀ d ∈ tables_1, d.before a0 Z = true) (n0 : Nat) (h0 : Heap) (Z0 : n0 ≤ h0.size) (m a : Addr) (S : List Nat) (c : Nat) (ge : n0 ≤ a) (ne : m ≠ a) (XM : Exa Z h0 m "com/example/querent/querent/search/Positions$Marks") (FW : Fld Z h0 m "com/example/querent/querent/search/Positions$Marks" "words" "[J" (.ref a)) (XA : Exa Z h0 a "[J") (V : JA Z h0 a (wds S c)) (hc : c ≤ 2) :
    Ctr l Z (⟨"com/example/querent/querent/search/Positions$Marks", "toWords", "()[J"⟩ : MethodName) prog_37_method_6_code 1 (some (.array .long)) own_rm4_room n0 #[(.ref m)] h0 (fun v h => ∃ b : Addr, v = some (.ref b) ∧ Keep h0 h [] ∧ JA Z h b (wds S c)) := by
  refine Ctr.of #[.val (.ref m)] pn_0 Z0 (fun m => by first | (simp [entryFrame, mkF, argsToLocals, Value.category]; done) | rfl) ?_
  intro C H
  refine k_aloadN (pc := 0) H d4_0 rfl rfl ?_
  refine k_getfield (pc := 1) H (wd hw 12 rfl) FW d4_1 ?_
  refine k_clone (w := 0) (cap := 2) (pc := 4) H (wd hw 24 rfl) (wd hw 25 rfl) (wd hw 29 rfl) (wd hw 27 rfl) (wd hw 28 rfl) (wd hw 30 rfl) V (fun v hv => by obtain ⟨z, -, rfl⟩ := List.mem_map.mp hv; rfl) XA d4_4 rfl (by decide) rfl (by decide) (by simpa [wds_len] using hc) (by decide) (by decide) ?_
  intro h35 b ea36 ge37 E38 XA39 V40
  have fr41 : h0.size ≤ b := by rw [ea36]; exact (Keep.refl h0 []).1
  have ne42 : m ≠ b := Nat.ne_of_lt (by rw [ea36]; exact XM.lt)
  have ne43 : a ≠ b := Nat.ne_of_lt (by rw [ea36]; exact XA.lt)
  have KW44 : Keep h0 h35 [] := (Keep.refl h0 []).ext E38
  have f45 : Exa Z h35 m "com/example/querent/querent/search/Positions$Marks" := Jvm.RoadKit.Exa.ext E38 XM
  have f46 : Fld Z h35 m "com/example/querent/querent/search/Positions$Marks" "words" "[J" (.ref a) := Jvm.RoadKit.Fld.ext E38 FW
  have f47 : Exa Z h35 a "[J" := Jvm.RoadKit.Exa.ext E38 XA
  have f48 : JA Z h35 a (wds S c) := V.ext E38
  refine k_castY (pc := 7) H (wd hw 31 rfl) (wd hw 32 rfl) XA39 d4_7 ?_
  exact k_retRef (t := (.array .long)) rfl rfl (pc := 10) H d4_10 (by show 1 ≤ own_rm4_room.cells; decide) (by show 2 ≤ own_rm4_room.slots; decide) (⟨b, rfl, KW44, V40⟩)
theorem d3_0 : decode prog_37_method_4_code 0 = .ok (.iload_n 2, 1) := by decide +kernel
theorem d3_1 : decode prog_37_method_4_code 1 = .ok (.istore 4, 2) := by decide +kernel
theorem d3_3 : decode prog_37_method_4_code 3 = .ok (.iload 4, 2) := by decide +kernel
theorem d3_5 : decode prog_37_method_4_code 5 = .ok (.iload_n 3, 1) := by decide +kernel
theorem d3_6 : decode prog_37_method_4_code 6 = .ok (.if_icmp .ge 32, 3) := by decide +kernel
theorem d3_9 : decode prog_37_method_4_code 9 = .ok (.aload_n 1, 1) := by decide +kernel
theorem d3_10 : decode prog_37_method_4_code 10 = .ok (.iload 4, 2) := by decide +kernel
theorem d3_12 : decode prog_37_method_4_code 12 = .ok (.iaload, 1) := by decide +kernel
theorem d3_13 : decode prog_37_method_4_code 13 = .ok (.istore 5, 2) := by decide +kernel
theorem d3_15 : decode prog_37_method_4_code 15 = .ok (.aload_n 0, 1) := by decide +kernel
theorem d3_16 : decode prog_37_method_4_code 16 = .ok (.getfield 9, 3) := by decide +kernel
theorem d3_19 : decode prog_37_method_4_code 19 = .ok (.iload 5, 2) := by decide +kernel
theorem d3_21 : decode prog_37_method_4_code 21 = .ok (.bipush 6, 2) := by decide +kernel
theorem d3_23 : decode prog_37_method_4_code 23 = .ok (.iushr, 1) := by decide +kernel
theorem d3_24 : decode prog_37_method_4_code 24 = .ok (.dup2, 1) := by decide +kernel
theorem d3_25 : decode prog_37_method_4_code 25 = .ok (.laload, 1) := by decide +kernel
theorem d3_26 : decode prog_37_method_4_code 26 = .ok (.lconst 1, 1) := by decide +kernel
theorem d3_27 : decode prog_37_method_4_code 27 = .ok (.iload 5, 2) := by decide +kernel
theorem d3_29 : decode prog_37_method_4_code 29 = .ok (.lshl, 1) := by decide +kernel
theorem d3_30 : decode prog_37_method_4_code 30 = .ok (.lor, 1) := by decide +kernel
theorem d3_31 : decode prog_37_method_4_code 31 = .ok (.lastore, 1) := by decide +kernel
theorem d3_32 : decode prog_37_method_4_code 32 = .ok (.iinc 4 1, 3) := by decide +kernel
theorem d3_35 : decode prog_37_method_4_code 35 = .ok (.goto (-32), 3) := by decide +kernel
theorem d3_38 : decode prog_37_method_4_code 38 = .ok (.return_, 1) := by decide +kernel
abbrev own_rm3_room : Room := { frames := 0, cells := 0, slots := 0, locals := 0 }
set_option maxRecDepth 65536 in
set_option maxHeartbeats 40000000 in
theorem rm3 (l : Launch) (Z : State) (a0 : Array Value) (hw : ∀ d ∈ tables_1, d.before a0 Z = true) (n0 : Nat) (h0 : Heap) (Z0 : n0 ≤ h0.size) (m a b : Addr) (S : List Nat) (c : Nat) (xs : List Int32) (ps : List Nat) (fi ti : Int32) (f t : Nat) (ge : n0 ≤ a) (ne : m ≠ a) (XM : Exa Z h0 m "com/example/querent/querent/search/Positions$Marks") (FW : Fld Z h0 m "com/example/querent/querent/search/Positions$Marks" "words" "[J" (.ref a)) (XA : Exa Z h0 a "[J") (V : JA Z h0 a (wds S c)) (nab : b ≠ a) (VB : IA Z h0 b xs) (hl : xs.length = ps.length) (hps : ∀ i, i < ps.length → ∃ x, xs[i]? = some x ∧ x.toInt = ((ps.getD i 0 : Nat) : Int) ∧ ps.getD i 0 / 64 < c) (hf : fi.toInt = (f : Int)) (ht : ti.toInt = (t : Int)) (htl : t ≤ ps.length) (hlen : ps.length < 1000) :
    Ctr l Z (⟨"com/example/querent/querent/search/Positions$Marks", "markAll", "([III)V"⟩ : MethodName) prog_37_method_4_code 6 none own_rm3_room n0 #[(.ref m), (.ref b), (.int fi), (.int ti)] h0 (fun v h => v = none ∧ Keep h0 h [a] ∧ JA Z h a (wds (own_ma ps f (t - f) S) c)) := by
  refine Ctr.of #[.val (.ref m), .val (.ref b), .val (.int fi), .val (.int ti), .unset, .unset] pn_0 Z0 (fun m => by first | (simp [entryFrame, mkF, argsToLocals, Value.category]; done) | rfl) ?_
  intro C H
  refine k_iloadN (pc := 0) H d3_0 rfl ?_
  refine k_istore (pc := 1) H d3_1 (Ls' := #[.val (.ref m), .val (.ref b), .val (.int fi), .val (.int ti), .val (.int fi), .unset]) rfl ?_
  have L : ∀ (k i : Nat) (ii : Int32) (s5 : Slot) (hh : Heap) (S' : List Nat) (hs : OneW s5) (K : Keep h0 hh [a]) (VV : JA Z hh a (wds S' c)) (hi : ii.toInt = (i : Int)) (hm : t - i = k) (hv : own_ma ps f (t - f) S = own_ma ps i k S'), W l own_rm3_room C (n0, own_rm3_room.cells, own_rm3_room.slots, fun v h => v = none ∧ Keep h0 h [a] ∧ JA Z h a (wds (own_ma ps f (t - f) S) c)) hh 0 0 3 #[.val (.ref m), .val (.ref b), .val (.int fi), .val (.int ti), .val (.int ii), s5] [] := by
    intro k
    induction k with
    | zero =>
      intro i ii s5 hh S' hs K VV hi hm hv
      refine k_iload (pc := 3) H d3_3 rfl ?_
      refine k_iloadN (pc := 5) H d3_5 rfl ?_
      refine k_icmpT 38 (pc := 6) H d3_6 rfl (XT.ii_ge_t (fun q => by have := (lt_nat hi ht).mp q; omega)) ?_
      exact k_retVoid (pc := 38) H d3_38 (by show 0 ≤ own_rm3_room.cells; decide) (by show 0 ≤ own_rm3_room.slots; decide) (⟨rfl, K, by rw [hv]; exact VV⟩)
    | succ k ih =>
      intro i ii s5 hh S' hs K VV hi hm hv
      refine k_iload (pc := 3) H d3_3 rfl ?_
      refine k_iloadN (pc := 5) H d3_5 rfl ?_
      refine k_icmpF (pc := 6) H d3_6 (XT.ii_ge_f ((lt_nat hi ht).mpr (by omega))) ?_
      refine k_aloadN (pc := 9) H d3_9 rfl rfl ?_
      refine k_iload (pc := 10) H d3_10 rfl ?_
      obtain ⟨x, hx1, hx2, hx3⟩ := hps i (by omega)
      rw [own_ma] at hv
      generalize ps.getD i 0 = p at hx2 hx3 hv
      have FW1 : Fld Z hh m "com/example/querent/querent/search/Positions$Marks" "words" "[J" (.ref a) := FW.keep K (ninS ne nin0)
      have VB1 : IA Z hh b xs := VB.keep K (ninS nab nin0)
      refine k_ialoadT (i := i) (x := x) (pc := 12) H VB1 (hi) (hx1) d3_12 ?_
      refine k_istore (pc := 13) H d3_13 (Ls' := #[.val (.ref m), .val (.ref b), .val (.int fi), .val (.int ti), .val (.int ii), .val (.int x)]) (XS.store1 rfl hs rfl) ?_
      refine k_aloadN (pc := 15) H d3_15 rfl rfl ?_
      refine k_getfield (pc := 16) H (wd hw 12 rfl) FW1 d3_16 ?_
      refine k_iload (pc := 19) H d3_19 rfl ?_
      refine k_bipush (6 : Int32) (pc := 21) H d3_21 rfl ?_
      refine k_iushr (pc := 23) H d3_23 ?_
      refine k_dup2 (pc := 24) H d3_24 rfl rfl ?_
      have hj : (XT.ushr x (6 : Int32)).toInt = ((p / 64 : Nat) : Int) := ushr_nat 6 hx2 (by decide) (by decide)
      refine k_laloadT (i := (p / 64)) (x := (wordB S' (p / 64))) (pc := 25) H VV (hj) (wds_at S' hx3) d3_25 ?_
      refine k_lconst (1 : Int64) (pc := 26) H d3_26 rfl ?_
      refine k_iload (pc := 27) H d3_27 rfl ?_
      refine k_lshl (pc := 29) H d3_29 ?_
      refine k_lor (pc := 30) H d3_30 ?_
      refine k_lastoreT (i := (p / 64)) (pc := 31) H VV (hj) (by rw [wds_len]; exact hx3) ge d3_31 ?_
      intro h49 K50 V51
      have V52 : JA Z h49 a (wds (p :: S') c) := by rw [← wds_mark, ← bitB_of hx2]; exact V51
      refine k_iinc (1 : Int32) (pc := 32) H d3_32 rfl rfl (Ls' := #[.val (.ref m), .val (.ref b), .val (.int fi), .val (.int ti), .val (.int (ii + (1 : Int32))), .val (.int x)]) rfl ?_
      refine k_goto 3 (pc := 35) H d3_35 rfl ?_
      exact ih (i + 1) _ _ _ (p :: S') (OneW.int _) (K.trans K50 (allS (Or.inl (List.mem_of_getElem? (i := 0) rfl)) all0)) V52 (add_nat hi rfl (by omega)) (by omega) hv
  exact L _ f _ _ _ S OneW.unset (Keep.refl _ _) V hf rfl rfl
theorem d6_0 : decode method_3_code 0 = .ok (.iload_n 0, 1) := by decide +kernel
theorem d6_1 : decode method_3_code 1 = .ok (.bipush 64, 2) := by decide +kernel
theorem d6_3 : decode method_3_code 3 = .ok (.imul, 1) := by decide +kernel
theorem d6_4 : decode method_3_code 4 = .ok (.istore_n 2, 1) := by decide +kernel
theorem d6_5 : decode method_3_code 5 = .ok (.iload_n 1, 1) := by decide +kernel
theorem d6_6 : decode method_3_code 6 = .ok (.iload_n 2, 1) := by decide +kernel
theorem d6_7 : decode method_3_code 7 = .ok (.if_icmp .lt 11, 3) := by decide +kernel
theorem d6_10 : decode method_3_code 10 = .ok (.iload_n 1, 1) := by decide +kernel
theorem d6_11 : decode method_3_code 11 = .ok (.iload_n 2, 1) := by decide +kernel
theorem d6_12 : decode method_3_code 12 = .ok (.bipush 64, 2) := by decide +kernel
theorem d6_14 : decode method_3_code 14 = .ok (.iadd, 1) := by decide +kernel
theorem d6_15 : decode method_3_code 15 = .ok (.if_icmp .lt 5, 3) := by decide +kernel
theorem d6_18 : decode method_3_code 18 = .ok (.lconst 0, 1) := by decide +kernel
theorem d6_19 : decode method_3_code 19 = .ok (.lreturn, 1) := by decide +kernel
theorem d6_20 : decode method_3_code 20 = .ok (.lconst 1, 1) := by decide +kernel
theorem d6_21 : decode method_3_code 21 = .ok (.iload_n 1, 1) := by decide +kernel
theorem d6_22 : decode method_3_code 22 = .ok (.iload_n 2, 1) := by decide +kernel
theorem d6_23 : decode method_3_code 23 = .ok (.isub, 1) := by decide +kernel
theorem d6_24 : decode method_3_code 24 = .ok (.lshl, 1) := by decide +kernel
theorem d6_25 : decode method_3_code 25 = .ok (.lreturn, 1) := by decide +kernel
abbrev own_rm6_room : Room := { frames := 0, cells := 0, slots := 0, locals := 0 }
set_option maxRecDepth 65536 in
set_option maxHeartbeats 40000000 in
theorem rm6 (l : Launch) (Z : State) (a0 : Array Value) (hw : ∀ d ∈ tables_1, d.before a0 Z = true) (n0 : Nat) (h0 : Heap) (Z0 : n0 ≤ h0.size) (y x : Int32) (u p : Nat) (hy : y.toInt = (u : Int)) (hx : x.toInt = (p : Int)) (hu : u < 100) :
    Ctr l Z (⟨"com/example/querent/querent/search/MarksMarkAllPinLaw", "bit", "(II)J"⟩ : MethodName) method_3_code 3 (some .long) own_rm6_room n0 #[(.int y), (.int x)] h0 (fun v h => v = some (.long (own_bi p u)) ∧ h = h0) := by
  refine Ctr.of #[.val (.int y), .val (.int x), .unset] pn_1 Z0 (fun m => by first | (simp [entryFrame, mkF, argsToLocals, Value.category]; done) | rfl) ?_
  intro C H
  refine k_iloadN (pc := 0) H d6_0 rfl ?_
  refine k_bipush (64 : Int32) (pc := 1) H d6_1 rfl ?_
  refine k_imul (pc := 3) H d6_3 ?_
  refine k_istoreN (pc := 4) H d6_4 (Ls' := #[.val (.int y), .val (.int x), .val (.int (y * (64 : Int32)))]) rfl ?_
  refine k_iloadN (pc := 5) H d6_5 rfl ?_
  refine k_iloadN (pc := 6) H d6_6 rfl ?_
  have h64 : (y * (64 : Int32)).toInt = ((u * 64 : Nat) : Int) := mul_nat hy rfl (by omega)
  have h65 : (y * (64 : Int32) + (64 : Int32)).toInt = ((u * 64 + 64 : Nat) : Int) := add_nat h64 rfl (by omega)
  have q1 := lt_nat hx h64
  have q2 := lt_nat hx h65
  refine k_icmp (P := x < (y * (64 : Int32))) 18 (pc := 7) H d6_7 rfl XT.ii_lt_t XT.ii_lt_f (fun c1 => ?_) (fun c1 => ?_)
  · refine k_lconst (0 : Int64) (pc := 18) H d6_18 rfl ?_
    exact k_retLong (pc := 19) H d6_19 (by show 0 ≤ own_rm6_room.cells; decide) (by show 0 ≤ own_rm6_room.slots; decide) (⟨by rw [own_bi, if_neg (by have := q1.mp c1; omega)], rfl⟩)
  · refine k_iloadN (pc := 10) H d6_10 rfl ?_
    refine k_iloadN (pc := 11) H d6_11 rfl ?_
    refine k_bipush (64 : Int32) (pc := 12) H d6_12 rfl ?_
    refine k_iadd (pc := 14) H d6_14 ?_
    refine k_icmp (P := x < ((y * (64 : Int32)) + (64 : Int32))) 20 (pc := 15) H d6_15 rfl XT.ii_lt_t XT.ii_lt_f (fun c2 => ?_) (fun c2 => ?_)
    · refine k_lconst (1 : Int64) (pc := 20) H d6_20 rfl ?_
      refine k_iloadN (pc := 21) H d6_21 rfl ?_
      refine k_iloadN (pc := 22) H d6_22 rfl ?_
      refine k_isub (pc := 23) H d6_23 ?_
      refine k_lshl (pc := 24) H d6_24 ?_
      exact k_retLong (pc := 25) H d6_25 (by show 0 ≤ own_rm6_room.cells; decide) (by show 0 ≤ own_rm6_room.slots; decide) (⟨by rw [own_bi, if_pos (by have := q2.mp c2; have : ¬ p < u * 64 := fun z => c1 (q1.mpr z); omega), bitB_of (sub_nat hx h64 (by have : ¬ p < u * 64 := fun z => c1 (q1.mpr z); omega))]; congr 3; have : ¬ p < u * 64 := fun z => c1 (q1.mpr z); omega, rfl⟩)
    · refine k_lconst (0 : Int64) (pc := 18) H d6_18 rfl ?_
      exact k_retLong (pc := 19) H d6_19 (by show 0 ≤ own_rm6_room.cells; decide) (by show 0 ≤ own_rm6_room.slots; decide) (⟨by rw [own_bi, if_neg (by have : ¬ p < u * 64 + 64 := fun z => c2 (q2.mpr z); omega)], rfl⟩)
theorem d0_0 : decode code 0 = .ok (.iload_n 0, 1) := by decide +kernel
theorem d0_1 : decode code 1 = .ok (.bipush 127, 2) := by decide +kernel
theorem d0_3 : decode code 3 = .ok (.iand, 1) := by decide +kernel
theorem d0_4 : decode code 4 = .ok (.istore 6, 2) := by decide +kernel
theorem d0_6 : decode code 6 = .ok (.iload_n 1, 1) := by decide +kernel
theorem d0_7 : decode code 7 = .ok (.bipush 127, 2) := by decide +kernel
theorem d0_9 : decode code 9 = .ok (.iand, 1) := by decide +kernel
theorem d0_10 : decode code 10 = .ok (.istore 7, 2) := by decide +kernel
theorem d0_12 : decode code 12 = .ok (.iload_n 2, 1) := by decide +kernel
theorem d0_13 : decode code 13 = .ok (.bipush 127, 2) := by decide +kernel
theorem d0_15 : decode code 15 = .ok (.iand, 1) := by decide +kernel
theorem d0_16 : decode code 16 = .ok (.istore 8, 2) := by decide +kernel
theorem d0_18 : decode code 18 = .ok (.iload_n 3, 1) := by decide +kernel
theorem d0_19 : decode code 19 = .ok (.bipush 127, 2) := by decide +kernel
theorem d0_21 : decode code 21 = .ok (.iand, 1) := by decide +kernel
theorem d0_22 : decode code 22 = .ok (.istore 9, 2) := by decide +kernel
theorem d0_24 : decode code 24 = .ok (.iload 4, 2) := by decide +kernel
theorem d0_26 : decode code 26 = .ok (.ldc 7, 2) := by decide +kernel
theorem d0_28 : decode code 28 = .ok (.iand, 1) := by decide +kernel
theorem d0_29 : decode code 29 = .ok (.iconst 5, 1) := by decide +kernel
theorem d0_30 : decode code 30 = .ok (.irem, 1) := by decide +kernel
theorem d0_31 : decode code 31 = .ok (.istore 10, 2) := by decide +kernel
theorem d0_33 : decode code 33 = .ok (.iload 4, 2) := by decide +kernel
theorem d0_35 : decode code 35 = .ok (.bipush 8, 2) := by decide +kernel
theorem d0_37 : decode code 37 = .ok (.iushr, 1) := by decide +kernel
theorem d0_38 : decode code 38 = .ok (.ldc 7, 2) := by decide +kernel
theorem d0_40 : decode code 40 = .ok (.iand, 1) := by decide +kernel
theorem d0_41 : decode code 41 = .ok (.iconst 5, 1) := by decide +kernel
theorem d0_42 : decode code 42 = .ok (.irem, 1) := by decide +kernel
theorem d0_43 : decode code 43 = .ok (.istore 11, 2) := by decide +kernel
theorem d0_45 : decode code 45 = .ok (.iload 5, 2) := by decide +kernel
theorem d0_47 : decode code 47 = .ok (.bipush 127, 2) := by decide +kernel
theorem d0_49 : decode code 49 = .ok (.iand, 1) := by decide +kernel
theorem d0_50 : decode code 50 = .ok (.istore 12, 2) := by decide +kernel
theorem d0_52 : decode code 52 = .ok (.iload 5, 2) := by decide +kernel
theorem d0_54 : decode code 54 = .ok (.bipush 7, 2) := by decide +kernel
theorem d0_56 : decode code 56 = .ok (.iushr, 1) := by decide +kernel
theorem d0_57 : decode code 57 = .ok (.iconst 1, 1) := by decide +kernel
theorem d0_58 : decode code 58 = .ok (.iand, 1) := by decide +kernel
theorem d0_59 : decode code 59 = .ok (.ifCond .eq 7, 3) := by decide +kernel
theorem d0_62 : decode code 62 = .ok (.iconst 1, 1) := by decide +kernel
theorem d0_63 : decode code 63 = .ok (.goto 4, 3) := by decide +kernel
theorem d0_66 : decode code 66 = .ok (.iconst 0, 1) := by decide +kernel
theorem d0_67 : decode code 67 = .ok (.istore 13, 2) := by decide +kernel
theorem d0_69 : decode code 69 = .ok (.iconst 4, 1) := by decide +kernel
theorem d0_70 : decode code 70 = .ok (.newarray .int, 2) := by decide +kernel
theorem d0_72 : decode code 72 = .ok (.dup, 1) := by decide +kernel
theorem d0_73 : decode code 73 = .ok (.iconst 0, 1) := by decide +kernel
theorem d0_74 : decode code 74 = .ok (.iload 6, 2) := by decide +kernel
theorem d0_76 : decode code 76 = .ok (.iastore, 1) := by decide +kernel
theorem d0_77 : decode code 77 = .ok (.dup, 1) := by decide +kernel
theorem d0_78 : decode code 78 = .ok (.iconst 1, 1) := by decide +kernel
theorem d0_79 : decode code 79 = .ok (.iload 7, 2) := by decide +kernel
theorem d0_81 : decode code 81 = .ok (.iastore, 1) := by decide +kernel
theorem d0_82 : decode code 82 = .ok (.dup, 1) := by decide +kernel
theorem d0_83 : decode code 83 = .ok (.iconst 2, 1) := by decide +kernel
theorem d0_84 : decode code 84 = .ok (.iload 8, 2) := by decide +kernel
theorem d0_86 : decode code 86 = .ok (.iastore, 1) := by decide +kernel
theorem d0_87 : decode code 87 = .ok (.dup, 1) := by decide +kernel
theorem d0_88 : decode code 88 = .ok (.iconst 3, 1) := by decide +kernel
theorem d0_89 : decode code 89 = .ok (.iload 9, 2) := by decide +kernel
theorem d0_91 : decode code 91 = .ok (.iastore, 1) := by decide +kernel
theorem d0_92 : decode code 92 = .ok (.astore 14, 2) := by decide +kernel
theorem d0_94 : decode code 94 = .ok (.new 8, 3) := by decide +kernel
theorem d0_97 : decode code 97 = .ok (.dup, 1) := by decide +kernel
theorem d0_98 : decode code 98 = .ok (.sipush 128, 3) := by decide +kernel
theorem d0_101 : decode code 101 = .ok (.invokespecial 10, 3) := by decide +kernel
theorem d0_104 : decode code 104 = .ok (.astore 15, 2) := by decide +kernel
theorem d0_106 : decode code 106 = .ok (.iload 13, 2) := by decide +kernel
theorem d0_108 : decode code 108 = .ok (.ifCond .eq 11, 3) := by decide +kernel
theorem d0_111 : decode code 111 = .ok (.aload 15, 2) := by decide +kernel
theorem d0_113 : decode code 113 = .ok (.iload 12, 2) := by decide +kernel
theorem d0_115 : decode code 115 = .ok (.invokevirtual 13, 3) := by decide +kernel
theorem d0_118 : decode code 118 = .ok (.pop, 1) := by decide +kernel
theorem d0_119 : decode code 119 = .ok (.aload 15, 2) := by decide +kernel
theorem d0_121 : decode code 121 = .ok (.aload 14, 2) := by decide +kernel
theorem d0_123 : decode code 123 = .ok (.iload 10, 2) := by decide +kernel
theorem d0_125 : decode code 125 = .ok (.iload 11, 2) := by decide +kernel
theorem d0_127 : decode code 127 = .ok (.invokevirtual 17, 3) := by decide +kernel
theorem d0_130 : decode code 130 = .ok (.aload 15, 2) := by decide +kernel
theorem d0_132 : decode code 132 = .ok (.invokevirtual 21, 3) := by decide +kernel
theorem d0_135 : decode code 135 = .ok (.astore 16, 2) := by decide +kernel
theorem d0_137 : decode code 137 = .ok (.aload 16, 2) := by decide +kernel
theorem d0_139 : decode code 139 = .ok (.arraylength, 1) := by decide +kernel
theorem d0_140 : decode code 140 = .ok (.iconst 2, 1) := by decide +kernel
theorem d0_141 : decode code 141 = .ok (.if_icmp .eq 5, 3) := by decide +kernel
theorem d0_144 : decode code 144 = .ok (.iconst 0, 1) := by decide +kernel
theorem d0_145 : decode code 145 = .ok (.ireturn, 1) := by decide +kernel
theorem d0_146 : decode code 146 = .ok (.lconst 0, 1) := by decide +kernel
theorem d0_147 : decode code 147 = .ok (.lstore 17, 2) := by decide +kernel
theorem d0_149 : decode code 149 = .ok (.lconst 0, 1) := by decide +kernel
theorem d0_150 : decode code 150 = .ok (.lstore 19, 2) := by decide +kernel
theorem d0_152 : decode code 152 = .ok (.iload 13, 2) := by decide +kernel
theorem d0_154 : decode code 154 = .ok (.ifCond .eq 25, 3) := by decide +kernel
theorem d0_157 : decode code 157 = .ok (.lload 17, 2) := by decide +kernel
theorem d0_159 : decode code 159 = .ok (.iconst 0, 1) := by decide +kernel
theorem d0_160 : decode code 160 = .ok (.iload 12, 2) := by decide +kernel
theorem d0_162 : decode code 162 = .ok (.invokestatic 25, 3) := by decide +kernel
theorem d0_165 : decode code 165 = .ok (.lor, 1) := by decide +kernel
theorem d0_166 : decode code 166 = .ok (.lstore 17, 2) := by decide +kernel
theorem d0_168 : decode code 168 = .ok (.lload 19, 2) := by decide +kernel
theorem d0_170 : decode code 170 = .ok (.iconst 1, 1) := by decide +kernel
theorem d0_171 : decode code 171 = .ok (.iload 12, 2) := by decide +kernel
theorem d0_173 : decode code 173 = .ok (.invokestatic 25, 3) := by decide +kernel
theorem d0_176 : decode code 176 = .ok (.lor, 1) := by decide +kernel
theorem d0_177 : decode code 177 = .ok (.lstore 19, 2) := by decide +kernel
theorem d0_179 : decode code 179 = .ok (.iload 10, 2) := by decide +kernel
theorem d0_181 : decode code 181 = .ok (.ifCond .gt 31, 3) := by decide +kernel
theorem d0_184 : decode code 184 = .ok (.iconst 0, 1) := by decide +kernel
theorem d0_185 : decode code 185 = .ok (.iload 11, 2) := by decide +kernel
theorem d0_187 : decode code 187 = .ok (.if_icmp .ge 25, 3) := by decide +kernel
theorem d0_190 : decode code 190 = .ok (.lload 17, 2) := by decide +kernel
theorem d0_192 : decode code 192 = .ok (.iconst 0, 1) := by decide +kernel
theorem d0_193 : decode code 193 = .ok (.iload 6, 2) := by decide +kernel
theorem d0_195 : decode code 195 = .ok (.invokestatic 25, 3) := by decide +kernel
theorem d0_198 : decode code 198 = .ok (.lor, 1) := by decide +kernel
theorem d0_199 : decode code 199 = .ok (.lstore 17, 2) := by decide +kernel
theorem d0_201 : decode code 201 = .ok (.lload 19, 2) := by decide +kernel
theorem d0_203 : decode code 203 = .ok (.iconst 1, 1) := by decide +kernel
theorem d0_204 : decode code 204 = .ok (.iload 6, 2) := by decide +kernel
theorem d0_206 : decode code 206 = .ok (.invokestatic 25, 3) := by decide +kernel
theorem d0_209 : decode code 209 = .ok (.lor, 1) := by decide +kernel
theorem d0_210 : decode code 210 = .ok (.lstore 19, 2) := by decide +kernel
theorem d0_212 : decode code 212 = .ok (.iload 10, 2) := by decide +kernel
theorem d0_214 : decode code 214 = .ok (.iconst 1, 1) := by decide +kernel
theorem d0_215 : decode code 215 = .ok (.if_icmp .gt 31, 3) := by decide +kernel
theorem d0_218 : decode code 218 = .ok (.iconst 1, 1) := by decide +kernel
theorem d0_219 : decode code 219 = .ok (.iload 11, 2) := by decide +kernel
theorem d0_221 : decode code 221 = .ok (.if_icmp .ge 25, 3) := by decide +kernel
theorem d0_224 : decode code 224 = .ok (.lload 17, 2) := by decide +kernel
theorem d0_226 : decode code 226 = .ok (.iconst 0, 1) := by decide +kernel
theorem d0_227 : decode code 227 = .ok (.iload 7, 2) := by decide +kernel
theorem d0_229 : decode code 229 = .ok (.invokestatic 25, 3) := by decide +kernel
theorem d0_232 : decode code 232 = .ok (.lor, 1) := by decide +kernel
theorem d0_233 : decode code 233 = .ok (.lstore 17, 2) := by decide +kernel
theorem d0_235 : decode code 235 = .ok (.lload 19, 2) := by decide +kernel
theorem d0_237 : decode code 237 = .ok (.iconst 1, 1) := by decide +kernel
theorem d0_238 : decode code 238 = .ok (.iload 7, 2) := by decide +kernel
theorem d0_240 : decode code 240 = .ok (.invokestatic 25, 3) := by decide +kernel
theorem d0_243 : decode code 243 = .ok (.lor, 1) := by decide +kernel
theorem d0_244 : decode code 244 = .ok (.lstore 19, 2) := by decide +kernel
theorem d0_246 : decode code 246 = .ok (.iload 10, 2) := by decide +kernel
theorem d0_248 : decode code 248 = .ok (.iconst 2, 1) := by decide +kernel
theorem d0_249 : decode code 249 = .ok (.if_icmp .gt 31, 3) := by decide +kernel
theorem d0_252 : decode code 252 = .ok (.iconst 2, 1) := by decide +kernel
theorem d0_253 : decode code 253 = .ok (.iload 11, 2) := by decide +kernel
theorem d0_255 : decode code 255 = .ok (.if_icmp .ge 25, 3) := by decide +kernel
theorem d0_258 : decode code 258 = .ok (.lload 17, 2) := by decide +kernel
theorem d0_260 : decode code 260 = .ok (.iconst 0, 1) := by decide +kernel
theorem d0_261 : decode code 261 = .ok (.iload 8, 2) := by decide +kernel
theorem d0_263 : decode code 263 = .ok (.invokestatic 25, 3) := by decide +kernel
theorem d0_266 : decode code 266 = .ok (.lor, 1) := by decide +kernel
theorem d0_267 : decode code 267 = .ok (.lstore 17, 2) := by decide +kernel
theorem d0_269 : decode code 269 = .ok (.lload 19, 2) := by decide +kernel
theorem d0_271 : decode code 271 = .ok (.iconst 1, 1) := by decide +kernel
theorem d0_272 : decode code 272 = .ok (.iload 8, 2) := by decide +kernel
theorem d0_274 : decode code 274 = .ok (.invokestatic 25, 3) := by decide +kernel
theorem d0_277 : decode code 277 = .ok (.lor, 1) := by decide +kernel
theorem d0_278 : decode code 278 = .ok (.lstore 19, 2) := by decide +kernel
theorem d0_280 : decode code 280 = .ok (.iload 10, 2) := by decide +kernel
theorem d0_282 : decode code 282 = .ok (.iconst 3, 1) := by decide +kernel
theorem d0_283 : decode code 283 = .ok (.if_icmp .gt 31, 3) := by decide +kernel
theorem d0_286 : decode code 286 = .ok (.iconst 3, 1) := by decide +kernel
theorem d0_287 : decode code 287 = .ok (.iload 11, 2) := by decide +kernel
theorem d0_289 : decode code 289 = .ok (.if_icmp .ge 25, 3) := by decide +kernel
theorem d0_292 : decode code 292 = .ok (.lload 17, 2) := by decide +kernel
theorem d0_294 : decode code 294 = .ok (.iconst 0, 1) := by decide +kernel
theorem d0_295 : decode code 295 = .ok (.iload 9, 2) := by decide +kernel
theorem d0_297 : decode code 297 = .ok (.invokestatic 25, 3) := by decide +kernel
theorem d0_300 : decode code 300 = .ok (.lor, 1) := by decide +kernel
theorem d0_301 : decode code 301 = .ok (.lstore 17, 2) := by decide +kernel
theorem d0_303 : decode code 303 = .ok (.lload 19, 2) := by decide +kernel
theorem d0_305 : decode code 305 = .ok (.iconst 1, 1) := by decide +kernel
theorem d0_306 : decode code 306 = .ok (.iload 9, 2) := by decide +kernel
theorem d0_308 : decode code 308 = .ok (.invokestatic 25, 3) := by decide +kernel
theorem d0_311 : decode code 311 = .ok (.lor, 1) := by decide +kernel
theorem d0_312 : decode code 312 = .ok (.lstore 19, 2) := by decide +kernel
theorem d0_314 : decode code 314 = .ok (.aload 16, 2) := by decide +kernel
theorem d0_316 : decode code 316 = .ok (.iconst 0, 1) := by decide +kernel
theorem d0_317 : decode code 317 = .ok (.laload, 1) := by decide +kernel
theorem d0_318 : decode code 318 = .ok (.lload 17, 2) := by decide +kernel
theorem d0_320 : decode code 320 = .ok (.lcmp, 1) := by decide +kernel
theorem d0_321 : decode code 321 = .ok (.ifCond .ne 17, 3) := by decide +kernel
theorem d0_324 : decode code 324 = .ok (.aload 16, 2) := by decide +kernel
theorem d0_326 : decode code 326 = .ok (.iconst 1, 1) := by decide +kernel
theorem d0_327 : decode code 327 = .ok (.laload, 1) := by decide +kernel
theorem d0_328 : decode code 328 = .ok (.lload 19, 2) := by decide +kernel
theorem d0_330 : decode code 330 = .ok (.lcmp, 1) := by decide +kernel
theorem d0_331 : decode code 331 = .ok (.ifCond .ne 7, 3) := by decide +kernel
theorem d0_334 : decode code 334 = .ok (.iconst 1, 1) := by decide +kernel
theorem d0_335 : decode code 335 = .ok (.goto 4, 3) := by decide +kernel
theorem d0_338 : decode code 338 = .ok (.iconst 0, 1) := by decide +kernel
theorem d0_339 : decode code 339 = .ok (.ireturn, 1) := by decide +kernel
set_option maxRecDepth 65536 in
set_option maxHeartbeats 40000000 in
theorem rm0 (l : Launch) (Z : State) (a0 : Array Value) (hw : ∀ d ∈ tables_1, d.before a0 Z = true) (ws : List Jvm.Cond) (n0 : Nat) (h0 : Heap) (Z0 : n0 ≤ h0.size) (a1 : Int32) (b1 : Int32) (c1 : Int32) (d1 : Int32) (e1 : Int32) (f1 : Int32) :
    MetFree l x (head1 (Jvm.Cond.code x code maxLocals ret :: ws) room_1) (fun as_ U => as_ = #[(.int a1), (.int b1), (.int c1), (.int d1), (.int e1), (.int f1)] ∧ Z.Warmed39 U.vm ∧ U.heap = h0) (fun _ _ _ _ _ => True) (fun _ U o U' => ∃ v L, o = .returned v ∧ ((fun v h => v = some (.int 1)) v U'.heap ∧ Fr n0 L) ∧ FrameEnd U o U' L 16 128) := by
  refine met_of (Q := fun v h => v = some (.int 1)) #[.val (.int a1), .val (.int b1), .val (.int c1), .val (.int d1), .val (.int e1), .val (.int f1), .unset, .unset, .unset, .unset, .unset, .unset, .unset, .unset, .unset, .unset, .unset, .unset, .unset, .unset, .unset] pn_1 Z0 (fun m => by first | (simp [entryFrame, mkF, argsToLocals, Value.category, maxLocals]; done) | rfl) ?_
  intro C H
  refine k_iloadN (pc := 0) H d0_0 rfl ?_
  refine k_bipush (127 : Int32) (pc := 1) H d0_1 rfl ?_
  refine k_iand (pc := 3) H d0_3 ?_
  generalize hv_x0 : (a1 &&& (127 : Int32)) = x0
  refine k_istore (pc := 4) H d0_4 (Ls' := #[.val (.int a1), .val (.int b1), .val (.int c1), .val (.int d1), .val (.int e1), .val (.int f1), .val (.int x0), .unset, .unset, .unset, .unset, .unset, .unset, .unset, .unset, .unset, .unset, .unset, .unset, .unset, .unset]) rfl ?_
  refine k_iloadN (pc := 6) H d0_6 rfl ?_
  refine k_bipush (127 : Int32) (pc := 7) H d0_7 rfl ?_
  refine k_iand (pc := 9) H d0_9 ?_
  generalize hv_x1 : (b1 &&& (127 : Int32)) = x1
  refine k_istore (pc := 10) H d0_10 (Ls' := #[.val (.int a1), .val (.int b1), .val (.int c1), .val (.int d1), .val (.int e1), .val (.int f1), .val (.int x0), .val (.int x1), .unset, .unset, .unset, .unset, .unset, .unset, .unset, .unset, .unset, .unset, .unset, .unset, .unset]) rfl ?_
  refine k_iloadN (pc := 12) H d0_12 rfl ?_
  refine k_bipush (127 : Int32) (pc := 13) H d0_13 rfl ?_
  refine k_iand (pc := 15) H d0_15 ?_
  generalize hv_x2 : (c1 &&& (127 : Int32)) = x2
  refine k_istore (pc := 16) H d0_16 (Ls' := #[.val (.int a1), .val (.int b1), .val (.int c1), .val (.int d1), .val (.int e1), .val (.int f1), .val (.int x0), .val (.int x1), .val (.int x2), .unset, .unset, .unset, .unset, .unset, .unset, .unset, .unset, .unset, .unset, .unset, .unset]) rfl ?_
  refine k_iloadN (pc := 18) H d0_18 rfl ?_
  refine k_bipush (127 : Int32) (pc := 19) H d0_19 rfl ?_
  refine k_iand (pc := 21) H d0_21 ?_
  generalize hv_x3 : (d1 &&& (127 : Int32)) = x3
  refine k_istore (pc := 22) H d0_22 (Ls' := #[.val (.int a1), .val (.int b1), .val (.int c1), .val (.int d1), .val (.int e1), .val (.int f1), .val (.int x0), .val (.int x1), .val (.int x2), .val (.int x3), .unset, .unset, .unset, .unset, .unset, .unset, .unset, .unset, .unset, .unset, .unset]) rfl ?_
  refine k_iload (pc := 24) H d0_24 rfl ?_
  refine k_ldcI (v := (2147483647 : Int32)) (pc := 26) H (wd hw 0 rfl) d0_26 ?_
  refine k_iand (pc := 28) H d0_28 ?_
  refine k_iconst (5 : Int32) (pc := 29) H d0_29 rfl ?_
  refine k_irem (pc := 30) H d0_30 (by decide) ?_
  generalize hv_fi : ((e1 &&& (2147483647 : Int32)) % (5 : Int32)) = fi
  refine k_istore (pc := 31) H d0_31 (Ls' := #[.val (.int a1), .val (.int b1), .val (.int c1), .val (.int d1), .val (.int e1), .val (.int f1), .val (.int x0), .val (.int x1), .val (.int x2), .val (.int x3), .val (.int fi), .unset, .unset, .unset, .unset, .unset, .unset, .unset, .unset, .unset, .unset]) rfl ?_
  refine k_iload (pc := 33) H d0_33 rfl ?_
  refine k_bipush (8 : Int32) (pc := 35) H d0_35 rfl ?_
  refine k_iushr (pc := 37) H d0_37 ?_
  refine k_ldcI (v := (2147483647 : Int32)) (pc := 38) H (wd hw 0 rfl) d0_38 ?_
  refine k_iand (pc := 40) H d0_40 ?_
  refine k_iconst (5 : Int32) (pc := 41) H d0_41 rfl ?_
  refine k_irem (pc := 42) H d0_42 (by decide) ?_
  generalize hv_ti : (((XT.ushr e1 (8 : Int32)) &&& (2147483647 : Int32)) % (5 : Int32)) = ti
  refine k_istore (pc := 43) H d0_43 (Ls' := #[.val (.int a1), .val (.int b1), .val (.int c1), .val (.int d1), .val (.int e1), .val (.int f1), .val (.int x0), .val (.int x1), .val (.int x2), .val (.int x3), .val (.int fi), .val (.int ti), .unset, .unset, .unset, .unset, .unset, .unset, .unset, .unset, .unset]) rfl ?_
  refine k_iload (pc := 45) H d0_45 rfl ?_
  refine k_bipush (127 : Int32) (pc := 47) H d0_47 rfl ?_
  refine k_iand (pc := 49) H d0_49 ?_
  generalize hv_xp : (f1 &&& (127 : Int32)) = xp
  refine k_istore (pc := 50) H d0_50 (Ls' := #[.val (.int a1), .val (.int b1), .val (.int c1), .val (.int d1), .val (.int e1), .val (.int f1), .val (.int x0), .val (.int x1), .val (.int x2), .val (.int x3), .val (.int fi), .val (.int ti), .val (.int xp), .unset, .unset, .unset, .unset, .unset, .unset, .unset, .unset]) rfl ?_
  refine k_iload (pc := 52) H d0_52 rfl ?_
  refine k_bipush (7 : Int32) (pc := 54) H d0_54 rfl ?_
  refine k_iushr (pc := 56) H d0_56 ?_
  refine k_iconst (1 : Int32) (pc := 57) H d0_57 rfl ?_
  refine k_iand (pc := 58) H d0_58 ?_
  obtain ⟨p0, hp0, hpl0⟩ := mask_nat a1 127 7 (by decide) (by decide)
  rw [hv_x0] at hp0
  obtain ⟨p1, hp1, hpl1⟩ := mask_nat b1 127 7 (by decide) (by decide)
  rw [hv_x1] at hp1
  obtain ⟨p2, hp2, hpl2⟩ := mask_nat c1 127 7 (by decide) (by decide)
  rw [hv_x2] at hp2
  obtain ⟨p3, hp3, hpl3⟩ := mask_nat d1 127 7 (by decide) (by decide)
  rw [hv_x3] at hp3
  obtain ⟨pp, hpp, hppl⟩ := mask_nat f1 127 7 (by decide) (by decide)
  rw [hv_xp] at hpp
  obtain ⟨f, hf, hf5⟩ := mod_nat e1 2147483647 5 31 5 (by decide) (by decide) rfl (by decide)
  rw [hv_fi] at hf
  obtain ⟨t, ht, ht5⟩ := mod_nat (XT.ushr e1 8) 2147483647 5 31 5 (by decide) (by decide) rfl (by decide)
  rw [hv_ti] at ht
  have J67 : ∀ (pm : Bool), W l room_1 C (n0, 16, 128, fun v h => v = some (.int 1)) h0 0 0 67 #[.val (.int a1), .val (.int b1), .val (.int c1), .val (.int d1), .val (.int e1), .val (.int f1), .val (.int x0), .val (.int x1), .val (.int x2), .val (.int x3), .val (.int fi), .val (.int ti), .val (.int xp), .unset, .unset, .unset, .unset, .unset, .unset, .unset, .unset] [(.int (own_b pm))] := by
    intro pm
    refine k_istore (pc := 67) H d0_67 (Ls' := #[.val (.int a1), .val (.int b1), .val (.int c1), .val (.int d1), .val (.int e1), .val (.int f1), .val (.int x0), .val (.int x1), .val (.int x2), .val (.int x3), .val (.int fi), .val (.int ti), .val (.int xp), .val (.int (own_b pm)), .unset, .unset, .unset, .unset, .unset, .unset, .unset]) rfl ?_
    refine k_iconst (4 : Int32) (pc := 69) H d0_69 rfl ?_
    refine k_new_int (4) 4 (pc := 70) H (wd hw 1 rfl) d0_70 (by decide) (by decide) (by decide) (by decide) (by decide) ?_
    intro h54 b ea55 ge56 E57 XA53 V58
    refine k_dup (pc := 72) H d0_72 rfl ?_
    refine k_iconst (0 : Int32) (pc := 73) H d0_73 rfl ?_
    refine k_iload (pc := 74) H d0_74 rfl ?_
    refine k_iastoreT (i := 0) (pc := 76) H V58 (by decide) (by simp) ge56 d0_76 ?_
    intro h59 K60 V61
    refine k_dup (pc := 77) H d0_77 rfl ?_
    refine k_iconst (1 : Int32) (pc := 78) H d0_78 rfl ?_
    refine k_iload (pc := 79) H d0_79 rfl ?_
    refine k_iastoreT (i := 1) (pc := 81) H V61 (by decide) (by simp) ge56 d0_81 ?_
    intro h62 K63 V64
    refine k_dup (pc := 82) H d0_82 rfl ?_
    refine k_iconst (2 : Int32) (pc := 83) H d0_83 rfl ?_
    refine k_iload (pc := 84) H d0_84 rfl ?_
    refine k_iastoreT (i := 2) (pc := 86) H V64 (by decide) (by simp) ge56 d0_86 ?_
    intro h65 K66 V67
    refine k_dup (pc := 87) H d0_87 rfl ?_
    refine k_iconst (3 : Int32) (pc := 88) H d0_88 rfl ?_
    refine k_iload (pc := 89) H d0_89 rfl ?_
    refine k_iastoreT (i := 3) (pc := 91) H V67 (by decide) (by simp) ge56 d0_91 ?_
    intro h68 K69 V70
    have VB : IA Z h68 b [x0, x1, x2, x3] := by simpa [List.replicate] using V70
    refine k_astore (pc := 92) H d0_92 rfl (Ls' := #[.val (.int a1), .val (.int b1), .val (.int c1), .val (.int d1), .val (.int e1), .val (.int f1), .val (.int x0), .val (.int x1), .val (.int x2), .val (.int x3), .val (.int fi), .val (.int ti), .val (.int xp), .val (.int (own_b pm)), .val (.ref b), .unset, .unset, .unset, .unset, .unset, .unset]) rfl ?_
    refine k_newObj (pc := 94) H (wd hw 2 rfl) (wd hw 3 rfl) (wd hw 4 rfl) d0_94 (by decide) (by decide) ?_
    intro h71 m ea72 ge73 E74 X75 D76
    have ne77 : b ≠ m := Nat.ne_of_lt (by rw [ea72]; exact VB.lt)
    have f78 : IA Z h71 b [x0, x1, x2, x3] := VB.ext E74
    have f79 : Fld Z h71 m "com/example/querent/querent/search/Positions$Marks" "words" "[J" .null := D76 (Or.inr (wd hw 13 rfl)) (ty := (.array .long)) (by decide)
    refine k_dup (pc := 97) H d0_97 rfl ?_
    refine k_sipush (128 : Int32) (pc := 98) H d0_98 rfl ?_
    refine k_invI (y := (⟨"com/example/querent/querent/search/Positions$Marks", "<init>", "(I)V"⟩ : MethodName)) (st := [(.ref m)]) (a := m) [(.int (128 : Int32))] 1 (pc := 101) H rfl (wd hw 5 rfl) (wd hw 6 rfl) (wd hw 4 rfl) (wd hw 7 rfl) (by decide) (fun z0 => rm1 l Z a0 hw n0 h71 z0 m (128 : Int32) 128 ge73 X75 f79 rfl (by decide)) (lenOf pd_0 rfl) d0_101 rfl rfl rfl (by decide) (by decide) (by decide) (by decide) ?_
    rintro v hA ⟨rfl, a, ga, nma, K0, XM, FW, XA, V⟩
    show W l room_1 C _ hA 3 7 104 #[.val (.int a1), .val (.int b1), .val (.int c1), .val (.int d1), .val (.int e1), .val (.int f1), .val (.int x0), .val (.int x1), .val (.int x2), .val (.int x3), .val (.int fi), .val (.int ti), .val (.int xp), .val (.int (own_b pm)), .val (.ref b), .unset, .unset, .unset, .unset, .unset, .unset] [(.ref m)]
    have VB2 : IA Z hA b [x0, x1, x2, x3] := f78.keep K0 (ninS ne77 nin0)
    refine k_astore (pc := 104) H d0_104 rfl (Ls' := #[.val (.int a1), .val (.int b1), .val (.int c1), .val (.int d1), .val (.int e1), .val (.int f1), .val (.int x0), .val (.int x1), .val (.int x2), .val (.int x3), .val (.int fi), .val (.int ti), .val (.int xp), .val (.int (own_b pm)), .val (.ref b), .val (.ref m), .unset, .unset, .unset, .unset, .unset]) rfl ?_
    refine k_iload (pc := 106) H d0_106 rfl ?_
    have hlt2 : ∀ (p : Nat), p < 2 ^ 7 → p / 64 < 2 := fun p hp => by omega
    have nab : b ≠ a := VB2.ne V (by decide)
    have J119 : ∀ (hh : Heap) (S : List Nat) (XM : Exa Z hh m "com/example/querent/querent/search/Positions$Marks") (FW : Fld Z hh m "com/example/querent/querent/search/Positions$Marks" "words" "[J" (.ref a)) (XA : Exa Z hh a "[J") (V : JA Z hh a (wds S 2)) (VB : IA Z hh b [x0, x1, x2, x3]) (hS : S = if pm then [pp] else []), W l room_1 C (n0, 16, 128, fun v h => v = some (.int 1)) hh 3 7 119 #[.val (.int a1), .val (.int b1), .val (.int c1), .val (.int d1), .val (.int e1), .val (.int f1), .val (.int x0), .val (.int x1), .val (.int x2), .val (.int x3), .val (.int fi), .val (.int ti), .val (.int xp), .val (.int (own_b pm)), .val (.ref b), .val (.ref m), .unset, .unset, .unset, .unset, .unset] [] := by
      intro hh S XM FW XA V VB hS
      refine k_aload (pc := 119) H d0_119 rfl rfl ?_
      refine k_aload (pc := 121) H d0_121 rfl rfl ?_
      refine k_iload (pc := 123) H d0_123 rfl ?_
      refine k_iload (pc := 125) H d0_125 rfl ?_
      have hps : ∀ i, i < [p0, p1, p2, p3].length → ∃ x, [x0, x1, x2, x3][i]? = some x ∧ x.toInt = (([p0, p1, p2, p3].getD i 0 : Nat) : Int) ∧ [p0, p1, p2, p3].getD i 0 / 64 < 2 := by
        intro i hi
        have hi' : i = 0 ∨ i = 1 ∨ i = 2 ∨ i = 3 := by simp at hi; omega
        rcases hi' with rfl | rfl | rfl | rfl
        · exact ⟨x0, rfl, hp0, hlt2 _ hpl0⟩
        · exact ⟨x1, rfl, hp1, hlt2 _ hpl1⟩
        · exact ⟨x2, rfl, hp2, hlt2 _ hpl2⟩
        · exact ⟨x3, rfl, hp3, hlt2 _ hpl3⟩
      refine k_invV (y := (⟨"com/example/querent/querent/search/Positions$Marks", "markAll", "([III)V"⟩ : MethodName)) (st := []) (a := m) [(.ref b), (.int fi), (.int ti)] 0 (pc := 127) H (wd hw 14 rfl) (wd hw 15 rfl) (wd hw 17 rfl) (wd hw 16 rfl) (wd hw 4 rfl) (wd hw 18 rfl) rfl (by decide) XM (fun z0 => rm3 l Z a0 hw n0 hh z0 m a b S 2 [x0, x1, x2, x3] [p0, p1, p2, p3] fi ti f t ga nma XM FW XA V nab VB rfl hps hf ht (by simp; omega) (by simp)) (lenOf pd_1 rfl) d0_127 rfl rfl rfl (by decide) (by decide) (by decide) (by decide) ?_
      rintro v hB ⟨rfl, K2, V2⟩
      show W l room_1 C _ hB 3 7 130 #[.val (.int a1), .val (.int b1), .val (.int c1), .val (.int d1), .val (.int e1), .val (.int f1), .val (.int x0), .val (.int x1), .val (.int x2), .val (.int x3), .val (.int fi), .val (.int ti), .val (.int xp), .val (.int (own_b pm)), .val (.ref b), .val (.ref m), .unset, .unset, .unset, .unset, .unset] []
      refine k_aload (pc := 130) H d0_130 rfl rfl ?_
      have XM2 := XM.keep K2
      have XA2 := XA.keep K2
      have FW2 := FW.keep K2 (ninS nma nin0)
      rw [← own_all p0 p1 p2 p3 S f hf5 t ht5] at V2
      obtain ⟨Mm, hM⟩ : ∃ Mm, Mm = own_st f t 3 p3 (own_st f t 2 p2 (own_st f t 1 p1 (own_st f t 0 p0 S))) := ⟨_, rfl⟩
      rw [← hM] at V2
      refine k_invV (y := (⟨"com/example/querent/querent/search/Positions$Marks", "toWords", "()[J"⟩ : MethodName)) (st := []) (a := m) [] 0 (pc := 132) H (wd hw 19 rfl) (wd hw 20 rfl) (wd hw 22 rfl) (wd hw 21 rfl) (wd hw 4 rfl) (wd hw 23 rfl) rfl (by decide) XM2 (fun z0 => rm4 l Z a0 hw n0 hB z0 m a Mm 2 ga nma XM2 FW2 XA2 V2 (by decide)) (lenOf pd_2 rfl) d0_132 rfl rfl rfl (by decide) (by decide) (by decide) (by decide) ?_
      rintro v hT ⟨d, rfl, K3, VD⟩
      show W l room_1 C _ hT 4 9 135 #[.val (.int a1), .val (.int b1), .val (.int c1), .val (.int d1), .val (.int e1), .val (.int f1), .val (.int x0), .val (.int x1), .val (.int x2), .val (.int x3), .val (.int fi), .val (.int ti), .val (.int xp), .val (.int (own_b pm)), .val (.ref b), .val (.ref m), .unset, .unset, .unset, .unset, .unset] [(.ref d)]
      refine k_astore (pc := 135) H d0_135 rfl (Ls' := #[.val (.int a1), .val (.int b1), .val (.int c1), .val (.int d1), .val (.int e1), .val (.int f1), .val (.int x0), .val (.int x1), .val (.int x2), .val (.int x3), .val (.int fi), .val (.int ti), .val (.int xp), .val (.int (own_b pm)), .val (.ref b), .val (.ref m), .val (.ref d), .unset, .unset, .unset, .unset]) rfl ?_
      refine k_aload (pc := 137) H d0_137 rfl rfl ?_
      refine k_arraylength (N := (2 : Int32)) (pc := 139) H VD (by simp [wds_len]) d0_139 ?_
      refine k_iconst (2 : Int32) (pc := 140) H d0_140 rfl ?_
      refine k_icmpT 146 (pc := 141) H d0_141 rfl (XT.ii_eq_t (rfl)) ?_
      refine k_lconst (0 : Int64) (pc := 146) H d0_146 rfl ?_
      refine k_lstore (pc := 147) H d0_147 (Ls' := #[.val (.int a1), .val (.int b1), .val (.int c1), .val (.int d1), .val (.int e1), .val (.int f1), .val (.int x0), .val (.int x1), .val (.int x2), .val (.int x3), .val (.int fi), .val (.int ti), .val (.int xp), .val (.int (own_b pm)), .val (.ref b), .val (.ref m), .val (.ref d), .val (.long (0 : Int64)), .second, .unset, .unset]) rfl ?_
      refine k_lconst (0 : Int64) (pc := 149) H d0_149 rfl ?_
      refine k_lstore (pc := 150) H d0_150 (Ls' := #[.val (.int a1), .val (.int b1), .val (.int c1), .val (.int d1), .val (.int e1), .val (.int f1), .val (.int x0), .val (.int x1), .val (.int x2), .val (.int x3), .val (.int fi), .val (.int ti), .val (.int xp), .val (.int (own_b pm)), .val (.ref b), .val (.ref m), .val (.ref d), .val (.long (0 : Int64)), .second, .val (.long (0 : Int64)), .second]) rfl ?_
      have Q314 : ∀ (S' : List Nat) (hS' : S' = Mm), W l room_1 C (n0, 16, 128, fun v h => v = some (.int 1)) hT 4 9 314 #[.val (.int a1), .val (.int b1), .val (.int c1), .val (.int d1), .val (.int e1), .val (.int f1), .val (.int x0), .val (.int x1), .val (.int x2), .val (.int x3), .val (.int fi), .val (.int ti), .val (.int xp), .val (.int (own_b pm)), .val (.ref b), .val (.ref m), .val (.ref d), .val (.long (wordB S' 0)), .second, .val (.long (wordB S' 1)), .second] [] := by
        intro S' hS'
        subst hS'
        refine k_aload (pc := 314) H d0_314 rfl rfl ?_
        refine k_iconst (0 : Int32) (pc := 316) H d0_316 rfl ?_
        refine k_laloadT (i := 0) (x := (wordB S' 0)) (pc := 317) H VD (rfl) (wds_at _ (by decide)) d0_317 ?_
        refine k_lload (pc := 318) H d0_318 rfl ?_
        refine k_lcmp (pc := 320) H d0_320 ?_
        refine k_ifF (pc := 321) H d0_321 (XT.ll_ne_f (rfl)) ?_
        refine k_aload (pc := 324) H d0_324 rfl rfl ?_
        refine k_iconst (1 : Int32) (pc := 326) H d0_326 rfl ?_
        refine k_laloadT (i := 1) (x := (wordB S' 1)) (pc := 327) H VD (rfl) (wds_at _ (by decide)) d0_327 ?_
        refine k_lload (pc := 328) H d0_328 rfl ?_
        refine k_lcmp (pc := 330) H d0_330 ?_
        refine k_ifF (pc := 331) H d0_331 (XT.ll_ne_f (rfl)) ?_
        refine k_iconst (1 : Int32) (pc := 334) H d0_334 rfl ?_
        refine k_goto 339 (pc := 335) H d0_335 rfl ?_
        exact k_retN' (t := .boolean) (by simp) (pc := 339) H d0_339 (by show 4 ≤ 16; decide) (by show 9 ≤ 128; decide) (rfl)
      have Q280 : ∀ (S' : List Nat) (hS' : (own_st f t 3 p3 S') = Mm), W l room_1 C (n0, 16, 128, fun v h => v = some (.int 1)) hT 4 9 280 #[.val (.int a1), .val (.int b1), .val (.int c1), .val (.int d1), .val (.int e1), .val (.int f1), .val (.int x0), .val (.int x1), .val (.int x2), .val (.int x3), .val (.int fi), .val (.int ti), .val (.int xp), .val (.int (own_b pm)), .val (.ref b), .val (.ref m), .val (.ref d), .val (.long (wordB S' 0)), .second, .val (.long (wordB S' 1)), .second] [] := by
        intro S' hS'
        have g1 := lt_nat (x := (3 : Int32)) (i := 3) rfl hf
        have g2 := lt_nat (x := (3 : Int32)) (i := 3) rfl ht
        refine k_iload (pc := 280) H d0_280 rfl ?_
        refine k_iconst (3 : Int32) (pc := 282) H d0_282 rfl ?_
        refine k_icmp (P := (3 : Int32) < fi) 314 (pc := 283) H d0_283 rfl XT.ii_gt_t XT.ii_gt_f (fun k1 => ?_) (fun k1 => ?_)
        · exact Q314 S' (by rw [own_no (i := 3) (p := p3) (S := S') (by have := g1.mp k1; omega)] at hS'; exact hS')
        · refine k_iconst (3 : Int32) (pc := 286) H d0_286 rfl ?_
          refine k_iload (pc := 287) H d0_287 rfl ?_
          refine k_icmpR (P := (3 : Int32) < ti) 314 (pc := 289) H d0_289 rfl XT.ii_ge_t XT.ii_ge_f (fun k2 => ?_) (fun k2 => ?_)
          · exact Q314 S' (by rw [own_no (i := 3) (p := p3) (S := S') (by have : ¬ 3 < t := fun z => k2 (g2.mpr z); omega)] at hS'; exact hS')
          · refine k_lload (pc := 292) H d0_292 rfl ?_
            refine k_iconst (0 : Int32) (pc := 294) H d0_294 rfl ?_
            refine k_iload (pc := 295) H d0_295 rfl ?_
            refine k_invS (y := (⟨"com/example/querent/querent/search/MarksMarkAllPinLaw", "bit", "(II)J"⟩ : MethodName)) (st := [(.long (wordB S' 0))]) [(.int (0 : Int32)), (.int x3)] 2 (pc := 297) H (wd hw 38 rfl) (wd hw 39 rfl) (wd hw 40 rfl) (wd hw 41 rfl) (by decide) (fun z0 => rm6 l Z a0 hw n0 hT z0 (0 : Int32) x3 0 p3 rfl hp3 (by decide)) (lenOf pd_3 rfl) d0_297 rfl rfl rfl (by decide) (by decide) (by decide) (by decide) ?_
            rintro v hx ⟨rfl, ex⟩
            rw [ex]
            clear ex hx
            show W l room_1 C _ hT 4 9 300 #[.val (.int a1), .val (.int b1), .val (.int c1), .val (.int d1), .val (.int e1), .val (.int f1), .val (.int x0), .val (.int x1), .val (.int x2), .val (.int x3), .val (.int fi), .val (.int ti), .val (.int xp), .val (.int (own_b pm)), .val (.ref b), .val (.ref m), .val (.ref d), .val (.long (wordB S' 0)), .second, .val (.long (wordB S' 1)), .second] [(.long (own_bi p3 0)), (.long (wordB S' 0))]
            refine k_lor (pc := 300) H d0_300 ?_
            refine k_lstore (pc := 301) H d0_301 (Ls' := #[.val (.int a1), .val (.int b1), .val (.int c1), .val (.int d1), .val (.int e1), .val (.int f1), .val (.int x0), .val (.int x1), .val (.int x2), .val (.int x3), .val (.int fi), .val (.int ti), .val (.int xp), .val (.int (own_b pm)), .val (.ref b), .val (.ref m), .val (.ref d), .val (.long ((wordB S' 0) ||| (own_bi p3 0))), .second, .val (.long (wordB S' 1)), .second]) rfl ?_
            refine k_lload (pc := 303) H d0_303 rfl ?_
            refine k_iconst (1 : Int32) (pc := 305) H d0_305 rfl ?_
            refine k_iload (pc := 306) H d0_306 rfl ?_
            refine k_invS (y := (⟨"com/example/querent/querent/search/MarksMarkAllPinLaw", "bit", "(II)J"⟩ : MethodName)) (st := [(.long (wordB S' 1))]) [(.int (1 : Int32)), (.int x3)] 2 (pc := 308) H (wd hw 38 rfl) (wd hw 39 rfl) (wd hw 40 rfl) (wd hw 41 rfl) (by decide) (fun z0 => rm6 l Z a0 hw n0 hT z0 (1 : Int32) x3 1 p3 rfl hp3 (by decide)) (lenOf pd_3 rfl) d0_308 rfl rfl rfl (by decide) (by decide) (by decide) (by decide) ?_
            rintro v hx ⟨rfl, ex⟩
            rw [ex]
            clear ex hx
            show W l room_1 C _ hT 4 9 311 #[.val (.int a1), .val (.int b1), .val (.int c1), .val (.int d1), .val (.int e1), .val (.int f1), .val (.int x0), .val (.int x1), .val (.int x2), .val (.int x3), .val (.int fi), .val (.int ti), .val (.int xp), .val (.int (own_b pm)), .val (.ref b), .val (.ref m), .val (.ref d), .val (.long ((wordB S' 0) ||| (own_bi p3 0))), .second, .val (.long (wordB S' 1)), .second] [(.long (own_bi p3 1)), (.long (wordB S' 1))]
            refine k_lor (pc := 311) H d0_311 ?_
            refine k_lstore (pc := 312) H d0_312 (Ls' := #[.val (.int a1), .val (.int b1), .val (.int c1), .val (.int d1), .val (.int e1), .val (.int f1), .val (.int x0), .val (.int x1), .val (.int x2), .val (.int x3), .val (.int fi), .val (.int ti), .val (.int xp), .val (.int (own_b pm)), .val (.ref b), .val (.ref m), .val (.ref d), .val (.long ((wordB S' 0) ||| (own_bi p3 0))), .second, .val (.long ((wordB S' 1) ||| (own_bi p3 1))), .second]) rfl ?_
            exact Q314 (p3 :: S') (by rw [own_yes (i := 3) (p := p3) (S := S') ⟨by have : ¬ 3 < f := fun z => k1 (g1.mpr z); omega, g2.mp k2⟩] at hS'; exact hS')
      have Q246 : ∀ (S' : List Nat) (hS' : (own_st f t 3 p3 (own_st f t 2 p2 S')) = Mm), W l room_1 C (n0, 16, 128, fun v h => v = some (.int 1)) hT 4 9 246 #[.val (.int a1), .val (.int b1), .val (.int c1), .val (.int d1), .val (.int e1), .val (.int f1), .val (.int x0), .val (.int x1), .val (.int x2), .val (.int x3), .val (.int fi), .val (.int ti), .val (.int xp), .val (.int (own_b pm)), .val (.ref b), .val (.ref m), .val (.ref d), .val (.long (wordB S' 0)), .second, .val (.long (wordB S' 1)), .second] [] := by
        intro S' hS'
        have g1 := lt_nat (x := (2 : Int32)) (i := 2) rfl hf
        have g2 := lt_nat (x := (2 : Int32)) (i := 2) rfl ht
        refine k_iload (pc := 246) H d0_246 rfl ?_
        refine k_iconst (2 : Int32) (pc := 248) H d0_248 rfl ?_
        refine k_icmp (P := (2 : Int32) < fi) 280 (pc := 249) H d0_249 rfl XT.ii_gt_t XT.ii_gt_f (fun k1 => ?_) (fun k1 => ?_)
        · exact Q280 S' (by rw [own_no (i := 2) (p := p2) (S := S') (by have := g1.mp k1; omega)] at hS'; exact hS')
        · refine k_iconst (2 : Int32) (pc := 252) H d0_252 rfl ?_
          refine k_iload (pc := 253) H d0_253 rfl ?_
          refine k_icmpR (P := (2 : Int32) < ti) 280 (pc := 255) H d0_255 rfl XT.ii_ge_t XT.ii_ge_f (fun k2 => ?_) (fun k2 => ?_)
          · exact Q280 S' (by rw [own_no (i := 2) (p := p2) (S := S') (by have : ¬ 2 < t := fun z => k2 (g2.mpr z); omega)] at hS'; exact hS')
          · refine k_lload (pc := 258) H d0_258 rfl ?_
            refine k_iconst (0 : Int32) (pc := 260) H d0_260 rfl ?_
            refine k_iload (pc := 261) H d0_261 rfl ?_
            refine k_invS (y := (⟨"com/example/querent/querent/search/MarksMarkAllPinLaw", "bit", "(II)J"⟩ : MethodName)) (st := [(.long (wordB S' 0))]) [(.int (0 : Int32)), (.int x2)] 2 (pc := 263) H (wd hw 38 rfl) (wd hw 39 rfl) (wd hw 40 rfl) (wd hw 41 rfl) (by decide) (fun z0 => rm6 l Z a0 hw n0 hT z0 (0 : Int32) x2 0 p2 rfl hp2 (by decide)) (lenOf pd_3 rfl) d0_263 rfl rfl rfl (by decide) (by decide) (by decide) (by decide) ?_
            rintro v hx ⟨rfl, ex⟩
            rw [ex]
            clear ex hx
            show W l room_1 C _ hT 4 9 266 #[.val (.int a1), .val (.int b1), .val (.int c1), .val (.int d1), .val (.int e1), .val (.int f1), .val (.int x0), .val (.int x1), .val (.int x2), .val (.int x3), .val (.int fi), .val (.int ti), .val (.int xp), .val (.int (own_b pm)), .val (.ref b), .val (.ref m), .val (.ref d), .val (.long (wordB S' 0)), .second, .val (.long (wordB S' 1)), .second] [(.long (own_bi p2 0)), (.long (wordB S' 0))]
            refine k_lor (pc := 266) H d0_266 ?_
            refine k_lstore (pc := 267) H d0_267 (Ls' := #[.val (.int a1), .val (.int b1), .val (.int c1), .val (.int d1), .val (.int e1), .val (.int f1), .val (.int x0), .val (.int x1), .val (.int x2), .val (.int x3), .val (.int fi), .val (.int ti), .val (.int xp), .val (.int (own_b pm)), .val (.ref b), .val (.ref m), .val (.ref d), .val (.long ((wordB S' 0) ||| (own_bi p2 0))), .second, .val (.long (wordB S' 1)), .second]) rfl ?_
            refine k_lload (pc := 269) H d0_269 rfl ?_
            refine k_iconst (1 : Int32) (pc := 271) H d0_271 rfl ?_
            refine k_iload (pc := 272) H d0_272 rfl ?_
            refine k_invS (y := (⟨"com/example/querent/querent/search/MarksMarkAllPinLaw", "bit", "(II)J"⟩ : MethodName)) (st := [(.long (wordB S' 1))]) [(.int (1 : Int32)), (.int x2)] 2 (pc := 274) H (wd hw 38 rfl) (wd hw 39 rfl) (wd hw 40 rfl) (wd hw 41 rfl) (by decide) (fun z0 => rm6 l Z a0 hw n0 hT z0 (1 : Int32) x2 1 p2 rfl hp2 (by decide)) (lenOf pd_3 rfl) d0_274 rfl rfl rfl (by decide) (by decide) (by decide) (by decide) ?_
            rintro v hx ⟨rfl, ex⟩
            rw [ex]
            clear ex hx
            show W l room_1 C _ hT 4 9 277 #[.val (.int a1), .val (.int b1), .val (.int c1), .val (.int d1), .val (.int e1), .val (.int f1), .val (.int x0), .val (.int x1), .val (.int x2), .val (.int x3), .val (.int fi), .val (.int ti), .val (.int xp), .val (.int (own_b pm)), .val (.ref b), .val (.ref m), .val (.ref d), .val (.long ((wordB S' 0) ||| (own_bi p2 0))), .second, .val (.long (wordB S' 1)), .second] [(.long (own_bi p2 1)), (.long (wordB S' 1))]
            refine k_lor (pc := 277) H d0_277 ?_
            refine k_lstore (pc := 278) H d0_278 (Ls' := #[.val (.int a1), .val (.int b1), .val (.int c1), .val (.int d1), .val (.int e1), .val (.int f1), .val (.int x0), .val (.int x1), .val (.int x2), .val (.int x3), .val (.int fi), .val (.int ti), .val (.int xp), .val (.int (own_b pm)), .val (.ref b), .val (.ref m), .val (.ref d), .val (.long ((wordB S' 0) ||| (own_bi p2 0))), .second, .val (.long ((wordB S' 1) ||| (own_bi p2 1))), .second]) rfl ?_
            exact Q280 (p2 :: S') (by rw [own_yes (i := 2) (p := p2) (S := S') ⟨by have : ¬ 2 < f := fun z => k1 (g1.mpr z); omega, g2.mp k2⟩] at hS'; exact hS')
      have Q212 : ∀ (S' : List Nat) (hS' : (own_st f t 3 p3 (own_st f t 2 p2 (own_st f t 1 p1 S'))) = Mm), W l room_1 C (n0, 16, 128, fun v h => v = some (.int 1)) hT 4 9 212 #[.val (.int a1), .val (.int b1), .val (.int c1), .val (.int d1), .val (.int e1), .val (.int f1), .val (.int x0), .val (.int x1), .val (.int x2), .val (.int x3), .val (.int fi), .val (.int ti), .val (.int xp), .val (.int (own_b pm)), .val (.ref b), .val (.ref m), .val (.ref d), .val (.long (wordB S' 0)), .second, .val (.long (wordB S' 1)), .second] [] := by
        intro S' hS'
        have g1 := lt_nat (x := (1 : Int32)) (i := 1) rfl hf
        have g2 := lt_nat (x := (1 : Int32)) (i := 1) rfl ht
        refine k_iload (pc := 212) H d0_212 rfl ?_
        refine k_iconst (1 : Int32) (pc := 214) H d0_214 rfl ?_
        refine k_icmp (P := (1 : Int32) < fi) 246 (pc := 215) H d0_215 rfl XT.ii_gt_t XT.ii_gt_f (fun k1 => ?_) (fun k1 => ?_)
        · exact Q246 S' (by rw [own_no (i := 1) (p := p1) (S := S') (by have := g1.mp k1; omega)] at hS'; exact hS')
        · refine k_iconst (1 : Int32) (pc := 218) H d0_218 rfl ?_
          refine k_iload (pc := 219) H d0_219 rfl ?_
          refine k_icmpR (P := (1 : Int32) < ti) 246 (pc := 221) H d0_221 rfl XT.ii_ge_t XT.ii_ge_f (fun k2 => ?_) (fun k2 => ?_)
          · exact Q246 S' (by rw [own_no (i := 1) (p := p1) (S := S') (by have : ¬ 1 < t := fun z => k2 (g2.mpr z); omega)] at hS'; exact hS')
          · refine k_lload (pc := 224) H d0_224 rfl ?_
            refine k_iconst (0 : Int32) (pc := 226) H d0_226 rfl ?_
            refine k_iload (pc := 227) H d0_227 rfl ?_
            refine k_invS (y := (⟨"com/example/querent/querent/search/MarksMarkAllPinLaw", "bit", "(II)J"⟩ : MethodName)) (st := [(.long (wordB S' 0))]) [(.int (0 : Int32)), (.int x1)] 2 (pc := 229) H (wd hw 38 rfl) (wd hw 39 rfl) (wd hw 40 rfl) (wd hw 41 rfl) (by decide) (fun z0 => rm6 l Z a0 hw n0 hT z0 (0 : Int32) x1 0 p1 rfl hp1 (by decide)) (lenOf pd_3 rfl) d0_229 rfl rfl rfl (by decide) (by decide) (by decide) (by decide) ?_
            rintro v hx ⟨rfl, ex⟩
            rw [ex]
            clear ex hx
            show W l room_1 C _ hT 4 9 232 #[.val (.int a1), .val (.int b1), .val (.int c1), .val (.int d1), .val (.int e1), .val (.int f1), .val (.int x0), .val (.int x1), .val (.int x2), .val (.int x3), .val (.int fi), .val (.int ti), .val (.int xp), .val (.int (own_b pm)), .val (.ref b), .val (.ref m), .val (.ref d), .val (.long (wordB S' 0)), .second, .val (.long (wordB S' 1)), .second] [(.long (own_bi p1 0)), (.long (wordB S' 0))]
            refine k_lor (pc := 232) H d0_232 ?_
            refine k_lstore (pc := 233) H d0_233 (Ls' := #[.val (.int a1), .val (.int b1), .val (.int c1), .val (.int d1), .val (.int e1), .val (.int f1), .val (.int x0), .val (.int x1), .val (.int x2), .val (.int x3), .val (.int fi), .val (.int ti), .val (.int xp), .val (.int (own_b pm)), .val (.ref b), .val (.ref m), .val (.ref d), .val (.long ((wordB S' 0) ||| (own_bi p1 0))), .second, .val (.long (wordB S' 1)), .second]) rfl ?_
            refine k_lload (pc := 235) H d0_235 rfl ?_
            refine k_iconst (1 : Int32) (pc := 237) H d0_237 rfl ?_
            refine k_iload (pc := 238) H d0_238 rfl ?_
            refine k_invS (y := (⟨"com/example/querent/querent/search/MarksMarkAllPinLaw", "bit", "(II)J"⟩ : MethodName)) (st := [(.long (wordB S' 1))]) [(.int (1 : Int32)), (.int x1)] 2 (pc := 240) H (wd hw 38 rfl) (wd hw 39 rfl) (wd hw 40 rfl) (wd hw 41 rfl) (by decide) (fun z0 => rm6 l Z a0 hw n0 hT z0 (1 : Int32) x1 1 p1 rfl hp1 (by decide)) (lenOf pd_3 rfl) d0_240 rfl rfl rfl (by decide) (by decide) (by decide) (by decide) ?_
            rintro v hx ⟨rfl, ex⟩
            rw [ex]
            clear ex hx
            show W l room_1 C _ hT 4 9 243 #[.val (.int a1), .val (.int b1), .val (.int c1), .val (.int d1), .val (.int e1), .val (.int f1), .val (.int x0), .val (.int x1), .val (.int x2), .val (.int x3), .val (.int fi), .val (.int ti), .val (.int xp), .val (.int (own_b pm)), .val (.ref b), .val (.ref m), .val (.ref d), .val (.long ((wordB S' 0) ||| (own_bi p1 0))), .second, .val (.long (wordB S' 1)), .second] [(.long (own_bi p1 1)), (.long (wordB S' 1))]
            refine k_lor (pc := 243) H d0_243 ?_
            refine k_lstore (pc := 244) H d0_244 (Ls' := #[.val (.int a1), .val (.int b1), .val (.int c1), .val (.int d1), .val (.int e1), .val (.int f1), .val (.int x0), .val (.int x1), .val (.int x2), .val (.int x3), .val (.int fi), .val (.int ti), .val (.int xp), .val (.int (own_b pm)), .val (.ref b), .val (.ref m), .val (.ref d), .val (.long ((wordB S' 0) ||| (own_bi p1 0))), .second, .val (.long ((wordB S' 1) ||| (own_bi p1 1))), .second]) rfl ?_
            exact Q246 (p1 :: S') (by rw [own_yes (i := 1) (p := p1) (S := S') ⟨by have : ¬ 1 < f := fun z => k1 (g1.mpr z); omega, g2.mp k2⟩] at hS'; exact hS')
      have Q179 : ∀ (S' : List Nat) (hS' : (own_st f t 3 p3 (own_st f t 2 p2 (own_st f t 1 p1 (own_st f t 0 p0 S')))) = Mm), W l room_1 C (n0, 16, 128, fun v h => v = some (.int 1)) hT 4 9 179 #[.val (.int a1), .val (.int b1), .val (.int c1), .val (.int d1), .val (.int e1), .val (.int f1), .val (.int x0), .val (.int x1), .val (.int x2), .val (.int x3), .val (.int fi), .val (.int ti), .val (.int xp), .val (.int (own_b pm)), .val (.ref b), .val (.ref m), .val (.ref d), .val (.long (wordB S' 0)), .second, .val (.long (wordB S' 1)), .second] [] := by
        intro S' hS'
        have g1 := lt_nat (x := (0 : Int32)) (i := 0) rfl hf
        have g2 := lt_nat (x := (0 : Int32)) (i := 0) rfl ht
        refine k_iload (pc := 179) H d0_179 rfl ?_
        refine k_iff0 (P := 0 < fi) 212 (pc := 181) H d0_181 rfl XT.i0_gt_t XT.i0_gt_f (fun k1 => ?_) (fun k1 => ?_)
        · exact Q212 S' (by rw [own_no (i := 0) (p := p0) (S := S') (by have := g1.mp k1; omega)] at hS'; exact hS')
        · refine k_iconst (0 : Int32) (pc := 184) H d0_184 rfl ?_
          refine k_iload (pc := 185) H d0_185 rfl ?_
          refine k_icmpR (P := (0 : Int32) < ti) 212 (pc := 187) H d0_187 rfl XT.ii_ge_t XT.ii_ge_f (fun k2 => ?_) (fun k2 => ?_)
          · exact Q212 S' (by rw [own_no (i := 0) (p := p0) (S := S') (by have : ¬ 0 < t := fun z => k2 (g2.mpr z); omega)] at hS'; exact hS')
          · refine k_lload (pc := 190) H d0_190 rfl ?_
            refine k_iconst (0 : Int32) (pc := 192) H d0_192 rfl ?_
            refine k_iload (pc := 193) H d0_193 rfl ?_
            refine k_invS (y := (⟨"com/example/querent/querent/search/MarksMarkAllPinLaw", "bit", "(II)J"⟩ : MethodName)) (st := [(.long (wordB S' 0))]) [(.int (0 : Int32)), (.int x0)] 2 (pc := 195) H (wd hw 38 rfl) (wd hw 39 rfl) (wd hw 40 rfl) (wd hw 41 rfl) (by decide) (fun z0 => rm6 l Z a0 hw n0 hT z0 (0 : Int32) x0 0 p0 rfl hp0 (by decide)) (lenOf pd_3 rfl) d0_195 rfl rfl rfl (by decide) (by decide) (by decide) (by decide) ?_
            rintro v hx ⟨rfl, ex⟩
            rw [ex]
            clear ex hx
            show W l room_1 C _ hT 4 9 198 #[.val (.int a1), .val (.int b1), .val (.int c1), .val (.int d1), .val (.int e1), .val (.int f1), .val (.int x0), .val (.int x1), .val (.int x2), .val (.int x3), .val (.int fi), .val (.int ti), .val (.int xp), .val (.int (own_b pm)), .val (.ref b), .val (.ref m), .val (.ref d), .val (.long (wordB S' 0)), .second, .val (.long (wordB S' 1)), .second] [(.long (own_bi p0 0)), (.long (wordB S' 0))]
            refine k_lor (pc := 198) H d0_198 ?_
            refine k_lstore (pc := 199) H d0_199 (Ls' := #[.val (.int a1), .val (.int b1), .val (.int c1), .val (.int d1), .val (.int e1), .val (.int f1), .val (.int x0), .val (.int x1), .val (.int x2), .val (.int x3), .val (.int fi), .val (.int ti), .val (.int xp), .val (.int (own_b pm)), .val (.ref b), .val (.ref m), .val (.ref d), .val (.long ((wordB S' 0) ||| (own_bi p0 0))), .second, .val (.long (wordB S' 1)), .second]) rfl ?_
            refine k_lload (pc := 201) H d0_201 rfl ?_
            refine k_iconst (1 : Int32) (pc := 203) H d0_203 rfl ?_
            refine k_iload (pc := 204) H d0_204 rfl ?_
            refine k_invS (y := (⟨"com/example/querent/querent/search/MarksMarkAllPinLaw", "bit", "(II)J"⟩ : MethodName)) (st := [(.long (wordB S' 1))]) [(.int (1 : Int32)), (.int x0)] 2 (pc := 206) H (wd hw 38 rfl) (wd hw 39 rfl) (wd hw 40 rfl) (wd hw 41 rfl) (by decide) (fun z0 => rm6 l Z a0 hw n0 hT z0 (1 : Int32) x0 1 p0 rfl hp0 (by decide)) (lenOf pd_3 rfl) d0_206 rfl rfl rfl (by decide) (by decide) (by decide) (by decide) ?_
            rintro v hx ⟨rfl, ex⟩
            rw [ex]
            clear ex hx
            show W l room_1 C _ hT 4 9 209 #[.val (.int a1), .val (.int b1), .val (.int c1), .val (.int d1), .val (.int e1), .val (.int f1), .val (.int x0), .val (.int x1), .val (.int x2), .val (.int x3), .val (.int fi), .val (.int ti), .val (.int xp), .val (.int (own_b pm)), .val (.ref b), .val (.ref m), .val (.ref d), .val (.long ((wordB S' 0) ||| (own_bi p0 0))), .second, .val (.long (wordB S' 1)), .second] [(.long (own_bi p0 1)), (.long (wordB S' 1))]
            refine k_lor (pc := 209) H d0_209 ?_
            refine k_lstore (pc := 210) H d0_210 (Ls' := #[.val (.int a1), .val (.int b1), .val (.int c1), .val (.int d1), .val (.int e1), .val (.int f1), .val (.int x0), .val (.int x1), .val (.int x2), .val (.int x3), .val (.int fi), .val (.int ti), .val (.int xp), .val (.int (own_b pm)), .val (.ref b), .val (.ref m), .val (.ref d), .val (.long ((wordB S' 0) ||| (own_bi p0 0))), .second, .val (.long ((wordB S' 1) ||| (own_bi p0 1))), .second]) rfl ?_
            exact Q212 (p0 :: S') (by rw [own_yes (i := 0) (p := p0) (S := S') ⟨by have : ¬ 0 < f := fun z => k1 (g1.mpr z); omega, g2.mp k2⟩] at hS'; exact hS')
      refine k_iload (pc := 152) H d0_152 rfl ?_
      refine k_iff0 (P := (own_b pm) = 0) 179 (pc := 154) H d0_154 rfl XT.i0_eq_t XT.i0_eq_f (fun c0 => ?_) (fun c0 => ?_)
      · rw [own_b0] at c0
        exact Q179 [] (by rw [hM, hS, c0]; rfl)
      · refine k_lload (pc := 157) H d0_157 rfl ?_
        refine k_iconst (0 : Int32) (pc := 159) H d0_159 rfl ?_
        refine k_iload (pc := 160) H d0_160 rfl ?_
        refine k_invS (y := (⟨"com/example/querent/querent/search/MarksMarkAllPinLaw", "bit", "(II)J"⟩ : MethodName)) (st := [(.long (0 : Int64))]) [(.int (0 : Int32)), (.int xp)] 2 (pc := 162) H (wd hw 38 rfl) (wd hw 39 rfl) (wd hw 40 rfl) (wd hw 41 rfl) (by decide) (fun z0 => rm6 l Z a0 hw n0 hT z0 (0 : Int32) xp 0 pp rfl hpp (by decide)) (lenOf pd_3 rfl) d0_162 rfl rfl rfl (by decide) (by decide) (by decide) (by decide) ?_
        rintro v hx ⟨rfl, ex⟩
        rw [ex]
        clear ex hx
        show W l room_1 C _ hT 4 9 165 #[.val (.int a1), .val (.int b1), .val (.int c1), .val (.int d1), .val (.int e1), .val (.int f1), .val (.int x0), .val (.int x1), .val (.int x2), .val (.int x3), .val (.int fi), .val (.int ti), .val (.int xp), .val (.int (own_b pm)), .val (.ref b), .val (.ref m), .val (.ref d), .val (.long (0 : Int64)), .second, .val (.long (0 : Int64)), .second] [(.long (own_bi pp 0)), (.long (0 : Int64))]
        refine k_lor (pc := 165) H d0_165 ?_
        refine k_lstore (pc := 166) H d0_166 (Ls' := #[.val (.int a1), .val (.int b1), .val (.int c1), .val (.int d1), .val (.int e1), .val (.int f1), .val (.int x0), .val (.int x1), .val (.int x2), .val (.int x3), .val (.int fi), .val (.int ti), .val (.int xp), .val (.int (own_b pm)), .val (.ref b), .val (.ref m), .val (.ref d), .val (.long ((0 : Int64) ||| (own_bi pp 0))), .second, .val (.long (0 : Int64)), .second]) rfl ?_
        refine k_lload (pc := 168) H d0_168 rfl ?_
        refine k_iconst (1 : Int32) (pc := 170) H d0_170 rfl ?_
        refine k_iload (pc := 171) H d0_171 rfl ?_
        refine k_invS (y := (⟨"com/example/querent/querent/search/MarksMarkAllPinLaw", "bit", "(II)J"⟩ : MethodName)) (st := [(.long (0 : Int64))]) [(.int (1 : Int32)), (.int xp)] 2 (pc := 173) H (wd hw 38 rfl) (wd hw 39 rfl) (wd hw 40 rfl) (wd hw 41 rfl) (by decide) (fun z0 => rm6 l Z a0 hw n0 hT z0 (1 : Int32) xp 1 pp rfl hpp (by decide)) (lenOf pd_3 rfl) d0_173 rfl rfl rfl (by decide) (by decide) (by decide) (by decide) ?_
        rintro v hx ⟨rfl, ex⟩
        rw [ex]
        clear ex hx
        show W l room_1 C _ hT 4 9 176 #[.val (.int a1), .val (.int b1), .val (.int c1), .val (.int d1), .val (.int e1), .val (.int f1), .val (.int x0), .val (.int x1), .val (.int x2), .val (.int x3), .val (.int fi), .val (.int ti), .val (.int xp), .val (.int (own_b pm)), .val (.ref b), .val (.ref m), .val (.ref d), .val (.long ((0 : Int64) ||| (own_bi pp 0))), .second, .val (.long (0 : Int64)), .second] [(.long (own_bi pp 1)), (.long (0 : Int64))]
        refine k_lor (pc := 176) H d0_176 ?_
        refine k_lstore (pc := 177) H d0_177 (Ls' := #[.val (.int a1), .val (.int b1), .val (.int c1), .val (.int d1), .val (.int e1), .val (.int f1), .val (.int x0), .val (.int x1), .val (.int x2), .val (.int x3), .val (.int fi), .val (.int ti), .val (.int xp), .val (.int (own_b pm)), .val (.ref b), .val (.ref m), .val (.ref d), .val (.long ((0 : Int64) ||| (own_bi pp 0))), .second, .val (.long ((0 : Int64) ||| (own_bi pp 1))), .second]) rfl ?_
        rw [own_b0] at c0
        exact Q179 [pp] (by rw [hM, hS]; cases pm <;> simp_all)
    refine k_iff0 (P := (own_b pm) = 0) 119 (pc := 108) H d0_108 rfl XT.i0_eq_t XT.i0_eq_f (fun c0 => ?_) (fun c0 => ?_)
    · rw [own_b0] at c0
      exact J119 _ [] XM FW XA V VB2 (by rw [c0]; rfl)
    · refine k_aload (pc := 111) H d0_111 rfl rfl ?_
      refine k_iload (pc := 113) H d0_113 rfl ?_
      refine k_invV (y := (⟨"com/example/querent/querent/search/Positions$Marks", "mark", "(I)Z"⟩ : MethodName)) (st := []) (a := m) [(.int xp)] 0 (pc := 115) H (wd hw 33 rfl) (wd hw 34 rfl) (wd hw 36 rfl) (wd hw 35 rfl) (wd hw 4 rfl) (wd hw 37 rfl) rfl (by decide) XM (fun z0 => rm5 l Z a0 hw n0 hA z0 m a [] 2 xp pp ga nma XM FW XA V hpp (by omega)) (lenOf pd_4 rfl) d0_115 rfl rfl rfl (by decide) (by decide) (by decide) (by decide) ?_
      rintro v hM1 ⟨rfl, K1, V1⟩
      show W l room_1 C _ hM1 3 7 118 #[.val (.int a1), .val (.int b1), .val (.int c1), .val (.int d1), .val (.int e1), .val (.int f1), .val (.int x0), .val (.int x1), .val (.int x2), .val (.int x3), .val (.int fi), .val (.int ti), .val (.int xp), .val (.int (own_b pm)), .val (.ref b), .val (.ref m), .unset, .unset, .unset, .unset, .unset] [(.int (own_b (decide (pp ∉ ([] : List Nat)))))]
      refine k_pop (pc := 118) H d0_118 rfl ?_
      rw [own_b0] at c0
      exact J119 _ [pp] (XM.keep K1) (FW.keep K1 (ninS nma nin0)) (XA.keep K1) V1 (VB2.keep K1 (ninS nab nin0)) (by cases pm <;> simp_all)
  refine k_iff0 (P := ((XT.ushr f1 (7 : Int32)) &&& (1 : Int32)) = 0) 66 (pc := 59) H d0_59 rfl XT.i0_eq_t XT.i0_eq_f (fun c9 => ?_) (fun c9 => ?_)
  · refine k_iconst (0 : Int32) (pc := 66) H d0_66 rfl ?_
    exact J67 false
  · refine k_iconst (1 : Int32) (pc := 62) H d0_62 rfl ?_
    refine k_goto 67 (pc := 63) H d0_63 rfl ?_
    exact J67 true
set_option maxRecDepth 65536 in
set_option maxHeartbeats 40000000 in
theorem comes_1 {Post : Tables → Env → Array Value → State → Outcome → State → Prop} (hpost : ∀ tb e args s v u, (limb_1_1.after args s (.returned v) u = true ∧ limb_1_2.after args s (.returned v) u = true ∧ True) → FrameEnd s (.returned v) u (Jvm.fieldLocs frame_1_writes args s ++ Jvm.arrayLocs frame_1_arrays args s ++ Jvm.staticLocs frame_1_statics s) 16 128 → Post tb e args s (.returned v) u) :
    ArmFor flags0 classFile x code maxLocals ret World_1 tables_1 room_1 Calls_1 rest_1 Pre_1 Post := by
  intro l hfl _ _ p e ha hc hk s m args below hf hA hF happ hP
  obtain ⟨hcalls, hrest, hpre⟩ := hP
  obtain ⟨-, -, -, hnamed, -, -, -, hat⟩ := (Spec.applies_iff hf).mp happ
  obtain ⟨hg, hn⟩ := and_e (Cond.before_iff.mp (show (Jvm.Cond.and given_1 narrow_1).before args s = true from hpre))
  obtain ⟨hcnt, g0⟩ := and_e hg
  obtain ⟨q0, g1⟩ := and_e g0
  obtain ⟨q1, g2⟩ := and_e g1
  obtain ⟨q2, g3⟩ := and_e g2
  obtain ⟨q3, g4⟩ := and_e g3
  obtain ⟨q4, g5⟩ := and_e g4
  obtain ⟨w0, w1, w2, w3, w4, w5, rfl⟩ : ∃ w0 w1 w2 w3 w4 w5 : Value, args = #[w0, w1, w2, w3, w4, w5] := by
    have hs : args.size = 6 := by simpa [Cond.value, given_1] using hcnt
    obtain ⟨L⟩ := args
    match L, hs with
    | [w0, w1, w2, w3, w4, w5], _ => exact ⟨w0, w1, w2, w3, w4, w5, rfl⟩
  have hw := fun d (hd : d ∈ tables_1) => atoms_spec (ws := Jvm.Cond.code x code maxLocals ret :: tables_1) hat d (List.mem_cons_of_mem _ hd)
  obtain ⟨i0, e0⟩ := is_v q0
  obtain rfl : w0 = (.int i0) := Option.some.inj e0
  obtain ⟨i1, e1⟩ := is_v q1
  obtain rfl : w1 = (.int i1) := Option.some.inj e1
  obtain ⟨i2, e2⟩ := is_v q2
  obtain rfl : w2 = (.int i2) := Option.some.inj e2
  obtain ⟨i3, e3⟩ := is_v q3
  obtain rfl : w3 = (.int i3) := Option.some.inj e3
  obtain ⟨i4, e4⟩ := is_v q4
  obtain rfl : w4 = (.int i4) := Option.some.inj e4
  obtain ⟨i5, e5⟩ := is_v g5
  obtain rfl : w5 = (.int i5) := Option.some.inj e5
  obtain ⟨n, o, h1, h2, h3, _, L, rfl, ⟨rfl, N⟩, hq⟩ := rm0 l s _ hw tables_1 s.heap.size s.heap (Nat.le_refl _) i0 i1 i2 i3 i4 i5  p e ha hc hk s m _ below hf ((Spec.applies_iff_loose hf).mp happ).1 ⟨rfl, State.Warmed39.refl s, rfl⟩ trivial
  refine ⟨n, _, h1, h2, h3, hpost _ _ _ _ _ _ ⟨Cond.after_iff.mpr rfl, Cond.after_iff.mpr (eq_i res_at (Term.int_eval (1)) rfl), trivial⟩ ⟨hq.1, hq.2.1, (hq.2.2.sift fun y hy => Or.inr (N y hy)).mono (by decide) (by decide)⟩⟩
theorem main_1_1 : Claimed_1_1 := comes_1 fun _ _ _ _ _ _ h hF => ⟨h.1, hF⟩
theorem main_1_2 : Claimed_1_2 := comes_1 fun _ _ _ _ _ _ h hF => ⟨h.2.1, hF⟩
end Jvm.Pilot.@@N@@
namespace Jvm.Pilot.@@N@@
open Jvm Jvm.ClassFile Sem Op Lib Jvm.Free Jvm.Stand Jvm.Pilot.@@N@@.Jvm.D
/-! MADE BY PROGRAM (witnessworld.py) out of the Statement's table words and the real class files: 11 classes; the members and pool entries that the words name. The judged class is class 1, her method 1. -/
namespace start1
open Jvm.ClassFile
def u (s : String) : CpInfo := .utf8 (stringToUtf16 s)
/-- a pool by its gaps: so many unusable entries, then the entry; so many at the end -/
def gap : Nat → List CpInfo → List CpInfo
  | 0, r => r
  | n + 1, r => .unusable :: gap n r
def poolList (es : List (Nat × CpInfo)) (last : Nat) : List CpInfo := es.foldr (fun e r => gap e.1 (e.2 :: r)) (gap last [])
def pool (es : List (Nat × CpInfo)) (last : Nat) : Array CpInfo := ⟨poolList es last⟩
def fileOf (pool : Array CpInfo) (this : Nat) (attrs : Array Attribute := #[]) (ms : Array MethodInfo := #[]) (fl : Nat := 33) (sup : Nat := 0) (ifs : Array Nat := #[]) (fds : Array FieldInfo := #[]) : ClassFile where
  minorVersion := 0
  majorVersion := 65
  constantPool := pool
  accessFlags := fl
  thisClass := this
  superClass := sup
  interfaces := ifs
  fields := fds
  methods := ms
  attributes := attrs
def plain (name : String) (sup : Option ClassId) : Class where
  name := name
  kind := .ordinary
  loader := none
  accessFlags := 33
  super := sup
  interfaces := #[]
  cf := none
  fields := #[]
  methods := #[]
  instanceTypes := #[]
  staticTypes := #[]
  resolved := #[]
  callSites := []
  init := .initialized
  statics := none
  mirror := none

def pool0 : Array CpInfo := pool [(5, u "<init>"), (0, u "()V"), (1, .class_ 10), (1, u "java/lang/Object"), (85, u "clone"), (0, u "()Ljava/lang/Object;")] 26

def k0c0 : Code := { maxStack := 0, maxLocals := 1, code := object_method_1_code, exceptionTable := #[], attributes := #[] }
def k0m0 : Method := { name := "<init>", desc := "()V", sig := { parameters := [], returnType := none }, accessFlags := 1, code := some k0c0 }
def k0m1 : Method := { name := "clone", desc := "()Ljava/lang/Object;", sig := { parameters := [], returnType := some (.object "java/lang/Object") }, accessFlags := 260, code := none }
/-- java/lang/Object -/
def k0 : Class := { plain "java/lang/Object" none with
  accessFlags := 33
  interfaces := #[]
  cf := some (fileOf pool0 8 #[] #[{ accessFlags := 1, nameIndex := 5, descriptorIndex := 6, attributes := #[] }, { accessFlags := 260, nameIndex := 96, descriptorIndex := 97, attributes := #[] }] 33 0 #[] #[])
  fields := #[]
  methods := #[k0m0, k0m1]
  instanceTypes := #[]
  staticTypes := #[]
  resolved := Array.replicate 124 none
  statics := none }

def pool1 : Array CpInfo := pool [(2, .class_ 4), (1, u "java/lang/Object"), (0, u "<init>"), (0, u "()V"), (0, .integer 2147483647), (0, .class_ 9), (0, u "com/example/querent/querent/search/Positions$Marks"), (0, .methodref 8 11), (0, .nameAndType 5 12), (0, u "(I)V"), (0, .methodref 8 14), (0, .nameAndType 15 16), (0, u "mark"), (0, u "(I)Z"), (0, .methodref 8 18), (0, .nameAndType 19 20), (0, u "markAll"), (0, u "([III)V"), (0, .methodref 8 22), (0, .nameAndType 23 24), (0, u "toWords"), (0, u "()[J"), (0, .methodref 26 27), (0, .class_ 28), (0, .nameAndType 29 30), (0, u "com/example/querent/querent/search/MarksMarkAllPinLaw"), (0, u "bit"), (0, u "(II)J"), (2, u "law"), (0, u "(IIIIII)Z")] 11

def k1m0 : Method := { name := "<init>", desc := "()V", sig := { parameters := [], returnType := none }, accessFlags := 2, code := none }
def k1c1 : Code := { maxStack := 4, maxLocals := 21, code := code, exceptionTable := #[], attributes := #[] }
def k1m1 : Method := { name := "law", desc := "(IIIIII)Z", sig := { parameters := [.int, .int, .int, .int, .int, .int], returnType := some .boolean }, accessFlags := 9, code := some k1c1 }
def k1c2 : Code := { maxStack := 4, maxLocals := 3, code := method_3_code, exceptionTable := #[], attributes := #[] }
def k1m2 : Method := { name := "bit", desc := "(II)J", sig := { parameters := [.int, .int], returnType := some .long }, accessFlags := 10, code := some k1c2 }
/-- com/example/querent/querent/search/MarksMarkAllPinLaw -/
def k1 : Class := { plain "com/example/querent/querent/search/MarksMarkAllPinLaw" (some 0) with
  accessFlags := 49
  interfaces := #[]
  cf := some (fileOf pool1 26 #[] #[{ accessFlags := 2, nameIndex := 5, descriptorIndex := 6, attributes := #[] }, { accessFlags := 9, nameIndex := 33, descriptorIndex := 34, attributes := #[] }, { accessFlags := 10, nameIndex := 29, descriptorIndex := 30, attributes := #[] }] 49 2 #[] #[])
  fields := #[]
  methods := #[k1m0, k1m1, k1m2]
  instanceTypes := #[]
  staticTypes := #[]
  resolved := Array.replicate 46 none
  statics := none }

def pool2 : Array CpInfo := pool [(1, .methodref 2 3), (0, .class_ 4), (0, .nameAndType 5 6), (0, u "java/lang/Object"), (0, u "<init>"), (0, u "()V"), (2, .fieldref 10 11), (0, .class_ 12), (0, .nameAndType 13 14), (0, u "com/example/querent/querent/search/Positions$Marks"), (0, u "words"), (0, u "[J"), (2, u "markAll"), (0, u "([III)V"), (0, .methodref 20 21), (0, .class_ 14), (0, .nameAndType 22 23), (0, u "clone"), (0, u "()Ljava/lang/Object;"), (1, .class_ 27), (1, u "com/example/querent/querent/search/Positions"), (2, u "(I)V"), (2, u "mark"), (0, u "(I)Z"), (3, u "toWords"), (0, u "()[J")] 7

def k2c0 : Code := { maxStack := 3, maxLocals := 2, code := prog_37_method_1_code, exceptionTable := #[], attributes := #[] }
def k2m0 : Method := { name := "<init>", desc := "(I)V", sig := { parameters := [.int], returnType := none }, accessFlags := 0, code := some k2c0 }
def k2c1 : Code := { maxStack := 6, maxLocals := 5, code := prog_37_method_2_code, exceptionTable := #[], attributes := #[] }
def k2m1 : Method := { name := "mark", desc := "(I)Z", sig := { parameters := [.int], returnType := some .boolean }, accessFlags := 0, code := some k2c1 }
def k2c2 : Code := { maxStack := 7, maxLocals := 6, code := prog_37_method_4_code, exceptionTable := #[], attributes := #[] }
def k2m2 : Method := { name := "markAll", desc := "([III)V", sig := { parameters := [(.array .int), .int, .int], returnType := none }, accessFlags := 0, code := some k2c2 }
def k2c3 : Code := { maxStack := 1, maxLocals := 1, code := prog_37_method_6_code, exceptionTable := #[], attributes := #[] }
def k2m3 : Method := { name := "toWords", desc := "()[J", sig := { parameters := [], returnType := some (.array .long) }, accessFlags := 0, code := some k2c3 }
/-- com/example/querent/querent/search/Positions$Marks -/
def k2 : Class := { plain "com/example/querent/querent/search/Positions$Marks" (some 0) with
  accessFlags := 48
  interfaces := #[]
  cf := some (fileOf pool2 10 #[.nestHost 25] #[{ accessFlags := 0, nameIndex := 5, descriptorIndex := 30, attributes := #[] }, { accessFlags := 0, nameIndex := 33, descriptorIndex := 34, attributes := #[] }, { accessFlags := 0, nameIndex := 17, descriptorIndex := 18, attributes := #[] }, { accessFlags := 0, nameIndex := 38, descriptorIndex := 39, attributes := #[] }] 48 2 #[] #[{ accessFlags := 18, nameIndex := 13, descriptorIndex := 14, attributes := #[] }])
  fields := #[{ name := "words", type := (.array .long), accessFlags := 18, slot := 0, constantValue := 0 }]
  methods := #[k2m0, k2m1, k2m2, k2m3]
  instanceTypes := #[(.array .long)]
  staticTypes := #[]
  resolved := Array.replicate 47 none
  statics := none }

def pool3 : Array CpInfo := pool [(1, .class_ 2), (0, u "java/lang/Cloneable"), (0, .class_ 4), (0, u "java/lang/Object")] 2

/-- java/lang/Cloneable -/
def k3 : Class := { plain "java/lang/Cloneable" (some 0) with
  accessFlags := 1537
  interfaces := #[]
  cf := some (fileOf pool3 1 #[] #[] 1537 3 #[] #[])
  fields := #[]
  methods := #[]
  instanceTypes := #[]
  staticTypes := #[]
  resolved := Array.replicate 7 none
  statics := none }

def pool4 : Array CpInfo := pool [(1, u "java/io/Serializable"), (0, .class_ 1), (0, u "java/lang/Object"), (0, .class_ 3)] 3

/-- java/io/Serializable -/
def k4 : Class := { plain "java/io/Serializable" (some 0) with
  accessFlags := 1537
  interfaces := #[]
  cf := some (fileOf pool4 2 #[] #[] 1537 4 #[] #[])
  fields := #[]
  methods := #[]
  instanceTypes := #[]
  staticTypes := #[]
  resolved := Array.replicate 8 none
  statics := none }

/-- the primitive byte -/
def k5 : Class := { plain "byte" none with kind := .primitive 'B', accessFlags := 0x411 }
/-- [B -/
def k6 : Class := { plain "[B" (some 0) with kind := .array 5 .byte, interfaces := #[3, 4], accessFlags := 1041 }

/-- the primitive int -/
def k7 : Class := { plain "int" none with kind := .primitive 'I', accessFlags := 0x411 }
/-- [I -/
def k8 : Class := { plain "[I" (some 0) with kind := .array 7 .int, interfaces := #[3, 4], accessFlags := 1041 }

/-- the primitive long -/
def k9 : Class := { plain "long" none with kind := .primitive 'J', accessFlags := 0x411 }
/-- [J -/
def k10 : Class := { plain "[J" (some 0) with kind := .array 9 .long, interfaces := #[3, 4], accessFlags := 1041 }

def heap : Heap := #[]
def classes : Array Class := #[k0, k1, k2, k3, k4, k5, k6, k7, k8, k9, k10]
def interned : List (Array UInt16 × Addr) := []
def slotsUsed : Nat := 0
def theMethod : MethodId := ⟨1, 1⟩
def args0 : Array Value := #[.int 1, .int 2, .int 3, .int 4, .int 1025, .int 130]
def aboutOver (below : List Frame) : State where
  vm := { classes := classes, interned := interned.toArray }
  heap := heap
  slotsUsed := slotsUsed
  threads := #[{ frames := .invoking theMethod args0 :: below }]
def below0 : List Frame := [.native { method := ⟨0, 0⟩, args := #[] }]
def about1 : State := aboutOver below0
def p0 : Program := .bare "" "" ""
def e0 : Env := launch0.env 0 0 0
theorem w_frames : about1.frames = Frame.invoking theMethod args0 :: below0 := rfl
set_option maxRecDepth 65536 in
theorem w_args : argsFit about1.vm theMethod args0 = true := by decide +kernel
set_option maxRecDepth 65536 in
theorem w_heap : heapFits about1 = true := by decide +kernel
set_option maxRecDepth 65536 in
theorem w_runnable : about1.curStatus? = some .runnable := by decide +kernel
set_option maxRecDepth 65536 in
theorem w_alone : about1.alone = true := by decide +kernel
set_option maxRecDepth 65536 in
theorem w_named : about1.methodNamed? x = some theMethod := by decide +kernel
set_option maxRecDepth 65536 in
theorem w_hears : about1.hears theMethod below0 = true := by decide +kernel
set_option maxRecDepth 65536 in
theorem w_ripe : about1.ripe theMethod args0 below0 = true := by decide +kernel
theorem w_running : about1.status = .running := rfl
set_option maxRecDepth 65536 in
theorem w_room : about1.hasRoom e0.platform room_1 = true :=
  launch0.hasRoom_least _ room_1 (by decide +kernel) (by decide +kernel) (by decide +kernel) (by decide +kernel) (by decide +kernel) (by decide +kernel)
theorem allAtoms_all (ts : List Jvm.Cond) (a : Array Jvm.Value) (st : Jvm.State) : (allAtoms ts).before a st = ts.all (fun c => c.before a st) := by
  induction ts with
  | nil => rfl
  | cons c t ih =>
    show (Jvm.Cond.and c (allAtoms t)).before a st = _
    rw [Jvm.Cond.before_and, ih, List.all_cons]
def words1 : List Jvm.Cond := Jvm.Cond.code x code maxLocals ret :: tables_1
/-- a 'code' word, met by the world's own term for the bytes: nothing is compared byte by byte -/
theorem code_word {y : MethodName} {bytes : ByteArray} {mx : Nat} {rt : Option FieldType} {a : Array Value} {s : State} {m : MethodId} {meth : Method} {c : Code} (h1 : s.methodNamed? y = some m) (h2 : s.vm.method? m = some meth) (h3 : meth.code = some c) (h4 : c.code = bytes)
    (h5 : (c.maxLocals == mx && c.exceptionTable.isEmpty && decide (c.maxStack ≤ mostOperands) && decide (meth.sig.returnType = rt) && !meth.locks && decide (parseMethodDescriptor y.desc = some meth.sig)) = true) : (Jvm.Cond.code y bytes mx rt).before a s = true := by
  simp only [Bool.and_eq_true, beq_iff_eq, Bool.not_eq_true', decide_eq_true_eq] at h5
  obtain ⟨⟨⟨⟨⟨g1, g2⟩, g3⟩, g4⟩, g5⟩, g6⟩ := h5
  simp [Cond.before, Cond.holds, Cond.value, h1, h2, h3, h4, g1, g2, g3, g4, g5, g6]
def isCode : Jvm.Cond → Bool
  | .code _ _ _ _ => true
  | _ => false
theorem all_split {L : List Jvm.Cond} {P : Jvm.Cond → Bool} (h1 : L.all (fun c => isCode c || P c) = true) (h2 : ∀ c ∈ L.filter isCode, P c = true) : L.all P = true := by
  refine List.all_eq_true.mpr fun c hc => ?_
  have h := List.all_eq_true.mp h1 c hc
  rcases Bool.eq_false_or_eq_true (isCode c) with hi | hi
  · exact h2 c (List.mem_filter.mpr ⟨hc, hi⟩)
  · simpa [hi] using h
set_option maxRecDepth 65536 in
theorem w_c0 : (Jvm.Cond.code x code maxLocals ret).before args0 about1 = true := code_word (m := ⟨1, 1⟩) (meth := k1m1) (c := k1c1) (by decide +kernel) rfl rfl rfl (by decide +kernel)
set_option maxRecDepth 65536 in
theorem w_c1 : (Jvm.Cond.code ({ cls := "com/example/querent/querent/search/Positions$Marks", name := "<init>", desc := "(I)V" } : Jvm.MethodName) prog_37_method_1_code (2 : Nat) (Option.none : Option Jvm.ClassFile.FieldType)).before args0 about1 = true := code_word (m := ⟨2, 0⟩) (meth := k2m0) (c := k2c0) (by decide +kernel) rfl rfl rfl (by decide +kernel)
set_option maxRecDepth 65536 in
theorem w_c2 : (Jvm.Cond.code ({ cls := "java/lang/Object", name := "<init>", desc := "()V" } : Jvm.MethodName) object_method_1_code (1 : Nat) (Option.none : Option Jvm.ClassFile.FieldType)).before args0 about1 = true := code_word (m := ⟨0, 0⟩) (meth := k0m0) (c := k0c0) (by decide +kernel) rfl rfl rfl (by decide +kernel)
set_option maxRecDepth 65536 in
theorem w_c3 : (Jvm.Cond.code ({ cls := "com/example/querent/querent/search/Positions$Marks", name := "markAll", desc := "([III)V" } : Jvm.MethodName) prog_37_method_4_code (6 : Nat) (Option.none : Option Jvm.ClassFile.FieldType)).before args0 about1 = true := code_word (m := ⟨2, 2⟩) (meth := k2m2) (c := k2c2) (by decide +kernel) rfl rfl rfl (by decide +kernel)
set_option maxRecDepth 65536 in
theorem w_c4 : (Jvm.Cond.code ({ cls := "com/example/querent/querent/search/Positions$Marks", name := "toWords", desc := "()[J" } : Jvm.MethodName) prog_37_method_6_code (1 : Nat) (Option.some (Jvm.ClassFile.FieldType.array Jvm.ClassFile.FieldType.long))).before args0 about1 = true := code_word (m := ⟨2, 3⟩) (meth := k2m3) (c := k2c3) (by decide +kernel) rfl rfl rfl (by decide +kernel)
set_option maxRecDepth 65536 in
theorem w_c5 : (Jvm.Cond.code ({ cls := "com/example/querent/querent/search/Positions$Marks", name := "mark", desc := "(I)Z" } : Jvm.MethodName) prog_37_method_2_code (5 : Nat) (Option.some Jvm.ClassFile.FieldType.boolean)).before args0 about1 = true := code_word (m := ⟨2, 1⟩) (meth := k2m1) (c := k2c1) (by decide +kernel) rfl rfl rfl (by decide +kernel)
set_option maxRecDepth 65536 in
theorem w_c6 : (Jvm.Cond.code ({ cls := "com/example/querent/querent/search/MarksMarkAllPinLaw", name := "bit", desc := "(II)J" } : Jvm.MethodName) method_3_code (3 : Nat) (Option.some Jvm.ClassFile.FieldType.long)).before args0 about1 = true := code_word (m := ⟨1, 2⟩) (meth := k1m2) (c := k1c2) (by decide +kernel) rfl rfl rfl (by decide +kernel)
def codes1 : List Jvm.Cond := [Jvm.Cond.code x code maxLocals ret, Jvm.Cond.code ({ cls := "com/example/querent/querent/search/Positions$Marks", name := "<init>", desc := "(I)V" } : Jvm.MethodName) prog_37_method_1_code (2 : Nat) (Option.none : Option Jvm.ClassFile.FieldType), Jvm.Cond.code ({ cls := "java/lang/Object", name := "<init>", desc := "()V" } : Jvm.MethodName) object_method_1_code (1 : Nat) (Option.none : Option Jvm.ClassFile.FieldType), Jvm.Cond.code ({ cls := "com/example/querent/querent/search/Positions$Marks", name := "markAll", desc := "([III)V" } : Jvm.MethodName) prog_37_method_4_code (6 : Nat) (Option.none : Option Jvm.ClassFile.FieldType), Jvm.Cond.code ({ cls := "com/example/querent/querent/search/Positions$Marks", name := "toWords", desc := "()[J" } : Jvm.MethodName) prog_37_method_6_code (1 : Nat) (Option.some (Jvm.ClassFile.FieldType.array Jvm.ClassFile.FieldType.long)), Jvm.Cond.code ({ cls := "com/example/querent/querent/search/Positions$Marks", name := "mark", desc := "(I)Z" } : Jvm.MethodName) prog_37_method_2_code (5 : Nat) (Option.some Jvm.ClassFile.FieldType.boolean), Jvm.Cond.code ({ cls := "com/example/querent/querent/search/MarksMarkAllPinLaw", name := "bit", desc := "(II)J" } : Jvm.MethodName) method_3_code (3 : Nat) (Option.some Jvm.ClassFile.FieldType.long)]
set_option maxRecDepth 65536 in
theorem codes_eq : words1.filter isCode = codes1 := rfl
theorem w_codes : ∀ c ∈ words1.filter isCode, c.before args0 about1 = true := by
  rw [codes_eq]
  intro c hc
  simp only [codes1, List.mem_cons, List.not_mem_nil, or_false] at hc
  rcases hc with rfl | rfl | rfl | rfl | rfl | rfl | rfl
  · exact w_c0
  · exact w_c1
  · exact w_c2
  · exact w_c3
  · exact w_c4
  · exact w_c5
  · exact w_c6
set_option maxRecDepth 65536 in
theorem w_t1 : (words1.take 24).all (fun c => isCode c || c.before args0 about1) = true := by decide +kernel
set_option maxRecDepth 65536 in
theorem w_t2 : (words1.drop 24).all (fun c => isCode c || c.before args0 about1) = true := by decide +kernel
theorem w_tables : (allAtoms (Jvm.Cond.code x code maxLocals ret :: tables_1)).before args0 about1 = true := by
  rw [allAtoms_all]
  show words1.all (fun c => c.before args0 about1) = true
  refine all_split ?_ w_codes
  rw [← List.take_append_drop 24 words1, List.all_append, w_t1, w_t2]
  rfl
set_option maxRecDepth 65536 in
theorem w_case : (Jvm.Cond.and given_1 narrow_1).before args0 about1 = true := by decide +kernel
theorem w_applies : (headSpec (Jvm.Cond.code x code maxLocals ret :: tables_1) room_1).applies x e0.platform about1 = true :=
  (Spec.applies_iff w_frames).mpr ⟨w_running, w_runnable, w_alone, w_named, w_hears, w_ripe, w_room, w_tables⟩
theorem atStart : AtStart classFile x code maxLocals ret World_1 tables_1 room_1 Calls_1 rest_1 Pre_1 launch0 p0 e0 about1 theMethod args0 below0 :=
  ⟨lists_1, trivial, launch0.admits_env _ _ _, launch0.least_env, fairChoices_fair.cas, fairChoices_fair.clock, w_frames, w_args, w_heap, w_applies, trivial, trivial, w_case⟩
end start1
theorem witness_1 : WitnessClaimed_1 := ⟨start1.p0, start1.e0, start1.about1, start1.theMethod, start1.args0, start1.below0, start1.atStart⟩
end Jvm.Pilot.@@N@@

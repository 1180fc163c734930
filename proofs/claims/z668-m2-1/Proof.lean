import JvmDerived
import JvmDerived.Pilot.@@N@@Statement
import JvmDerived.Pilot.@@N@@Code
set_option linter.unusedVariables false
set_option linter.unusedSimpArgs false
@@BLOCK:NumsL.lean.txt@@
namespace Jvm.OwnKit
open Sem ClassFile Op Lib Jvm.Stand Jvm.Free Jvm.LawKit Jvm.RoadKit
/-- the surroundings of one body: program, environment, start, method, arguments, frames below, method record, code -/
abbrev Cxt := Program × Env × State × MethodId × Array Value × List Frame × Method × Code
/-- what a body owes: the first new address, cells, slots, what it leaves -/
abbrev En := Nat × Nat × Nat × (Option Value → Heap → Prop)
abbrev St (l : Launch) (R : Room) (C : Cxt) (T : State) (L : List Loc) (k n : Nat) : Prop :=
  Stand C.1 l C.2.1 R C.2.2.1 C.2.2.2.1 C.2.2.2.2.1 C.2.2.2.2.2.1 C.2.2.2.2.2.2.1 C.2.2.2.2.2.2.2 T L k n
abbrev Sp (C : Cxt) (a b : State) : Prop := Steps C.1.tables C.2.1 C.2.2.2.2.2.1 a b
def Goes (C : Cxt) (E : En) (a : State) : Prop :=
  ∃ t o, Sp C a t ∧ t.status = .running ∧ Ended t C.2.2.2.2.2.1 o ∧ ∃ v L, o = .returned v ∧ (E.2.2.2 v t.heap ∧ Fr E.1 L) ∧ FrameEnd C.2.2.1 o t L E.2.1 E.2.2.1
/-- from this place of the code, with this heap, these locals and this stack, and so many cells and slots made, the body comes to its end as owed -/
def W (l : Launch) (R : Room) (C : Cxt) (E : En) (h : Heap) (k n pc : Nat) (Ls : Array Slot) (st : List Value) : Prop :=
  ∀ T L, St l R C T L k n → Fr E.1 L → T.heap = h → Goes C E (T.setTop (mkF C.2.2.2.1 pc Ls st))
def Cx (C : Cxt) (Z : State) (own : String) (code : ByteArray) (ml : Nat) (ret : Option FieldType) (nm : String) (n0 : Nat) : Prop :=
  C.1.tables.exec = Jvm.exec ∧ C.2.2.2.2.2.2.2.code = code ∧ C.2.2.2.2.2.2.2.maxLocals = ml ∧ C.2.2.1.vm.findClass own = some C.2.2.2.1.cls ∧ Z.Warmed39 C.2.2.1.vm ∧ C.2.2.2.2.2.2.1.sig.returnType = ret ∧ C.2.2.2.2.2.2.1.locks = false ∧ C.2.2.2.2.2.2.1.name = nm ∧ n0 ≤ C.2.2.1.heap.size
/-- a contract of one call: these arguments, this heap -/
def Ctr (l : Launch) (Z : State) (y : MethodName) (bytes : ByteArray) (maxL : Nat) (ret : Option FieldType) (rm : Room) (n0 : Nat) (as' : Array Value) (h : Heap) (Q : Option Value → Heap → Prop) : Prop :=
  MetFree l y (head1 [Cond.code y bytes maxL ret] rm) (fun a U => a = as' ∧ Z.Warmed39 U.vm ∧ U.heap = h) (fun _ _ _ _ _ => True) (fun _ U o U' => ∃ v L, o = .returned v ∧ (Q v U'.heap ∧ Fr n0 L) ∧ FrameEnd U o U' L rm.cells rm.slots)
section Own
variable {l : Launch} {R : Room} {C : Cxt} {E : En} {h h' : Heap} {k n pc : Nat} {Ls : Array Slot} {st : List Value} {Z : State} {own nm : String} {code : ByteArray} {ml : Nat} {ret : Option FieldType} {a0 : Array Value}
theorem wd {ts : List Jvm.Cond} (hw : ∀ d ∈ ts, d.before a0 Z = true) (i : Nat) {d : Jvm.Cond} (hi : ts[i]? = some d) : d.before a0 Z = true := hw _ (List.mem_of_getElem? hi)
theorem W.via {pc' : Nat} {Ls' : Array Slot} {st' : List Value} (f : ∀ T t L, St l R C T L k n → T.heap = h → Sp C (T.setTop (mkF C.2.2.2.1 pc' Ls' st')) t → Sp C (T.setTop (mkF C.2.2.2.1 pc Ls st)) t)
    (hr : W l R C E h k n pc' Ls' st') : W l R C E h k n pc Ls st := fun T L X N eT => by
  obtain ⟨t, o, h1, h2⟩ := hr T L X N eT
  exact ⟨t, o, f T t L X eT h1, h2⟩
theorem W.more {k' n' : Nat} (hk : k ≤ k') (hn : n ≤ n') (hr : W l R C E h k' n' pc Ls st) : W l R C E h k n pc Ls st := fun T L X N eT => hr T L (X.more hk hn) N eT
/-- a step that moves the tables alone -/
theorem W.viaT {pc' : Nat} {Ls' : Array Slot} {st' : List Value} (f : ∀ T L, St l R C T L k n → T.heap = h → ∃ T', St l R C T' L k n ∧ T'.heap = h ∧ ∀ t, Sp C (T'.setTop (mkF C.2.2.2.1 pc' Ls' st')) t → Sp C (T.setTop (mkF C.2.2.2.1 pc Ls st)) t)
    (hr : W l R C E h k n pc' Ls' st') : W l R C E h k n pc Ls st := fun T L X N eT => by
  obtain ⟨T', X', e', q⟩ := f T L X eT
  obtain ⟨t, o, h1, h2⟩ := hr T' L X' N e'
  exact ⟨t, o, q t h1, h2⟩
theorem size_ge {n0 : Nat} (H : Cx C Z own code ml ret nm n0) {T : State} {L : List Loc} (X : St l R C T L k n) : n0 ≤ T.heap.size := Nat.le_trans H.2.2.2.2.2.2.2.2 X.same.2.1
/-! plain steps -/
section Plain
theorem k_iloadN {i : Fin 4} {x : Int32} (H : Cx C Z own code ml ret nm E.1) (hd : decode code pc = .ok (.iload_n i, 1)) (hl : Ls[i.val]? = some (.val (.int x))) (hr : W l R C E h k n (pc + 1) Ls (.int x :: st)) : W l R C E h k n pc Ls st := .via (fun T t L X _ r => XS.iloadN X.here H.1 rfl (hb H.2.1 hd) hl r) hr
theorem k_iload {i : Nat} {x : Int32} (H : Cx C Z own code ml ret nm E.1) (hd : decode code pc = .ok (.iload i, 2)) (hl : Ls[i]? = some (.val (.int x))) (hr : W l R C E h k n (pc + 2) Ls (.int x :: st)) : W l R C E h k n pc Ls st := .via (fun T t L X _ r => XS.iload X.here H.1 rfl (hb H.2.1 hd) hl r) hr
theorem k_lloadN {i : Fin 4} {x : Int64} (H : Cx C Z own code ml ret nm E.1) (hd : decode code pc = .ok (.lload_n i, 1)) (hl : Ls[i.val]? = some (.val (.long x))) (hr : W l R C E h k n (pc + 1) Ls (.long x :: st)) : W l R C E h k n pc Ls st := .via (fun T t L X _ r => XT.lloadN X.here H.1 rfl (hb H.2.1 hd) hl r) hr
theorem k_lload {i : Nat} {x : Int64} (H : Cx C Z own code ml ret nm E.1) (hd : decode code pc = .ok (.lload i, 2)) (hl : Ls[i]? = some (.val (.long x))) (hr : W l R C E h k n (pc + 2) Ls (.long x :: st)) : W l R C E h k n pc Ls st := .via (fun T t L X _ r => XT.lload X.here H.1 rfl (hb H.2.1 hd) hl r) hr
theorem k_aloadN {i : Fin 4} {v : Value} (H : Cx C Z own code ml ret nm E.1) (hd : decode code pc = .ok (.aload_n i, 1)) (hl : Ls[i.val]? = some (.val v)) (hv : v.isRef = true) (hr : W l R C E h k n (pc + 1) Ls (v :: st)) : W l R C E h k n pc Ls st := .via (fun T t L X _ r => XS.aloadN X.here H.1 rfl (hb H.2.1 hd) hl hv r) hr
theorem k_aload {i : Nat} {v : Value} (H : Cx C Z own code ml ret nm E.1) (hd : decode code pc = .ok (.aload i, 2)) (hl : Ls[i]? = some (.val v)) (hv : v.isRef = true) (hr : W l R C E h k n (pc + 2) Ls (v :: st)) : W l R C E h k n pc Ls st := .via (fun T t L X _ r => XS.aload X.here H.1 rfl (hb H.2.1 hd) hl hv r) hr
theorem k_istoreN {i : Fin 4} {x : Int32} {Ls' : Array Slot} (H : Cx C Z own code ml ret nm E.1) (hd : decode code pc = .ok (.istore_n i, 1)) (hl : storeLocals Ls i.val (.int x) = some Ls') (hr : W l R C E h k n (pc + 1) Ls' st) : W l R C E h k n pc Ls (.int x :: st) := .via (fun T t L X _ r => XS.istoreN X.here H.1 rfl (hb H.2.1 hd) rfl hl r) hr
theorem k_istore {i : Nat} {x : Int32} {Ls' : Array Slot} (H : Cx C Z own code ml ret nm E.1) (hd : decode code pc = .ok (.istore i, 2)) (hl : storeLocals Ls i (.int x) = some Ls') (hr : W l R C E h k n (pc + 2) Ls' st) : W l R C E h k n pc Ls (.int x :: st) := .via (fun T t L X _ r => XS.istore X.here H.1 rfl (hb H.2.1 hd) rfl hl r) hr
theorem k_lstoreN {i : Fin 4} {x : Int64} {Ls' : Array Slot} (H : Cx C Z own code ml ret nm E.1) (hd : decode code pc = .ok (.lstore_n i, 1)) (hl : storeLocals Ls i.val (.long x) = some Ls') (hr : W l R C E h k n (pc + 1) Ls' st) : W l R C E h k n pc Ls (.long x :: st) := .via (fun T t L X _ r => XT.lstoreN X.here H.1 rfl (hb H.2.1 hd) rfl hl r) hr
theorem k_lstore {i : Nat} {x : Int64} {Ls' : Array Slot} (H : Cx C Z own code ml ret nm E.1) (hd : decode code pc = .ok (.lstore i, 2)) (hl : storeLocals Ls i (.long x) = some Ls') (hr : W l R C E h k n (pc + 2) Ls' st) : W l R C E h k n pc Ls (.long x :: st) := .via (fun T t L X _ r => XT.lstore X.here H.1 rfl (hb H.2.1 hd) rfl hl r) hr
theorem k_astoreN {i : Fin 4} {x : Value} {Ls' : Array Slot} (H : Cx C Z own code ml ret nm E.1) (hd : decode code pc = .ok (.astore_n i, 1)) (hv : x.isRef = true) (hl : storeLocals Ls i.val x = some Ls') (hr : W l R C E h k n (pc + 1) Ls' st) : W l R C E h k n pc Ls (x :: st) := .via (fun T t L X _ r => XS.astoreN X.here H.1 rfl (hb H.2.1 hd) rfl hv hl r) hr
theorem k_astore {i : Nat} {x : Value} {Ls' : Array Slot} (H : Cx C Z own code ml ret nm E.1) (hd : decode code pc = .ok (.astore i, 2)) (hv : x.isRef = true) (hl : storeLocals Ls i x = some Ls') (hr : W l R C E h k n (pc + 2) Ls' st) : W l R C E h k n pc Ls (x :: st) := .via (fun T t L X _ r => XS.astore X.here H.1 rfl (hb H.2.1 hd) rfl hv hl r) hr
theorem k_iconst {i : Int} (v : Int32) (H : Cx C Z own code ml ret nm E.1) (hd : decode code pc = .ok (.iconst i, 1)) (hv : Int32.ofInt i = v) (hr : W l R C E h k n (pc + 1) Ls (.int v :: st)) : W l R C E h k n pc Ls st := .via (fun T t L X _ r => XT.iconstV X.here H.1 rfl v (hb H.2.1 hd) hv r) hr
theorem k_bipush {i : Int} (v : Int32) (H : Cx C Z own code ml ret nm E.1) (hd : decode code pc = .ok (.bipush i, 2)) (hv : (Int8.ofInt i).toInt32 = v) (hr : W l R C E h k n (pc + 2) Ls (.int v :: st)) : W l R C E h k n pc Ls st := .via (fun T t L X _ r => XT.bipushV X.here H.1 rfl v (hb H.2.1 hd) hv r) hr
theorem k_sipush {i : Int} (v : Int32) (H : Cx C Z own code ml ret nm E.1) (hd : decode code pc = .ok (.sipush i, 3)) (hv : (Int16.ofInt i).toInt32 = v) (hr : W l R C E h k n (pc + 3) Ls (.int v :: st)) : W l R C E h k n pc Ls st := .via (fun T t L X _ r => XT.sipushV X.here H.1 rfl v (hb H.2.1 hd) hv r) hr
theorem k_lconst {i : Fin 2} (v : Int64) (H : Cx C Z own code ml ret nm E.1) (hd : decode code pc = .ok (.lconst i, 1)) (hv : Int64.ofNat i = v) (hr : W l R C E h k n (pc + 1) Ls (.long v :: st)) : W l R C E h k n pc Ls st := .via (fun T t L X _ r => XT.lconstV X.here H.1 rfl v (hb H.2.1 hd) hv r) hr
theorem k_aconstNull (H : Cx C Z own code ml ret nm E.1) (hd : decode code pc = .ok (.aconst_null, 1)) (hr : W l R C E h k n (pc + 1) Ls (.null :: st)) : W l R C E h k n pc Ls st := .via (fun T t L X _ r => XS.aconstNull X.here H.1 rfl (hb H.2.1 hd) r) hr
theorem k_ldcI {i : Nat} {v : Int32} (H : Cx C Z own code ml ret nm E.1) (hc : (Cond.constant own i v).before a0 Z = true) (hd : decode code pc = .ok (.ldc i, 2)) (hr : W l R C E h k n (pc + 2) Ls (.int v :: st)) : W l R C E h k n pc Ls st := .via (fun T t L X _ r => X.ldcI H.1 H.2.2.2.1 (mv H.2.2.2.2.1 hc) rfl (hb H.2.1 hd) r) hr
theorem k_ldcWI {i : Nat} {v : Int32} (H : Cx C Z own code ml ret nm E.1) (hc : (Cond.constant own i v).before a0 Z = true) (hd : decode code pc = .ok (.ldc_w i, 3)) (hr : W l R C E h k n (pc + 3) Ls (.int v :: st)) : W l R C E h k n pc Ls st := .via (fun T t L X _ r => X.ldcWI H.1 H.2.2.2.1 (mv H.2.2.2.2.1 hc) rfl (hb H.2.1 hd) r) hr
theorem k_ldc2J {i : Nat} {v : Int64} (H : Cx C Z own code ml ret nm E.1) (hc : (Cond.constantLong own i v).before a0 Z = true) (hd : decode code pc = .ok (.ldc2_w i, 3)) (hr : W l R C E h k n (pc + 3) Ls (.long v :: st)) : W l R C E h k n pc Ls st := .via (fun T t L X _ r => X.ldc2J H.1 H.2.2.2.1 (mv H.2.2.2.2.1 hc) rfl (hb H.2.1 hd) r) hr
theorem k_iinc {i : Nat} {c : Int} (v : Int32) {x : Int32} {Ls' : Array Slot} (H : Cx C Z own code ml ret nm E.1) (hd : decode code pc = .ok (.iinc i c, 3)) (hv : Int32.ofInt c = v) (hl : Ls[i]? = some (.val (.int x))) (hl' : storeLocals Ls i (.int (x + v)) = some Ls') (hr : W l R C E h k n (pc + 3) Ls' st) : W l R C E h k n pc Ls st := .via (fun T t L X _ r => XT.iincV X.here H.1 rfl v (hb H.2.1 hd) hv hl hl' r) hr
theorem k_iadd {x y : Int32} (H : Cx C Z own code ml ret nm E.1) (hd : decode code pc = .ok (.iadd, 1)) (hr : W l R C E h k n (pc + 1) Ls (.int (x + y) :: st)) : W l R C E h k n pc Ls (.int y :: .int x :: st) := .via (fun T t L X _ r => XS.iadd X.here H.1 rfl (hb H.2.1 hd) rfl r) hr
theorem k_isub {x y : Int32} (H : Cx C Z own code ml ret nm E.1) (hd : decode code pc = .ok (.isub, 1)) (hr : W l R C E h k n (pc + 1) Ls (.int (x - y) :: st)) : W l R C E h k n pc Ls (.int y :: .int x :: st) := .via (fun T t L X _ r => XS.isub X.here H.1 rfl (hb H.2.1 hd) rfl r) hr
theorem k_imul {x y : Int32} (H : Cx C Z own code ml ret nm E.1) (hd : decode code pc = .ok (.imul, 1)) (hr : W l R C E h k n (pc + 1) Ls (.int (x * y) :: st)) : W l R C E h k n pc Ls (.int y :: .int x :: st) := .via (fun T t L X _ r => XS.imul X.here H.1 rfl (hb H.2.1 hd) rfl r) hr
theorem k_idiv {x y : Int32} (H : Cx C Z own code ml ret nm E.1) (hd : decode code pc = .ok (.idiv, 1)) (hy : y ≠ 0) (hr : W l R C E h k n (pc + 1) Ls (.int (x / y) :: st)) : W l R C E h k n pc Ls (.int y :: .int x :: st) := .via (fun T t L X _ r => XS.idiv X.here H.1 rfl (hb H.2.1 hd) rfl hy r) hr
theorem k_irem {x y : Int32} (H : Cx C Z own code ml ret nm E.1) (hd : decode code pc = .ok (.irem, 1)) (hy : y ≠ 0) (hr : W l R C E h k n (pc + 1) Ls (.int (x % y) :: st)) : W l R C E h k n pc Ls (.int y :: .int x :: st) := .via (fun T t L X _ r => iremM X H.1 rfl (hb H.2.1 hd) rfl hy r) hr
theorem k_iand {x y : Int32} (H : Cx C Z own code ml ret nm E.1) (hd : decode code pc = .ok (.iand, 1)) (hr : W l R C E h k n (pc + 1) Ls (.int (x &&& y) :: st)) : W l R C E h k n pc Ls (.int y :: .int x :: st) := .via (fun T t L X _ r => XS.iand X.here H.1 rfl (hb H.2.1 hd) rfl r) hr
theorem k_ior {x y : Int32} (H : Cx C Z own code ml ret nm E.1) (hd : decode code pc = .ok (.ior, 1)) (hr : W l R C E h k n (pc + 1) Ls (.int (x ||| y) :: st)) : W l R C E h k n pc Ls (.int y :: .int x :: st) := .via (fun T t L X _ r => XT.ior X.here H.1 rfl (hb H.2.1 hd) rfl r) hr
theorem k_ixor {x y : Int32} (H : Cx C Z own code ml ret nm E.1) (hd : decode code pc = .ok (.ixor, 1)) (hr : W l R C E h k n (pc + 1) Ls (.int (x ^^^ y) :: st)) : W l R C E h k n pc Ls (.int y :: .int x :: st) := .via (fun T t L X _ r => XT.ixor X.here H.1 rfl (hb H.2.1 hd) rfl r) hr
theorem k_ishl {x y : Int32} (H : Cx C Z own code ml ret nm E.1) (hd : decode code pc = .ok (.ishl, 1)) (hr : W l R C E h k n (pc + 1) Ls (.int (x <<< (y &&& 31)) :: st)) : W l R C E h k n pc Ls (.int y :: .int x :: st) := .via (fun T t L X _ r => XT.ishl X.here H.1 rfl (hb H.2.1 hd) rfl r) hr
theorem k_ishr {x y : Int32} (H : Cx C Z own code ml ret nm E.1) (hd : decode code pc = .ok (.ishr, 1)) (hr : W l R C E h k n (pc + 1) Ls (.int (x >>> (y &&& 31)) :: st)) : W l R C E h k n pc Ls (.int y :: .int x :: st) := .via (fun T t L X _ r => XT.ishr X.here H.1 rfl (hb H.2.1 hd) rfl r) hr
theorem k_iushr {x y : Int32} (H : Cx C Z own code ml ret nm E.1) (hd : decode code pc = .ok (.iushr, 1)) (hr : W l R C E h k n (pc + 1) Ls (.int (XT.ushr x y) :: st)) : W l R C E h k n pc Ls (.int y :: .int x :: st) := .via (fun T t L X _ r => XT.iushr X.here H.1 rfl (hb H.2.1 hd) rfl r) hr
theorem k_ineg {x : Int32} (H : Cx C Z own code ml ret nm E.1) (hd : decode code pc = .ok (.ineg, 1)) (hr : W l R C E h k n (pc + 1) Ls (.int (-x) :: st)) : W l R C E h k n pc Ls (.int x :: st) := .via (fun T t L X _ r => XS.ineg X.here H.1 rfl (hb H.2.1 hd) rfl r) hr
theorem k_ladd {x y : Int64} (H : Cx C Z own code ml ret nm E.1) (hd : decode code pc = .ok (.ladd, 1)) (hr : W l R C E h k n (pc + 1) Ls (.long (x + y) :: st)) : W l R C E h k n pc Ls (.long y :: .long x :: st) := .via (fun T t L X _ r => XT.ladd X.here H.1 rfl (hb H.2.1 hd) rfl r) hr
theorem k_lsub {x y : Int64} (H : Cx C Z own code ml ret nm E.1) (hd : decode code pc = .ok (.lsub, 1)) (hr : W l R C E h k n (pc + 1) Ls (.long (x - y) :: st)) : W l R C E h k n pc Ls (.long y :: .long x :: st) := .via (fun T t L X _ r => XT.lsub X.here H.1 rfl (hb H.2.1 hd) rfl r) hr
theorem k_land {x y : Int64} (H : Cx C Z own code ml ret nm E.1) (hd : decode code pc = .ok (.land, 1)) (hr : W l R C E h k n (pc + 1) Ls (.long (x &&& y) :: st)) : W l R C E h k n pc Ls (.long y :: .long x :: st) := .via (fun T t L X _ r => XT.land X.here H.1 rfl (hb H.2.1 hd) rfl r) hr
theorem k_lor {x y : Int64} (H : Cx C Z own code ml ret nm E.1) (hd : decode code pc = .ok (.lor, 1)) (hr : W l R C E h k n (pc + 1) Ls (.long (x ||| y) :: st)) : W l R C E h k n pc Ls (.long y :: .long x :: st) := .via (fun T t L X _ r => XT.lor X.here H.1 rfl (hb H.2.1 hd) rfl r) hr
theorem k_lxor {x y : Int64} (H : Cx C Z own code ml ret nm E.1) (hd : decode code pc = .ok (.lxor, 1)) (hr : W l R C E h k n (pc + 1) Ls (.long (x ^^^ y) :: st)) : W l R C E h k n pc Ls (.long y :: .long x :: st) := .via (fun T t L X _ r => XT.lxor X.here H.1 rfl (hb H.2.1 hd) rfl r) hr
theorem k_lshl {x : Int64} {y : Int32} (H : Cx C Z own code ml ret nm E.1) (hd : decode code pc = .ok (.lshl, 1)) (hr : W l R C E h k n (pc + 1) Ls (.long (x <<< (y.toInt64 &&& 63)) :: st)) : W l R C E h k n pc Ls (.int y :: .long x :: st) := .via (fun T t L X _ r => XT.lshl X.here H.1 rfl (hb H.2.1 hd) rfl r) hr
theorem k_lushr {x : Int64} {y : Int32} (H : Cx C Z own code ml ret nm E.1) (hd : decode code pc = .ok (.lushr, 1)) (hr : W l R C E h k n (pc + 1) Ls (.long (XT.ushrL x y) :: st)) : W l R C E h k n pc Ls (.int y :: .long x :: st) := .via (fun T t L X _ r => XT.lushr X.here H.1 rfl (hb H.2.1 hd) rfl r) hr
theorem k_i2l {x : Int32} (H : Cx C Z own code ml ret nm E.1) (hd : decode code pc = .ok (.i2l, 1)) (hr : W l R C E h k n (pc + 1) Ls (.long x.toInt64 :: st)) : W l R C E h k n pc Ls (.int x :: st) := .via (fun T t L X _ r => XT.i2l X.here H.1 rfl (hb H.2.1 hd) rfl r) hr
theorem k_l2i {x : Int64} (H : Cx C Z own code ml ret nm E.1) (hd : decode code pc = .ok (.l2i, 1)) (hr : W l R C E h k n (pc + 1) Ls (.int x.toInt32 :: st)) : W l R C E h k n pc Ls (.long x :: st) := .via (fun T t L X _ r => XT.l2i X.here H.1 rfl (hb H.2.1 hd) rfl r) hr
theorem k_i2b {x : Int32} (H : Cx C Z own code ml ret nm E.1) (hd : decode code pc = .ok (.i2b, 1)) (hr : W l R C E h k n (pc + 1) Ls (.int x.toInt8.toInt32 :: st)) : W l R C E h k n pc Ls (.int x :: st) := .via (fun T t L X _ r => XT.i2b X.here H.1 rfl (hb H.2.1 hd) rfl r) hr
theorem k_i2c {x : Int32} (H : Cx C Z own code ml ret nm E.1) (hd : decode code pc = .ok (.i2c, 1)) (hr : W l R C E h k n (pc + 1) Ls (.int x.toUInt32.toUInt16.toUInt32.toInt32 :: st)) : W l R C E h k n pc Ls (.int x :: st) := .via (fun T t L X _ r => XT.i2c X.here H.1 rfl (hb H.2.1 hd) rfl r) hr
theorem k_lcmp {x y : Int64} (H : Cx C Z own code ml ret nm E.1) (hd : decode code pc = .ok (.lcmp, 1)) (hr : W l R C E h k n (pc + 1) Ls (.int (XT.cmpL x y) :: st)) : W l R C E h k n pc Ls (.long y :: .long x :: st) := .via (fun T t L X _ r => XT.lcmp X.here H.1 rfl (hb H.2.1 hd) rfl r) hr
theorem k_dup {v : Value} (H : Cx C Z own code ml ret nm E.1) (hd : decode code pc = .ok (.dup, 1)) (hc : v.category = 1) (hr : W l R C E h k n (pc + 1) Ls (v :: v :: st)) : W l R C E h k n pc Ls (v :: st) := .via (fun T t L X _ r => XS.dup X.here H.1 rfl (hb H.2.1 hd) rfl hc r) hr
theorem k_pop {v : Value} (H : Cx C Z own code ml ret nm E.1) (hd : decode code pc = .ok (.pop, 1)) (hc : v.category = 1) (hr : W l R C E h k n (pc + 1) Ls st) : W l R C E h k n pc Ls (v :: st) := .via (fun T t L X _ r => XT.pop X.here H.1 rfl (hb H.2.1 hd) rfl hc r) hr
theorem k_dupX1 {v w : Value} (H : Cx C Z own code ml ret nm E.1) (hd : decode code pc = .ok (.dup_x1, 1)) (hc : v.category = 1) (hc' : w.category = 1) (hr : W l R C E h k n (pc + 1) Ls (v :: w :: v :: st)) : W l R C E h k n pc Ls (v :: w :: st) := .via (fun T t L X _ r => XT.dupX1 X.here H.1 rfl (hb H.2.1 hd) rfl hc hc' r) hr
theorem k_dup2 {v w : Value} (H : Cx C Z own code ml ret nm E.1) (hd : decode code pc = .ok (.dup2, 1)) (hc : v.category = 1) (hc' : w.category = 1) (hr : W l R C E h k n (pc + 1) Ls (v :: w :: v :: w :: st)) : W l R C E h k n pc Ls (v :: w :: st) := .via (fun T t L X _ r => XT.dup2 X.here H.1 rfl (hb H.2.1 hd) rfl hc hc' r) hr
theorem k_goto {o : Int} (pc' : Nat) (H : Cx C Z own code ml ret nm E.1) (hd : decode code pc = .ok (.goto o, 3)) (hp : (pc : Int) + o = (pc' : Int)) (hr : W l R C E h k n pc' Ls st) : W l R C E h k n pc Ls st := .via (fun T t L X _ r => XS.goto X.here H.1 rfl rfl (hb H.2.1 hd) (by rw [hp]; exact Int.natCast_nonneg _) (by rw [hp]; rfl) r) hr
theorem k_icmpT {cd : ClassFile.Cond} {o : Int} {x y : Int32} (pc' : Nat) (H : Cx C Z own code ml ret nm E.1) (hd : decode code pc = .ok (.if_icmp cd o, 3)) (hp : (pc : Int) + o = (pc' : Int)) (hc : if_icmp.holds cd x y = true) (hr : W l R C E h k n pc' Ls st) : W l R C E h k n pc Ls (.int y :: .int x :: st) :=
  .via (fun T t L X _ r => XS.icmpYes X.here H.1 rfl rfl (hb H.2.1 hd) rfl hc (by rw [hp]; exact Int.natCast_nonneg _) (by rw [hp]; rfl) r) hr
theorem k_icmpF {cd : ClassFile.Cond} {o : Int} {x y : Int32} (H : Cx C Z own code ml ret nm E.1) (hd : decode code pc = .ok (.if_icmp cd o, 3)) (hc : if_icmp.holds cd x y = false) (hr : W l R C E h k n (pc + 3) Ls st) : W l R C E h k n pc Ls (.int y :: .int x :: st) :=
  .via (fun T t L X _ r => XS.icmpNo X.here H.1 rfl (hb H.2.1 hd) rfl hc r) hr
theorem k_ifT {cd : ClassFile.Cond} {o : Int} {x : Int32} (pc' : Nat) (H : Cx C Z own code ml ret nm E.1) (hd : decode code pc = .ok (.ifCond cd o, 3)) (hp : (pc : Int) + o = (pc' : Int)) (hc : ifCond.holds cd x = true) (hr : W l R C E h k n pc' Ls st) : W l R C E h k n pc Ls (.int x :: st) :=
  .via (fun T t L X _ r => XS.ifYes X.here H.1 rfl rfl (hb H.2.1 hd) rfl hc (by rw [hp]; exact Int.natCast_nonneg _) (by rw [hp]; rfl) r) hr
theorem k_ifF {cd : ClassFile.Cond} {o : Int} {x : Int32} (H : Cx C Z own code ml ret nm E.1) (hd : decode code pc = .ok (.ifCond cd o, 3)) (hc : ifCond.holds cd x = false) (hr : W l R C E h k n (pc + 3) Ls st) : W l R C E h k n pc Ls (.int x :: st) :=
  .via (fun T t L X _ r => XS.ifNo X.here H.1 rfl (hb H.2.1 hd) rfl hc r) hr
theorem k_acmpT {cd : ClassFile.ACond} {o : Int} {x y : Value} (pc' : Nat) (H : Cx C Z own code ml ret nm E.1) (hd : decode code pc = .ok (.if_acmp cd o, 3)) (hp : (pc : Int) + o = (pc' : Int)) (hx : x.isRef = true) (hy : y.isRef = true) (hc : XT.acmp cd x y = true) (hr : W l R C E h k n pc' Ls st) : W l R C E h k n pc Ls (y :: x :: st) :=
  .via (fun T t L X _ r => XT.acmpYes X.here H.1 rfl rfl (hb H.2.1 hd) rfl hx hy hc (by rw [hp]; exact Int.natCast_nonneg _) (by rw [hp]; rfl) r) hr
theorem k_acmpF {cd : ClassFile.ACond} {o : Int} {x y : Value} (H : Cx C Z own code ml ret nm E.1) (hd : decode code pc = .ok (.if_acmp cd o, 3)) (hx : x.isRef = true) (hy : y.isRef = true) (hc : XT.acmp cd x y = false) (hr : W l R C E h k n (pc + 3) Ls st) : W l R C E h k n pc Ls (y :: x :: st) :=
  .via (fun T t L X _ r => XT.acmpNo X.here H.1 rfl (hb H.2.1 hd) rfl hx hy hc r) hr
theorem k_nonnullT {o : Int} {b : Addr} (pc' : Nat) (H : Cx C Z own code ml ret nm E.1) (hd : decode code pc = .ok (.ifnonnull o, 3)) (hp : (pc : Int) + o = (pc' : Int)) (hr : W l R C E h k n pc' Ls st) : W l R C E h k n pc Ls (.ref b :: st) :=
  .via (fun T t L X _ r => XT.ifnonnullYes X.here H.1 rfl rfl (hb H.2.1 hd) rfl (by rw [hp]; exact Int.natCast_nonneg _) (by rw [hp]; rfl) r) hr
theorem k_tsw {dflt low high o : Int} {offs : Array Int} {len : Nat} {i : Int32} (pc' : Nat) (H : Cx C Z own code ml ret nm E.1) (hd : decode code pc = .ok (.tableswitch dflt low high offs, len)) (hin : ¬ (i.toInt < low ∨ i.toInt > high)) (hoff : offs[(i.toInt - low).toNat]? = some o) (hp : (pc : Int) + o = (pc' : Int)) (hr : W l R C E h k n pc' Ls st) : W l R C E h k n pc Ls (.int i :: st) :=
  .via (fun T t L X _ r => XS.tswIn X.here H.1 rfl rfl (hb H.2.1 hd) rfl hin hoff (by rw [hp]; exact Int.natCast_nonneg _) (by rw [hp]; rfl) r) hr
theorem lsw {tb : Tables} [Ours tb] {e : Env} {below : List Frame} {T target : State} {m : MethodId} {c : Code} {g : JFrame} (h : At T m c below) (hx : tb.exec = Jvm.exec) (hg : g.method = m) {dflt : Int} {pairs : Array (Int × Int)} {len : Nat} {pc0 pc' : Nat} (hpc : g.pc = pc0) (hd : decode c.code g.pc = .ok (.lookupswitch dflt pairs, len)) {i : Int32} {rest : List Value} (hs : g.stack = .int i :: rest)
    (ho : 0 ≤ (pc0 : Int) + lookupswitch.offset pairs.toList dflt i.toInt) (hp : ((pc0 : Int) + lookupswitch.offset pairs.toList dflt i.toInt).toNat = pc') (hsort : ∀ (a b c d : Int), ((a, b), c, d) ∈ pairs.toList.zip pairs.toList.tail → a < c) (hr : Steps tb e below (T.setTop { g with pc := pc', stack := rest }) target) : Steps tb e below (T.setTop g) target := by
  subst hg hpc hp
  jvm_step h [h.top, hx, hd, hs, ho, lookupswitch.wp_chain]
  exact ⟨hsort, hr⟩
theorem k_lsw {dflt : Int} {pairs : Array (Int × Int)} {len : Nat} {i : Int32} (pc' : Nat) (H : Cx C Z own code ml ret nm E.1) (hd : decode code pc = .ok (.lookupswitch dflt pairs, len)) (hsort : ∀ (a b c d : Int), ((a, b), c, d) ∈ pairs.toList.zip pairs.toList.tail → a < c) (hp : (pc : Int) + lookupswitch.offset pairs.toList dflt i.toInt = (pc' : Int)) (hr : W l R C E h k n pc' Ls st) : W l R C E h k n pc Ls (.int i :: st) :=
  .via (fun T t L X _ r => lsw X.here H.1 rfl rfl (hb H.2.1 hd) rfl (by rw [hp]; exact Int.natCast_nonneg _) (by rw [hp]; rfl) hsort r) hr
end Plain
/-! branches, both ways -/
theorem k_icmp {cd : ClassFile.Cond} {o : Int} {x y : Int32} {P : Prop} [Decidable P] (pc' : Nat) (H : Cx C Z own code ml ret nm E.1) (hd : decode code pc = .ok (.if_icmp cd o, 3)) (hp : (pc : Int) + o = (pc' : Int)) (hT : P → if_icmp.holds cd x y = true) (hF : ¬ P → if_icmp.holds cd x y = false)
    (h1 : P → W l R C E h k n pc' Ls st) (h2 : ¬ P → W l R C E h k n (pc + 3) Ls st) : W l R C E h k n pc Ls (.int y :: .int x :: st) := by
  by_cases q : P
  · exact k_icmpT pc' H hd hp (hT q) (h1 q)
  · exact k_icmpF H hd (hF q) (h2 q)
theorem k_iff0 {cd : ClassFile.Cond} {o : Int} {x : Int32} {P : Prop} [Decidable P] (pc' : Nat) (H : Cx C Z own code ml ret nm E.1) (hd : decode code pc = .ok (.ifCond cd o, 3)) (hp : (pc : Int) + o = (pc' : Int)) (hT : P → ifCond.holds cd x = true) (hF : ¬ P → ifCond.holds cd x = false)
    (h1 : P → W l R C E h k n pc' Ls st) (h2 : ¬ P → W l R C E h k n (pc + 3) Ls st) : W l R C E h k n pc Ls (.int x :: st) := by
  by_cases q : P
  · exact k_ifT pc' H hd hp (hT q) (h1 q)
  · exact k_ifF H hd (hF q) (h2 q)
theorem k_icmpR {cd : ClassFile.Cond} {o : Int} {x y : Int32} {P : Prop} [Decidable P] (pc' : Nat) (H : Cx C Z own code ml ret nm E.1) (hd : decode code pc = .ok (.if_icmp cd o, 3)) (hp : (pc : Int) + o = (pc' : Int)) (hT : ¬ P → if_icmp.holds cd x y = true) (hF : P → if_icmp.holds cd x y = false)
    (h1 : ¬ P → W l R C E h k n pc' Ls st) (h2 : P → W l R C E h k n (pc + 3) Ls st) : W l R C E h k n pc Ls (.int y :: .int x :: st) := by
  by_cases q : P
  · exact k_icmpF H hd (hF q) (h2 q)
  · exact k_icmpT pc' H hd hp (hT q) (h1 q)
theorem k_iff0R {cd : ClassFile.Cond} {o : Int} {x : Int32} {P : Prop} [Decidable P] (pc' : Nat) (H : Cx C Z own code ml ret nm E.1) (hd : decode code pc = .ok (.ifCond cd o, 3)) (hp : (pc : Int) + o = (pc' : Int)) (hT : ¬ P → ifCond.holds cd x = true) (hF : P → ifCond.holds cd x = false)
    (h1 : ¬ P → W l R C E h k n pc' Ls st) (h2 : P → W l R C E h k n (pc + 3) Ls st) : W l R C E h k n pc Ls (.int x :: st) := by
  by_cases q : P
  · exact k_ifF H hd (hF q) (h2 q)
  · exact k_ifT pc' H hd hp (hT q) (h1 q)
theorem k_acmp {cd : ClassFile.ACond} {o : Int} {x y : Value} {P : Prop} [Decidable P] (pc' : Nat) (H : Cx C Z own code ml ret nm E.1) (hd : decode code pc = .ok (.if_acmp cd o, 3)) (hp : (pc : Int) + o = (pc' : Int)) (hx : x.isRef = true) (hy : y.isRef = true) (hT : P → XT.acmp cd x y = true) (hF : ¬ P → XT.acmp cd x y = false)
    (h1 : P → W l R C E h k n pc' Ls st) (h2 : ¬ P → W l R C E h k n (pc + 3) Ls st) : W l R C E h k n pc Ls (y :: x :: st) := by
  by_cases q : P
  · exact k_acmpT pc' H hd hp hx hy (hT q) (h1 q)
  · exact k_acmpF H hd hx hy (hF q) (h2 q)
/-! heap steps -/
/-- an array: its kind and all that it holds -/
def Vec (Z : State) (h : Heap) (a : Addr) (ty : FieldType) (vs : List Value) : Prop := ∃ c : Cell, Arr Z h a c ty ∧ c.slots = vs.toArray ∧ vs.length < 2 ^ 31
abbrev IA (Z : State) (h : Heap) (a : Addr) (xs : List Int32) : Prop := Vec Z h a .int (xs.map Value.int)
abbrev JA (Z : State) (h : Heap) (a : Addr) (xs : List Int64) : Prop := Vec Z h a .long (xs.map Value.long)
abbrev BA (Z : State) (h : Heap) (a : Addr) (xs : List Int8) : Prop := Vec Z h a .byte (xs.map fun b => Value.int b.toInt32)
abbrev CA (Z : State) (h : Heap) (a : Addr) (xs : List UInt16) : Prop := Vec Z h a .char (xs.map fun b => Value.int b.toUInt32.toInt32)
theorem Vec.lt {a : Addr} {ty : FieldType} {vs : List Value} (F : Vec Z h a ty vs) : a < h.size := by obtain ⟨c, A, -⟩ := F; exact A.lt
theorem Vec.ext {a : Addr} {ty : FieldType} {vs : List Value} (F : Vec Z h a ty vs) (X : Ext h h') : Vec Z h' a ty vs := by obtain ⟨c, A, r⟩ := F; exact ⟨c, A.ext X, r⟩
theorem Vec.keep {a : Addr} {ty : FieldType} {vs : List Value} {ws : List Addr} (F : Vec Z h a ty vs) (K : Keep h h' ws) (q : a ∉ ws) : Vec Z h' a ty vs := by obtain ⟨c, A, r⟩ := F; exact ⟨c, ⟨K.2.1 a c A.1 q, A.2⟩, r⟩
theorem Vec.other {a b : Addr} {ty : FieldType} {vs : List Value} {sl : Nat} {v : Value} (F : Vec Z h b ty vs) (X : Wr h h' a sl v) (q : b ≠ a) : Vec Z h' b ty vs := by obtain ⟨c, A, r⟩ := F; exact ⟨c, A.other X q, r⟩
theorem Vec.set {a : Addr} {ty : FieldType} {vs : List Value} {sl : Nat} {v : Value} (F : Vec Z h a ty vs) (X : Wr h h' a sl v) : Vec Z h' a ty (vs.set sl v) := by
  obtain ⟨c, A, e, r⟩ := F
  refine ⟨_, A.same X, ?_, by simpa using r⟩
  simp [Cell.setSlot, e]
theorem Vec.ne {a b : Addr} {ty ty' : FieldType} {vs vs' : List Value} (F : Vec Z h a ty vs) (G : Vec Z h b ty' vs') (q : ty ≠ ty') : a ≠ b := fun e => by
  subst e
  obtain ⟨c, A, -⟩ := F
  obtain ⟨c', A', -⟩ := G
  cases A.1.symm.trans A'.1
  obtain ⟨-, k, h1, comp, h2⟩ := A.2.1
  obtain ⟨-, k', h1', comp', h2'⟩ := A'.2.1
  cases h1.symm.trans h1'
  rw [h2] at h2'; cases h2'; exact q rfl
theorem Vec.neX {a b : Addr} {ty : FieldType} {vs : List Value} {cls : String} {kk : Nat} (G : Vec Z h b ty vs) (F : Exa Z h a cls) (wi : (Cond.instantiable cls kk).before a0 Z = true) : a ≠ b := by obtain ⟨c, A, -⟩ := G; exact ne_arr F wi A
theorem Keep.ofExt (X : Ext h h') : Keep h h' [] := (Keep.refl h []).ext X
theorem idx_ok {j : Int32} {i : Nat} (hj : j.toInt = (i : Int)) : ¬ j < 0 ∧ j.toNatClampNeg = i := by
  have e0 : (0 : Int32).toInt = 0 := rfl
  constructor
  · rw [Int32.lt_iff_toInt_lt]; omega
  · simp only [Int32.toNatClampNeg, hj]; rfl
theorem len_ok {c : Cell} {vs : List Value} (e : c.slots = vs.toArray) (hl : vs.length < 2 ^ 31) : c.slots.size.toInt32.toInt = (vs.length : Int) := by
  rw [e]; exact len_toInt hl
section Arrs
variable {a : Addr} {j : Int32} {i : Nat} {v : Value} {vs : List Value}
theorem in_ok {c : Cell} (e : c.slots = vs.toArray) (hj : j.toInt = (i : Int)) (hv : vs[i]? = some v) : ¬ (j < 0 ∨ c.slots.size ≤ j.toNatClampNeg) ∧ c.slots[j.toNatClampNeg]? = some v := by
  obtain ⟨q1, q2⟩ := idx_ok hj
  rw [q2, e]
  have hlt : i < vs.length := (List.getElem?_eq_some_iff.mp hv).1
  exact ⟨fun z => z.elim q1 (fun z => absurd hlt (Nat.not_lt.mpr (by simpa using z))), by simpa using hv⟩
theorem k_arraylength {ty : FieldType} {N : Int32} (H : Cx C Z own code ml ret nm E.1) (A : Vec Z h a ty vs) (hN : N.toInt = (vs.length : Int)) (hd : decode code pc = .ok (.arraylength, 1)) (hr : W l R C E h k n (pc + 1) Ls (.int N :: st)) : W l R C E h k n pc Ls (.ref a :: st) := by
  obtain ⟨c, A, e, hl⟩ := A
  have q : c.slots.size.toInt32 = N := Int32.toInt_inj.mp ((len_ok e hl).trans hN.symm)
  subst q
  exact .via (fun T t L X eT r => X.arraylength H.1 (by rw [eT]; exact A.1) (State.isArrayOf_alike H.2.2.2.2.1.alike A.2.1) (g := mkF C.2.2.2.1 pc Ls (.ref a :: st)) rfl rfl (hb H.2.1 hd) _ r) hr
theorem k_iaload (H : Cx C Z own code ml ret nm E.1) (A : Vec Z h a .int vs) (hj : j.toInt = (i : Int)) (hv : vs[i]? = some v) (hd : decode code pc = .ok (.iaload, 1)) (hr : W l R C E h k n (pc + 1) Ls (v :: st)) : W l R C E h k n pc Ls (.int j :: .ref a :: st) := by
  obtain ⟨c, A, e, hl⟩ := A
  obtain ⟨q1, q2⟩ := in_ok e hj hv
  exact .via (fun T t L X eT r => X.iaload H.1 (by rw [eT]; exact A.1) (State.isArrayOf_alike H.2.2.2.2.1.alike A.2.1) A.2.2 q1 q2 (g := mkF C.2.2.2.1 pc Ls (.int j :: .ref a :: st)) rfl rfl (hb H.2.1 hd) _ r) hr
theorem k_laload (H : Cx C Z own code ml ret nm E.1) (A : Vec Z h a .long vs) (hj : j.toInt = (i : Int)) (hv : vs[i]? = some v) (hd : decode code pc = .ok (.laload, 1)) (hr : W l R C E h k n (pc + 1) Ls (v :: st)) : W l R C E h k n pc Ls (.int j :: .ref a :: st) := by
  obtain ⟨c, A, e, hl⟩ := A
  obtain ⟨q1, q2⟩ := in_ok e hj hv
  exact .via (fun T t L X eT r => X.laload H.1 (by rw [eT]; exact A.1) (State.isArrayOf_alike H.2.2.2.2.1.alike A.2.1) A.2.2 q1 q2 (g := mkF C.2.2.2.1 pc Ls (.int j :: .ref a :: st)) rfl rfl (hb H.2.1 hd) _ r) hr
theorem k_caload (H : Cx C Z own code ml ret nm E.1) (A : Vec Z h a .char vs) (hj : j.toInt = (i : Int)) (hv : vs[i]? = some v) (hd : decode code pc = .ok (.caload, 1)) (hr : W l R C E h k n (pc + 1) Ls (v :: st)) : W l R C E h k n pc Ls (.int j :: .ref a :: st) := by
  obtain ⟨c, A, e, hl⟩ := A
  obtain ⟨q1, q2⟩ := in_ok e hj hv
  exact .via (fun T t L X eT r => X.caload H.1 (by rw [eT]; exact A.1) (State.isArrayOf_alike H.2.2.2.2.1.alike A.2.1) A.2.2 q1 q2 (g := mkF C.2.2.2.1 pc Ls (.int j :: .ref a :: st)) rfl rfl (hb H.2.1 hd) _ r) hr
theorem k_baload (H : Cx C Z own code ml ret nm E.1) (A : Vec Z h a .byte vs) (hj : j.toInt = (i : Int)) (hv : vs[i]? = some v) (hd : decode code pc = .ok (.baload, 1)) (hr : W l R C E h k n (pc + 1) Ls (v :: st)) : W l R C E h k n pc Ls (.int j :: .ref a :: st) := by
  obtain ⟨c, A, e, hl⟩ := A
  obtain ⟨q1, q2⟩ := in_ok e hj hv
  exact .via (fun T t L X eT r => X.baloadBytes H.1 (by rw [eT]; exact A.1) (State.isArrayOf_alike H.2.2.2.2.1.alike A.2.1) A.2.2 q1 q2 (g := mkF C.2.2.2.1 pc Ls (.int j :: .ref a :: st)) rfl rfl (hb H.2.1 hd) _ r) hr
theorem out_ok {c : Cell} (e : c.slots = vs.toArray) (hj : j.toInt = (i : Int)) (hi : i < vs.length) : ¬ (j < 0 ∨ c.slots.size ≤ j.toNatClampNeg) := by
  obtain ⟨q1, q2⟩ := idx_ok hj
  rw [q2, e]
  exact fun z => z.elim q1 (fun z => absurd hi (Nat.not_lt.mpr (by simpa using z)))
theorem Goes.step {T T' : State} {g g' : JFrame} (q : ∀ t, Sp C (T'.setTop g') t → Sp C (T.setTop g) t) (r : Goes C E (T'.setTop g')) : Goes C E (T.setTop g) := by
  obtain ⟨t, o, h1, h2⟩ := r; exact ⟨t, o, q t h1, h2⟩
theorem k_iastore {x : Int32} (H : Cx C Z own code ml ret nm E.1) (A : Vec Z h a .int vs) (hj : j.toInt = (i : Int)) (hi : i < vs.length) (ge : E.1 ≤ a) (hd : decode code pc = .ok (.iastore, 1))
    (hr : ∀ h', Keep h h' [a] → Vec Z h' a .int (vs.set i (.int x)) → W l R C E h' k n (pc + 1) Ls st) : W l R C E h k n pc Ls (.int x :: .int j :: .ref a :: st) := fun T L X N eT => by
  have A' := A
  obtain ⟨c, A, e, hl⟩ := A
  obtain ⟨T', h', X', e', Wx, q⟩ := stI X H.1 H.2.2.2.2.1 eT A (out_ok e hj hi) (g := mkF C.2.2.2.1 pc Ls (.int x :: .int j :: .ref a :: st)) rfl rfl (hb H.2.1 hd)
  refine .step q (hr h' (Keep.of_wr Wx) ?_ T' _ X' (Fr.snoc X' N ge) e')
  rw [(idx_ok hj).2] at Wx; exact A'.set Wx
theorem k_lastore {x : Int64} (H : Cx C Z own code ml ret nm E.1) (A : Vec Z h a .long vs) (hj : j.toInt = (i : Int)) (hi : i < vs.length) (ge : E.1 ≤ a) (hd : decode code pc = .ok (.lastore, 1))
    (hr : ∀ h', Keep h h' [a] → Vec Z h' a .long (vs.set i (.long x)) → W l R C E h' k n (pc + 1) Ls st) : W l R C E h k n pc Ls (.long x :: .int j :: .ref a :: st) := fun T L X N eT => by
  have A' := A
  obtain ⟨c, A, e, hl⟩ := A
  obtain ⟨T', h', X', e', Wx, q⟩ := stJ X H.1 H.2.2.2.2.1 eT A (out_ok e hj hi) (g := mkF C.2.2.2.1 pc Ls (.long x :: .int j :: .ref a :: st)) rfl rfl (hb H.2.1 hd)
  refine .step q (hr h' (Keep.of_wr Wx) ?_ T' _ X' (Fr.snoc X' N ge) e')
  rw [(idx_ok hj).2] at Wx; exact A'.set Wx
theorem k_bastore {x : Int32} (H : Cx C Z own code ml ret nm E.1) (A : Vec Z h a .byte vs) (hj : j.toInt = (i : Int)) (hi : i < vs.length) (ge : E.1 ≤ a) (hd : decode code pc = .ok (.bastore, 1))
    (hr : ∀ h', Keep h h' [a] → Vec Z h' a .byte (vs.set i (.int x.toInt8.toInt32)) → W l R C E h' k n (pc + 1) Ls st) : W l R C E h k n pc Ls (.int x :: .int j :: .ref a :: st) := fun T L X N eT => by
  have A' := A
  obtain ⟨c, A, e, hl⟩ := A
  obtain ⟨T', h', X', e', Wx, q⟩ := stB X H.1 H.2.2.2.2.1 eT A (out_ok e hj hi) (g := mkF C.2.2.2.1 pc Ls (.int x :: .int j :: .ref a :: st)) rfl rfl (hb H.2.1 hd)
  refine .step q (hr h' (Keep.of_wr Wx) ?_ T' _ X' (Fr.snoc X' N ge) e')
  rw [(idx_ok hj).2] at Wx; exact A'.set Wx
theorem k_castore {x : Int32} (H : Cx C Z own code ml ret nm E.1) (A : Vec Z h a .char vs) (hj : j.toInt = (i : Int)) (hi : i < vs.length) (ge : E.1 ≤ a) (hd : decode code pc = .ok (.castore, 1))
    (hr : ∀ h', Keep h h' [a] → Vec Z h' a .char (vs.set i (.int x.toUInt32.toUInt16.toUInt32.toInt32)) → W l R C E h' k n (pc + 1) Ls st) : W l R C E h k n pc Ls (.int x :: .int j :: .ref a :: st) := fun T L X N eT => by
  have A' := A
  obtain ⟨c, A, e, hl⟩ := A
  obtain ⟨T', h', X', e', Wx, q⟩ := stC X H.1 H.2.2.2.2.1 eT A (out_ok e hj hi) (g := mkF C.2.2.2.1 pc Ls (.int x :: .int j :: .ref a :: st)) rfl rfl (hb H.2.1 hd)
  refine .step q (hr h' (Keep.of_wr Wx) ?_ T' _ X' (Fr.snoc X' N ge) e')
  rw [(idx_ok hj).2] at Wx; exact A'.set Wx
end Arrs
/-- newarray of a plain kind, at most cap long -/
theorem k_newarray {aty : ArrayType} {ty : FieldType} {len : Int32} (m cap : Nat) (H : Cx C Z own code ml ret nm E.1) (w : (Cond.arrayClass ty).before a0 Z = true) (hty : newarray.typeOf aty = ty) (hd : decode code pc = .ok (.newarray aty, 2)) (hm : len.toInt = (m : Int)) (hcap : m ≤ cap) (hB : cap * 8 ≤ 536870912) (hC : k + 1 ≤ R.cells) (hS : n + cap ≤ R.slots)
    (hr : ∀ h' a, a = h.size → E.1 ≤ a → Ext h h' → Exa Z h' a ("[" ++ ty.toString) → Vec Z h' a ty (List.replicate m (defaultValue ty)) → W l R C E h' (k + 1) (n + cap) (pc + 2) Ls (.ref a :: st)) : W l R C E h k n pc Ls (.int len :: st) := fun T L X N eT => by
  subst hty
  obtain ⟨q1, q2⟩ := idx_ok hm
  obtain ⟨T', h', cA, X', e', Ex, A, XA, q⟩ := newPE X H.1 H.2.2.2.2.1 w eT (g := mkF C.2.2.2.1 pc Ls (.int len :: st)) rfl (hb H.2.1 hd) rfl q1 (cap := cap) (by rw [q2]; exact hcap) hB hC hS rfl
  have hlt : m < 2 ^ 31 := by have := len.toInt_lt; omega
  refine .step q (hr h' h.size rfl (by rw [← eT]; exact size_ge H X) Ex XA ⟨_, A, ?_, by simpa using hlt⟩ T' _ X' N e')
  simp [newA, q2]
theorem k_newObj {idx ns : Nat} {cls : String} (H : Cx C Z own code ml ret nm E.1) (w : (Cond.classLink own idx cls).before a0 Z = true) (wi : (Cond.instantiable cls ns).before a0 Z = true) (wz : (Cond.initialized cls).before a0 Z = true) (hd : decode code pc = .ok (.new idx, 3)) (hC : k + 1 ≤ R.cells) (hS : n + ns ≤ R.slots)
    (hr : ∀ h' a, a = h.size → E.1 ≤ a → Ext h h' → Exa Z h' a cls → (∀ {O nf d : String} {ty : FieldType}, Laid Z a0 cls O nf d → parseFieldDescriptor d = some ty → Fld Z h' a O nf d (defaultValue ty)) → W l R C E h' (k + 1) (n + ns) (pc + 3) Ls (.ref a :: st)) : W l R C E h k n pc Ls st := fun T L X N eT => by
  obtain ⟨T', h', X', e', Ex, A, D, -, q⟩ := newO X H.1 H.2.2.2.2.1 H.2.2.2.1 w wi wz eT (g := mkF C.2.2.2.1 pc Ls st) rfl (hb H.2.1 hd) hC hS
  exact .step q (hr h' h.size rfl (by rw [← eT]; exact size_ge H X) Ex A D T' _ X' N e')
theorem k_initObj {idx w : Nat} {a : Addr} (H : Cx C Z own code ml ret nm E.1) (w1 : (Cond.methodLink own idx Lib.objectInit).before a0 Z = true) (w2 : (Cond.instanceMethod Lib.objectInit).before a0 Z = true) (w3 : (Cond.code Lib.objectInit ⟨#[0xb1]⟩ 1 none).before a0 Z = true) (hd : decode code pc = .ok (.invokespecial idx, 3)) (hsz : Ls.size = ml) (hF : 1 ≤ R.frames)
    (hw : (st.map fun v => v.category).sum = w) (hL : w + 12 ≤ R.locals) (hr : W l R C E h k n (pc + 3) Ls st) : W l R C E h k n pc Ls (.ref a :: st) :=
  .viaT (fun T L X eT => initO X H.1 H.2.2.2.2.1 H.2.2.2.1 w1 w2 w3 eT (g := mkF C.2.2.2.1 pc Ls (.ref a :: st)) rfl (by show Ls.size = _; rw [H.2.2.1]; exact hsz) rfl (hb H.2.1 hd) hF (W := w) (by show 2 * 0 + _ ≤ _; rw [hw]; omega) hL) hr
theorem k_getfield {idx : Nat} {O nf d : String} {a : Addr} {v : Value} (H : Cx C Z own code ml ret nm E.1) (w : (Cond.fieldLink own idx O nf d).before a0 Z = true) (F : Fld Z h a O nf d v) (hd : decode code pc = .ok (.getfield idx, 3)) (hr : W l R C E h k n (pc + 3) Ls (v :: st)) : W l R C E h k n pc Ls (.ref a :: st) :=
  .viaT (fun T L X eT => getF X H.1 H.2.2.2.2.1 H.2.2.2.1 (host := "") (Or.inl w) Via.refl eT F (g := mkF C.2.2.2.1 pc Ls (.ref a :: st)) rfl rfl (hb H.2.1 hd)) hr
theorem k_putfield {idx kk : Nat} {O nf d cls : String} {a : Addr} {v old : Value} (ty : FieldType) (H : Cx C Z own code ml ret nm E.1) (w : (Cond.fieldLink own idx O nf d).before a0 Z = true) (F : Fld Z h a O nf d old) (X0 : Exa Z h a cls) (La : (Cond.lays cls O nf d).before a0 Z = true ∨ ((Cond.laysFinal cls O nf d).before a0 Z = true ∧ own = O ∧ nm = "<init>"))
    (wi : (Cond.instantiable cls kk).before a0 Z = true) (hty : parseFieldDescriptor d = some ty) (hn : narrow ty v = v) (hf : fits ty v = true) (ge : E.1 ≤ a) (hd : decode code pc = .ok (.putfield idx, 3))
    (hr : ∀ h', Wr h h' a (Jvm.RoadKit.slotOf Z O nf d) v → Fld Z h' a O nf d v → W l R C E h' k n (pc + 3) Ls st) : W l R C E h k n pc Ls (v :: .ref a :: st) := fun T L X N eT => by
  obtain ⟨T', h', X', e', Wx, q⟩ := putF X H.1 H.2.2.2.2.1 H.2.2.2.1 (host := "") (Or.inl w) Via.refl eT F X0 (La.imp id fun z => ⟨z.1, z.2.1, H.2.2.2.2.2.2.2.1.trans z.2.2⟩) wi hty hn hf (g := mkF C.2.2.2.1 pc Ls (v :: .ref a :: st)) rfl rfl (hb H.2.1 hd)
  exact .step q (hr h' Wx (F.same Wx) T' _ X' (Fr.snoc X' N ge) e')
/-! arrays by the kind of what they hold -/
section Typed
variable {a : Addr} {j : Int32} {i : Nat}
theorem map_at {α : Type} {f : α → Value} {xs : List α} {x : α} (hv : xs[i]? = some x) : (xs.map f)[i]? = some (f x) := by rw [List.getElem?_map, hv]; rfl
theorem k_ialoadT {xs : List Int32} {x : Int32} (H : Cx C Z own code ml ret nm E.1) (A : IA Z h a xs) (hj : j.toInt = (i : Int)) (hv : xs[i]? = some x) (hd : decode code pc = .ok (.iaload, 1)) (hr : W l R C E h k n (pc + 1) Ls ((.int x) :: st)) : W l R C E h k n pc Ls (.int j :: .ref a :: st) := k_iaload H A hj (map_at hv) hd hr
theorem k_iastoreT {xs : List Int32} {x : Int32} (H : Cx C Z own code ml ret nm E.1) (A : IA Z h a xs) (hj : j.toInt = (i : Int)) (hi : i < xs.length) (ge : E.1 ≤ a) (hd : decode code pc = .ok (.iastore, 1))
    (hr : ∀ h', Keep h h' [a] → IA Z h' a (xs.set i x) → W l R C E h' k n (pc + 1) Ls st) : W l R C E h k n pc Ls ((.int x) :: .int j :: .ref a :: st) := k_iastore H A hj (by simpa using hi) ge hd (fun h' K V => hr h' K (by rw [IA, List.map_set]; exact V))
theorem k_new_int {len : Int32} (m cap : Nat) (H : Cx C Z own code ml ret nm E.1) (w : (Cond.arrayClass .int).before a0 Z = true) (hd : decode code pc = .ok (.newarray .int, 2)) (hm : len.toInt = (m : Int)) (hcap : m ≤ cap) (hB : cap * 8 ≤ 536870912) (hC : k + 1 ≤ R.cells) (hS : n + cap ≤ R.slots)
    (hr : ∀ h' a, a = h.size → E.1 ≤ a → Ext h h' → Exa Z h' a "[I" → IA Z h' a (List.replicate m 0) → W l R C E h' (k + 1) (n + cap) (pc + 2) Ls (.ref a :: st)) : W l R C E h k n pc Ls (.int len :: st) := k_newarray m cap H w rfl hd hm hcap hB hC hS (fun h' a e g X XA V => hr h' a e g X XA (by rw [IA, List.map_replicate]; exact V))
theorem k_laloadT {xs : List Int64} {x : Int64} (H : Cx C Z own code ml ret nm E.1) (A : JA Z h a xs) (hj : j.toInt = (i : Int)) (hv : xs[i]? = some x) (hd : decode code pc = .ok (.laload, 1)) (hr : W l R C E h k n (pc + 1) Ls ((.long x) :: st)) : W l R C E h k n pc Ls (.int j :: .ref a :: st) := k_laload H A hj (map_at hv) hd hr
theorem k_lastoreT {xs : List Int64} {x : Int64} (H : Cx C Z own code ml ret nm E.1) (A : JA Z h a xs) (hj : j.toInt = (i : Int)) (hi : i < xs.length) (ge : E.1 ≤ a) (hd : decode code pc = .ok (.lastore, 1))
    (hr : ∀ h', Keep h h' [a] → JA Z h' a (xs.set i x) → W l R C E h' k n (pc + 1) Ls st) : W l R C E h k n pc Ls ((.long x) :: .int j :: .ref a :: st) := k_lastore H A hj (by simpa using hi) ge hd (fun h' K V => hr h' K (by rw [JA, List.map_set]; exact V))
theorem k_new_long {len : Int32} (m cap : Nat) (H : Cx C Z own code ml ret nm E.1) (w : (Cond.arrayClass .long).before a0 Z = true) (hd : decode code pc = .ok (.newarray .long, 2)) (hm : len.toInt = (m : Int)) (hcap : m ≤ cap) (hB : cap * 8 ≤ 536870912) (hC : k + 1 ≤ R.cells) (hS : n + cap ≤ R.slots)
    (hr : ∀ h' a, a = h.size → E.1 ≤ a → Ext h h' → Exa Z h' a "[J" → JA Z h' a (List.replicate m 0) → W l R C E h' (k + 1) (n + cap) (pc + 2) Ls (.ref a :: st)) : W l R C E h k n pc Ls (.int len :: st) := k_newarray m cap H w rfl hd hm hcap hB hC hS (fun h' a e g X XA V => hr h' a e g X XA (by rw [JA, List.map_replicate]; exact V))
theorem k_baloadT {xs : List Int8} {x : Int8} (H : Cx C Z own code ml ret nm E.1) (A : BA Z h a xs) (hj : j.toInt = (i : Int)) (hv : xs[i]? = some x) (hd : decode code pc = .ok (.baload, 1)) (hr : W l R C E h k n (pc + 1) Ls ((.int x.toInt32) :: st)) : W l R C E h k n pc Ls (.int j :: .ref a :: st) := k_baload H A hj (map_at hv) hd hr
theorem k_bastoreT {xs : List Int8} {x : Int32} (H : Cx C Z own code ml ret nm E.1) (A : BA Z h a xs) (hj : j.toInt = (i : Int)) (hi : i < xs.length) (ge : E.1 ≤ a) (hd : decode code pc = .ok (.bastore, 1))
    (hr : ∀ h', Keep h h' [a] → BA Z h' a (xs.set i x.toInt8) → W l R C E h' k n (pc + 1) Ls st) : W l R C E h k n pc Ls ((.int x) :: .int j :: .ref a :: st) := k_bastore H A hj (by simpa using hi) ge hd (fun h' K V => hr h' K (by rw [BA, List.map_set]; exact V))
theorem k_new_byte {len : Int32} (m cap : Nat) (H : Cx C Z own code ml ret nm E.1) (w : (Cond.arrayClass .byte).before a0 Z = true) (hd : decode code pc = .ok (.newarray .byte, 2)) (hm : len.toInt = (m : Int)) (hcap : m ≤ cap) (hB : cap * 8 ≤ 536870912) (hC : k + 1 ≤ R.cells) (hS : n + cap ≤ R.slots)
    (hr : ∀ h' a, a = h.size → E.1 ≤ a → Ext h h' → Exa Z h' a "[B" → BA Z h' a (List.replicate m 0) → W l R C E h' (k + 1) (n + cap) (pc + 2) Ls (.ref a :: st)) : W l R C E h k n pc Ls (.int len :: st) := k_newarray m cap H w rfl hd hm hcap hB hC hS (fun h' a e g X XA V => hr h' a e g X XA (by rw [BA, List.map_replicate]; exact V))
theorem k_caloadT {xs : List UInt16} {x : UInt16} (H : Cx C Z own code ml ret nm E.1) (A : CA Z h a xs) (hj : j.toInt = (i : Int)) (hv : xs[i]? = some x) (hd : decode code pc = .ok (.caload, 1)) (hr : W l R C E h k n (pc + 1) Ls ((.int x.toUInt32.toInt32) :: st)) : W l R C E h k n pc Ls (.int j :: .ref a :: st) := k_caload H A hj (map_at hv) hd hr
theorem k_castoreT {xs : List UInt16} {x : Int32} (H : Cx C Z own code ml ret nm E.1) (A : CA Z h a xs) (hj : j.toInt = (i : Int)) (hi : i < xs.length) (ge : E.1 ≤ a) (hd : decode code pc = .ok (.castore, 1))
    (hr : ∀ h', Keep h h' [a] → CA Z h' a (xs.set i x.toUInt32.toUInt16) → W l R C E h' k n (pc + 1) Ls st) : W l R C E h k n pc Ls ((.int x) :: .int j :: .ref a :: st) := k_castore H A hj (by simpa using hi) ge hd (fun h' K V => hr h' K (by rw [CA, List.map_set]; exact V))
theorem k_new_char {len : Int32} (m cap : Nat) (H : Cx C Z own code ml ret nm E.1) (w : (Cond.arrayClass .char).before a0 Z = true) (hd : decode code pc = .ok (.newarray .char, 2)) (hm : len.toInt = (m : Int)) (hcap : m ≤ cap) (hB : cap * 8 ≤ 536870912) (hC : k + 1 ≤ R.cells) (hS : n + cap ≤ R.slots)
    (hr : ∀ h' a, a = h.size → E.1 ≤ a → Ext h h' → Exa Z h' a "[C" → CA Z h' a (List.replicate m 0) → W l R C E h' (k + 1) (n + cap) (pc + 2) Ls (.ref a :: st)) : W l R C E h k n pc Ls (.int len :: st) := k_newarray m cap H w rfl hd hm hcap hB hC hS (fun h' a e g X XA V => hr h' a e g X XA (by rw [CA, List.map_replicate]; exact V))
theorem fits_of {ty : FieldType} {vs : List Value} {c : Cell} (A : Arr Z h a c ty) (e : c.slots = vs.toArray) (hf : ∀ v ∈ vs, fits ty v = true) : FitC Z c := fitC_of A fun i hi v hv => hf v (by rw [e] at hv; simp at hv; exact List.mem_of_getElem? hv)
theorem k_clone {idx w cap : Nat} {ty : FieldType} {ad : String} {vs : List Value} (H : Cx C Z own code ml ret nm E.1)
    (w1 : (Cond.methodLink own idx ⟨ad, "clone", "()Ljava/lang/Object;"⟩).before a0 Z = true) (w2 : (Cond.sameMethod ad "java/lang/Object" "clone" "()Ljava/lang/Object;").before a0 Z = true) (w3 : (Cond.native ⟨"java/lang/Object", "clone", "()Ljava/lang/Object;"⟩).before a0 Z = true)
    (w4 : (Cond.instanceMethod ⟨"java/lang/Object", "clone", "()Ljava/lang/Object;"⟩).before a0 Z = true) (w5 : (Cond.selects ad ⟨ad, "clone", "()Ljava/lang/Object;"⟩ ⟨"java/lang/Object", "clone", "()Ljava/lang/Object;"⟩).before a0 Z = true) (w6 : (Cond.castable ad "java/lang/Cloneable").before a0 Z = true)
    (V : Vec Z h a ty vs) (hf : ∀ v ∈ vs, fits ty v = true) (X0 : Exa Z h a ad) (hd : decode code pc = .ok (.invokevirtual idx, 3)) (hsz : Ls.size = ml) (hF : 1 ≤ R.frames) (hw : (st.map fun v => v.category).sum = w) (hL : w + 14 ≤ R.locals) (hcap : vs.length ≤ cap) (hC : k + 1 ≤ R.cells) (hS : n + cap ≤ R.slots)
    (hr : ∀ h' b, b = h.size → E.1 ≤ b → Ext h h' → Exa Z h' b ad → Vec Z h' b ty vs → W l R C E h' (k + 1) (n + cap) (pc + 3) Ls (.ref b :: st)) : W l R C E h k n pc Ls (.ref a :: st) := fun T L X N eT => by
  obtain ⟨c, A, e, hl⟩ := V
  obtain ⟨T', h', X', e', Ex, A', XA, q⟩ := cloneA X H.1 H.2.2.2.2.1 H.2.2.2.1 w1 w2 w3 w4 w5 w6 eT A X0 (fits_of A e hf) (g := mkF C.2.2.2.1 pc Ls (.ref a :: st)) rfl (by show Ls.size = _; rw [H.2.2.1]; exact hsz) rfl (hb H.2.1 hd) hF (W := w) (cap := cap) (by show 2 * 0 + _ ≤ _; rw [hw]; omega) hL (by rw [e]; simpa using hcap) hC hS
  exact .step q (hr h' h.size rfl (by rw [← eT]; exact size_ge H X) Ex XA ⟨_, A', e, hl⟩ T' _ X' N e')
theorem k_castY {idx : Nat} {K ad : String} (H : Cx C Z own code ml ret nm E.1) (w : (Cond.classLink own idx K).before a0 Z = true) (wc : (Cond.castable ad K).before a0 Z = true) (X0 : Exa Z h a ad) (hd : decode code pc = .ok (.checkcast idx, 3)) (hr : W l R C E h k n (pc + 3) Ls (.ref a :: st)) : W l R C E h k n pc Ls (.ref a :: st) :=
  .viaT (fun T L X eT => castY X H.1 H.2.2.2.2.1 H.2.2.2.1 w eT (Ins.of_exa X0 wc) (g := mkF C.2.2.2.1 pc Ls (.ref a :: st)) rfl rfl (hb H.2.1 hd)) hr
end Typed
/-! calls -/
section Calls
variable {y : MethodName} {bytes : ByteArray} {maxL : Nat} {rt : Option FieldType} {rm : Room} {Q : Option Value → Heap → Prop} {S : List Value}
theorem Goes.trans {T T' : State} {g g' : JFrame} (q : Sp C (T.setTop g) (T'.setTop g')) (r : Goes C E (T'.setTop g')) : Goes C E (T.setTop g) := by
  obtain ⟨t, o, h1, h2⟩ := r; exact ⟨t, o, q.trans h1, h2⟩
theorem payOf {s : State} {p : Program} {e : Env} {below : List Frame} {args : Array Value} {w n0 : Nat} {as' : Array Value} (hc : Ctr l Z y bytes maxL rt rm n0 as' h Q) (hZ : Z.Warmed39 s.vm) (w4 : (Cond.code y bytes maxL rt).before a0 Z = true) (w3 : (Cond.initialized y.cls).before a0 Z = true) (hF : rm.frames + 1 ≤ R.frames) (hL : w + (maxL + 11) + rm.locals ≤ R.locals) :
    Back l R p e below s args y 3 w (fun A a => a = as' ∧ A.U.heap = h ∧ A.cells + rm.cells ≤ R.cells ∧ A.slots + rm.slots ≤ R.slots)
      (fun A _ v B => ∃ L, (Q v B.U.heap ∧ Fr n0 L) ∧ B.locs = A.locs ++ L ∧ B.cells = A.cells + rm.cells ∧ B.slots = A.slots + rm.slots) :=
  backOf (Q := fun v h L => Q v h ∧ Fr n0 L) hc hZ w4 w3 hF hL
theorem k_invS {idx : Nat} (argsL : List Value) (w : Nat) (H : Cx C Z own code ml ret nm E.1) (w1 : (Cond.methodLink own idx y).before a0 Z = true) (w2 : (Cond.static y).before a0 Z = true) (w3 : (Cond.initialized y.cls).before a0 Z = true) (w4 : (Cond.code y bytes maxL rt).before a0 Z = true)
    (hy : y.cls ≠ "java/lang/invoke/MethodHandle" ∧ y.cls ≠ "java/lang/invoke/VarHandle") (hc : E.1 ≤ h.size → Ctr l Z y bytes maxL rt rm E.1 argsL.toArray h Q) (hlen : ∀ sig, parseMethodDescriptor y.desc = some sig → argsL.length = sig.parameters.length)
    (hd : decode code pc = .ok (.invokestatic idx, 3)) (hS : S = argsL.reverse ++ st) (hsz : Ls.size = ml) (hw : (st.map fun v => v.category).sum = w) (hF : rm.frames + 1 ≤ R.frames) (hL : w + (maxL + 11) + rm.locals ≤ R.locals) (hk : k + rm.cells ≤ R.cells) (hn : n + rm.slots ≤ R.slots)
    (hr : ∀ v h', Q v h' → W l R C E h' (k + rm.cells) (n + rm.slots) (pc + 3) Ls (v.toList ++ st)) : W l R C E h k n pc Ls S := fun T L X N eT => by
  obtain ⟨v, _, ⟨T', L', k', n'⟩, -, X', ⟨Lc, ⟨hQ, hN⟩, l', y', z'⟩, q⟩ := Jvm.LawKit.callS X H.1 (y := y) H.2.2.2.1 (mvT H.2.2.2.2.1 w1) (mvT H.2.2.2.2.1 w2) (mvT H.2.2.2.2.1 w3) (mvT H.2.2.2.2.1 w4) hy (payOf (w := w) (hc (by rw [← eT]; exact size_ge H X)) H.2.2.2.2.1 w4 w3 hF hL)
    (g := mkF C.2.2.2.1 pc Ls S) rfl (by show Ls.size = _; rw [H.2.2.1]; exact hsz) (argsL := argsL) (rest := st) hlen hS (by show 2 * 0 + _ ≤ _; rw [hw]; omega) (hb H.2.1 hd) (fun _ _ => ⟨rfl, eT, hk, hn⟩)
  dsimp only [Pt.U, Pt.locs, Pt.cells, Pt.slots] at X' l' y' z' q hQ
  subst l' y' z'
  exact .step q (hr v _ hQ T' _ X' (N.app hN) rfl)
theorem k_invI {idx : Nat} {a : Addr} (argsL : List Value) (w : Nat) (H : Cx C Z own code ml ret nm E.1) (hy1 : y.name = "<init>") (w1 : (Cond.methodLink own idx y).before a0 Z = true) (w2 : (Cond.instanceMethod y).before a0 Z = true) (w3 : (Cond.initialized y.cls).before a0 Z = true) (w4 : (Cond.code y bytes maxL none).before a0 Z = true)
    (hy : y.cls ≠ "java/lang/invoke/MethodHandle" ∧ y.cls ≠ "java/lang/invoke/VarHandle") (hc : E.1 ≤ h.size → Ctr l Z y bytes maxL none rm E.1 (.ref a :: argsL).toArray h Q) (hlen : ∀ sig, parseMethodDescriptor y.desc = some sig → argsL.length = sig.parameters.length)
    (hd : decode code pc = .ok (.invokespecial idx, 3)) (hS : S = argsL.reverse ++ .ref a :: st) (hsz : Ls.size = ml) (hw : (st.map fun v => v.category).sum = w) (hF : rm.frames + 1 ≤ R.frames) (hL : w + (maxL + 11) + rm.locals ≤ R.locals) (hk : k + rm.cells ≤ R.cells) (hn : n + rm.slots ≤ R.slots)
    (hr : ∀ v h', Q v h' → W l R C E h' (k + rm.cells) (n + rm.slots) (pc + 3) Ls (v.toList ++ st)) : W l R C E h k n pc Ls S := fun T L X N eT => by
  obtain ⟨v, _, ⟨T', L', k', n'⟩, -, X', ⟨Lc, ⟨hQ, hN⟩, l', y', z'⟩, q⟩ := X.specialBack H.1 (y := y) hy1 H.2.2.2.1 (mvT H.2.2.2.2.1 w1) (mvT H.2.2.2.2.1 w2) (mvT H.2.2.2.2.1 w4) hy (payOf (w := w) (hc (by rw [← eT]; exact size_ge H X)) H.2.2.2.2.1 w4 w3 hF hL)
    (g := mkF C.2.2.2.1 pc Ls S) rfl (by show Ls.size = _; rw [H.2.2.1]; exact hsz) (Steps.refl _) (a := a) (argsL := argsL) (rest := st) hlen hS (by show 2 * 0 + _ ≤ _; rw [hw]; omega) (hb H.2.1 hd) (fun _ _ => ⟨rfl, eT, hk, hn⟩)
  dsimp only [Pt.U, Pt.locs, Pt.cells, Pt.slots] at X' l' y' z' q hQ
  subst l' y' z'
  exact .trans q (hr v _ hQ T' _ X' (N.app hN) rfl)
theorem k_invV {idx : Nat} {a : Addr} {cls : String} (argsL : List Value) (w : Nat) (H : Cx C Z own code ml ret nm E.1) (w1 : (Cond.methodLink own idx y).before a0 Z = true) (w2 : (Cond.declares y).before a0 Z = true) (w5 : (Cond.selects cls y y).before a0 Z = true) (w6 : (Cond.instanceMethod y).before a0 Z = true) (w3 : (Cond.initialized y.cls).before a0 Z = true) (w4 : (Cond.code y bytes maxL rt).before a0 Z = true)
    (hcl : y.cls = cls) (hy : y.cls ≠ "java/lang/invoke/MethodHandle" ∧ y.cls ≠ "java/lang/invoke/VarHandle") (X0 : Exa Z h a cls) (hc : E.1 ≤ h.size → Ctr l Z y bytes maxL rt rm E.1 (.ref a :: argsL).toArray h Q) (hlen : ∀ sig, parseMethodDescriptor y.desc = some sig → argsL.length = sig.parameters.length)
    (hd : decode code pc = .ok (.invokevirtual idx, 3)) (hS : S = argsL.reverse ++ .ref a :: st) (hsz : Ls.size = ml) (hw : (st.map fun v => v.category).sum = w) (hF : rm.frames + 1 ≤ R.frames) (hL : w + (maxL + 11) + rm.locals ≤ R.locals) (hk : k + rm.cells ≤ R.cells) (hn : n + rm.slots ≤ R.slots)
    (hr : ∀ v h', Q v h' → W l R C E h' (k + rm.cells) (n + rm.slots) (pc + 3) Ls (v.toList ++ st)) : W l R C E h k n pc Ls S := fun T L X N eT => by
  subst hcl
  obtain ⟨cq, kq, qa, qb, qc⟩ := isOf H.2.2.2.2.1 eT X0
  obtain ⟨v, _, ⟨T', L', k', n'⟩, -, X', ⟨Lc, ⟨hQ, hN⟩, l', y', z'⟩, q⟩ := X.virtualBack H.1 (y := y) (z := y) H.2.2.2.1 (mvT H.2.2.2.2.1 w1) (mvT H.2.2.2.2.1 w2) (notFace_of_selects (args := #[]) (mvT H.2.2.2.2.1 w5)) (mvT H.2.2.2.2.1 w5) (mvT H.2.2.2.2.1 w6) hy (payOf (w := w) (hc (by rw [← eT]; exact size_ge H X)) H.2.2.2.2.1 w4 w3 hF hL) qa qc
    (g := mkF C.2.2.2.1 pc Ls S) rfl (by show Ls.size = _; rw [H.2.2.1]; exact hsz) (Steps.refl _) (argsL := argsL) (rest := st) hlen hS (by show 2 * 0 + _ ≤ _; rw [hw]; omega) (hb H.2.1 hd) (fun _ _ => ⟨rfl, eT, hk, hn⟩)
  dsimp only [Pt.U, Pt.locs, Pt.cells, Pt.slots] at X' l' y' z' q hQ
  subst l' y' z'
  exact .trans q (hr v _ hQ T' _ X' (N.app hN) rfl)
theorem Ctr.of {n0 : Nat} {as' : Array Value} (Ls : Array Slot) (hp : plainFor y = true) (hn0 : n0 ≤ h.size) (hef : ∀ m, entryFrame m as' maxL = mkF m 0 Ls []) (hW : ∀ C : Cxt, Cx C Z y.cls bytes maxL rt y.name n0 → W l rm C (n0, rm.cells, rm.slots, Q) h 0 0 0 Ls []) : Ctr l Z y bytes maxL rt rm n0 as' h Q := by
  refine MetFree.of_bodySF hp hisR ?_
  intro p e s m args below meth c s₁ Bd hml0 hP hK
  obtain ⟨rfl, hZ, hh⟩ := hP
  have hnm := (name_of_methodNamed Bd.named Bd.method).1
  have X0 : Stand p l e rm s m args below meth c s₁ [] 0 0 := Stand.of_body Bd
  have e0 : s₁.heap = h := by rw [← hh, Bd.state]; rfl
  obtain ⟨t, o, h1, h2, h3, v, L, h4, h5, h6⟩ := hW (p, e, s, m, args, below, meth, c) ⟨Bd.exec, Bd.bytes, hml0, findClass_of_methodNamed Bd.named, hZ, Bd.returns, Bd.notSynchronized, hnm, by rw [hh]; exact hn0⟩ s₁ [] X0 (Fr.nil n0) e0
  exact ⟨t, o, castTop (hef m) h1, h2, h3, v, L, h4, h5, h6⟩
/-- the judged body itself -/
theorem met_of {n0 K N : Nat} {ws : List Jvm.Cond} {as' : Array Value} (Ls : Array Slot) (hp : plainFor y = true) (hn0 : n0 ≤ h.size) (hef : ∀ m, entryFrame m as' maxL = mkF m 0 Ls []) (hW : ∀ C : Cxt, Cx C Z y.cls bytes maxL rt y.name n0 → W l rm C (n0, K, N, Q) h 0 0 0 Ls []) :
    MetFree l y (head1 (Cond.code y bytes maxL rt :: ws) rm) (fun a U => a = as' ∧ Z.Warmed39 U.vm ∧ U.heap = h) (fun _ _ _ _ _ => True) (fun _ U o U' => ∃ v L, o = .returned v ∧ (Q v U'.heap ∧ Fr n0 L) ∧ FrameEnd U o U' L K N) := by
  refine MetFree.of_bodySF hp hisR ?_
  intro p e s m args below meth c s₁ Bd hml0 hP hK
  obtain ⟨rfl, hZ, hh⟩ := hP
  have hnm := (name_of_methodNamed Bd.named Bd.method).1
  have X0 : Stand p l e rm s m args below meth c s₁ [] 0 0 := Stand.of_body Bd
  have e0 : s₁.heap = h := by rw [← hh, Bd.state]; rfl
  obtain ⟨t, o, h1, h2, h3, v, L, h4, h5, h6⟩ := hW (p, e, s, m, args, below, meth, c) ⟨Bd.exec, Bd.bytes, hml0, findClass_of_methodNamed Bd.named, hZ, Bd.returns, Bd.notSynchronized, hnm, by rw [hh]; exact hn0⟩ s₁ [] X0 (Fr.nil n0) e0
  exact ⟨t, o, castTop (hef m) h1, h2, h3, v, L, h4, h5, h6⟩
end Calls
/-! ends -/
theorem k_retInt {x : Int32} (H : Cx C Z own code ml (some .int) nm E.1) (hd : decode code pc = .ok (.ireturn, 1)) (hk : k ≤ E.2.1) (hn : n ≤ E.2.2.1) (hq : E.2.2.2 (some (.int x)) h) : W l R C E h k n pc Ls (.int x :: st) := fun T L X N eT => by
  obtain ⟨fs, hr, hrun, hend, hW, hs⟩ := X.leave (v := some (.int x)) (fun z => by rw [H.2.2.2.2.2.1] at z; cases z) H.2.2.2.2.2.2.1
  exact ⟨_, _, retOut X H.1 H.2.2.2.2.2.1 rfl (Or.inl ⟨rfl, Or.inl rfl, _, rfl⟩) (hb H.2.1 hd) hr, hrun, hend, _, L, rfl, ⟨by subst eT; exact hq, N⟩, ⟨_, rfl⟩, hW, hs.mono hk hn⟩
theorem k_retN' {x : Int32} {t : FieldType} (ht : t = .boolean ∨ t = .byte ∨ t = .char ∨ t = .short) (H : Cx C Z own code ml (some t) nm E.1) (hd : decode code pc = .ok (.ireturn, 1)) (hk : k ≤ E.2.1) (hn : n ≤ E.2.2.1) (hq : E.2.2.2 (some (.int (nar t x))) h) : W l R C E h k n pc Ls (.int x :: st) := fun T L X N eT => by
  obtain ⟨fs, hr, hrun, hend, hW, hs⟩ := X.leave (v := some (.int (nar t x))) (fun z => by rw [H.2.2.2.2.2.1] at z; cases z) H.2.2.2.2.2.2.1
  exact ⟨_, _, retN X H.1 H.2.2.2.2.2.1 ht (hb H.2.1 hd) hr, hrun, hend, _, L, rfl, ⟨by subst eT; exact hq, N⟩, ⟨_, rfl⟩, hW, hs.mono hk hn⟩
theorem k_retLong {x : Int64} (H : Cx C Z own code ml (some .long) nm E.1) (hd : decode code pc = .ok (.lreturn, 1)) (hk : k ≤ E.2.1) (hn : n ≤ E.2.2.1) (hq : E.2.2.2 (some (.long x)) h) : W l R C E h k n pc Ls (.long x :: st) := fun T L X N eT => by
  obtain ⟨fs, hr, hrun, hend, hW, hs⟩ := X.leave (v := some (.long x)) (fun z => by rw [H.2.2.2.2.2.1] at z; cases z) H.2.2.2.2.2.2.1
  exact ⟨_, _, retOut X H.1 H.2.2.2.2.2.1 rfl (Or.inr (Or.inl ⟨rfl, rfl, _, rfl⟩)) (hb H.2.1 hd) hr, hrun, hend, _, L, rfl, ⟨by subst eT; exact hq, N⟩, ⟨_, rfl⟩, hW, hs.mono hk hn⟩
theorem k_retRef {a : Addr} {t : FieldType} (ht : t.isReference = true) (hnar : narrow t (.ref a) = .ref a) (H : Cx C Z own code ml (some t) nm E.1) (hd : decode code pc = .ok (.areturn, 1)) (hk : k ≤ E.2.1) (hn : n ≤ E.2.2.1) (hq : E.2.2.2 (some (.ref a)) h) : W l R C E h k n pc Ls (.ref a :: st) := fun T L X N eT => by
  obtain ⟨fs, hr, hrun, hend, hW, hs⟩ := X.leave (v := some (.ref a)) (fun z => by rw [H.2.2.2.2.2.1] at z; cases z) H.2.2.2.2.2.2.1
  exact ⟨_, _, retOut X H.1 H.2.2.2.2.2.1 hnar (Or.inr (Or.inr (Or.inr (Or.inr ⟨rfl, ht, rfl⟩)))) (hb H.2.1 hd) hr, hrun, hend, _, L, rfl, ⟨by subst eT; exact hq, N⟩, ⟨_, rfl⟩, hW, hs.mono hk hn⟩
theorem k_retVoid (H : Cx C Z own code ml none nm E.1) (hd : decode code pc = .ok (.return_, 1)) (hk : k ≤ E.2.1) (hn : n ≤ E.2.2.1) (hq : E.2.2.2 none h) : W l R C E h k n pc Ls [] := fun T L X N eT => by
  obtain ⟨fs, hr, hrun, hend, hW, hs⟩ := X.leave (v := none) (fun _ => rfl) H.2.2.2.2.2.2.1
  exact ⟨_, _, X.returnOut H.1 H.2.2.2.2.2.1 (hb H.2.1 hd) hr, hrun, hend, _, L, rfl, ⟨by subst eT; exact hq, N⟩, ⟨_, rfl⟩, hW, hs.mono hk hn⟩
end Own
end Jvm.OwnKit
namespace Jvm.OwnKit
/-! small naturals as ints -/
theorem lt_nat {x y : Int32} {i j : Nat} (hx : x.toInt = (i : Int)) (hy : y.toInt = (j : Int)) : x < y ↔ i < j := by rw [Int32.lt_iff_toInt_lt, hx, hy]; omega
theorem eq_nat {x y : Int32} {i j : Nat} (hx : x.toInt = (i : Int)) (hy : y.toInt = (j : Int)) : x = y ↔ i = j := by rw [← Int32.toInt_inj, hx, hy]; omega
theorem add_nat {x y : Int32} {i j : Nat} (hx : x.toInt = (i : Int)) (hy : y.toInt = (j : Int)) (hb : i + j < 2147483648) : (x + y).toInt = ((i + j : Nat) : Int) := by rw [Jvm.Kit.i32_add] <;> rw [hx, hy] <;> omega
theorem sub_nat {x y : Int32} {i j : Nat} (hx : x.toInt = (i : Int)) (hy : y.toInt = (j : Int)) (hb : j ≤ i) : (x - y).toInt = ((i - j : Nat) : Int) := by have := x.toInt_lt; rw [Jvm.Kit.i32_sub] <;> rw [hx, hy] <;> omega
theorem mul_nat {x y : Int32} {i j : Nat} (hx : x.toInt = (i : Int)) (hy : y.toInt = (j : Int)) (hb : i * j < 2147483648) : (x * y).toInt = ((i * j : Nat) : Int) := by
  have e : (i : Int) * (j : Int) = ((i * j : Nat) : Int) := by simp
  rw [Jvm.Kit.i32_mul] <;> rw [hx, hy, e] <;> omega
theorem rem_nat {x y : Int32} {i j : Nat} (hx : x.toInt = (i : Int)) (hy : y.toInt = (j : Int)) : (x % y).toInt = ((i % j : Nat) : Int) := by rw [Jvm.Kit.i32_rem_nonneg (by omega), hx, hy]; simp
theorem nat_of_nonneg {x : Int32} (h : 0 ≤ x.toInt) : ∃ i : Nat, x.toInt = (i : Int) ∧ i < 2147483648 := ⟨x.toInt.toNat, by omega, by have := x.toInt_lt; omega⟩
/-- a mask of k ones: a natural below 2 ^ k -/
theorem mask_nat (x m : Int32) (k : Nat) (hk : k < 32) (hm : m.toBitVec.toNat = 2 ^ k - 1) : ∃ i : Nat, (x &&& m).toInt = (i : Int) ∧ i < 2 ^ k := by
  have e := Jvm.Kit.i32_mask x m hk hm
  have p : (0 : Int) < 2 ^ k := Int.pow_pos (by omega)
  have h1 := Int.emod_nonneg x.toInt (Int.ne_of_gt p)
  have h2 := Int.emod_lt_of_pos x.toInt p
  refine ⟨(x.toInt % 2 ^ k).toNat, by rw [e]; omega, ?_⟩
  have h3 : ((2 ^ k : Nat) : Int) = 2 ^ k := by simp
  omega
theorem mod_nat (x m y : Int32) (k j : Nat) (hk : k < 32) (hm : m.toBitVec.toNat = 2 ^ k - 1) (hy : y.toInt = (j : Int)) (hj : 0 < j) : ∃ i : Nat, ((x &&& m) % y).toInt = (i : Int) ∧ i < j := by
  obtain ⟨i, h1, h2⟩ := mask_nat x m k hk hm
  exact ⟨i % j, rem_nat h1 hy, Nat.mod_lt _ hj⟩
theorem div_nat {x y : Int32} {i j : Nat} (hx : x.toInt = (i : Int)) (hy : y.toInt = (j : Int)) : (x / y).toInt = ((i / j : Nat) : Int) := by
  rw [Jvm.Kit.i32_div (by omega), hx, hy]; rfl
theorem ushr_nat {x y : Int32} {i : Nat} (k : Nat) (hx : x.toInt = (i : Int)) (hy : (y &&& 31).toUInt32.toNat = k) (hk : k < 32) : (Jvm.Free.XT.ushr x y).toInt = ((i / 2 ^ k : Nat) : Int) := by
  unfold Jvm.Free.XT.ushr
  rw [Jvm.Kit.i32_iushr (by rw [Int32.le_iff_toInt_le, hx]; exact Int.natCast_nonneg _) hy hk, hx]; simp
theorem c16 (c : UInt16) : c.toUInt32.toInt32.toUInt32.toUInt16 = c := by simp
theorem b8 (b : Int8) : b.toInt32.toInt8 = b := by simp
/-- a local's slot of one word -/
def OneW (s : Slot) : Prop := s = .unset ∨ ∃ w, s = .val w ∧ w.category = 1
theorem OneW.unset : OneW .unset := Or.inl rfl
theorem OneW.int (x : Int32) : OneW (.val (.int x)) := Or.inr ⟨_, rfl, rfl⟩
theorem OneW.ref (x : Addr) : OneW (.val (.ref x)) := Or.inr ⟨_, rfl, rfl⟩
end Jvm.OwnKit
namespace Jvm.Pilot.@@N@@
open Jvm Jvm.ClassFile Sem Op Lib Jvm.Free Jvm.Stand Jvm.LawKit Jvm.RoadKit Jvm.OwnKit Bundle Jvm.Pilot.@@N@@.Jvm.D
theorem pf_1 : plainFor (⟨"java/lang/Math", "min", "(II)I"⟩ : MethodName) = true := by decide +kernel
theorem pn_1 : plainName "com/example/vestline/vestline/io/DecimalDigitsValuePinLaw" = true := by first | (simp [plainName, overriddenIn]; done) | decide +kernel
theorem pd_0 : parseMethodDescriptor "(III)I" = some ⟨[.int, .int, .int], some .int⟩ := by decide +kernel
theorem own_nar (x : Int32) : nar .char x.toUInt32.toUInt16.toUInt32.toInt32 = x.toUInt32.toUInt16.toUInt32.toInt32 := by have h := XT.narrow_c x; exact Value.int.inj h
theorem pn_2 : plainName "com/example/vestline/vestline/io/DecimalDigits" = true := by first | (simp [plainName, overriddenIn]; done) | decide +kernel
theorem pd_1 : parseMethodDescriptor "(II)I" = some ⟨[.int, .int], some .int⟩ := by decide +kernel
theorem pd_2 : parseMethodDescriptor "(IIIIII)C" = some ⟨[.int, .int, .int, .int, .int, .int], some .char⟩ := by decide +kernel
theorem pd_3 : parseMethodDescriptor "(IIIII[I)I" = some ⟨[.int, .int, .int, .int, .int, (.array .int)], some .int⟩ := by decide +kernel
theorem pd_4 : parseMethodDescriptor "([CII)I" = some ⟨[(.array .char), .int, .int], some .int⟩ := by decide +kernel
theorem own_can (x : Int32) : (48 : Int32) + x - 48 = x := by rw [Int32.add_comm, Int32.add_sub_cancel]
def own_sel (i a b : Int32) : Int32 := if i < 8 then a else b
def own_off (i : Int32) : Int32 := if i < 8 then i else i - 8
def own_dig (a b i : Int32) : Int32 := (XT.ushr (own_sel i a b) ((4 : Int32) * own_off i) &&& 15) % 10
theorem own_dig_b (a b i : Int32) : ∃ m : Nat, (own_dig a b i).toInt = (m : Int) ∧ m < 10 := mod_nat (XT.ushr (own_sel i a b) ((4 : Int32) * own_off i)) 15 10 4 10 (by decide) (by decide) rfl (by decide)
def own_pw : List Int32 := [1, 10, 100, 1000, 10000, 100000, 1000000, 10000000, 100000000]
def own_h (ds : Nat → Int32) : Nat → Nat → Int32 → Int32
  | _, 0, s => s
  | i, k + 1, s => own_h ds (i + 1) k (s * 10 + ds i)
def own_s (ds : Nat → Int32) : Nat → Nat → Int32
  | _, 0 => 0
  | i, k + 1 => ds i * own_pw.getD k 0 + own_s ds (i + 1) k
theorem own_pw_s : ∀ k < 8, own_pw.getD (k + 1) 0 = 10 * own_pw.getD k 0 := by decide
theorem own_hs (ds : Nat → Int32) (k : Nat) : ∀ i s, k < 9 → own_h ds i k s = s * own_pw.getD k 0 + own_s ds i k := by
  induction k with
  | zero => intro i s _; simp [own_h, own_s, own_pw]
  | succ k ih =>
    intro i s hk
    rw [own_h, ih _ _ (by omega), own_s, own_pw_s k (by omega), Int32.add_mul, Int32.mul_assoc, Int32.add_assoc]
theorem own_h9 (ds : Nat → Int32) (k : Nat) (i : Nat) (hk : k < 10) : own_h ds i k 0 = own_s ds i k := by
  match k, hk with
  | 0, _ => rfl
  | k + 1, hk => rw [own_h, own_hs _ _ _ _ (by omega), own_s]; simp
def own_t (ds : Nat → Int32) (b e i : Nat) : Int32 := if b ≤ i ∧ i < e then ds i * own_pw.getD (e - 1 - i) 0 else 0
set_option maxRecDepth 100000 in
theorem own_sum (ds : Nat → Int32) : ∀ b ≤ 10, ∀ e ≤ 10, b ≤ e → own_t ds b e 0 + own_t ds b e 1 + own_t ds b e 2 + own_t ds b e 3 + own_t ds b e 4 + own_t ds b e 5 + own_t ds b e 6 + own_t ds b e 7 + own_t ds b e 8 + own_t ds b e 9 = own_s ds b (e - b) := by
  intro b hb e he hbe
  have hb' : b = 0 ∨ b = 1 ∨ b = 2 ∨ b = 3 ∨ b = 4 ∨ b = 5 ∨ b = 6 ∨ b = 7 ∨ b = 8 ∨ b = 9 ∨ b = 10 := by omega
  have he' : e = 0 ∨ e = 1 ∨ e = 2 ∨ e = 3 ∨ e = 4 ∨ e = 5 ∨ e = 6 ∨ e = 7 ∨ e = 8 ∨ e = 9 ∨ e = 10 := by omega
  rcases hb' with rfl | rfl | rfl | rfl | rfl | rfl | rfl | rfl | rfl | rfl | rfl <;> rcases he' with rfl | rfl | rfl | rfl | rfl | rfl | rfl | rfl | rfl | rfl | rfl <;> first | (exfalso; omega) | simp [own_t, own_s, Int32.add_assoc]
theorem own_char {x : Int32} {m : Nat} (hx : x.toInt = (m : Int)) (hm : m < 10) : ((48 : Int32) + x).toUInt32.toUInt16.toUInt32.toInt32 = (48 : Int32) + x := by
  have h : x = 0 ∨ x = 1 ∨ x = 2 ∨ x = 3 ∨ x = 4 ∨ x = 5 ∨ x = 6 ∨ x = 7 ∨ x = 8 ∨ x = 9 := by
    have : m = 0 ∨ m = 1 ∨ m = 2 ∨ m = 3 ∨ m = 4 ∨ m = 5 ∨ m = 6 ∨ m = 7 ∨ m = 8 ∨ m = 9 := by omega
    rcases this with rfl | rfl | rfl | rfl | rfl | rfl | rfl | rfl | rfl | rfl <;> simp [← Int32.toInt_inj, hx]
  rcases h with rfl | rfl | rfl | rfl | rfl | rfl | rfl | rfl | rfl | rfl <;> decide
theorem d1_0 : decode jdk_29_method_69_code 0 = .ok (.iload_n 0, 1) := by decide +kernel
theorem d1_1 : decode jdk_29_method_69_code 1 = .ok (.iload_n 1, 1) := by decide +kernel
theorem d1_2 : decode jdk_29_method_69_code 2 = .ok (.if_icmp .gt 7, 3) := by decide +kernel
theorem d1_5 : decode jdk_29_method_69_code 5 = .ok (.iload_n 0, 1) := by decide +kernel
theorem d1_6 : decode jdk_29_method_69_code 6 = .ok (.goto 4, 3) := by decide +kernel
theorem d1_9 : decode jdk_29_method_69_code 9 = .ok (.iload_n 1, 1) := by decide +kernel
theorem d1_10 : decode jdk_29_method_69_code 10 = .ok (.ireturn, 1) := by decide +kernel
abbrev own_rm1_room : Room := { frames := 0, cells := 0, slots := 0, locals := 0 }
set_option maxRecDepth 65536 in
set_option maxHeartbeats 40000000 in
theorem rm1 (l : Launch) (Z : State) (a0 : Array Value) (hw : ∀ d ∈ tables_1, d.before a0 Z = true) (n0 : Nat) (h0 : Heap) (Z0 : n0 ≤ h0.size) (x y : Int32)  :
    Ctr l Z (⟨"java/lang/Math", "min", "(II)I"⟩ : MethodName) jdk_29_method_69_code 2 (some .int) own_rm1_room n0 #[(.int x), (.int y)] h0 (fun v h => v = some (.int (if y < x then y else x)) ∧ h = h0) := by
  refine Ctr.of #[.val (.int x), .val (.int y)] pf_1 Z0 (fun m => by first | (simp [entryFrame, mkF, argsToLocals, Value.category]; done) | rfl) ?_
  intro C H
  refine k_iloadN (pc := 0) H d1_0 rfl ?_
  refine k_iloadN (pc := 1) H d1_1 rfl ?_
  refine k_icmp (P := y < x) 9 (pc := 2) H d1_2 rfl XT.ii_gt_t XT.ii_gt_f (fun c2 => ?_) (fun c2 => ?_)
  · refine k_iloadN (pc := 9) H d1_9 rfl ?_
    exact k_retInt (pc := 10) H d1_10 (by show 0 ≤ own_rm1_room.cells; decide) (by show 0 ≤ own_rm1_room.slots; decide) (⟨by simp only [*, if_true, if_false], rfl⟩)
  · refine k_iloadN (pc := 5) H d1_5 rfl ?_
    refine k_goto 10 (pc := 6) H d1_6 rfl ?_
    exact k_retInt (pc := 10) H d1_10 (by show 0 ≤ own_rm1_room.cells; decide) (by show 0 ≤ own_rm1_room.slots; decide) (⟨by simp only [*, if_true, if_false], rfl⟩)
theorem d3_0 : decode method_3_code 0 = .ok (.iload_n 2, 1) := by decide +kernel
theorem d3_1 : decode method_3_code 1 = .ok (.bipush 8, 2) := by decide +kernel
theorem d3_3 : decode method_3_code 3 = .ok (.if_icmp .ge 7, 3) := by decide +kernel
theorem d3_6 : decode method_3_code 6 = .ok (.iload_n 0, 1) := by decide +kernel
theorem d3_7 : decode method_3_code 7 = .ok (.goto 4, 3) := by decide +kernel
theorem d3_10 : decode method_3_code 10 = .ok (.iload_n 1, 1) := by decide +kernel
theorem d3_11 : decode method_3_code 11 = .ok (.istore_n 3, 1) := by decide +kernel
theorem d3_12 : decode method_3_code 12 = .ok (.iload_n 2, 1) := by decide +kernel
theorem d3_13 : decode method_3_code 13 = .ok (.bipush 8, 2) := by decide +kernel
theorem d3_15 : decode method_3_code 15 = .ok (.if_icmp .ge 7, 3) := by decide +kernel
theorem d3_18 : decode method_3_code 18 = .ok (.iload_n 2, 1) := by decide +kernel
theorem d3_19 : decode method_3_code 19 = .ok (.goto 7, 3) := by decide +kernel
theorem d3_22 : decode method_3_code 22 = .ok (.iload_n 2, 1) := by decide +kernel
theorem d3_23 : decode method_3_code 23 = .ok (.bipush 8, 2) := by decide +kernel
theorem d3_25 : decode method_3_code 25 = .ok (.isub, 1) := by decide +kernel
theorem d3_26 : decode method_3_code 26 = .ok (.istore 4, 2) := by decide +kernel
theorem d3_28 : decode method_3_code 28 = .ok (.iload_n 3, 1) := by decide +kernel
theorem d3_29 : decode method_3_code 29 = .ok (.iconst 4, 1) := by decide +kernel
theorem d3_30 : decode method_3_code 30 = .ok (.iload 4, 2) := by decide +kernel
theorem d3_32 : decode method_3_code 32 = .ok (.imul, 1) := by decide +kernel
theorem d3_33 : decode method_3_code 33 = .ok (.iushr, 1) := by decide +kernel
theorem d3_34 : decode method_3_code 34 = .ok (.bipush 15, 2) := by decide +kernel
theorem d3_36 : decode method_3_code 36 = .ok (.iand, 1) := by decide +kernel
theorem d3_37 : decode method_3_code 37 = .ok (.bipush 10, 2) := by decide +kernel
theorem d3_39 : decode method_3_code 39 = .ok (.irem, 1) := by decide +kernel
theorem d3_40 : decode method_3_code 40 = .ok (.ireturn, 1) := by decide +kernel
abbrev own_rm3_room : Room := { frames := 0, cells := 0, slots := 0, locals := 0 }
set_option maxRecDepth 65536 in
set_option maxHeartbeats 40000000 in
theorem rm3 (l : Launch) (Z : State) (a0 : Array Value) (hw : ∀ d ∈ tables_1, d.before a0 Z = true) (n0 : Nat) (h0 : Heap) (Z0 : n0 ≤ h0.size) (a b i : Int32)  :
    Ctr l Z (⟨"com/example/vestline/vestline/io/DecimalDigitsValuePinLaw", "dig", "(III)I"⟩ : MethodName) method_3_code 5 (some .int) own_rm3_room n0 #[(.int a), (.int b), (.int i)] h0 (fun v h => v = some (.int (own_dig a b i)) ∧ h = h0) := by
  refine Ctr.of #[.val (.int a), .val (.int b), .val (.int i), .unset, .unset] (plainFor_of_name pn_1) Z0 (fun m => by first | (simp [entryFrame, mkF, argsToLocals, Value.category]; done) | rfl) ?_
  intro C H
  refine k_iloadN (pc := 0) H d3_0 rfl ?_
  refine k_bipush (8 : Int32) (pc := 1) H d3_1 rfl ?_
  refine k_icmpR (P := i < (8 : Int32)) 10 (pc := 3) H d3_3 rfl XT.ii_ge_t XT.ii_ge_f (fun c3 => ?_) (fun c3 => ?_)
  · refine k_iloadN (pc := 10) H d3_10 rfl ?_
    refine k_istoreN (pc := 11) H d3_11 (Ls' := #[.val (.int a), .val (.int b), .val (.int i), .val (.int b), .unset]) rfl ?_
    refine k_iloadN (pc := 12) H d3_12 rfl ?_
    refine k_bipush (8 : Int32) (pc := 13) H d3_13 rfl ?_
    refine k_icmpR (P := i < (8 : Int32)) 22 (pc := 15) H d3_15 rfl XT.ii_ge_t XT.ii_ge_f (fun c15 => ?_) (fun c15 => ?_)
    · refine k_iloadN (pc := 22) H d3_22 rfl ?_
      refine k_bipush (8 : Int32) (pc := 23) H d3_23 rfl ?_
      refine k_isub (pc := 25) H d3_25 ?_
      refine k_istore (pc := 26) H d3_26 (Ls' := #[.val (.int a), .val (.int b), .val (.int i), .val (.int b), .val (.int (i - (8 : Int32)))]) rfl ?_
      refine k_iloadN (pc := 28) H d3_28 rfl ?_
      refine k_iconst (4 : Int32) (pc := 29) H d3_29 rfl ?_
      refine k_iload (pc := 30) H d3_30 rfl ?_
      refine k_imul (pc := 32) H d3_32 ?_
      refine k_iushr (pc := 33) H d3_33 ?_
      refine k_bipush (15 : Int32) (pc := 34) H d3_34 rfl ?_
      refine k_iand (pc := 36) H d3_36 ?_
      refine k_bipush (10 : Int32) (pc := 37) H d3_37 rfl ?_
      refine k_irem (pc := 39) H d3_39 (by decide) ?_
      exact k_retInt (pc := 40) H d3_40 (by show 0 ≤ own_rm3_room.cells; decide) (by show 0 ≤ own_rm3_room.slots; decide) (⟨by first | contradiction | (simp only [own_dig, own_sel, own_off, *, if_true, if_false]), rfl⟩)
    · refine k_iloadN (pc := 18) H d3_18 rfl ?_
      refine k_goto 26 (pc := 19) H d3_19 rfl ?_
      refine k_istore (pc := 26) H d3_26 (Ls' := #[.val (.int a), .val (.int b), .val (.int i), .val (.int b), .val (.int i)]) rfl ?_
      refine k_iloadN (pc := 28) H d3_28 rfl ?_
      refine k_iconst (4 : Int32) (pc := 29) H d3_29 rfl ?_
      refine k_iload (pc := 30) H d3_30 rfl ?_
      refine k_imul (pc := 32) H d3_32 ?_
      refine k_iushr (pc := 33) H d3_33 ?_
      refine k_bipush (15 : Int32) (pc := 34) H d3_34 rfl ?_
      refine k_iand (pc := 36) H d3_36 ?_
      refine k_bipush (10 : Int32) (pc := 37) H d3_37 rfl ?_
      refine k_irem (pc := 39) H d3_39 (by decide) ?_
      exact k_retInt (pc := 40) H d3_40 (by show 0 ≤ own_rm3_room.cells; decide) (by show 0 ≤ own_rm3_room.slots; decide) (⟨by first | contradiction | (simp only [own_dig, own_sel, own_off, *, if_true, if_false]), rfl⟩)
  · refine k_iloadN (pc := 6) H d3_6 rfl ?_
    refine k_goto 11 (pc := 7) H d3_7 rfl ?_
    refine k_istoreN (pc := 11) H d3_11 (Ls' := #[.val (.int a), .val (.int b), .val (.int i), .val (.int a), .unset]) rfl ?_
    refine k_iloadN (pc := 12) H d3_12 rfl ?_
    refine k_bipush (8 : Int32) (pc := 13) H d3_13 rfl ?_
    refine k_icmpR (P := i < (8 : Int32)) 22 (pc := 15) H d3_15 rfl XT.ii_ge_t XT.ii_ge_f (fun c15 => ?_) (fun c15 => ?_)
    · refine k_iloadN (pc := 22) H d3_22 rfl ?_
      refine k_bipush (8 : Int32) (pc := 23) H d3_23 rfl ?_
      refine k_isub (pc := 25) H d3_25 ?_
      refine k_istore (pc := 26) H d3_26 (Ls' := #[.val (.int a), .val (.int b), .val (.int i), .val (.int a), .val (.int (i - (8 : Int32)))]) rfl ?_
      refine k_iloadN (pc := 28) H d3_28 rfl ?_
      refine k_iconst (4 : Int32) (pc := 29) H d3_29 rfl ?_
      refine k_iload (pc := 30) H d3_30 rfl ?_
      refine k_imul (pc := 32) H d3_32 ?_
      refine k_iushr (pc := 33) H d3_33 ?_
      refine k_bipush (15 : Int32) (pc := 34) H d3_34 rfl ?_
      refine k_iand (pc := 36) H d3_36 ?_
      refine k_bipush (10 : Int32) (pc := 37) H d3_37 rfl ?_
      refine k_irem (pc := 39) H d3_39 (by decide) ?_
      exact k_retInt (pc := 40) H d3_40 (by show 0 ≤ own_rm3_room.cells; decide) (by show 0 ≤ own_rm3_room.slots; decide) (⟨by first | contradiction | (simp only [own_dig, own_sel, own_off, *, if_true, if_false]), rfl⟩)
    · refine k_iloadN (pc := 18) H d3_18 rfl ?_
      refine k_goto 26 (pc := 19) H d3_19 rfl ?_
      refine k_istore (pc := 26) H d3_26 (Ls' := #[.val (.int a), .val (.int b), .val (.int i), .val (.int a), .val (.int i)]) rfl ?_
      refine k_iloadN (pc := 28) H d3_28 rfl ?_
      refine k_iconst (4 : Int32) (pc := 29) H d3_29 rfl ?_
      refine k_iload (pc := 30) H d3_30 rfl ?_
      refine k_imul (pc := 32) H d3_32 ?_
      refine k_iushr (pc := 33) H d3_33 ?_
      refine k_bipush (15 : Int32) (pc := 34) H d3_34 rfl ?_
      refine k_iand (pc := 36) H d3_36 ?_
      refine k_bipush (10 : Int32) (pc := 37) H d3_37 rfl ?_
      refine k_irem (pc := 39) H d3_39 (by decide) ?_
      exact k_retInt (pc := 40) H d3_40 (by show 0 ≤ own_rm3_room.cells; decide) (by show 0 ≤ own_rm3_room.slots; decide) (⟨by first | contradiction | (simp only [own_dig, own_sel, own_off, *, if_true, if_false]), rfl⟩)
theorem d2_0 : decode method_4_code 0 = .ok (.iload 4, 2) := by decide +kernel
theorem d2_2 : decode method_4_code 2 = .ok (.iload_n 3, 1) := by decide +kernel
theorem d2_3 : decode method_4_code 3 = .ok (.if_icmp .gt 20, 3) := by decide +kernel
theorem d2_6 : decode method_4_code 6 = .ok (.iload_n 3, 1) := by decide +kernel
theorem d2_7 : decode method_4_code 7 = .ok (.iload 5, 2) := by decide +kernel
theorem d2_9 : decode method_4_code 9 = .ok (.if_icmp .ge 14, 3) := by decide +kernel
theorem d2_12 : decode method_4_code 12 = .ok (.bipush 48, 2) := by decide +kernel
theorem d2_14 : decode method_4_code 14 = .ok (.iload_n 0, 1) := by decide +kernel
theorem d2_15 : decode method_4_code 15 = .ok (.iload_n 1, 1) := by decide +kernel
theorem d2_16 : decode method_4_code 16 = .ok (.iload_n 3, 1) := by decide +kernel
theorem d2_17 : decode method_4_code 17 = .ok (.invokestatic 34, 3) := by decide +kernel
theorem d2_20 : decode method_4_code 20 = .ok (.iadd, 1) := by decide +kernel
theorem d2_21 : decode method_4_code 21 = .ok (.i2c, 1) := by decide +kernel
theorem d2_22 : decode method_4_code 22 = .ok (.ireturn, 1) := by decide +kernel
theorem d2_23 : decode method_4_code 23 = .ok (.iload_n 2, 1) := by decide +kernel
theorem d2_24 : decode method_4_code 24 = .ok (.sipush 4099, 3) := by decide +kernel
theorem d2_27 : decode method_4_code 27 = .ok (.iload_n 3, 1) := by decide +kernel
theorem d2_28 : decode method_4_code 28 = .ok (.imul, 1) := by decide +kernel
theorem d2_29 : decode method_4_code 29 = .ok (.iadd, 1) := by decide +kernel
theorem d2_30 : decode method_4_code 30 = .ok (.i2c, 1) := by decide +kernel
theorem d2_31 : decode method_4_code 31 = .ok (.ireturn, 1) := by decide +kernel
abbrev own_rm2_room : Room := { frames := 1, cells := 0, slots := 0, locals := 17 }
set_option maxRecDepth 65536 in
set_option maxHeartbeats 40000000 in
theorem rm2 (l : Launch) (Z : State) (a0 : Array Value) (hw : ∀ d ∈ tables_1, d.before a0 Z = true) (n0 : Nat) (h0 : Heap) (Z0 : n0 ≤ h0.size) (a b j i bb ee : Int32)  :
    Ctr l Z (⟨"com/example/vestline/vestline/io/DecimalDigitsValuePinLaw", "ch", "(IIIIII)C"⟩ : MethodName) method_4_code 6 (some .char) own_rm2_room n0 #[(.int a), (.int b), (.int j), (.int i), (.int bb), (.int ee)] h0 (fun v h => ∃ c : UInt16, (¬ i < bb → i < ee → c.toUInt32.toInt32 = 48 + own_dig a b i) ∧ v = some (.int c.toUInt32.toInt32) ∧ h = h0) := by
  refine Ctr.of #[.val (.int a), .val (.int b), .val (.int j), .val (.int i), .val (.int bb), .val (.int ee)] (plainFor_of_name pn_1) Z0 (fun m => by first | (simp [entryFrame, mkF, argsToLocals, Value.category]; done) | rfl) ?_
  intro C H
  refine k_iload (pc := 0) H d2_0 rfl ?_
  refine k_iloadN (pc := 2) H d2_2 rfl ?_
  refine k_icmp (P := i < bb) 23 (pc := 3) H d2_3 rfl XT.ii_gt_t XT.ii_gt_f (fun c3 => ?_) (fun c3 => ?_)
  · refine k_iloadN (pc := 23) H d2_23 rfl ?_
    refine k_sipush (4099 : Int32) (pc := 24) H d2_24 rfl ?_
    refine k_iloadN (pc := 27) H d2_27 rfl ?_
    refine k_imul (pc := 28) H d2_28 ?_
    refine k_iadd (pc := 29) H d2_29 ?_
    refine k_i2c (pc := 30) H d2_30 ?_
    exact k_retN' (t := .char) (by simp) (pc := 31) H d2_31 (by show 0 ≤ own_rm2_room.cells; decide) (by show 0 ≤ own_rm2_room.slots; decide) (⟨_, fun q1 q2 => absurd trivial (by simp_all), by rw [show nar .char _ = _ from own_nar _], rfl⟩)
  · refine k_iloadN (pc := 6) H d2_6 rfl ?_
    refine k_iload (pc := 7) H d2_7 rfl ?_
    refine k_icmpR (P := i < ee) 23 (pc := 9) H d2_9 rfl XT.ii_ge_t XT.ii_ge_f (fun c9 => ?_) (fun c9 => ?_)
    · refine k_iloadN (pc := 23) H d2_23 rfl ?_
      refine k_sipush (4099 : Int32) (pc := 24) H d2_24 rfl ?_
      refine k_iloadN (pc := 27) H d2_27 rfl ?_
      refine k_imul (pc := 28) H d2_28 ?_
      refine k_iadd (pc := 29) H d2_29 ?_
      refine k_i2c (pc := 30) H d2_30 ?_
      exact k_retN' (t := .char) (by simp) (pc := 31) H d2_31 (by show 0 ≤ own_rm2_room.cells; decide) (by show 0 ≤ own_rm2_room.slots; decide) (⟨_, fun q1 q2 => absurd trivial (by simp_all), by rw [show nar .char _ = _ from own_nar _], rfl⟩)
    · refine k_bipush (48 : Int32) (pc := 12) H d2_12 rfl ?_
      refine k_iloadN (pc := 14) H d2_14 rfl ?_
      refine k_iloadN (pc := 15) H d2_15 rfl ?_
      refine k_iloadN (pc := 16) H d2_16 rfl ?_
      refine k_invS (y := (⟨"com/example/vestline/vestline/io/DecimalDigitsValuePinLaw", "dig", "(III)I"⟩ : MethodName)) (st := [(.int (48 : Int32))]) [(.int a), (.int b), (.int i)] 1 (pc := 17) H (wd hw 15 rfl) (wd hw 16 rfl) (wd hw 13 rfl) (wd hw 17 rfl) (by decide) (fun z0 => rm3 l Z a0 hw n0 h0 z0 a b i) (lenOf pd_0 rfl) d2_17 rfl rfl rfl (by decide) (by decide) (by decide) (by decide) ?_
      rintro v hx ⟨rfl, ex⟩
      rw [ex]
      clear ex hx
      show W l own_rm2_room C _ h0 0 0 20 #[.val (.int a), .val (.int b), .val (.int j), .val (.int i), .val (.int bb), .val (.int ee)] [(.int (own_dig a b i)), (.int (48 : Int32))]
      refine k_iadd (pc := 20) H d2_20 ?_
      refine k_i2c (pc := 21) H d2_21 ?_
      exact k_retN' (t := .char) (by simp) (pc := 22) H d2_22 (by show 0 ≤ own_rm2_room.cells; decide) (by show 0 ≤ own_rm2_room.slots; decide) (⟨_, fun _ _ => by obtain ⟨m, h1, h2⟩ := own_dig_b a b i; exact own_char h1 h2, by rw [show nar .char _ = _ from own_nar _], rfl⟩)
theorem own_pw_at {i : Nat} (h : i < 9) : own_pw[i]? = some (own_pw.getD i 0) := by have : i < own_pw.length := h; simp [List.getD_eq_getElem?_getD, this]
theorem d4_0 : decode method_5_code 0 = .ok (.iload_n 3, 1) := by decide +kernel
theorem d4_1 : decode method_5_code 1 = .ok (.iload_n 2, 1) := by decide +kernel
theorem d4_2 : decode method_5_code 2 = .ok (.if_icmp .gt 26, 3) := by decide +kernel
theorem d4_5 : decode method_5_code 5 = .ok (.iload_n 2, 1) := by decide +kernel
theorem d4_6 : decode method_5_code 6 = .ok (.iload 4, 2) := by decide +kernel
theorem d4_8 : decode method_5_code 8 = .ok (.if_icmp .ge 20, 3) := by decide +kernel
theorem d4_11 : decode method_5_code 11 = .ok (.iload_n 0, 1) := by decide +kernel
theorem d4_12 : decode method_5_code 12 = .ok (.iload_n 1, 1) := by decide +kernel
theorem d4_13 : decode method_5_code 13 = .ok (.iload_n 2, 1) := by decide +kernel
theorem d4_14 : decode method_5_code 14 = .ok (.invokestatic 34, 3) := by decide +kernel
theorem d4_17 : decode method_5_code 17 = .ok (.aload 5, 2) := by decide +kernel
theorem d4_19 : decode method_5_code 19 = .ok (.iload 4, 2) := by decide +kernel
theorem d4_21 : decode method_5_code 21 = .ok (.iconst 1, 1) := by decide +kernel
theorem d4_22 : decode method_5_code 22 = .ok (.isub, 1) := by decide +kernel
theorem d4_23 : decode method_5_code 23 = .ok (.iload_n 2, 1) := by decide +kernel
theorem d4_24 : decode method_5_code 24 = .ok (.isub, 1) := by decide +kernel
theorem d4_25 : decode method_5_code 25 = .ok (.iaload, 1) := by decide +kernel
theorem d4_26 : decode method_5_code 26 = .ok (.imul, 1) := by decide +kernel
theorem d4_27 : decode method_5_code 27 = .ok (.ireturn, 1) := by decide +kernel
theorem d4_28 : decode method_5_code 28 = .ok (.iconst 0, 1) := by decide +kernel
theorem d4_29 : decode method_5_code 29 = .ok (.ireturn, 1) := by decide +kernel
abbrev own_rm4_room : Room := { frames := 1, cells := 0, slots := 0, locals := 16 }
set_option maxRecDepth 65536 in
set_option maxHeartbeats 40000000 in
theorem rm4 (l : Launch) (Z : State) (a0 : Array Value) (hw : ∀ d ∈ tables_1, d.before a0 Z = true) (n0 : Nat) (h0 : Heap) (Z0 : n0 ≤ h0.size) (a b i bb ee : Int32) (p : Addr) (n m k : Nat) (V : IA Z h0 p own_pw) (hi : i.toInt = (n : Int)) (hb : bb.toInt = (m : Int)) (he : ee.toInt = (k : Int)) (hk : k ≤ m + 9) :
    Ctr l Z (⟨"com/example/vestline/vestline/io/DecimalDigitsValuePinLaw", "term", "(IIIII[I)I"⟩ : MethodName) method_5_code 6 (some .int) own_rm4_room n0 #[(.int a), (.int b), (.int i), (.int bb), (.int ee), (.ref p)] h0 (fun v h => v = some (.int (if m ≤ n ∧ n < k then own_dig a b i * own_pw.getD (k - 1 - n) 0 else 0)) ∧ h = h0) := by
  refine Ctr.of #[.val (.int a), .val (.int b), .val (.int i), .val (.int bb), .val (.int ee), .val (.ref p)] (plainFor_of_name pn_1) Z0 (fun m => by first | (simp [entryFrame, mkF, argsToLocals, Value.category]; done) | rfl) ?_
  intro C H
  have q1 := lt_nat hi hb
  have q2 := lt_nat hi he
  refine k_iloadN (pc := 0) H d4_0 rfl ?_
  refine k_iloadN (pc := 1) H d4_1 rfl ?_
  refine k_icmp (P := i < bb) 28 (pc := 2) H d4_2 rfl XT.ii_gt_t XT.ii_gt_f (fun c1 => ?_) (fun c1 => ?_)
  · refine k_iconst (0 : Int32) (pc := 28) H d4_28 rfl ?_
    exact k_retInt (pc := 29) H d4_29 (by show 0 ≤ own_rm4_room.cells; decide) (by show 0 ≤ own_rm4_room.slots; decide) (⟨by rw [if_neg (by have := q1.mp c1; omega)], rfl⟩)
  · refine k_iloadN (pc := 5) H d4_5 rfl ?_
    refine k_iload (pc := 6) H d4_6 rfl ?_
    refine k_icmpR (P := i < ee) 28 (pc := 8) H d4_8 rfl XT.ii_ge_t XT.ii_ge_f (fun c2 => ?_) (fun c2 => ?_)
    · refine k_iconst (0 : Int32) (pc := 28) H d4_28 rfl ?_
      exact k_retInt (pc := 29) H d4_29 (by show 0 ≤ own_rm4_room.cells; decide) (by show 0 ≤ own_rm4_room.slots; decide) (⟨by rw [if_neg (by have : ¬ n < k := fun z => c2 (q2.mpr z); omega)], rfl⟩)
    · refine k_iloadN (pc := 11) H d4_11 rfl ?_
      refine k_iloadN (pc := 12) H d4_12 rfl ?_
      refine k_iloadN (pc := 13) H d4_13 rfl ?_
      refine k_invS (y := (⟨"com/example/vestline/vestline/io/DecimalDigitsValuePinLaw", "dig", "(III)I"⟩ : MethodName)) (st := []) [(.int a), (.int b), (.int i)] 0 (pc := 14) H (wd hw 15 rfl) (wd hw 16 rfl) (wd hw 13 rfl) (wd hw 17 rfl) (by decide) (fun z0 => rm3 l Z a0 hw n0 h0 z0 a b i) (lenOf pd_0 rfl) d4_14 rfl rfl rfl (by decide) (by decide) (by decide) (by decide) ?_
      rintro v hx ⟨rfl, ex⟩
      rw [ex]
      clear ex hx
      show W l own_rm4_room C _ h0 0 0 17 #[.val (.int a), .val (.int b), .val (.int i), .val (.int bb), .val (.int ee), .val (.ref p)] [(.int (own_dig a b i))]
      refine k_aload (pc := 17) H d4_17 rfl rfl ?_
      refine k_iload (pc := 19) H d4_19 rfl ?_
      refine k_iconst (1 : Int32) (pc := 21) H d4_21 rfl ?_
      refine k_isub (pc := 22) H d4_22 ?_
      refine k_iloadN (pc := 23) H d4_23 rfl ?_
      refine k_isub (pc := 24) H d4_24 ?_
      have l1 : ¬ n < m := fun z => c1 (q1.mpr z)
      have l2 := q2.mp c2
      refine k_ialoadT (i := (k - 1 - n)) (x := (own_pw.getD (k - 1 - n) 0)) (pc := 25) H V (sub_nat (sub_nat he rfl (by omega)) hi (by omega)) (own_pw_at (by omega)) d4_25 ?_
      refine k_imul (pc := 26) H d4_26 ?_
      exact k_retInt (pc := 27) H d4_27 (by show 0 ≤ own_rm4_room.cells; decide) (by show 0 ≤ own_rm4_room.slots; decide) (⟨by rw [if_pos ⟨by omega, l2⟩], rfl⟩)
theorem d5_0 : decode prog_12_method_3_code 0 = .ok (.iconst 0, 1) := by decide +kernel
theorem d5_1 : decode prog_12_method_3_code 1 = .ok (.istore_n 3, 1) := by decide +kernel
theorem d5_2 : decode prog_12_method_3_code 2 = .ok (.iload_n 1, 1) := by decide +kernel
theorem d5_3 : decode prog_12_method_3_code 3 = .ok (.istore 4, 2) := by decide +kernel
theorem d5_5 : decode prog_12_method_3_code 5 = .ok (.iload 4, 2) := by decide +kernel
theorem d5_7 : decode prog_12_method_3_code 7 = .ok (.iload_n 2, 1) := by decide +kernel
theorem d5_8 : decode prog_12_method_3_code 8 = .ok (.if_icmp .ge 22, 3) := by decide +kernel
theorem d5_11 : decode prog_12_method_3_code 11 = .ok (.iload_n 3, 1) := by decide +kernel
theorem d5_12 : decode prog_12_method_3_code 12 = .ok (.bipush 10, 2) := by decide +kernel
theorem d5_14 : decode prog_12_method_3_code 14 = .ok (.imul, 1) := by decide +kernel
theorem d5_15 : decode prog_12_method_3_code 15 = .ok (.aload_n 0, 1) := by decide +kernel
theorem d5_16 : decode prog_12_method_3_code 16 = .ok (.iload 4, 2) := by decide +kernel
theorem d5_18 : decode prog_12_method_3_code 18 = .ok (.caload, 1) := by decide +kernel
theorem d5_19 : decode prog_12_method_3_code 19 = .ok (.bipush 48, 2) := by decide +kernel
theorem d5_21 : decode prog_12_method_3_code 21 = .ok (.isub, 1) := by decide +kernel
theorem d5_22 : decode prog_12_method_3_code 22 = .ok (.iadd, 1) := by decide +kernel
theorem d5_23 : decode prog_12_method_3_code 23 = .ok (.istore_n 3, 1) := by decide +kernel
theorem d5_24 : decode prog_12_method_3_code 24 = .ok (.iinc 4 1, 3) := by decide +kernel
theorem d5_27 : decode prog_12_method_3_code 27 = .ok (.goto (-22), 3) := by decide +kernel
theorem d5_30 : decode prog_12_method_3_code 30 = .ok (.iload_n 3, 1) := by decide +kernel
theorem d5_31 : decode prog_12_method_3_code 31 = .ok (.ireturn, 1) := by decide +kernel
abbrev own_rm5_room : Room := { frames := 0, cells := 0, slots := 0, locals := 0 }
set_option maxRecDepth 65536 in
set_option maxHeartbeats 40000000 in
theorem rm5 (l : Launch) (Z : State) (a0 : Array Value) (hw : ∀ d ∈ tables_1, d.before a0 Z = true) (n0 : Nat) (h0 : Heap) (Z0 : n0 ≤ h0.size) (a : Addr) (cs : List UInt16) (ds : Nat → Int32) (bb ee : Int32) (b e : Nat) (V : CA Z h0 a cs) (hb : bb.toInt = (b : Int)) (he : ee.toInt = (e : Int)) (he' : e < 1000) (hd : ∀ j, b ≤ j → j < e → ∃ c, cs[j]? = some c ∧ c.toUInt32.toInt32 - 48 = ds j) :
    Ctr l Z (⟨"com/example/vestline/vestline/io/DecimalDigits", "value", "([CII)I"⟩ : MethodName) prog_12_method_3_code 5 (some .int) own_rm5_room n0 #[(.ref a), (.int bb), (.int ee)] h0 (fun v h => v = some (.int (own_h ds b (e - b) 0)) ∧ h = h0) := by
  refine Ctr.of #[.val (.ref a), .val (.int bb), .val (.int ee), .unset, .unset] (plainFor_of_name pn_2) Z0 (fun m => by first | (simp [entryFrame, mkF, argsToLocals, Value.category]; done) | rfl) ?_
  intro C H
  refine k_iconst (0 : Int32) (pc := 0) H d5_0 rfl ?_
  refine k_istoreN (pc := 1) H d5_1 (Ls' := #[.val (.ref a), .val (.int bb), .val (.int ee), .val (.int (0 : Int32)), .unset]) rfl ?_
  refine k_iloadN (pc := 2) H d5_2 rfl ?_
  refine k_istore (pc := 3) H d5_3 (Ls' := #[.val (.ref a), .val (.int bb), .val (.int ee), .val (.int (0 : Int32)), .val (.int bb)]) rfl ?_
  have L : ∀ (m i : Nat) (ii s : Int32) (hi : ii.toInt = (i : Int)) (hbi : b ≤ i) (hm : e - i = m) (hv : own_h ds b (e - b) 0 = own_h ds i m s), W l own_rm5_room C (n0, own_rm5_room.cells, own_rm5_room.slots, fun v h => v = some (.int (own_h ds b (e - b) 0)) ∧ h = h0) h0 0 0 5 #[.val (.ref a), .val (.int bb), .val (.int ee), .val (.int s), .val (.int ii)] [] := by
    intro m
    induction m with
    | zero =>
      intro i ii s hi hbi hm hv
      refine k_iload (pc := 5) H d5_5 rfl ?_
      refine k_iloadN (pc := 7) H d5_7 rfl ?_
      refine k_icmpT 30 (pc := 8) H d5_8 rfl (XT.ii_ge_t (fun q => by have := (lt_nat hi he).mp q; omega)) ?_
      refine k_iloadN (pc := 30) H d5_30 rfl ?_
      exact k_retInt (pc := 31) H d5_31 (by show 0 ≤ own_rm5_room.cells; decide) (by show 0 ≤ own_rm5_room.slots; decide) (⟨by rw [hv]; rfl, rfl⟩)
    | succ m ih =>
      intro i ii s hi hbi hm hv
      refine k_iload (pc := 5) H d5_5 rfl ?_
      refine k_iloadN (pc := 7) H d5_7 rfl ?_
      refine k_icmpF (pc := 8) H d5_8 (XT.ii_ge_f ((lt_nat hi he).mpr (by omega))) ?_
      refine k_iloadN (pc := 11) H d5_11 rfl ?_
      refine k_bipush (10 : Int32) (pc := 12) H d5_12 rfl ?_
      refine k_imul (pc := 14) H d5_14 ?_
      refine k_aloadN (pc := 15) H d5_15 rfl rfl ?_
      refine k_iload (pc := 16) H d5_16 rfl ?_
      obtain ⟨c, hc1, hc2⟩ := hd i hbi (by omega)
      refine k_caloadT (i := i) (x := c) (pc := 18) H V (hi) (hc1) d5_18 ?_
      refine k_bipush (48 : Int32) (pc := 19) H d5_19 rfl ?_
      refine k_isub (pc := 21) H d5_21 ?_
      refine k_iadd (pc := 22) H d5_22 ?_
      refine k_istoreN (pc := 23) H d5_23 (Ls' := #[.val (.ref a), .val (.int bb), .val (.int ee), .val (.int ((s * (10 : Int32)) + (c.toUInt32.toInt32 - (48 : Int32)))), .val (.int ii)]) rfl ?_
      refine k_iinc (1 : Int32) (pc := 24) H d5_24 rfl rfl (Ls' := #[.val (.ref a), .val (.int bb), .val (.int ee), .val (.int ((s * (10 : Int32)) + (c.toUInt32.toInt32 - (48 : Int32)))), .val (.int (ii + (1 : Int32)))]) rfl ?_
      refine k_goto 5 (pc := 27) H d5_27 rfl ?_
      exact ih (i + 1) _ _ (add_nat hi rfl (by omega)) (by omega) (by omega) (by rw [hv, own_h, hc2])
  exact L _ b _ _ hb (by omega) rfl rfl
theorem d0_0 : decode code 0 = .ok (.iload_n 2, 1) := by decide +kernel
theorem d0_1 : decode code 1 = .ok (.ldc 7, 2) := by decide +kernel
theorem d0_3 : decode code 3 = .ok (.iand, 1) := by decide +kernel
theorem d0_4 : decode code 4 = .ok (.bipush 11, 2) := by decide +kernel
theorem d0_6 : decode code 6 = .ok (.irem, 1) := by decide +kernel
theorem d0_7 : decode code 7 = .ok (.istore 5, 2) := by decide +kernel
theorem d0_9 : decode code 9 = .ok (.iload_n 3, 1) := by decide +kernel
theorem d0_10 : decode code 10 = .ok (.ldc 7, 2) := by decide +kernel
theorem d0_12 : decode code 12 = .ok (.iand, 1) := by decide +kernel
theorem d0_13 : decode code 13 = .ok (.bipush 11, 2) := by decide +kernel
theorem d0_15 : decode code 15 = .ok (.iload 5, 2) := by decide +kernel
theorem d0_17 : decode code 17 = .ok (.isub, 1) := by decide +kernel
theorem d0_18 : decode code 18 = .ok (.irem, 1) := by decide +kernel
theorem d0_19 : decode code 19 = .ok (.bipush 9, 2) := by decide +kernel
theorem d0_21 : decode code 21 = .ok (.invokestatic 8, 3) := by decide +kernel
theorem d0_24 : decode code 24 = .ok (.istore 6, 2) := by decide +kernel
theorem d0_26 : decode code 26 = .ok (.iload 5, 2) := by decide +kernel
theorem d0_28 : decode code 28 = .ok (.iload 6, 2) := by decide +kernel
theorem d0_30 : decode code 30 = .ok (.iadd, 1) := by decide +kernel
theorem d0_31 : decode code 31 = .ok (.istore 7, 2) := by decide +kernel
theorem d0_33 : decode code 33 = .ok (.bipush 9, 2) := by decide +kernel
theorem d0_35 : decode code 35 = .ok (.newarray .int, 2) := by decide +kernel
theorem d0_37 : decode code 37 = .ok (.dup, 1) := by decide +kernel
theorem d0_38 : decode code 38 = .ok (.iconst 0, 1) := by decide +kernel
theorem d0_39 : decode code 39 = .ok (.iconst 1, 1) := by decide +kernel
theorem d0_40 : decode code 40 = .ok (.iastore, 1) := by decide +kernel
theorem d0_41 : decode code 41 = .ok (.dup, 1) := by decide +kernel
theorem d0_42 : decode code 42 = .ok (.iconst 1, 1) := by decide +kernel
theorem d0_43 : decode code 43 = .ok (.bipush 10, 2) := by decide +kernel
theorem d0_45 : decode code 45 = .ok (.iastore, 1) := by decide +kernel
theorem d0_46 : decode code 46 = .ok (.dup, 1) := by decide +kernel
theorem d0_47 : decode code 47 = .ok (.iconst 2, 1) := by decide +kernel
theorem d0_48 : decode code 48 = .ok (.bipush 100, 2) := by decide +kernel
theorem d0_50 : decode code 50 = .ok (.iastore, 1) := by decide +kernel
theorem d0_51 : decode code 51 = .ok (.dup, 1) := by decide +kernel
theorem d0_52 : decode code 52 = .ok (.iconst 3, 1) := by decide +kernel
theorem d0_53 : decode code 53 = .ok (.sipush 1000, 3) := by decide +kernel
theorem d0_56 : decode code 56 = .ok (.iastore, 1) := by decide +kernel
theorem d0_57 : decode code 57 = .ok (.dup, 1) := by decide +kernel
theorem d0_58 : decode code 58 = .ok (.iconst 4, 1) := by decide +kernel
theorem d0_59 : decode code 59 = .ok (.sipush 10000, 3) := by decide +kernel
theorem d0_62 : decode code 62 = .ok (.iastore, 1) := by decide +kernel
theorem d0_63 : decode code 63 = .ok (.dup, 1) := by decide +kernel
theorem d0_64 : decode code 64 = .ok (.iconst 5, 1) := by decide +kernel
theorem d0_65 : decode code 65 = .ok (.ldc 14, 2) := by decide +kernel
theorem d0_67 : decode code 67 = .ok (.iastore, 1) := by decide +kernel
theorem d0_68 : decode code 68 = .ok (.dup, 1) := by decide +kernel
theorem d0_69 : decode code 69 = .ok (.bipush 6, 2) := by decide +kernel
theorem d0_71 : decode code 71 = .ok (.ldc 15, 2) := by decide +kernel
theorem d0_73 : decode code 73 = .ok (.iastore, 1) := by decide +kernel
theorem d0_74 : decode code 74 = .ok (.dup, 1) := by decide +kernel
theorem d0_75 : decode code 75 = .ok (.bipush 7, 2) := by decide +kernel
theorem d0_77 : decode code 77 = .ok (.ldc 16, 2) := by decide +kernel
theorem d0_79 : decode code 79 = .ok (.iastore, 1) := by decide +kernel
theorem d0_80 : decode code 80 = .ok (.dup, 1) := by decide +kernel
theorem d0_81 : decode code 81 = .ok (.bipush 8, 2) := by decide +kernel
theorem d0_83 : decode code 83 = .ok (.ldc 17, 2) := by decide +kernel
theorem d0_85 : decode code 85 = .ok (.iastore, 1) := by decide +kernel
theorem d0_86 : decode code 86 = .ok (.astore 8, 2) := by decide +kernel
theorem d0_88 : decode code 88 = .ok (.bipush 10, 2) := by decide +kernel
theorem d0_90 : decode code 90 = .ok (.newarray .char, 2) := by decide +kernel
theorem d0_92 : decode code 92 = .ok (.astore 9, 2) := by decide +kernel
theorem d0_94 : decode code 94 = .ok (.aload 9, 2) := by decide +kernel
theorem d0_96 : decode code 96 = .ok (.iconst 0, 1) := by decide +kernel
theorem d0_97 : decode code 97 = .ok (.iload_n 0, 1) := by decide +kernel
theorem d0_98 : decode code 98 = .ok (.iload_n 1, 1) := by decide +kernel
theorem d0_99 : decode code 99 = .ok (.iload 4, 2) := by decide +kernel
theorem d0_101 : decode code 101 = .ok (.iconst 0, 1) := by decide +kernel
theorem d0_102 : decode code 102 = .ok (.iload 5, 2) := by decide +kernel
theorem d0_104 : decode code 104 = .ok (.iload 7, 2) := by decide +kernel
theorem d0_106 : decode code 106 = .ok (.invokestatic 18, 3) := by decide +kernel
theorem d0_109 : decode code 109 = .ok (.castore, 1) := by decide +kernel
theorem d0_110 : decode code 110 = .ok (.aload 9, 2) := by decide +kernel
theorem d0_112 : decode code 112 = .ok (.iconst 1, 1) := by decide +kernel
theorem d0_113 : decode code 113 = .ok (.iload_n 0, 1) := by decide +kernel
theorem d0_114 : decode code 114 = .ok (.iload_n 1, 1) := by decide +kernel
theorem d0_115 : decode code 115 = .ok (.iload 4, 2) := by decide +kernel
theorem d0_117 : decode code 117 = .ok (.iconst 1, 1) := by decide +kernel
theorem d0_118 : decode code 118 = .ok (.iload 5, 2) := by decide +kernel
theorem d0_120 : decode code 120 = .ok (.iload 7, 2) := by decide +kernel
theorem d0_122 : decode code 122 = .ok (.invokestatic 18, 3) := by decide +kernel
theorem d0_125 : decode code 125 = .ok (.castore, 1) := by decide +kernel
theorem d0_126 : decode code 126 = .ok (.aload 9, 2) := by decide +kernel
theorem d0_128 : decode code 128 = .ok (.iconst 2, 1) := by decide +kernel
theorem d0_129 : decode code 129 = .ok (.iload_n 0, 1) := by decide +kernel
theorem d0_130 : decode code 130 = .ok (.iload_n 1, 1) := by decide +kernel
theorem d0_131 : decode code 131 = .ok (.iload 4, 2) := by decide +kernel
theorem d0_133 : decode code 133 = .ok (.iconst 2, 1) := by decide +kernel
theorem d0_134 : decode code 134 = .ok (.iload 5, 2) := by decide +kernel
theorem d0_136 : decode code 136 = .ok (.iload 7, 2) := by decide +kernel
theorem d0_138 : decode code 138 = .ok (.invokestatic 18, 3) := by decide +kernel
theorem d0_141 : decode code 141 = .ok (.castore, 1) := by decide +kernel
theorem d0_142 : decode code 142 = .ok (.aload 9, 2) := by decide +kernel
theorem d0_144 : decode code 144 = .ok (.iconst 3, 1) := by decide +kernel
theorem d0_145 : decode code 145 = .ok (.iload_n 0, 1) := by decide +kernel
theorem d0_146 : decode code 146 = .ok (.iload_n 1, 1) := by decide +kernel
theorem d0_147 : decode code 147 = .ok (.iload 4, 2) := by decide +kernel
theorem d0_149 : decode code 149 = .ok (.iconst 3, 1) := by decide +kernel
theorem d0_150 : decode code 150 = .ok (.iload 5, 2) := by decide +kernel
theorem d0_152 : decode code 152 = .ok (.iload 7, 2) := by decide +kernel
theorem d0_154 : decode code 154 = .ok (.invokestatic 18, 3) := by decide +kernel
theorem d0_157 : decode code 157 = .ok (.castore, 1) := by decide +kernel
theorem d0_158 : decode code 158 = .ok (.aload 9, 2) := by decide +kernel
theorem d0_160 : decode code 160 = .ok (.iconst 4, 1) := by decide +kernel
theorem d0_161 : decode code 161 = .ok (.iload_n 0, 1) := by decide +kernel
theorem d0_162 : decode code 162 = .ok (.iload_n 1, 1) := by decide +kernel
theorem d0_163 : decode code 163 = .ok (.iload 4, 2) := by decide +kernel
theorem d0_165 : decode code 165 = .ok (.iconst 4, 1) := by decide +kernel
theorem d0_166 : decode code 166 = .ok (.iload 5, 2) := by decide +kernel
theorem d0_168 : decode code 168 = .ok (.iload 7, 2) := by decide +kernel
theorem d0_170 : decode code 170 = .ok (.invokestatic 18, 3) := by decide +kernel
theorem d0_173 : decode code 173 = .ok (.castore, 1) := by decide +kernel
theorem d0_174 : decode code 174 = .ok (.aload 9, 2) := by decide +kernel
theorem d0_176 : decode code 176 = .ok (.iconst 5, 1) := by decide +kernel
theorem d0_177 : decode code 177 = .ok (.iload_n 0, 1) := by decide +kernel
theorem d0_178 : decode code 178 = .ok (.iload_n 1, 1) := by decide +kernel
theorem d0_179 : decode code 179 = .ok (.iload 4, 2) := by decide +kernel
theorem d0_181 : decode code 181 = .ok (.iconst 5, 1) := by decide +kernel
theorem d0_182 : decode code 182 = .ok (.iload 5, 2) := by decide +kernel
theorem d0_184 : decode code 184 = .ok (.iload 7, 2) := by decide +kernel
theorem d0_186 : decode code 186 = .ok (.invokestatic 18, 3) := by decide +kernel
theorem d0_189 : decode code 189 = .ok (.castore, 1) := by decide +kernel
theorem d0_190 : decode code 190 = .ok (.aload 9, 2) := by decide +kernel
theorem d0_192 : decode code 192 = .ok (.bipush 6, 2) := by decide +kernel
theorem d0_194 : decode code 194 = .ok (.iload_n 0, 1) := by decide +kernel
theorem d0_195 : decode code 195 = .ok (.iload_n 1, 1) := by decide +kernel
theorem d0_196 : decode code 196 = .ok (.iload 4, 2) := by decide +kernel
theorem d0_198 : decode code 198 = .ok (.bipush 6, 2) := by decide +kernel
theorem d0_200 : decode code 200 = .ok (.iload 5, 2) := by decide +kernel
theorem d0_202 : decode code 202 = .ok (.iload 7, 2) := by decide +kernel
theorem d0_204 : decode code 204 = .ok (.invokestatic 18, 3) := by decide +kernel
theorem d0_207 : decode code 207 = .ok (.castore, 1) := by decide +kernel
theorem d0_208 : decode code 208 = .ok (.aload 9, 2) := by decide +kernel
theorem d0_210 : decode code 210 = .ok (.bipush 7, 2) := by decide +kernel
theorem d0_212 : decode code 212 = .ok (.iload_n 0, 1) := by decide +kernel
theorem d0_213 : decode code 213 = .ok (.iload_n 1, 1) := by decide +kernel
theorem d0_214 : decode code 214 = .ok (.iload 4, 2) := by decide +kernel
theorem d0_216 : decode code 216 = .ok (.bipush 7, 2) := by decide +kernel
theorem d0_218 : decode code 218 = .ok (.iload 5, 2) := by decide +kernel
theorem d0_220 : decode code 220 = .ok (.iload 7, 2) := by decide +kernel
theorem d0_222 : decode code 222 = .ok (.invokestatic 18, 3) := by decide +kernel
theorem d0_225 : decode code 225 = .ok (.castore, 1) := by decide +kernel
theorem d0_226 : decode code 226 = .ok (.aload 9, 2) := by decide +kernel
theorem d0_228 : decode code 228 = .ok (.bipush 8, 2) := by decide +kernel
theorem d0_230 : decode code 230 = .ok (.iload_n 0, 1) := by decide +kernel
theorem d0_231 : decode code 231 = .ok (.iload_n 1, 1) := by decide +kernel
theorem d0_232 : decode code 232 = .ok (.iload 4, 2) := by decide +kernel
theorem d0_234 : decode code 234 = .ok (.bipush 8, 2) := by decide +kernel
theorem d0_236 : decode code 236 = .ok (.iload 5, 2) := by decide +kernel
theorem d0_238 : decode code 238 = .ok (.iload 7, 2) := by decide +kernel
theorem d0_240 : decode code 240 = .ok (.invokestatic 18, 3) := by decide +kernel
theorem d0_243 : decode code 243 = .ok (.castore, 1) := by decide +kernel
theorem d0_244 : decode code 244 = .ok (.aload 9, 2) := by decide +kernel
theorem d0_246 : decode code 246 = .ok (.bipush 9, 2) := by decide +kernel
theorem d0_248 : decode code 248 = .ok (.iload_n 0, 1) := by decide +kernel
theorem d0_249 : decode code 249 = .ok (.iload_n 1, 1) := by decide +kernel
theorem d0_250 : decode code 250 = .ok (.iload 4, 2) := by decide +kernel
theorem d0_252 : decode code 252 = .ok (.bipush 9, 2) := by decide +kernel
theorem d0_254 : decode code 254 = .ok (.iload 5, 2) := by decide +kernel
theorem d0_256 : decode code 256 = .ok (.iload 7, 2) := by decide +kernel
theorem d0_258 : decode code 258 = .ok (.invokestatic 18, 3) := by decide +kernel
theorem d0_261 : decode code 261 = .ok (.castore, 1) := by decide +kernel
theorem d0_262 : decode code 262 = .ok (.iload_n 0, 1) := by decide +kernel
theorem d0_263 : decode code 263 = .ok (.iload_n 1, 1) := by decide +kernel
theorem d0_264 : decode code 264 = .ok (.iconst 0, 1) := by decide +kernel
theorem d0_265 : decode code 265 = .ok (.iload 5, 2) := by decide +kernel
theorem d0_267 : decode code 267 = .ok (.iload 7, 2) := by decide +kernel
theorem d0_269 : decode code 269 = .ok (.aload 8, 2) := by decide +kernel
theorem d0_271 : decode code 271 = .ok (.invokestatic 24, 3) := by decide +kernel
theorem d0_274 : decode code 274 = .ok (.iload_n 0, 1) := by decide +kernel
theorem d0_275 : decode code 275 = .ok (.iload_n 1, 1) := by decide +kernel
theorem d0_276 : decode code 276 = .ok (.iconst 1, 1) := by decide +kernel
theorem d0_277 : decode code 277 = .ok (.iload 5, 2) := by decide +kernel
theorem d0_279 : decode code 279 = .ok (.iload 7, 2) := by decide +kernel
theorem d0_281 : decode code 281 = .ok (.aload 8, 2) := by decide +kernel
theorem d0_283 : decode code 283 = .ok (.invokestatic 24, 3) := by decide +kernel
theorem d0_286 : decode code 286 = .ok (.iadd, 1) := by decide +kernel
theorem d0_287 : decode code 287 = .ok (.iload_n 0, 1) := by decide +kernel
theorem d0_288 : decode code 288 = .ok (.iload_n 1, 1) := by decide +kernel
theorem d0_289 : decode code 289 = .ok (.iconst 2, 1) := by decide +kernel
theorem d0_290 : decode code 290 = .ok (.iload 5, 2) := by decide +kernel
theorem d0_292 : decode code 292 = .ok (.iload 7, 2) := by decide +kernel
theorem d0_294 : decode code 294 = .ok (.aload 8, 2) := by decide +kernel
theorem d0_296 : decode code 296 = .ok (.invokestatic 24, 3) := by decide +kernel
theorem d0_299 : decode code 299 = .ok (.iadd, 1) := by decide +kernel
theorem d0_300 : decode code 300 = .ok (.iload_n 0, 1) := by decide +kernel
theorem d0_301 : decode code 301 = .ok (.iload_n 1, 1) := by decide +kernel
theorem d0_302 : decode code 302 = .ok (.iconst 3, 1) := by decide +kernel
theorem d0_303 : decode code 303 = .ok (.iload 5, 2) := by decide +kernel
theorem d0_305 : decode code 305 = .ok (.iload 7, 2) := by decide +kernel
theorem d0_307 : decode code 307 = .ok (.aload 8, 2) := by decide +kernel
theorem d0_309 : decode code 309 = .ok (.invokestatic 24, 3) := by decide +kernel
theorem d0_312 : decode code 312 = .ok (.iadd, 1) := by decide +kernel
theorem d0_313 : decode code 313 = .ok (.iload_n 0, 1) := by decide +kernel
theorem d0_314 : decode code 314 = .ok (.iload_n 1, 1) := by decide +kernel
theorem d0_315 : decode code 315 = .ok (.iconst 4, 1) := by decide +kernel
theorem d0_316 : decode code 316 = .ok (.iload 5, 2) := by decide +kernel
theorem d0_318 : decode code 318 = .ok (.iload 7, 2) := by decide +kernel
theorem d0_320 : decode code 320 = .ok (.aload 8, 2) := by decide +kernel
theorem d0_322 : decode code 322 = .ok (.invokestatic 24, 3) := by decide +kernel
theorem d0_325 : decode code 325 = .ok (.iadd, 1) := by decide +kernel
theorem d0_326 : decode code 326 = .ok (.iload_n 0, 1) := by decide +kernel
theorem d0_327 : decode code 327 = .ok (.iload_n 1, 1) := by decide +kernel
theorem d0_328 : decode code 328 = .ok (.iconst 5, 1) := by decide +kernel
theorem d0_329 : decode code 329 = .ok (.iload 5, 2) := by decide +kernel
theorem d0_331 : decode code 331 = .ok (.iload 7, 2) := by decide +kernel
theorem d0_333 : decode code 333 = .ok (.aload 8, 2) := by decide +kernel
theorem d0_335 : decode code 335 = .ok (.invokestatic 24, 3) := by decide +kernel
theorem d0_338 : decode code 338 = .ok (.iadd, 1) := by decide +kernel
theorem d0_339 : decode code 339 = .ok (.iload_n 0, 1) := by decide +kernel
theorem d0_340 : decode code 340 = .ok (.iload_n 1, 1) := by decide +kernel
theorem d0_341 : decode code 341 = .ok (.bipush 6, 2) := by decide +kernel
theorem d0_343 : decode code 343 = .ok (.iload 5, 2) := by decide +kernel
theorem d0_345 : decode code 345 = .ok (.iload 7, 2) := by decide +kernel
theorem d0_347 : decode code 347 = .ok (.aload 8, 2) := by decide +kernel
theorem d0_349 : decode code 349 = .ok (.invokestatic 24, 3) := by decide +kernel
theorem d0_352 : decode code 352 = .ok (.iadd, 1) := by decide +kernel
theorem d0_353 : decode code 353 = .ok (.iload_n 0, 1) := by decide +kernel
theorem d0_354 : decode code 354 = .ok (.iload_n 1, 1) := by decide +kernel
theorem d0_355 : decode code 355 = .ok (.bipush 7, 2) := by decide +kernel
theorem d0_357 : decode code 357 = .ok (.iload 5, 2) := by decide +kernel
theorem d0_359 : decode code 359 = .ok (.iload 7, 2) := by decide +kernel
theorem d0_361 : decode code 361 = .ok (.aload 8, 2) := by decide +kernel
theorem d0_363 : decode code 363 = .ok (.invokestatic 24, 3) := by decide +kernel
theorem d0_366 : decode code 366 = .ok (.iadd, 1) := by decide +kernel
theorem d0_367 : decode code 367 = .ok (.iload_n 0, 1) := by decide +kernel
theorem d0_368 : decode code 368 = .ok (.iload_n 1, 1) := by decide +kernel
theorem d0_369 : decode code 369 = .ok (.bipush 8, 2) := by decide +kernel
theorem d0_371 : decode code 371 = .ok (.iload 5, 2) := by decide +kernel
theorem d0_373 : decode code 373 = .ok (.iload 7, 2) := by decide +kernel
theorem d0_375 : decode code 375 = .ok (.aload 8, 2) := by decide +kernel
theorem d0_377 : decode code 377 = .ok (.invokestatic 24, 3) := by decide +kernel
theorem d0_380 : decode code 380 = .ok (.iadd, 1) := by decide +kernel
theorem d0_381 : decode code 381 = .ok (.iload_n 0, 1) := by decide +kernel
theorem d0_382 : decode code 382 = .ok (.iload_n 1, 1) := by decide +kernel
theorem d0_383 : decode code 383 = .ok (.bipush 9, 2) := by decide +kernel
theorem d0_385 : decode code 385 = .ok (.iload 5, 2) := by decide +kernel
theorem d0_387 : decode code 387 = .ok (.iload 7, 2) := by decide +kernel
theorem d0_389 : decode code 389 = .ok (.aload 8, 2) := by decide +kernel
theorem d0_391 : decode code 391 = .ok (.invokestatic 24, 3) := by decide +kernel
theorem d0_394 : decode code 394 = .ok (.iadd, 1) := by decide +kernel
theorem d0_395 : decode code 395 = .ok (.istore 10, 2) := by decide +kernel
theorem d0_397 : decode code 397 = .ok (.aload 9, 2) := by decide +kernel
theorem d0_399 : decode code 399 = .ok (.iload 5, 2) := by decide +kernel
theorem d0_401 : decode code 401 = .ok (.iload 7, 2) := by decide +kernel
theorem d0_403 : decode code 403 = .ok (.invokestatic 28, 3) := by decide +kernel
theorem d0_406 : decode code 406 = .ok (.iload 10, 2) := by decide +kernel
theorem d0_408 : decode code 408 = .ok (.if_icmp .ne 7, 3) := by decide +kernel
theorem d0_411 : decode code 411 = .ok (.iconst 1, 1) := by decide +kernel
theorem d0_412 : decode code 412 = .ok (.goto 4, 3) := by decide +kernel
theorem d0_415 : decode code 415 = .ok (.iconst 0, 1) := by decide +kernel
theorem d0_416 : decode code 416 = .ok (.ireturn, 1) := by decide +kernel
set_option maxRecDepth 65536 in
set_option maxHeartbeats 40000000 in
theorem rm0 (l : Launch) (Z : State) (a0 : Array Value) (hw : ∀ d ∈ tables_1, d.before a0 Z = true) (ws : List Jvm.Cond) (n0 : Nat) (h0 : Heap) (Z0 : n0 ≤ h0.size) (a : Int32) (b : Int32) (b0 : Int32) (l0 : Int32) (jk : Int32) :
    MetFree l x (head1 (Jvm.Cond.code x code maxLocals ret :: ws) room_1) (fun as_ U => as_ = #[(.int a), (.int b), (.int b0), (.int l0), (.int jk)] ∧ Z.Warmed39 U.vm ∧ U.heap = h0) (fun _ _ _ _ _ => True) (fun _ U o U' => ∃ v L, o = .returned v ∧ ((fun v h => v = some (.int 1)) v U'.heap ∧ Fr n0 L) ∧ FrameEnd U o U' L 16 128) := by
  refine met_of (Q := fun v h => v = some (.int 1)) #[.val (.int a), .val (.int b), .val (.int b0), .val (.int l0), .val (.int jk), .unset, .unset, .unset, .unset, .unset, .unset] (plainFor_of_name pn_1) Z0 (fun m => by first | (simp [entryFrame, mkF, argsToLocals, Value.category, maxLocals]; done) | rfl) ?_
  intro C H
  refine k_iloadN (pc := 0) H d0_0 rfl ?_
  refine k_ldcI (v := (2147483647 : Int32)) (pc := 1) H (wd hw 0 rfl) d0_1 ?_
  refine k_iand (pc := 3) H d0_3 ?_
  refine k_bipush (11 : Int32) (pc := 4) H d0_4 rfl ?_
  refine k_irem (pc := 6) H d0_6 (by decide) ?_
  generalize hv_bb : ((b0 &&& (2147483647 : Int32)) % (11 : Int32)) = bb
  refine k_istore (pc := 7) H d0_7 (Ls' := #[.val (.int a), .val (.int b), .val (.int b0), .val (.int l0), .val (.int jk), .val (.int bb), .unset, .unset, .unset, .unset, .unset]) rfl ?_
  refine k_iloadN (pc := 9) H d0_9 rfl ?_
  refine k_ldcI (v := (2147483647 : Int32)) (pc := 10) H (wd hw 0 rfl) d0_10 ?_
  refine k_iand (pc := 12) H d0_12 ?_
  refine k_bipush (11 : Int32) (pc := 13) H d0_13 rfl ?_
  refine k_iload (pc := 15) H d0_15 rfl ?_
  refine k_isub (pc := 17) H d0_17 ?_
  obtain ⟨m, hm, hm11⟩ := mod_nat b0 2147483647 11 31 11 (by decide) (by decide) rfl (by decide)
  rw [hv_bb] at hm
  have h11 : ((11 : Int32) - bb).toInt = ((11 - m : Nat) : Int) := sub_nat rfl hm (by omega)
  have z11 : (11 : Int32) - bb ≠ 0 := fun e => by rw [e] at h11; have : (0 : Int32).toInt = 0 := rfl; omega
  refine k_irem (pc := 18) H d0_18 (z11) ?_
  refine k_bipush (9 : Int32) (pc := 19) H d0_19 rfl ?_
  refine k_invS (y := (⟨"java/lang/Math", "min", "(II)I"⟩ : MethodName)) (st := []) [(.int ((l0 &&& (2147483647 : Int32)) % ((11 : Int32) - bb))), (.int (9 : Int32))] 0 (pc := 21) H (wd hw 1 rfl) (wd hw 2 rfl) (wd hw 3 rfl) (wd hw 4 rfl) (by decide) (fun z0 => rm1 l Z a0 hw n0 h0 z0 _ _) (lenOf pd_1 rfl) d0_21 rfl rfl rfl (by decide) (by decide) (by decide) (by decide) ?_
  rintro v hx ⟨rfl, ex⟩
  rw [ex]
  clear ex hx
  show W l room_1 C _ h0 0 0 24 #[.val (.int a), .val (.int b), .val (.int b0), .val (.int l0), .val (.int jk), .val (.int bb), .unset, .unset, .unset, .unset, .unset] [(.int (if (9 : Int32) < ((l0 &&& (2147483647 : Int32)) % ((11 : Int32) - bb)) then (9 : Int32) else ((l0 &&& (2147483647 : Int32)) % ((11 : Int32) - bb))))]
  generalize hv_len : (if (9 : Int32) < ((l0 &&& (2147483647 : Int32)) % ((11 : Int32) - bb)) then (9 : Int32) else ((l0 &&& (2147483647 : Int32)) % ((11 : Int32) - bb))) = len
  refine k_istore (pc := 24) H d0_24 (Ls' := #[.val (.int a), .val (.int b), .val (.int b0), .val (.int l0), .val (.int jk), .val (.int bb), .val (.int len), .unset, .unset, .unset, .unset]) rfl ?_
  refine k_iload (pc := 26) H d0_26 rfl ?_
  refine k_iload (pc := 28) H d0_28 rfl ?_
  refine k_iadd (pc := 30) H d0_30 ?_
  generalize hv_ee : (bb + len) = ee
  refine k_istore (pc := 31) H d0_31 (Ls' := #[.val (.int a), .val (.int b), .val (.int b0), .val (.int l0), .val (.int jk), .val (.int bb), .val (.int len), .val (.int ee), .unset, .unset, .unset]) rfl ?_
  refine k_bipush (9 : Int32) (pc := 33) H d0_33 rfl ?_
  obtain ⟨n, hn, hn11⟩ := mod_nat l0 2147483647 (11 - bb) 31 (11 - m) (by decide) (by decide) h11 (by omega)
  obtain ⟨lk, hlk, hlk9, hlkn⟩ : ∃ z : Nat, len.toInt = (z : Int) ∧ z ≤ 9 ∧ z ≤ n := by
    rw [← hv_len]
    have q := lt_nat (x := 9) (i := 9) rfl hn
    by_cases c : (9 : Int32) < ((l0 &&& (2147483647 : Int32)) % ((11 : Int32) - bb))
    · rw [if_pos c]; exact ⟨9, rfl, by omega, by have := q.mp c; omega⟩
    · rw [if_neg c]; exact ⟨n, hn, by have : ¬ 9 < n := fun z => c (q.mpr z); omega, Nat.le_refl _⟩
  obtain ⟨k, hk, hkm⟩ : ∃ z : Nat, ee.toInt = (z : Int) ∧ z = m + lk := ⟨m + lk, by rw [← hv_ee]; exact add_nat hm hlk (by omega), rfl⟩
  refine k_new_int (9) 9 (pc := 35) H (wd hw 5 rfl) d0_35 (by decide) (by decide) (by decide) (by decide) (by decide) ?_
  intro h2 pw ea3 ge4 E5 XA1 V6
  refine k_dup (pc := 37) H d0_37 rfl ?_
  refine k_iconst (0 : Int32) (pc := 38) H d0_38 rfl ?_
  refine k_iconst (1 : Int32) (pc := 39) H d0_39 rfl ?_
  refine k_iastoreT (i := 0) (pc := 40) H V6 (by decide) (by simp) ge4 d0_40 ?_
  intro h7 K8 V9
  refine k_dup (pc := 41) H d0_41 rfl ?_
  refine k_iconst (1 : Int32) (pc := 42) H d0_42 rfl ?_
  refine k_bipush (10 : Int32) (pc := 43) H d0_43 rfl ?_
  refine k_iastoreT (i := 1) (pc := 45) H V9 (by decide) (by simp) ge4 d0_45 ?_
  intro h10 K11 V12
  refine k_dup (pc := 46) H d0_46 rfl ?_
  refine k_iconst (2 : Int32) (pc := 47) H d0_47 rfl ?_
  refine k_bipush (100 : Int32) (pc := 48) H d0_48 rfl ?_
  refine k_iastoreT (i := 2) (pc := 50) H V12 (by decide) (by simp) ge4 d0_50 ?_
  intro h13 K14 V15
  refine k_dup (pc := 51) H d0_51 rfl ?_
  refine k_iconst (3 : Int32) (pc := 52) H d0_52 rfl ?_
  refine k_sipush (1000 : Int32) (pc := 53) H d0_53 rfl ?_
  refine k_iastoreT (i := 3) (pc := 56) H V15 (by decide) (by simp) ge4 d0_56 ?_
  intro h16 K17 V18
  refine k_dup (pc := 57) H d0_57 rfl ?_
  refine k_iconst (4 : Int32) (pc := 58) H d0_58 rfl ?_
  refine k_sipush (10000 : Int32) (pc := 59) H d0_59 rfl ?_
  refine k_iastoreT (i := 4) (pc := 62) H V18 (by decide) (by simp) ge4 d0_62 ?_
  intro h19 K20 V21
  refine k_dup (pc := 63) H d0_63 rfl ?_
  refine k_iconst (5 : Int32) (pc := 64) H d0_64 rfl ?_
  refine k_ldcI (v := (100000 : Int32)) (pc := 65) H (wd hw 6 rfl) d0_65 ?_
  refine k_iastoreT (i := 5) (pc := 67) H V21 (by decide) (by simp) ge4 d0_67 ?_
  intro h22 K23 V24
  refine k_dup (pc := 68) H d0_68 rfl ?_
  refine k_bipush (6 : Int32) (pc := 69) H d0_69 rfl ?_
  refine k_ldcI (v := (1000000 : Int32)) (pc := 71) H (wd hw 7 rfl) d0_71 ?_
  refine k_iastoreT (i := 6) (pc := 73) H V24 (by decide) (by simp) ge4 d0_73 ?_
  intro h25 K26 V27
  refine k_dup (pc := 74) H d0_74 rfl ?_
  refine k_bipush (7 : Int32) (pc := 75) H d0_75 rfl ?_
  refine k_ldcI (v := (10000000 : Int32)) (pc := 77) H (wd hw 8 rfl) d0_77 ?_
  refine k_iastoreT (i := 7) (pc := 79) H V27 (by decide) (by simp) ge4 d0_79 ?_
  intro h28 K29 V30
  refine k_dup (pc := 80) H d0_80 rfl ?_
  refine k_bipush (8 : Int32) (pc := 81) H d0_81 rfl ?_
  refine k_ldcI (v := (100000000 : Int32)) (pc := 83) H (wd hw 9 rfl) d0_83 ?_
  refine k_iastoreT (i := 8) (pc := 85) H V30 (by decide) (by simp) ge4 d0_85 ?_
  intro h31 K32 V33
  have VP : IA Z h31 pw own_pw := by simpa [List.replicate, own_pw] using V33
  refine k_astore (pc := 86) H d0_86 rfl (Ls' := #[.val (.int a), .val (.int b), .val (.int b0), .val (.int l0), .val (.int jk), .val (.int bb), .val (.int len), .val (.int ee), .val (.ref pw), .unset, .unset]) rfl ?_
  refine k_bipush (10 : Int32) (pc := 88) H d0_88 rfl ?_
  refine k_new_char (10) 10 (pc := 90) H (wd hw 10 rfl) d0_90 (by decide) (by decide) (by decide) (by decide) (by decide) ?_
  intro h35 cs ea36 ge37 E38 XA34 V39
  have ne40 : pw ≠ cs := Nat.ne_of_lt (by rw [ea36]; exact VP.lt)
  have f41 : IA Z h35 pw own_pw := VP.ext E38
  refine k_astore (pc := 92) H d0_92 rfl (Ls' := #[.val (.int a), .val (.int b), .val (.int b0), .val (.int l0), .val (.int jk), .val (.int bb), .val (.int len), .val (.int ee), .val (.ref pw), .val (.ref cs), .unset]) rfl ?_
  refine k_aload (pc := 94) H d0_94 rfl rfl ?_
  refine k_iconst (0 : Int32) (pc := 96) H d0_96 rfl ?_
  refine k_iloadN (pc := 97) H d0_97 rfl ?_
  refine k_iloadN (pc := 98) H d0_98 rfl ?_
  refine k_iload (pc := 99) H d0_99 rfl ?_
  refine k_iconst (0 : Int32) (pc := 101) H d0_101 rfl ?_
  refine k_iload (pc := 102) H d0_102 rfl ?_
  refine k_iload (pc := 104) H d0_104 rfl ?_
  refine k_invS (y := (⟨"com/example/vestline/vestline/io/DecimalDigitsValuePinLaw", "ch", "(IIIIII)C"⟩ : MethodName)) (st := [(.int (0 : Int32)), (.ref cs)]) [(.int a), (.int b), (.int jk), (.int (0 : Int32)), (.int bb), (.int ee)] 2 (pc := 106) H (wd hw 11 rfl) (wd hw 12 rfl) (wd hw 13 rfl) (wd hw 14 rfl) (by decide) (fun z0 => rm2 l Z a0 hw n0 h35 z0 a b jk (0 : Int32) bb ee) (lenOf pd_2 rfl) d0_106 rfl rfl rfl (by decide) (by decide) (by decide) (by decide) ?_
  rintro v hx ⟨c0, hc0, rfl, ex⟩
  rw [ex]
  clear ex hx
  show W l room_1 C _ h35 2 19 109 #[.val (.int a), .val (.int b), .val (.int b0), .val (.int l0), .val (.int jk), .val (.int bb), .val (.int len), .val (.int ee), .val (.ref pw), .val (.ref cs), .unset] [(.int c0.toUInt32.toInt32), (.int (0 : Int32)), (.ref cs)]
  refine k_castoreT (i := 0) (pc := 109) H V39 (by decide) (by simp) ge37 d0_109 ?_
  intro h42 K43 V44
  have f45 : IA Z h42 pw own_pw := f41.keep K43 (ninS ne40 nin0)
  refine k_aload (pc := 110) H d0_110 rfl rfl ?_
  refine k_iconst (1 : Int32) (pc := 112) H d0_112 rfl ?_
  refine k_iloadN (pc := 113) H d0_113 rfl ?_
  refine k_iloadN (pc := 114) H d0_114 rfl ?_
  refine k_iload (pc := 115) H d0_115 rfl ?_
  refine k_iconst (1 : Int32) (pc := 117) H d0_117 rfl ?_
  refine k_iload (pc := 118) H d0_118 rfl ?_
  refine k_iload (pc := 120) H d0_120 rfl ?_
  refine k_invS (y := (⟨"com/example/vestline/vestline/io/DecimalDigitsValuePinLaw", "ch", "(IIIIII)C"⟩ : MethodName)) (st := [(.int (1 : Int32)), (.ref cs)]) [(.int a), (.int b), (.int jk), (.int (1 : Int32)), (.int bb), (.int ee)] 2 (pc := 122) H (wd hw 11 rfl) (wd hw 12 rfl) (wd hw 13 rfl) (wd hw 14 rfl) (by decide) (fun z0 => rm2 l Z a0 hw n0 h42 z0 a b jk (1 : Int32) bb ee) (lenOf pd_2 rfl) d0_122 rfl rfl rfl (by decide) (by decide) (by decide) (by decide) ?_
  rintro v hx ⟨c1, hc1, rfl, ex⟩
  rw [ex]
  clear ex hx
  show W l room_1 C _ h42 2 19 125 #[.val (.int a), .val (.int b), .val (.int b0), .val (.int l0), .val (.int jk), .val (.int bb), .val (.int len), .val (.int ee), .val (.ref pw), .val (.ref cs), .unset] [(.int c1.toUInt32.toInt32), (.int (1 : Int32)), (.ref cs)]
  refine k_castoreT (i := 1) (pc := 125) H V44 (by decide) (by simp) ge37 d0_125 ?_
  intro h46 K47 V48
  have f49 : IA Z h46 pw own_pw := f45.keep K47 (ninS ne40 nin0)
  refine k_aload (pc := 126) H d0_126 rfl rfl ?_
  refine k_iconst (2 : Int32) (pc := 128) H d0_128 rfl ?_
  refine k_iloadN (pc := 129) H d0_129 rfl ?_
  refine k_iloadN (pc := 130) H d0_130 rfl ?_
  refine k_iload (pc := 131) H d0_131 rfl ?_
  refine k_iconst (2 : Int32) (pc := 133) H d0_133 rfl ?_
  refine k_iload (pc := 134) H d0_134 rfl ?_
  refine k_iload (pc := 136) H d0_136 rfl ?_
  refine k_invS (y := (⟨"com/example/vestline/vestline/io/DecimalDigitsValuePinLaw", "ch", "(IIIIII)C"⟩ : MethodName)) (st := [(.int (2 : Int32)), (.ref cs)]) [(.int a), (.int b), (.int jk), (.int (2 : Int32)), (.int bb), (.int ee)] 2 (pc := 138) H (wd hw 11 rfl) (wd hw 12 rfl) (wd hw 13 rfl) (wd hw 14 rfl) (by decide) (fun z0 => rm2 l Z a0 hw n0 h46 z0 a b jk (2 : Int32) bb ee) (lenOf pd_2 rfl) d0_138 rfl rfl rfl (by decide) (by decide) (by decide) (by decide) ?_
  rintro v hx ⟨c2, hc2, rfl, ex⟩
  rw [ex]
  clear ex hx
  show W l room_1 C _ h46 2 19 141 #[.val (.int a), .val (.int b), .val (.int b0), .val (.int l0), .val (.int jk), .val (.int bb), .val (.int len), .val (.int ee), .val (.ref pw), .val (.ref cs), .unset] [(.int c2.toUInt32.toInt32), (.int (2 : Int32)), (.ref cs)]
  refine k_castoreT (i := 2) (pc := 141) H V48 (by decide) (by simp) ge37 d0_141 ?_
  intro h50 K51 V52
  have f53 : IA Z h50 pw own_pw := f49.keep K51 (ninS ne40 nin0)
  refine k_aload (pc := 142) H d0_142 rfl rfl ?_
  refine k_iconst (3 : Int32) (pc := 144) H d0_144 rfl ?_
  refine k_iloadN (pc := 145) H d0_145 rfl ?_
  refine k_iloadN (pc := 146) H d0_146 rfl ?_
  refine k_iload (pc := 147) H d0_147 rfl ?_
  refine k_iconst (3 : Int32) (pc := 149) H d0_149 rfl ?_
  refine k_iload (pc := 150) H d0_150 rfl ?_
  refine k_iload (pc := 152) H d0_152 rfl ?_
  refine k_invS (y := (⟨"com/example/vestline/vestline/io/DecimalDigitsValuePinLaw", "ch", "(IIIIII)C"⟩ : MethodName)) (st := [(.int (3 : Int32)), (.ref cs)]) [(.int a), (.int b), (.int jk), (.int (3 : Int32)), (.int bb), (.int ee)] 2 (pc := 154) H (wd hw 11 rfl) (wd hw 12 rfl) (wd hw 13 rfl) (wd hw 14 rfl) (by decide) (fun z0 => rm2 l Z a0 hw n0 h50 z0 a b jk (3 : Int32) bb ee) (lenOf pd_2 rfl) d0_154 rfl rfl rfl (by decide) (by decide) (by decide) (by decide) ?_
  rintro v hx ⟨c3, hc3, rfl, ex⟩
  rw [ex]
  clear ex hx
  show W l room_1 C _ h50 2 19 157 #[.val (.int a), .val (.int b), .val (.int b0), .val (.int l0), .val (.int jk), .val (.int bb), .val (.int len), .val (.int ee), .val (.ref pw), .val (.ref cs), .unset] [(.int c3.toUInt32.toInt32), (.int (3 : Int32)), (.ref cs)]
  refine k_castoreT (i := 3) (pc := 157) H V52 (by decide) (by simp) ge37 d0_157 ?_
  intro h54 K55 V56
  have f57 : IA Z h54 pw own_pw := f53.keep K55 (ninS ne40 nin0)
  refine k_aload (pc := 158) H d0_158 rfl rfl ?_
  refine k_iconst (4 : Int32) (pc := 160) H d0_160 rfl ?_
  refine k_iloadN (pc := 161) H d0_161 rfl ?_
  refine k_iloadN (pc := 162) H d0_162 rfl ?_
  refine k_iload (pc := 163) H d0_163 rfl ?_
  refine k_iconst (4 : Int32) (pc := 165) H d0_165 rfl ?_
  refine k_iload (pc := 166) H d0_166 rfl ?_
  refine k_iload (pc := 168) H d0_168 rfl ?_
  refine k_invS (y := (⟨"com/example/vestline/vestline/io/DecimalDigitsValuePinLaw", "ch", "(IIIIII)C"⟩ : MethodName)) (st := [(.int (4 : Int32)), (.ref cs)]) [(.int a), (.int b), (.int jk), (.int (4 : Int32)), (.int bb), (.int ee)] 2 (pc := 170) H (wd hw 11 rfl) (wd hw 12 rfl) (wd hw 13 rfl) (wd hw 14 rfl) (by decide) (fun z0 => rm2 l Z a0 hw n0 h54 z0 a b jk (4 : Int32) bb ee) (lenOf pd_2 rfl) d0_170 rfl rfl rfl (by decide) (by decide) (by decide) (by decide) ?_
  rintro v hx ⟨c4, hc4, rfl, ex⟩
  rw [ex]
  clear ex hx
  show W l room_1 C _ h54 2 19 173 #[.val (.int a), .val (.int b), .val (.int b0), .val (.int l0), .val (.int jk), .val (.int bb), .val (.int len), .val (.int ee), .val (.ref pw), .val (.ref cs), .unset] [(.int c4.toUInt32.toInt32), (.int (4 : Int32)), (.ref cs)]
  refine k_castoreT (i := 4) (pc := 173) H V56 (by decide) (by simp) ge37 d0_173 ?_
  intro h58 K59 V60
  have f61 : IA Z h58 pw own_pw := f57.keep K59 (ninS ne40 nin0)
  refine k_aload (pc := 174) H d0_174 rfl rfl ?_
  refine k_iconst (5 : Int32) (pc := 176) H d0_176 rfl ?_
  refine k_iloadN (pc := 177) H d0_177 rfl ?_
  refine k_iloadN (pc := 178) H d0_178 rfl ?_
  refine k_iload (pc := 179) H d0_179 rfl ?_
  refine k_iconst (5 : Int32) (pc := 181) H d0_181 rfl ?_
  refine k_iload (pc := 182) H d0_182 rfl ?_
  refine k_iload (pc := 184) H d0_184 rfl ?_
  refine k_invS (y := (⟨"com/example/vestline/vestline/io/DecimalDigitsValuePinLaw", "ch", "(IIIIII)C"⟩ : MethodName)) (st := [(.int (5 : Int32)), (.ref cs)]) [(.int a), (.int b), (.int jk), (.int (5 : Int32)), (.int bb), (.int ee)] 2 (pc := 186) H (wd hw 11 rfl) (wd hw 12 rfl) (wd hw 13 rfl) (wd hw 14 rfl) (by decide) (fun z0 => rm2 l Z a0 hw n0 h58 z0 a b jk (5 : Int32) bb ee) (lenOf pd_2 rfl) d0_186 rfl rfl rfl (by decide) (by decide) (by decide) (by decide) ?_
  rintro v hx ⟨c5, hc5, rfl, ex⟩
  rw [ex]
  clear ex hx
  show W l room_1 C _ h58 2 19 189 #[.val (.int a), .val (.int b), .val (.int b0), .val (.int l0), .val (.int jk), .val (.int bb), .val (.int len), .val (.int ee), .val (.ref pw), .val (.ref cs), .unset] [(.int c5.toUInt32.toInt32), (.int (5 : Int32)), (.ref cs)]
  refine k_castoreT (i := 5) (pc := 189) H V60 (by decide) (by simp) ge37 d0_189 ?_
  intro h62 K63 V64
  have f65 : IA Z h62 pw own_pw := f61.keep K63 (ninS ne40 nin0)
  refine k_aload (pc := 190) H d0_190 rfl rfl ?_
  refine k_bipush (6 : Int32) (pc := 192) H d0_192 rfl ?_
  refine k_iloadN (pc := 194) H d0_194 rfl ?_
  refine k_iloadN (pc := 195) H d0_195 rfl ?_
  refine k_iload (pc := 196) H d0_196 rfl ?_
  refine k_bipush (6 : Int32) (pc := 198) H d0_198 rfl ?_
  refine k_iload (pc := 200) H d0_200 rfl ?_
  refine k_iload (pc := 202) H d0_202 rfl ?_
  refine k_invS (y := (⟨"com/example/vestline/vestline/io/DecimalDigitsValuePinLaw", "ch", "(IIIIII)C"⟩ : MethodName)) (st := [(.int (6 : Int32)), (.ref cs)]) [(.int a), (.int b), (.int jk), (.int (6 : Int32)), (.int bb), (.int ee)] 2 (pc := 204) H (wd hw 11 rfl) (wd hw 12 rfl) (wd hw 13 rfl) (wd hw 14 rfl) (by decide) (fun z0 => rm2 l Z a0 hw n0 h62 z0 a b jk (6 : Int32) bb ee) (lenOf pd_2 rfl) d0_204 rfl rfl rfl (by decide) (by decide) (by decide) (by decide) ?_
  rintro v hx ⟨c6, hc6, rfl, ex⟩
  rw [ex]
  clear ex hx
  show W l room_1 C _ h62 2 19 207 #[.val (.int a), .val (.int b), .val (.int b0), .val (.int l0), .val (.int jk), .val (.int bb), .val (.int len), .val (.int ee), .val (.ref pw), .val (.ref cs), .unset] [(.int c6.toUInt32.toInt32), (.int (6 : Int32)), (.ref cs)]
  refine k_castoreT (i := 6) (pc := 207) H V64 (by decide) (by simp) ge37 d0_207 ?_
  intro h66 K67 V68
  have f69 : IA Z h66 pw own_pw := f65.keep K67 (ninS ne40 nin0)
  refine k_aload (pc := 208) H d0_208 rfl rfl ?_
  refine k_bipush (7 : Int32) (pc := 210) H d0_210 rfl ?_
  refine k_iloadN (pc := 212) H d0_212 rfl ?_
  refine k_iloadN (pc := 213) H d0_213 rfl ?_
  refine k_iload (pc := 214) H d0_214 rfl ?_
  refine k_bipush (7 : Int32) (pc := 216) H d0_216 rfl ?_
  refine k_iload (pc := 218) H d0_218 rfl ?_
  refine k_iload (pc := 220) H d0_220 rfl ?_
  refine k_invS (y := (⟨"com/example/vestline/vestline/io/DecimalDigitsValuePinLaw", "ch", "(IIIIII)C"⟩ : MethodName)) (st := [(.int (7 : Int32)), (.ref cs)]) [(.int a), (.int b), (.int jk), (.int (7 : Int32)), (.int bb), (.int ee)] 2 (pc := 222) H (wd hw 11 rfl) (wd hw 12 rfl) (wd hw 13 rfl) (wd hw 14 rfl) (by decide) (fun z0 => rm2 l Z a0 hw n0 h66 z0 a b jk (7 : Int32) bb ee) (lenOf pd_2 rfl) d0_222 rfl rfl rfl (by decide) (by decide) (by decide) (by decide) ?_
  rintro v hx ⟨c7, hc7, rfl, ex⟩
  rw [ex]
  clear ex hx
  show W l room_1 C _ h66 2 19 225 #[.val (.int a), .val (.int b), .val (.int b0), .val (.int l0), .val (.int jk), .val (.int bb), .val (.int len), .val (.int ee), .val (.ref pw), .val (.ref cs), .unset] [(.int c7.toUInt32.toInt32), (.int (7 : Int32)), (.ref cs)]
  refine k_castoreT (i := 7) (pc := 225) H V68 (by decide) (by simp) ge37 d0_225 ?_
  intro h70 K71 V72
  have f73 : IA Z h70 pw own_pw := f69.keep K71 (ninS ne40 nin0)
  refine k_aload (pc := 226) H d0_226 rfl rfl ?_
  refine k_bipush (8 : Int32) (pc := 228) H d0_228 rfl ?_
  refine k_iloadN (pc := 230) H d0_230 rfl ?_
  refine k_iloadN (pc := 231) H d0_231 rfl ?_
  refine k_iload (pc := 232) H d0_232 rfl ?_
  refine k_bipush (8 : Int32) (pc := 234) H d0_234 rfl ?_
  refine k_iload (pc := 236) H d0_236 rfl ?_
  refine k_iload (pc := 238) H d0_238 rfl ?_
  refine k_invS (y := (⟨"com/example/vestline/vestline/io/DecimalDigitsValuePinLaw", "ch", "(IIIIII)C"⟩ : MethodName)) (st := [(.int (8 : Int32)), (.ref cs)]) [(.int a), (.int b), (.int jk), (.int (8 : Int32)), (.int bb), (.int ee)] 2 (pc := 240) H (wd hw 11 rfl) (wd hw 12 rfl) (wd hw 13 rfl) (wd hw 14 rfl) (by decide) (fun z0 => rm2 l Z a0 hw n0 h70 z0 a b jk (8 : Int32) bb ee) (lenOf pd_2 rfl) d0_240 rfl rfl rfl (by decide) (by decide) (by decide) (by decide) ?_
  rintro v hx ⟨c8, hc8, rfl, ex⟩
  rw [ex]
  clear ex hx
  show W l room_1 C _ h70 2 19 243 #[.val (.int a), .val (.int b), .val (.int b0), .val (.int l0), .val (.int jk), .val (.int bb), .val (.int len), .val (.int ee), .val (.ref pw), .val (.ref cs), .unset] [(.int c8.toUInt32.toInt32), (.int (8 : Int32)), (.ref cs)]
  refine k_castoreT (i := 8) (pc := 243) H V72 (by decide) (by simp) ge37 d0_243 ?_
  intro h74 K75 V76
  have f77 : IA Z h74 pw own_pw := f73.keep K75 (ninS ne40 nin0)
  refine k_aload (pc := 244) H d0_244 rfl rfl ?_
  refine k_bipush (9 : Int32) (pc := 246) H d0_246 rfl ?_
  refine k_iloadN (pc := 248) H d0_248 rfl ?_
  refine k_iloadN (pc := 249) H d0_249 rfl ?_
  refine k_iload (pc := 250) H d0_250 rfl ?_
  refine k_bipush (9 : Int32) (pc := 252) H d0_252 rfl ?_
  refine k_iload (pc := 254) H d0_254 rfl ?_
  refine k_iload (pc := 256) H d0_256 rfl ?_
  refine k_invS (y := (⟨"com/example/vestline/vestline/io/DecimalDigitsValuePinLaw", "ch", "(IIIIII)C"⟩ : MethodName)) (st := [(.int (9 : Int32)), (.ref cs)]) [(.int a), (.int b), (.int jk), (.int (9 : Int32)), (.int bb), (.int ee)] 2 (pc := 258) H (wd hw 11 rfl) (wd hw 12 rfl) (wd hw 13 rfl) (wd hw 14 rfl) (by decide) (fun z0 => rm2 l Z a0 hw n0 h74 z0 a b jk (9 : Int32) bb ee) (lenOf pd_2 rfl) d0_258 rfl rfl rfl (by decide) (by decide) (by decide) (by decide) ?_
  rintro v hx ⟨c9, hc9, rfl, ex⟩
  rw [ex]
  clear ex hx
  show W l room_1 C _ h74 2 19 261 #[.val (.int a), .val (.int b), .val (.int b0), .val (.int l0), .val (.int jk), .val (.int bb), .val (.int len), .val (.int ee), .val (.ref pw), .val (.ref cs), .unset] [(.int c9.toUInt32.toInt32), (.int (9 : Int32)), (.ref cs)]
  refine k_castoreT (i := 9) (pc := 261) H V76 (by decide) (by simp) ge37 d0_261 ?_
  intro h78 K79 V80
  have f81 : IA Z h78 pw own_pw := f77.keep K79 (ninS ne40 nin0)
  refine k_iloadN (pc := 262) H d0_262 rfl ?_
  refine k_iloadN (pc := 263) H d0_263 rfl ?_
  refine k_iconst (0 : Int32) (pc := 264) H d0_264 rfl ?_
  refine k_iload (pc := 265) H d0_265 rfl ?_
  refine k_iload (pc := 267) H d0_267 rfl ?_
  refine k_aload (pc := 269) H d0_269 rfl rfl ?_
  have VC : CA Z h78 cs [c0, c1, c2, c3, c4, c5, c6, c7, c8, c9] := by simpa [List.replicate] using V80
  obtain ⟨ds, hds⟩ : ∃ ds : Nat → Int32, ds = fun i => own_dig a b (Int32.ofNat i) := ⟨_, rfl⟩
  refine k_invS (y := (⟨"com/example/vestline/vestline/io/DecimalDigitsValuePinLaw", "term", "(IIIII[I)I"⟩ : MethodName)) (st := []) [(.int a), (.int b), (.int (0 : Int32)), (.int bb), (.int ee), (.ref pw)] 0 (pc := 271) H (wd hw 18 rfl) (wd hw 19 rfl) (wd hw 13 rfl) (wd hw 20 rfl) (by decide) (fun z0 => rm4 l Z a0 hw n0 h78 z0 a b (0 : Int32) bb ee pw 0 m k f81 rfl hm hk (by omega)) (lenOf pd_3 rfl) d0_271 rfl rfl rfl (by decide) (by decide) (by decide) (by decide) ?_
  rintro v hx ⟨rfl, ex⟩
  rw [ex]
  clear ex hx
  show W l room_1 C _ h78 2 19 274 #[.val (.int a), .val (.int b), .val (.int b0), .val (.int l0), .val (.int jk), .val (.int bb), .val (.int len), .val (.int ee), .val (.ref pw), .val (.ref cs), .unset] [(.int (if m ≤ 0 ∧ 0 < k then own_dig a b (0 : Int32) * own_pw.getD (k - 1 - 0) 0 else 0))]
  have tt0 : (if m ≤ 0 ∧ 0 < k then own_dig a b (0 : Int32) * own_pw.getD (k - 1 - 0) 0 else 0) = own_t ds m k 0 := by rw [hds]; rfl
  rw [tt0]
  refine k_iloadN (pc := 274) H d0_274 rfl ?_
  refine k_iloadN (pc := 275) H d0_275 rfl ?_
  refine k_iconst (1 : Int32) (pc := 276) H d0_276 rfl ?_
  refine k_iload (pc := 277) H d0_277 rfl ?_
  refine k_iload (pc := 279) H d0_279 rfl ?_
  refine k_aload (pc := 281) H d0_281 rfl rfl ?_
  refine k_invS (y := (⟨"com/example/vestline/vestline/io/DecimalDigitsValuePinLaw", "term", "(IIIII[I)I"⟩ : MethodName)) (st := [(.int (own_t ds m k 0))]) [(.int a), (.int b), (.int (1 : Int32)), (.int bb), (.int ee), (.ref pw)] 1 (pc := 283) H (wd hw 18 rfl) (wd hw 19 rfl) (wd hw 13 rfl) (wd hw 20 rfl) (by decide) (fun z0 => rm4 l Z a0 hw n0 h78 z0 a b (1 : Int32) bb ee pw 1 m k f81 rfl hm hk (by omega)) (lenOf pd_3 rfl) d0_283 rfl rfl rfl (by decide) (by decide) (by decide) (by decide) ?_
  rintro v hx ⟨rfl, ex⟩
  rw [ex]
  clear ex hx
  show W l room_1 C _ h78 2 19 286 #[.val (.int a), .val (.int b), .val (.int b0), .val (.int l0), .val (.int jk), .val (.int bb), .val (.int len), .val (.int ee), .val (.ref pw), .val (.ref cs), .unset] [(.int (if m ≤ 1 ∧ 1 < k then own_dig a b (1 : Int32) * own_pw.getD (k - 1 - 1) 0 else 0)), (.int (own_t ds m k 0))]
  have tt1 : (if m ≤ 1 ∧ 1 < k then own_dig a b (1 : Int32) * own_pw.getD (k - 1 - 1) 0 else 0) = own_t ds m k 1 := by rw [hds]; rfl
  rw [tt1]
  refine k_iadd (pc := 286) H d0_286 ?_
  refine k_iloadN (pc := 287) H d0_287 rfl ?_
  refine k_iloadN (pc := 288) H d0_288 rfl ?_
  refine k_iconst (2 : Int32) (pc := 289) H d0_289 rfl ?_
  refine k_iload (pc := 290) H d0_290 rfl ?_
  refine k_iload (pc := 292) H d0_292 rfl ?_
  refine k_aload (pc := 294) H d0_294 rfl rfl ?_
  refine k_invS (y := (⟨"com/example/vestline/vestline/io/DecimalDigitsValuePinLaw", "term", "(IIIII[I)I"⟩ : MethodName)) (st := [(.int ((own_t ds m k 0) + (own_t ds m k 1)))]) [(.int a), (.int b), (.int (2 : Int32)), (.int bb), (.int ee), (.ref pw)] 1 (pc := 296) H (wd hw 18 rfl) (wd hw 19 rfl) (wd hw 13 rfl) (wd hw 20 rfl) (by decide) (fun z0 => rm4 l Z a0 hw n0 h78 z0 a b (2 : Int32) bb ee pw 2 m k f81 rfl hm hk (by omega)) (lenOf pd_3 rfl) d0_296 rfl rfl rfl (by decide) (by decide) (by decide) (by decide) ?_
  rintro v hx ⟨rfl, ex⟩
  rw [ex]
  clear ex hx
  show W l room_1 C _ h78 2 19 299 #[.val (.int a), .val (.int b), .val (.int b0), .val (.int l0), .val (.int jk), .val (.int bb), .val (.int len), .val (.int ee), .val (.ref pw), .val (.ref cs), .unset] [(.int (if m ≤ 2 ∧ 2 < k then own_dig a b (2 : Int32) * own_pw.getD (k - 1 - 2) 0 else 0)), (.int ((own_t ds m k 0) + (own_t ds m k 1)))]
  have tt2 : (if m ≤ 2 ∧ 2 < k then own_dig a b (2 : Int32) * own_pw.getD (k - 1 - 2) 0 else 0) = own_t ds m k 2 := by rw [hds]; rfl
  rw [tt2]
  refine k_iadd (pc := 299) H d0_299 ?_
  refine k_iloadN (pc := 300) H d0_300 rfl ?_
  refine k_iloadN (pc := 301) H d0_301 rfl ?_
  refine k_iconst (3 : Int32) (pc := 302) H d0_302 rfl ?_
  refine k_iload (pc := 303) H d0_303 rfl ?_
  refine k_iload (pc := 305) H d0_305 rfl ?_
  refine k_aload (pc := 307) H d0_307 rfl rfl ?_
  refine k_invS (y := (⟨"com/example/vestline/vestline/io/DecimalDigitsValuePinLaw", "term", "(IIIII[I)I"⟩ : MethodName)) (st := [(.int (((own_t ds m k 0) + (own_t ds m k 1)) + (own_t ds m k 2)))]) [(.int a), (.int b), (.int (3 : Int32)), (.int bb), (.int ee), (.ref pw)] 1 (pc := 309) H (wd hw 18 rfl) (wd hw 19 rfl) (wd hw 13 rfl) (wd hw 20 rfl) (by decide) (fun z0 => rm4 l Z a0 hw n0 h78 z0 a b (3 : Int32) bb ee pw 3 m k f81 rfl hm hk (by omega)) (lenOf pd_3 rfl) d0_309 rfl rfl rfl (by decide) (by decide) (by decide) (by decide) ?_
  rintro v hx ⟨rfl, ex⟩
  rw [ex]
  clear ex hx
  show W l room_1 C _ h78 2 19 312 #[.val (.int a), .val (.int b), .val (.int b0), .val (.int l0), .val (.int jk), .val (.int bb), .val (.int len), .val (.int ee), .val (.ref pw), .val (.ref cs), .unset] [(.int (if m ≤ 3 ∧ 3 < k then own_dig a b (3 : Int32) * own_pw.getD (k - 1 - 3) 0 else 0)), (.int (((own_t ds m k 0) + (own_t ds m k 1)) + (own_t ds m k 2)))]
  have tt3 : (if m ≤ 3 ∧ 3 < k then own_dig a b (3 : Int32) * own_pw.getD (k - 1 - 3) 0 else 0) = own_t ds m k 3 := by rw [hds]; rfl
  rw [tt3]
  refine k_iadd (pc := 312) H d0_312 ?_
  refine k_iloadN (pc := 313) H d0_313 rfl ?_
  refine k_iloadN (pc := 314) H d0_314 rfl ?_
  refine k_iconst (4 : Int32) (pc := 315) H d0_315 rfl ?_
  refine k_iload (pc := 316) H d0_316 rfl ?_
  refine k_iload (pc := 318) H d0_318 rfl ?_
  refine k_aload (pc := 320) H d0_320 rfl rfl ?_
  refine k_invS (y := (⟨"com/example/vestline/vestline/io/DecimalDigitsValuePinLaw", "term", "(IIIII[I)I"⟩ : MethodName)) (st := [(.int ((((own_t ds m k 0) + (own_t ds m k 1)) + (own_t ds m k 2)) + (own_t ds m k 3)))]) [(.int a), (.int b), (.int (4 : Int32)), (.int bb), (.int ee), (.ref pw)] 1 (pc := 322) H (wd hw 18 rfl) (wd hw 19 rfl) (wd hw 13 rfl) (wd hw 20 rfl) (by decide) (fun z0 => rm4 l Z a0 hw n0 h78 z0 a b (4 : Int32) bb ee pw 4 m k f81 rfl hm hk (by omega)) (lenOf pd_3 rfl) d0_322 rfl rfl rfl (by decide) (by decide) (by decide) (by decide) ?_
  rintro v hx ⟨rfl, ex⟩
  rw [ex]
  clear ex hx
  show W l room_1 C _ h78 2 19 325 #[.val (.int a), .val (.int b), .val (.int b0), .val (.int l0), .val (.int jk), .val (.int bb), .val (.int len), .val (.int ee), .val (.ref pw), .val (.ref cs), .unset] [(.int (if m ≤ 4 ∧ 4 < k then own_dig a b (4 : Int32) * own_pw.getD (k - 1 - 4) 0 else 0)), (.int ((((own_t ds m k 0) + (own_t ds m k 1)) + (own_t ds m k 2)) + (own_t ds m k 3)))]
  have tt4 : (if m ≤ 4 ∧ 4 < k then own_dig a b (4 : Int32) * own_pw.getD (k - 1 - 4) 0 else 0) = own_t ds m k 4 := by rw [hds]; rfl
  rw [tt4]
  refine k_iadd (pc := 325) H d0_325 ?_
  refine k_iloadN (pc := 326) H d0_326 rfl ?_
  refine k_iloadN (pc := 327) H d0_327 rfl ?_
  refine k_iconst (5 : Int32) (pc := 328) H d0_328 rfl ?_
  refine k_iload (pc := 329) H d0_329 rfl ?_
  refine k_iload (pc := 331) H d0_331 rfl ?_
  refine k_aload (pc := 333) H d0_333 rfl rfl ?_
  refine k_invS (y := (⟨"com/example/vestline/vestline/io/DecimalDigitsValuePinLaw", "term", "(IIIII[I)I"⟩ : MethodName)) (st := [(.int (((((own_t ds m k 0) + (own_t ds m k 1)) + (own_t ds m k 2)) + (own_t ds m k 3)) + (own_t ds m k 4)))]) [(.int a), (.int b), (.int (5 : Int32)), (.int bb), (.int ee), (.ref pw)] 1 (pc := 335) H (wd hw 18 rfl) (wd hw 19 rfl) (wd hw 13 rfl) (wd hw 20 rfl) (by decide) (fun z0 => rm4 l Z a0 hw n0 h78 z0 a b (5 : Int32) bb ee pw 5 m k f81 rfl hm hk (by omega)) (lenOf pd_3 rfl) d0_335 rfl rfl rfl (by decide) (by decide) (by decide) (by decide) ?_
  rintro v hx ⟨rfl, ex⟩
  rw [ex]
  clear ex hx
  show W l room_1 C _ h78 2 19 338 #[.val (.int a), .val (.int b), .val (.int b0), .val (.int l0), .val (.int jk), .val (.int bb), .val (.int len), .val (.int ee), .val (.ref pw), .val (.ref cs), .unset] [(.int (if m ≤ 5 ∧ 5 < k then own_dig a b (5 : Int32) * own_pw.getD (k - 1 - 5) 0 else 0)), (.int (((((own_t ds m k 0) + (own_t ds m k 1)) + (own_t ds m k 2)) + (own_t ds m k 3)) + (own_t ds m k 4)))]
  have tt5 : (if m ≤ 5 ∧ 5 < k then own_dig a b (5 : Int32) * own_pw.getD (k - 1 - 5) 0 else 0) = own_t ds m k 5 := by rw [hds]; rfl
  rw [tt5]
  refine k_iadd (pc := 338) H d0_338 ?_
  refine k_iloadN (pc := 339) H d0_339 rfl ?_
  refine k_iloadN (pc := 340) H d0_340 rfl ?_
  refine k_bipush (6 : Int32) (pc := 341) H d0_341 rfl ?_
  refine k_iload (pc := 343) H d0_343 rfl ?_
  refine k_iload (pc := 345) H d0_345 rfl ?_
  refine k_aload (pc := 347) H d0_347 rfl rfl ?_
  refine k_invS (y := (⟨"com/example/vestline/vestline/io/DecimalDigitsValuePinLaw", "term", "(IIIII[I)I"⟩ : MethodName)) (st := [(.int ((((((own_t ds m k 0) + (own_t ds m k 1)) + (own_t ds m k 2)) + (own_t ds m k 3)) + (own_t ds m k 4)) + (own_t ds m k 5)))]) [(.int a), (.int b), (.int (6 : Int32)), (.int bb), (.int ee), (.ref pw)] 1 (pc := 349) H (wd hw 18 rfl) (wd hw 19 rfl) (wd hw 13 rfl) (wd hw 20 rfl) (by decide) (fun z0 => rm4 l Z a0 hw n0 h78 z0 a b (6 : Int32) bb ee pw 6 m k f81 rfl hm hk (by omega)) (lenOf pd_3 rfl) d0_349 rfl rfl rfl (by decide) (by decide) (by decide) (by decide) ?_
  rintro v hx ⟨rfl, ex⟩
  rw [ex]
  clear ex hx
  show W l room_1 C _ h78 2 19 352 #[.val (.int a), .val (.int b), .val (.int b0), .val (.int l0), .val (.int jk), .val (.int bb), .val (.int len), .val (.int ee), .val (.ref pw), .val (.ref cs), .unset] [(.int (if m ≤ 6 ∧ 6 < k then own_dig a b (6 : Int32) * own_pw.getD (k - 1 - 6) 0 else 0)), (.int ((((((own_t ds m k 0) + (own_t ds m k 1)) + (own_t ds m k 2)) + (own_t ds m k 3)) + (own_t ds m k 4)) + (own_t ds m k 5)))]
  have tt6 : (if m ≤ 6 ∧ 6 < k then own_dig a b (6 : Int32) * own_pw.getD (k - 1 - 6) 0 else 0) = own_t ds m k 6 := by rw [hds]; rfl
  rw [tt6]
  refine k_iadd (pc := 352) H d0_352 ?_
  refine k_iloadN (pc := 353) H d0_353 rfl ?_
  refine k_iloadN (pc := 354) H d0_354 rfl ?_
  refine k_bipush (7 : Int32) (pc := 355) H d0_355 rfl ?_
  refine k_iload (pc := 357) H d0_357 rfl ?_
  refine k_iload (pc := 359) H d0_359 rfl ?_
  refine k_aload (pc := 361) H d0_361 rfl rfl ?_
  refine k_invS (y := (⟨"com/example/vestline/vestline/io/DecimalDigitsValuePinLaw", "term", "(IIIII[I)I"⟩ : MethodName)) (st := [(.int (((((((own_t ds m k 0) + (own_t ds m k 1)) + (own_t ds m k 2)) + (own_t ds m k 3)) + (own_t ds m k 4)) + (own_t ds m k 5)) + (own_t ds m k 6)))]) [(.int a), (.int b), (.int (7 : Int32)), (.int bb), (.int ee), (.ref pw)] 1 (pc := 363) H (wd hw 18 rfl) (wd hw 19 rfl) (wd hw 13 rfl) (wd hw 20 rfl) (by decide) (fun z0 => rm4 l Z a0 hw n0 h78 z0 a b (7 : Int32) bb ee pw 7 m k f81 rfl hm hk (by omega)) (lenOf pd_3 rfl) d0_363 rfl rfl rfl (by decide) (by decide) (by decide) (by decide) ?_
  rintro v hx ⟨rfl, ex⟩
  rw [ex]
  clear ex hx
  show W l room_1 C _ h78 2 19 366 #[.val (.int a), .val (.int b), .val (.int b0), .val (.int l0), .val (.int jk), .val (.int bb), .val (.int len), .val (.int ee), .val (.ref pw), .val (.ref cs), .unset] [(.int (if m ≤ 7 ∧ 7 < k then own_dig a b (7 : Int32) * own_pw.getD (k - 1 - 7) 0 else 0)), (.int (((((((own_t ds m k 0) + (own_t ds m k 1)) + (own_t ds m k 2)) + (own_t ds m k 3)) + (own_t ds m k 4)) + (own_t ds m k 5)) + (own_t ds m k 6)))]
  have tt7 : (if m ≤ 7 ∧ 7 < k then own_dig a b (7 : Int32) * own_pw.getD (k - 1 - 7) 0 else 0) = own_t ds m k 7 := by rw [hds]; rfl
  rw [tt7]
  refine k_iadd (pc := 366) H d0_366 ?_
  refine k_iloadN (pc := 367) H d0_367 rfl ?_
  refine k_iloadN (pc := 368) H d0_368 rfl ?_
  refine k_bipush (8 : Int32) (pc := 369) H d0_369 rfl ?_
  refine k_iload (pc := 371) H d0_371 rfl ?_
  refine k_iload (pc := 373) H d0_373 rfl ?_
  refine k_aload (pc := 375) H d0_375 rfl rfl ?_
  refine k_invS (y := (⟨"com/example/vestline/vestline/io/DecimalDigitsValuePinLaw", "term", "(IIIII[I)I"⟩ : MethodName)) (st := [(.int ((((((((own_t ds m k 0) + (own_t ds m k 1)) + (own_t ds m k 2)) + (own_t ds m k 3)) + (own_t ds m k 4)) + (own_t ds m k 5)) + (own_t ds m k 6)) + (own_t ds m k 7)))]) [(.int a), (.int b), (.int (8 : Int32)), (.int bb), (.int ee), (.ref pw)] 1 (pc := 377) H (wd hw 18 rfl) (wd hw 19 rfl) (wd hw 13 rfl) (wd hw 20 rfl) (by decide) (fun z0 => rm4 l Z a0 hw n0 h78 z0 a b (8 : Int32) bb ee pw 8 m k f81 rfl hm hk (by omega)) (lenOf pd_3 rfl) d0_377 rfl rfl rfl (by decide) (by decide) (by decide) (by decide) ?_
  rintro v hx ⟨rfl, ex⟩
  rw [ex]
  clear ex hx
  show W l room_1 C _ h78 2 19 380 #[.val (.int a), .val (.int b), .val (.int b0), .val (.int l0), .val (.int jk), .val (.int bb), .val (.int len), .val (.int ee), .val (.ref pw), .val (.ref cs), .unset] [(.int (if m ≤ 8 ∧ 8 < k then own_dig a b (8 : Int32) * own_pw.getD (k - 1 - 8) 0 else 0)), (.int ((((((((own_t ds m k 0) + (own_t ds m k 1)) + (own_t ds m k 2)) + (own_t ds m k 3)) + (own_t ds m k 4)) + (own_t ds m k 5)) + (own_t ds m k 6)) + (own_t ds m k 7)))]
  have tt8 : (if m ≤ 8 ∧ 8 < k then own_dig a b (8 : Int32) * own_pw.getD (k - 1 - 8) 0 else 0) = own_t ds m k 8 := by rw [hds]; rfl
  rw [tt8]
  refine k_iadd (pc := 380) H d0_380 ?_
  refine k_iloadN (pc := 381) H d0_381 rfl ?_
  refine k_iloadN (pc := 382) H d0_382 rfl ?_
  refine k_bipush (9 : Int32) (pc := 383) H d0_383 rfl ?_
  refine k_iload (pc := 385) H d0_385 rfl ?_
  refine k_iload (pc := 387) H d0_387 rfl ?_
  refine k_aload (pc := 389) H d0_389 rfl rfl ?_
  refine k_invS (y := (⟨"com/example/vestline/vestline/io/DecimalDigitsValuePinLaw", "term", "(IIIII[I)I"⟩ : MethodName)) (st := [(.int (((((((((own_t ds m k 0) + (own_t ds m k 1)) + (own_t ds m k 2)) + (own_t ds m k 3)) + (own_t ds m k 4)) + (own_t ds m k 5)) + (own_t ds m k 6)) + (own_t ds m k 7)) + (own_t ds m k 8)))]) [(.int a), (.int b), (.int (9 : Int32)), (.int bb), (.int ee), (.ref pw)] 1 (pc := 391) H (wd hw 18 rfl) (wd hw 19 rfl) (wd hw 13 rfl) (wd hw 20 rfl) (by decide) (fun z0 => rm4 l Z a0 hw n0 h78 z0 a b (9 : Int32) bb ee pw 9 m k f81 rfl hm hk (by omega)) (lenOf pd_3 rfl) d0_391 rfl rfl rfl (by decide) (by decide) (by decide) (by decide) ?_
  rintro v hx ⟨rfl, ex⟩
  rw [ex]
  clear ex hx
  show W l room_1 C _ h78 2 19 394 #[.val (.int a), .val (.int b), .val (.int b0), .val (.int l0), .val (.int jk), .val (.int bb), .val (.int len), .val (.int ee), .val (.ref pw), .val (.ref cs), .unset] [(.int (if m ≤ 9 ∧ 9 < k then own_dig a b (9 : Int32) * own_pw.getD (k - 1 - 9) 0 else 0)), (.int (((((((((own_t ds m k 0) + (own_t ds m k 1)) + (own_t ds m k 2)) + (own_t ds m k 3)) + (own_t ds m k 4)) + (own_t ds m k 5)) + (own_t ds m k 6)) + (own_t ds m k 7)) + (own_t ds m k 8)))]
  have tt9 : (if m ≤ 9 ∧ 9 < k then own_dig a b (9 : Int32) * own_pw.getD (k - 1 - 9) 0 else 0) = own_t ds m k 9 := by rw [hds]; rfl
  rw [tt9]
  refine k_iadd (pc := 394) H d0_394 ?_
  refine k_istore (pc := 395) H d0_395 (Ls' := #[.val (.int a), .val (.int b), .val (.int b0), .val (.int l0), .val (.int jk), .val (.int bb), .val (.int len), .val (.int ee), .val (.ref pw), .val (.ref cs), .val (.int ((((((((((own_t ds m k 0) + (own_t ds m k 1)) + (own_t ds m k 2)) + (own_t ds m k 3)) + (own_t ds m k 4)) + (own_t ds m k 5)) + (own_t ds m k 6)) + (own_t ds m k 7)) + (own_t ds m k 8)) + (own_t ds m k 9)))]) rfl ?_
  refine k_aload (pc := 397) H d0_397 rfl rfl ?_
  refine k_iload (pc := 399) H d0_399 rfl ?_
  refine k_iload (pc := 401) H d0_401 rfl ?_
  have hd : ∀ j, m ≤ j → j < k → ∃ c, ([c0, c1, c2, c3, c4, c5, c6, c7, c8, c9] : List UInt16)[j]? = some c ∧ c.toUInt32.toInt32 - 48 = ds j := by
    intro j h1 h2
    have hj : j = 0 ∨ j = 1 ∨ j = 2 ∨ j = 3 ∨ j = 4 ∨ j = 5 ∨ j = 6 ∨ j = 7 ∨ j = 8 ∨ j = 9 := by omega
    rcases hj with rfl | rfl | rfl | rfl | rfl | rfl | rfl | rfl | rfl | rfl
    · exact ⟨c0, rfl, by rw [hc0 (fun q => by have := (lt_nat (x := 0) (i := 0) rfl hm).mp q; omega) ((lt_nat (x := 0) (i := 0) rfl hk).mpr h2), hds]; exact own_can _⟩
    · exact ⟨c1, rfl, by rw [hc1 (fun q => by have := (lt_nat (x := 1) (i := 1) rfl hm).mp q; omega) ((lt_nat (x := 1) (i := 1) rfl hk).mpr h2), hds]; exact own_can _⟩
    · exact ⟨c2, rfl, by rw [hc2 (fun q => by have := (lt_nat (x := 2) (i := 2) rfl hm).mp q; omega) ((lt_nat (x := 2) (i := 2) rfl hk).mpr h2), hds]; exact own_can _⟩
    · exact ⟨c3, rfl, by rw [hc3 (fun q => by have := (lt_nat (x := 3) (i := 3) rfl hm).mp q; omega) ((lt_nat (x := 3) (i := 3) rfl hk).mpr h2), hds]; exact own_can _⟩
    · exact ⟨c4, rfl, by rw [hc4 (fun q => by have := (lt_nat (x := 4) (i := 4) rfl hm).mp q; omega) ((lt_nat (x := 4) (i := 4) rfl hk).mpr h2), hds]; exact own_can _⟩
    · exact ⟨c5, rfl, by rw [hc5 (fun q => by have := (lt_nat (x := 5) (i := 5) rfl hm).mp q; omega) ((lt_nat (x := 5) (i := 5) rfl hk).mpr h2), hds]; exact own_can _⟩
    · exact ⟨c6, rfl, by rw [hc6 (fun q => by have := (lt_nat (x := 6) (i := 6) rfl hm).mp q; omega) ((lt_nat (x := 6) (i := 6) rfl hk).mpr h2), hds]; exact own_can _⟩
    · exact ⟨c7, rfl, by rw [hc7 (fun q => by have := (lt_nat (x := 7) (i := 7) rfl hm).mp q; omega) ((lt_nat (x := 7) (i := 7) rfl hk).mpr h2), hds]; exact own_can _⟩
    · exact ⟨c8, rfl, by rw [hc8 (fun q => by have := (lt_nat (x := 8) (i := 8) rfl hm).mp q; omega) ((lt_nat (x := 8) (i := 8) rfl hk).mpr h2), hds]; exact own_can _⟩
    · exact ⟨c9, rfl, by rw [hc9 (fun q => by have := (lt_nat (x := 9) (i := 9) rfl hm).mp q; omega) ((lt_nat (x := 9) (i := 9) rfl hk).mpr h2), hds]; exact own_can _⟩
  refine k_invS (y := (⟨"com/example/vestline/vestline/io/DecimalDigits", "value", "([CII)I"⟩ : MethodName)) (st := []) [(.ref cs), (.int bb), (.int ee)] 0 (pc := 403) H (wd hw 21 rfl) (wd hw 22 rfl) (wd hw 23 rfl) (wd hw 24 rfl) (by decide) (fun z0 => rm5 l Z a0 hw n0 h78 z0 cs [c0, c1, c2, c3, c4, c5, c6, c7, c8, c9] ds bb ee m k VC hm hk (by omega) hd) (lenOf pd_4 rfl) d0_403 rfl rfl rfl (by decide) (by decide) (by decide) (by decide) ?_
  rintro v hx ⟨rfl, ex⟩
  rw [ex]
  clear ex hx
  show W l room_1 C _ h78 2 19 406 #[.val (.int a), .val (.int b), .val (.int b0), .val (.int l0), .val (.int jk), .val (.int bb), .val (.int len), .val (.int ee), .val (.ref pw), .val (.ref cs), .val (.int ((((((((((own_t ds m k 0) + (own_t ds m k 1)) + (own_t ds m k 2)) + (own_t ds m k 3)) + (own_t ds m k 4)) + (own_t ds m k 5)) + (own_t ds m k 6)) + (own_t ds m k 7)) + (own_t ds m k 8)) + (own_t ds m k 9)))] [(.int (own_h ds m (k - m) 0))]
  refine k_iload (pc := 406) H d0_406 rfl ?_
  refine k_icmpF (pc := 408) H d0_408 (XT.ii_ne_f (by rw [own_sum ds m (by omega) k (by omega) (by omega), own_h9 _ _ _ (by omega)])) ?_
  refine k_iconst (1 : Int32) (pc := 411) H d0_411 rfl ?_
  refine k_goto 416 (pc := 412) H d0_412 rfl ?_
  exact k_retN' (t := .boolean) (by simp) (pc := 416) H d0_416 (by show 2 ≤ 16; decide) (by show 19 ≤ 128; decide) (rfl)
set_option maxRecDepth 65536 in
set_option maxHeartbeats 40000000 in
theorem comes_1 {Post : Tables → Env → Array Value → State → Outcome → State → Prop} (hpost : ∀ tb e args s v u, (limb_1_1.after args s (.returned v) u = true ∧ limb_1_2.after args s (.returned v) u = true ∧ True) → FrameEnd s (.returned v) u (Jvm.fieldLocs frame_1_writes args s ++ Jvm.arrayLocs frame_1_arrays args s ++ Jvm.staticLocs frame_1_statics s) 16 128 → Post tb e args s (.returned v) u) :
    ArmFor flags0 classFile x code maxLocals ret World_1 tables_1 room_1 Calls_1 rest_1 Pre_1 Post := by
  intro l hfl _ _ p e ha hc hk s m args below hf hA hF happ hP
  obtain ⟨hcalls, hrest, hpre⟩ := hP
  obtain ⟨-, -, -, hnamed, -, -, -, hat⟩ := (Spec.applies_iff hf).mp happ
  obtain ⟨hg, hn⟩ := and_e (Cond.before_iff.mp (show (Jvm.Cond.and given_1 narrow_1).before args s = true from hpre))
  obtain ⟨hcnt, g0⟩ := and_e hg
  obtain ⟨q0, g1⟩ := and_e g0
  obtain ⟨q1, g2⟩ := and_e g1
  obtain ⟨q2, g3⟩ := and_e g2
  obtain ⟨q3, g4⟩ := and_e g3
  obtain ⟨w0, w1, w2, w3, w4, rfl⟩ : ∃ w0 w1 w2 w3 w4 : Value, args = #[w0, w1, w2, w3, w4] := by
    have hs : args.size = 5 := by simpa [Cond.value, given_1] using hcnt
    obtain ⟨L⟩ := args
    match L, hs with
    | [w0, w1, w2, w3, w4], _ => exact ⟨w0, w1, w2, w3, w4, rfl⟩
  have hw := fun d (hd : d ∈ tables_1) => atoms_spec (ws := Jvm.Cond.code x code maxLocals ret :: tables_1) hat d (List.mem_cons_of_mem _ hd)
  obtain ⟨i0, e0⟩ := is_v q0
  obtain rfl : w0 = (.int i0) := Option.some.inj e0
  obtain ⟨i1, e1⟩ := is_v q1
  obtain rfl : w1 = (.int i1) := Option.some.inj e1
  obtain ⟨i2, e2⟩ := is_v q2
  obtain rfl : w2 = (.int i2) := Option.some.inj e2
  obtain ⟨i3, e3⟩ := is_v q3
  obtain rfl : w3 = (.int i3) := Option.some.inj e3
  obtain ⟨i4, e4⟩ := is_v g4
  obtain rfl : w4 = (.int i4) := Option.some.inj e4
  obtain ⟨n, o, h1, h2, h3, _, L, rfl, ⟨rfl, N⟩, hq⟩ := rm0 l s _ hw tables_1 s.heap.size s.heap (Nat.le_refl _) i0 i1 i2 i3 i4  p e ha hc hk s m _ below hf ((Spec.applies_iff_loose hf).mp happ).1 ⟨rfl, State.Warmed39.refl s, rfl⟩ trivial
  refine ⟨n, _, h1, h2, h3, hpost _ _ _ _ _ _ ⟨Cond.after_iff.mpr rfl, Cond.after_iff.mpr (eq_i res_at (Term.int_eval (1)) rfl), trivial⟩ ⟨hq.1, hq.2.1, (hq.2.2.sift fun y hy => Or.inr (N y hy)).mono (by decide) (by decide)⟩⟩
theorem main_1_1 : Claimed_1_1 := comes_1 fun _ _ _ _ _ _ h hF => ⟨h.1, hF⟩
theorem main_1_2 : Claimed_1_2 := comes_1 fun _ _ _ _ _ _ h hF => ⟨h.2.1, hF⟩
end Jvm.Pilot.@@N@@
namespace Jvm.Pilot.@@N@@
open Jvm Jvm.ClassFile Sem Op Lib Jvm.Free Jvm.Stand Jvm.Pilot.@@N@@.Jvm.D
/-! MADE BY PROGRAM (witnessworld.py) out of the Statement's table words and the real class files: 12 classes; the members and pool entries that the words name. The judged class is class 1, her method 1. -/
namespace start1
open Jvm.ClassFile
def u (s : String) : CpInfo := .utf8 (stringToUtf16 s)
/-- a pool by its gaps: so many unusable entries, then the entry; so many at the end -/
def gap : Nat → List CpInfo → List CpInfo
  | 0, r => r
  | n + 1, r => .unusable :: gap n r
def poolList (es : List (Nat × CpInfo)) (last : Nat) : List CpInfo := es.foldr (fun e r => gap e.1 (e.2 :: r)) (gap last [])
def pool (es : List (Nat × CpInfo)) (last : Nat) : Array CpInfo := ⟨poolList es last⟩
def fileOf (pool : Array CpInfo) (this : Nat) (attrs : Array Attribute := #[]) (ms : Array MethodInfo := #[]) (fl : Nat := 33) (sup : Nat := 0) (ifs : Array Nat := #[]) (fds : Array FieldInfo := #[]) : ClassFile where
  minorVersion := 0
  majorVersion := 65
  constantPool := pool
  accessFlags := fl
  thisClass := this
  superClass := sup
  interfaces := ifs
  fields := fds
  methods := ms
  attributes := attrs
def plain (name : String) (sup : Option ClassId) : Class where
  name := name
  kind := .ordinary
  loader := none
  accessFlags := 33
  super := sup
  interfaces := #[]
  cf := none
  fields := #[]
  methods := #[]
  instanceTypes := #[]
  staticTypes := #[]
  resolved := #[]
  callSites := []
  init := .initialized
  statics := none
  mirror := none

def pool0 : Array CpInfo := pool [(5, u "<init>"), (0, u "()V"), (1, .class_ 10), (1, u "java/lang/Object")] 113

def k0m0 : Method := { name := "<init>", desc := "()V", sig := { parameters := [], returnType := none }, accessFlags := 1, code := none }
/-- java/lang/Object -/
def k0 : Class := { plain "java/lang/Object" none with
  accessFlags := 33
  interfaces := #[]
  cf := some (fileOf pool0 8 #[] #[{ accessFlags := 1, nameIndex := 5, descriptorIndex := 6, attributes := #[] }] 33 0 #[] #[])
  fields := #[]
  methods := #[k0m0]
  instanceTypes := #[]
  staticTypes := #[]
  resolved := Array.replicate 124 none
  statics := none }

def pool1 : Array CpInfo := pool [(2, .class_ 4), (1, u "java/lang/Object"), (0, u "<init>"), (0, u "()V"), (0, .integer 2147483647), (0, .methodref 9 10), (0, .class_ 11), (0, .nameAndType 12 13), (0, u "java/lang/Math"), (0, u "min"), (0, u "(II)I"), (0, .integer 100000), (0, .integer 1000000), (0, .integer 10000000), (0, .integer 100000000), (0, .methodref 19 20), (0, .class_ 21), (0, .nameAndType 22 23), (0, u "com/example/vestline/vestline/io/DecimalDigitsValuePinLaw"), (0, u "ch"), (0, u "(IIIIII)C"), (0, .methodref 19 25), (0, .nameAndType 26 27), (0, u "term"), (0, u "(IIIII[I)I"), (0, .methodref 29 30), (0, .class_ 31), (0, .nameAndType 32 33), (0, u "com/example/vestline/vestline/io/DecimalDigits"), (0, u "value"), (0, u "([CII)I"), (0, .methodref 19 35), (0, .nameAndType 36 37), (0, u "dig"), (0, u "(III)I"), (2, u "law"), (0, u "(IIIII)Z")] 7

def k1m0 : Method := { name := "<init>", desc := "()V", sig := { parameters := [], returnType := none }, accessFlags := 1, code := none }
def k1c1 : Code := { maxStack := 8, maxLocals := 11, code := code, exceptionTable := #[], attributes := #[] }
def k1m1 : Method := { name := "law", desc := "(IIIII)Z", sig := { parameters := [.int, .int, .int, .int, .int], returnType := some .boolean }, accessFlags := 9, code := some k1c1 }
def k1c2 : Code := { maxStack := 3, maxLocals := 5, code := method_3_code, exceptionTable := #[], attributes := #[] }
def k1m2 : Method := { name := "dig", desc := "(III)I", sig := { parameters := [.int, .int, .int], returnType := some .int }, accessFlags := 10, code := some k1c2 }
def k1c3 : Code := { maxStack := 4, maxLocals := 6, code := method_4_code, exceptionTable := #[], attributes := #[] }
def k1m3 : Method := { name := "ch", desc := "(IIIIII)C", sig := { parameters := [.int, .int, .int, .int, .int, .int], returnType := some .char }, accessFlags := 10, code := some k1c3 }
def k1c4 : Code := { maxStack := 4, maxLocals := 6, code := method_5_code, exceptionTable := #[], attributes := #[] }
def k1m4 : Method := { name := "term", desc := "(IIIII[I)I", sig := { parameters := [.int, .int, .int, .int, .int, (.array .int)], returnType := some .int }, accessFlags := 10, code := some k1c4 }
/-- com/example/vestline/vestline/io/DecimalDigitsValuePinLaw -/
def k1 : Class := { plain "com/example/vestline/vestline/io/DecimalDigitsValuePinLaw" (some 0) with
  accessFlags := 49
  interfaces := #[]
  cf := some (fileOf pool1 19 #[] #[{ accessFlags := 1, nameIndex := 5, descriptorIndex := 6, attributes := #[] }, { accessFlags := 9, nameIndex := 40, descriptorIndex := 41, attributes := #[] }, { accessFlags := 10, nameIndex := 36, descriptorIndex := 37, attributes := #[] }, { accessFlags := 10, nameIndex := 22, descriptorIndex := 23, attributes := #[] }, { accessFlags := 10, nameIndex := 26, descriptorIndex := 27, attributes := #[] }] 49 2 #[] #[])
  fields := #[]
  methods := #[k1m0, k1m1, k1m2, k1m3, k1m4]
  instanceTypes := #[]
  staticTypes := #[]
  resolved := Array.replicate 49 none
  statics := none }

def pool2 : Array CpInfo := pool [(1, .class_ 2), (0, u "java/lang/Math"), (1, .class_ 6), (1, u "java/lang/Object"), (0, u "<init>"), (0, u "()V"), (89, .class_ 100), (1, u "java/lang/Math$RandomNumberGeneratorHolder"), (71, u "negativeZeroFloatBits"), (0, u "J"), (2, u "negativeZeroDoubleBits"), (24, u "min"), (43, u "$assertionsDisabled"), (0, u "Z"), (88, u "(II)I"), (2, u "twoToTheDoubleScaleDown"), (0, u "D"), (4, u "twoToTheDoubleScaleUp"), (9, u "E"), (3, u "PI"), (2, u "TAU"), (2, u "DEGREES_TO_RADIANS"), (0, u "RADIANS_TO_DEGREES")] 94

def k2m0 : Method := { name := "<init>", desc := "()V", sig := { parameters := [], returnType := none }, accessFlags := 2, code := none }
def k2c1 : Code := { maxStack := 2, maxLocals := 2, code := jdk_29_method_69_code, exceptionTable := #[], attributes := #[] }
def k2m1 : Method := { name := "min", desc := "(II)I", sig := { parameters := [.int, .int], returnType := some .int }, accessFlags := 9, code := some k2c1 }
/-- java/lang/Math -/
def k2 : Class := { plain "java/lang/Math" (some 0) with
  accessFlags := 49
  interfaces := #[]
  cf := some (fileOf pool2 1 #[.nestMembers #[98]] #[{ accessFlags := 2, nameIndex := 7, descriptorIndex := 8, attributes := #[] }, { accessFlags := 9, nameIndex := 201, descriptorIndex := 335, attributes := #[] }] 49 4 #[] #[{ accessFlags := 25, nameIndex := 354, descriptorIndex := 339, attributes := #[] }, { accessFlags := 25, nameIndex := 358, descriptorIndex := 339, attributes := #[] }, { accessFlags := 25, nameIndex := 361, descriptorIndex := 339, attributes := #[] }, { accessFlags := 26, nameIndex := 364, descriptorIndex := 339, attributes := #[] }, { accessFlags := 26, nameIndex := 365, descriptorIndex := 339, attributes := #[] }, { accessFlags := 26, nameIndex := 172, descriptorIndex := 173, attributes := #[] }, { accessFlags := 26, nameIndex := 176, descriptorIndex := 173, attributes := #[] }, { accessFlags := 8, nameIndex := 344, descriptorIndex := 339, attributes := #[] }, { accessFlags := 8, nameIndex := 338, descriptorIndex := 339, attributes := #[] }, { accessFlags := 4120, nameIndex := 245, descriptorIndex := 246, attributes := #[] }])
  fields := #[{ name := "E", type := .double, accessFlags := 25, slot := 0, constantValue := 0 }, { name := "PI", type := .double, accessFlags := 25, slot := 1, constantValue := 0 }, { name := "TAU", type := .double, accessFlags := 25, slot := 2, constantValue := 0 }, { name := "DEGREES_TO_RADIANS", type := .double, accessFlags := 26, slot := 3, constantValue := 0 }, { name := "RADIANS_TO_DEGREES", type := .double, accessFlags := 26, slot := 4, constantValue := 0 }, { name := "negativeZeroFloatBits", type := .long, accessFlags := 26, slot := 5, constantValue := 0 }, { name := "negativeZeroDoubleBits", type := .long, accessFlags := 26, slot := 6, constantValue := 0 }, { name := "twoToTheDoubleScaleUp", type := .double, accessFlags := 8, slot := 7, constantValue := 0 }, { name := "twoToTheDoubleScaleDown", type := .double, accessFlags := 8, slot := 8, constantValue := 0 }, { name := "$assertionsDisabled", type := .boolean, accessFlags := 4120, slot := 9, constantValue := 0 }]
  methods := #[k2m0, k2m1]
  instanceTypes := #[]
  staticTypes := #[.double, .double, .double, .double, .double, .long, .long, .double, .double, .boolean]
  resolved := Array.replicate 460 none
  statics := none }

def pool3 : Array CpInfo := pool [(2, .class_ 4), (1, u "java/lang/Object"), (0, u "<init>"), (0, u "()V"), (0, .class_ 8), (0, u "com/example/vestline/vestline/io/DecimalDigits"), (0, u "RADIX"), (0, u "I"), (7, u "value"), (0, u "([CII)I")] 2

def k3m0 : Method := { name := "<init>", desc := "()V", sig := { parameters := [], returnType := none }, accessFlags := 2, code := none }
def k3c1 : Code := { maxStack := 3, maxLocals := 5, code := prog_12_method_3_code, exceptionTable := #[], attributes := #[] }
def k3m1 : Method := { name := "value", desc := "([CII)I", sig := { parameters := [(.array .char), .int, .int], returnType := some .int }, accessFlags := 8, code := some k3c1 }
/-- com/example/vestline/vestline/io/DecimalDigits -/
def k3 : Class := { plain "com/example/vestline/vestline/io/DecimalDigits" (some 0) with
  accessFlags := 48
  interfaces := #[]
  cf := some (fileOf pool3 7 #[] #[{ accessFlags := 2, nameIndex := 5, descriptorIndex := 6, attributes := #[] }, { accessFlags := 8, nameIndex := 18, descriptorIndex := 19, attributes := #[] }] 48 2 #[] #[{ accessFlags := 24, nameIndex := 9, descriptorIndex := 10, attributes := #[] }])
  fields := #[{ name := "RADIX", type := .int, accessFlags := 24, slot := 0, constantValue := 0 }]
  methods := #[k3m0, k3m1]
  instanceTypes := #[]
  staticTypes := #[.int]
  resolved := Array.replicate 22 none
  statics := none }

def pool4 : Array CpInfo := pool [(1, u "java/lang/Cloneable"), (0, .class_ 1), (0, u "java/lang/Object"), (0, .class_ 3)] 3

/-- java/lang/Cloneable -/
def k4 : Class := { plain "java/lang/Cloneable" (some 0) with
  accessFlags := 1537
  interfaces := #[]
  cf := some (fileOf pool4 2 #[] #[] 1537 4 #[] #[])
  fields := #[]
  methods := #[]
  instanceTypes := #[]
  staticTypes := #[]
  resolved := Array.replicate 8 none
  statics := none }

def pool5 : Array CpInfo := pool [(1, u "java/io/Serializable"), (0, .class_ 1), (0, u "java/lang/Object"), (0, .class_ 3)] 3

/-- java/io/Serializable -/
def k5 : Class := { plain "java/io/Serializable" (some 0) with
  accessFlags := 1537
  interfaces := #[]
  cf := some (fileOf pool5 2 #[] #[] 1537 4 #[] #[])
  fields := #[]
  methods := #[]
  instanceTypes := #[]
  staticTypes := #[]
  resolved := Array.replicate 8 none
  statics := none }

/-- the primitive byte -/
def k6 : Class := { plain "byte" none with kind := .primitive 'B', accessFlags := 0x411 }
/-- [B -/
def k7 : Class := { plain "[B" (some 0) with kind := .array 6 .byte, interfaces := #[4, 5], accessFlags := 1041 }

/-- the primitive char -/
def k8 : Class := { plain "char" none with kind := .primitive 'C', accessFlags := 0x411 }
/-- [C -/
def k9 : Class := { plain "[C" (some 0) with kind := .array 8 .char, interfaces := #[4, 5], accessFlags := 1041 }

/-- the primitive int -/
def k10 : Class := { plain "int" none with kind := .primitive 'I', accessFlags := 0x411 }
/-- [I -/
def k11 : Class := { plain "[I" (some 0) with kind := .array 10 .int, interfaces := #[4, 5], accessFlags := 1041 }

def heap : Heap := #[]
def classes : Array Class := #[k0, k1, k2, k3, k4, k5, k6, k7, k8, k9, k10, k11]
def interned : List (Array UInt16 × Addr) := []
def slotsUsed : Nat := 0
def theMethod : MethodId := ⟨1, 1⟩
def args0 : Array Value := #[.int 1, .int 2, .int 3, .int 4, .int 5]
def aboutOver (below : List Frame) : State where
  vm := { classes := classes, interned := interned.toArray }
  heap := heap
  slotsUsed := slotsUsed
  threads := #[{ frames := .invoking theMethod args0 :: below }]
def below0 : List Frame := [.native { method := ⟨0, 0⟩, args := #[] }]
def about1 : State := aboutOver below0
def p0 : Program := .bare "" "" ""
def e0 : Env := launch0.env 0 0 0
theorem w_frames : about1.frames = Frame.invoking theMethod args0 :: below0 := rfl
set_option maxRecDepth 65536 in
theorem w_args : argsFit about1.vm theMethod args0 = true := by decide +kernel
set_option maxRecDepth 65536 in
theorem w_heap : heapFits about1 = true := by decide +kernel
set_option maxRecDepth 65536 in
theorem w_runnable : about1.curStatus? = some .runnable := by decide +kernel
set_option maxRecDepth 65536 in
theorem w_alone : about1.alone = true := by decide +kernel
set_option maxRecDepth 65536 in
theorem w_named : about1.methodNamed? x = some theMethod := by decide +kernel
set_option maxRecDepth 65536 in
theorem w_hears : about1.hears theMethod below0 = true := by decide +kernel
set_option maxRecDepth 65536 in
theorem w_ripe : about1.ripe theMethod args0 below0 = true := by decide +kernel
theorem w_running : about1.status = .running := rfl
set_option maxRecDepth 65536 in
theorem w_room : about1.hasRoom e0.platform room_1 = true :=
  launch0.hasRoom_least _ room_1 (by decide +kernel) (by decide +kernel) (by decide +kernel) (by decide +kernel) (by decide +kernel) (by decide +kernel)
theorem allAtoms_all (ts : List Jvm.Cond) (a : Array Jvm.Value) (st : Jvm.State) : (allAtoms ts).before a st = ts.all (fun c => c.before a st) := by
  induction ts with
  | nil => rfl
  | cons c t ih =>
    show (Jvm.Cond.and c (allAtoms t)).before a st = _
    rw [Jvm.Cond.before_and, ih, List.all_cons]
def words1 : List Jvm.Cond := Jvm.Cond.code x code maxLocals ret :: tables_1
/-- a 'code' word, met by the world's own term for the bytes: nothing is compared byte by byte -/
theorem code_word {y : MethodName} {bytes : ByteArray} {mx : Nat} {rt : Option FieldType} {a : Array Value} {s : State} {m : MethodId} {meth : Method} {c : Code} (h1 : s.methodNamed? y = some m) (h2 : s.vm.method? m = some meth) (h3 : meth.code = some c) (h4 : c.code = bytes)
    (h5 : (c.maxLocals == mx && c.exceptionTable.isEmpty && decide (c.maxStack ≤ mostOperands) && decide (meth.sig.returnType = rt) && !meth.locks && decide (parseMethodDescriptor y.desc = some meth.sig)) = true) : (Jvm.Cond.code y bytes mx rt).before a s = true := by
  simp only [Bool.and_eq_true, beq_iff_eq, Bool.not_eq_true', decide_eq_true_eq] at h5
  obtain ⟨⟨⟨⟨⟨g1, g2⟩, g3⟩, g4⟩, g5⟩, g6⟩ := h5
  simp [Cond.before, Cond.holds, Cond.value, h1, h2, h3, h4, g1, g2, g3, g4, g5, g6]
def isCode : Jvm.Cond → Bool
  | .code _ _ _ _ => true
  | _ => false
theorem all_split {L : List Jvm.Cond} {P : Jvm.Cond → Bool} (h1 : L.all (fun c => isCode c || P c) = true) (h2 : ∀ c ∈ L.filter isCode, P c = true) : L.all P = true := by
  refine List.all_eq_true.mpr fun c hc => ?_
  have h := List.all_eq_true.mp h1 c hc
  rcases Bool.eq_false_or_eq_true (isCode c) with hi | hi
  · exact h2 c (List.mem_filter.mpr ⟨hc, hi⟩)
  · simpa [hi] using h
set_option maxRecDepth 65536 in
theorem w_c0 : (Jvm.Cond.code x code maxLocals ret).before args0 about1 = true := code_word (m := ⟨1, 1⟩) (meth := k1m1) (c := k1c1) (by decide +kernel) rfl rfl rfl (by decide +kernel)
set_option maxRecDepth 65536 in
theorem w_c1 : (Jvm.Cond.code ({ cls := "java/lang/Math", name := "min", desc := "(II)I" } : Jvm.MethodName) jdk_29_method_69_code (2 : Nat) (Option.some Jvm.ClassFile.FieldType.int)).before args0 about1 = true := code_word (m := ⟨2, 1⟩) (meth := k2m1) (c := k2c1) (by decide +kernel) rfl rfl rfl (by decide +kernel)
set_option maxRecDepth 65536 in
theorem w_c2 : (Jvm.Cond.code ({ cls := "com/example/vestline/vestline/io/DecimalDigitsValuePinLaw", name := "ch", desc := "(IIIIII)C" } : Jvm.MethodName) method_4_code (6 : Nat) (Option.some Jvm.ClassFile.FieldType.char)).before args0 about1 = true := code_word (m := ⟨1, 3⟩) (meth := k1m3) (c := k1c3) (by decide +kernel) rfl rfl rfl (by decide +kernel)
set_option maxRecDepth 65536 in
theorem w_c3 : (Jvm.Cond.code ({ cls := "com/example/vestline/vestline/io/DecimalDigitsValuePinLaw", name := "dig", desc := "(III)I" } : Jvm.MethodName) method_3_code (5 : Nat) (Option.some Jvm.ClassFile.FieldType.int)).before args0 about1 = true := code_word (m := ⟨1, 2⟩) (meth := k1m2) (c := k1c2) (by decide +kernel) rfl rfl rfl (by decide +kernel)
set_option maxRecDepth 65536 in
theorem w_c4 : (Jvm.Cond.code ({ cls := "com/example/vestline/vestline/io/DecimalDigitsValuePinLaw", name := "term", desc := "(IIIII[I)I" } : Jvm.MethodName) method_5_code (6 : Nat) (Option.some Jvm.ClassFile.FieldType.int)).before args0 about1 = true := code_word (m := ⟨1, 4⟩) (meth := k1m4) (c := k1c4) (by decide +kernel) rfl rfl rfl (by decide +kernel)
set_option maxRecDepth 65536 in
theorem w_c5 : (Jvm.Cond.code ({ cls := "com/example/vestline/vestline/io/DecimalDigits", name := "value", desc := "([CII)I" } : Jvm.MethodName) prog_12_method_3_code (5 : Nat) (Option.some Jvm.ClassFile.FieldType.int)).before args0 about1 = true := code_word (m := ⟨3, 1⟩) (meth := k3m1) (c := k3c1) (by decide +kernel) rfl rfl rfl (by decide +kernel)
def codes1 : List Jvm.Cond := [Jvm.Cond.code x code maxLocals ret, Jvm.Cond.code ({ cls := "java/lang/Math", name := "min", desc := "(II)I" } : Jvm.MethodName) jdk_29_method_69_code (2 : Nat) (Option.some Jvm.ClassFile.FieldType.int), Jvm.Cond.code ({ cls := "com/example/vestline/vestline/io/DecimalDigitsValuePinLaw", name := "ch", desc := "(IIIIII)C" } : Jvm.MethodName) method_4_code (6 : Nat) (Option.some Jvm.ClassFile.FieldType.char), Jvm.Cond.code ({ cls := "com/example/vestline/vestline/io/DecimalDigitsValuePinLaw", name := "dig", desc := "(III)I" } : Jvm.MethodName) method_3_code (5 : Nat) (Option.some Jvm.ClassFile.FieldType.int), Jvm.Cond.code ({ cls := "com/example/vestline/vestline/io/DecimalDigitsValuePinLaw", name := "term", desc := "(IIIII[I)I" } : Jvm.MethodName) method_5_code (6 : Nat) (Option.some Jvm.ClassFile.FieldType.int), Jvm.Cond.code ({ cls := "com/example/vestline/vestline/io/DecimalDigits", name := "value", desc := "([CII)I" } : Jvm.MethodName) prog_12_method_3_code (5 : Nat) (Option.some Jvm.ClassFile.FieldType.int)]
set_option maxRecDepth 65536 in
theorem codes_eq : words1.filter isCode = codes1 := rfl
theorem w_codes : ∀ c ∈ words1.filter isCode, c.before args0 about1 = true := by
  rw [codes_eq]
  intro c hc
  simp only [codes1, List.mem_cons, List.not_mem_nil, or_false] at hc
  rcases hc with rfl | rfl | rfl | rfl | rfl | rfl
  · exact w_c0
  · exact w_c1
  · exact w_c2
  · exact w_c3
  · exact w_c4
  · exact w_c5
set_option maxRecDepth 65536 in
theorem w_t1 : (words1.take 24).all (fun c => isCode c || c.before args0 about1) = true := by decide +kernel
set_option maxRecDepth 65536 in
theorem w_t2 : (words1.drop 24).all (fun c => isCode c || c.before args0 about1) = true := by decide +kernel
theorem w_tables : (allAtoms (Jvm.Cond.code x code maxLocals ret :: tables_1)).before args0 about1 = true := by
  rw [allAtoms_all]
  show words1.all (fun c => c.before args0 about1) = true
  refine all_split ?_ w_codes
  rw [← List.take_append_drop 24 words1, List.all_append, w_t1, w_t2]
  rfl
set_option maxRecDepth 65536 in
theorem w_case : (Jvm.Cond.and given_1 narrow_1).before args0 about1 = true := by decide +kernel
theorem w_applies : (headSpec (Jvm.Cond.code x code maxLocals ret :: tables_1) room_1).applies x e0.platform about1 = true :=
  (Spec.applies_iff w_frames).mpr ⟨w_running, w_runnable, w_alone, w_named, w_hears, w_ripe, w_room, w_tables⟩
theorem atStart : AtStart classFile x code maxLocals ret World_1 tables_1 room_1 Calls_1 rest_1 Pre_1 launch0 p0 e0 about1 theMethod args0 below0 :=
  ⟨lists_1, trivial, launch0.admits_env _ _ _, launch0.least_env, fairChoices_fair.cas, fairChoices_fair.clock, w_frames, w_args, w_heap, w_applies, trivial, trivial, w_case⟩
end start1
theorem witness_1 : WitnessClaimed_1 := ⟨start1.p0, start1.e0, start1.about1, start1.theMethod, start1.args0, start1.below0, start1.atStart⟩
end Jvm.Pilot.@@N@@

import JvmDerived
import JvmDerived.Pilot.@@N@@Statement
import JvmDerived.Pilot.@@N@@Code
set_option linter.unusedVariables false
set_option linter.unusedSimpArgs false
@@BLOCK:NumsL.lean.txt@@
namespace Jvm.OwnKit
open Sem ClassFile Op Lib Jvm.Stand Jvm.Free Jvm.LawKit Jvm.RoadKit
/-- the surroundings of one body: program, environment, start, method, arguments, frames below, method record, code -/
abbrev Cxt := Program × Env × State × MethodId × Array Value × List Frame × Method × Code
/-- what a body owes: the first new address, cells, slots, what it leaves -/
abbrev En := Nat × Nat × Nat × (Option Value → Heap → Prop)
abbrev St (l : Launch) (R : Room) (C : Cxt) (T : State) (L : List Loc) (k n : Nat) : Prop :=
  Stand C.1 l C.2.1 R C.2.2.1 C.2.2.2.1 C.2.2.2.2.1 C.2.2.2.2.2.1 C.2.2.2.2.2.2.1 C.2.2.2.2.2.2.2 T L k n
abbrev Sp (C : Cxt) (a b : State) : Prop := Steps C.1.tables C.2.1 C.2.2.2.2.2.1 a b
def Goes (C : Cxt) (E : En) (a : State) : Prop :=
  ∃ t o, Sp C a t ∧ t.status = .running ∧ Ended t C.2.2.2.2.2.1 o ∧ ∃ v L, o = .returned v ∧ (E.2.2.2 v t.heap ∧ Fr E.1 L) ∧ FrameEnd C.2.2.1 o t L E.2.1 E.2.2.1
/-- from this place of the code, with this heap, these locals and this stack, and so many cells and slots made, the body comes to its end as owed -/
def W (l : Launch) (R : Room) (C : Cxt) (E : En) (h : Heap) (k n pc : Nat) (Ls : Array Slot) (st : List Value) : Prop :=
  ∀ T L, St l R C T L k n → Fr E.1 L → T.heap = h → Goes C E (T.setTop (mkF C.2.2.2.1 pc Ls st))
def Cx (C : Cxt) (Z : State) (own : String) (code : ByteArray) (ml : Nat) (ret : Option FieldType) (nm : String) (n0 : Nat) : Prop :=
  C.1.tables.exec = Jvm.exec ∧ C.2.2.2.2.2.2.2.code = code ∧ C.2.2.2.2.2.2.2.maxLocals = ml ∧ C.2.2.1.vm.findClass own = some C.2.2.2.1.cls ∧ Z.Warmed39 C.2.2.1.vm ∧ C.2.2.2.2.2.2.1.sig.returnType = ret ∧ C.2.2.2.2.2.2.1.locks = false ∧ C.2.2.2.2.2.2.1.name = nm ∧ n0 ≤ C.2.2.1.heap.size
/-- a contract of one call: these arguments, this heap -/
def Ctr (l : Launch) (Z : State) (y : MethodName) (bytes : ByteArray) (maxL : Nat) (ret : Option FieldType) (rm : Room) (n0 : Nat) (as' : Array Value) (h : Heap) (Q : Option Value → Heap → Prop) : Prop :=
  MetFree l y (head1 [Cond.code y bytes maxL ret] rm) (fun a U => a = as' ∧ Z.Warmed39 U.vm ∧ U.heap = h) (fun _ _ _ _ _ => True) (fun _ U o U' => ∃ v L, o = .returned v ∧ (Q v U'.heap ∧ Fr n0 L) ∧ FrameEnd U o U' L rm.cells rm.slots)
section Own
variable {l : Launch} {R : Room} {C : Cxt} {E : En} {h h' : Heap} {k n pc : Nat} {Ls : Array Slot} {st : List Value} {Z : State} {own nm : String} {code : ByteArray} {ml : Nat} {ret : Option FieldType} {a0 : Array Value}
theorem wd {ts : List Jvm.Cond} (hw : ∀ d ∈ ts, d.before a0 Z = true) (i : Nat) {d : Jvm.Cond} (hi : ts[i]? = some d) : d.before a0 Z = true := hw _ (List.mem_of_getElem? hi)
theorem W.via {pc' : Nat} {Ls' : Array Slot} {st' : List Value} (f : ∀ T t L, St l R C T L k n → T.heap = h → Sp C (T.setTop (mkF C.2.2.2.1 pc' Ls' st')) t → Sp C (T.setTop (mkF C.2.2.2.1 pc Ls st)) t)
    (hr : W l R C E h k n pc' Ls' st') : W l R C E h k n pc Ls st := fun T L X N eT => by
  obtain ⟨t, o, h1, h2⟩ := hr T L X N eT
  exact ⟨t, o, f T t L X eT h1, h2⟩
theorem W.more {k' n' : Nat} (hk : k ≤ k') (hn : n ≤ n') (hr : W l R C E h k' n' pc Ls st) : W l R C E h k n pc Ls st := fun T L X N eT => hr T L (X.more hk hn) N eT
/-- a step that moves the tables alone -/
theorem W.viaT {pc' : Nat} {Ls' : Array Slot} {st' : List Value} (f : ∀ T L, St l R C T L k n → T.heap = h → ∃ T', St l R C T' L k n ∧ T'.heap = h ∧ ∀ t, Sp C (T'.setTop (mkF C.2.2.2.1 pc' Ls' st')) t → Sp C (T.setTop (mkF C.2.2.2.1 pc Ls st)) t)
    (hr : W l R C E h k n pc' Ls' st') : W l R C E h k n pc Ls st := fun T L X N eT => by
  obtain ⟨T', X', e', q⟩ := f T L X eT
  obtain ⟨t, o, h1, h2⟩ := hr T' L X' N e'
  exact ⟨t, o, q t h1, h2⟩
theorem size_ge {n0 : Nat} (H : Cx C Z own code ml ret nm n0) {T : State} {L : List Loc} (X : St l R C T L k n) : n0 ≤ T.heap.size := Nat.le_trans H.2.2.2.2.2.2.2.2 X.same.2.1
/-! plain steps -/
section Plain
theorem k_iloadN {i : Fin 4} {x : Int32} (H : Cx C Z own code ml ret nm E.1) (hd : decode code pc = .ok (.iload_n i, 1)) (hl : Ls[i.val]? = some (.val (.int x))) (hr : W l R C E h k n (pc + 1) Ls (.int x :: st)) : W l R C E h k n pc Ls st := .via (fun T t L X _ r => XS.iloadN X.here H.1 rfl (hb H.2.1 hd) hl r) hr
theorem k_iload {i : Nat} {x : Int32} (H : Cx C Z own code ml ret nm E.1) (hd : decode code pc = .ok (.iload i, 2)) (hl : Ls[i]? = some (.val (.int x))) (hr : W l R C E h k n (pc + 2) Ls (.int x :: st)) : W l R C E h k n pc Ls st := .via (fun T t L X _ r => XS.iload X.here H.1 rfl (hb H.2.1 hd) hl r) hr
theorem k_lloadN {i : Fin 4} {x : Int64} (H : Cx C Z own code ml ret nm E.1) (hd : decode code pc = .ok (.lload_n i, 1)) (hl : Ls[i.val]? = some (.val (.long x))) (hr : W l R C E h k n (pc + 1) Ls (.long x :: st)) : W l R C E h k n pc Ls st := .via (fun T t L X _ r => XT.lloadN X.here H.1 rfl (hb H.2.1 hd) hl r) hr
theorem k_lload {i : Nat} {x : Int64} (H : Cx C Z own code ml ret nm E.1) (hd : decode code pc = .ok (.lload i, 2)) (hl : Ls[i]? = some (.val (.long x))) (hr : W l R C E h k n (pc + 2) Ls (.long x :: st)) : W l R C E h k n pc Ls st := .via (fun T t L X _ r => XT.lload X.here H.1 rfl (hb H.2.1 hd) hl r) hr
theorem k_aloadN {i : Fin 4} {v : Value} (H : Cx C Z own code ml ret nm E.1) (hd : decode code pc = .ok (.aload_n i, 1)) (hl : Ls[i.val]? = some (.val v)) (hv : v.isRef = true) (hr : W l R C E h k n (pc + 1) Ls (v :: st)) : W l R C E h k n pc Ls st := .via (fun T t L X _ r => XS.aloadN X.here H.1 rfl (hb H.2.1 hd) hl hv r) hr
theorem k_aload {i : Nat} {v : Value} (H : Cx C Z own code ml ret nm E.1) (hd : decode code pc = .ok (.aload i, 2)) (hl : Ls[i]? = some (.val v)) (hv : v.isRef = true) (hr : W l R C E h k n (pc + 2) Ls (v :: st)) : W l R C E h k n pc Ls st := .via (fun T t L X _ r => XS.aload X.here H.1 rfl (hb H.2.1 hd) hl hv r) hr
theorem k_istoreN {i : Fin 4} {x : Int32} {Ls' : Array Slot} (H : Cx C Z own code ml ret nm E.1) (hd : decode code pc = .ok (.istore_n i, 1)) (hl : storeLocals Ls i.val (.int x) = some Ls') (hr : W l R C E h k n (pc + 1) Ls' st) : W l R C E h k n pc Ls (.int x :: st) := .via (fun T t L X _ r => XS.istoreN X.here H.1 rfl (hb H.2.1 hd) rfl hl r) hr
theorem k_istore {i : Nat} {x : Int32} {Ls' : Array Slot} (H : Cx C Z own code ml ret nm E.1) (hd : decode code pc = .ok (.istore i, 2)) (hl : storeLocals Ls i (.int x) = some Ls') (hr : W l R C E h k n (pc + 2) Ls' st) : W l R C E h k n pc Ls (.int x :: st) := .via (fun T t L X _ r => XS.istore X.here H.1 rfl (hb H.2.1 hd) rfl hl r) hr
theorem k_lstoreN {i : Fin 4} {x : Int64} {Ls' : Array Slot} (H : Cx C Z own code ml ret nm E.1) (hd : decode code pc = .ok (.lstore_n i, 1)) (hl : storeLocals Ls i.val (.long x) = some Ls') (hr : W l R C E h k n (pc + 1) Ls' st) : W l R C E h k n pc Ls (.long x :: st) := .via (fun T t L X _ r => XT.lstoreN X.here H.1 rfl (hb H.2.1 hd) rfl hl r) hr
theorem k_lstore {i : Nat} {x : Int64} {Ls' : Array Slot} (H : Cx C Z own code ml ret nm E.1) (hd : decode code pc = .ok (.lstore i, 2)) (hl : storeLocals Ls i (.long x) = some Ls') (hr : W l R C E h k n (pc + 2) Ls' st) : W l R C E h k n pc Ls (.long x :: st) := .via (fun T t L X _ r => XT.lstore X.here H.1 rfl (hb H.2.1 hd) rfl hl r) hr
theorem k_astoreN {i : Fin 4} {x : Value} {Ls' : Array Slot} (H : Cx C Z own code ml ret nm E.1) (hd : decode code pc = .ok (.astore_n i, 1)) (hv : x.isRef = true) (hl : storeLocals Ls i.val x = some Ls') (hr : W l R C E h k n (pc + 1) Ls' st) : W l R C E h k n pc Ls (x :: st) := .via (fun T t L X _ r => XS.astoreN X.here H.1 rfl (hb H.2.1 hd) rfl hv hl r) hr
theorem k_astore {i : Nat} {x : Value} {Ls' : Array Slot} (H : Cx C Z own code ml ret nm E.1) (hd : decode code pc = .ok (.astore i, 2)) (hv : x.isRef = true) (hl : storeLocals Ls i x = some Ls') (hr : W l R C E h k n (pc + 2) Ls' st) : W l R C E h k n pc Ls (x :: st) := .via (fun T t L X _ r => XS.astore X.here H.1 rfl (hb H.2.1 hd) rfl hv hl r) hr
theorem k_iconst {i : Int} (v : Int32) (H : Cx C Z own code ml ret nm E.1) (hd : decode code pc = .ok (.iconst i, 1)) (hv : Int32.ofInt i = v) (hr : W l R C E h k n (pc + 1) Ls (.int v :: st)) : W l R C E h k n pc Ls st := .via (fun T t L X _ r => XT.iconstV X.here H.1 rfl v (hb H.2.1 hd) hv r) hr
theorem k_bipush {i : Int} (v : Int32) (H : Cx C Z own code ml ret nm E.1) (hd : decode code pc = .ok (.bipush i, 2)) (hv : (Int8.ofInt i).toInt32 = v) (hr : W l R C E h k n (pc + 2) Ls (.int v :: st)) : W l R C E h k n pc Ls st := .via (fun T t L X _ r => XT.bipushV X.here H.1 rfl v (hb H.2.1 hd) hv r) hr
theorem k_sipush {i : Int} (v : Int32) (H : Cx C Z own code ml ret nm E.1) (hd : decode code pc = .ok (.sipush i, 3)) (hv : (Int16.ofInt i).toInt32 = v) (hr : W l R C E h k n (pc + 3) Ls (.int v :: st)) : W l R C E h k n pc Ls st := .via (fun T t L X _ r => XT.sipushV X.here H.1 rfl v (hb H.2.1 hd) hv r) hr
theorem k_lconst {i : Fin 2} (v : Int64) (H : Cx C Z own code ml ret nm E.1) (hd : decode code pc = .ok (.lconst i, 1)) (hv : Int64.ofNat i = v) (hr : W l R C E h k n (pc + 1) Ls (.long v :: st)) : W l R C E h k n pc Ls st := .via (fun T t L X _ r => XT.lconstV X.here H.1 rfl v (hb H.2.1 hd) hv r) hr
theorem k_aconstNull (H : Cx C Z own code ml ret nm E.1) (hd : decode code pc = .ok (.aconst_null, 1)) (hr : W l R C E h k n (pc + 1) Ls (.null :: st)) : W l R C E h k n pc Ls st := .via (fun T t L X _ r => XS.aconstNull X.here H.1 rfl (hb H.2.1 hd) r) hr
theorem k_ldcI {i : Nat} {v : Int32} (H : Cx C Z own code ml ret nm E.1) (hc : (Cond.constant own i v).before a0 Z = true) (hd : decode code pc = .ok (.ldc i, 2)) (hr : W l R C E h k n (pc + 2) Ls (.int v :: st)) : W l R C E h k n pc Ls st := .via (fun T t L X _ r => X.ldcI H.1 H.2.2.2.1 (mv H.2.2.2.2.1 hc) rfl (hb H.2.1 hd) r) hr
theorem k_ldcWI {i : Nat} {v : Int32} (H : Cx C Z own code ml ret nm E.1) (hc : (Cond.constant own i v).before a0 Z = true) (hd : decode code pc = .ok (.ldc_w i, 3)) (hr : W l R C E h k n (pc + 3) Ls (.int v :: st)) : W l R C E h k n pc Ls st := .via (fun T t L X _ r => X.ldcWI H.1 H.2.2.2.1 (mv H.2.2.2.2.1 hc) rfl (hb H.2.1 hd) r) hr
theorem k_ldc2J {i : Nat} {v : Int64} (H : Cx C Z own code ml ret nm E.1) (hc : (Cond.constantLong own i v).before a0 Z = true) (hd : decode code pc = .ok (.ldc2_w i, 3)) (hr : W l R C E h k n (pc + 3) Ls (.long v :: st)) : W l R C E h k n pc Ls st := .via (fun T t L X _ r => X.ldc2J H.1 H.2.2.2.1 (mv H.2.2.2.2.1 hc) rfl (hb H.2.1 hd) r) hr
theorem k_iinc {i : Nat} {c : Int} (v : Int32) {x : Int32} {Ls' : Array Slot} (H : Cx C Z own code ml ret nm E.1) (hd : decode code pc = .ok (.iinc i c, 3)) (hv : Int32.ofInt c = v) (hl : Ls[i]? = some (.val (.int x))) (hl' : storeLocals Ls i (.int (x + v)) = some Ls') (hr : W l R C E h k n (pc + 3) Ls' st) : W l R C E h k n pc Ls st := .via (fun T t L X _ r => XT.iincV X.here H.1 rfl v (hb H.2.1 hd) hv hl hl' r) hr
theorem k_iadd {x y : Int32} (H : Cx C Z own code ml ret nm E.1) (hd : decode code pc = .ok (.iadd, 1)) (hr : W l R C E h k n (pc + 1) Ls (.int (x + y) :: st)) : W l R C E h k n pc Ls (.int y :: .int x :: st) := .via (fun T t L X _ r => XS.iadd X.here H.1 rfl (hb H.2.1 hd) rfl r) hr
theorem k_isub {x y : Int32} (H : Cx C Z own code ml ret nm E.1) (hd : decode code pc = .ok (.isub, 1)) (hr : W l R C E h k n (pc + 1) Ls (.int (x - y) :: st)) : W l R C E h k n pc Ls (.int y :: .int x :: st) := .via (fun T t L X _ r => XS.isub X.here H.1 rfl (hb H.2.1 hd) rfl r) hr
theorem k_imul {x y : Int32} (H : Cx C Z own code ml ret nm E.1) (hd : decode code pc = .ok (.imul, 1)) (hr : W l R C E h k n (pc + 1) Ls (.int (x * y) :: st)) : W l R C E h k n pc Ls (.int y :: .int x :: st) := .via (fun T t L X _ r => XS.imul X.here H.1 rfl (hb H.2.1 hd) rfl r) hr
theorem k_idiv {x y : Int32} (H : Cx C Z own code ml ret nm E.1) (hd : decode code pc = .ok (.idiv, 1)) (hy : y ≠ 0) (hr : W l R C E h k n (pc + 1) Ls (.int (x / y) :: st)) : W l R C E h k n pc Ls (.int y :: .int x :: st) := .via (fun T t L X _ r => XS.idiv X.here H.1 rfl (hb H.2.1 hd) rfl hy r) hr
theorem k_irem {x y : Int32} (H : Cx C Z own code ml ret nm E.1) (hd : decode code pc = .ok (.irem, 1)) (hy : y ≠ 0) (hr : W l R C E h k n (pc + 1) Ls (.int (x % y) :: st)) : W l R C E h k n pc Ls (.int y :: .int x :: st) := .via (fun T t L X _ r => iremM X H.1 rfl (hb H.2.1 hd) rfl hy r) hr
theorem k_iand {x y : Int32} (H : Cx C Z own code ml ret nm E.1) (hd : decode code pc = .ok (.iand, 1)) (hr : W l R C E h k n (pc + 1) Ls (.int (x &&& y) :: st)) : W l R C E h k n pc Ls (.int y :: .int x :: st) := .via (fun T t L X _ r => XS.iand X.here H.1 rfl (hb H.2.1 hd) rfl r) hr
theorem k_ior {x y : Int32} (H : Cx C Z own code ml ret nm E.1) (hd : decode code pc = .ok (.ior, 1)) (hr : W l R C E h k n (pc + 1) Ls (.int (x ||| y) :: st)) : W l R C E h k n pc Ls (.int y :: .int x :: st) := .via (fun T t L X _ r => XT.ior X.here H.1 rfl (hb H.2.1 hd) rfl r) hr
theorem k_ixor {x y : Int32} (H : Cx C Z own code ml ret nm E.1) (hd : decode code pc = .ok (.ixor, 1)) (hr : W l R C E h k n (pc + 1) Ls (.int (x ^^^ y) :: st)) : W l R C E h k n pc Ls (.int y :: .int x :: st) := .via (fun T t L X _ r => XT.ixor X.here H.1 rfl (hb H.2.1 hd) rfl r) hr
theorem k_ishl {x y : Int32} (H : Cx C Z own code ml ret nm E.1) (hd : decode code pc = .ok (.ishl, 1)) (hr : W l R C E h k n (pc + 1) Ls (.int (x <<< (y &&& 31)) :: st)) : W l R C E h k n pc Ls (.int y :: .int x :: st) := .via (fun T t L X _ r => XT.ishl X.here H.1 rfl (hb H.2.1 hd) rfl r) hr
theorem k_ishr {x y : Int32} (H : Cx C Z own code ml ret nm E.1) (hd : decode code pc = .ok (.ishr, 1)) (hr : W l R C E h k n (pc + 1) Ls (.int (x >>> (y &&& 31)) :: st)) : W l R C E h k n pc Ls (.int y :: .int x :: st) := .via (fun T t L X _ r => XT.ishr X.here H.1 rfl (hb H.2.1 hd) rfl r) hr
theorem k_iushr {x y : Int32} (H : Cx C Z own code ml ret nm E.1) (hd : decode code pc = .ok (.iushr, 1)) (hr : W l R C E h k n (pc + 1) Ls (.int (XT.ushr x y) :: st)) : W l R C E h k n pc Ls (.int y :: .int x :: st) := .via (fun T t L X _ r => XT.iushr X.here H.1 rfl (hb H.2.1 hd) rfl r) hr
theorem k_ineg {x : Int32} (H : Cx C Z own code ml ret nm E.1) (hd : decode code pc = .ok (.ineg, 1)) (hr : W l R C E h k n (pc + 1) Ls (.int (-x) :: st)) : W l R C E h k n pc Ls (.int x :: st) := .via (fun T t L X _ r => XS.ineg X.here H.1 rfl (hb H.2.1 hd) rfl r) hr
theorem k_ladd {x y : Int64} (H : Cx C Z own code ml ret nm E.1) (hd : decode code pc = .ok (.ladd, 1)) (hr : W l R C E h k n (pc + 1) Ls (.long (x + y) :: st)) : W l R C E h k n pc Ls (.long y :: .long x :: st) := .via (fun T t L X _ r => XT.ladd X.here H.1 rfl (hb H.2.1 hd) rfl r) hr
theorem k_lsub {x y : Int64} (H : Cx C Z own code ml ret nm E.1) (hd : decode code pc = .ok (.lsub, 1)) (hr : W l R C E h k n (pc + 1) Ls (.long (x - y) :: st)) : W l R C E h k n pc Ls (.long y :: .long x :: st) := .via (fun T t L X _ r => XT.lsub X.here H.1 rfl (hb H.2.1 hd) rfl r) hr
theorem k_land {x y : Int64} (H : Cx C Z own code ml ret nm E.1) (hd : decode code pc = .ok (.land, 1)) (hr : W l R C E h k n (pc + 1) Ls (.long (x &&& y) :: st)) : W l R C E h k n pc Ls (.long y :: .long x :: st) := .via (fun T t L X _ r => XT.land X.here H.1 rfl (hb H.2.1 hd) rfl r) hr
theorem k_lor {x y : Int64} (H : Cx C Z own code ml ret nm E.1) (hd : decode code pc = .ok (.lor, 1)) (hr : W l R C E h k n (pc + 1) Ls (.long (x ||| y) :: st)) : W l R C E h k n pc Ls (.long y :: .long x :: st) := .via (fun T t L X _ r => XT.lor X.here H.1 rfl (hb H.2.1 hd) rfl r) hr
theorem k_lxor {x y : Int64} (H : Cx C Z own code ml ret nm E.1) (hd : decode code pc = .ok (.lxor, 1)) (hr : W l R C E h k n (pc + 1) Ls (.long (x ^^^ y) :: st)) : W l R C E h k n pc Ls (.long y :: .long x :: st) := .via (fun T t L X _ r => XT.lxor X.here H.1 rfl (hb H.2.1 hd) rfl r) hr
theorem k_lshl {x : Int64} {y : Int32} (H : Cx C Z own code ml ret nm E.1) (hd : decode code pc = .ok (.lshl, 1)) (hr : W l R C E h k n (pc + 1) Ls (.long (x <<< (y.toInt64 &&& 63)) :: st)) : W l R C E h k n pc Ls (.int y :: .long x :: st) := .via (fun T t L X _ r => XT.lshl X.here H.1 rfl (hb H.2.1 hd) rfl r) hr
theorem k_lushr {x : Int64} {y : Int32} (H : Cx C Z own code ml ret nm E.1) (hd : decode code pc = .ok (.lushr, 1)) (hr : W l R C E h k n (pc + 1) Ls (.long (XT.ushrL x y) :: st)) : W l R C E h k n pc Ls (.int y :: .long x :: st) := .via (fun T t L X _ r => XT.lushr X.here H.1 rfl (hb H.2.1 hd) rfl r) hr
theorem k_i2l {x : Int32} (H : Cx C Z own code ml ret nm E.1) (hd : decode code pc = .ok (.i2l, 1)) (hr : W l R C E h k n (pc + 1) Ls (.long x.toInt64 :: st)) : W l R C E h k n pc Ls (.int x :: st) := .via (fun T t L X _ r => XT.i2l X.here H.1 rfl (hb H.2.1 hd) rfl r) hr
theorem k_l2i {x : Int64} (H : Cx C Z own code ml ret nm E.1) (hd : decode code pc = .ok (.l2i, 1)) (hr : W l R C E h k n (pc + 1) Ls (.int x.toInt32 :: st)) : W l R C E h k n pc Ls (.long x :: st) := .via (fun T t L X _ r => XT.l2i X.here H.1 rfl (hb H.2.1 hd) rfl r) hr
theorem k_i2b {x : Int32} (H : Cx C Z own code ml ret nm E.1) (hd : decode code pc = .ok (.i2b, 1)) (hr : W l R C E h k n (pc + 1) Ls (.int x.toInt8.toInt32 :: st)) : W l R C E h k n pc Ls (.int x :: st) := .via (fun T t L X _ r => XT.i2b X.here H.1 rfl (hb H.2.1 hd) rfl r) hr
theorem k_i2c {x : Int32} (H : Cx C Z own code ml ret nm E.1) (hd : decode code pc = .ok (.i2c, 1)) (hr : W l R C E h k n (pc + 1) Ls (.int x.toUInt32.toUInt16.toUInt32.toInt32 :: st)) : W l R C E h k n pc Ls (.int x :: st) := .via (fun T t L X _ r => XT.i2c X.here H.1 rfl (hb H.2.1 hd) rfl r) hr
theorem k_lcmp {x y : Int64} (H : Cx C Z own code ml ret nm E.1) (hd : decode code pc = .ok (.lcmp, 1)) (hr : W l R C E h k n (pc + 1) Ls (.int (XT.cmpL x y) :: st)) : W l R C E h k n pc Ls (.long y :: .long x :: st) := .via (fun T t L X _ r => XT.lcmp X.here H.1 rfl (hb H.2.1 hd) rfl r) hr
theorem k_dup {v : Value} (H : Cx C Z own code ml ret nm E.1) (hd : decode code pc = .ok (.dup, 1)) (hc : v.category = 1) (hr : W l R C E h k n (pc + 1) Ls (v :: v :: st)) : W l R C E h k n pc Ls (v :: st) := .via (fun T t L X _ r => XS.dup X.here H.1 rfl (hb H.2.1 hd) rfl hc r) hr
theorem k_pop {v : Value} (H : Cx C Z own code ml ret nm E.1) (hd : decode code pc = .ok (.pop, 1)) (hc : v.category = 1) (hr : W l R C E h k n (pc + 1) Ls st) : W l R C E h k n pc Ls (v :: st) := .via (fun T t L X _ r => XT.pop X.here H.1 rfl (hb H.2.1 hd) rfl hc r) hr
theorem k_dupX1 {v w : Value} (H : Cx C Z own code ml ret nm E.1) (hd : decode code pc = .ok (.dup_x1, 1)) (hc : v.category = 1) (hc' : w.category = 1) (hr : W l R C E h k n (pc + 1) Ls (v :: w :: v :: st)) : W l R C E h k n pc Ls (v :: w :: st) := .via (fun T t L X _ r => XT.dupX1 X.here H.1 rfl (hb H.2.1 hd) rfl hc hc' r) hr
theorem k_dup2 {v w : Value} (H : Cx C Z own code ml ret nm E.1) (hd : decode code pc = .ok (.dup2, 1)) (hc : v.category = 1) (hc' : w.category = 1) (hr : W l R C E h k n (pc + 1) Ls (v :: w :: v :: w :: st)) : W l R C E h k n pc Ls (v :: w :: st) := .via (fun T t L X _ r => XT.dup2 X.here H.1 rfl (hb H.2.1 hd) rfl hc hc' r) hr
theorem k_goto {o : Int} (pc' : Nat) (H : Cx C Z own code ml ret nm E.1) (hd : decode code pc = .ok (.goto o, 3)) (hp : (pc : Int) + o = (pc' : Int)) (hr : W l R C E h k n pc' Ls st) : W l R C E h k n pc Ls st := .via (fun T t L X _ r => XS.goto X.here H.1 rfl rfl (hb H.2.1 hd) (by rw [hp]; exact Int.natCast_nonneg _) (by rw [hp]; rfl) r) hr
theorem k_icmpT {cd : ClassFile.Cond} {o : Int} {x y : Int32} (pc' : Nat) (H : Cx C Z own code ml ret nm E.1) (hd : decode code pc = .ok (.if_icmp cd o, 3)) (hp : (pc : Int) + o = (pc' : Int)) (hc : if_icmp.holds cd x y = true) (hr : W l R C E h k n pc' Ls st) : W l R C E h k n pc Ls (.int y :: .int x :: st) :=
  .via (fun T t L X _ r => XS.icmpYes X.here H.1 rfl rfl (hb H.2.1 hd) rfl hc (by rw [hp]; exact Int.natCast_nonneg _) (by rw [hp]; rfl) r) hr
theorem k_icmpF {cd : ClassFile.Cond} {o : Int} {x y : Int32} (H : Cx C Z own code ml ret nm E.1) (hd : decode code pc = .ok (.if_icmp cd o, 3)) (hc : if_icmp.holds cd x y = false) (hr : W l R C E h k n (pc + 3) Ls st) : W l R C E h k n pc Ls (.int y :: .int x :: st) :=
  .via (fun T t L X _ r => XS.icmpNo X.here H.1 rfl (hb H.2.1 hd) rfl hc r) hr
theorem k_ifT {cd : ClassFile.Cond} {o : Int} {x : Int32} (pc' : Nat) (H : Cx C Z own code ml ret nm E.1) (hd : decode code pc = .ok (.ifCond cd o, 3)) (hp : (pc : Int) + o = (pc' : Int)) (hc : ifCond.holds cd x = true) (hr : W l R C E h k n pc' Ls st) : W l R C E h k n pc Ls (.int x :: st) :=
  .via (fun T t L X _ r => XS.ifYes X.here H.1 rfl rfl (hb H.2.1 hd) rfl hc (by rw [hp]; exact Int.natCast_nonneg _) (by rw [hp]; rfl) r) hr
theorem k_ifF {cd : ClassFile.Cond} {o : Int} {x : Int32} (H : Cx C Z own code ml ret nm E.1) (hd : decode code pc = .ok (.ifCond cd o, 3)) (hc : ifCond.holds cd x = false) (hr : W l R C E h k n (pc + 3) Ls st) : W l R C E h k n pc Ls (.int x :: st) :=
  .via (fun T t L X _ r => XS.ifNo X.here H.1 rfl (hb H.2.1 hd) rfl hc r) hr
theorem k_acmpT {cd : ClassFile.ACond} {o : Int} {x y : Value} (pc' : Nat) (H : Cx C Z own code ml ret nm E.1) (hd : decode code pc = .ok (.if_acmp cd o, 3)) (hp : (pc : Int) + o = (pc' : Int)) (hx : x.isRef = true) (hy : y.isRef = true) (hc : XT.acmp cd x y = true) (hr : W l R C E h k n pc' Ls st) : W l R C E h k n pc Ls (y :: x :: st) :=
  .via (fun T t L X _ r => XT.acmpYes X.here H.1 rfl rfl (hb H.2.1 hd) rfl hx hy hc (by rw [hp]; exact Int.natCast_nonneg _) (by rw [hp]; rfl) r) hr
theorem k_acmpF {cd : ClassFile.ACond} {o : Int} {x y : Value} (H : Cx C Z own code ml ret nm E.1) (hd : decode code pc = .ok (.if_acmp cd o, 3)) (hx : x.isRef = true) (hy : y.isRef = true) (hc : XT.acmp cd x y = false) (hr : W l R C E h k n (pc + 3) Ls st) : W l R C E h k n pc Ls (y :: x :: st) :=
  .via (fun T t L X _ r => XT.acmpNo X.here H.1 rfl (hb H.2.1 hd) rfl hx hy hc r) hr
theorem k_nonnullT {o : Int} {b : Addr} (pc' : Nat) (H : Cx C Z own code ml ret nm E.1) (hd : decode code pc = .ok (.ifnonnull o, 3)) (hp : (pc : Int) + o = (pc' : Int)) (hr : W l R C E h k n pc' Ls st) : W l R C E h k n pc Ls (.ref b :: st) :=
  .via (fun T t L X _ r => XT.ifnonnullYes X.here H.1 rfl rfl (hb H.2.1 hd) rfl (by rw [hp]; exact Int.natCast_nonneg _) (by rw [hp]; rfl) r) hr
theorem k_tsw {dflt low high o : Int} {offs : Array Int} {len : Nat} {i : Int32} (pc' : Nat) (H : Cx C Z own code ml ret nm E.1) (hd : decode code pc = .ok (.tableswitch dflt low high offs, len)) (hin : ¬ (i.toInt < low ∨ i.toInt > high)) (hoff : offs[(i.toInt - low).toNat]? = some o) (hp : (pc : Int) + o = (pc' : Int)) (hr : W l R C E h k n pc' Ls st) : W l R C E h k n pc Ls (.int i :: st) :=
  .via (fun T t L X _ r => XS.tswIn X.here H.1 rfl rfl (hb H.2.1 hd) rfl hin hoff (by rw [hp]; exact Int.natCast_nonneg _) (by rw [hp]; rfl) r) hr
theorem lsw {tb : Tables} [Ours tb] {e : Env} {below : List Frame} {T target : State} {m : MethodId} {c : Code} {g : JFrame} (h : At T m c below) (hx : tb.exec = Jvm.exec) (hg : g.method = m) {dflt : Int} {pairs : Array (Int × Int)} {len : Nat} {pc0 pc' : Nat} (hpc : g.pc = pc0) (hd : decode c.code g.pc = .ok (.lookupswitch dflt pairs, len)) {i : Int32} {rest : List Value} (hs : g.stack = .int i :: rest)
    (ho : 0 ≤ (pc0 : Int) + lookupswitch.offset pairs.toList dflt i.toInt) (hp : ((pc0 : Int) + lookupswitch.offset pairs.toList dflt i.toInt).toNat = pc') (hsort : ∀ (a b c d : Int), ((a, b), c, d) ∈ pairs.toList.zip pairs.toList.tail → a < c) (hr : Steps tb e below (T.setTop { g with pc := pc', stack := rest }) target) : Steps tb e below (T.setTop g) target := by
  subst hg hpc hp
  jvm_step h [h.top, hx, hd, hs, ho, lookupswitch.wp_chain]
  exact ⟨hsort, hr⟩
theorem k_lsw {dflt : Int} {pairs : Array (Int × Int)} {len : Nat} {i : Int32} (pc' : Nat) (H : Cx C Z own code ml ret nm E.1) (hd : decode code pc = .ok (.lookupswitch dflt pairs, len)) (hsort : ∀ (a b c d : Int), ((a, b), c, d) ∈ pairs.toList.zip pairs.toList.tail → a < c) (hp : (pc : Int) + lookupswitch.offset pairs.toList dflt i.toInt = (pc' : Int)) (hr : W l R C E h k n pc' Ls st) : W l R C E h k n pc Ls (.int i :: st) :=
  .via (fun T t L X _ r => lsw X.here H.1 rfl rfl (hb H.2.1 hd) rfl (by rw [hp]; exact Int.natCast_nonneg _) (by rw [hp]; rfl) hsort r) hr
end Plain
/-! branches, both ways -/
theorem k_icmp {cd : ClassFile.Cond} {o : Int} {x y : Int32} {P : Prop} [Decidable P] (pc' : Nat) (H : Cx C Z own code ml ret nm E.1) (hd : decode code pc = .ok (.if_icmp cd o, 3)) (hp : (pc : Int) + o = (pc' : Int)) (hT : P → if_icmp.holds cd x y = true) (hF : ¬ P → if_icmp.holds cd x y = false)
    (h1 : P → W l R C E h k n pc' Ls st) (h2 : ¬ P → W l R C E h k n (pc + 3) Ls st) : W l R C E h k n pc Ls (.int y :: .int x :: st) := by
  by_cases q : P
  · exact k_icmpT pc' H hd hp (hT q) (h1 q)
  · exact k_icmpF H hd (hF q) (h2 q)
theorem k_iff0 {cd : ClassFile.Cond} {o : Int} {x : Int32} {P : Prop} [Decidable P] (pc' : Nat) (H : Cx C Z own code ml ret nm E.1) (hd : decode code pc = .ok (.ifCond cd o, 3)) (hp : (pc : Int) + o = (pc' : Int)) (hT : P → ifCond.holds cd x = true) (hF : ¬ P → ifCond.holds cd x = false)
    (h1 : P → W l R C E h k n pc' Ls st) (h2 : ¬ P → W l R C E h k n (pc + 3) Ls st) : W l R C E h k n pc Ls (.int x :: st) := by
  by_cases q : P
  · exact k_ifT pc' H hd hp (hT q) (h1 q)
  · exact k_ifF H hd (hF q) (h2 q)
theorem k_icmpR {cd : ClassFile.Cond} {o : Int} {x y : Int32} {P : Prop} [Decidable P] (pc' : Nat) (H : Cx C Z own code ml ret nm E.1) (hd : decode code pc = .ok (.if_icmp cd o, 3)) (hp : (pc : Int) + o = (pc' : Int)) (hT : ¬ P → if_icmp.holds cd x y = true) (hF : P → if_icmp.holds cd x y = false)
    (h1 : ¬ P → W l R C E h k n pc' Ls st) (h2 : P → W l R C E h k n (pc + 3) Ls st) : W l R C E h k n pc Ls (.int y :: .int x :: st) := by
  by_cases q : P
  · exact k_icmpF H hd (hF q) (h2 q)
  · exact k_icmpT pc' H hd hp (hT q) (h1 q)
theorem k_iff0R {cd : ClassFile.Cond} {o : Int} {x : Int32} {P : Prop} [Decidable P] (pc' : Nat) (H : Cx C Z own code ml ret nm E.1) (hd : decode code pc = .ok (.ifCond cd o, 3)) (hp : (pc : Int) + o = (pc' : Int)) (hT : ¬ P → ifCond.holds cd x = true) (hF : P → ifCond.holds cd x = false)
    (h1 : ¬ P → W l R C E h k n pc' Ls st) (h2 : P → W l R C E h k n (pc + 3) Ls st) : W l R C E h k n pc Ls (.int x :: st) := by
  by_cases q : P
  · exact k_ifF H hd (hF q) (h2 q)
  · exact k_ifT pc' H hd hp (hT q) (h1 q)
theorem k_acmp {cd : ClassFile.ACond} {o : Int} {x y : Value} {P : Prop} [Decidable P] (pc' : Nat) (H : Cx C Z own code ml ret nm E.1) (hd : decode code pc = .ok (.if_acmp cd o, 3)) (hp : (pc : Int) + o = (pc' : Int)) (hx : x.isRef = true) (hy : y.isRef = true) (hT : P → XT.acmp cd x y = true) (hF : ¬ P → XT.acmp cd x y = false)
    (h1 : P → W l R C E h k n pc' Ls st) (h2 : ¬ P → W l R C E h k n (pc + 3) Ls st) : W l R C E h k n pc Ls (y :: x :: st) := by
  by_cases q : P
  · exact k_acmpT pc' H hd hp hx hy (hT q) (h1 q)
  · exact k_acmpF H hd hx hy (hF q) (h2 q)
/-! heap steps -/
/-- an array: its kind and all that it holds -/
def Vec (Z : State) (h : Heap) (a : Addr) (ty : FieldType) (vs : List Value) : Prop := ∃ c : Cell, Arr Z h a c ty ∧ c.slots = vs.toArray ∧ vs.length < 2 ^ 31
abbrev IA (Z : State) (h : Heap) (a : Addr) (xs : List Int32) : Prop := Vec Z h a .int (xs.map Value.int)
abbrev JA (Z : State) (h : Heap) (a : Addr) (xs : List Int64) : Prop := Vec Z h a .long (xs.map Value.long)
abbrev BA (Z : State) (h : Heap) (a : Addr) (xs : List Int8) : Prop := Vec Z h a .byte (xs.map fun b => Value.int b.toInt32)
abbrev CA (Z : State) (h : Heap) (a : Addr) (xs : List UInt16) : Prop := Vec Z h a .char (xs.map fun b => Value.int b.toUInt32.toInt32)
theorem Vec.lt {a : Addr} {ty : FieldType} {vs : List Value} (F : Vec Z h a ty vs) : a < h.size := by obtain ⟨c, A, -⟩ := F; exact A.lt
theorem Vec.ext {a : Addr} {ty : FieldType} {vs : List Value} (F : Vec Z h a ty vs) (X : Ext h h') : Vec Z h' a ty vs := by obtain ⟨c, A, r⟩ := F; exact ⟨c, A.ext X, r⟩
theorem Vec.keep {a : Addr} {ty : FieldType} {vs : List Value} {ws : List Addr} (F : Vec Z h a ty vs) (K : Keep h h' ws) (q : a ∉ ws) : Vec Z h' a ty vs := by obtain ⟨c, A, r⟩ := F; exact ⟨c, ⟨K.2.1 a c A.1 q, A.2⟩, r⟩
theorem Vec.other {a b : Addr} {ty : FieldType} {vs : List Value} {sl : Nat} {v : Value} (F : Vec Z h b ty vs) (X : Wr h h' a sl v) (q : b ≠ a) : Vec Z h' b ty vs := by obtain ⟨c, A, r⟩ := F; exact ⟨c, A.other X q, r⟩
theorem Vec.set {a : Addr} {ty : FieldType} {vs : List Value} {sl : Nat} {v : Value} (F : Vec Z h a ty vs) (X : Wr h h' a sl v) : Vec Z h' a ty (vs.set sl v) := by
  obtain ⟨c, A, e, r⟩ := F
  refine ⟨_, A.same X, ?_, by simpa using r⟩
  simp [Cell.setSlot, e]
theorem Vec.ne {a b : Addr} {ty ty' : FieldType} {vs vs' : List Value} (F : Vec Z h a ty vs) (G : Vec Z h b ty' vs') (q : ty ≠ ty') : a ≠ b := fun e => by
  subst e
  obtain ⟨c, A, -⟩ := F
  obtain ⟨c', A', -⟩ := G
  cases A.1.symm.trans A'.1
  obtain ⟨-, k, h1, comp, h2⟩ := A.2.1
  obtain ⟨-, k', h1', comp', h2'⟩ := A'.2.1
  cases h1.symm.trans h1'
  rw [h2] at h2'; cases h2'; exact q rfl
theorem Vec.neX {a b : Addr} {ty : FieldType} {vs : List Value} {cls : String} {kk : Nat} (G : Vec Z h b ty vs) (F : Exa Z h a cls) (wi : (Cond.instantiable cls kk).before a0 Z = true) : a ≠ b := by obtain ⟨c, A, -⟩ := G; exact ne_arr F wi A
theorem Keep.ofExt (X : Ext h h') : Keep h h' [] := (Keep.refl h []).ext X
theorem idx_ok {j : Int32} {i : Nat} (hj : j.toInt = (i : Int)) : ¬ j < 0 ∧ j.toNatClampNeg = i := by
  have e0 : (0 : Int32).toInt = 0 := rfl
  constructor
  · rw [Int32.lt_iff_toInt_lt]; omega
  · simp only [Int32.toNatClampNeg, hj]; rfl
theorem len_ok {c : Cell} {vs : List Value} (e : c.slots = vs.toArray) (hl : vs.length < 2 ^ 31) : c.slots.size.toInt32.toInt = (vs.length : Int) := by
  rw [e]; exact len_toInt hl
section Arrs
variable {a : Addr} {j : Int32} {i : Nat} {v : Value} {vs : List Value}
theorem in_ok {c : Cell} (e : c.slots = vs.toArray) (hj : j.toInt = (i : Int)) (hv : vs[i]? = some v) : ¬ (j < 0 ∨ c.slots.size ≤ j.toNatClampNeg) ∧ c.slots[j.toNatClampNeg]? = some v := by
  obtain ⟨q1, q2⟩ := idx_ok hj
  rw [q2, e]
  have hlt : i < vs.length := (List.getElem?_eq_some_iff.mp hv).1
  exact ⟨fun z => z.elim q1 (fun z => absurd hlt (Nat.not_lt.mpr (by simpa using z))), by simpa using hv⟩
theorem k_arraylength {ty : FieldType} {N : Int32} (H : Cx C Z own code ml ret nm E.1) (A : Vec Z h a ty vs) (hN : N.toInt = (vs.length : Int)) (hd : decode code pc = .ok (.arraylength, 1)) (hr : W l R C E h k n (pc + 1) Ls (.int N :: st)) : W l R C E h k n pc Ls (.ref a :: st) := by
  obtain ⟨c, A, e, hl⟩ := A
  have q : c.slots.size.toInt32 = N := Int32.toInt_inj.mp ((len_ok e hl).trans hN.symm)
  subst q
  exact .via (fun T t L X eT r => X.arraylength H.1 (by rw [eT]; exact A.1) (State.isArrayOf_alike H.2.2.2.2.1.alike A.2.1) (g := mkF C.2.2.2.1 pc Ls (.ref a :: st)) rfl rfl (hb H.2.1 hd) _ r) hr
theorem k_iaload (H : Cx C Z own code ml ret nm E.1) (A : Vec Z h a .int vs) (hj : j.toInt = (i : Int)) (hv : vs[i]? = some v) (hd : decode code pc = .ok (.iaload, 1)) (hr : W l R C E h k n (pc + 1) Ls (v :: st)) : W l R C E h k n pc Ls (.int j :: .ref a :: st) := by
  obtain ⟨c, A, e, hl⟩ := A
  obtain ⟨q1, q2⟩ := in_ok e hj hv
  exact .via (fun T t L X eT r => X.iaload H.1 (by rw [eT]; exact A.1) (State.isArrayOf_alike H.2.2.2.2.1.alike A.2.1) A.2.2 q1 q2 (g := mkF C.2.2.2.1 pc Ls (.int j :: .ref a :: st)) rfl rfl (hb H.2.1 hd) _ r) hr
theorem k_laload (H : Cx C Z own code ml ret nm E.1) (A : Vec Z h a .long vs) (hj : j.toInt = (i : Int)) (hv : vs[i]? = some v) (hd : decode code pc = .ok (.laload, 1)) (hr : W l R C E h k n (pc + 1) Ls (v :: st)) : W l R C E h k n pc Ls (.int j :: .ref a :: st) := by
  obtain ⟨c, A, e, hl⟩ := A
  obtain ⟨q1, q2⟩ := in_ok e hj hv
  exact .via (fun T t L X eT r => X.laload H.1 (by rw [eT]; exact A.1) (State.isArrayOf_alike H.2.2.2.2.1.alike A.2.1) A.2.2 q1 q2 (g := mkF C.2.2.2.1 pc Ls (.int j :: .ref a :: st)) rfl rfl (hb H.2.1 hd) _ r) hr
theorem k_caload (H : Cx C Z own code ml ret nm E.1) (A : Vec Z h a .char vs) (hj : j.toInt = (i : Int)) (hv : vs[i]? = some v) (hd : decode code pc = .ok (.caload, 1)) (hr : W l R C E h k n (pc + 1) Ls (v :: st)) : W l R C E h k n pc Ls (.int j :: .ref a :: st) := by
  obtain ⟨c, A, e, hl⟩ := A
  obtain ⟨q1, q2⟩ := in_ok e hj hv
  exact .via (fun T t L X eT r => X.caload H.1 (by rw [eT]; exact A.1) (State.isArrayOf_alike H.2.2.2.2.1.alike A.2.1) A.2.2 q1 q2 (g := mkF C.2.2.2.1 pc Ls (.int j :: .ref a :: st)) rfl rfl (hb H.2.1 hd) _ r) hr
theorem k_baload (H : Cx C Z own code ml ret nm E.1) (A : Vec Z h a .byte vs) (hj : j.toInt = (i : Int)) (hv : vs[i]? = some v) (hd : decode code pc = .ok (.baload, 1)) (hr : W l R C E h k n (pc + 1) Ls (v :: st)) : W l R C E h k n pc Ls (.int j :: .ref a :: st) := by
  obtain ⟨c, A, e, hl⟩ := A
  obtain ⟨q1, q2⟩ := in_ok e hj hv
  exact .via (fun T t L X eT r => X.baloadBytes H.1 (by rw [eT]; exact A.1) (State.isArrayOf_alike H.2.2.2.2.1.alike A.2.1) A.2.2 q1 q2 (g := mkF C.2.2.2.1 pc Ls (.int j :: .ref a :: st)) rfl rfl (hb H.2.1 hd) _ r) hr
theorem out_ok {c : Cell} (e : c.slots = vs.toArray) (hj : j.toInt = (i : Int)) (hi : i < vs.length) : ¬ (j < 0 ∨ c.slots.size ≤ j.toNatClampNeg) := by
  obtain ⟨q1, q2⟩ := idx_ok hj
  rw [q2, e]
  exact fun z => z.elim q1 (fun z => absurd hi (Nat.not_lt.mpr (by simpa using z)))
theorem Goes.step {T T' : State} {g g' : JFrame} (q : ∀ t, Sp C (T'.setTop g') t → Sp C (T.setTop g) t) (r : Goes C E (T'.setTop g')) : Goes C E (T.setTop g) := by
  obtain ⟨t, o, h1, h2⟩ := r; exact ⟨t, o, q t h1, h2⟩
theorem k_iastore {x : Int32} (H : Cx C Z own code ml ret nm E.1) (A : Vec Z h a .int vs) (hj : j.toInt = (i : Int)) (hi : i < vs.length) (ge : E.1 ≤ a) (hd : decode code pc = .ok (.iastore, 1))
    (hr : ∀ h', Keep h h' [a] → Vec Z h' a .int (vs.set i (.int x)) → W l R C E h' k n (pc + 1) Ls st) : W l R C E h k n pc Ls (.int x :: .int j :: .ref a :: st) := fun T L X N eT => by
  have A' := A
  obtain ⟨c, A, e, hl⟩ := A
  obtain ⟨T', h', X', e', Wx, q⟩ := stI X H.1 H.2.2.2.2.1 eT A (out_ok e hj hi) (g := mkF C.2.2.2.1 pc Ls (.int x :: .int j :: .ref a :: st)) rfl rfl (hb H.2.1 hd)
  refine .step q (hr h' (Keep.of_wr Wx) ?_ T' _ X' (Fr.snoc X' N ge) e')
  rw [(idx_ok hj).2] at Wx; exact A'.set Wx
theorem k_lastore {x : Int64} (H : Cx C Z own code ml ret nm E.1) (A : Vec Z h a .long vs) (hj : j.toInt = (i : Int)) (hi : i < vs.length) (ge : E.1 ≤ a) (hd : decode code pc = .ok (.lastore, 1))
    (hr : ∀ h', Keep h h' [a] → Vec Z h' a .long (vs.set i (.long x)) → W l R C E h' k n (pc + 1) Ls st) : W l R C E h k n pc Ls (.long x :: .int j :: .ref a :: st) := fun T L X N eT => by
  have A' := A
  obtain ⟨c, A, e, hl⟩ := A
  obtain ⟨T', h', X', e', Wx, q⟩ := stJ X H.1 H.2.2.2.2.1 eT A (out_ok e hj hi) (g := mkF C.2.2.2.1 pc Ls (.long x :: .int j :: .ref a :: st)) rfl rfl (hb H.2.1 hd)
  refine .step q (hr h' (Keep.of_wr Wx) ?_ T' _ X' (Fr.snoc X' N ge) e')
  rw [(idx_ok hj).2] at Wx; exact A'.set Wx
theorem k_bastore {x : Int32} (H : Cx C Z own code ml ret nm E.1) (A : Vec Z h a .byte vs) (hj : j.toInt = (i : Int)) (hi : i < vs.length) (ge : E.1 ≤ a) (hd : decode code pc = .ok (.bastore, 1))
    (hr : ∀ h', Keep h h' [a] → Vec Z h' a .byte (vs.set i (.int x.toInt8.toInt32)) → W l R C E h' k n (pc + 1) Ls st) : W l R C E h k n pc Ls (.int x :: .int j :: .ref a :: st) := fun T L X N eT => by
  have A' := A
  obtain ⟨c, A, e, hl⟩ := A
  obtain ⟨T', h', X', e', Wx, q⟩ := stB X H.1 H.2.2.2.2.1 eT A (out_ok e hj hi) (g := mkF C.2.2.2.1 pc Ls (.int x :: .int j :: .ref a :: st)) rfl rfl (hb H.2.1 hd)
  refine .step q (hr h' (Keep.of_wr Wx) ?_ T' _ X' (Fr.snoc X' N ge) e')
  rw [(idx_ok hj).2] at Wx; exact A'.set Wx
theorem k_castore {x : Int32} (H : Cx C Z own code ml ret nm E.1) (A : Vec Z h a .char vs) (hj : j.toInt = (i : Int)) (hi : i < vs.length) (ge : E.1 ≤ a) (hd : decode code pc = .ok (.castore, 1))
    (hr : ∀ h', Keep h h' [a] → Vec Z h' a .char (vs.set i (.int x.toUInt32.toUInt16.toUInt32.toInt32)) → W l R C E h' k n (pc + 1) Ls st) : W l R C E h k n pc Ls (.int x :: .int j :: .ref a :: st) := fun T L X N eT => by
  have A' := A
  obtain ⟨c, A, e, hl⟩ := A
  obtain ⟨T', h', X', e', Wx, q⟩ := stC X H.1 H.2.2.2.2.1 eT A (out_ok e hj hi) (g := mkF C.2.2.2.1 pc Ls (.int x :: .int j :: .ref a :: st)) rfl rfl (hb H.2.1 hd)
  refine .step q (hr h' (Keep.of_wr Wx) ?_ T' _ X' (Fr.snoc X' N ge) e')
  rw [(idx_ok hj).2] at Wx; exact A'.set Wx
end Arrs
/-- newarray of a plain kind, at most cap long -/
theorem k_newarray {aty : ArrayType} {ty : FieldType} {len : Int32} (m cap : Nat) (H : Cx C Z own code ml ret nm E.1) (w : (Cond.arrayClass ty).before a0 Z = true) (hty : newarray.typeOf aty = ty) (hd : decode code pc = .ok (.newarray aty, 2)) (hm : len.toInt = (m : Int)) (hcap : m ≤ cap) (hB : cap * 8 ≤ 536870912) (hC : k + 1 ≤ R.cells) (hS : n + cap ≤ R.slots)
    (hr : ∀ h' a, a = h.size → E.1 ≤ a → Ext h h' → Exa Z h' a ("[" ++ ty.toString) → Vec Z h' a ty (List.replicate m (defaultValue ty)) → W l R C E h' (k + 1) (n + cap) (pc + 2) Ls (.ref a :: st)) : W l R C E h k n pc Ls (.int len :: st) := fun T L X N eT => by
  subst hty
  obtain ⟨q1, q2⟩ := idx_ok hm
  obtain ⟨T', h', cA, X', e', Ex, A, XA, q⟩ := newPE X H.1 H.2.2.2.2.1 w eT (g := mkF C.2.2.2.1 pc Ls (.int len :: st)) rfl (hb H.2.1 hd) rfl q1 (cap := cap) (by rw [q2]; exact hcap) hB hC hS rfl
  have hlt : m < 2 ^ 31 := by have := len.toInt_lt; omega
  refine .step q (hr h' h.size rfl (by rw [← eT]; exact size_ge H X) Ex XA ⟨_, A, ?_, by simpa using hlt⟩ T' _ X' N e')
  simp [newA, q2]
theorem k_newObj {idx ns : Nat} {cls : String} (H : Cx C Z own code ml ret nm E.1) (w : (Cond.classLink own idx cls).before a0 Z = true) (wi : (Cond.instantiable cls ns).before a0 Z = true) (wz : (Cond.initialized cls).before a0 Z = true) (hd : decode code pc = .ok (.new idx, 3)) (hC : k + 1 ≤ R.cells) (hS : n + ns ≤ R.slots)
    (hr : ∀ h' a, a = h.size → E.1 ≤ a → Ext h h' → Exa Z h' a cls → (∀ {O nf d : String} {ty : FieldType}, Laid Z a0 cls O nf d → parseFieldDescriptor d = some ty → Fld Z h' a O nf d (defaultValue ty)) → W l R C E h' (k + 1) (n + ns) (pc + 3) Ls (.ref a :: st)) : W l R C E h k n pc Ls st := fun T L X N eT => by
  obtain ⟨T', h', X', e', Ex, A, D, -, q⟩ := newO X H.1 H.2.2.2.2.1 H.2.2.2.1 w wi wz eT (g := mkF C.2.2.2.1 pc Ls st) rfl (hb H.2.1 hd) hC hS
  exact .step q (hr h' h.size rfl (by rw [← eT]; exact size_ge H X) Ex A D T' _ X' N e')
theorem k_initObj {idx w : Nat} {a : Addr} (H : Cx C Z own code ml ret nm E.1) (w1 : (Cond.methodLink own idx Lib.objectInit).before a0 Z = true) (w2 : (Cond.instanceMethod Lib.objectInit).before a0 Z = true) (w3 : (Cond.code Lib.objectInit ⟨#[0xb1]⟩ 1 none).before a0 Z = true) (hd : decode code pc = .ok (.invokespecial idx, 3)) (hsz : Ls.size = ml) (hF : 1 ≤ R.frames)
    (hw : (st.map fun v => v.category).sum = w) (hL : w + 12 ≤ R.locals) (hr : W l R C E h k n (pc + 3) Ls st) : W l R C E h k n pc Ls (.ref a :: st) :=
  .viaT (fun T L X eT => initO X H.1 H.2.2.2.2.1 H.2.2.2.1 w1 w2 w3 eT (g := mkF C.2.2.2.1 pc Ls (.ref a :: st)) rfl (by show Ls.size = _; rw [H.2.2.1]; exact hsz) rfl (hb H.2.1 hd) hF (W := w) (by show 2 * 0 + _ ≤ _; rw [hw]; omega) hL) hr
theorem k_getfield {idx : Nat} {O nf d : String} {a : Addr} {v : Value} (H : Cx C Z own code ml ret nm E.1) (w : (Cond.fieldLink own idx O nf d).before a0 Z = true) (F : Fld Z h a O nf d v) (hd : decode code pc = .ok (.getfield idx, 3)) (hr : W l R C E h k n (pc + 3) Ls (v :: st)) : W l R C E h k n pc Ls (.ref a :: st) :=
  .viaT (fun T L X eT => getF X H.1 H.2.2.2.2.1 H.2.2.2.1 (host := "") (Or.inl w) Via.refl eT F (g := mkF C.2.2.2.1 pc Ls (.ref a :: st)) rfl rfl (hb H.2.1 hd)) hr
theorem k_putfield {idx kk : Nat} {O nf d cls : String} {a : Addr} {v old : Value} (ty : FieldType) (H : Cx C Z own code ml ret nm E.1) (w : (Cond.fieldLink own idx O nf d).before a0 Z = true) (F : Fld Z h a O nf d old) (X0 : Exa Z h a cls) (La : (Cond.lays cls O nf d).before a0 Z = true ∨ ((Cond.laysFinal cls O nf d).before a0 Z = true ∧ own = O ∧ nm = "<init>"))
    (wi : (Cond.instantiable cls kk).before a0 Z = true) (hty : parseFieldDescriptor d = some ty) (hn : narrow ty v = v) (hf : fits ty v = true) (ge : E.1 ≤ a) (hd : decode code pc = .ok (.putfield idx, 3))
    (hr : ∀ h', Wr h h' a (Jvm.RoadKit.slotOf Z O nf d) v → Fld Z h' a O nf d v → W l R C E h' k n (pc + 3) Ls st) : W l R C E h k n pc Ls (v :: .ref a :: st) := fun T L X N eT => by
  obtain ⟨T', h', X', e', Wx, q⟩ := putF X H.1 H.2.2.2.2.1 H.2.2.2.1 (host := "") (Or.inl w) Via.refl eT F X0 (La.imp id fun z => ⟨z.1, z.2.1, H.2.2.2.2.2.2.2.1.trans z.2.2⟩) wi hty hn hf (g := mkF C.2.2.2.1 pc Ls (v :: .ref a :: st)) rfl rfl (hb H.2.1 hd)
  exact .step q (hr h' Wx (F.same Wx) T' _ X' (Fr.snoc X' N ge) e')
/-! arrays by the kind of what they hold -/
section Typed
variable {a : Addr} {j : Int32} {i : Nat}
theorem map_at {α : Type} {f : α → Value} {xs : List α} {x : α} (hv : xs[i]? = some x) : (xs.map f)[i]? = some (f x) := by rw [List.getElem?_map, hv]; rfl
theorem k_ialoadT {xs : List Int32} {x : Int32} (H : Cx C Z own code ml ret nm E.1) (A : IA Z h a xs) (hj : j.toInt = (i : Int)) (hv : xs[i]? = some x) (hd : decode code pc = .ok (.iaload, 1)) (hr : W l R C E h k n (pc + 1) Ls ((.int x) :: st)) : W l R C E h k n pc Ls (.int j :: .ref a :: st) := k_iaload H A hj (map_at hv) hd hr
theorem k_iastoreT {xs : List Int32} {x : Int32} (H : Cx C Z own code ml ret nm E.1) (A : IA Z h a xs) (hj : j.toInt = (i : Int)) (hi : i < xs.length) (ge : E.1 ≤ a) (hd : decode code pc = .ok (.iastore, 1))
    (hr : ∀ h', Keep h h' [a] → IA Z h' a (xs.set i x) → W l R C E h' k n (pc + 1) Ls st) : W l R C E h k n pc Ls ((.int x) :: .int j :: .ref a :: st) := k_iastore H A hj (by simpa using hi) ge hd (fun h' K V => hr h' K (by rw [IA, List.map_set]; exact V))
theorem k_new_int {len : Int32} (m cap : Nat) (H : Cx C Z own code ml ret nm E.1) (w : (Cond.arrayClass .int).before a0 Z = true) (hd : decode code pc = .ok (.newarray .int, 2)) (hm : len.toInt = (m : Int)) (hcap : m ≤ cap) (hB : cap * 8 ≤ 536870912) (hC : k + 1 ≤ R.cells) (hS : n + cap ≤ R.slots)
    (hr : ∀ h' a, a = h.size → E.1 ≤ a → Ext h h' → Exa Z h' a "[I" → IA Z h' a (List.replicate m 0) → W l R C E h' (k + 1) (n + cap) (pc + 2) Ls (.ref a :: st)) : W l R C E h k n pc Ls (.int len :: st) := k_newarray m cap H w rfl hd hm hcap hB hC hS (fun h' a e g X XA V => hr h' a e g X XA (by rw [IA, List.map_replicate]; exact V))
theorem k_laloadT {xs : List Int64} {x : Int64} (H : Cx C Z own code ml ret nm E.1) (A : JA Z h a xs) (hj : j.toInt = (i : Int)) (hv : xs[i]? = some x) (hd : decode code pc = .ok (.laload, 1)) (hr : W l R C E h k n (pc + 1) Ls ((.long x) :: st)) : W l R C E h k n pc Ls (.int j :: .ref a :: st) := k_laload H A hj (map_at hv) hd hr
theorem k_lastoreT {xs : List Int64} {x : Int64} (H : Cx C Z own code ml ret nm E.1) (A : JA Z h a xs) (hj : j.toInt = (i : Int)) (hi : i < xs.length) (ge : E.1 ≤ a) (hd : decode code pc = .ok (.lastore, 1))
    (hr : ∀ h', Keep h h' [a] → JA Z h' a (xs.set i x) → W l R C E h' k n (pc + 1) Ls st) : W l R C E h k n pc Ls ((.long x) :: .int j :: .ref a :: st) := k_lastore H A hj (by simpa using hi) ge hd (fun h' K V => hr h' K (by rw [JA, List.map_set]; exact V))
theorem k_new_long {len : Int32} (m cap : Nat) (H : Cx C Z own code ml ret nm E.1) (w : (Cond.arrayClass .long).before a0 Z = true) (hd : decode code pc = .ok (.newarray .long, 2)) (hm : len.toInt = (m : Int)) (hcap : m ≤ cap) (hB : cap * 8 ≤ 536870912) (hC : k + 1 ≤ R.cells) (hS : n + cap ≤ R.slots)
    (hr : ∀ h' a, a = h.size → E.1 ≤ a → Ext h h' → Exa Z h' a "[J" → JA Z h' a (List.replicate m 0) → W l R C E h' (k + 1) (n + cap) (pc + 2) Ls (.ref a :: st)) : W l R C E h k n pc Ls (.int len :: st) := k_newarray m cap H w rfl hd hm hcap hB hC hS (fun h' a e g X XA V => hr h' a e g X XA (by rw [JA, List.map_replicate]; exact V))
theorem k_baloadT {xs : List Int8} {x : Int8} (H : Cx C Z own code ml ret nm E.1) (A : BA Z h a xs) (hj : j.toInt = (i : Int)) (hv : xs[i]? = some x) (hd : decode code pc = .ok (.baload, 1)) (hr : W l R C E h k n (pc + 1) Ls ((.int x.toInt32) :: st)) : W l R C E h k n pc Ls (.int j :: .ref a :: st) := k_baload H A hj (map_at hv) hd hr
theorem k_bastoreT {xs : List Int8} {x : Int32} (H : Cx C Z own code ml ret nm E.1) (A : BA Z h a xs) (hj : j.toInt = (i : Int)) (hi : i < xs.length) (ge : E.1 ≤ a) (hd : decode code pc = .ok (.bastore, 1))
    (hr : ∀ h', Keep h h' [a] → BA Z h' a (xs.set i x.toInt8) → W l R C E h' k n (pc + 1) Ls st) : W l R C E h k n pc Ls ((.int x) :: .int j :: .ref a :: st) := k_bastore H A hj (by simpa using hi) ge hd (fun h' K V => hr h' K (by rw [BA, List.map_set]; exact V))
theorem k_new_byte {len : Int32} (m cap : Nat) (H : Cx C Z own code ml ret nm E.1) (w : (Cond.arrayClass .byte).before a0 Z = true) (hd : decode code pc = .ok (.newarray .byte, 2)) (hm : len.toInt = (m : Int)) (hcap : m ≤ cap) (hB : cap * 8 ≤ 536870912) (hC : k + 1 ≤ R.cells) (hS : n + cap ≤ R.slots)
    (hr : ∀ h' a, a = h.size → E.1 ≤ a → Ext h h' → Exa Z h' a "[B" → BA Z h' a (List.replicate m 0) → W l R C E h' (k + 1) (n + cap) (pc + 2) Ls (.ref a :: st)) : W l R C E h k n pc Ls (.int len :: st) := k_newarray m cap H w rfl hd hm hcap hB hC hS (fun h' a e g X XA V => hr h' a e g X XA (by rw [BA, List.map_replicate]; exact V))
theorem k_caloadT {xs : List UInt16} {x : UInt16} (H : Cx C Z own code ml ret nm E.1) (A : CA Z h a xs) (hj : j.toInt = (i : Int)) (hv : xs[i]? = some x) (hd : decode code pc = .ok (.caload, 1)) (hr : W l R C E h k n (pc + 1) Ls ((.int x.toUInt32.toInt32) :: st)) : W l R C E h k n pc Ls (.int j :: .ref a :: st) := k_caload H A hj (map_at hv) hd hr
theorem k_castoreT {xs : List UInt16} {x : Int32} (H : Cx C Z own code ml ret nm E.1) (A : CA Z h a xs) (hj : j.toInt = (i : Int)) (hi : i < xs.length) (ge : E.1 ≤ a) (hd : decode code pc = .ok (.castore, 1))
    (hr : ∀ h', Keep h h' [a] → CA Z h' a (xs.set i x.toUInt32.toUInt16) → W l R C E h' k n (pc + 1) Ls st) : W l R C E h k n pc Ls ((.int x) :: .int j :: .ref a :: st) := k_castore H A hj (by simpa using hi) ge hd (fun h' K V => hr h' K (by rw [CA, List.map_set]; exact V))
theorem k_new_char {len : Int32} (m cap : Nat) (H : Cx C Z own code ml ret nm E.1) (w : (Cond.arrayClass .char).before a0 Z = true) (hd : decode code pc = .ok (.newarray .char, 2)) (hm : len.toInt = (m : Int)) (hcap : m ≤ cap) (hB : cap * 8 ≤ 536870912) (hC : k + 1 ≤ R.cells) (hS : n + cap ≤ R.slots)
    (hr : ∀ h' a, a = h.size → E.1 ≤ a → Ext h h' → Exa Z h' a "[C" → CA Z h' a (List.replicate m 0) → W l R C E h' (k + 1) (n + cap) (pc + 2) Ls (.ref a :: st)) : W l R C E h k n pc Ls (.int len :: st) := k_newarray m cap H w rfl hd hm hcap hB hC hS (fun h' a e g X XA V => hr h' a e g X XA (by rw [CA, List.map_replicate]; exact V))
theorem fits_of {ty : FieldType} {vs : List Value} {c : Cell} (A : Arr Z h a c ty) (e : c.slots = vs.toArray) (hf : ∀ v ∈ vs, fits ty v = true) : FitC Z c := fitC_of A fun i hi v hv => hf v (by rw [e] at hv; simp at hv; exact List.mem_of_getElem? hv)
theorem k_clone {idx w cap : Nat} {ty : FieldType} {ad : String} {vs : List Value} (H : Cx C Z own code ml ret nm E.1)
    (w1 : (Cond.methodLink own idx ⟨ad, "clone", "()Ljava/lang/Object;"⟩).before a0 Z = true) (w2 : (Cond.sameMethod ad "java/lang/Object" "clone" "()Ljava/lang/Object;").before a0 Z = true) (w3 : (Cond.native ⟨"java/lang/Object", "clone", "()Ljava/lang/Object;"⟩).before a0 Z = true)
    (w4 : (Cond.instanceMethod ⟨"java/lang/Object", "clone", "()Ljava/lang/Object;"⟩).before a0 Z = true) (w5 : (Cond.selects ad ⟨ad, "clone", "()Ljava/lang/Object;"⟩ ⟨"java/lang/Object", "clone", "()Ljava/lang/Object;"⟩).before a0 Z = true) (w6 : (Cond.castable ad "java/lang/Cloneable").before a0 Z = true)
    (V : Vec Z h a ty vs) (hf : ∀ v ∈ vs, fits ty v = true) (X0 : Exa Z h a ad) (hd : decode code pc = .ok (.invokevirtual idx, 3)) (hsz : Ls.size = ml) (hF : 1 ≤ R.frames) (hw : (st.map fun v => v.category).sum = w) (hL : w + 14 ≤ R.locals) (hcap : vs.length ≤ cap) (hC : k + 1 ≤ R.cells) (hS : n + cap ≤ R.slots)
    (hr : ∀ h' b, b = h.size → E.1 ≤ b → Ext h h' → Exa Z h' b ad → Vec Z h' b ty vs → W l R C E h' (k + 1) (n + cap) (pc + 3) Ls (.ref b :: st)) : W l R C E h k n pc Ls (.ref a :: st) := fun T L X N eT => by
  obtain ⟨c, A, e, hl⟩ := V
  obtain ⟨T', h', X', e', Ex, A', XA, q⟩ := cloneA X H.1 H.2.2.2.2.1 H.2.2.2.1 w1 w2 w3 w4 w5 w6 eT A X0 (fits_of A e hf) (g := mkF C.2.2.2.1 pc Ls (.ref a :: st)) rfl (by show Ls.size = _; rw [H.2.2.1]; exact hsz) rfl (hb H.2.1 hd) hF (W := w) (cap := cap) (by show 2 * 0 + _ ≤ _; rw [hw]; omega) hL (by rw [e]; simpa using hcap) hC hS
  exact .step q (hr h' h.size rfl (by rw [← eT]; exact size_ge H X) Ex XA ⟨_, A', e, hl⟩ T' _ X' N e')
theorem k_castY {idx : Nat} {K ad : String} (H : Cx C Z own code ml ret nm E.1) (w : (Cond.classLink own idx K).before a0 Z = true) (wc : (Cond.castable ad K).before a0 Z = true) (X0 : Exa Z h a ad) (hd : decode code pc = .ok (.checkcast idx, 3)) (hr : W l R C E h k n (pc + 3) Ls (.ref a :: st)) : W l R C E h k n pc Ls (.ref a :: st) :=
  .viaT (fun T L X eT => castY X H.1 H.2.2.2.2.1 H.2.2.2.1 w eT (Ins.of_exa X0 wc) (g := mkF C.2.2.2.1 pc Ls (.ref a :: st)) rfl rfl (hb H.2.1 hd)) hr
end Typed
/-! calls -/
section Calls
variable {y : MethodName} {bytes : ByteArray} {maxL : Nat} {rt : Option FieldType} {rm : Room} {Q : Option Value → Heap → Prop} {S : List Value}
theorem Goes.trans {T T' : State} {g g' : JFrame} (q : Sp C (T.setTop g) (T'.setTop g')) (r : Goes C E (T'.setTop g')) : Goes C E (T.setTop g) := by
  obtain ⟨t, o, h1, h2⟩ := r; exact ⟨t, o, q.trans h1, h2⟩
theorem payOf {s : State} {p : Program} {e : Env} {below : List Frame} {args : Array Value} {w n0 : Nat} {as' : Array Value} (hc : Ctr l Z y bytes maxL rt rm n0 as' h Q) (hZ : Z.Warmed39 s.vm) (w4 : (Cond.code y bytes maxL rt).before a0 Z = true) (w3 : (Cond.initialized y.cls).before a0 Z = true) (hF : rm.frames + 1 ≤ R.frames) (hL : w + (maxL + 11) + rm.locals ≤ R.locals) :
    Back l R p e below s args y 3 w (fun A a => a = as' ∧ A.U.heap = h ∧ A.cells + rm.cells ≤ R.cells ∧ A.slots + rm.slots ≤ R.slots)
      (fun A _ v B => ∃ L, (Q v B.U.heap ∧ Fr n0 L) ∧ B.locs = A.locs ++ L ∧ B.cells = A.cells + rm.cells ∧ B.slots = A.slots + rm.slots) :=
  backOf (Q := fun v h L => Q v h ∧ Fr n0 L) hc hZ w4 w3 hF hL
theorem k_invS {idx : Nat} (argsL : List Value) (w : Nat) (H : Cx C Z own code ml ret nm E.1) (w1 : (Cond.methodLink own idx y).before a0 Z = true) (w2 : (Cond.static y).before a0 Z = true) (w3 : (Cond.initialized y.cls).before a0 Z = true) (w4 : (Cond.code y bytes maxL rt).before a0 Z = true)
    (hy : y.cls ≠ "java/lang/invoke/MethodHandle" ∧ y.cls ≠ "java/lang/invoke/VarHandle") (hc : E.1 ≤ h.size → Ctr l Z y bytes maxL rt rm E.1 argsL.toArray h Q) (hlen : ∀ sig, parseMethodDescriptor y.desc = some sig → argsL.length = sig.parameters.length)
    (hd : decode code pc = .ok (.invokestatic idx, 3)) (hS : S = argsL.reverse ++ st) (hsz : Ls.size = ml) (hw : (st.map fun v => v.category).sum = w) (hF : rm.frames + 1 ≤ R.frames) (hL : w + (maxL + 11) + rm.locals ≤ R.locals) (hk : k + rm.cells ≤ R.cells) (hn : n + rm.slots ≤ R.slots)
    (hr : ∀ v h', Q v h' → W l R C E h' (k + rm.cells) (n + rm.slots) (pc + 3) Ls (v.toList ++ st)) : W l R C E h k n pc Ls S := fun T L X N eT => by
  obtain ⟨v, _, ⟨T', L', k', n'⟩, -, X', ⟨Lc, ⟨hQ, hN⟩, l', y', z'⟩, q⟩ := Jvm.LawKit.callS X H.1 (y := y) H.2.2.2.1 (mvT H.2.2.2.2.1 w1) (mvT H.2.2.2.2.1 w2) (mvT H.2.2.2.2.1 w3) (mvT H.2.2.2.2.1 w4) hy (payOf (w := w) (hc (by rw [← eT]; exact size_ge H X)) H.2.2.2.2.1 w4 w3 hF hL)
    (g := mkF C.2.2.2.1 pc Ls S) rfl (by show Ls.size = _; rw [H.2.2.1]; exact hsz) (argsL := argsL) (rest := st) hlen hS (by show 2 * 0 + _ ≤ _; rw [hw]; omega) (hb H.2.1 hd) (fun _ _ => ⟨rfl, eT, hk, hn⟩)
  dsimp only [Pt.U, Pt.locs, Pt.cells, Pt.slots] at X' l' y' z' q hQ
  subst l' y' z'
  exact .step q (hr v _ hQ T' _ X' (N.app hN) rfl)
theorem k_invI {idx : Nat} {a : Addr} (argsL : List Value) (w : Nat) (H : Cx C Z own code ml ret nm E.1) (hy1 : y.name = "<init>") (w1 : (Cond.methodLink own idx y).before a0 Z = true) (w2 : (Cond.instanceMethod y).before a0 Z = true) (w3 : (Cond.initialized y.cls).before a0 Z = true) (w4 : (Cond.code y bytes maxL none).before a0 Z = true)
    (hy : y.cls ≠ "java/lang/invoke/MethodHandle" ∧ y.cls ≠ "java/lang/invoke/VarHandle") (hc : E.1 ≤ h.size → Ctr l Z y bytes maxL none rm E.1 (.ref a :: argsL).toArray h Q) (hlen : ∀ sig, parseMethodDescriptor y.desc = some sig → argsL.length = sig.parameters.length)
    (hd : decode code pc = .ok (.invokespecial idx, 3)) (hS : S = argsL.reverse ++ .ref a :: st) (hsz : Ls.size = ml) (hw : (st.map fun v => v.category).sum = w) (hF : rm.frames + 1 ≤ R.frames) (hL : w + (maxL + 11) + rm.locals ≤ R.locals) (hk : k + rm.cells ≤ R.cells) (hn : n + rm.slots ≤ R.slots)
    (hr : ∀ v h', Q v h' → W l R C E h' (k + rm.cells) (n + rm.slots) (pc + 3) Ls (v.toList ++ st)) : W l R C E h k n pc Ls S := fun T L X N eT => by
  obtain ⟨v, _, ⟨T', L', k', n'⟩, -, X', ⟨Lc, ⟨hQ, hN⟩, l', y', z'⟩, q⟩ := X.specialBack H.1 (y := y) hy1 H.2.2.2.1 (mvT H.2.2.2.2.1 w1) (mvT H.2.2.2.2.1 w2) (mvT H.2.2.2.2.1 w4) hy (payOf (w := w) (hc (by rw [← eT]; exact size_ge H X)) H.2.2.2.2.1 w4 w3 hF hL)
    (g := mkF C.2.2.2.1 pc Ls S) rfl (by show Ls.size = _; rw [H.2.2.1]; exact hsz) (Steps.refl _) (a := a) (argsL := argsL) (rest := st) hlen hS (by show 2 * 0 + _ ≤ _; rw [hw]; omega) (hb H.2.1 hd) (fun _ _ => ⟨rfl, eT, hk, hn⟩)
  dsimp only [Pt.U, Pt.locs, Pt.cells, Pt.slots] at X' l' y' z' q hQ
  subst l' y' z'
  exact .trans q (hr v _ hQ T' _ X' (N.app hN) rfl)
theorem k_invV {idx : Nat} {a : Addr} {cls : String} (argsL : List Value) (w : Nat) (H : Cx C Z own code ml ret nm E.1) (w1 : (Cond.methodLink own idx y).before a0 Z = true) (w2 : (Cond.declares y).before a0 Z = true) (w5 : (Cond.selects cls y y).before a0 Z = true) (w6 : (Cond.instanceMethod y).before a0 Z = true) (w3 : (Cond.initialized y.cls).before a0 Z = true) (w4 : (Cond.code y bytes maxL rt).before a0 Z = true)
    (hcl : y.cls = cls) (hy : y.cls ≠ "java/lang/invoke/MethodHandle" ∧ y.cls ≠ "java/lang/invoke/VarHandle") (X0 : Exa Z h a cls) (hc : E.1 ≤ h.size → Ctr l Z y bytes maxL rt rm E.1 (.ref a :: argsL).toArray h Q) (hlen : ∀ sig, parseMethodDescriptor y.desc = some sig → argsL.length = sig.parameters.length)
    (hd : decode code pc = .ok (.invokevirtual idx, 3)) (hS : S = argsL.reverse ++ .ref a :: st) (hsz : Ls.size = ml) (hw : (st.map fun v => v.category).sum = w) (hF : rm.frames + 1 ≤ R.frames) (hL : w + (maxL + 11) + rm.locals ≤ R.locals) (hk : k + rm.cells ≤ R.cells) (hn : n + rm.slots ≤ R.slots)
    (hr : ∀ v h', Q v h' → W l R C E h' (k + rm.cells) (n + rm.slots) (pc + 3) Ls (v.toList ++ st)) : W l R C E h k n pc Ls S := fun T L X N eT => by
  subst hcl
  obtain ⟨cq, kq, qa, qb, qc⟩ := isOf H.2.2.2.2.1 eT X0
  obtain ⟨v, _, ⟨T', L', k', n'⟩, -, X', ⟨Lc, ⟨hQ, hN⟩, l', y', z'⟩, q⟩ := X.virtualBack H.1 (y := y) (z := y) H.2.2.2.1 (mvT H.2.2.2.2.1 w1) (mvT H.2.2.2.2.1 w2) (notFace_of_selects (args := #[]) (mvT H.2.2.2.2.1 w5)) (mvT H.2.2.2.2.1 w5) (mvT H.2.2.2.2.1 w6) hy (payOf (w := w) (hc (by rw [← eT]; exact size_ge H X)) H.2.2.2.2.1 w4 w3 hF hL) qa qc
    (g := mkF C.2.2.2.1 pc Ls S) rfl (by show Ls.size = _; rw [H.2.2.1]; exact hsz) (Steps.refl _) (argsL := argsL) (rest := st) hlen hS (by show 2 * 0 + _ ≤ _; rw [hw]; omega) (hb H.2.1 hd) (fun _ _ => ⟨rfl, eT, hk, hn⟩)
  dsimp only [Pt.U, Pt.locs, Pt.cells, Pt.slots] at X' l' y' z' q hQ
  subst l' y' z'
  exact .trans q (hr v _ hQ T' _ X' (N.app hN) rfl)
theorem Ctr.of {n0 : Nat} {as' : Array Value} (Ls : Array Slot) (hp : plainFor y = true) (hn0 : n0 ≤ h.size) (hef : ∀ m, entryFrame m as' maxL = mkF m 0 Ls []) (hW : ∀ C : Cxt, Cx C Z y.cls bytes maxL rt y.name n0 → W l rm C (n0, rm.cells, rm.slots, Q) h 0 0 0 Ls []) : Ctr l Z y bytes maxL rt rm n0 as' h Q := by
  refine MetFree.of_bodySF hp hisR ?_
  intro p e s m args below meth c s₁ Bd hml0 hP hK
  obtain ⟨rfl, hZ, hh⟩ := hP
  have hnm := (name_of_methodNamed Bd.named Bd.method).1
  have X0 : Stand p l e rm s m args below meth c s₁ [] 0 0 := Stand.of_body Bd
  have e0 : s₁.heap = h := by rw [← hh, Bd.state]; rfl
  obtain ⟨t, o, h1, h2, h3, v, L, h4, h5, h6⟩ := hW (p, e, s, m, args, below, meth, c) ⟨Bd.exec, Bd.bytes, hml0, findClass_of_methodNamed Bd.named, hZ, Bd.returns, Bd.notSynchronized, hnm, by rw [hh]; exact hn0⟩ s₁ [] X0 (Fr.nil n0) e0
  exact ⟨t, o, castTop (hef m) h1, h2, h3, v, L, h4, h5, h6⟩
/-- the judged body itself -/
theorem met_of {n0 K N : Nat} {ws : List Jvm.Cond} {as' : Array Value} (Ls : Array Slot) (hp : plainFor y = true) (hn0 : n0 ≤ h.size) (hef : ∀ m, entryFrame m as' maxL = mkF m 0 Ls []) (hW : ∀ C : Cxt, Cx C Z y.cls bytes maxL rt y.name n0 → W l rm C (n0, K, N, Q) h 0 0 0 Ls []) :
    MetFree l y (head1 (Cond.code y bytes maxL rt :: ws) rm) (fun a U => a = as' ∧ Z.Warmed39 U.vm ∧ U.heap = h) (fun _ _ _ _ _ => True) (fun _ U o U' => ∃ v L, o = .returned v ∧ (Q v U'.heap ∧ Fr n0 L) ∧ FrameEnd U o U' L K N) := by
  refine MetFree.of_bodySF hp hisR ?_
  intro p e s m args below meth c s₁ Bd hml0 hP hK
  obtain ⟨rfl, hZ, hh⟩ := hP
  have hnm := (name_of_methodNamed Bd.named Bd.method).1
  have X0 : Stand p l e rm s m args below meth c s₁ [] 0 0 := Stand.of_body Bd
  have e0 : s₁.heap = h := by rw [← hh, Bd.state]; rfl
  obtain ⟨t, o, h1, h2, h3, v, L, h4, h5, h6⟩ := hW (p, e, s, m, args, below, meth, c) ⟨Bd.exec, Bd.bytes, hml0, findClass_of_methodNamed Bd.named, hZ, Bd.returns, Bd.notSynchronized, hnm, by rw [hh]; exact hn0⟩ s₁ [] X0 (Fr.nil n0) e0
  exact ⟨t, o, castTop (hef m) h1, h2, h3, v, L, h4, h5, h6⟩
end Calls
/-! ends -/
theorem k_retInt {x : Int32} (H : Cx C Z own code ml (some .int) nm E.1) (hd : decode code pc = .ok (.ireturn, 1)) (hk : k ≤ E.2.1) (hn : n ≤ E.2.2.1) (hq : E.2.2.2 (some (.int x)) h) : W l R C E h k n pc Ls (.int x :: st) := fun T L X N eT => by
  obtain ⟨fs, hr, hrun, hend, hW, hs⟩ := X.leave (v := some (.int x)) (fun z => by rw [H.2.2.2.2.2.1] at z; cases z) H.2.2.2.2.2.2.1
  exact ⟨_, _, retOut X H.1 H.2.2.2.2.2.1 rfl (Or.inl ⟨rfl, Or.inl rfl, _, rfl⟩) (hb H.2.1 hd) hr, hrun, hend, _, L, rfl, ⟨by subst eT; exact hq, N⟩, ⟨_, rfl⟩, hW, hs.mono hk hn⟩
theorem k_retN' {x : Int32} {t : FieldType} (ht : t = .boolean ∨ t = .byte ∨ t = .char ∨ t = .short) (H : Cx C Z own code ml (some t) nm E.1) (hd : decode code pc = .ok (.ireturn, 1)) (hk : k ≤ E.2.1) (hn : n ≤ E.2.2.1) (hq : E.2.2.2 (some (.int (nar t x))) h) : W l R C E h k n pc Ls (.int x :: st) := fun T L X N eT => by
  obtain ⟨fs, hr, hrun, hend, hW, hs⟩ := X.leave (v := some (.int (nar t x))) (fun z => by rw [H.2.2.2.2.2.1] at z; cases z) H.2.2.2.2.2.2.1
  exact ⟨_, _, retN X H.1 H.2.2.2.2.2.1 ht (hb H.2.1 hd) hr, hrun, hend, _, L, rfl, ⟨by subst eT; exact hq, N⟩, ⟨_, rfl⟩, hW, hs.mono hk hn⟩
theorem k_retLong {x : Int64} (H : Cx C Z own code ml (some .long) nm E.1) (hd : decode code pc = .ok (.lreturn, 1)) (hk : k ≤ E.2.1) (hn : n ≤ E.2.2.1) (hq : E.2.2.2 (some (.long x)) h) : W l R C E h k n pc Ls (.long x :: st) := fun T L X N eT => by
  obtain ⟨fs, hr, hrun, hend, hW, hs⟩ := X.leave (v := some (.long x)) (fun z => by rw [H.2.2.2.2.2.1] at z; cases z) H.2.2.2.2.2.2.1
  exact ⟨_, _, retOut X H.1 H.2.2.2.2.2.1 rfl (Or.inr (Or.inl ⟨rfl, rfl, _, rfl⟩)) (hb H.2.1 hd) hr, hrun, hend, _, L, rfl, ⟨by subst eT; exact hq, N⟩, ⟨_, rfl⟩, hW, hs.mono hk hn⟩
theorem k_retRef {a : Addr} {t : FieldType} (ht : t.isReference = true) (hnar : narrow t (.ref a) = .ref a) (H : Cx C Z own code ml (some t) nm E.1) (hd : decode code pc = .ok (.areturn, 1)) (hk : k ≤ E.2.1) (hn : n ≤ E.2.2.1) (hq : E.2.2.2 (some (.ref a)) h) : W l R C E h k n pc Ls (.ref a :: st) := fun T L X N eT => by
  obtain ⟨fs, hr, hrun, hend, hW, hs⟩ := X.leave (v := some (.ref a)) (fun z => by rw [H.2.2.2.2.2.1] at z; cases z) H.2.2.2.2.2.2.1
  exact ⟨_, _, retOut X H.1 H.2.2.2.2.2.1 hnar (Or.inr (Or.inr (Or.inr (Or.inr ⟨rfl, ht, rfl⟩)))) (hb H.2.1 hd) hr, hrun, hend, _, L, rfl, ⟨by subst eT; exact hq, N⟩, ⟨_, rfl⟩, hW, hs.mono hk hn⟩
theorem k_retVoid (H : Cx C Z own code ml none nm E.1) (hd : decode code pc = .ok (.return_, 1)) (hk : k ≤ E.2.1) (hn : n ≤ E.2.2.1) (hq : E.2.2.2 none h) : W l R C E h k n pc Ls [] := fun T L X N eT => by
  obtain ⟨fs, hr, hrun, hend, hW, hs⟩ := X.leave (v := none) (fun _ => rfl) H.2.2.2.2.2.2.1
  exact ⟨_, _, X.returnOut H.1 H.2.2.2.2.2.1 (hb H.2.1 hd) hr, hrun, hend, _, L, rfl, ⟨by subst eT; exact hq, N⟩, ⟨_, rfl⟩, hW, hs.mono hk hn⟩
end Own
end Jvm.OwnKit
namespace Jvm.OwnKit
/-! small naturals as ints -/
theorem lt_nat {x y : Int32} {i j : Nat} (hx : x.toInt = (i : Int)) (hy : y.toInt = (j : Int)) : x < y ↔ i < j := by rw [Int32.lt_iff_toInt_lt, hx, hy]; omega
theorem eq_nat {x y : Int32} {i j : Nat} (hx : x.toInt = (i : Int)) (hy : y.toInt = (j : Int)) : x = y ↔ i = j := by rw [← Int32.toInt_inj, hx, hy]; omega
theorem add_nat {x y : Int32} {i j : Nat} (hx : x.toInt = (i : Int)) (hy : y.toInt = (j : Int)) (hb : i + j < 2147483648) : (x + y).toInt = ((i + j : Nat) : Int) := by rw [Jvm.Kit.i32_add] <;> rw [hx, hy] <;> omega
theorem sub_nat {x y : Int32} {i j : Nat} (hx : x.toInt = (i : Int)) (hy : y.toInt = (j : Int)) (hb : j ≤ i) : (x - y).toInt = ((i - j : Nat) : Int) := by have := x.toInt_lt; rw [Jvm.Kit.i32_sub] <;> rw [hx, hy] <;> omega
theorem mul_nat {x y : Int32} {i j : Nat} (hx : x.toInt = (i : Int)) (hy : y.toInt = (j : Int)) (hb : i * j < 2147483648) : (x * y).toInt = ((i * j : Nat) : Int) := by
  have e : (i : Int) * (j : Int) = ((i * j : Nat) : Int) := by simp
  rw [Jvm.Kit.i32_mul] <;> rw [hx, hy, e] <;> omega
theorem rem_nat {x y : Int32} {i j : Nat} (hx : x.toInt = (i : Int)) (hy : y.toInt = (j : Int)) : (x % y).toInt = ((i % j : Nat) : Int) := by rw [Jvm.Kit.i32_rem_nonneg (by omega), hx, hy]; simp
theorem nat_of_nonneg {x : Int32} (h : 0 ≤ x.toInt) : ∃ i : Nat, x.toInt = (i : Int) ∧ i < 2147483648 := ⟨x.toInt.toNat, by omega, by have := x.toInt_lt; omega⟩
/-- a mask of k ones: a natural below 2 ^ k -/
theorem mask_nat (x m : Int32) (k : Nat) (hk : k < 32) (hm : m.toBitVec.toNat = 2 ^ k - 1) : ∃ i : Nat, (x &&& m).toInt = (i : Int) ∧ i < 2 ^ k := by
  have e := Jvm.Kit.i32_mask x m hk hm
  have p : (0 : Int) < 2 ^ k := Int.pow_pos (by omega)
  have h1 := Int.emod_nonneg x.toInt (Int.ne_of_gt p)
  have h2 := Int.emod_lt_of_pos x.toInt p
  refine ⟨(x.toInt % 2 ^ k).toNat, by rw [e]; omega, ?_⟩
  have h3 : ((2 ^ k : Nat) : Int) = 2 ^ k := by simp
  omega
theorem mod_nat (x m y : Int32) (k j : Nat) (hk : k < 32) (hm : m.toBitVec.toNat = 2 ^ k - 1) (hy : y.toInt = (j : Int)) (hj : 0 < j) : ∃ i : Nat, ((x &&& m) % y).toInt = (i : Int) ∧ i < j := by
  obtain ⟨i, h1, h2⟩ := mask_nat x m k hk hm
  exact ⟨i % j, rem_nat h1 hy, Nat.mod_lt _ hj⟩
theorem div_nat {x y : Int32} {i j : Nat} (hx : x.toInt = (i : Int)) (hy : y.toInt = (j : Int)) : (x / y).toInt = ((i / j : Nat) : Int) := by
  rw [Jvm.Kit.i32_div (by omega), hx, hy]; rfl
theorem ushr_nat {x y : Int32} {i : Nat} (k : Nat) (hx : x.toInt = (i : Int)) (hy : (y &&& 31).toUInt32.toNat = k) (hk : k < 32) : (Jvm.Free.XT.ushr x y).toInt = ((i / 2 ^ k : Nat) : Int) := by
  unfold Jvm.Free.XT.ushr
  rw [Jvm.Kit.i32_iushr (by rw [Int32.le_iff_toInt_le, hx]; exact Int.natCast_nonneg _) hy hk, hx]; simp
theorem c16 (c : UInt16) : c.toUInt32.toInt32.toUInt32.toUInt16 = c := by simp
theorem b8 (b : Int8) : b.toInt32.toInt8 = b := by simp
/-- a local's slot of one word -/
def OneW (s : Slot) : Prop := s = .unset ∨ ∃ w, s = .val w ∧ w.category = 1
theorem OneW.unset : OneW .unset := Or.inl rfl
theorem OneW.int (x : Int32) : OneW (.val (.int x)) := Or.inr ⟨_, rfl, rfl⟩
theorem OneW.ref (x : Addr) : OneW (.val (.ref x)) := Or.inr ⟨_, rfl, rfl⟩
end Jvm.OwnKit
namespace Jvm.OwnKit
open Sem ClassFile Op Lib Jvm.Stand Jvm.Free Jvm.LawKit Jvm.RoadKit
section Own2
variable {l : Launch} {R : Room} {C : Cxt} {E : En} {h h' : Heap} {k n pc : Nat} {Ls : Array Slot} {st : List Value} {Z : State} {own nm : String} {code : ByteArray} {ml : Nat} {ret : Option FieldType} {a0 : Array Value}
variable {y : MethodName} {bytes : ByteArray} {maxL : Nat} {rt : Option FieldType} {rm : Room} {Q : Option Value → Heap → Prop} {S : List Value}
/-- invokevirtual of a private method of the class -/
theorem k_invP {idx kk : Nat} {a : Addr} {cls : String} (argsL : List Value) (w : Nat) (H : Cx C Z own code ml ret nm E.1) (w1 : (Cond.methodLink own idx y).before a0 Z = true) (wp : (Cond.privateMethod y).before a0 Z = true) (w6 : (Cond.instanceMethod y).before a0 Z = true) (w3 : (Cond.initialized y.cls).before a0 Z = true) (w4 : (Cond.code y bytes maxL rt).before a0 Z = true) (wi : (Cond.instantiable cls kk).before a0 Z = true)
    (hcl : y.cls = cls) (hy : y.cls ≠ "java/lang/invoke/MethodHandle" ∧ y.cls ≠ "java/lang/invoke/VarHandle") (X0 : Exa Z h a cls) (hc : E.1 ≤ h.size → Ctr l Z y bytes maxL rt rm E.1 (.ref a :: argsL).toArray h Q) (hlen : ∀ sig, parseMethodDescriptor y.desc = some sig → argsL.length = sig.parameters.length)
    (hd : decode code pc = .ok (.invokevirtual idx, 3)) (hS : S = argsL.reverse ++ .ref a :: st) (hsz : Ls.size = ml) (hw : (st.map fun v => v.category).sum = w) (hF : rm.frames + 1 ≤ R.frames) (hL : w + (maxL + 11) + rm.locals ≤ R.locals) (hk : k + rm.cells ≤ R.cells) (hn : n + rm.slots ≤ R.slots)
    (hr : ∀ v h', Q v h' → W l R C E h' (k + rm.cells) (n + rm.slots) (pc + 3) Ls (v.toList ++ st)) : W l R C E h k n pc Ls S := fun T L X N eT => by
  subst hcl
  obtain ⟨cq, q1, q2⟩ := X0.cell
  have hP := Cond.privateMethod_at (mvP H.2.2.2.2.1 wp (args := #[]))
  obtain ⟨ci, ki, i1, i2, -, i4, -⟩ := Cond.instantiable_spec (mv H.2.2.2.2.1 wi (args := #[]))
  have hni : ki.isInterface = false := (Bool.or_eq_false_iff.mp i4).1
  have hsel : (Cond.selects y.cls y y).before C.2.2.2.2.1 C.2.2.1 = true := selects_self_of_private i1 i2 hni hP (mvT H.2.2.2.2.1 w6) hy
  obtain ⟨v, _, ⟨T', L', k', n'⟩, -, X', ⟨Lc, ⟨hQ, hN⟩, l', y', z'⟩, q⟩ := X.privateBack H.1 (y := y) H.2.2.2.1 (mvT H.2.2.2.2.1 w1) (mvT H.2.2.2.2.1 w6) hsel hP (mvT H.2.2.2.2.1 w4) hy (payOf (w := w) (hc (by rw [← eT]; exact size_ge H X)) H.2.2.2.2.1 w4 w3 hF hL)
    (g := mkF C.2.2.2.1 pc Ls S) rfl (by show Ls.size = _; rw [H.2.2.1]; exact hsz) (Steps.refl _) (a := a) (by rw [eT]; exact q1) q2 (argsL := argsL) (rest := st) hlen hS (by show 2 * 0 + _ ≤ _; rw [hw]; omega) (hb H.2.1 hd) (fun _ _ => ⟨rfl, eT, hk, hn⟩)
  dsimp only [Pt.U, Pt.locs, Pt.cells, Pt.slots] at X' l' y' z' q hQ
  subst l' y' z'
  exact .trans q (hr v _ hQ T' _ X' (N.app hN) rfl)
/-! System.arraycopy of an int[], both from place 0 -/
theorem arv_of {a : Addr} {xs : List Int32} (V : IA Z h a xs) : ∃ kc, Arv Z h a kc .int xs.length.toInt32 (xs.map .int) (.int 0) ∧ xs.length.toInt32.toNatClampNeg = xs.length ∧ ¬ xs.length.toInt32 < 0 := by
  obtain ⟨c, A, e, hl⟩ := V
  rw [List.length_map] at hl
  have q := idx_ok (len_toInt hl)
  refine ⟨c.cls, ⟨c, A, rfl, by rw [q.2, e]; simp, q.1, fun i hi => ?_, fun i hi => ?_⟩, q.2, q.1⟩
  · rw [e] at hi ⊢
    have hi' : i < xs.length := by simpa using hi
    simp [hi']
  · rw [e] at hi
    have hi' : i < xs.length := by simpa using hi
    simp [hi', fits]
theorem of_arv {b : Addr} {kc : ClassId} {z : Int32} {zs : List Int32} {d : Value} (V : Arv Z h b kc .int z (zs.map .int) d) (hz : z.toNatClampNeg = zs.length) (hl : zs.length < 2 ^ 31) : IA Z h b zs := by
  obtain ⟨c, A, -, s, -, H, -⟩ := V
  refine ⟨c, A, ?_, by simpa using hl⟩
  apply Array.ext_getElem?
  intro i
  by_cases hi : i < c.slots.size
  · rw [H i hi]
    have hi' : i < zs.length := by rw [s, hz] at hi; exact hi
    simp [hi']
  · rw [Array.getElem?_eq_none (by omega)]
    have hi' : ¬ i < zs.length := by rw [s, hz] at hi; exact hi
    simp [hi']
theorem k_copyI {idx w m : Nat} {a b : Addr} {xs ys : List Int32} {nn : Int32} (H : Cx C Z own code ml ret nm E.1) (w1 : (Cond.methodLink own idx Jvm.Stand.acN).before a0 Z = true) (w2 : (Cond.native Jvm.Stand.acN).before a0 Z = true) (w3 : (Cond.static Jvm.Stand.acN).before a0 Z = true) (w4 : (Cond.initialized "java/lang/System").before a0 Z = true)
    (A : IA Z h a xs) (B : IA Z h b ys) (hm : nn.toInt = (m : Int)) (h1 : m ≤ xs.length) (h2 : m ≤ ys.length) (ge : E.1 ≤ b) (hd : decode code pc = .ok (.invokestatic idx, 3)) (hsz : Ls.size = ml) (hF : 1 ≤ R.frames) (hw : (st.map fun v => v.category).sum = w) (hL : w + 18 ≤ R.locals)
    (hr : ∀ h', Keep h h' [b] → IA Z h' b (xs.take m ++ ys.drop m) → W l R C E h' k n (pc + 3) Ls st) : W l R C E h k n pc Ls (.int nn :: .int (0 : Int32) :: .ref b :: .int (0 : Int32) :: .ref a :: st) := fun T L X N eT => by
  have hly : ys.length < 2 ^ 31 := by obtain ⟨_, _, _, z⟩ := B; simpa using z
  obtain ⟨ka, VA, a1, a2⟩ := arv_of A
  obtain ⟨kb, VB, b1, b2⟩ := arv_of B
  obtain ⟨q1, q2⟩ := idx_ok hm
  obtain ⟨T', h', L', X', e', N', K, V, q⟩ := cpA X H.1 H.2.2.2.2.1 H.2.2.2.1 w1 w2 w3 w4 eT VA VB (Or.inl ⟨rfl, rfl⟩) (sp := 0) (dp := 0) (nn := nn) (by decide) (by decide) q1 (by rw [q2, a1]; show 0 + m ≤ _; omega) (by rw [q2, b1]; show 0 + m ≤ _; omega) (us := _) rfl (by rw [q2, List.length_map]; show 0 + m ≤ _; omega) N ge
    (g := mkF C.2.2.2.1 pc Ls (.int nn :: .int (0 : Int32) :: .ref b :: .int (0 : Int32) :: .ref a :: st)) rfl (by show Ls.size = _; rw [H.2.2.1]; exact hsz) rfl (hb H.2.1 hd) hF (W := w) (by show 2 * 0 + _ ≤ _; rw [hw]; omega) hL
  refine .step q (hr h' K ?_ T' _ X' N' e')
  have e : ((ys.map Value.int).take (0 : Int32).toNatClampNeg ++ ((List.range nn.toNatClampNeg).map fun i => (xs.map Value.int).getD ((0 : Int32).toNatClampNeg + i) (.int 0)) ++ (ys.map Value.int).drop ((0 : Int32).toNatClampNeg + nn.toNatClampNeg)) = (xs.take m ++ ys.drop m).map Value.int := by
    have z0 : (0 : Int32).toNatClampNeg = 0 := rfl
    rw [z0, q2, List.map_append]
    simp only [List.take_zero, List.nil_append, Nat.zero_add, List.map_drop]
    congr 1
    apply List.ext_getElem?
    intro i
    by_cases hi : i < m
    · have : i < xs.length := by omega
      simp [hi, this]
    · rw [List.getElem?_eq_none (by simp; omega), List.getElem?_eq_none (by simp; omega)]
  rw [e] at V
  exact of_arv V (by rw [b1, List.length_append, List.length_take, List.length_drop]; omega) (by rw [List.length_append, List.length_take, List.length_drop]; omega)
end Own2
end Jvm.OwnKit
namespace Jvm.Pilot.@@N@@
open Jvm Jvm.ClassFile Sem Op Lib Jvm.Free Jvm.Stand Jvm.LawKit Jvm.RoadKit Jvm.OwnKit Bundle Jvm.Pilot.@@N@@.Jvm.D
theorem pf_1 : plainFor (⟨"java/lang/Math", "min", "(II)I"⟩ : MethodName) = true := by decide +kernel
theorem pf_6 : plainFor (⟨"java/util/Arrays", "copyOf", "([II)[I"⟩ : MethodName) = true := by decide +kernel
theorem pd_0 : parseMethodDescriptor "(II)I" = some ⟨[.int, .int], some .int⟩ := by decide +kernel
theorem pn_2 : plainName "com/example/hesabu/hesabu/billing/HeldLicences" = true := by first | (simp [plainName, overriddenIn]; done) | decide +kernel
theorem pd_1 : parseMethodDescriptor "([II)[I" = some ⟨[(.array .int), .int], some (.array .int)⟩ := by decide +kernel
theorem pn_3 : plainName "com/example/hesabu/hesabu/billing/HeldLicencesLastPinLaw" = true := by first | (simp [plainName, overriddenIn]; done) | decide +kernel
theorem pd_2 : parseMethodDescriptor "()V" = some ⟨[], none⟩ := by decide +kernel
theorem pd_3 : parseMethodDescriptor "()I" = some ⟨[], some .int⟩ := by decide +kernel
theorem pd_4 : parseMethodDescriptor "(II)V" = some ⟨[.int, .int], none⟩ := by decide +kernel
def own_H (Z : State) (h : Heap) (n0 hA : Nat) (es : List (Int32 × Int32)) (cap : Nat) : Prop := ∃ (a b : Addr) (c : Int32) (xs ys : List Int32),
  n0 ≤ a ∧ n0 ≤ b ∧ hA < a ∧ hA < b ∧ a ≠ b ∧ Exa Z h hA "com/example/hesabu/hesabu/billing/HeldLicences" ∧ Fld Z h hA "com/example/hesabu/hesabu/billing/HeldLicences" "days" "[I" (.ref a) ∧ Fld Z h hA "com/example/hesabu/hesabu/billing/HeldLicences" "quantities" "[I" (.ref b) ∧ Fld Z h hA "com/example/hesabu/hesabu/billing/HeldLicences" "count" "I" (.int c) ∧ IA Z h a xs ∧ IA Z h b ys ∧
  c.toInt = (es.length : Int) ∧ xs.length = cap ∧ ys.length = cap ∧ es.length ≤ cap ∧ (∀ i, i < es.length → xs[i]? = (es.map Prod.fst)[i]?) ∧ (∀ i, i < es.length → ys[i]? = (es.map Prod.snd)[i]?)
def own_set (es : List (Int32 × Int32)) (d q : Int32) : List (Int32 × Int32) := match es.getLast? with
  | some e => if e.1 = d then es.dropLast ++ [(d, q)] else es ++ [(d, q)]
  | none => [(d, q)]
theorem own_set_nil (d q : Int32) : own_set [] d q = [(d, q)] := rfl
theorem own_set_eq (fs : List (Int32 × Int32)) (d q q' : Int32) : own_set (fs ++ [(d, q')]) d q = fs ++ [(d, q)] := by simp [own_set]
theorem own_set_ne (fs : List (Int32 × Int32)) {d d' q q' : Int32} (h : ¬ d' = d) : own_set (fs ++ [(d', q')]) d q = fs ++ [(d', q')] ++ [(d, q)] := by simp [own_set, h]
theorem own_set_len (es : List (Int32 × Int32)) (d q : Int32) : (own_set es d q).length ≤ es.length + 1 ∧ 1 ≤ (own_set es d q).length := by
  rcases List.eq_nil_or_concat es with rfl | ⟨fs, ⟨d', q'⟩, rfl⟩
  · simp [own_set_nil]
  · rw [List.concat_eq_append]
    by_cases e : d' = d
    · subst e; rw [own_set_eq]; simp
    · rw [own_set_ne fs e]; simp
theorem own_set_last (es : List (Int32 × Int32)) (d q : Int32) : ∃ fs, own_set es d q = fs ++ [(d, q)] := by
  rcases List.eq_nil_or_concat es with rfl | ⟨fs, ⟨d', q'⟩, rfl⟩
  · exact ⟨[], rfl⟩
  · rw [List.concat_eq_append]
    by_cases e : d' = d
    · subst e; exact ⟨fs, own_set_eq fs d' q q'⟩
    · exact ⟨_, own_set_ne fs e⟩
theorem own_pre_set {xs ds : List Int32} {d : Int32} (hp : ∀ i, i < ds.length → xs[i]? = ds[i]?) (hl : ds.length < xs.length) : ∀ i, i < (ds ++ [d]).length → (xs.set ds.length d)[i]? = (ds ++ [d])[i]? := by
  intro i hi
  by_cases e : i = ds.length
  · subst e; simp [hl]
  · have : i < ds.length := by simp at hi; omega
    rw [List.getElem?_set_ne (fun z => e z.symm), hp i this, List.getElem?_append_left this]
theorem own_pre_rep {xs ds : List Int32} {q q' : Int32} (hp : ∀ i, i < (ds ++ [q']).length → xs[i]? = (ds ++ [q'])[i]?) (hl : ds.length < xs.length) : ∀ i, i < (ds ++ [q]).length → (xs.set ds.length q)[i]? = (ds ++ [q])[i]? := by
  intro i hi
  by_cases e : i = ds.length
  · subst e; simp [hl]
  · have : i < ds.length := by simp at hi; omega
    rw [List.getElem?_set_ne (fun z => e z.symm), hp i (by simp; omega), List.getElem?_append_left this, List.getElem?_append_left this]
theorem own_srt {es fs0 : List (Int32 × Int32)} {D Q D' : Int32} (h : es = fs0 ++ [(D, Q)]) (hd : ¬ D' < D) : ∀ fs d' q', es = fs ++ [(d', q')] → ¬ D' < d' := by
  intro fs d' q' e
  have h1 := congrArg List.getLast? (h.symm.trans e)
  simp at h1
  rw [← h1.1]; exact hd
theorem own_inc {D b E : Int32} {m : Nat} {B : Int} (he : D + b = E) (hb : b.toInt = (m : Int)) (hD : D.toInt ≤ B) (hB : B + (m : Int) ≤ 2147483647) : ¬ E < D ∧ E.toInt ≤ B + m ∧ D.toInt ≤ E.toInt := by
  have h0 := D.le_toInt
  have h1 : E.toInt = D.toInt + m := by
    rw [← he, Jvm.Kit.i32_add] <;> rw [hb]
    · have : (-2 : Int) ^ 31 = -2147483648 := by decide
      omega
    · have : (2 : Int) ^ 31 = 2147483648 := by decide
      omega
  rw [Int32.lt_iff_toInt_lt]
  omega
theorem own_nlt {a b n : Int32} {i j : Nat} (h : ¬ a < n) (ha : a.toInt = (i : Int)) (hb : b.toInt = (j : Int)) (hij : i ≤ j) : ¬ b < n := by
  rw [Int32.lt_iff_toInt_lt] at h ⊢; omega
theorem own_min {x m y : Int32} {B : Int} (h : (if m < x then m else x) = y) (hm : m.toInt = B) : y.toInt ≤ B := by
  rw [← h]
  by_cases c : m < x
  · rw [if_pos c]; omega
  · rw [if_neg c]; rw [Int32.lt_iff_toInt_lt] at c; omega
theorem d1_0 : decode jdk_29_method_69_code 0 = .ok (.iload_n 0, 1) := by decide +kernel
theorem d1_1 : decode jdk_29_method_69_code 1 = .ok (.iload_n 1, 1) := by decide +kernel
theorem d1_2 : decode jdk_29_method_69_code 2 = .ok (.if_icmp .gt 7, 3) := by decide +kernel
theorem d1_5 : decode jdk_29_method_69_code 5 = .ok (.iload_n 0, 1) := by decide +kernel
theorem d1_6 : decode jdk_29_method_69_code 6 = .ok (.goto 4, 3) := by decide +kernel
theorem d1_9 : decode jdk_29_method_69_code 9 = .ok (.iload_n 1, 1) := by decide +kernel
theorem d1_10 : decode jdk_29_method_69_code 10 = .ok (.ireturn, 1) := by decide +kernel
abbrev own_rm1_room : Room := { frames := 0, cells := 0, slots := 0, locals := 0 }
set_option maxRecDepth 65536 in
set_option maxHeartbeats 40000000 in
theorem rm1 (l : Launch) (Z : State) (a0 : Array Value) (hw : ∀ d ∈ tables_1, d.before a0 Z = true) (n0 : Nat) (h0 : Heap) (Z0 : n0 ≤ h0.size) (x y : Int32)  :
    Ctr l Z (⟨"java/lang/Math", "min", "(II)I"⟩ : MethodName) jdk_29_method_69_code 2 (some .int) own_rm1_room n0 #[(.int x), (.int y)] h0 (fun v h => v = some (.int (if y < x then y else x)) ∧ h = h0) := by
  refine Ctr.of #[.val (.int x), .val (.int y)] pf_1 Z0 (fun m => by first | (simp [entryFrame, mkF, argsToLocals, Value.category]; done) | rfl) ?_
  intro C H
  refine k_iloadN (pc := 0) H d1_0 rfl ?_
  refine k_iloadN (pc := 1) H d1_1 rfl ?_
  refine k_icmp (P := y < x) 9 (pc := 2) H d1_2 rfl XT.ii_gt_t XT.ii_gt_f (fun c2 => ?_) (fun c2 => ?_)
  · refine k_iloadN (pc := 9) H d1_9 rfl ?_
    exact k_retInt (pc := 10) H d1_10 (by show 0 ≤ own_rm1_room.cells; decide) (by show 0 ≤ own_rm1_room.slots; decide) (⟨by simp only [*, if_true, if_false], rfl⟩)
  · refine k_iloadN (pc := 5) H d1_5 rfl ?_
    refine k_goto 10 (pc := 6) H d1_6 rfl ?_
    exact k_retInt (pc := 10) H d1_10 (by show 0 ≤ own_rm1_room.cells; decide) (by show 0 ≤ own_rm1_room.slots; decide) (⟨by simp only [*, if_true, if_false], rfl⟩)
theorem d6_0 : decode jdk_65_method_123_code 0 = .ok (.iload_n 1, 1) := by decide +kernel
theorem d6_1 : decode jdk_65_method_123_code 1 = .ok (.aload_n 0, 1) := by decide +kernel
theorem d6_2 : decode jdk_65_method_123_code 2 = .ok (.arraylength, 1) := by decide +kernel
theorem d6_3 : decode jdk_65_method_123_code 3 = .ok (.if_icmp .ne 11, 3) := by decide +kernel
theorem d6_6 : decode jdk_65_method_123_code 6 = .ok (.aload_n 0, 1) := by decide +kernel
theorem d6_7 : decode jdk_65_method_123_code 7 = .ok (.invokevirtual 316, 3) := by decide +kernel
theorem d6_10 : decode jdk_65_method_123_code 10 = .ok (.checkcast 317, 3) := by decide +kernel
theorem d6_13 : decode jdk_65_method_123_code 13 = .ok (.areturn, 1) := by decide +kernel
theorem d6_14 : decode jdk_65_method_123_code 14 = .ok (.iload_n 1, 1) := by decide +kernel
theorem d6_15 : decode jdk_65_method_123_code 15 = .ok (.newarray .int, 2) := by decide +kernel
theorem d6_17 : decode jdk_65_method_123_code 17 = .ok (.astore_n 2, 1) := by decide +kernel
theorem d6_18 : decode jdk_65_method_123_code 18 = .ok (.aload_n 0, 1) := by decide +kernel
theorem d6_19 : decode jdk_65_method_123_code 19 = .ok (.iconst 0, 1) := by decide +kernel
theorem d6_20 : decode jdk_65_method_123_code 20 = .ok (.aload_n 2, 1) := by decide +kernel
theorem d6_21 : decode jdk_65_method_123_code 21 = .ok (.iconst 0, 1) := by decide +kernel
theorem d6_22 : decode jdk_65_method_123_code 22 = .ok (.aload_n 0, 1) := by decide +kernel
theorem d6_23 : decode jdk_65_method_123_code 23 = .ok (.arraylength, 1) := by decide +kernel
theorem d6_24 : decode jdk_65_method_123_code 24 = .ok (.iload_n 1, 1) := by decide +kernel
theorem d6_25 : decode jdk_65_method_123_code 25 = .ok (.invokestatic 304, 3) := by decide +kernel
theorem d6_28 : decode jdk_65_method_123_code 28 = .ok (.invokestatic 150, 3) := by decide +kernel
theorem d6_31 : decode jdk_65_method_123_code 31 = .ok (.aload_n 2, 1) := by decide +kernel
theorem d6_32 : decode jdk_65_method_123_code 32 = .ok (.areturn, 1) := by decide +kernel
abbrev own_rm6_room : Room := { frames := 1, cells := 1, slots := 8, locals := 18 }
set_option maxRecDepth 65536 in
set_option maxHeartbeats 40000000 in
theorem rm6 (l : Launch) (Z : State) (a0 : Array Value) (hw : ∀ d ∈ tables_1, d.before a0 Z = true) (n0 : Nat) (h0 : Heap) (Z0 : n0 ≤ h0.size) (a : Addr) (xs : List Int32) (nn : Int32) (m : Nat) (V : IA Z h0 a xs) (hm : nn.toInt = (m : Int)) (hxm : xs.length < m) (hm8 : m ≤ 8) :
    Ctr l Z (⟨"java/util/Arrays", "copyOf", "([II)[I"⟩ : MethodName) jdk_65_method_123_code 3 (some (.array .int)) own_rm6_room n0 #[(.ref a), (.int nn)] h0 (fun v h => ∃ b : Addr, v = some (.ref b) ∧ n0 ≤ b ∧ h0.size ≤ b ∧ Keep h0 h [] ∧ IA Z h b (xs ++ List.replicate (m - xs.length) 0)) := by
  refine Ctr.of #[.val (.ref a), .val (.int nn), .unset] pf_6 Z0 (fun m => by first | (simp [entryFrame, mkF, argsToLocals, Value.category]; done) | rfl) ?_
  intro C H
  refine k_iloadN (pc := 0) H d6_0 rfl ?_
  refine k_aloadN (pc := 1) H d6_1 rfl rfl ?_
  obtain ⟨N, hN⟩ : ∃ N : Int32, N.toInt = (xs.length : Int) := ⟨xs.length.toInt32, len_toInt (by omega)⟩
  refine k_arraylength (N := N) (pc := 2) H V (by simpa using hN) d6_2 ?_
  refine k_icmpT 14 (pc := 3) H d6_3 rfl (XT.ii_ne_t (fun z => by have := (eq_nat hm hN).mp z; omega)) ?_
  refine k_iloadN (pc := 14) H d6_14 rfl ?_
  refine k_new_int (m) 8 (pc := 15) H (wd hw 0 rfl) d6_15 (hm) (hm8) (by decide) (by decide) (by decide) ?_
  intro h2 b ea3 ge4 E5 XA1 V6
  have fr7 : h0.size ≤ b := by rw [ea3]; exact (Keep.refl h0 []).1
  have ne8 : a ≠ b := Nat.ne_of_lt (by rw [ea3]; exact V.lt)
  have KW9 : Keep h0 h2 [] := (Keep.refl h0 []).ext E5
  have f10 : IA Z h2 a xs := V.ext E5
  refine k_astoreN (pc := 17) H d6_17 rfl (Ls' := #[.val (.ref a), .val (.int nn), .val (.ref b)]) rfl ?_
  refine k_aloadN (pc := 18) H d6_18 rfl rfl ?_
  refine k_iconst (0 : Int32) (pc := 19) H d6_19 rfl ?_
  refine k_aloadN (pc := 20) H d6_20 rfl rfl ?_
  refine k_iconst (0 : Int32) (pc := 21) H d6_21 rfl ?_
  refine k_aloadN (pc := 22) H d6_22 rfl rfl ?_
  refine k_arraylength (N := N) (pc := 23) H f10 (by simpa using hN) d6_23 ?_
  refine k_iloadN (pc := 24) H d6_24 rfl ?_
  refine k_invS (y := (⟨"java/lang/Math", "min", "(II)I"⟩ : MethodName)) (st := [(.int (0 : Int32)), (.ref b), (.int (0 : Int32)), (.ref a)]) [(.int N), (.int nn)] 4 (pc := 25) H (wd hw 35 rfl) (wd hw 3 rfl) (wd hw 4 rfl) (wd hw 5 rfl) (by decide) (fun z0 => rm1 l Z a0 hw n0 h2 z0 N nn) (lenOf pd_0 rfl) d6_25 rfl rfl rfl (by decide) (by decide) (by decide) (by decide) ?_
  rintro v hx ⟨rfl, ex⟩
  rw [ex]
  clear ex hx
  show W l own_rm6_room C _ h2 1 8 28 #[.val (.ref a), .val (.int nn), .val (.ref b)] [(.int (if nn < N then nn else N)), (.int (0 : Int32)), (.ref b), (.int (0 : Int32)), (.ref a)]
  rw [if_neg (fun z => by have := (lt_nat hm hN).mp z; omega)]
  refine k_copyI (w := 0) (m := xs.length) (pc := 28) H (wd hw 36 rfl) (wd hw 39 rfl) (wd hw 37 rfl) (wd hw 38 rfl) f10 V6 hN (Nat.le_refl _) (by simp; omega) ge4 d6_28 rfl (by decide) rfl (by decide) ?_
  intro hC KC VC
  have KW11 : Keep h0 hC [] := KW9.trans KC (allS (Or.inr fr7) all0)
  refine k_aloadN (pc := 31) H d6_31 rfl rfl ?_
  exact k_retRef (t := (.array .int)) rfl rfl (pc := 32) H d6_32 (by show 1 ≤ own_rm6_room.cells; decide) (by show 8 ≤ own_rm6_room.slots; decide) (⟨b, rfl, ge4, fr7, KW11, by simpa using VC⟩)
theorem d2_0 : decode prog_5_method_1_code 0 = .ok (.aload_n 0, 1) := by decide +kernel
theorem d2_1 : decode prog_5_method_1_code 1 = .ok (.invokespecial 1, 3) := by decide +kernel
theorem d2_4 : decode prog_5_method_1_code 4 = .ok (.aload_n 0, 1) := by decide +kernel
theorem d2_5 : decode prog_5_method_1_code 5 = .ok (.iconst 4, 1) := by decide +kernel
theorem d2_6 : decode prog_5_method_1_code 6 = .ok (.newarray .int, 2) := by decide +kernel
theorem d2_8 : decode prog_5_method_1_code 8 = .ok (.putfield 9, 3) := by decide +kernel
theorem d2_11 : decode prog_5_method_1_code 11 = .ok (.aload_n 0, 1) := by decide +kernel
theorem d2_12 : decode prog_5_method_1_code 12 = .ok (.iconst 4, 1) := by decide +kernel
theorem d2_13 : decode prog_5_method_1_code 13 = .ok (.newarray .int, 2) := by decide +kernel
theorem d2_15 : decode prog_5_method_1_code 15 = .ok (.putfield 13, 3) := by decide +kernel
theorem d2_18 : decode prog_5_method_1_code 18 = .ok (.return_, 1) := by decide +kernel
abbrev own_rm2_room : Room := { frames := 1, cells := 2, slots := 8, locals := 12 }
set_option maxRecDepth 65536 in
set_option maxHeartbeats 40000000 in
theorem rm2 (l : Launch) (Z : State) (a0 : Array Value) (hw : ∀ d ∈ tables_1, d.before a0 Z = true) (n0 : Nat) (h0 : Heap) (Z0 : n0 ≤ h0.size) (hA : Addr) (gH : n0 ≤ hA) (X : Exa Z h0 hA "com/example/hesabu/hesabu/billing/HeldLicences") (F1 : Fld Z h0 hA "com/example/hesabu/hesabu/billing/HeldLicences" "days" "[I" .null) (F2 : Fld Z h0 hA "com/example/hesabu/hesabu/billing/HeldLicences" "quantities" "[I" .null) (F3 : Fld Z h0 hA "com/example/hesabu/hesabu/billing/HeldLicences" "count" "I" (.int 0)) :
    Ctr l Z (⟨"com/example/hesabu/hesabu/billing/HeldLicences", "<init>", "()V"⟩ : MethodName) prog_5_method_1_code 1 none own_rm2_room n0 #[(.ref hA)] h0 (fun v h => v = none ∧ Keep h0 h [hA] ∧ own_H Z h n0 hA [] 4) := by
  refine Ctr.of #[.val (.ref hA)] (plainFor_of_name pn_2) Z0 (fun m => by first | (simp [entryFrame, mkF, argsToLocals, Value.category]; done) | rfl) ?_
  intro C H
  have hlt := X.lt
  refine k_aloadN (pc := 0) H d2_0 rfl rfl ?_
  refine k_initObj (w := 0) (pc := 1) H (wd hw 12 rfl) (wd hw 13 rfl) (wd hw 14 rfl) d2_1 rfl (by decide) rfl (by decide) ?_
  refine k_aloadN (pc := 4) H d2_4 rfl rfl ?_
  refine k_iconst (4 : Int32) (pc := 5) H d2_5 rfl ?_
  refine k_new_int (4) 4 (pc := 6) H (wd hw 0 rfl) d2_6 (by decide) (by decide) (by decide) (by decide) (by decide) ?_
  intro h13 a ea14 ge15 E16 XA12 V17
  have fr18 : h0.size ≤ a := by rw [ea14]; exact (Keep.refl h0 [hA]).1
  have ne19 : hA ≠ a := Nat.ne_of_lt (by rw [ea14]; exact X.lt)
  have KW20 : Keep h0 h13 [hA] := (Keep.refl h0 [hA]).ext E16
  have f21 : Exa Z h13 hA "com/example/hesabu/hesabu/billing/HeldLicences" := Jvm.RoadKit.Exa.ext E16 X
  have f22 : Fld Z h13 hA "com/example/hesabu/hesabu/billing/HeldLicences" "days" "[I" .null := Jvm.RoadKit.Fld.ext E16 F1
  have f23 : Fld Z h13 hA "com/example/hesabu/hesabu/billing/HeldLicences" "quantities" "[I" .null := Jvm.RoadKit.Fld.ext E16 F2
  have f24 : Fld Z h13 hA "com/example/hesabu/hesabu/billing/HeldLicences" "count" "I" (.int 0) := Jvm.RoadKit.Fld.ext E16 F3
  refine k_putfield (.array .int) (pc := 8) H (wd hw 15 rfl) f22 f21 (Or.inl (wd hw 16 rfl)) (wd hw 7 rfl) (by decide) rfl rfl gH d2_8 ?_
  intro h25 Wr26 f27
  have KW28 : Keep h0 h25 [hA] := KW20.wr Wr26 (Or.inl (List.mem_of_getElem? (i := 0) rfl))
  have f29 : Exa Z h25 hA "com/example/hesabu/hesabu/billing/HeldLicences" := Jvm.RoadKit.Exa.wr Wr26 f21
  have f30 : Fld Z h25 hA "com/example/hesabu/hesabu/billing/HeldLicences" "quantities" "[I" .null := Jvm.RoadKit.Fld.other Wr26 f23 (Or.inr (slot_ne (t := (.array .int)) (t' := (.array .int)) (Or.inl (wd hw 18 rfl)) (Or.inl (wd hw 16 rfl)) (by decide) (by decide) (by decide)))
  have f31 : Fld Z h25 hA "com/example/hesabu/hesabu/billing/HeldLicences" "count" "I" (.int 0) := Jvm.RoadKit.Fld.other Wr26 f24 (Or.inr (slot_ne (t := .int) (t' := (.array .int)) (Or.inl (wd hw 25 rfl)) (Or.inl (wd hw 16 rfl)) (by decide) (by decide) (by decide)))
  have f32 : IA Z h25 a (List.replicate (4) 0) := V17.other Wr26 (Ne.symm ne19)
  refine k_aloadN (pc := 11) H d2_11 rfl rfl ?_
  refine k_iconst (4 : Int32) (pc := 12) H d2_12 rfl ?_
  refine k_new_int (4) 4 (pc := 13) H (wd hw 0 rfl) d2_13 (by decide) (by decide) (by decide) (by decide) (by decide) ?_
  intro h34 b ea35 ge36 E37 XA33 V38
  have fr39 : h0.size ≤ b := by rw [ea35]; exact KW28.1
  have ne40 : hA ≠ b := Nat.ne_of_lt (by rw [ea35]; exact f29.lt)
  have ne41 : a ≠ b := Nat.ne_of_lt (by rw [ea35]; exact f32.lt)
  have KW42 : Keep h0 h34 [hA] := KW28.ext E37
  have f43 : Exa Z h34 hA "com/example/hesabu/hesabu/billing/HeldLicences" := Jvm.RoadKit.Exa.ext E37 f29
  have f44 : Fld Z h34 hA "com/example/hesabu/hesabu/billing/HeldLicences" "quantities" "[I" .null := Jvm.RoadKit.Fld.ext E37 f30
  have f45 : Fld Z h34 hA "com/example/hesabu/hesabu/billing/HeldLicences" "count" "I" (.int 0) := Jvm.RoadKit.Fld.ext E37 f31
  have f46 : IA Z h34 a (List.replicate (4) 0) := f32.ext E37
  have f47 : Fld Z h34 hA "com/example/hesabu/hesabu/billing/HeldLicences" "days" "[I" (.ref a) := Jvm.RoadKit.Fld.ext E37 f27
  refine k_putfield (.array .int) (pc := 15) H (wd hw 17 rfl) f44 f43 (Or.inl (wd hw 18 rfl)) (wd hw 7 rfl) (by decide) rfl rfl gH d2_15 ?_
  intro h48 Wr49 f50
  have KW51 : Keep h0 h48 [hA] := KW42.wr Wr49 (Or.inl (List.mem_of_getElem? (i := 0) rfl))
  have f52 : Exa Z h48 hA "com/example/hesabu/hesabu/billing/HeldLicences" := Jvm.RoadKit.Exa.wr Wr49 f43
  have f53 : Fld Z h48 hA "com/example/hesabu/hesabu/billing/HeldLicences" "count" "I" (.int 0) := Jvm.RoadKit.Fld.other Wr49 f45 (Or.inr (slot_ne (t := .int) (t' := (.array .int)) (Or.inl (wd hw 25 rfl)) (Or.inl (wd hw 18 rfl)) (by decide) (by decide) (by decide)))
  have f54 : IA Z h48 a (List.replicate (4) 0) := f46.other Wr49 (Ne.symm ne19)
  have f55 : Fld Z h48 hA "com/example/hesabu/hesabu/billing/HeldLicences" "days" "[I" (.ref a) := Jvm.RoadKit.Fld.other Wr49 f47 (Or.inr (slot_ne (t := (.array .int)) (t' := (.array .int)) (Or.inl (wd hw 16 rfl)) (Or.inl (wd hw 18 rfl)) (by decide) (by decide) (by decide)))
  have f56 : IA Z h48 b (List.replicate (4) 0) := V38.other Wr49 (Ne.symm ne40)
  exact k_retVoid (pc := 18) H d2_18 (by show 2 ≤ own_rm2_room.cells; decide) (by show 8 ≤ own_rm2_room.slots; decide) (⟨rfl, KW51, a, b, 0, _, _, ge15, ge36, Nat.lt_of_lt_of_le hlt fr18, Nat.lt_of_lt_of_le hlt fr39, ne41, f52, f55, f50, f53, f54, f56, rfl, by simp, by simp, by simp, by simp, by simp⟩)
theorem d4_0 : decode prog_5_method_2_code 0 = .ok (.aload_n 0, 1) := by decide +kernel
theorem d4_1 : decode prog_5_method_2_code 1 = .ok (.getfield 16, 3) := by decide +kernel
theorem d4_4 : decode prog_5_method_2_code 4 = .ok (.ifCond .le 55, 3) := by decide +kernel
theorem d4_7 : decode prog_5_method_2_code 7 = .ok (.iload_n 1, 1) := by decide +kernel
theorem d4_8 : decode prog_5_method_2_code 8 = .ok (.aload_n 0, 1) := by decide +kernel
theorem d4_9 : decode prog_5_method_2_code 9 = .ok (.getfield 9, 3) := by decide +kernel
theorem d4_12 : decode prog_5_method_2_code 12 = .ok (.aload_n 0, 1) := by decide +kernel
theorem d4_13 : decode prog_5_method_2_code 13 = .ok (.getfield 16, 3) := by decide +kernel
theorem d4_16 : decode prog_5_method_2_code 16 = .ok (.iconst 1, 1) := by decide +kernel
theorem d4_17 : decode prog_5_method_2_code 17 = .ok (.isub, 1) := by decide +kernel
theorem d4_18 : decode prog_5_method_2_code 18 = .ok (.iaload, 1) := by decide +kernel
theorem d4_19 : decode prog_5_method_2_code 19 = .ok (.if_icmp .ge 40, 3) := by decide +kernel
theorem d4_22 : decode prog_5_method_2_code 22 = .ok (.new 20, 3) := by decide +kernel
theorem d4_25 : decode prog_5_method_2_code 25 = .ok (.dup, 1) := by decide +kernel
theorem d4_26 : decode prog_5_method_2_code 26 = .ok (.iload_n 1, 1) := by decide +kernel
theorem d4_27 : decode prog_5_method_2_code 27 = .ok (.invokestatic 22, 3) := by decide +kernel
theorem d4_30 : decode prog_5_method_2_code 30 = .ok (.invokestatic 28, 3) := by decide +kernel
theorem d4_33 : decode prog_5_method_2_code 33 = .ok (.aload_n 0, 1) := by decide +kernel
theorem d4_34 : decode prog_5_method_2_code 34 = .ok (.getfield 9, 3) := by decide +kernel
theorem d4_37 : decode prog_5_method_2_code 37 = .ok (.aload_n 0, 1) := by decide +kernel
theorem d4_38 : decode prog_5_method_2_code 38 = .ok (.getfield 16, 3) := by decide +kernel
theorem d4_41 : decode prog_5_method_2_code 41 = .ok (.iconst 1, 1) := by decide +kernel
theorem d4_42 : decode prog_5_method_2_code 42 = .ok (.isub, 1) := by decide +kernel
theorem d4_43 : decode prog_5_method_2_code 43 = .ok (.iaload, 1) := by decide +kernel
theorem d4_44 : decode prog_5_method_2_code 44 = .ok (.invokestatic 22, 3) := by decide +kernel
theorem d4_47 : decode prog_5_method_2_code 47 = .ok (.invokestatic 28, 3) := by decide +kernel
theorem d4_50 : decode prog_5_method_2_code 50 = .ok (.invokedynamic 34, 5) := by decide +kernel
theorem d4_55 : decode prog_5_method_2_code 55 = .ok (.invokespecial 38, 3) := by decide +kernel
theorem d4_58 : decode prog_5_method_2_code 58 = .ok (.athrow, 1) := by decide +kernel
theorem d4_59 : decode prog_5_method_2_code 59 = .ok (.aload_n 0, 1) := by decide +kernel
theorem d4_60 : decode prog_5_method_2_code 60 = .ok (.getfield 16, 3) := by decide +kernel
theorem d4_63 : decode prog_5_method_2_code 63 = .ok (.ifCond .le 33, 3) := by decide +kernel
theorem d4_66 : decode prog_5_method_2_code 66 = .ok (.iload_n 1, 1) := by decide +kernel
theorem d4_67 : decode prog_5_method_2_code 67 = .ok (.aload_n 0, 1) := by decide +kernel
theorem d4_68 : decode prog_5_method_2_code 68 = .ok (.getfield 9, 3) := by decide +kernel
theorem d4_71 : decode prog_5_method_2_code 71 = .ok (.aload_n 0, 1) := by decide +kernel
theorem d4_72 : decode prog_5_method_2_code 72 = .ok (.getfield 16, 3) := by decide +kernel
theorem d4_75 : decode prog_5_method_2_code 75 = .ok (.iconst 1, 1) := by decide +kernel
theorem d4_76 : decode prog_5_method_2_code 76 = .ok (.isub, 1) := by decide +kernel
theorem d4_77 : decode prog_5_method_2_code 77 = .ok (.iaload, 1) := by decide +kernel
theorem d4_78 : decode prog_5_method_2_code 78 = .ok (.if_icmp .ne 18, 3) := by decide +kernel
theorem d4_81 : decode prog_5_method_2_code 81 = .ok (.aload_n 0, 1) := by decide +kernel
theorem d4_82 : decode prog_5_method_2_code 82 = .ok (.getfield 13, 3) := by decide +kernel
theorem d4_85 : decode prog_5_method_2_code 85 = .ok (.aload_n 0, 1) := by decide +kernel
theorem d4_86 : decode prog_5_method_2_code 86 = .ok (.getfield 16, 3) := by decide +kernel
theorem d4_89 : decode prog_5_method_2_code 89 = .ok (.iconst 1, 1) := by decide +kernel
theorem d4_90 : decode prog_5_method_2_code 90 = .ok (.isub, 1) := by decide +kernel
theorem d4_91 : decode prog_5_method_2_code 91 = .ok (.iload_n 2, 1) := by decide +kernel
theorem d4_92 : decode prog_5_method_2_code 92 = .ok (.iastore, 1) := by decide +kernel
theorem d4_93 : decode prog_5_method_2_code 93 = .ok (.goto 79, 3) := by decide +kernel
theorem d4_96 : decode prog_5_method_2_code 96 = .ok (.aload_n 0, 1) := by decide +kernel
theorem d4_97 : decode prog_5_method_2_code 97 = .ok (.getfield 16, 3) := by decide +kernel
theorem d4_100 : decode prog_5_method_2_code 100 = .ok (.aload_n 0, 1) := by decide +kernel
theorem d4_101 : decode prog_5_method_2_code 101 = .ok (.getfield 9, 3) := by decide +kernel
theorem d4_104 : decode prog_5_method_2_code 104 = .ok (.arraylength, 1) := by decide +kernel
theorem d4_105 : decode prog_5_method_2_code 105 = .ok (.if_icmp .ne 37, 3) := by decide +kernel
theorem d4_108 : decode prog_5_method_2_code 108 = .ok (.aload_n 0, 1) := by decide +kernel
theorem d4_109 : decode prog_5_method_2_code 109 = .ok (.aload_n 0, 1) := by decide +kernel
theorem d4_110 : decode prog_5_method_2_code 110 = .ok (.getfield 9, 3) := by decide +kernel
theorem d4_113 : decode prog_5_method_2_code 113 = .ok (.iconst 2, 1) := by decide +kernel
theorem d4_114 : decode prog_5_method_2_code 114 = .ok (.aload_n 0, 1) := by decide +kernel
theorem d4_115 : decode prog_5_method_2_code 115 = .ok (.getfield 16, 3) := by decide +kernel
theorem d4_118 : decode prog_5_method_2_code 118 = .ok (.imul, 1) := by decide +kernel
theorem d4_119 : decode prog_5_method_2_code 119 = .ok (.invokestatic 41, 3) := by decide +kernel
theorem d4_122 : decode prog_5_method_2_code 122 = .ok (.putfield 9, 3) := by decide +kernel
theorem d4_125 : decode prog_5_method_2_code 125 = .ok (.aload_n 0, 1) := by decide +kernel
theorem d4_126 : decode prog_5_method_2_code 126 = .ok (.aload_n 0, 1) := by decide +kernel
theorem d4_127 : decode prog_5_method_2_code 127 = .ok (.getfield 13, 3) := by decide +kernel
theorem d4_130 : decode prog_5_method_2_code 130 = .ok (.iconst 2, 1) := by decide +kernel
theorem d4_131 : decode prog_5_method_2_code 131 = .ok (.aload_n 0, 1) := by decide +kernel
theorem d4_132 : decode prog_5_method_2_code 132 = .ok (.getfield 16, 3) := by decide +kernel
theorem d4_135 : decode prog_5_method_2_code 135 = .ok (.imul, 1) := by decide +kernel
theorem d4_136 : decode prog_5_method_2_code 136 = .ok (.invokestatic 41, 3) := by decide +kernel
theorem d4_139 : decode prog_5_method_2_code 139 = .ok (.putfield 13, 3) := by decide +kernel
theorem d4_142 : decode prog_5_method_2_code 142 = .ok (.aload_n 0, 1) := by decide +kernel
theorem d4_143 : decode prog_5_method_2_code 143 = .ok (.getfield 9, 3) := by decide +kernel
theorem d4_146 : decode prog_5_method_2_code 146 = .ok (.aload_n 0, 1) := by decide +kernel
theorem d4_147 : decode prog_5_method_2_code 147 = .ok (.getfield 16, 3) := by decide +kernel
theorem d4_150 : decode prog_5_method_2_code 150 = .ok (.iload_n 1, 1) := by decide +kernel
theorem d4_151 : decode prog_5_method_2_code 151 = .ok (.iastore, 1) := by decide +kernel
theorem d4_152 : decode prog_5_method_2_code 152 = .ok (.aload_n 0, 1) := by decide +kernel
theorem d4_153 : decode prog_5_method_2_code 153 = .ok (.getfield 13, 3) := by decide +kernel
theorem d4_156 : decode prog_5_method_2_code 156 = .ok (.aload_n 0, 1) := by decide +kernel
theorem d4_157 : decode prog_5_method_2_code 157 = .ok (.getfield 16, 3) := by decide +kernel
theorem d4_160 : decode prog_5_method_2_code 160 = .ok (.iload_n 2, 1) := by decide +kernel
theorem d4_161 : decode prog_5_method_2_code 161 = .ok (.iastore, 1) := by decide +kernel
theorem d4_162 : decode prog_5_method_2_code 162 = .ok (.aload_n 0, 1) := by decide +kernel
theorem d4_163 : decode prog_5_method_2_code 163 = .ok (.dup, 1) := by decide +kernel
theorem d4_164 : decode prog_5_method_2_code 164 = .ok (.getfield 16, 3) := by decide +kernel
theorem d4_167 : decode prog_5_method_2_code 167 = .ok (.iconst 1, 1) := by decide +kernel
theorem d4_168 : decode prog_5_method_2_code 168 = .ok (.iadd, 1) := by decide +kernel
theorem d4_169 : decode prog_5_method_2_code 169 = .ok (.putfield 16, 3) := by decide +kernel
theorem d4_172 : decode prog_5_method_2_code 172 = .ok (.return_, 1) := by decide +kernel
abbrev own_rm4_room : Room := { frames := 2, cells := 2, slots := 16, locals := 33 }
set_option maxRecDepth 65536 in
set_option maxHeartbeats 40000000 in
theorem rm4 (l : Launch) (Z : State) (a0 : Array Value) (hw : ∀ d ∈ tables_1, d.before a0 Z = true) (n0 : Nat) (h0 : Heap) (Z0 : n0 ≤ h0.size) (hA : Addr) (es : List (Int32 × Int32)) (cap : Nat) (d q : Int32) (gH : n0 ≤ hA) (HH : own_H Z h0 n0 hA es cap) (hcap : cap = 4 ∨ cap = 8) (hlen : es.length < 8) (hsrt : ∀ fs d' q', es = fs ++ [(d', q')] → ¬ d < d') :
    Ctr l Z (⟨"com/example/hesabu/hesabu/billing/HeldLicences", "set", "(II)V"⟩ : MethodName) prog_5_method_2_code 3 none own_rm4_room n0 #[(.ref hA), (.int d), (.int q)] h0 (fun v h => v = none ∧ ∃ ws cap', Keep h0 h ws ∧ (∀ x ∈ ws, hA ≤ x) ∧ own_H Z h n0 hA (own_set es d q) cap' ∧ (cap' = 4 ∨ cap' = 8)) := by
  refine Ctr.of #[.val (.ref hA), .val (.int d), .val (.int q)] (plainFor_of_name pn_2) Z0 (fun m => by first | (simp [entryFrame, mkF, argsToLocals, Value.category]; done) | rfl) ?_
  intro C H
  obtain ⟨a, b, c, xs, ys, ga, gb, la, lb, nab, X, Fd, Fq, Fc, Va, Vb, hc, hxl, hyl, hle, px, py⟩ := HH
  have nHa : hA ≠ a := Nat.ne_of_lt la
  have nHb : hA ≠ b := Nat.ne_of_lt lb
  have hHlt := X.lt
  have hws : ∀ x ∈ [hA, a, b], hA ≤ x := allS (Nat.le_refl _) (allS (Nat.le_of_lt la) (allS (Nat.le_of_lt lb) all0))
  have J142 : ∀ (hh : Heap) (a2 b2 : Addr) (xs2 ys2 : List Int32) (cap2 : Nat) (K : Keep h0 hh [hA, a, b]) (ma : a2 ∈ [hA, a, b] ∨ h0.size ≤ a2) (mb : b2 ∈ [hA, a, b] ∨ h0.size ≤ b2) (ga2 : n0 ≤ a2) (gb2 : n0 ≤ b2) (la2 : hA < a2) (lb2 : hA < b2) (nab2 : a2 ≠ b2) (yX : Exa Z hh hA "com/example/hesabu/hesabu/billing/HeldLicences") (yFd : Fld Z hh hA "com/example/hesabu/hesabu/billing/HeldLicences" "days" "[I" (.ref a2)) (yFq : Fld Z hh hA "com/example/hesabu/hesabu/billing/HeldLicences" "quantities" "[I" (.ref b2)) (yFc : Fld Z hh hA "com/example/hesabu/hesabu/billing/HeldLicences" "count" "I" (.int c)) (yVa : IA Z hh a2 xs2) (yVb : IA Z hh b2 ys2) (hx2 : xs2.length = cap2) (hy2 : ys2.length = cap2) (hc2 : cap2 = 4 ∨ cap2 = 8) (hlt : es.length < cap2) (px2 : ∀ i, i < es.length → xs2[i]? = (es.map Prod.fst)[i]?) (py2 : ∀ i, i < es.length → ys2[i]? = (es.map Prod.snd)[i]?) (hap : own_set es d q = es ++ [(d, q)]), W l own_rm4_room C (n0, own_rm4_room.cells, own_rm4_room.slots, fun v h => v = none ∧ ∃ ws cap', Keep h0 h ws ∧ (∀ x ∈ ws, hA ≤ x) ∧ own_H Z h n0 hA (own_set es d q) cap' ∧ (cap' = 4 ∨ cap' = 8)) hh 2 16 142 #[.val (.ref hA), .val (.int d), .val (.int q)] [] := by
    intro hh a2 b2 xs2 ys2 cap2 K ma mb ga2 gb2 la2 lb2 nab2 yX yFd yFq yFc yVa yVb hx2 hy2 hc2 hlt px2 py2 hap
    have nH2a : hA ≠ a2 := Nat.ne_of_lt la2
    have nH2b : hA ≠ b2 := Nat.ne_of_lt lb2
    refine k_aloadN (pc := 142) H d4_142 rfl rfl ?_
    refine k_getfield (pc := 143) H (wd hw 15 rfl) yFd d4_143 ?_
    refine k_aloadN (pc := 146) H d4_146 rfl rfl ?_
    refine k_getfield (pc := 147) H (wd hw 24 rfl) yFc d4_147 ?_
    refine k_iloadN (pc := 150) H d4_150 rfl ?_
    refine k_iastoreT (i := es.length) (pc := 151) H yVa (hc) (by omega) ga2 d4_151 ?_
    intro h57 K58 V59
    have KW60 : Keep h0 h57 [hA, a, b] := K.trans K58 (allS ma all0)
    have f61 : Exa Z h57 hA "com/example/hesabu/hesabu/billing/HeldLicences" := yX.keep K58
    have f62 : Fld Z h57 hA "com/example/hesabu/hesabu/billing/HeldLicences" "days" "[I" (.ref a2) := yFd.keep K58 (ninS nH2a nin0)
    have f63 : Fld Z h57 hA "com/example/hesabu/hesabu/billing/HeldLicences" "quantities" "[I" (.ref b2) := yFq.keep K58 (ninS nH2a nin0)
    have f64 : Fld Z h57 hA "com/example/hesabu/hesabu/billing/HeldLicences" "count" "I" (.int c) := yFc.keep K58 (ninS nH2a nin0)
    have f65 : IA Z h57 b2 ys2 := yVb.keep K58 (ninS (Ne.symm nab2) nin0)
    refine k_aloadN (pc := 152) H d4_152 rfl rfl ?_
    refine k_getfield (pc := 153) H (wd hw 17 rfl) f63 d4_153 ?_
    refine k_aloadN (pc := 156) H d4_156 rfl rfl ?_
    refine k_getfield (pc := 157) H (wd hw 24 rfl) f64 d4_157 ?_
    refine k_iloadN (pc := 160) H d4_160 rfl ?_
    refine k_iastoreT (i := es.length) (pc := 161) H f65 (hc) (by omega) gb2 d4_161 ?_
    intro h66 K67 V68
    have KW69 : Keep h0 h66 [hA, a, b] := KW60.trans K67 (allS mb all0)
    have f70 : Exa Z h66 hA "com/example/hesabu/hesabu/billing/HeldLicences" := f61.keep K67
    have f71 : Fld Z h66 hA "com/example/hesabu/hesabu/billing/HeldLicences" "days" "[I" (.ref a2) := f62.keep K67 (ninS nH2b nin0)
    have f72 : Fld Z h66 hA "com/example/hesabu/hesabu/billing/HeldLicences" "quantities" "[I" (.ref b2) := f63.keep K67 (ninS nH2b nin0)
    have f73 : Fld Z h66 hA "com/example/hesabu/hesabu/billing/HeldLicences" "count" "I" (.int c) := f64.keep K67 (ninS nH2b nin0)
    have f74 : IA Z h66 a2 (xs2.set es.length d) := V59.keep K67 (ninS nab2 nin0)
    refine k_aloadN (pc := 162) H d4_162 rfl rfl ?_
    refine k_dup (pc := 163) H d4_163 rfl ?_
    refine k_getfield (pc := 164) H (wd hw 24 rfl) f73 d4_164 ?_
    refine k_iconst (1 : Int32) (pc := 167) H d4_167 rfl ?_
    refine k_iadd (pc := 168) H d4_168 ?_
    refine k_putfield .int (pc := 169) H (wd hw 24 rfl) f73 f70 (Or.inl (wd hw 25 rfl)) (wd hw 7 rfl) (by decide) rfl rfl gH d4_169 ?_
    intro h75 Wr76 f77
    have KW78 : Keep h0 h75 [hA, a, b] := KW69.wr Wr76 (Or.inl (List.mem_of_getElem? (i := 0) rfl))
    have f79 : Exa Z h75 hA "com/example/hesabu/hesabu/billing/HeldLicences" := Jvm.RoadKit.Exa.wr Wr76 f70
    have f80 : Fld Z h75 hA "com/example/hesabu/hesabu/billing/HeldLicences" "days" "[I" (.ref a2) := Jvm.RoadKit.Fld.other Wr76 f71 (Or.inr (slot_ne (t := (.array .int)) (t' := .int) (Or.inl (wd hw 16 rfl)) (Or.inl (wd hw 25 rfl)) (by decide) (by decide) (by decide)))
    have f81 : Fld Z h75 hA "com/example/hesabu/hesabu/billing/HeldLicences" "quantities" "[I" (.ref b2) := Jvm.RoadKit.Fld.other Wr76 f72 (Or.inr (slot_ne (t := (.array .int)) (t' := .int) (Or.inl (wd hw 18 rfl)) (Or.inl (wd hw 25 rfl)) (by decide) (by decide) (by decide)))
    have f82 : IA Z h75 a2 (xs2.set es.length d) := f74.other Wr76 (Ne.symm nH2a)
    have f83 : IA Z h75 b2 (ys2.set es.length q) := V68.other Wr76 (Ne.symm nH2b)
    have lm1 : (es.map Prod.fst).length = es.length := by simp
    have lm2 : (es.map Prod.snd).length = es.length := by simp
    exact k_retVoid (pc := 172) H d4_172 (by show 2 ≤ own_rm4_room.cells; decide) (by show 16 ≤ own_rm4_room.slots; decide) (⟨rfl, [hA, a, b], cap2, KW78, hws, ⟨a2, b2, c + 1, _, _, ga2, gb2, la2, lb2, nab2, f79, f80, f81, f77, f82, f83, by rw [hap]; have := add_nat (y := 1) (j := 1) hc rfl (by omega); rw [this]; simp, by rw [List.length_set]; exact hx2, by rw [List.length_set]; exact hy2, by rw [hap, List.length_append]; simp; omega, by rw [hap, List.map_append]; have := own_pre_set (d := d) (ds := es.map Prod.fst) (by rw [lm1]; exact px2) (by rw [lm1]; omega); rw [lm1] at this; simpa using this, by rw [hap, List.map_append]; have := own_pre_set (d := q) (ds := es.map Prod.snd) (by rw [lm2]; exact py2) (by rw [lm2]; omega); rw [lm2] at this; simpa using this⟩, hc2⟩)
  have J96 : ∀ (hap : own_set es d q = es ++ [(d, q)]), W l own_rm4_room C (n0, own_rm4_room.cells, own_rm4_room.slots, fun v h => v = none ∧ ∃ ws cap', Keep h0 h ws ∧ (∀ x ∈ ws, hA ≤ x) ∧ own_H Z h n0 hA (own_set es d q) cap' ∧ (cap' = 4 ∨ cap' = 8)) h0 0 0 96 #[.val (.ref hA), .val (.int d), .val (.int q)] [] := by
    intro hap
    obtain ⟨N, hN⟩ : ∃ N : Int32, N.toInt = (xs.length : Int) := ⟨xs.length.toInt32, len_toInt (by omega)⟩
    have qc := eq_nat hc hN
    refine k_aloadN (pc := 96) H d4_96 rfl rfl ?_
    refine k_getfield (pc := 97) H (wd hw 24 rfl) Fc d4_97 ?_
    refine k_aloadN (pc := 100) H d4_100 rfl rfl ?_
    refine k_getfield (pc := 101) H (wd hw 15 rfl) Fd d4_101 ?_
    refine k_arraylength (N := N) (pc := 104) H Va (by simpa using hN) d4_104 ?_
    refine k_icmpR (P := c = N) 142 (pc := 105) H d4_105 rfl XT.ii_ne_t XT.ii_ne_f (fun k0 => ?_) (fun k0 => ?_)
    · have hne : ¬ es.length = xs.length := fun z => k0 (qc.mpr z)
      exact W.more (by decide) (by decide) (J142 h0 a b xs ys cap (Keep.refl _ _) (Or.inl (List.mem_of_getElem? (i := 1) rfl)) (Or.inl (List.mem_of_getElem? (i := 2) rfl)) ga gb la lb nab X Fd Fq Fc Va Vb hxl hyl hcap (by omega) px py hap)
    · have heq := qc.mp k0
      have h4 : xs.length = 4 := by omega
      have hy4 : ys.length = 4 := by omega
      have m8 : ((2 : Int32) * c).toInt = ((8 : Nat) : Int) := by have := mul_nat (x := 2) (i := 2) rfl hc (by omega); rw [this]; omega
      refine k_aloadN (pc := 108) H d4_108 rfl rfl ?_
      refine k_aloadN (pc := 109) H d4_109 rfl rfl ?_
      refine k_getfield (pc := 110) H (wd hw 15 rfl) Fd d4_110 ?_
      refine k_iconst (2 : Int32) (pc := 113) H d4_113 rfl ?_
      refine k_aloadN (pc := 114) H d4_114 rfl rfl ?_
      refine k_getfield (pc := 115) H (wd hw 24 rfl) Fc d4_115 ?_
      refine k_imul (pc := 118) H d4_118 ?_
      refine k_invS (y := (⟨"java/util/Arrays", "copyOf", "([II)[I"⟩ : MethodName)) (st := [(.ref hA)]) [(.ref a), (.int ((2 : Int32) * c))] 1 (pc := 119) H (wd hw 31 rfl) (wd hw 32 rfl) (wd hw 33 rfl) (wd hw 34 rfl) (by decide) (fun z0 => rm6 l Z a0 hw n0 h0 z0 a xs ((2 : Int32) * c) 8 Va m8 (by omega) (by decide)) (lenOf pd_1 rfl) d4_119 rfl rfl rfl (by decide) (by decide) (by decide) (by decide) ?_
      rintro v h84 ⟨a3, rfl, ga3, sa3, Ka3, Va3⟩
      show W l own_rm4_room C _ h84 1 8 122 #[.val (.ref hA), .val (.int d), .val (.int q)] [(.ref a3), (.ref hA)]
      have KW85 : Keep h0 h84 [hA, a, b] := (Keep.refl h0 [hA, a, b]).trans Ka3 all0
      have f86 : Exa Z h84 hA "com/example/hesabu/hesabu/billing/HeldLicences" := X.keep Ka3
      have f87 : Fld Z h84 hA "com/example/hesabu/hesabu/billing/HeldLicences" "days" "[I" (.ref a) := Fd.keep Ka3 nin0
      have f88 : Fld Z h84 hA "com/example/hesabu/hesabu/billing/HeldLicences" "quantities" "[I" (.ref b) := Fq.keep Ka3 nin0
      have f89 : Fld Z h84 hA "com/example/hesabu/hesabu/billing/HeldLicences" "count" "I" (.int c) := Fc.keep Ka3 nin0
      have f90 : IA Z h84 a xs := Va.keep Ka3 nin0
      have f91 : IA Z h84 b ys := Vb.keep Ka3 nin0
      have fa3 : h0.size ≤ a3 := sa3
      have nhAa3 : hA ≠ a3 := Nat.ne_of_lt (Nat.lt_of_lt_of_le (hHlt) fa3)
      have naa3 : a ≠ a3 := Nat.ne_of_lt (Nat.lt_of_lt_of_le (Va.lt) fa3)
      have nba3 : b ≠ a3 := Nat.ne_of_lt (Nat.lt_of_lt_of_le (Vb.lt) fa3)
      refine k_putfield (.array .int) (pc := 122) H (wd hw 15 rfl) f87 f86 (Or.inl (wd hw 16 rfl)) (wd hw 7 rfl) (by decide) rfl rfl gH d4_122 ?_
      intro h92 Wr93 f94
      have KW95 : Keep h0 h92 [hA, a, b] := KW85.wr Wr93 (Or.inl (List.mem_of_getElem? (i := 0) rfl))
      have f96 : Exa Z h92 hA "com/example/hesabu/hesabu/billing/HeldLicences" := Jvm.RoadKit.Exa.wr Wr93 f86
      have f97 : Fld Z h92 hA "com/example/hesabu/hesabu/billing/HeldLicences" "quantities" "[I" (.ref b) := Jvm.RoadKit.Fld.other Wr93 f88 (Or.inr (slot_ne (t := (.array .int)) (t' := (.array .int)) (Or.inl (wd hw 18 rfl)) (Or.inl (wd hw 16 rfl)) (by decide) (by decide) (by decide)))
      have f98 : Fld Z h92 hA "com/example/hesabu/hesabu/billing/HeldLicences" "count" "I" (.int c) := Jvm.RoadKit.Fld.other Wr93 f89 (Or.inr (slot_ne (t := .int) (t' := (.array .int)) (Or.inl (wd hw 25 rfl)) (Or.inl (wd hw 16 rfl)) (by decide) (by decide) (by decide)))
      have f99 : IA Z h92 a xs := f90.other Wr93 (Ne.symm nHa)
      have f100 : IA Z h92 b ys := f91.other Wr93 (Ne.symm nHb)
      have f101 : IA Z h92 a3 (xs ++ List.replicate (8 - xs.length) 0) := Va3.other Wr93 (Ne.symm nhAa3)
      refine k_aloadN (pc := 125) H d4_125 rfl rfl ?_
      refine k_aloadN (pc := 126) H d4_126 rfl rfl ?_
      refine k_getfield (pc := 127) H (wd hw 17 rfl) f97 d4_127 ?_
      refine k_iconst (2 : Int32) (pc := 130) H d4_130 rfl ?_
      refine k_aloadN (pc := 131) H d4_131 rfl rfl ?_
      refine k_getfield (pc := 132) H (wd hw 24 rfl) f98 d4_132 ?_
      refine k_imul (pc := 135) H d4_135 ?_
      refine k_invS (y := (⟨"java/util/Arrays", "copyOf", "([II)[I"⟩ : MethodName)) (st := [(.ref hA)]) [(.ref b), (.int ((2 : Int32) * c))] 1 (pc := 136) H (wd hw 31 rfl) (wd hw 32 rfl) (wd hw 33 rfl) (wd hw 34 rfl) (by decide) (fun z0 => rm6 l Z a0 hw n0 h92 z0 b ys ((2 : Int32) * c) 8 f100 m8 (by omega) (by decide)) (lenOf pd_1 rfl) d4_136 rfl rfl rfl (by decide) (by decide) (by decide) (by decide) ?_
      rintro v h102 ⟨b3, rfl, gb3, sb3, Kb3, Vb3⟩
      show W l own_rm4_room C _ h102 2 16 139 #[.val (.ref hA), .val (.int d), .val (.int q)] [(.ref b3), (.ref hA)]
      have KW103 : Keep h0 h102 [hA, a, b] := KW95.trans Kb3 all0
      have f104 : Exa Z h102 hA "com/example/hesabu/hesabu/billing/HeldLicences" := f96.keep Kb3
      have f105 : Fld Z h102 hA "com/example/hesabu/hesabu/billing/HeldLicences" "quantities" "[I" (.ref b) := f97.keep Kb3 nin0
      have f106 : Fld Z h102 hA "com/example/hesabu/hesabu/billing/HeldLicences" "count" "I" (.int c) := f98.keep Kb3 nin0
      have f107 : IA Z h102 a xs := f99.keep Kb3 nin0
      have f108 : IA Z h102 b ys := f100.keep Kb3 nin0
      have f109 : IA Z h102 a3 (xs ++ List.replicate (8 - xs.length) 0) := f101.keep Kb3 nin0
      have f110 : Fld Z h102 hA "com/example/hesabu/hesabu/billing/HeldLicences" "days" "[I" (.ref a3) := f94.keep Kb3 nin0
      have fb3 : h0.size ≤ b3 := Nat.le_trans KW95.1 sb3
      have na3b3 : a3 ≠ b3 := Nat.ne_of_lt (Nat.lt_of_lt_of_le (f101.lt) sb3)
      have nhAb3 : hA ≠ b3 := Nat.ne_of_lt (Nat.lt_of_lt_of_le (hHlt) fb3)
      have nab3 : a ≠ b3 := Nat.ne_of_lt (Nat.lt_of_lt_of_le (Va.lt) fb3)
      have nbb3 : b ≠ b3 := Nat.ne_of_lt (Nat.lt_of_lt_of_le (Vb.lt) fb3)
      refine k_putfield (.array .int) (pc := 139) H (wd hw 17 rfl) f105 f104 (Or.inl (wd hw 18 rfl)) (wd hw 7 rfl) (by decide) rfl rfl gH d4_139 ?_
      intro h111 Wr112 f113
      have KW114 : Keep h0 h111 [hA, a, b] := KW103.wr Wr112 (Or.inl (List.mem_of_getElem? (i := 0) rfl))
      have f115 : Exa Z h111 hA "com/example/hesabu/hesabu/billing/HeldLicences" := Jvm.RoadKit.Exa.wr Wr112 f104
      have f116 : Fld Z h111 hA "com/example/hesabu/hesabu/billing/HeldLicences" "count" "I" (.int c) := Jvm.RoadKit.Fld.other Wr112 f106 (Or.inr (slot_ne (t := .int) (t' := (.array .int)) (Or.inl (wd hw 25 rfl)) (Or.inl (wd hw 18 rfl)) (by decide) (by decide) (by decide)))
      have f117 : IA Z h111 a xs := f107.other Wr112 (Ne.symm nHa)
      have f118 : IA Z h111 b ys := f108.other Wr112 (Ne.symm nHb)
      have f119 : IA Z h111 a3 (xs ++ List.replicate (8 - xs.length) 0) := f109.other Wr112 (Ne.symm nhAa3)
      have f120 : Fld Z h111 hA "com/example/hesabu/hesabu/billing/HeldLicences" "days" "[I" (.ref a3) := Jvm.RoadKit.Fld.other Wr112 f110 (Or.inr (slot_ne (t := (.array .int)) (t' := (.array .int)) (Or.inl (wd hw 16 rfl)) (Or.inl (wd hw 18 rfl)) (by decide) (by decide) (by decide)))
      have f121 : IA Z h111 b3 (ys ++ List.replicate (8 - ys.length) 0) := Vb3.other Wr112 (Ne.symm nhAb3)
      have pp : ∀ (zs ds : List Int32), zs.length = 4 → ds.length = 4 → (∀ i, i < 4 → zs[i]? = ds[i]?) → ∀ i, i < 4 → (zs ++ List.replicate (8 - zs.length) 0)[i]? = ds[i]? := fun zs ds h1 h2 h3 i hi => by rw [List.getElem?_append_left (by omega)]; exact h3 i hi
      exact J142 _ a3 b3 _ _ 8 KW114 (Or.inr fa3) (Or.inr fb3) ga3 gb3 (Nat.lt_of_lt_of_le hHlt fa3) (Nat.lt_of_lt_of_le hHlt fb3) na3b3 f115 f120 f113 f116 f119 f121 (by simp; omega) (by simp; omega) (Or.inr rfl) (by omega) (fun i hi => pp xs (es.map Prod.fst) h4 (by simp; omega) (fun j hj => px j (by omega)) i (by omega)) (fun i hi => pp ys (es.map Prod.snd) hy4 (by simp; omega) (fun j hj => py j (by omega)) i (by omega)) hap
  rcases List.eq_nil_or_concat es with e0 | ⟨fs, ⟨d', q'⟩, e0⟩
  · have hc0 : ¬ (0 : Int32) < c := fun z => by rw [Int32.lt_iff_toInt_lt, hc, e0] at z; simp at z
    refine k_aloadN (pc := 0) H d4_0 rfl rfl ?_
    refine k_getfield (pc := 1) H (wd hw 24 rfl) Fc d4_1 ?_
    refine k_ifT 59 (pc := 4) H d4_4 rfl (XT.i0_le_t (hc0)) ?_
    refine k_aloadN (pc := 59) H d4_59 rfl rfl ?_
    refine k_getfield (pc := 60) H (wd hw 24 rfl) Fc d4_60 ?_
    refine k_ifT 96 (pc := 63) H d4_63 rfl (XT.i0_le_t (hc0)) ?_
    exact J96 (by rw [e0]; rfl)
  · rw [List.concat_eq_append] at e0
    have hl : es.length = fs.length + 1 := by rw [e0]; simp
    have hc1 : (0 : Int32) < c := (lt_nat (x := 0) (i := 0) rfl hc).mpr (by omega)
    have hi : (c - (1 : Int32)).toInt = (fs.length : Int) := by have := sub_nat (y := 1) (j := 1) hc rfl (by omega); rw [this]; omega
    have hd' : xs[fs.length]? = some d' := by rw [px _ (by omega), e0]; simp
    have hns := hsrt fs d' q' e0
    refine k_aloadN (pc := 0) H d4_0 rfl rfl ?_
    refine k_getfield (pc := 1) H (wd hw 24 rfl) Fc d4_1 ?_
    refine k_ifF (pc := 4) H d4_4 (XT.i0_le_f (hc1)) ?_
    refine k_iloadN (pc := 7) H d4_7 rfl ?_
    refine k_aloadN (pc := 8) H d4_8 rfl rfl ?_
    refine k_getfield (pc := 9) H (wd hw 15 rfl) Fd d4_9 ?_
    refine k_aloadN (pc := 12) H d4_12 rfl rfl ?_
    refine k_getfield (pc := 13) H (wd hw 24 rfl) Fc d4_13 ?_
    refine k_iconst (1 : Int32) (pc := 16) H d4_16 rfl ?_
    refine k_isub (pc := 17) H d4_17 ?_
    refine k_ialoadT (i := fs.length) (x := d') (pc := 18) H Va (hi) (hd') d4_18 ?_
    refine k_icmpT 59 (pc := 19) H d4_19 rfl (XT.ii_ge_t (hns)) ?_
    refine k_aloadN (pc := 59) H d4_59 rfl rfl ?_
    refine k_getfield (pc := 60) H (wd hw 24 rfl) Fc d4_60 ?_
    refine k_ifF (pc := 63) H d4_63 (XT.i0_le_f (hc1)) ?_
    refine k_iloadN (pc := 66) H d4_66 rfl ?_
    refine k_aloadN (pc := 67) H d4_67 rfl rfl ?_
    refine k_getfield (pc := 68) H (wd hw 15 rfl) Fd d4_68 ?_
    refine k_aloadN (pc := 71) H d4_71 rfl rfl ?_
    refine k_getfield (pc := 72) H (wd hw 24 rfl) Fc d4_72 ?_
    refine k_iconst (1 : Int32) (pc := 75) H d4_75 rfl ?_
    refine k_isub (pc := 76) H d4_76 ?_
    refine k_ialoadT (i := fs.length) (x := d') (pc := 77) H Va (hi) (hd') d4_77 ?_
    refine k_icmpR (P := d = d') 96 (pc := 78) H d4_78 rfl XT.ii_ne_t XT.ii_ne_f (fun k0 => ?_) (fun k0 => ?_)
    · exact J96 (by rw [e0]; exact own_set_ne fs (fun z => k0 z.symm))
    · refine k_aloadN (pc := 81) H d4_81 rfl rfl ?_
      refine k_getfield (pc := 82) H (wd hw 17 rfl) Fq d4_82 ?_
      refine k_aloadN (pc := 85) H d4_85 rfl rfl ?_
      refine k_getfield (pc := 86) H (wd hw 24 rfl) Fc d4_86 ?_
      refine k_iconst (1 : Int32) (pc := 89) H d4_89 rfl ?_
      refine k_isub (pc := 90) H d4_90 ?_
      refine k_iloadN (pc := 91) H d4_91 rfl ?_
      refine k_iastoreT (i := fs.length) (pc := 92) H Vb (hi) (by omega) gb d4_92 ?_
      intro h122 K123 V124
      have KW125 : Keep h0 h122 [hA, a, b] := (Keep.refl h0 [hA, a, b]).trans K123 (allS (Or.inl (List.mem_of_getElem? (i := 2) rfl)) all0)
      have f126 : Exa Z h122 hA "com/example/hesabu/hesabu/billing/HeldLicences" := X.keep K123
      have f127 : Fld Z h122 hA "com/example/hesabu/hesabu/billing/HeldLicences" "days" "[I" (.ref a) := Fd.keep K123 (ninS nHb nin0)
      have f128 : Fld Z h122 hA "com/example/hesabu/hesabu/billing/HeldLicences" "quantities" "[I" (.ref b) := Fq.keep K123 (ninS nHb nin0)
      have f129 : Fld Z h122 hA "com/example/hesabu/hesabu/billing/HeldLicences" "count" "I" (.int c) := Fc.keep K123 (ninS nHb nin0)
      have f130 : IA Z h122 a xs := Va.keep K123 (ninS nab nin0)
      refine k_goto 172 (pc := 93) H d4_93 rfl ?_
      have hap : own_set es d q = fs ++ [(d, q)] := by rw [e0, ← k0]; exact own_set_eq fs d q q'
      have lm : (fs.map Prod.snd).length = fs.length := by simp
      exact k_retVoid (pc := 172) H d4_172 (by show 0 ≤ own_rm4_room.cells; decide) (by show 0 ≤ own_rm4_room.slots; decide) (⟨rfl, [hA, a, b], cap, KW125, hws, ⟨a, b, c, _, _, ga, gb, la, lb, nab, f126, f127, f128, f129, f130, V124, by rw [hap, hc, hl]; simp, hxl, by rw [List.length_set]; exact hyl, by rw [hap, List.length_append]; simp; omega, fun i hi => by rw [hap] at hi; rw [px i (by rw [e0]; simpa using hi), hap, e0, ← k0]; simp, by rw [hap, List.map_append]; have := own_pre_rep (q := q) (q' := q') (ds := fs.map Prod.snd) (xs := ys) (by intro i hi; rw [py i (by rw [hl]; simpa using hi), e0]; simp) (by rw [lm]; omega); rw [lm] at this; simpa using this⟩, hcap⟩)
theorem d5_0 : decode prog_5_method_3_code 0 = .ok (.aload_n 0, 1) := by decide +kernel
theorem d5_1 : decode prog_5_method_3_code 1 = .ok (.getfield 13, 3) := by decide +kernel
theorem d5_4 : decode prog_5_method_3_code 4 = .ok (.aload_n 0, 1) := by decide +kernel
theorem d5_5 : decode prog_5_method_3_code 5 = .ok (.getfield 16, 3) := by decide +kernel
theorem d5_8 : decode prog_5_method_3_code 8 = .ok (.iconst 1, 1) := by decide +kernel
theorem d5_9 : decode prog_5_method_3_code 9 = .ok (.isub, 1) := by decide +kernel
theorem d5_10 : decode prog_5_method_3_code 10 = .ok (.iaload, 1) := by decide +kernel
theorem d5_11 : decode prog_5_method_3_code 11 = .ok (.ireturn, 1) := by decide +kernel
abbrev own_rm5_room : Room := { frames := 0, cells := 0, slots := 0, locals := 0 }
set_option maxRecDepth 65536 in
set_option maxHeartbeats 40000000 in
theorem rm5 (l : Launch) (Z : State) (a0 : Array Value) (hw : ∀ d ∈ tables_1, d.before a0 Z = true) (n0 : Nat) (h0 : Heap) (Z0 : n0 ≤ h0.size) (hA : Addr) (es fs : List (Int32 × Int32)) (cap : Nat) (d q : Int32) (HH : own_H Z h0 n0 hA es cap) (he : es = fs ++ [(d, q)]) (hlen : es.length < 1000) :
    Ctr l Z (⟨"com/example/hesabu/hesabu/billing/HeldLicences", "last", "()I"⟩ : MethodName) prog_5_method_3_code 1 (some .int) own_rm5_room n0 #[(.ref hA)] h0 (fun v h => v = some (.int q) ∧ h = h0) := by
  refine Ctr.of #[.val (.ref hA)] (plainFor_of_name pn_2) Z0 (fun m => by first | (simp [entryFrame, mkF, argsToLocals, Value.category]; done) | rfl) ?_
  intro C H
  obtain ⟨a, b, c, xs, ys, ga, gb, la, lb, nab, X, Fd, Fq, Fc, Va, Vb, hc, hxl, hyl, hle, px, py⟩ := HH
  have nHa : hA ≠ a := Nat.ne_of_lt la
  have nHb : hA ≠ b := Nat.ne_of_lt lb
  have hl : es.length = fs.length + 1 := by rw [he]; simp
  have hi : (c - (1 : Int32)).toInt = (fs.length : Int) := by have := sub_nat (y := 1) (j := 1) hc rfl (by omega); rw [this]; omega
  have hq : ys[fs.length]? = some q := by rw [py _ (by omega), he]; simp
  refine k_aloadN (pc := 0) H d5_0 rfl rfl ?_
  refine k_getfield (pc := 1) H (wd hw 17 rfl) Fq d5_1 ?_
  refine k_aloadN (pc := 4) H d5_4 rfl rfl ?_
  refine k_getfield (pc := 5) H (wd hw 24 rfl) Fc d5_5 ?_
  refine k_iconst (1 : Int32) (pc := 8) H d5_8 rfl ?_
  refine k_isub (pc := 9) H d5_9 ?_
  refine k_ialoadT (i := fs.length) (x := q) (pc := 10) H Vb (hi) (hq) d5_10 ?_
  exact k_retInt (pc := 11) H d5_11 (by show 0 ≤ own_rm5_room.cells; decide) (by show 0 ≤ own_rm5_room.slots; decide) (⟨rfl, rfl⟩)
theorem d0_0 : decode code 0 = .ok (.iconst 1, 1) := by decide +kernel
theorem d0_1 : decode code 1 = .ok (.iload 5, 2) := by decide +kernel
theorem d0_3 : decode code 3 = .ok (.bipush 7, 2) := by decide +kernel
theorem d0_5 : decode code 5 = .ok (.iand, 1) := by decide +kernel
theorem d0_6 : decode code 6 = .ok (.iadd, 1) := by decide +kernel
theorem d0_7 : decode code 7 = .ok (.istore 6, 2) := by decide +kernel
theorem d0_9 : decode code 9 = .ok (.bipush 8, 2) := by decide +kernel
theorem d0_11 : decode code 11 = .ok (.newarray .int, 2) := by decide +kernel
theorem d0_13 : decode code 13 = .ok (.dup, 1) := by decide +kernel
theorem d0_14 : decode code 14 = .ok (.iconst 0, 1) := by decide +kernel
theorem d0_15 : decode code 15 = .ok (.iload_n 2, 1) := by decide +kernel
theorem d0_16 : decode code 16 = .ok (.iastore, 1) := by decide +kernel
theorem d0_17 : decode code 17 = .ok (.dup, 1) := by decide +kernel
theorem d0_18 : decode code 18 = .ok (.iconst 1, 1) := by decide +kernel
theorem d0_19 : decode code 19 = .ok (.iload_n 3, 1) := by decide +kernel
theorem d0_20 : decode code 20 = .ok (.iastore, 1) := by decide +kernel
theorem d0_21 : decode code 21 = .ok (.dup, 1) := by decide +kernel
theorem d0_22 : decode code 22 = .ok (.iconst 2, 1) := by decide +kernel
theorem d0_23 : decode code 23 = .ok (.iload 4, 2) := by decide +kernel
theorem d0_25 : decode code 25 = .ok (.iastore, 1) := by decide +kernel
theorem d0_26 : decode code 26 = .ok (.dup, 1) := by decide +kernel
theorem d0_27 : decode code 27 = .ok (.iconst 3, 1) := by decide +kernel
theorem d0_28 : decode code 28 = .ok (.iload_n 2, 1) := by decide +kernel
theorem d0_29 : decode code 29 = .ok (.iconst (-1), 1) := by decide +kernel
theorem d0_30 : decode code 30 = .ok (.ixor, 1) := by decide +kernel
theorem d0_31 : decode code 31 = .ok (.iastore, 1) := by decide +kernel
theorem d0_32 : decode code 32 = .ok (.dup, 1) := by decide +kernel
theorem d0_33 : decode code 33 = .ok (.iconst 4, 1) := by decide +kernel
theorem d0_34 : decode code 34 = .ok (.iload_n 3, 1) := by decide +kernel
theorem d0_35 : decode code 35 = .ok (.iconst (-1), 1) := by decide +kernel
theorem d0_36 : decode code 36 = .ok (.ixor, 1) := by decide +kernel
theorem d0_37 : decode code 37 = .ok (.iastore, 1) := by decide +kernel
theorem d0_38 : decode code 38 = .ok (.dup, 1) := by decide +kernel
theorem d0_39 : decode code 39 = .ok (.iconst 5, 1) := by decide +kernel
theorem d0_40 : decode code 40 = .ok (.iload 4, 2) := by decide +kernel
theorem d0_42 : decode code 42 = .ok (.iconst (-1), 1) := by decide +kernel
theorem d0_43 : decode code 43 = .ok (.ixor, 1) := by decide +kernel
theorem d0_44 : decode code 44 = .ok (.iastore, 1) := by decide +kernel
theorem d0_45 : decode code 45 = .ok (.dup, 1) := by decide +kernel
theorem d0_46 : decode code 46 = .ok (.bipush 6, 2) := by decide +kernel
theorem d0_48 : decode code 48 = .ok (.iload_n 2, 1) := by decide +kernel
theorem d0_49 : decode code 49 = .ok (.iload_n 3, 1) := by decide +kernel
theorem d0_50 : decode code 50 = .ok (.iadd, 1) := by decide +kernel
theorem d0_51 : decode code 51 = .ok (.iastore, 1) := by decide +kernel
theorem d0_52 : decode code 52 = .ok (.dup, 1) := by decide +kernel
theorem d0_53 : decode code 53 = .ok (.bipush 7, 2) := by decide +kernel
theorem d0_55 : decode code 55 = .ok (.iload_n 3, 1) := by decide +kernel
theorem d0_56 : decode code 56 = .ok (.iload 4, 2) := by decide +kernel
theorem d0_58 : decode code 58 = .ok (.ixor, 1) := by decide +kernel
theorem d0_59 : decode code 59 = .ok (.iastore, 1) := by decide +kernel
theorem d0_60 : decode code 60 = .ok (.astore 7, 2) := by decide +kernel
theorem d0_62 : decode code 62 = .ok (.bipush 8, 2) := by decide +kernel
theorem d0_64 : decode code 64 = .ok (.newarray .int, 2) := by decide +kernel
theorem d0_66 : decode code 66 = .ok (.astore 8, 2) := by decide +kernel
theorem d0_68 : decode code 68 = .ok (.iload_n 0, 1) := by decide +kernel
theorem d0_69 : decode code 69 = .ok (.ldc 9, 2) := by decide +kernel
theorem d0_71 : decode code 71 = .ok (.invokestatic 10, 3) := by decide +kernel
theorem d0_74 : decode code 74 = .ok (.istore 9, 2) := by decide +kernel
theorem d0_76 : decode code 76 = .ok (.aload 8, 2) := by decide +kernel
theorem d0_78 : decode code 78 = .ok (.iconst 0, 1) := by decide +kernel
theorem d0_79 : decode code 79 = .ok (.iload 9, 2) := by decide +kernel
theorem d0_81 : decode code 81 = .ok (.iastore, 1) := by decide +kernel
theorem d0_82 : decode code 82 = .ok (.iload 9, 2) := by decide +kernel
theorem d0_84 : decode code 84 = .ok (.iload_n 1, 1) := by decide +kernel
theorem d0_85 : decode code 85 = .ok (.iconst 1, 1) := by decide +kernel
theorem d0_86 : decode code 86 = .ok (.iand, 1) := by decide +kernel
theorem d0_87 : decode code 87 = .ok (.iadd, 1) := by decide +kernel
theorem d0_88 : decode code 88 = .ok (.istore 9, 2) := by decide +kernel
theorem d0_90 : decode code 90 = .ok (.aload 8, 2) := by decide +kernel
theorem d0_92 : decode code 92 = .ok (.iconst 1, 1) := by decide +kernel
theorem d0_93 : decode code 93 = .ok (.iload 9, 2) := by decide +kernel
theorem d0_95 : decode code 95 = .ok (.iastore, 1) := by decide +kernel
theorem d0_96 : decode code 96 = .ok (.iload 9, 2) := by decide +kernel
theorem d0_98 : decode code 98 = .ok (.iload_n 1, 1) := by decide +kernel
theorem d0_99 : decode code 99 = .ok (.iconst 1, 1) := by decide +kernel
theorem d0_100 : decode code 100 = .ok (.iushr, 1) := by decide +kernel
theorem d0_101 : decode code 101 = .ok (.iconst 1, 1) := by decide +kernel
theorem d0_102 : decode code 102 = .ok (.iand, 1) := by decide +kernel
theorem d0_103 : decode code 103 = .ok (.iadd, 1) := by decide +kernel
theorem d0_104 : decode code 104 = .ok (.istore 9, 2) := by decide +kernel
theorem d0_106 : decode code 106 = .ok (.aload 8, 2) := by decide +kernel
theorem d0_108 : decode code 108 = .ok (.iconst 2, 1) := by decide +kernel
theorem d0_109 : decode code 109 = .ok (.iload 9, 2) := by decide +kernel
theorem d0_111 : decode code 111 = .ok (.iastore, 1) := by decide +kernel
theorem d0_112 : decode code 112 = .ok (.iload 9, 2) := by decide +kernel
theorem d0_114 : decode code 114 = .ok (.iload_n 1, 1) := by decide +kernel
theorem d0_115 : decode code 115 = .ok (.iconst 2, 1) := by decide +kernel
theorem d0_116 : decode code 116 = .ok (.iushr, 1) := by decide +kernel
theorem d0_117 : decode code 117 = .ok (.iconst 1, 1) := by decide +kernel
theorem d0_118 : decode code 118 = .ok (.iand, 1) := by decide +kernel
theorem d0_119 : decode code 119 = .ok (.iadd, 1) := by decide +kernel
theorem d0_120 : decode code 120 = .ok (.istore 9, 2) := by decide +kernel
theorem d0_122 : decode code 122 = .ok (.aload 8, 2) := by decide +kernel
theorem d0_124 : decode code 124 = .ok (.iconst 3, 1) := by decide +kernel
theorem d0_125 : decode code 125 = .ok (.iload 9, 2) := by decide +kernel
theorem d0_127 : decode code 127 = .ok (.iastore, 1) := by decide +kernel
theorem d0_128 : decode code 128 = .ok (.iload 9, 2) := by decide +kernel
theorem d0_130 : decode code 130 = .ok (.iload_n 1, 1) := by decide +kernel
theorem d0_131 : decode code 131 = .ok (.iconst 3, 1) := by decide +kernel
theorem d0_132 : decode code 132 = .ok (.iushr, 1) := by decide +kernel
theorem d0_133 : decode code 133 = .ok (.iconst 1, 1) := by decide +kernel
theorem d0_134 : decode code 134 = .ok (.iand, 1) := by decide +kernel
theorem d0_135 : decode code 135 = .ok (.iadd, 1) := by decide +kernel
theorem d0_136 : decode code 136 = .ok (.istore 9, 2) := by decide +kernel
theorem d0_138 : decode code 138 = .ok (.aload 8, 2) := by decide +kernel
theorem d0_140 : decode code 140 = .ok (.iconst 4, 1) := by decide +kernel
theorem d0_141 : decode code 141 = .ok (.iload 9, 2) := by decide +kernel
theorem d0_143 : decode code 143 = .ok (.iastore, 1) := by decide +kernel
theorem d0_144 : decode code 144 = .ok (.iload 9, 2) := by decide +kernel
theorem d0_146 : decode code 146 = .ok (.iload_n 1, 1) := by decide +kernel
theorem d0_147 : decode code 147 = .ok (.iconst 4, 1) := by decide +kernel
theorem d0_148 : decode code 148 = .ok (.iushr, 1) := by decide +kernel
theorem d0_149 : decode code 149 = .ok (.iconst 1, 1) := by decide +kernel
theorem d0_150 : decode code 150 = .ok (.iand, 1) := by decide +kernel
theorem d0_151 : decode code 151 = .ok (.iadd, 1) := by decide +kernel
theorem d0_152 : decode code 152 = .ok (.istore 9, 2) := by decide +kernel
theorem d0_154 : decode code 154 = .ok (.aload 8, 2) := by decide +kernel
theorem d0_156 : decode code 156 = .ok (.iconst 5, 1) := by decide +kernel
theorem d0_157 : decode code 157 = .ok (.iload 9, 2) := by decide +kernel
theorem d0_159 : decode code 159 = .ok (.iastore, 1) := by decide +kernel
theorem d0_160 : decode code 160 = .ok (.iload 9, 2) := by decide +kernel
theorem d0_162 : decode code 162 = .ok (.iload_n 1, 1) := by decide +kernel
theorem d0_163 : decode code 163 = .ok (.iconst 5, 1) := by decide +kernel
theorem d0_164 : decode code 164 = .ok (.iushr, 1) := by decide +kernel
theorem d0_165 : decode code 165 = .ok (.iconst 1, 1) := by decide +kernel
theorem d0_166 : decode code 166 = .ok (.iand, 1) := by decide +kernel
theorem d0_167 : decode code 167 = .ok (.iadd, 1) := by decide +kernel
theorem d0_168 : decode code 168 = .ok (.istore 9, 2) := by decide +kernel
theorem d0_170 : decode code 170 = .ok (.aload 8, 2) := by decide +kernel
theorem d0_172 : decode code 172 = .ok (.bipush 6, 2) := by decide +kernel
theorem d0_174 : decode code 174 = .ok (.iload 9, 2) := by decide +kernel
theorem d0_176 : decode code 176 = .ok (.iastore, 1) := by decide +kernel
theorem d0_177 : decode code 177 = .ok (.iload 9, 2) := by decide +kernel
theorem d0_179 : decode code 179 = .ok (.iload_n 1, 1) := by decide +kernel
theorem d0_180 : decode code 180 = .ok (.bipush 6, 2) := by decide +kernel
theorem d0_182 : decode code 182 = .ok (.iushr, 1) := by decide +kernel
theorem d0_183 : decode code 183 = .ok (.iconst 1, 1) := by decide +kernel
theorem d0_184 : decode code 184 = .ok (.iand, 1) := by decide +kernel
theorem d0_185 : decode code 185 = .ok (.iadd, 1) := by decide +kernel
theorem d0_186 : decode code 186 = .ok (.istore 9, 2) := by decide +kernel
theorem d0_188 : decode code 188 = .ok (.aload 8, 2) := by decide +kernel
theorem d0_190 : decode code 190 = .ok (.bipush 7, 2) := by decide +kernel
theorem d0_192 : decode code 192 = .ok (.iload 9, 2) := by decide +kernel
theorem d0_194 : decode code 194 = .ok (.iastore, 1) := by decide +kernel
theorem d0_195 : decode code 195 = .ok (.new 16, 3) := by decide +kernel
theorem d0_198 : decode code 198 = .ok (.dup, 1) := by decide +kernel
theorem d0_199 : decode code 199 = .ok (.invokespecial 18, 3) := by decide +kernel
theorem d0_202 : decode code 202 = .ok (.astore 10, 2) := by decide +kernel
theorem d0_204 : decode code 204 = .ok (.aload 10, 2) := by decide +kernel
theorem d0_206 : decode code 206 = .ok (.aload 8, 2) := by decide +kernel
theorem d0_208 : decode code 208 = .ok (.iconst 0, 1) := by decide +kernel
theorem d0_209 : decode code 209 = .ok (.iaload, 1) := by decide +kernel
theorem d0_210 : decode code 210 = .ok (.aload 7, 2) := by decide +kernel
theorem d0_212 : decode code 212 = .ok (.iconst 0, 1) := by decide +kernel
theorem d0_213 : decode code 213 = .ok (.iaload, 1) := by decide +kernel
theorem d0_214 : decode code 214 = .ok (.invokevirtual 19, 3) := by decide +kernel
theorem d0_217 : decode code 217 = .ok (.iload 6, 2) := by decide +kernel
theorem d0_219 : decode code 219 = .ok (.iconst 1, 1) := by decide +kernel
theorem d0_220 : decode code 220 = .ok (.if_icmp .le 16, 3) := by decide +kernel
theorem d0_223 : decode code 223 = .ok (.aload 10, 2) := by decide +kernel
theorem d0_225 : decode code 225 = .ok (.aload 8, 2) := by decide +kernel
theorem d0_227 : decode code 227 = .ok (.iconst 1, 1) := by decide +kernel
theorem d0_228 : decode code 228 = .ok (.iaload, 1) := by decide +kernel
theorem d0_229 : decode code 229 = .ok (.aload 7, 2) := by decide +kernel
theorem d0_231 : decode code 231 = .ok (.iconst 1, 1) := by decide +kernel
theorem d0_232 : decode code 232 = .ok (.iaload, 1) := by decide +kernel
theorem d0_233 : decode code 233 = .ok (.invokevirtual 19, 3) := by decide +kernel
theorem d0_236 : decode code 236 = .ok (.iload 6, 2) := by decide +kernel
theorem d0_238 : decode code 238 = .ok (.iconst 2, 1) := by decide +kernel
theorem d0_239 : decode code 239 = .ok (.if_icmp .le 16, 3) := by decide +kernel
theorem d0_242 : decode code 242 = .ok (.aload 10, 2) := by decide +kernel
theorem d0_244 : decode code 244 = .ok (.aload 8, 2) := by decide +kernel
theorem d0_246 : decode code 246 = .ok (.iconst 2, 1) := by decide +kernel
theorem d0_247 : decode code 247 = .ok (.iaload, 1) := by decide +kernel
theorem d0_248 : decode code 248 = .ok (.aload 7, 2) := by decide +kernel
theorem d0_250 : decode code 250 = .ok (.iconst 2, 1) := by decide +kernel
theorem d0_251 : decode code 251 = .ok (.iaload, 1) := by decide +kernel
theorem d0_252 : decode code 252 = .ok (.invokevirtual 19, 3) := by decide +kernel
theorem d0_255 : decode code 255 = .ok (.iload 6, 2) := by decide +kernel
theorem d0_257 : decode code 257 = .ok (.iconst 3, 1) := by decide +kernel
theorem d0_258 : decode code 258 = .ok (.if_icmp .le 16, 3) := by decide +kernel
theorem d0_261 : decode code 261 = .ok (.aload 10, 2) := by decide +kernel
theorem d0_263 : decode code 263 = .ok (.aload 8, 2) := by decide +kernel
theorem d0_265 : decode code 265 = .ok (.iconst 3, 1) := by decide +kernel
theorem d0_266 : decode code 266 = .ok (.iaload, 1) := by decide +kernel
theorem d0_267 : decode code 267 = .ok (.aload 7, 2) := by decide +kernel
theorem d0_269 : decode code 269 = .ok (.iconst 3, 1) := by decide +kernel
theorem d0_270 : decode code 270 = .ok (.iaload, 1) := by decide +kernel
theorem d0_271 : decode code 271 = .ok (.invokevirtual 19, 3) := by decide +kernel
theorem d0_274 : decode code 274 = .ok (.iload 6, 2) := by decide +kernel
theorem d0_276 : decode code 276 = .ok (.iconst 4, 1) := by decide +kernel
theorem d0_277 : decode code 277 = .ok (.if_icmp .le 16, 3) := by decide +kernel
theorem d0_280 : decode code 280 = .ok (.aload 10, 2) := by decide +kernel
theorem d0_282 : decode code 282 = .ok (.aload 8, 2) := by decide +kernel
theorem d0_284 : decode code 284 = .ok (.iconst 4, 1) := by decide +kernel
theorem d0_285 : decode code 285 = .ok (.iaload, 1) := by decide +kernel
theorem d0_286 : decode code 286 = .ok (.aload 7, 2) := by decide +kernel
theorem d0_288 : decode code 288 = .ok (.iconst 4, 1) := by decide +kernel
theorem d0_289 : decode code 289 = .ok (.iaload, 1) := by decide +kernel
theorem d0_290 : decode code 290 = .ok (.invokevirtual 19, 3) := by decide +kernel
theorem d0_293 : decode code 293 = .ok (.iload 6, 2) := by decide +kernel
theorem d0_295 : decode code 295 = .ok (.iconst 5, 1) := by decide +kernel
theorem d0_296 : decode code 296 = .ok (.if_icmp .le 16, 3) := by decide +kernel
theorem d0_299 : decode code 299 = .ok (.aload 10, 2) := by decide +kernel
theorem d0_301 : decode code 301 = .ok (.aload 8, 2) := by decide +kernel
theorem d0_303 : decode code 303 = .ok (.iconst 5, 1) := by decide +kernel
theorem d0_304 : decode code 304 = .ok (.iaload, 1) := by decide +kernel
theorem d0_305 : decode code 305 = .ok (.aload 7, 2) := by decide +kernel
theorem d0_307 : decode code 307 = .ok (.iconst 5, 1) := by decide +kernel
theorem d0_308 : decode code 308 = .ok (.iaload, 1) := by decide +kernel
theorem d0_309 : decode code 309 = .ok (.invokevirtual 19, 3) := by decide +kernel
theorem d0_312 : decode code 312 = .ok (.iload 6, 2) := by decide +kernel
theorem d0_314 : decode code 314 = .ok (.bipush 6, 2) := by decide +kernel
theorem d0_316 : decode code 316 = .ok (.if_icmp .le 18, 3) := by decide +kernel
theorem d0_319 : decode code 319 = .ok (.aload 10, 2) := by decide +kernel
theorem d0_321 : decode code 321 = .ok (.aload 8, 2) := by decide +kernel
theorem d0_323 : decode code 323 = .ok (.bipush 6, 2) := by decide +kernel
theorem d0_325 : decode code 325 = .ok (.iaload, 1) := by decide +kernel
theorem d0_326 : decode code 326 = .ok (.aload 7, 2) := by decide +kernel
theorem d0_328 : decode code 328 = .ok (.bipush 6, 2) := by decide +kernel
theorem d0_330 : decode code 330 = .ok (.iaload, 1) := by decide +kernel
theorem d0_331 : decode code 331 = .ok (.invokevirtual 19, 3) := by decide +kernel
theorem d0_334 : decode code 334 = .ok (.iload 6, 2) := by decide +kernel
theorem d0_336 : decode code 336 = .ok (.bipush 7, 2) := by decide +kernel
theorem d0_338 : decode code 338 = .ok (.if_icmp .le 18, 3) := by decide +kernel
theorem d0_341 : decode code 341 = .ok (.aload 10, 2) := by decide +kernel
theorem d0_343 : decode code 343 = .ok (.aload 8, 2) := by decide +kernel
theorem d0_345 : decode code 345 = .ok (.bipush 7, 2) := by decide +kernel
theorem d0_347 : decode code 347 = .ok (.iaload, 1) := by decide +kernel
theorem d0_348 : decode code 348 = .ok (.aload 7, 2) := by decide +kernel
theorem d0_350 : decode code 350 = .ok (.bipush 7, 2) := by decide +kernel
theorem d0_352 : decode code 352 = .ok (.iaload, 1) := by decide +kernel
theorem d0_353 : decode code 353 = .ok (.invokevirtual 19, 3) := by decide +kernel
theorem d0_356 : decode code 356 = .ok (.aload 10, 2) := by decide +kernel
theorem d0_358 : decode code 358 = .ok (.invokevirtual 23, 3) := by decide +kernel
theorem d0_361 : decode code 361 = .ok (.aload 7, 2) := by decide +kernel
theorem d0_363 : decode code 363 = .ok (.iload 6, 2) := by decide +kernel
theorem d0_365 : decode code 365 = .ok (.iconst 1, 1) := by decide +kernel
theorem d0_366 : decode code 366 = .ok (.isub, 1) := by decide +kernel
theorem d0_367 : decode code 367 = .ok (.iaload, 1) := by decide +kernel
theorem d0_368 : decode code 368 = .ok (.if_icmp .ne 7, 3) := by decide +kernel
theorem d0_371 : decode code 371 = .ok (.iconst 1, 1) := by decide +kernel
theorem d0_372 : decode code 372 = .ok (.goto 4, 3) := by decide +kernel
theorem d0_375 : decode code 375 = .ok (.iconst 0, 1) := by decide +kernel
theorem d0_376 : decode code 376 = .ok (.ireturn, 1) := by decide +kernel
set_option maxRecDepth 65536 in
set_option maxHeartbeats 40000000 in
theorem rm0 (l : Launch) (Z : State) (a0 : Array Value) (hw : ∀ d ∈ tables_1, d.before a0 Z = true) (ws : List Jvm.Cond) (n0 : Nat) (h0 : Heap) (Z0 : n0 ≤ h0.size) (d0 : Int32) (stp : Int32) (q1 : Int32) (q2 : Int32) (q3 : Int32) (md : Int32) :
    MetFree l x (head1 (Jvm.Cond.code x code maxLocals ret :: ws) room_1) (fun as_ U => as_ = #[(.int d0), (.int stp), (.int q1), (.int q2), (.int q3), (.int md)] ∧ Z.Warmed39 U.vm ∧ U.heap = h0) (fun _ _ _ _ _ => True) (fun _ U o U' => ∃ v L, o = .returned v ∧ ((fun v h => v = some (.int 1)) v U'.heap ∧ Fr n0 L) ∧ FrameEnd U o U' L 24 192) := by
  refine met_of (Q := fun v h => v = some (.int 1)) #[.val (.int d0), .val (.int stp), .val (.int q1), .val (.int q2), .val (.int q3), .val (.int md), .unset, .unset, .unset, .unset, .unset] (plainFor_of_name pn_3) Z0 (fun m => by first | (simp [entryFrame, mkF, argsToLocals, Value.category, maxLocals]; done) | rfl) ?_
  intro C H
  refine k_iconst (1 : Int32) (pc := 0) H d0_0 rfl ?_
  refine k_iload (pc := 1) H d0_1 rfl ?_
  refine k_bipush (7 : Int32) (pc := 3) H d0_3 rfl ?_
  refine k_iand (pc := 5) H d0_5 ?_
  refine k_iadd (pc := 6) H d0_6 ?_
  generalize hv_ni : ((1 : Int32) + (md &&& (7 : Int32))) = ni
  refine k_istore (pc := 7) H d0_7 (Ls' := #[.val (.int d0), .val (.int stp), .val (.int q1), .val (.int q2), .val (.int q3), .val (.int md), .val (.int ni), .unset, .unset, .unset, .unset]) rfl ?_
  refine k_bipush (8 : Int32) (pc := 9) H d0_9 rfl ?_
  obtain ⟨n7, hn7, ln7⟩ := mask_nat md 7 3 (by decide) (by decide)
  obtain ⟨n, hn, hn1, hn8⟩ : ∃ n : Nat, ni.toInt = (n : Int) ∧ 1 ≤ n ∧ n ≤ 8 := ⟨1 + n7, by rw [← hv_ni]; exact add_nat rfl hn7 (by omega), by omega, by omega⟩
  refine k_new_int (8) 8 (pc := 11) H (wd hw 0 rfl) d0_11 (by decide) (by decide) (by decide) (by decide) (by decide) ?_
  intro h132 qa ea133 ge134 E135 XA131 V136
  refine k_dup (pc := 13) H d0_13 rfl ?_
  refine k_iconst (0 : Int32) (pc := 14) H d0_14 rfl ?_
  refine k_iloadN (pc := 15) H d0_15 rfl ?_
  refine k_iastoreT (i := 0) (pc := 16) H V136 (by decide) (by simp) ge134 d0_16 ?_
  intro h137 K138 V139
  refine k_dup (pc := 17) H d0_17 rfl ?_
  refine k_iconst (1 : Int32) (pc := 18) H d0_18 rfl ?_
  refine k_iloadN (pc := 19) H d0_19 rfl ?_
  refine k_iastoreT (i := 1) (pc := 20) H V139 (by decide) (by simp) ge134 d0_20 ?_
  intro h140 K141 V142
  refine k_dup (pc := 21) H d0_21 rfl ?_
  refine k_iconst (2 : Int32) (pc := 22) H d0_22 rfl ?_
  refine k_iload (pc := 23) H d0_23 rfl ?_
  refine k_iastoreT (i := 2) (pc := 25) H V142 (by decide) (by simp) ge134 d0_25 ?_
  intro h143 K144 V145
  refine k_dup (pc := 26) H d0_26 rfl ?_
  refine k_iconst (3 : Int32) (pc := 27) H d0_27 rfl ?_
  refine k_iloadN (pc := 28) H d0_28 rfl ?_
  refine k_iconst (-1 : Int32) (pc := 29) H d0_29 rfl ?_
  refine k_ixor (pc := 30) H d0_30 ?_
  refine k_iastoreT (i := 3) (pc := 31) H V145 (by decide) (by simp) ge134 d0_31 ?_
  intro h146 K147 V148
  refine k_dup (pc := 32) H d0_32 rfl ?_
  refine k_iconst (4 : Int32) (pc := 33) H d0_33 rfl ?_
  refine k_iloadN (pc := 34) H d0_34 rfl ?_
  refine k_iconst (-1 : Int32) (pc := 35) H d0_35 rfl ?_
  refine k_ixor (pc := 36) H d0_36 ?_
  refine k_iastoreT (i := 4) (pc := 37) H V148 (by decide) (by simp) ge134 d0_37 ?_
  intro h149 K150 V151
  refine k_dup (pc := 38) H d0_38 rfl ?_
  refine k_iconst (5 : Int32) (pc := 39) H d0_39 rfl ?_
  refine k_iload (pc := 40) H d0_40 rfl ?_
  refine k_iconst (-1 : Int32) (pc := 42) H d0_42 rfl ?_
  refine k_ixor (pc := 43) H d0_43 ?_
  refine k_iastoreT (i := 5) (pc := 44) H V151 (by decide) (by simp) ge134 d0_44 ?_
  intro h152 K153 V154
  refine k_dup (pc := 45) H d0_45 rfl ?_
  refine k_bipush (6 : Int32) (pc := 46) H d0_46 rfl ?_
  refine k_iloadN (pc := 48) H d0_48 rfl ?_
  refine k_iloadN (pc := 49) H d0_49 rfl ?_
  refine k_iadd (pc := 50) H d0_50 ?_
  refine k_iastoreT (i := 6) (pc := 51) H V154 (by decide) (by simp) ge134 d0_51 ?_
  intro h155 K156 V157
  refine k_dup (pc := 52) H d0_52 rfl ?_
  refine k_bipush (7 : Int32) (pc := 53) H d0_53 rfl ?_
  refine k_iloadN (pc := 55) H d0_55 rfl ?_
  refine k_iload (pc := 56) H d0_56 rfl ?_
  refine k_ixor (pc := 58) H d0_58 ?_
  refine k_iastoreT (i := 7) (pc := 59) H V157 (by decide) (by simp) ge134 d0_59 ?_
  intro h158 K159 V160
  have VQ : IA Z h158 qa [q1, q2, q3, q1 ^^^ (-1 : Int32), q2 ^^^ (-1 : Int32), q3 ^^^ (-1 : Int32), q1 + q2, q2 ^^^ q3] := by simpa [List.replicate] using V160
  refine k_astore (pc := 60) H d0_60 rfl (Ls' := #[.val (.int d0), .val (.int stp), .val (.int q1), .val (.int q2), .val (.int q3), .val (.int md), .val (.int ni), .val (.ref qa), .unset, .unset, .unset]) rfl ?_
  refine k_bipush (8 : Int32) (pc := 62) H d0_62 rfl ?_
  refine k_new_int (8) 8 (pc := 64) H (wd hw 0 rfl) d0_64 (by decide) (by decide) (by decide) (by decide) (by decide) ?_
  intro h162 da ea163 ge164 E165 XA161 V166
  have ne167 : qa ≠ da := Nat.ne_of_lt (by rw [ea163]; exact VQ.lt)
  have f168 : IA Z h162 qa [q1, q2, q3, q1 ^^^ (-1 : Int32), q2 ^^^ (-1 : Int32), q3 ^^^ (-1 : Int32), q1 + q2, q2 ^^^ q3] := VQ.ext E165
  refine k_astore (pc := 66) H d0_66 rfl (Ls' := #[.val (.int d0), .val (.int stp), .val (.int q1), .val (.int q2), .val (.int q3), .val (.int md), .val (.int ni), .val (.ref qa), .val (.ref da), .unset, .unset]) rfl ?_
  refine k_iloadN (pc := 68) H d0_68 rfl ?_
  refine k_ldcI (v := (2147483639 : Int32)) (pc := 69) H (wd hw 1 rfl) d0_69 ?_
  refine k_invS (y := (⟨"java/lang/Math", "min", "(II)I"⟩ : MethodName)) (st := []) [(.int d0), (.int (2147483639 : Int32))] 0 (pc := 71) H (wd hw 2 rfl) (wd hw 3 rfl) (wd hw 4 rfl) (wd hw 5 rfl) (by decide) (fun z0 => rm1 l Z a0 hw n0 h162 z0 d0 (2147483639 : Int32)) (lenOf pd_0 rfl) d0_71 rfl rfl rfl (by decide) (by decide) (by decide) (by decide) ?_
  rintro v hx ⟨rfl, ex⟩
  rw [ex]
  clear ex hx
  show W l room_1 C _ h162 2 16 74 #[.val (.int d0), .val (.int stp), .val (.int q1), .val (.int q2), .val (.int q3), .val (.int md), .val (.int ni), .val (.ref qa), .val (.ref da), .unset, .unset] [(.int (if (2147483639 : Int32) < d0 then (2147483639 : Int32) else d0))]
  generalize hv_D0 : (if (2147483639 : Int32) < d0 then (2147483639 : Int32) else d0) = D0
  refine k_istore (pc := 74) H d0_74 (Ls' := #[.val (.int d0), .val (.int stp), .val (.int q1), .val (.int q2), .val (.int q3), .val (.int md), .val (.int ni), .val (.ref qa), .val (.ref da), .val (.int D0), .unset]) rfl ?_
  refine k_aload (pc := 76) H d0_76 rfl rfl ?_
  refine k_iconst (0 : Int32) (pc := 78) H d0_78 rfl ?_
  refine k_iload (pc := 79) H d0_79 rfl ?_
  have b0 : D0.toInt ≤ 2147483639 := own_min hv_D0 rfl
  refine k_iastoreT (i := 0) (pc := 81) H V166 (by decide) (by simp) ge164 d0_81 ?_
  intro h169 K170 V171
  have f172 : IA Z h169 qa [q1, q2, q3, q1 ^^^ (-1 : Int32), q2 ^^^ (-1 : Int32), q3 ^^^ (-1 : Int32), q1 + q2, q2 ^^^ q3] := f168.keep K170 (ninS ne167 nin0)
  refine k_iload (pc := 82) H d0_82 rfl ?_
  refine k_iloadN (pc := 84) H d0_84 rfl ?_
  refine k_iconst (1 : Int32) (pc := 85) H d0_85 rfl ?_
  refine k_iand (pc := 86) H d0_86 ?_
  refine k_iadd (pc := 87) H d0_87 ?_
  generalize hv_D1 : (D0 + (stp &&& (1 : Int32))) = D1
  refine k_istore (pc := 88) H d0_88 (Ls' := #[.val (.int d0), .val (.int stp), .val (.int q1), .val (.int q2), .val (.int q3), .val (.int md), .val (.int ni), .val (.ref qa), .val (.ref da), .val (.int D1), .unset]) rfl ?_
  refine k_aload (pc := 90) H d0_90 rfl rfl ?_
  refine k_iconst (1 : Int32) (pc := 92) H d0_92 rfl ?_
  refine k_iload (pc := 93) H d0_93 rfl ?_
  obtain ⟨m0, hm0, lm0⟩ := mask_nat stp 1 1 (by decide) (by decide)
  obtain ⟨s1, b1, -⟩ := own_inc (B := 2147483639) hv_D1 hm0 b0 (by omega)
  have b1' : D1.toInt ≤ 2147483640 := by omega
  clear b1
  have b1 := b1'
  refine k_iastoreT (i := 1) (pc := 95) H V171 (by decide) (by simp) ge164 d0_95 ?_
  intro h173 K174 V175
  have f176 : IA Z h173 qa [q1, q2, q3, q1 ^^^ (-1 : Int32), q2 ^^^ (-1 : Int32), q3 ^^^ (-1 : Int32), q1 + q2, q2 ^^^ q3] := f172.keep K174 (ninS ne167 nin0)
  refine k_iload (pc := 96) H d0_96 rfl ?_
  refine k_iloadN (pc := 98) H d0_98 rfl ?_
  refine k_iconst (1 : Int32) (pc := 99) H d0_99 rfl ?_
  refine k_iushr (pc := 100) H d0_100 ?_
  refine k_iconst (1 : Int32) (pc := 101) H d0_101 rfl ?_
  refine k_iand (pc := 102) H d0_102 ?_
  refine k_iadd (pc := 103) H d0_103 ?_
  generalize hv_D2 : (D1 + ((XT.ushr stp (1 : Int32)) &&& (1 : Int32))) = D2
  refine k_istore (pc := 104) H d0_104 (Ls' := #[.val (.int d0), .val (.int stp), .val (.int q1), .val (.int q2), .val (.int q3), .val (.int md), .val (.int ni), .val (.ref qa), .val (.ref da), .val (.int D2), .unset]) rfl ?_
  refine k_aload (pc := 106) H d0_106 rfl rfl ?_
  refine k_iconst (2 : Int32) (pc := 108) H d0_108 rfl ?_
  refine k_iload (pc := 109) H d0_109 rfl ?_
  obtain ⟨m1, hm1, lm1⟩ := mask_nat (XT.ushr stp 1) 1 1 (by decide) (by decide)
  obtain ⟨s2, b2, -⟩ := own_inc (B := 2147483640) hv_D2 hm1 b1 (by omega)
  have b2' : D2.toInt ≤ 2147483641 := by omega
  clear b2
  have b2 := b2'
  refine k_iastoreT (i := 2) (pc := 111) H V175 (by decide) (by simp) ge164 d0_111 ?_
  intro h177 K178 V179
  have f180 : IA Z h177 qa [q1, q2, q3, q1 ^^^ (-1 : Int32), q2 ^^^ (-1 : Int32), q3 ^^^ (-1 : Int32), q1 + q2, q2 ^^^ q3] := f176.keep K178 (ninS ne167 nin0)
  refine k_iload (pc := 112) H d0_112 rfl ?_
  refine k_iloadN (pc := 114) H d0_114 rfl ?_
  refine k_iconst (2 : Int32) (pc := 115) H d0_115 rfl ?_
  refine k_iushr (pc := 116) H d0_116 ?_
  refine k_iconst (1 : Int32) (pc := 117) H d0_117 rfl ?_
  refine k_iand (pc := 118) H d0_118 ?_
  refine k_iadd (pc := 119) H d0_119 ?_
  generalize hv_D3 : (D2 + ((XT.ushr stp (2 : Int32)) &&& (1 : Int32))) = D3
  refine k_istore (pc := 120) H d0_120 (Ls' := #[.val (.int d0), .val (.int stp), .val (.int q1), .val (.int q2), .val (.int q3), .val (.int md), .val (.int ni), .val (.ref qa), .val (.ref da), .val (.int D3), .unset]) rfl ?_
  refine k_aload (pc := 122) H d0_122 rfl rfl ?_
  refine k_iconst (3 : Int32) (pc := 124) H d0_124 rfl ?_
  refine k_iload (pc := 125) H d0_125 rfl ?_
  obtain ⟨m2, hm2, lm2⟩ := mask_nat (XT.ushr stp 2) 1 1 (by decide) (by decide)
  obtain ⟨s3, b3, -⟩ := own_inc (B := 2147483641) hv_D3 hm2 b2 (by omega)
  have b3' : D3.toInt ≤ 2147483642 := by omega
  clear b3
  have b3 := b3'
  refine k_iastoreT (i := 3) (pc := 127) H V179 (by decide) (by simp) ge164 d0_127 ?_
  intro h181 K182 V183
  have f184 : IA Z h181 qa [q1, q2, q3, q1 ^^^ (-1 : Int32), q2 ^^^ (-1 : Int32), q3 ^^^ (-1 : Int32), q1 + q2, q2 ^^^ q3] := f180.keep K182 (ninS ne167 nin0)
  refine k_iload (pc := 128) H d0_128 rfl ?_
  refine k_iloadN (pc := 130) H d0_130 rfl ?_
  refine k_iconst (3 : Int32) (pc := 131) H d0_131 rfl ?_
  refine k_iushr (pc := 132) H d0_132 ?_
  refine k_iconst (1 : Int32) (pc := 133) H d0_133 rfl ?_
  refine k_iand (pc := 134) H d0_134 ?_
  refine k_iadd (pc := 135) H d0_135 ?_
  generalize hv_D4 : (D3 + ((XT.ushr stp (3 : Int32)) &&& (1 : Int32))) = D4
  refine k_istore (pc := 136) H d0_136 (Ls' := #[.val (.int d0), .val (.int stp), .val (.int q1), .val (.int q2), .val (.int q3), .val (.int md), .val (.int ni), .val (.ref qa), .val (.ref da), .val (.int D4), .unset]) rfl ?_
  refine k_aload (pc := 138) H d0_138 rfl rfl ?_
  refine k_iconst (4 : Int32) (pc := 140) H d0_140 rfl ?_
  refine k_iload (pc := 141) H d0_141 rfl ?_
  obtain ⟨m3, hm3, lm3⟩ := mask_nat (XT.ushr stp 3) 1 1 (by decide) (by decide)
  obtain ⟨s4, b4, -⟩ := own_inc (B := 2147483642) hv_D4 hm3 b3 (by omega)
  have b4' : D4.toInt ≤ 2147483643 := by omega
  clear b4
  have b4 := b4'
  refine k_iastoreT (i := 4) (pc := 143) H V183 (by decide) (by simp) ge164 d0_143 ?_
  intro h185 K186 V187
  have f188 : IA Z h185 qa [q1, q2, q3, q1 ^^^ (-1 : Int32), q2 ^^^ (-1 : Int32), q3 ^^^ (-1 : Int32), q1 + q2, q2 ^^^ q3] := f184.keep K186 (ninS ne167 nin0)
  refine k_iload (pc := 144) H d0_144 rfl ?_
  refine k_iloadN (pc := 146) H d0_146 rfl ?_
  refine k_iconst (4 : Int32) (pc := 147) H d0_147 rfl ?_
  refine k_iushr (pc := 148) H d0_148 ?_
  refine k_iconst (1 : Int32) (pc := 149) H d0_149 rfl ?_
  refine k_iand (pc := 150) H d0_150 ?_
  refine k_iadd (pc := 151) H d0_151 ?_
  generalize hv_D5 : (D4 + ((XT.ushr stp (4 : Int32)) &&& (1 : Int32))) = D5
  refine k_istore (pc := 152) H d0_152 (Ls' := #[.val (.int d0), .val (.int stp), .val (.int q1), .val (.int q2), .val (.int q3), .val (.int md), .val (.int ni), .val (.ref qa), .val (.ref da), .val (.int D5), .unset]) rfl ?_
  refine k_aload (pc := 154) H d0_154 rfl rfl ?_
  refine k_iconst (5 : Int32) (pc := 156) H d0_156 rfl ?_
  refine k_iload (pc := 157) H d0_157 rfl ?_
  obtain ⟨m4, hm4, lm4⟩ := mask_nat (XT.ushr stp 4) 1 1 (by decide) (by decide)
  obtain ⟨s5, b5, -⟩ := own_inc (B := 2147483643) hv_D5 hm4 b4 (by omega)
  have b5' : D5.toInt ≤ 2147483644 := by omega
  clear b5
  have b5 := b5'
  refine k_iastoreT (i := 5) (pc := 159) H V187 (by decide) (by simp) ge164 d0_159 ?_
  intro h189 K190 V191
  have f192 : IA Z h189 qa [q1, q2, q3, q1 ^^^ (-1 : Int32), q2 ^^^ (-1 : Int32), q3 ^^^ (-1 : Int32), q1 + q2, q2 ^^^ q3] := f188.keep K190 (ninS ne167 nin0)
  refine k_iload (pc := 160) H d0_160 rfl ?_
  refine k_iloadN (pc := 162) H d0_162 rfl ?_
  refine k_iconst (5 : Int32) (pc := 163) H d0_163 rfl ?_
  refine k_iushr (pc := 164) H d0_164 ?_
  refine k_iconst (1 : Int32) (pc := 165) H d0_165 rfl ?_
  refine k_iand (pc := 166) H d0_166 ?_
  refine k_iadd (pc := 167) H d0_167 ?_
  generalize hv_D6 : (D5 + ((XT.ushr stp (5 : Int32)) &&& (1 : Int32))) = D6
  refine k_istore (pc := 168) H d0_168 (Ls' := #[.val (.int d0), .val (.int stp), .val (.int q1), .val (.int q2), .val (.int q3), .val (.int md), .val (.int ni), .val (.ref qa), .val (.ref da), .val (.int D6), .unset]) rfl ?_
  refine k_aload (pc := 170) H d0_170 rfl rfl ?_
  refine k_bipush (6 : Int32) (pc := 172) H d0_172 rfl ?_
  refine k_iload (pc := 174) H d0_174 rfl ?_
  obtain ⟨m5, hm5, lm5⟩ := mask_nat (XT.ushr stp 5) 1 1 (by decide) (by decide)
  obtain ⟨s6, b6, -⟩ := own_inc (B := 2147483644) hv_D6 hm5 b5 (by omega)
  have b6' : D6.toInt ≤ 2147483645 := by omega
  clear b6
  have b6 := b6'
  refine k_iastoreT (i := 6) (pc := 176) H V191 (by decide) (by simp) ge164 d0_176 ?_
  intro h193 K194 V195
  have f196 : IA Z h193 qa [q1, q2, q3, q1 ^^^ (-1 : Int32), q2 ^^^ (-1 : Int32), q3 ^^^ (-1 : Int32), q1 + q2, q2 ^^^ q3] := f192.keep K194 (ninS ne167 nin0)
  refine k_iload (pc := 177) H d0_177 rfl ?_
  refine k_iloadN (pc := 179) H d0_179 rfl ?_
  refine k_bipush (6 : Int32) (pc := 180) H d0_180 rfl ?_
  refine k_iushr (pc := 182) H d0_182 ?_
  refine k_iconst (1 : Int32) (pc := 183) H d0_183 rfl ?_
  refine k_iand (pc := 184) H d0_184 ?_
  refine k_iadd (pc := 185) H d0_185 ?_
  generalize hv_D7 : (D6 + ((XT.ushr stp (6 : Int32)) &&& (1 : Int32))) = D7
  refine k_istore (pc := 186) H d0_186 (Ls' := #[.val (.int d0), .val (.int stp), .val (.int q1), .val (.int q2), .val (.int q3), .val (.int md), .val (.int ni), .val (.ref qa), .val (.ref da), .val (.int D7), .unset]) rfl ?_
  refine k_aload (pc := 188) H d0_188 rfl rfl ?_
  refine k_bipush (7 : Int32) (pc := 190) H d0_190 rfl ?_
  refine k_iload (pc := 192) H d0_192 rfl ?_
  obtain ⟨m6, hm6, lm6⟩ := mask_nat (XT.ushr stp 6) 1 1 (by decide) (by decide)
  obtain ⟨s7, b7, -⟩ := own_inc (B := 2147483645) hv_D7 hm6 b6 (by omega)
  have b7' : D7.toInt ≤ 2147483646 := by omega
  clear b7
  have b7 := b7'
  refine k_iastoreT (i := 7) (pc := 194) H V195 (by decide) (by simp) ge164 d0_194 ?_
  intro h197 K198 V199
  have f200 : IA Z h197 qa [q1, q2, q3, q1 ^^^ (-1 : Int32), q2 ^^^ (-1 : Int32), q3 ^^^ (-1 : Int32), q1 + q2, q2 ^^^ q3] := f196.keep K198 (ninS ne167 nin0)
  have VD : IA Z h197 da [D0, D1, D2, D3, D4, D5, D6, D7] := by simpa [List.replicate] using V199
  refine k_newObj (pc := 195) H (wd hw 6 rfl) (wd hw 7 rfl) (wd hw 8 rfl) d0_195 (by decide) (by decide) ?_
  intro h201 hA ea202 ge203 E204 X205 D206
  have ne207 : qa ≠ hA := Nat.ne_of_lt (by rw [ea202]; exact f200.lt)
  have ne208 : da ≠ hA := Nat.ne_of_lt (by rw [ea202]; exact VD.lt)
  have f209 : IA Z h201 qa [q1, q2, q3, q1 ^^^ (-1 : Int32), q2 ^^^ (-1 : Int32), q3 ^^^ (-1 : Int32), q1 + q2, q2 ^^^ q3] := f200.ext E204
  have f210 : IA Z h201 da [D0, D1, D2, D3, D4, D5, D6, D7] := VD.ext E204
  have f211 : Fld Z h201 hA "com/example/hesabu/hesabu/billing/HeldLicences" "days" "[I" .null := D206 (Or.inl (wd hw 16 rfl)) (ty := (.array .int)) (by decide)
  have f212 : Fld Z h201 hA "com/example/hesabu/hesabu/billing/HeldLicences" "quantities" "[I" .null := D206 (Or.inl (wd hw 18 rfl)) (ty := (.array .int)) (by decide)
  have f213 : Fld Z h201 hA "com/example/hesabu/hesabu/billing/HeldLicences" "count" "I" (.int (0 : Int32)) := D206 (Or.inl (wd hw 25 rfl)) (ty := .int) (by decide)
  refine k_dup (pc := 198) H d0_198 rfl ?_
  have lq : qa < hA := by rw [ea202]; exact f200.lt
  have ld : da < hA := by rw [ea202]; exact VD.lt
  refine k_invI (y := (⟨"com/example/hesabu/hesabu/billing/HeldLicences", "<init>", "()V"⟩ : MethodName)) (st := [(.ref hA)]) (a := hA) [] 1 (pc := 199) H rfl (wd hw 9 rfl) (wd hw 10 rfl) (wd hw 8 rfl) (wd hw 11 rfl) (by decide) (fun z0 => rm2 l Z a0 hw n0 h201 z0 hA ge203 X205 f211 f212 f213) (lenOf pd_2 rfl) d0_199 rfl rfl rfl (by decide) (by decide) (by decide) (by decide) ?_
  rintro v hI ⟨rfl, KI, H0⟩
  show W l room_1 C _ hI 5 27 202 #[.val (.int d0), .val (.int stp), .val (.int q1), .val (.int q2), .val (.int q3), .val (.int md), .val (.int ni), .val (.ref qa), .val (.ref da), .val (.int D7), .unset] [(.ref hA)]
  have VQ0 := f209.keep KI (ninS (Nat.ne_of_lt lq) nin0)
  have VD0 := f210.keep KI (ninS (Nat.ne_of_lt ld) nin0)
  have gH : n0 ≤ hA := ge203
  refine k_astore (pc := 202) H d0_202 rfl (Ls' := #[.val (.int d0), .val (.int stp), .val (.int q1), .val (.int q2), .val (.int q3), .val (.int md), .val (.int ni), .val (.ref qa), .val (.ref da), .val (.int D7), .val (.ref hA)]) rfl ?_
  refine k_aload (pc := 204) H d0_204 rfl rfl ?_
  refine k_aload (pc := 206) H d0_206 rfl rfl ?_
  refine k_iconst (0 : Int32) (pc := 208) H d0_208 rfl ?_
  have J356 : ∀ (hh : Heap) (es fs : List (Int32 × Int32)) (cap : Nat) (D Q : Int32) (T : own_H Z hh n0 hA es cap) (V : IA Z hh qa [q1, q2, q3, q1 ^^^ (-1 : Int32), q2 ^^^ (-1 : Int32), q3 ^^^ (-1 : Int32), q1 + q2, q2 ^^^ q3]) (he : es = fs ++ [(D, Q)]) (hl : es.length ≤ 8) (hQ : ([q1, q2, q3, q1 ^^^ (-1 : Int32), q2 ^^^ (-1 : Int32), q3 ^^^ (-1 : Int32), q1 + q2, q2 ^^^ q3] : List Int32)[n - 1]? = some Q), W l room_1 C (n0, 24, 192, fun v h => v = some (.int 1)) hh 21 155 356 #[.val (.int d0), .val (.int stp), .val (.int q1), .val (.int q2), .val (.int q3), .val (.int md), .val (.int ni), .val (.ref qa), .val (.ref da), .val (.int D7), .val (.ref hA)] [] := by
    intro hh es fs cap D Q T V he hl hQ
    have T' := T
    obtain ⟨a, b, c, xs, ys, ga, gb, la, lb, nab, X, -⟩ := T'
    refine k_aload (pc := 356) H d0_356 rfl rfl ?_
    refine k_invV (y := (⟨"com/example/hesabu/hesabu/billing/HeldLicences", "last", "()I"⟩ : MethodName)) (st := []) (a := hA) [] 0 (pc := 358) H (wd hw 26 rfl) (wd hw 27 rfl) (wd hw 29 rfl) (wd hw 28 rfl) (wd hw 8 rfl) (wd hw 30 rfl) rfl (by decide) X (fun z0 => rm5 l Z a0 hw n0 hh z0 hA es fs cap D Q T he (by omega)) (lenOf pd_3 rfl) d0_358 rfl rfl rfl (by decide) (by decide) (by decide) (by decide) ?_
    rintro v hx ⟨rfl, ex⟩
    rw [ex]
    clear ex hx
    show W l room_1 C _ hh 21 155 361 #[.val (.int d0), .val (.int stp), .val (.int q1), .val (.int q2), .val (.int q3), .val (.int md), .val (.int ni), .val (.ref qa), .val (.ref da), .val (.int D7), .val (.ref hA)] [(.int Q)]
    refine k_aload (pc := 361) H d0_361 rfl rfl ?_
    refine k_iload (pc := 363) H d0_363 rfl ?_
    refine k_iconst (1 : Int32) (pc := 365) H d0_365 rfl ?_
    refine k_isub (pc := 366) H d0_366 ?_
    refine k_ialoadT (i := (n - 1)) (x := Q) (pc := 367) H V (sub_nat hn rfl (by omega)) (hQ) d0_367 ?_
    refine k_icmpF (pc := 368) H d0_368 (XT.ii_ne_f (rfl)) ?_
    refine k_iconst (1 : Int32) (pc := 371) H d0_371 rfl ?_
    refine k_goto 376 (pc := 372) H d0_372 rfl ?_
    exact k_retN' (t := .boolean) (by simp) (pc := 376) H d0_376 (by show 21 ≤ 24; decide) (by show 155 ≤ 192; decide) (rfl)
  refine k_ialoadT (i := 0) (x := D0) (pc := 209) H VD0 (rfl) (rfl) d0_209 ?_
  refine k_aload (pc := 210) H d0_210 rfl rfl ?_
  refine k_iconst (0 : Int32) (pc := 212) H d0_212 rfl ?_
  refine k_ialoadT (i := 0) (x := q1) (pc := 213) H VQ0 (rfl) (rfl) d0_213 ?_
  obtain ⟨_, _, _, _, _, -, -, -, -, -, X0, -⟩ := id H0
  refine k_invV (y := (⟨"com/example/hesabu/hesabu/billing/HeldLicences", "set", "(II)V"⟩ : MethodName)) (st := []) (a := hA) [(.int D0), (.int q1)] 0 (pc := 214) H (wd hw 19 rfl) (wd hw 20 rfl) (wd hw 22 rfl) (wd hw 21 rfl) (wd hw 8 rfl) (wd hw 23 rfl) rfl (by decide) X0 (fun z0 => rm4 l Z a0 hw n0 hI z0 hA [] 4 D0 q1 gH H0 (Or.inl rfl) (by decide) (fun fs d' q' e => by simp at e)) (lenOf pd_4 rfl) d0_214 rfl rfl rfl (by decide) (by decide) (by decide) (by decide) ?_
  rintro v hS0 ⟨rfl, ws0, cap0, K0, hw0, H0', hc0⟩
  show W l room_1 C _ hS0 7 43 217 #[.val (.int d0), .val (.int stp), .val (.int q1), .val (.int q2), .val (.int q3), .val (.int md), .val (.int ni), .val (.ref qa), .val (.ref da), .val (.int D7), .val (.ref hA)] []
  obtain ⟨hl0, -⟩ := own_set_len [] D0 q1
  obtain ⟨fs0, hf0⟩ := own_set_last [] D0 q1
  generalize own_set [] D0 q1 = es0 at hl0 hf0 H0'
  have ll0 : es0.length ≤ 1 := by simpa using hl0
  have VQ1 := VQ0.keep K0 (fun z => absurd (hw0 _ z) (Nat.not_le.mpr lq))
  have VD1 := VD0.keep K0 (fun z => absurd (hw0 _ z) (Nat.not_le.mpr ld))
  refine k_iload (pc := 217) H d0_217 rfl ?_
  refine k_iconst (1 : Int32) (pc := 219) H d0_219 rfl ?_
  refine k_icmpR (P := (1 : Int32) < ni) 236 (pc := 220) H d0_220 rfl XT.ii_le_t XT.ii_le_f (fun t1 => ?_) (fun t1 => ?_)
  · refine k_iload (pc := 236) H d0_236 rfl ?_
    refine k_iconst (2 : Int32) (pc := 238) H d0_238 rfl ?_
    refine k_icmpT 255 (pc := 239) H d0_239 rfl (XT.ii_le_t (own_nlt (i := 1) (j := 2) t1 rfl rfl (by decide))) ?_
    refine k_iload (pc := 255) H d0_255 rfl ?_
    refine k_iconst (3 : Int32) (pc := 257) H d0_257 rfl ?_
    refine k_icmpT 274 (pc := 258) H d0_258 rfl (XT.ii_le_t (own_nlt (i := 1) (j := 3) t1 rfl rfl (by decide))) ?_
    refine k_iload (pc := 274) H d0_274 rfl ?_
    refine k_iconst (4 : Int32) (pc := 276) H d0_276 rfl ?_
    refine k_icmpT 293 (pc := 277) H d0_277 rfl (XT.ii_le_t (own_nlt (i := 1) (j := 4) t1 rfl rfl (by decide))) ?_
    refine k_iload (pc := 293) H d0_293 rfl ?_
    refine k_iconst (5 : Int32) (pc := 295) H d0_295 rfl ?_
    refine k_icmpT 312 (pc := 296) H d0_296 rfl (XT.ii_le_t (own_nlt (i := 1) (j := 5) t1 rfl rfl (by decide))) ?_
    refine k_iload (pc := 312) H d0_312 rfl ?_
    refine k_bipush (6 : Int32) (pc := 314) H d0_314 rfl ?_
    refine k_icmpT 334 (pc := 316) H d0_316 rfl (XT.ii_le_t (own_nlt (i := 1) (j := 6) t1 rfl rfl (by decide))) ?_
    refine k_iload (pc := 334) H d0_334 rfl ?_
    refine k_bipush (7 : Int32) (pc := 336) H d0_336 rfl ?_
    refine k_icmpT 356 (pc := 338) H d0_338 rfl (XT.ii_le_t (own_nlt (i := 1) (j := 7) t1 rfl rfl (by decide))) ?_
    have hnk : n = 1 := by have : ¬ 1 < n := fun z => t1 ((lt_nat (x := 1) (i := 1) rfl hn).mpr z); omega
    exact W.more (by decide) (by decide) (J356 _ es0 fs0 cap0 D0 q1 H0' VQ1 hf0 (by omega) (by rw [hnk]; rfl))
  · refine k_aload (pc := 223) H d0_223 rfl rfl ?_
    refine k_aload (pc := 225) H d0_225 rfl rfl ?_
    refine k_iconst (1 : Int32) (pc := 227) H d0_227 rfl ?_
    refine k_ialoadT (i := 1) (x := D1) (pc := 228) H VD1 (rfl) (rfl) d0_228 ?_
    refine k_aload (pc := 229) H d0_229 rfl rfl ?_
    refine k_iconst (1 : Int32) (pc := 231) H d0_231 rfl ?_
    refine k_ialoadT (i := 1) (x := q2) (pc := 232) H VQ1 (rfl) (rfl) d0_232 ?_
    obtain ⟨_, _, _, _, _, -, -, -, -, -, X1, -⟩ := id H0'
    refine k_invV (y := (⟨"com/example/hesabu/hesabu/billing/HeldLicences", "set", "(II)V"⟩ : MethodName)) (st := []) (a := hA) [(.int D1), (.int q2)] 0 (pc := 233) H (wd hw 19 rfl) (wd hw 20 rfl) (wd hw 22 rfl) (wd hw 21 rfl) (wd hw 8 rfl) (wd hw 23 rfl) rfl (by decide) X1 (fun z0 => rm4 l Z a0 hw n0 hS0 z0 hA es0 cap0 D1 q2 gH H0' hc0 (by omega) (own_srt hf0 s1)) (lenOf pd_4 rfl) d0_233 rfl rfl rfl (by decide) (by decide) (by decide) (by decide) ?_
    rintro v hS1 ⟨rfl, ws1, cap1, K1, hw1, H1', hc1⟩
    show W l room_1 C _ hS1 9 59 236 #[.val (.int d0), .val (.int stp), .val (.int q1), .val (.int q2), .val (.int q3), .val (.int md), .val (.int ni), .val (.ref qa), .val (.ref da), .val (.int D7), .val (.ref hA)] []
    obtain ⟨hl1, -⟩ := own_set_len es0 D1 q2
    obtain ⟨fs1, hf1⟩ := own_set_last es0 D1 q2
    generalize own_set es0 D1 q2 = es1 at hl1 hf1 H1'
    have ll1 : es1.length ≤ 2 := by omega
    have VQ2 := VQ1.keep K1 (fun z => absurd (hw1 _ z) (Nat.not_le.mpr lq))
    have VD2 := VD1.keep K1 (fun z => absurd (hw1 _ z) (Nat.not_le.mpr ld))
    refine k_iload (pc := 236) H d0_236 rfl ?_
    refine k_iconst (2 : Int32) (pc := 238) H d0_238 rfl ?_
    refine k_icmpR (P := (2 : Int32) < ni) 255 (pc := 239) H d0_239 rfl XT.ii_le_t XT.ii_le_f (fun t2 => ?_) (fun t2 => ?_)
    · refine k_iload (pc := 255) H d0_255 rfl ?_
      refine k_iconst (3 : Int32) (pc := 257) H d0_257 rfl ?_
      refine k_icmpT 274 (pc := 258) H d0_258 rfl (XT.ii_le_t (own_nlt (i := 2) (j := 3) t2 rfl rfl (by decide))) ?_
      refine k_iload (pc := 274) H d0_274 rfl ?_
      refine k_iconst (4 : Int32) (pc := 276) H d0_276 rfl ?_
      refine k_icmpT 293 (pc := 277) H d0_277 rfl (XT.ii_le_t (own_nlt (i := 2) (j := 4) t2 rfl rfl (by decide))) ?_
      refine k_iload (pc := 293) H d0_293 rfl ?_
      refine k_iconst (5 : Int32) (pc := 295) H d0_295 rfl ?_
      refine k_icmpT 312 (pc := 296) H d0_296 rfl (XT.ii_le_t (own_nlt (i := 2) (j := 5) t2 rfl rfl (by decide))) ?_
      refine k_iload (pc := 312) H d0_312 rfl ?_
      refine k_bipush (6 : Int32) (pc := 314) H d0_314 rfl ?_
      refine k_icmpT 334 (pc := 316) H d0_316 rfl (XT.ii_le_t (own_nlt (i := 2) (j := 6) t2 rfl rfl (by decide))) ?_
      refine k_iload (pc := 334) H d0_334 rfl ?_
      refine k_bipush (7 : Int32) (pc := 336) H d0_336 rfl ?_
      refine k_icmpT 356 (pc := 338) H d0_338 rfl (XT.ii_le_t (own_nlt (i := 2) (j := 7) t2 rfl rfl (by decide))) ?_
      have hnk : n = 2 := by have : ¬ 2 < n := fun z => t2 ((lt_nat (x := 2) (i := 2) rfl hn).mpr z); have := (lt_nat (x := 1) (i := 1) rfl hn).mp t1; omega
      exact W.more (by decide) (by decide) (J356 _ es1 fs1 cap1 D1 q2 H1' VQ2 hf1 (by omega) (by rw [hnk]; rfl))
    · refine k_aload (pc := 242) H d0_242 rfl rfl ?_
      refine k_aload (pc := 244) H d0_244 rfl rfl ?_
      refine k_iconst (2 : Int32) (pc := 246) H d0_246 rfl ?_
      refine k_ialoadT (i := 2) (x := D2) (pc := 247) H VD2 (rfl) (rfl) d0_247 ?_
      refine k_aload (pc := 248) H d0_248 rfl rfl ?_
      refine k_iconst (2 : Int32) (pc := 250) H d0_250 rfl ?_
      refine k_ialoadT (i := 2) (x := q3) (pc := 251) H VQ2 (rfl) (rfl) d0_251 ?_
      obtain ⟨_, _, _, _, _, -, -, -, -, -, X2, -⟩ := id H1'
      refine k_invV (y := (⟨"com/example/hesabu/hesabu/billing/HeldLicences", "set", "(II)V"⟩ : MethodName)) (st := []) (a := hA) [(.int D2), (.int q3)] 0 (pc := 252) H (wd hw 19 rfl) (wd hw 20 rfl) (wd hw 22 rfl) (wd hw 21 rfl) (wd hw 8 rfl) (wd hw 23 rfl) rfl (by decide) X2 (fun z0 => rm4 l Z a0 hw n0 hS1 z0 hA es1 cap1 D2 q3 gH H1' hc1 (by omega) (own_srt hf1 s2)) (lenOf pd_4 rfl) d0_252 rfl rfl rfl (by decide) (by decide) (by decide) (by decide) ?_
      rintro v hS2 ⟨rfl, ws2, cap2, K2, hw2, H2', hc2⟩
      show W l room_1 C _ hS2 11 75 255 #[.val (.int d0), .val (.int stp), .val (.int q1), .val (.int q2), .val (.int q3), .val (.int md), .val (.int ni), .val (.ref qa), .val (.ref da), .val (.int D7), .val (.ref hA)] []
      obtain ⟨hl2, -⟩ := own_set_len es1 D2 q3
      obtain ⟨fs2, hf2⟩ := own_set_last es1 D2 q3
      generalize own_set es1 D2 q3 = es2 at hl2 hf2 H2'
      have ll2 : es2.length ≤ 3 := by omega
      have VQ3 := VQ2.keep K2 (fun z => absurd (hw2 _ z) (Nat.not_le.mpr lq))
      have VD3 := VD2.keep K2 (fun z => absurd (hw2 _ z) (Nat.not_le.mpr ld))
      refine k_iload (pc := 255) H d0_255 rfl ?_
      refine k_iconst (3 : Int32) (pc := 257) H d0_257 rfl ?_
      refine k_icmpR (P := (3 : Int32) < ni) 274 (pc := 258) H d0_258 rfl XT.ii_le_t XT.ii_le_f (fun t3 => ?_) (fun t3 => ?_)
      · refine k_iload (pc := 274) H d0_274 rfl ?_
        refine k_iconst (4 : Int32) (pc := 276) H d0_276 rfl ?_
        refine k_icmpT 293 (pc := 277) H d0_277 rfl (XT.ii_le_t (own_nlt (i := 3) (j := 4) t3 rfl rfl (by decide))) ?_
        refine k_iload (pc := 293) H d0_293 rfl ?_
        refine k_iconst (5 : Int32) (pc := 295) H d0_295 rfl ?_
        refine k_icmpT 312 (pc := 296) H d0_296 rfl (XT.ii_le_t (own_nlt (i := 3) (j := 5) t3 rfl rfl (by decide))) ?_
        refine k_iload (pc := 312) H d0_312 rfl ?_
        refine k_bipush (6 : Int32) (pc := 314) H d0_314 rfl ?_
        refine k_icmpT 334 (pc := 316) H d0_316 rfl (XT.ii_le_t (own_nlt (i := 3) (j := 6) t3 rfl rfl (by decide))) ?_
        refine k_iload (pc := 334) H d0_334 rfl ?_
        refine k_bipush (7 : Int32) (pc := 336) H d0_336 rfl ?_
        refine k_icmpT 356 (pc := 338) H d0_338 rfl (XT.ii_le_t (own_nlt (i := 3) (j := 7) t3 rfl rfl (by decide))) ?_
        have hnk : n = 3 := by have : ¬ 3 < n := fun z => t3 ((lt_nat (x := 3) (i := 3) rfl hn).mpr z); have := (lt_nat (x := 2) (i := 2) rfl hn).mp t2; omega
        exact W.more (by decide) (by decide) (J356 _ es2 fs2 cap2 D2 q3 H2' VQ3 hf2 (by omega) (by rw [hnk]; rfl))
      · refine k_aload (pc := 261) H d0_261 rfl rfl ?_
        refine k_aload (pc := 263) H d0_263 rfl rfl ?_
        refine k_iconst (3 : Int32) (pc := 265) H d0_265 rfl ?_
        refine k_ialoadT (i := 3) (x := D3) (pc := 266) H VD3 (rfl) (rfl) d0_266 ?_
        refine k_aload (pc := 267) H d0_267 rfl rfl ?_
        refine k_iconst (3 : Int32) (pc := 269) H d0_269 rfl ?_
        refine k_ialoadT (i := 3) (x := (q1 ^^^ (-1 : Int32))) (pc := 270) H VQ3 (rfl) (rfl) d0_270 ?_
        obtain ⟨_, _, _, _, _, -, -, -, -, -, X3, -⟩ := id H2'
        refine k_invV (y := (⟨"com/example/hesabu/hesabu/billing/HeldLicences", "set", "(II)V"⟩ : MethodName)) (st := []) (a := hA) [(.int D3), (.int (q1 ^^^ (-1 : Int32)))] 0 (pc := 271) H (wd hw 19 rfl) (wd hw 20 rfl) (wd hw 22 rfl) (wd hw 21 rfl) (wd hw 8 rfl) (wd hw 23 rfl) rfl (by decide) X3 (fun z0 => rm4 l Z a0 hw n0 hS2 z0 hA es2 cap2 D3 (q1 ^^^ (-1 : Int32)) gH H2' hc2 (by omega) (own_srt hf2 s3)) (lenOf pd_4 rfl) d0_271 rfl rfl rfl (by decide) (by decide) (by decide) (by decide) ?_
        rintro v hS3 ⟨rfl, ws3, cap3, K3, hw3, H3', hc3⟩
        show W l room_1 C _ hS3 13 91 274 #[.val (.int d0), .val (.int stp), .val (.int q1), .val (.int q2), .val (.int q3), .val (.int md), .val (.int ni), .val (.ref qa), .val (.ref da), .val (.int D7), .val (.ref hA)] []
        obtain ⟨hl3, -⟩ := own_set_len es2 D3 (q1 ^^^ (-1 : Int32))
        obtain ⟨fs3, hf3⟩ := own_set_last es2 D3 (q1 ^^^ (-1 : Int32))
        generalize own_set es2 D3 (q1 ^^^ (-1 : Int32)) = es3 at hl3 hf3 H3'
        have ll3 : es3.length ≤ 4 := by omega
        have VQ4 := VQ3.keep K3 (fun z => absurd (hw3 _ z) (Nat.not_le.mpr lq))
        have VD4 := VD3.keep K3 (fun z => absurd (hw3 _ z) (Nat.not_le.mpr ld))
        refine k_iload (pc := 274) H d0_274 rfl ?_
        refine k_iconst (4 : Int32) (pc := 276) H d0_276 rfl ?_
        refine k_icmpR (P := (4 : Int32) < ni) 293 (pc := 277) H d0_277 rfl XT.ii_le_t XT.ii_le_f (fun t4 => ?_) (fun t4 => ?_)
        · refine k_iload (pc := 293) H d0_293 rfl ?_
          refine k_iconst (5 : Int32) (pc := 295) H d0_295 rfl ?_
          refine k_icmpT 312 (pc := 296) H d0_296 rfl (XT.ii_le_t (own_nlt (i := 4) (j := 5) t4 rfl rfl (by decide))) ?_
          refine k_iload (pc := 312) H d0_312 rfl ?_
          refine k_bipush (6 : Int32) (pc := 314) H d0_314 rfl ?_
          refine k_icmpT 334 (pc := 316) H d0_316 rfl (XT.ii_le_t (own_nlt (i := 4) (j := 6) t4 rfl rfl (by decide))) ?_
          refine k_iload (pc := 334) H d0_334 rfl ?_
          refine k_bipush (7 : Int32) (pc := 336) H d0_336 rfl ?_
          refine k_icmpT 356 (pc := 338) H d0_338 rfl (XT.ii_le_t (own_nlt (i := 4) (j := 7) t4 rfl rfl (by decide))) ?_
          have hnk : n = 4 := by have : ¬ 4 < n := fun z => t4 ((lt_nat (x := 4) (i := 4) rfl hn).mpr z); have := (lt_nat (x := 3) (i := 3) rfl hn).mp t3; omega
          exact W.more (by decide) (by decide) (J356 _ es3 fs3 cap3 D3 (q1 ^^^ (-1 : Int32)) H3' VQ4 hf3 (by omega) (by rw [hnk]; rfl))
        · refine k_aload (pc := 280) H d0_280 rfl rfl ?_
          refine k_aload (pc := 282) H d0_282 rfl rfl ?_
          refine k_iconst (4 : Int32) (pc := 284) H d0_284 rfl ?_
          refine k_ialoadT (i := 4) (x := D4) (pc := 285) H VD4 (rfl) (rfl) d0_285 ?_
          refine k_aload (pc := 286) H d0_286 rfl rfl ?_
          refine k_iconst (4 : Int32) (pc := 288) H d0_288 rfl ?_
          refine k_ialoadT (i := 4) (x := (q2 ^^^ (-1 : Int32))) (pc := 289) H VQ4 (rfl) (rfl) d0_289 ?_
          obtain ⟨_, _, _, _, _, -, -, -, -, -, X4, -⟩ := id H3'
          refine k_invV (y := (⟨"com/example/hesabu/hesabu/billing/HeldLicences", "set", "(II)V"⟩ : MethodName)) (st := []) (a := hA) [(.int D4), (.int (q2 ^^^ (-1 : Int32)))] 0 (pc := 290) H (wd hw 19 rfl) (wd hw 20 rfl) (wd hw 22 rfl) (wd hw 21 rfl) (wd hw 8 rfl) (wd hw 23 rfl) rfl (by decide) X4 (fun z0 => rm4 l Z a0 hw n0 hS3 z0 hA es3 cap3 D4 (q2 ^^^ (-1 : Int32)) gH H3' hc3 (by omega) (own_srt hf3 s4)) (lenOf pd_4 rfl) d0_290 rfl rfl rfl (by decide) (by decide) (by decide) (by decide) ?_
          rintro v hS4 ⟨rfl, ws4, cap4, K4, hw4, H4', hc4⟩
          show W l room_1 C _ hS4 15 107 293 #[.val (.int d0), .val (.int stp), .val (.int q1), .val (.int q2), .val (.int q3), .val (.int md), .val (.int ni), .val (.ref qa), .val (.ref da), .val (.int D7), .val (.ref hA)] []
          obtain ⟨hl4, -⟩ := own_set_len es3 D4 (q2 ^^^ (-1 : Int32))
          obtain ⟨fs4, hf4⟩ := own_set_last es3 D4 (q2 ^^^ (-1 : Int32))
          generalize own_set es3 D4 (q2 ^^^ (-1 : Int32)) = es4 at hl4 hf4 H4'
          have ll4 : es4.length ≤ 5 := by omega
          have VQ5 := VQ4.keep K4 (fun z => absurd (hw4 _ z) (Nat.not_le.mpr lq))
          have VD5 := VD4.keep K4 (fun z => absurd (hw4 _ z) (Nat.not_le.mpr ld))
          refine k_iload (pc := 293) H d0_293 rfl ?_
          refine k_iconst (5 : Int32) (pc := 295) H d0_295 rfl ?_
          refine k_icmpR (P := (5 : Int32) < ni) 312 (pc := 296) H d0_296 rfl XT.ii_le_t XT.ii_le_f (fun t5 => ?_) (fun t5 => ?_)
          · refine k_iload (pc := 312) H d0_312 rfl ?_
            refine k_bipush (6 : Int32) (pc := 314) H d0_314 rfl ?_
            refine k_icmpT 334 (pc := 316) H d0_316 rfl (XT.ii_le_t (own_nlt (i := 5) (j := 6) t5 rfl rfl (by decide))) ?_
            refine k_iload (pc := 334) H d0_334 rfl ?_
            refine k_bipush (7 : Int32) (pc := 336) H d0_336 rfl ?_
            refine k_icmpT 356 (pc := 338) H d0_338 rfl (XT.ii_le_t (own_nlt (i := 5) (j := 7) t5 rfl rfl (by decide))) ?_
            have hnk : n = 5 := by have : ¬ 5 < n := fun z => t5 ((lt_nat (x := 5) (i := 5) rfl hn).mpr z); have := (lt_nat (x := 4) (i := 4) rfl hn).mp t4; omega
            exact W.more (by decide) (by decide) (J356 _ es4 fs4 cap4 D4 (q2 ^^^ (-1 : Int32)) H4' VQ5 hf4 (by omega) (by rw [hnk]; rfl))
          · refine k_aload (pc := 299) H d0_299 rfl rfl ?_
            refine k_aload (pc := 301) H d0_301 rfl rfl ?_
            refine k_iconst (5 : Int32) (pc := 303) H d0_303 rfl ?_
            refine k_ialoadT (i := 5) (x := D5) (pc := 304) H VD5 (rfl) (rfl) d0_304 ?_
            refine k_aload (pc := 305) H d0_305 rfl rfl ?_
            refine k_iconst (5 : Int32) (pc := 307) H d0_307 rfl ?_
            refine k_ialoadT (i := 5) (x := (q3 ^^^ (-1 : Int32))) (pc := 308) H VQ5 (rfl) (rfl) d0_308 ?_
            obtain ⟨_, _, _, _, _, -, -, -, -, -, X5, -⟩ := id H4'
            refine k_invV (y := (⟨"com/example/hesabu/hesabu/billing/HeldLicences", "set", "(II)V"⟩ : MethodName)) (st := []) (a := hA) [(.int D5), (.int (q3 ^^^ (-1 : Int32)))] 0 (pc := 309) H (wd hw 19 rfl) (wd hw 20 rfl) (wd hw 22 rfl) (wd hw 21 rfl) (wd hw 8 rfl) (wd hw 23 rfl) rfl (by decide) X5 (fun z0 => rm4 l Z a0 hw n0 hS4 z0 hA es4 cap4 D5 (q3 ^^^ (-1 : Int32)) gH H4' hc4 (by omega) (own_srt hf4 s5)) (lenOf pd_4 rfl) d0_309 rfl rfl rfl (by decide) (by decide) (by decide) (by decide) ?_
            rintro v hS5 ⟨rfl, ws5, cap5, K5, hw5, H5', hc5⟩
            show W l room_1 C _ hS5 17 123 312 #[.val (.int d0), .val (.int stp), .val (.int q1), .val (.int q2), .val (.int q3), .val (.int md), .val (.int ni), .val (.ref qa), .val (.ref da), .val (.int D7), .val (.ref hA)] []
            obtain ⟨hl5, -⟩ := own_set_len es4 D5 (q3 ^^^ (-1 : Int32))
            obtain ⟨fs5, hf5⟩ := own_set_last es4 D5 (q3 ^^^ (-1 : Int32))
            generalize own_set es4 D5 (q3 ^^^ (-1 : Int32)) = es5 at hl5 hf5 H5'
            have ll5 : es5.length ≤ 6 := by omega
            have VQ6 := VQ5.keep K5 (fun z => absurd (hw5 _ z) (Nat.not_le.mpr lq))
            have VD6 := VD5.keep K5 (fun z => absurd (hw5 _ z) (Nat.not_le.mpr ld))
            refine k_iload (pc := 312) H d0_312 rfl ?_
            refine k_bipush (6 : Int32) (pc := 314) H d0_314 rfl ?_
            refine k_icmpR (P := (6 : Int32) < ni) 334 (pc := 316) H d0_316 rfl XT.ii_le_t XT.ii_le_f (fun t6 => ?_) (fun t6 => ?_)
            · refine k_iload (pc := 334) H d0_334 rfl ?_
              refine k_bipush (7 : Int32) (pc := 336) H d0_336 rfl ?_
              refine k_icmpT 356 (pc := 338) H d0_338 rfl (XT.ii_le_t (own_nlt (i := 6) (j := 7) t6 rfl rfl (by decide))) ?_
              have hnk : n = 6 := by have : ¬ 6 < n := fun z => t6 ((lt_nat (x := 6) (i := 6) rfl hn).mpr z); have := (lt_nat (x := 5) (i := 5) rfl hn).mp t5; omega
              exact W.more (by decide) (by decide) (J356 _ es5 fs5 cap5 D5 (q3 ^^^ (-1 : Int32)) H5' VQ6 hf5 (by omega) (by rw [hnk]; rfl))
            · refine k_aload (pc := 319) H d0_319 rfl rfl ?_
              refine k_aload (pc := 321) H d0_321 rfl rfl ?_
              refine k_bipush (6 : Int32) (pc := 323) H d0_323 rfl ?_
              refine k_ialoadT (i := 6) (x := D6) (pc := 325) H VD6 (rfl) (rfl) d0_325 ?_
              refine k_aload (pc := 326) H d0_326 rfl rfl ?_
              refine k_bipush (6 : Int32) (pc := 328) H d0_328 rfl ?_
              refine k_ialoadT (i := 6) (x := (q1 + q2)) (pc := 330) H VQ6 (rfl) (rfl) d0_330 ?_
              obtain ⟨_, _, _, _, _, -, -, -, -, -, X6, -⟩ := id H5'
              refine k_invV (y := (⟨"com/example/hesabu/hesabu/billing/HeldLicences", "set", "(II)V"⟩ : MethodName)) (st := []) (a := hA) [(.int D6), (.int (q1 + q2))] 0 (pc := 331) H (wd hw 19 rfl) (wd hw 20 rfl) (wd hw 22 rfl) (wd hw 21 rfl) (wd hw 8 rfl) (wd hw 23 rfl) rfl (by decide) X6 (fun z0 => rm4 l Z a0 hw n0 hS5 z0 hA es5 cap5 D6 (q1 + q2) gH H5' hc5 (by omega) (own_srt hf5 s6)) (lenOf pd_4 rfl) d0_331 rfl rfl rfl (by decide) (by decide) (by decide) (by decide) ?_
              rintro v hS6 ⟨rfl, ws6, cap6, K6, hw6, H6', hc6⟩
              show W l room_1 C _ hS6 19 139 334 #[.val (.int d0), .val (.int stp), .val (.int q1), .val (.int q2), .val (.int q3), .val (.int md), .val (.int ni), .val (.ref qa), .val (.ref da), .val (.int D7), .val (.ref hA)] []
              obtain ⟨hl6, -⟩ := own_set_len es5 D6 (q1 + q2)
              obtain ⟨fs6, hf6⟩ := own_set_last es5 D6 (q1 + q2)
              generalize own_set es5 D6 (q1 + q2) = es6 at hl6 hf6 H6'
              have ll6 : es6.length ≤ 7 := by omega
              have VQ7 := VQ6.keep K6 (fun z => absurd (hw6 _ z) (Nat.not_le.mpr lq))
              have VD7 := VD6.keep K6 (fun z => absurd (hw6 _ z) (Nat.not_le.mpr ld))
              refine k_iload (pc := 334) H d0_334 rfl ?_
              refine k_bipush (7 : Int32) (pc := 336) H d0_336 rfl ?_
              refine k_icmpR (P := (7 : Int32) < ni) 356 (pc := 338) H d0_338 rfl XT.ii_le_t XT.ii_le_f (fun t7 => ?_) (fun t7 => ?_)
              · have hnk : n = 7 := by have : ¬ 7 < n := fun z => t7 ((lt_nat (x := 7) (i := 7) rfl hn).mpr z); have := (lt_nat (x := 6) (i := 6) rfl hn).mp t6; omega
                exact W.more (by decide) (by decide) (J356 _ es6 fs6 cap6 D6 (q1 + q2) H6' VQ7 hf6 (by omega) (by rw [hnk]; rfl))
              · refine k_aload (pc := 341) H d0_341 rfl rfl ?_
                refine k_aload (pc := 343) H d0_343 rfl rfl ?_
                refine k_bipush (7 : Int32) (pc := 345) H d0_345 rfl ?_
                refine k_ialoadT (i := 7) (x := D7) (pc := 347) H VD7 (rfl) (rfl) d0_347 ?_
                refine k_aload (pc := 348) H d0_348 rfl rfl ?_
                refine k_bipush (7 : Int32) (pc := 350) H d0_350 rfl ?_
                refine k_ialoadT (i := 7) (x := (q2 ^^^ q3)) (pc := 352) H VQ7 (rfl) (rfl) d0_352 ?_
                obtain ⟨_, _, _, _, _, -, -, -, -, -, X7, -⟩ := id H6'
                refine k_invV (y := (⟨"com/example/hesabu/hesabu/billing/HeldLicences", "set", "(II)V"⟩ : MethodName)) (st := []) (a := hA) [(.int D7), (.int (q2 ^^^ q3))] 0 (pc := 353) H (wd hw 19 rfl) (wd hw 20 rfl) (wd hw 22 rfl) (wd hw 21 rfl) (wd hw 8 rfl) (wd hw 23 rfl) rfl (by decide) X7 (fun z0 => rm4 l Z a0 hw n0 hS6 z0 hA es6 cap6 D7 (q2 ^^^ q3) gH H6' hc6 (by omega) (own_srt hf6 s7)) (lenOf pd_4 rfl) d0_353 rfl rfl rfl (by decide) (by decide) (by decide) (by decide) ?_
                rintro v hS7 ⟨rfl, ws7, cap7, K7, hw7, H7', hc7⟩
                show W l room_1 C _ hS7 21 155 356 #[.val (.int d0), .val (.int stp), .val (.int q1), .val (.int q2), .val (.int q3), .val (.int md), .val (.int ni), .val (.ref qa), .val (.ref da), .val (.int D7), .val (.ref hA)] []
                obtain ⟨hl7, -⟩ := own_set_len es6 D7 (q2 ^^^ q3)
                obtain ⟨fs7, hf7⟩ := own_set_last es6 D7 (q2 ^^^ q3)
                generalize own_set es6 D7 (q2 ^^^ q3) = es7 at hl7 hf7 H7'
                have ll7 : es7.length ≤ 8 := by omega
                have VQ8 := VQ7.keep K7 (fun z => absurd (hw7 _ z) (Nat.not_le.mpr lq))
                have VD8 := VD7.keep K7 (fun z => absurd (hw7 _ z) (Nat.not_le.mpr ld))
                have hnk : n = 8 := by have := (lt_nat (x := 7) (i := 7) rfl hn).mp t7; omega
                exact W.more (by decide) (by decide) (J356 _ es7 fs7 cap7 D7 (q2 ^^^ q3) H7' VQ8 hf7 (by omega) (by rw [hnk]; rfl))
set_option maxRecDepth 65536 in
set_option maxHeartbeats 40000000 in
theorem comes_1 {Post : Tables → Env → Array Value → State → Outcome → State → Prop} (hpost : ∀ tb e args s v u, (limb_1_1.after args s (.returned v) u = true ∧ limb_1_2.after args s (.returned v) u = true ∧ True) → FrameEnd s (.returned v) u (Jvm.fieldLocs frame_1_writes args s ++ Jvm.arrayLocs frame_1_arrays args s ++ Jvm.staticLocs frame_1_statics s) 24 192 → Post tb e args s (.returned v) u) :
    ArmFor flags0 classFile x code maxLocals ret World_1 tables_1 room_1 Calls_1 rest_1 Pre_1 Post := by
  intro l hfl _ _ p e ha hc hk s m args below hf hA hF happ hP
  obtain ⟨hcalls, hrest, hpre⟩ := hP
  obtain ⟨-, -, -, hnamed, -, -, -, hat⟩ := (Spec.applies_iff hf).mp happ
  obtain ⟨hg, hn⟩ := and_e (Cond.before_iff.mp (show (Jvm.Cond.and given_1 narrow_1).before args s = true from hpre))
  obtain ⟨hcnt, g0⟩ := and_e hg
  obtain ⟨q0, g1⟩ := and_e g0
  obtain ⟨q1, g2⟩ := and_e g1
  obtain ⟨q2, g3⟩ := and_e g2
  obtain ⟨q3, g4⟩ := and_e g3
  obtain ⟨q4, g5⟩ := and_e g4
  obtain ⟨w0, w1, w2, w3, w4, w5, rfl⟩ : ∃ w0 w1 w2 w3 w4 w5 : Value, args = #[w0, w1, w2, w3, w4, w5] := by
    have hs : args.size = 6 := by simpa [Cond.value, given_1] using hcnt
    obtain ⟨L⟩ := args
    match L, hs with
    | [w0, w1, w2, w3, w4, w5], _ => exact ⟨w0, w1, w2, w3, w4, w5, rfl⟩
  have hw := fun d (hd : d ∈ tables_1) => atoms_spec (ws := Jvm.Cond.code x code maxLocals ret :: tables_1) hat d (List.mem_cons_of_mem _ hd)
  obtain ⟨i0, e0⟩ := is_v q0
  obtain rfl : w0 = (.int i0) := Option.some.inj e0
  obtain ⟨i1, e1⟩ := is_v q1
  obtain rfl : w1 = (.int i1) := Option.some.inj e1
  obtain ⟨i2, e2⟩ := is_v q2
  obtain rfl : w2 = (.int i2) := Option.some.inj e2
  obtain ⟨i3, e3⟩ := is_v q3
  obtain rfl : w3 = (.int i3) := Option.some.inj e3
  obtain ⟨i4, e4⟩ := is_v q4
  obtain rfl : w4 = (.int i4) := Option.some.inj e4
  obtain ⟨i5, e5⟩ := is_v g5
  obtain rfl : w5 = (.int i5) := Option.some.inj e5
  obtain ⟨n, o, h1, h2, h3, _, L, rfl, ⟨rfl, N⟩, hq⟩ := rm0 l s _ hw tables_1 s.heap.size s.heap (Nat.le_refl _) i0 i1 i2 i3 i4 i5  p e ha hc hk s m _ below hf ((Spec.applies_iff_loose hf).mp happ).1 ⟨rfl, State.Warmed39.refl s, rfl⟩ trivial
  refine ⟨n, _, h1, h2, h3, hpost _ _ _ _ _ _ ⟨Cond.after_iff.mpr rfl, Cond.after_iff.mpr (eq_i res_at (Term.int_eval (1)) rfl), trivial⟩ ⟨hq.1, hq.2.1, (hq.2.2.sift fun y hy => Or.inr (N y hy)).mono (by decide) (by decide)⟩⟩
theorem main_1_1 : Claimed_1_1 := comes_1 fun _ _ _ _ _ _ h hF => ⟨h.1, hF⟩
theorem main_1_2 : Claimed_1_2 := comes_1 fun _ _ _ _ _ _ h hF => ⟨h.2.1, hF⟩
end Jvm.Pilot.@@N@@
namespace Jvm.Pilot.@@N@@
open Jvm Jvm.ClassFile Sem Op Lib Jvm.Free Jvm.Stand Jvm.Pilot.@@N@@.Jvm.D
/-! MADE BY PROGRAM (witnessworld.py) out of the Statement's table words and the real class files: 12 classes; the members and pool entries that the words name. The judged class is class 1, her method 1. -/
namespace start1
open Jvm.ClassFile
def u (s : String) : CpInfo := .utf8 (stringToUtf16 s)
/-- a pool by its gaps: so many unusable entries, then the entry; so many at the end -/
def gap : Nat → List CpInfo → List CpInfo
  | 0, r => r
  | n + 1, r => .unusable :: gap n r
def poolList (es : List (Nat × CpInfo)) (last : Nat) : List CpInfo := es.foldr (fun e r => gap e.1 (e.2 :: r)) (gap last [])
def pool (es : List (Nat × CpInfo)) (last : Nat) : Array CpInfo := ⟨poolList es last⟩
def fileOf (pool : Array CpInfo) (this : Nat) (attrs : Array Attribute := #[]) (ms : Array MethodInfo := #[]) (fl : Nat := 33) (sup : Nat := 0) (ifs : Array Nat := #[]) (fds : Array FieldInfo := #[]) : ClassFile where
  minorVersion := 0
  majorVersion := 65
  constantPool := pool
  accessFlags := fl
  thisClass := this
  superClass := sup
  interfaces := ifs
  fields := fds
  methods := ms
  attributes := attrs
def plain (name : String) (sup : Option ClassId) : Class where
  name := name
  kind := .ordinary
  loader := none
  accessFlags := 33
  super := sup
  interfaces := #[]
  cf := none
  fields := #[]
  methods := #[]
  instanceTypes := #[]
  staticTypes := #[]
  resolved := #[]
  callSites := []
  init := .initialized
  statics := none
  mirror := none

def pool0 : Array CpInfo := pool [(5, u "<init>"), (0, u "()V"), (1, .class_ 10), (1, u "java/lang/Object")] 113

def k0c0 : Code := { maxStack := 0, maxLocals := 1, code := object_method_1_code, exceptionTable := #[], attributes := #[] }
def k0m0 : Method := { name := "<init>", desc := "()V", sig := { parameters := [], returnType := none }, accessFlags := 1, code := some k0c0 }
/-- java/lang/Object -/
def k0 : Class := { plain "java/lang/Object" none with
  accessFlags := 33
  interfaces := #[]
  cf := some (fileOf pool0 8 #[] #[{ accessFlags := 1, nameIndex := 5, descriptorIndex := 6, attributes := #[] }] 33 0 #[] #[])
  fields := #[]
  methods := #[k0m0]
  instanceTypes := #[]
  staticTypes := #[]
  resolved := Array.replicate 124 none
  statics := none }

def pool1 : Array CpInfo := pool [(2, .class_ 4), (0, .nameAndType 5 6), (0, u "java/lang/Object"), (0, u "<init>"), (0, u "()V"), (2, .integer 2147483639), (0, .methodref 11 12), (0, .class_ 13), (0, .nameAndType 14 15), (0, u "java/lang/Math"), (0, u "min"), (0, u "(II)I"), (0, .class_ 17), (0, u "com/example/hesabu/hesabu/billing/HeldLicences"), (0, .methodref 16 3), (0, .methodref 16 20), (0, .nameAndType 21 22), (0, u "set"), (0, u "(II)V"), (0, .methodref 16 24), (0, .nameAndType 25 26), (0, u "last"), (0, u "()I"), (0, .class_ 28), (0, u "com/example/hesabu/hesabu/billing/HeldLicencesLastPinLaw"), (2, u "law"), (0, u "(IIIIII)Z")] 5

def k1m0 : Method := { name := "<init>", desc := "()V", sig := { parameters := [], returnType := none }, accessFlags := 1, code := none }
def k1c1 : Code := { maxStack := 5, maxLocals := 11, code := code, exceptionTable := #[], attributes := #[] }
def k1m1 : Method := { name := "law", desc := "(IIIIII)Z", sig := { parameters := [.int, .int, .int, .int, .int, .int], returnType := some .boolean }, accessFlags := 9, code := some k1c1 }
/-- com/example/hesabu/hesabu/billing/HeldLicencesLastPinLaw -/
def k1 : Class := { plain "com/example/hesabu/hesabu/billing/HeldLicencesLastPinLaw" (some 0) with
  accessFlags := 49
  interfaces := #[]
  cf := some (fileOf pool1 27 #[] #[{ accessFlags := 1, nameIndex := 5, descriptorIndex := 6, attributes := #[] }, { accessFlags := 9, nameIndex := 31, descriptorIndex := 32, attributes := #[] }] 49 2 #[] #[])
  fields := #[]
  methods := #[k1m0, k1m1]
  instanceTypes := #[]
  staticTypes := #[]
  resolved := Array.replicate 38 none
  statics := none }

def pool2 : Array CpInfo := pool [(1, .class_ 2), (0, u "java/lang/Math"), (1, .class_ 6), (1, u "java/lang/Object"), (0, u "<init>"), (0, u "()V"), (89, .class_ 100), (1, u "java/lang/Math$RandomNumberGeneratorHolder"), (71, u "negativeZeroFloatBits"), (0, u "J"), (2, u "negativeZeroDoubleBits"), (24, u "min"), (43, u "$assertionsDisabled"), (0, u "Z"), (88, u "(II)I"), (2, u "twoToTheDoubleScaleDown"), (0, u "D"), (4, u "twoToTheDoubleScaleUp"), (9, u "E"), (3, u "PI"), (2, u "TAU"), (2, u "DEGREES_TO_RADIANS"), (0, u "RADIANS_TO_DEGREES")] 94

def k2m0 : Method := { name := "<init>", desc := "()V", sig := { parameters := [], returnType := none }, accessFlags := 2, code := none }
def k2c1 : Code := { maxStack := 2, maxLocals := 2, code := jdk_29_method_69_code, exceptionTable := #[], attributes := #[] }
def k2m1 : Method := { name := "min", desc := "(II)I", sig := { parameters := [.int, .int], returnType := some .int }, accessFlags := 9, code := some k2c1 }
/-- java/lang/Math -/
def k2 : Class := { plain "java/lang/Math" (some 0) with
  accessFlags := 49
  interfaces := #[]
  cf := some (fileOf pool2 1 #[.nestMembers #[98]] #[{ accessFlags := 2, nameIndex := 7, descriptorIndex := 8, attributes := #[] }, { accessFlags := 9, nameIndex := 201, descriptorIndex := 335, attributes := #[] }] 49 4 #[] #[{ accessFlags := 25, nameIndex := 354, descriptorIndex := 339, attributes := #[] }, { accessFlags := 25, nameIndex := 358, descriptorIndex := 339, attributes := #[] }, { accessFlags := 25, nameIndex := 361, descriptorIndex := 339, attributes := #[] }, { accessFlags := 26, nameIndex := 364, descriptorIndex := 339, attributes := #[] }, { accessFlags := 26, nameIndex := 365, descriptorIndex := 339, attributes := #[] }, { accessFlags := 26, nameIndex := 172, descriptorIndex := 173, attributes := #[] }, { accessFlags := 26, nameIndex := 176, descriptorIndex := 173, attributes := #[] }, { accessFlags := 8, nameIndex := 344, descriptorIndex := 339, attributes := #[] }, { accessFlags := 8, nameIndex := 338, descriptorIndex := 339, attributes := #[] }, { accessFlags := 4120, nameIndex := 245, descriptorIndex := 246, attributes := #[] }])
  fields := #[{ name := "E", type := .double, accessFlags := 25, slot := 0, constantValue := 0 }, { name := "PI", type := .double, accessFlags := 25, slot := 1, constantValue := 0 }, { name := "TAU", type := .double, accessFlags := 25, slot := 2, constantValue := 0 }, { name := "DEGREES_TO_RADIANS", type := .double, accessFlags := 26, slot := 3, constantValue := 0 }, { name := "RADIANS_TO_DEGREES", type := .double, accessFlags := 26, slot := 4, constantValue := 0 }, { name := "negativeZeroFloatBits", type := .long, accessFlags := 26, slot := 5, constantValue := 0 }, { name := "negativeZeroDoubleBits", type := .long, accessFlags := 26, slot := 6, constantValue := 0 }, { name := "twoToTheDoubleScaleUp", type := .double, accessFlags := 8, slot := 7, constantValue := 0 }, { name := "twoToTheDoubleScaleDown", type := .double, accessFlags := 8, slot := 8, constantValue := 0 }, { name := "$assertionsDisabled", type := .boolean, accessFlags := 4120, slot := 9, constantValue := 0 }]
  methods := #[k2m0, k2m1]
  instanceTypes := #[]
  staticTypes := #[.double, .double, .double, .double, .double, .long, .long, .double, .double, .boolean]
  resolved := Array.replicate 460 none
  statics := none }

def pool3 : Array CpInfo := pool [(1, .methodref 2 3), (0, .class_ 4), (0, .nameAndType 5 6), (0, u "java/lang/Object"), (0, u "<init>"), (0, u "()V"), (0, .class_ 8), (0, u "com/example/hesabu/hesabu/billing/HeldLicences"), (0, .fieldref 7 10), (0, .nameAndType 11 12), (0, u "days"), (0, u "[I"), (0, .fieldref 7 14), (0, .nameAndType 15 12), (0, u "quantities"), (0, .fieldref 7 17), (0, .nameAndType 18 19), (0, u "count"), (0, u "I"), (21, .methodref 42 43), (0, .class_ 44), (0, .nameAndType 45 46), (0, u "java/util/Arrays"), (0, u "copyOf"), (0, u "([II)[I"), (15, u "FIRST_ROOM"), (4, u "set"), (0, u "(II)V"), (1, u "last"), (0, u "()I")] 24

def k3c0 : Code := { maxStack := 2, maxLocals := 1, code := prog_5_method_1_code, exceptionTable := #[], attributes := #[] }
def k3m0 : Method := { name := "<init>", desc := "()V", sig := { parameters := [], returnType := none }, accessFlags := 0, code := some k3c0 }
def k3c1 : Code := { maxStack := 6, maxLocals := 3, code := prog_5_method_2_code, exceptionTable := #[], attributes := #[] }
def k3m1 : Method := { name := "set", desc := "(II)V", sig := { parameters := [.int, .int], returnType := none }, accessFlags := 0, code := some k3c1 }
def k3c2 : Code := { maxStack := 3, maxLocals := 1, code := prog_5_method_3_code, exceptionTable := #[], attributes := #[] }
def k3m2 : Method := { name := "last", desc := "()I", sig := { parameters := [], returnType := some .int }, accessFlags := 0, code := some k3c2 }
/-- com/example/hesabu/hesabu/billing/HeldLicences -/
def k3 : Class := { plain "com/example/hesabu/hesabu/billing/HeldLicences" (some 0) with
  accessFlags := 32
  interfaces := #[]
  cf := some (fileOf pool3 7 #[] #[{ accessFlags := 0, nameIndex := 5, descriptorIndex := 6, attributes := #[] }, { accessFlags := 0, nameIndex := 67, descriptorIndex := 68, attributes := #[] }, { accessFlags := 0, nameIndex := 70, descriptorIndex := 71, attributes := #[] }] 32 2 #[] #[{ accessFlags := 26, nameIndex := 62, descriptorIndex := 19, attributes := #[] }, { accessFlags := 2, nameIndex := 11, descriptorIndex := 12, attributes := #[] }, { accessFlags := 2, nameIndex := 15, descriptorIndex := 12, attributes := #[] }, { accessFlags := 2, nameIndex := 18, descriptorIndex := 19, attributes := #[] }])
  fields := #[{ name := "FIRST_ROOM", type := .int, accessFlags := 26, slot := 0, constantValue := 0 }, { name := "days", type := (.array .int), accessFlags := 2, slot := 0, constantValue := 0 }, { name := "quantities", type := (.array .int), accessFlags := 2, slot := 1, constantValue := 0 }, { name := "count", type := .int, accessFlags := 2, slot := 2, constantValue := 0 }]
  methods := #[k3m0, k3m1, k3m2]
  instanceTypes := #[(.array .int), (.array .int), .int]
  staticTypes := #[.int]
  resolved := Array.replicate 96 none
  statics := none }

def pool4 : Array CpInfo := pool [(2, .class_ 4), (1, u "java/lang/Object"), (0, u "<init>"), (0, u "()V"), (7, .class_ 16), (1, u "java/util/Arrays"), (57, .class_ 76), (1, u "java/util/Arrays$NaturalOrder"), (36, .class_ 115), (1, u "java/util/Arrays$LegacyMergeSort"), (1, u "Z"), (32, .methodref 151 152), (0, .class_ 153), (0, .nameAndType 154 155), (0, u "java/lang/System"), (0, u "arraycopy"), (0, u "(Ljava/lang/Object;ILjava/lang/Object;II)V"), (146, u "copyOf"), (1, .methodref 305 306), (0, .class_ 307), (0, .nameAndType 308 309), (0, u "java/lang/Math"), (0, u "min"), (0, u "(II)I"), (65, .class_ 376), (0, u "java/util/Arrays$ArrayList"), (68, u "$assertionsDisabled"), (269, u "MIN_ARRAY_SORT_GRAN"), (0, u "I"), (2, u "INSERTIONSORT_THRESHOLD"), (151, u "([II)[I"), (103, .class_ 976), (0, u "java/util/Arrays$ArrayItr")] 52

def k4m0 : Method := { name := "<init>", desc := "()V", sig := { parameters := [], returnType := none }, accessFlags := 2, code := none }
def k4c1 : Code := { maxStack := 6, maxLocals := 3, code := jdk_65_method_123_code, exceptionTable := #[], attributes := #[] }
def k4m1 : Method := { name := "copyOf", desc := "([II)[I", sig := { parameters := [(.array .int), .int], returnType := some (.array .int) }, accessFlags := 9, code := some k4c1 }
/-- java/util/Arrays -/
def k4 : Class := { plain "java/util/Arrays" (some 0) with
  accessFlags := 49
  interfaces := #[]
  cf := some (fileOf pool4 14 #[.nestMembers #[975, 375, 113, 74]] #[{ accessFlags := 2, nameIndex := 5, descriptorIndex := 6, attributes := #[] }, { accessFlags := 9, nameIndex := 302, descriptorIndex := 871, attributes := #[] }] 49 2 #[] #[{ accessFlags := 26, nameIndex := 715, descriptorIndex := 716, attributes := #[] }, { accessFlags := 26, nameIndex := 719, descriptorIndex := 716, attributes := #[] }, { accessFlags := 4120, nameIndex := 445, descriptorIndex := 117, attributes := #[] }])
  fields := #[{ name := "MIN_ARRAY_SORT_GRAN", type := .int, accessFlags := 26, slot := 0, constantValue := 0 }, { name := "INSERTIONSORT_THRESHOLD", type := .int, accessFlags := 26, slot := 1, constantValue := 0 }, { name := "$assertionsDisabled", type := .boolean, accessFlags := 4120, slot := 2, constantValue := 0 }]
  methods := #[k4m0, k4m1]
  instanceTypes := #[]
  staticTypes := #[.int, .int, .boolean]
  resolved := Array.replicate 1029 none
  statics := none }

def pool5 : Array CpInfo := pool [(2, .class_ 4), (1, u "java/lang/Object"), (0, u "<init>"), (0, u "()V"), (1, .class_ 10), (1, u "java/lang/System"), (0, u "allowSecurityManager"), (0, u "I"), (16, u "cons"), (0, u "Ljava/io/Console;"), (77, .class_ 110), (1, u "java/lang/System$CallersHolder"), (43, u "initialErrStream"), (0, u "Ljava/io/PrintStream;"), (19, u "security"), (0, u "Ljava/lang/SecurityManager;"), (31, .class_ 209), (0, u "java/lang/System$1"), (7, u "props"), (0, u "Ljava/util/Properties;"), (2, u "lineSeparator"), (0, u "Ljava/lang/String;"), (96, .class_ 321), (1, u "java/lang/System$LoggerFinder"), (5, .class_ 328), (0, u "java/lang/System$Logger"), (67, u "err"), (2, u "out"), (91, u "notSupportedJnuEncoding"), (15, u "in"), (17, u "initialIn"), (0, u "Ljava/io/InputStream;"), (35, u "bootLayer"), (0, u "Ljava/lang/ModuleLayer;"), (99, .class_ 664), (0, u "java/lang/System$2"), (9, u "NEVER"), (2, u "MAYBE"), (49, u "arraycopy"), (0, u "(Ljava/lang/Object;ILjava/lang/Object;II)V"), (72, .class_ 802), (0, u "java/lang/System$Logger$Level")] 31

def k5m0 : Method := { name := "<init>", desc := "()V", sig := { parameters := [], returnType := none }, accessFlags := 2, code := none }
def k5m1 : Method := { name := "arraycopy", desc := "(Ljava/lang/Object;ILjava/lang/Object;II)V", sig := { parameters := [(.object "java/lang/Object"), .int, (.object "java/lang/Object"), .int, .int], returnType := none }, accessFlags := 265, code := none }
/-- java/lang/System -/
def k5 : Class := { plain "java/lang/System" (some 0) with
  accessFlags := 49
  interfaces := #[]
  cf := some (fileOf pool5 8 #[.nestMembers #[319, 327, 801, 108, 663, 208]] #[{ accessFlags := 2, nameIndex := 5, descriptorIndex := 6, attributes := #[] }, { accessFlags := 265, nameIndex := 727, descriptorIndex := 728, attributes := #[] }] 49 2 #[] #[{ accessFlags := 25, nameIndex := 507, descriptorIndex := 526, attributes := #[] }, { accessFlags := 25, nameIndex := 399, descriptorIndex := 155, attributes := #[] }, { accessFlags := 25, nameIndex := 396, descriptorIndex := 155, attributes := #[] }, { accessFlags := 10, nameIndex := 525, descriptorIndex := 526, attributes := #[] }, { accessFlags := 26, nameIndex := 674, descriptorIndex := 12, attributes := #[] }, { accessFlags := 26, nameIndex := 677, descriptorIndex := 12, attributes := #[] }, { accessFlags := 10, nameIndex := 11, descriptorIndex := 12, attributes := #[] }, { accessFlags := 74, nameIndex := 175, descriptorIndex := 176, attributes := #[] }, { accessFlags := 10, nameIndex := 491, descriptorIndex := 222, attributes := #[] }, { accessFlags := 74, nameIndex := 29, descriptorIndex := 30, attributes := #[] }, { accessFlags := 74, nameIndex := 154, descriptorIndex := 155, attributes := #[] }, { accessFlags := 10, nameIndex := 217, descriptorIndex := 218, attributes := #[] }, { accessFlags := 10, nameIndex := 221, descriptorIndex := 222, attributes := #[] }, { accessFlags := 8, nameIndex := 562, descriptorIndex := 563, attributes := #[] }])
  fields := #[{ name := "in", type := (.object "java/io/InputStream"), accessFlags := 25, slot := 0, constantValue := 0 }, { name := "out", type := (.object "java/io/PrintStream"), accessFlags := 25, slot := 1, constantValue := 0 }, { name := "err", type := (.object "java/io/PrintStream"), accessFlags := 25, slot := 2, constantValue := 0 }, { name := "initialIn", type := (.object "java/io/InputStream"), accessFlags := 10, slot := 3, constantValue := 0 }, { name := "NEVER", type := .int, accessFlags := 26, slot := 4, constantValue := 0 }, { name := "MAYBE", type := .int, accessFlags := 26, slot := 5, constantValue := 0 }, { name := "allowSecurityManager", type := .int, accessFlags := 10, slot := 6, constantValue := 0 }, { name := "security", type := (.object "java/lang/SecurityManager"), accessFlags := 74, slot := 7, constantValue := 0 }, { name := "notSupportedJnuEncoding", type := (.object "java/lang/String"), accessFlags := 10, slot := 8, constantValue := 0 }, { name := "cons", type := (.object "java/io/Console"), accessFlags := 74, slot := 9, constantValue := 0 }, { name := "initialErrStream", type := (.object "java/io/PrintStream"), accessFlags := 74, slot := 10, constantValue := 0 }, { name := "props", type := (.object "java/util/Properties"), accessFlags := 10, slot := 11, constantValue := 0 }, { name := "lineSeparator", type := (.object "java/lang/String"), accessFlags := 10, slot := 12, constantValue := 0 }, { name := "bootLayer", type := (.object "java/lang/ModuleLayer"), accessFlags := 8, slot := 13, constantValue := 0 }]
  methods := #[k5m0, k5m1]
  instanceTypes := #[]
  staticTypes := #[(.object "java/io/InputStream"), (.object "java/io/PrintStream"), (.object "java/io/PrintStream"), (.object "java/io/InputStream"), .int, .int, .int, (.object "java/lang/SecurityManager"), (.object "java/lang/String"), (.object "java/io/Console"), (.object "java/io/PrintStream"), (.object "java/util/Properties"), (.object "java/lang/String"), (.object "java/lang/ModuleLayer")]
  resolved := Array.replicate 834 none
  statics := none }

def pool6 : Array CpInfo := pool [(1, u "java/lang/Cloneable"), (0, .class_ 1), (0, u "java/lang/Object"), (0, .class_ 3)] 3

/-- java/lang/Cloneable -/
def k6 : Class := { plain "java/lang/Cloneable" (some 0) with
  accessFlags := 1537
  interfaces := #[]
  cf := some (fileOf pool6 2 #[] #[] 1537 4 #[] #[])
  fields := #[]
  methods := #[]
  instanceTypes := #[]
  staticTypes := #[]
  resolved := Array.replicate 8 none
  statics := none }

def pool7 : Array CpInfo := pool [(1, u "java/io/Serializable"), (0, .class_ 1), (0, u "java/lang/Object"), (0, .class_ 3)] 3

/-- java/io/Serializable -/
def k7 : Class := { plain "java/io/Serializable" (some 0) with
  accessFlags := 1537
  interfaces := #[]
  cf := some (fileOf pool7 2 #[] #[] 1537 4 #[] #[])
  fields := #[]
  methods := #[]
  instanceTypes := #[]
  staticTypes := #[]
  resolved := Array.replicate 8 none
  statics := none }

/-- the primitive byte -/
def k8 : Class := { plain "byte" none with kind := .primitive 'B', accessFlags := 0x411 }
/-- [B -/
def k9 : Class := { plain "[B" (some 0) with kind := .array 8 .byte, interfaces := #[6, 7], accessFlags := 1041 }

/-- the primitive int -/
def k10 : Class := { plain "int" none with kind := .primitive 'I', accessFlags := 0x411 }
/-- [I -/
def k11 : Class := { plain "[I" (some 0) with kind := .array 10 .int, interfaces := #[6, 7], accessFlags := 1041 }

def heap : Heap := #[]
def classes : Array Class := #[k0, k1, k2, k3, k4, k5, k6, k7, k8, k9, k10, k11]
def interned : List (Array UInt16 × Addr) := []
def slotsUsed : Nat := 0
def theMethod : MethodId := ⟨1, 1⟩
def args0 : Array Value := #[.int 1, .int 2, .int 3, .int 4, .int 5, .int 6]
def aboutOver (below : List Frame) : State where
  vm := { classes := classes, interned := interned.toArray }
  heap := heap
  slotsUsed := slotsUsed
  threads := #[{ frames := .invoking theMethod args0 :: below }]
def below0 : List Frame := [.native { method := ⟨0, 0⟩, args := #[] }]
def about1 : State := aboutOver below0
def p0 : Program := .bare "" "" ""
def e0 : Env := launch0.env 0 0 0
theorem w_frames : about1.frames = Frame.invoking theMethod args0 :: below0 := rfl
set_option maxRecDepth 65536 in
theorem w_args : argsFit about1.vm theMethod args0 = true := by decide +kernel
set_option maxRecDepth 65536 in
theorem w_heap : heapFits about1 = true := by decide +kernel
set_option maxRecDepth 65536 in
theorem w_runnable : about1.curStatus? = some .runnable := by decide +kernel
set_option maxRecDepth 65536 in
theorem w_alone : about1.alone = true := by decide +kernel
set_option maxRecDepth 65536 in
theorem w_named : about1.methodNamed? x = some theMethod := by decide +kernel
set_option maxRecDepth 65536 in
theorem w_hears : about1.hears theMethod below0 = true := by decide +kernel
set_option maxRecDepth 65536 in
theorem w_ripe : about1.ripe theMethod args0 below0 = true := by decide +kernel
theorem w_running : about1.status = .running := rfl
set_option maxRecDepth 65536 in
theorem w_room : about1.hasRoom e0.platform room_1 = true :=
  launch0.hasRoom_least _ room_1 (by decide +kernel) (by decide +kernel) (by decide +kernel) (by decide +kernel) (by decide +kernel) (by decide +kernel)
theorem allAtoms_all (ts : List Jvm.Cond) (a : Array Jvm.Value) (st : Jvm.State) : (allAtoms ts).before a st = ts.all (fun c => c.before a st) := by
  induction ts with
  | nil => rfl
  | cons c t ih =>
    show (Jvm.Cond.and c (allAtoms t)).before a st = _
    rw [Jvm.Cond.before_and, ih, List.all_cons]
def words1 : List Jvm.Cond := Jvm.Cond.code x code maxLocals ret :: tables_1
/-- a 'code' word, met by the world's own term for the bytes: nothing is compared byte by byte -/
theorem code_word {y : MethodName} {bytes : ByteArray} {mx : Nat} {rt : Option FieldType} {a : Array Value} {s : State} {m : MethodId} {meth : Method} {c : Code} (h1 : s.methodNamed? y = some m) (h2 : s.vm.method? m = some meth) (h3 : meth.code = some c) (h4 : c.code = bytes)
    (h5 : (c.maxLocals == mx && c.exceptionTable.isEmpty && decide (c.maxStack ≤ mostOperands) && decide (meth.sig.returnType = rt) && !meth.locks && decide (parseMethodDescriptor y.desc = some meth.sig)) = true) : (Jvm.Cond.code y bytes mx rt).before a s = true := by
  simp only [Bool.and_eq_true, beq_iff_eq, Bool.not_eq_true', decide_eq_true_eq] at h5
  obtain ⟨⟨⟨⟨⟨g1, g2⟩, g3⟩, g4⟩, g5⟩, g6⟩ := h5
  simp [Cond.before, Cond.holds, Cond.value, h1, h2, h3, h4, g1, g2, g3, g4, g5, g6]
def isCode : Jvm.Cond → Bool
  | .code _ _ _ _ => true
  | _ => false
theorem all_split {L : List Jvm.Cond} {P : Jvm.Cond → Bool} (h1 : L.all (fun c => isCode c || P c) = true) (h2 : ∀ c ∈ L.filter isCode, P c = true) : L.all P = true := by
  refine List.all_eq_true.mpr fun c hc => ?_
  have h := List.all_eq_true.mp h1 c hc
  rcases Bool.eq_false_or_eq_true (isCode c) with hi | hi
  · exact h2 c (List.mem_filter.mpr ⟨hc, hi⟩)
  · simpa [hi] using h
set_option maxRecDepth 65536 in
theorem w_c0 : (Jvm.Cond.code x code maxLocals ret).before args0 about1 = true := code_word (m := ⟨1, 1⟩) (meth := k1m1) (c := k1c1) (by decide +kernel) rfl rfl rfl (by decide +kernel)
set_option maxRecDepth 65536 in
theorem w_c1 : (Jvm.Cond.code ({ cls := "java/lang/Math", name := "min", desc := "(II)I" } : Jvm.MethodName) jdk_29_method_69_code (2 : Nat) (Option.some Jvm.ClassFile.FieldType.int)).before args0 about1 = true := code_word (m := ⟨2, 1⟩) (meth := k2m1) (c := k2c1) (by decide +kernel) rfl rfl rfl (by decide +kernel)
set_option maxRecDepth 65536 in
theorem w_c2 : (Jvm.Cond.code ({ cls := "com/example/hesabu/hesabu/billing/HeldLicences", name := "<init>", desc := "()V" } : Jvm.MethodName) prog_5_method_1_code (1 : Nat) (Option.none : Option Jvm.ClassFile.FieldType)).before args0 about1 = true := code_word (m := ⟨3, 0⟩) (meth := k3m0) (c := k3c0) (by decide +kernel) rfl rfl rfl (by decide +kernel)
set_option maxRecDepth 65536 in
theorem w_c3 : (Jvm.Cond.code ({ cls := "java/lang/Object", name := "<init>", desc := "()V" } : Jvm.MethodName) object_method_1_code (1 : Nat) (Option.none : Option Jvm.ClassFile.FieldType)).before args0 about1 = true := code_word (m := ⟨0, 0⟩) (meth := k0m0) (c := k0c0) (by decide +kernel) rfl rfl rfl (by decide +kernel)
set_option maxRecDepth 65536 in
theorem w_c4 : (Jvm.Cond.code ({ cls := "com/example/hesabu/hesabu/billing/HeldLicences", name := "set", desc := "(II)V" } : Jvm.MethodName) prog_5_method_2_code (3 : Nat) (Option.none : Option Jvm.ClassFile.FieldType)).before args0 about1 = true := code_word (m := ⟨3, 1⟩) (meth := k3m1) (c := k3c1) (by decide +kernel) rfl rfl rfl (by decide +kernel)
set_option maxRecDepth 65536 in
theorem w_c5 : (Jvm.Cond.code ({ cls := "com/example/hesabu/hesabu/billing/HeldLicences", name := "last", desc := "()I" } : Jvm.MethodName) prog_5_method_3_code (1 : Nat) (Option.some Jvm.ClassFile.FieldType.int)).before args0 about1 = true := code_word (m := ⟨3, 2⟩) (meth := k3m2) (c := k3c2) (by decide +kernel) rfl rfl rfl (by decide +kernel)
set_option maxRecDepth 65536 in
theorem w_c6 : (Jvm.Cond.code ({ cls := "java/util/Arrays", name := "copyOf", desc := "([II)[I" } : Jvm.MethodName) jdk_65_method_123_code (3 : Nat) (Option.some (Jvm.ClassFile.FieldType.array Jvm.ClassFile.FieldType.int))).before args0 about1 = true := code_word (m := ⟨4, 1⟩) (meth := k4m1) (c := k4c1) (by decide +kernel) rfl rfl rfl (by decide +kernel)
def codes1 : List Jvm.Cond := [Jvm.Cond.code x code maxLocals ret, Jvm.Cond.code ({ cls := "java/lang/Math", name := "min", desc := "(II)I" } : Jvm.MethodName) jdk_29_method_69_code (2 : Nat) (Option.some Jvm.ClassFile.FieldType.int), Jvm.Cond.code ({ cls := "com/example/hesabu/hesabu/billing/HeldLicences", name := "<init>", desc := "()V" } : Jvm.MethodName) prog_5_method_1_code (1 : Nat) (Option.none : Option Jvm.ClassFile.FieldType), Jvm.Cond.code ({ cls := "java/lang/Object", name := "<init>", desc := "()V" } : Jvm.MethodName) object_method_1_code (1 : Nat) (Option.none : Option Jvm.ClassFile.FieldType), Jvm.Cond.code ({ cls := "com/example/hesabu/hesabu/billing/HeldLicences", name := "set", desc := "(II)V" } : Jvm.MethodName) prog_5_method_2_code (3 : Nat) (Option.none : Option Jvm.ClassFile.FieldType), Jvm.Cond.code ({ cls := "com/example/hesabu/hesabu/billing/HeldLicences", name := "last", desc := "()I" } : Jvm.MethodName) prog_5_method_3_code (1 : Nat) (Option.some Jvm.ClassFile.FieldType.int), Jvm.Cond.code ({ cls := "java/util/Arrays", name := "copyOf", desc := "([II)[I" } : Jvm.MethodName) jdk_65_method_123_code (3 : Nat) (Option.some (Jvm.ClassFile.FieldType.array Jvm.ClassFile.FieldType.int))]
set_option maxRecDepth 65536 in
theorem codes_eq : words1.filter isCode = codes1 := rfl
theorem w_codes : ∀ c ∈ words1.filter isCode, c.before args0 about1 = true := by
  rw [codes_eq]
  intro c hc
  simp only [codes1, List.mem_cons, List.not_mem_nil, or_false] at hc
  rcases hc with rfl | rfl | rfl | rfl | rfl | rfl | rfl
  · exact w_c0
  · exact w_c1
  · exact w_c2
  · exact w_c3
  · exact w_c4
  · exact w_c5
  · exact w_c6
set_option maxRecDepth 65536 in
theorem w_t1 : (words1.take 24).all (fun c => isCode c || c.before args0 about1) = true := by decide +kernel
set_option maxRecDepth 65536 in
theorem w_t2 : (words1.drop 24).all (fun c => isCode c || c.before args0 about1) = true := by decide +kernel
theorem w_tables : (allAtoms (Jvm.Cond.code x code maxLocals ret :: tables_1)).before args0 about1 = true := by
  rw [allAtoms_all]
  show words1.all (fun c => c.before args0 about1) = true
  refine all_split ?_ w_codes
  rw [← List.take_append_drop 24 words1, List.all_append, w_t1, w_t2]
  rfl
set_option maxRecDepth 65536 in
theorem w_case : (Jvm.Cond.and given_1 narrow_1).before args0 about1 = true := by decide +kernel
theorem w_applies : (headSpec (Jvm.Cond.code x code maxLocals ret :: tables_1) room_1).applies x e0.platform about1 = true :=
  (Spec.applies_iff w_frames).mpr ⟨w_running, w_runnable, w_alone, w_named, w_hears, w_ripe, w_room, w_tables⟩
theorem atStart : AtStart classFile x code maxLocals ret World_1 tables_1 room_1 Calls_1 rest_1 Pre_1 launch0 p0 e0 about1 theMethod args0 below0 :=
  ⟨lists_1, trivial, launch0.admits_env _ _ _, launch0.least_env, fairChoices_fair.cas, fairChoices_fair.clock, w_frames, w_args, w_heap, w_applies, trivial, trivial, w_case⟩
end start1
theorem witness_1 : WitnessClaimed_1 := ⟨start1.p0, start1.e0, start1.about1, start1.theMethod, start1.args0, start1.below0, start1.atStart⟩
end Jvm.Pilot.@@N@@

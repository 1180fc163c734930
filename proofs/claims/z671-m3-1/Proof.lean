import JvmDerived
import JvmDerived.Pilot.@@N@@Statement
import JvmDerived.Pilot.@@N@@Code
set_option linter.unusedVariables false
set_option linter.unusedSimpArgs false
@@BLOCK:NumsL.lean.txt@@
namespace Jvm.OwnKit
open Sem ClassFile Op Lib Jvm.Stand Jvm.Free Jvm.LawKit Jvm.RoadKit
/-- the surroundings of one body: program, environment, start, method, arguments, frames below, method record, code -/
abbrev Cxt := Program × Env × State × MethodId × Array Value × List Frame × Method × Code
/-- what a body owes: the first new address, cells, slots, what it leaves -/
abbrev En := Nat × Nat × Nat × (Option Value → Heap → Prop)
abbrev St (l : Launch) (R : Room) (C : Cxt) (T : State) (L : List Loc) (k n : Nat) : Prop :=
  Stand C.1 l C.2.1 R C.2.2.1 C.2.2.2.1 C.2.2.2.2.1 C.2.2.2.2.2.1 C.2.2.2.2.2.2.1 C.2.2.2.2.2.2.2 T L k n
abbrev Sp (C : Cxt) (a b : State) : Prop := Steps C.1.tables C.2.1 C.2.2.2.2.2.1 a b
def Goes (C : Cxt) (E : En) (a : State) : Prop :=
  ∃ t o, Sp C a t ∧ t.status = .running ∧ Ended t C.2.2.2.2.2.1 o ∧ ∃ v L, o = .returned v ∧ (E.2.2.2 v t.heap ∧ Fr E.1 L) ∧ FrameEnd C.2.2.1 o t L E.2.1 E.2.2.1
/-- from this place of the code, with this heap, these locals and this stack, and so many cells and slots made, the body comes to its end as owed -/
def W (l : Launch) (R : Room) (C : Cxt) (E : En) (h : Heap) (k n pc : Nat) (Ls : Array Slot) (st : List Value) : Prop :=
  ∀ T L, St l R C T L k n → Fr E.1 L → T.heap = h → Goes C E (T.setTop (mkF C.2.2.2.1 pc Ls st))
def Cx (C : Cxt) (Z : State) (own : String) (code : ByteArray) (ml : Nat) (ret : Option FieldType) (nm : String) (n0 : Nat) : Prop :=
  C.1.tables.exec = Jvm.exec ∧ C.2.2.2.2.2.2.2.code = code ∧ C.2.2.2.2.2.2.2.maxLocals = ml ∧ C.2.2.1.vm.findClass own = some C.2.2.2.1.cls ∧ Z.Warmed39 C.2.2.1.vm ∧ C.2.2.2.2.2.2.1.sig.returnType = ret ∧ C.2.2.2.2.2.2.1.locks = false ∧ C.2.2.2.2.2.2.1.name = nm ∧ n0 ≤ C.2.2.1.heap.size
/-- a contract of one call: these arguments, this heap -/
def Ctr (l : Launch) (Z : State) (y : MethodName) (bytes : ByteArray) (maxL : Nat) (ret : Option FieldType) (rm : Room) (n0 : Nat) (as' : Array Value) (h : Heap) (Q : Option Value → Heap → Prop) : Prop :=
  MetFree l y (head1 [Cond.code y bytes maxL ret] rm) (fun a U => a = as' ∧ Z.Warmed39 U.vm ∧ U.heap = h) (fun _ _ _ _ _ => True) (fun _ U o U' => ∃ v L, o = .returned v ∧ (Q v U'.heap ∧ Fr n0 L) ∧ FrameEnd U o U' L rm.cells rm.slots)
section Own
variable {l : Launch} {R : Room} {C : Cxt} {E : En} {h h' : Heap} {k n pc : Nat} {Ls : Array Slot} {st : List Value} {Z : State} {own nm : String} {code : ByteArray} {ml : Nat} {ret : Option FieldType} {a0 : Array Value}
theorem wd {ts : List Jvm.Cond} (hw : ∀ d ∈ ts, d.before a0 Z = true) (i : Nat) {d : Jvm.Cond} (hi : ts[i]? = some d) : d.before a0 Z = true := hw _ (List.mem_of_getElem? hi)
theorem W.via {pc' : Nat} {Ls' : Array Slot} {st' : List Value} (f : ∀ T t L, St l R C T L k n → T.heap = h → Sp C (T.setTop (mkF C.2.2.2.1 pc' Ls' st')) t → Sp C (T.setTop (mkF C.2.2.2.1 pc Ls st)) t)
    (hr : W l R C E h k n pc' Ls' st') : W l R C E h k n pc Ls st := fun T L X N eT => by
  obtain ⟨t, o, h1, h2⟩ := hr T L X N eT
  exact ⟨t, o, f T t L X eT h1, h2⟩
theorem W.more {k' n' : Nat} (hk : k ≤ k') (hn : n ≤ n') (hr : W l R C E h k' n' pc Ls st) : W l R C E h k n pc Ls st := fun T L X N eT => hr T L (X.more hk hn) N eT
/-- a step that moves the tables alone -/
theorem W.viaT {pc' : Nat} {Ls' : Array Slot} {st' : List Value} (f : ∀ T L, St l R C T L k n → T.heap = h → ∃ T', St l R C T' L k n ∧ T'.heap = h ∧ ∀ t, Sp C (T'.setTop (mkF C.2.2.2.1 pc' Ls' st')) t → Sp C (T.setTop (mkF C.2.2.2.1 pc Ls st)) t)
    (hr : W l R C E h k n pc' Ls' st') : W l R C E h k n pc Ls st := fun T L X N eT => by
  obtain ⟨T', X', e', q⟩ := f T L X eT
  obtain ⟨t, o, h1, h2⟩ := hr T' L X' N e'
  exact ⟨t, o, q t h1, h2⟩
theorem size_ge {n0 : Nat} (H : Cx C Z own code ml ret nm n0) {T : State} {L : List Loc} (X : St l R C T L k n) : n0 ≤ T.heap.size := Nat.le_trans H.2.2.2.2.2.2.2.2 X.same.2.1
/-! plain steps -/
section Plain
theorem k_iloadN {i : Fin 4} {x : Int32} (H : Cx C Z own code ml ret nm E.1) (hd : decode code pc = .ok (.iload_n i, 1)) (hl : Ls[i.val]? = some (.val (.int x))) (hr : W l R C E h k n (pc + 1) Ls (.int x :: st)) : W l R C E h k n pc Ls st := .via (fun T t L X _ r => XS.iloadN X.here H.1 rfl (hb H.2.1 hd) hl r) hr
theorem k_iload {i : Nat} {x : Int32} (H : Cx C Z own code ml ret nm E.1) (hd : decode code pc = .ok (.iload i, 2)) (hl : Ls[i]? = some (.val (.int x))) (hr : W l R C E h k n (pc + 2) Ls (.int x :: st)) : W l R C E h k n pc Ls st := .via (fun T t L X _ r => XS.iload X.here H.1 rfl (hb H.2.1 hd) hl r) hr
theorem k_lloadN {i : Fin 4} {x : Int64} (H : Cx C Z own code ml ret nm E.1) (hd : decode code pc = .ok (.lload_n i, 1)) (hl : Ls[i.val]? = some (.val (.long x))) (hr : W l R C E h k n (pc + 1) Ls (.long x :: st)) : W l R C E h k n pc Ls st := .via (fun T t L X _ r => XT.lloadN X.here H.1 rfl (hb H.2.1 hd) hl r) hr
theorem k_lload {i : Nat} {x : Int64} (H : Cx C Z own code ml ret nm E.1) (hd : decode code pc = .ok (.lload i, 2)) (hl : Ls[i]? = some (.val (.long x))) (hr : W l R C E h k n (pc + 2) Ls (.long x :: st)) : W l R C E h k n pc Ls st := .via (fun T t L X _ r => XT.lload X.here H.1 rfl (hb H.2.1 hd) hl r) hr
theorem k_aloadN {i : Fin 4} {v : Value} (H : Cx C Z own code ml ret nm E.1) (hd : decode code pc = .ok (.aload_n i, 1)) (hl : Ls[i.val]? = some (.val v)) (hv : v.isRef = true) (hr : W l R C E h k n (pc + 1) Ls (v :: st)) : W l R C E h k n pc Ls st := .via (fun T t L X _ r => XS.aloadN X.here H.1 rfl (hb H.2.1 hd) hl hv r) hr
theorem k_aload {i : Nat} {v : Value} (H : Cx C Z own code ml ret nm E.1) (hd : decode code pc = .ok (.aload i, 2)) (hl : Ls[i]? = some (.val v)) (hv : v.isRef = true) (hr : W l R C E h k n (pc + 2) Ls (v :: st)) : W l R C E h k n pc Ls st := .via (fun T t L X _ r => XS.aload X.here H.1 rfl (hb H.2.1 hd) hl hv r) hr
theorem k_istoreN {i : Fin 4} {x : Int32} {Ls' : Array Slot} (H : Cx C Z own code ml ret nm E.1) (hd : decode code pc = .ok (.istore_n i, 1)) (hl : storeLocals Ls i.val (.int x) = some Ls') (hr : W l R C E h k n (pc + 1) Ls' st) : W l R C E h k n pc Ls (.int x :: st) := .via (fun T t L X _ r => XS.istoreN X.here H.1 rfl (hb H.2.1 hd) rfl hl r) hr
theorem k_istore {i : Nat} {x : Int32} {Ls' : Array Slot} (H : Cx C Z own code ml ret nm E.1) (hd : decode code pc = .ok (.istore i, 2)) (hl : storeLocals Ls i (.int x) = some Ls') (hr : W l R C E h k n (pc + 2) Ls' st) : W l R C E h k n pc Ls (.int x :: st) := .via (fun T t L X _ r => XS.istore X.here H.1 rfl (hb H.2.1 hd) rfl hl r) hr
theorem k_lstoreN {i : Fin 4} {x : Int64} {Ls' : Array Slot} (H : Cx C Z own code ml ret nm E.1) (hd : decode code pc = .ok (.lstore_n i, 1)) (hl : storeLocals Ls i.val (.long x) = some Ls') (hr : W l R C E h k n (pc + 1) Ls' st) : W l R C E h k n pc Ls (.long x :: st) := .via (fun T t L X _ r => XT.lstoreN X.here H.1 rfl (hb H.2.1 hd) rfl hl r) hr
theorem k_lstore {i : Nat} {x : Int64} {Ls' : Array Slot} (H : Cx C Z own code ml ret nm E.1) (hd : decode code pc = .ok (.lstore i, 2)) (hl : storeLocals Ls i (.long x) = some Ls') (hr : W l R C E h k n (pc + 2) Ls' st) : W l R C E h k n pc Ls (.long x :: st) := .via (fun T t L X _ r => XT.lstore X.here H.1 rfl (hb H.2.1 hd) rfl hl r) hr
theorem k_astoreN {i : Fin 4} {x : Value} {Ls' : Array Slot} (H : Cx C Z own code ml ret nm E.1) (hd : decode code pc = .ok (.astore_n i, 1)) (hv : x.isRef = true) (hl : storeLocals Ls i.val x = some Ls') (hr : W l R C E h k n (pc + 1) Ls' st) : W l R C E h k n pc Ls (x :: st) := .via (fun T t L X _ r => XS.astoreN X.here H.1 rfl (hb H.2.1 hd) rfl hv hl r) hr
theorem k_astore {i : Nat} {x : Value} {Ls' : Array Slot} (H : Cx C Z own code ml ret nm E.1) (hd : decode code pc = .ok (.astore i, 2)) (hv : x.isRef = true) (hl : storeLocals Ls i x = some Ls') (hr : W l R C E h k n (pc + 2) Ls' st) : W l R C E h k n pc Ls (x :: st) := .via (fun T t L X _ r => XS.astore X.here H.1 rfl (hb H.2.1 hd) rfl hv hl r) hr
theorem k_iconst {i : Int} (v : Int32) (H : Cx C Z own code ml ret nm E.1) (hd : decode code pc = .ok (.iconst i, 1)) (hv : Int32.ofInt i = v) (hr : W l R C E h k n (pc + 1) Ls (.int v :: st)) : W l R C E h k n pc Ls st := .via (fun T t L X _ r => XT.iconstV X.here H.1 rfl v (hb H.2.1 hd) hv r) hr
theorem k_bipush {i : Int} (v : Int32) (H : Cx C Z own code ml ret nm E.1) (hd : decode code pc = .ok (.bipush i, 2)) (hv : (Int8.ofInt i).toInt32 = v) (hr : W l R C E h k n (pc + 2) Ls (.int v :: st)) : W l R C E h k n pc Ls st := .via (fun T t L X _ r => XT.bipushV X.here H.1 rfl v (hb H.2.1 hd) hv r) hr
theorem k_sipush {i : Int} (v : Int32) (H : Cx C Z own code ml ret nm E.1) (hd : decode code pc = .ok (.sipush i, 3)) (hv : (Int16.ofInt i).toInt32 = v) (hr : W l R C E h k n (pc + 3) Ls (.int v :: st)) : W l R C E h k n pc Ls st := .via (fun T t L X _ r => XT.sipushV X.here H.1 rfl v (hb H.2.1 hd) hv r) hr
theorem k_lconst {i : Fin 2} (v : Int64) (H : Cx C Z own code ml ret nm E.1) (hd : decode code pc = .ok (.lconst i, 1)) (hv : Int64.ofNat i = v) (hr : W l R C E h k n (pc + 1) Ls (.long v :: st)) : W l R C E h k n pc Ls st := .via (fun T t L X _ r => XT.lconstV X.here H.1 rfl v (hb H.2.1 hd) hv r) hr
theorem k_aconstNull (H : Cx C Z own code ml ret nm E.1) (hd : decode code pc = .ok (.aconst_null, 1)) (hr : W l R C E h k n (pc + 1) Ls (.null :: st)) : W l R C E h k n pc Ls st := .via (fun T t L X _ r => XS.aconstNull X.here H.1 rfl (hb H.2.1 hd) r) hr
theorem k_ldcI {i : Nat} {v : Int32} (H : Cx C Z own code ml ret nm E.1) (hc : (Cond.constant own i v).before a0 Z = true) (hd : decode code pc = .ok (.ldc i, 2)) (hr : W l R C E h k n (pc + 2) Ls (.int v :: st)) : W l R C E h k n pc Ls st := .via (fun T t L X _ r => X.ldcI H.1 H.2.2.2.1 (mv H.2.2.2.2.1 hc) rfl (hb H.2.1 hd) r) hr
theorem k_ldcWI {i : Nat} {v : Int32} (H : Cx C Z own code ml ret nm E.1) (hc : (Cond.constant own i v).before a0 Z = true) (hd : decode code pc = .ok (.ldc_w i, 3)) (hr : W l R C E h k n (pc + 3) Ls (.int v :: st)) : W l R C E h k n pc Ls st := .via (fun T t L X _ r => X.ldcWI H.1 H.2.2.2.1 (mv H.2.2.2.2.1 hc) rfl (hb H.2.1 hd) r) hr
theorem k_ldc2J {i : Nat} {v : Int64} (H : Cx C Z own code ml ret nm E.1) (hc : (Cond.constantLong own i v).before a0 Z = true) (hd : decode code pc = .ok (.ldc2_w i, 3)) (hr : W l R C E h k n (pc + 3) Ls (.long v :: st)) : W l R C E h k n pc Ls st := .via (fun T t L X _ r => X.ldc2J H.1 H.2.2.2.1 (mv H.2.2.2.2.1 hc) rfl (hb H.2.1 hd) r) hr
theorem k_iinc {i : Nat} {c : Int} (v : Int32) {x : Int32} {Ls' : Array Slot} (H : Cx C Z own code ml ret nm E.1) (hd : decode code pc = .ok (.iinc i c, 3)) (hv : Int32.ofInt c = v) (hl : Ls[i]? = some (.val (.int x))) (hl' : storeLocals Ls i (.int (x + v)) = some Ls') (hr : W l R C E h k n (pc + 3) Ls' st) : W l R C E h k n pc Ls st := .via (fun T t L X _ r => XT.iincV X.here H.1 rfl v (hb H.2.1 hd) hv hl hl' r) hr
theorem k_iadd {x y : Int32} (H : Cx C Z own code ml ret nm E.1) (hd : decode code pc = .ok (.iadd, 1)) (hr : W l R C E h k n (pc + 1) Ls (.int (x + y) :: st)) : W l R C E h k n pc Ls (.int y :: .int x :: st) := .via (fun T t L X _ r => XS.iadd X.here H.1 rfl (hb H.2.1 hd) rfl r) hr
theorem k_isub {x y : Int32} (H : Cx C Z own code ml ret nm E.1) (hd : decode code pc = .ok (.isub, 1)) (hr : W l R C E h k n (pc + 1) Ls (.int (x - y) :: st)) : W l R C E h k n pc Ls (.int y :: .int x :: st) := .via (fun T t L X _ r => XS.isub X.here H.1 rfl (hb H.2.1 hd) rfl r) hr
theorem k_imul {x y : Int32} (H : Cx C Z own code ml ret nm E.1) (hd : decode code pc = .ok (.imul, 1)) (hr : W l R C E h k n (pc + 1) Ls (.int (x * y) :: st)) : W l R C E h k n pc Ls (.int y :: .int x :: st) := .via (fun T t L X _ r => XS.imul X.here H.1 rfl (hb H.2.1 hd) rfl r) hr
theorem k_idiv {x y : Int32} (H : Cx C Z own code ml ret nm E.1) (hd : decode code pc = .ok (.idiv, 1)) (hy : y ≠ 0) (hr : W l R C E h k n (pc + 1) Ls (.int (x / y) :: st)) : W l R C E h k n pc Ls (.int y :: .int x :: st) := .via (fun T t L X _ r => XS.idiv X.here H.1 rfl (hb H.2.1 hd) rfl hy r) hr
theorem k_irem {x y : Int32} (H : Cx C Z own code ml ret nm E.1) (hd : decode code pc = .ok (.irem, 1)) (hy : y ≠ 0) (hr : W l R C E h k n (pc + 1) Ls (.int (x % y) :: st)) : W l R C E h k n pc Ls (.int y :: .int x :: st) := .via (fun T t L X _ r => iremM X H.1 rfl (hb H.2.1 hd) rfl hy r) hr
theorem k_iand {x y : Int32} (H : Cx C Z own code ml ret nm E.1) (hd : decode code pc = .ok (.iand, 1)) (hr : W l R C E h k n (pc + 1) Ls (.int (x &&& y) :: st)) : W l R C E h k n pc Ls (.int y :: .int x :: st) := .via (fun T t L X _ r => XS.iand X.here H.1 rfl (hb H.2.1 hd) rfl r) hr
theorem k_ior {x y : Int32} (H : Cx C Z own code ml ret nm E.1) (hd : decode code pc = .ok (.ior, 1)) (hr : W l R C E h k n (pc + 1) Ls (.int (x ||| y) :: st)) : W l R C E h k n pc Ls (.int y :: .int x :: st) := .via (fun T t L X _ r => XT.ior X.here H.1 rfl (hb H.2.1 hd) rfl r) hr
theorem k_ixor {x y : Int32} (H : Cx C Z own code ml ret nm E.1) (hd : decode code pc = .ok (.ixor, 1)) (hr : W l R C E h k n (pc + 1) Ls (.int (x ^^^ y) :: st)) : W l R C E h k n pc Ls (.int y :: .int x :: st) := .via (fun T t L X _ r => XT.ixor X.here H.1 rfl (hb H.2.1 hd) rfl r) hr
theorem k_ishl {x y : Int32} (H : Cx C Z own code ml ret nm E.1) (hd : decode code pc = .ok (.ishl, 1)) (hr : W l R C E h k n (pc + 1) Ls (.int (x <<< (y &&& 31)) :: st)) : W l R C E h k n pc Ls (.int y :: .int x :: st) := .via (fun T t L X _ r => XT.ishl X.here H.1 rfl (hb H.2.1 hd) rfl r) hr
theorem k_ishr {x y : Int32} (H : Cx C Z own code ml ret nm E.1) (hd : decode code pc = .ok (.ishr, 1)) (hr : W l R C E h k n (pc + 1) Ls (.int (x >>> (y &&& 31)) :: st)) : W l R C E h k n pc Ls (.int y :: .int x :: st) := .via (fun T t L X _ r => XT.ishr X.here H.1 rfl (hb H.2.1 hd) rfl r) hr
theorem k_iushr {x y : Int32} (H : Cx C Z own code ml ret nm E.1) (hd : decode code pc = .ok (.iushr, 1)) (hr : W l R C E h k n (pc + 1) Ls (.int (XT.ushr x y) :: st)) : W l R C E h k n pc Ls (.int y :: .int x :: st) := .via (fun T t L X _ r => XT.iushr X.here H.1 rfl (hb H.2.1 hd) rfl r) hr
theorem k_ineg {x : Int32} (H : Cx C Z own code ml ret nm E.1) (hd : decode code pc = .ok (.ineg, 1)) (hr : W l R C E h k n (pc + 1) Ls (.int (-x) :: st)) : W l R C E h k n pc Ls (.int x :: st) := .via (fun T t L X _ r => XS.ineg X.here H.1 rfl (hb H.2.1 hd) rfl r) hr
theorem k_ladd {x y : Int64} (H : Cx C Z own code ml ret nm E.1) (hd : decode code pc = .ok (.ladd, 1)) (hr : W l R C E h k n (pc + 1) Ls (.long (x + y) :: st)) : W l R C E h k n pc Ls (.long y :: .long x :: st) := .via (fun T t L X _ r => XT.ladd X.here H.1 rfl (hb H.2.1 hd) rfl r) hr
theorem k_lsub {x y : Int64} (H : Cx C Z own code ml ret nm E.1) (hd : decode code pc = .ok (.lsub, 1)) (hr : W l R C E h k n (pc + 1) Ls (.long (x - y) :: st)) : W l R C E h k n pc Ls (.long y :: .long x :: st) := .via (fun T t L X _ r => XT.lsub X.here H.1 rfl (hb H.2.1 hd) rfl r) hr
theorem k_land {x y : Int64} (H : Cx C Z own code ml ret nm E.1) (hd : decode code pc = .ok (.land, 1)) (hr : W l R C E h k n (pc + 1) Ls (.long (x &&& y) :: st)) : W l R C E h k n pc Ls (.long y :: .long x :: st) := .via (fun T t L X _ r => XT.land X.here H.1 rfl (hb H.2.1 hd) rfl r) hr
theorem k_lor {x y : Int64} (H : Cx C Z own code ml ret nm E.1) (hd : decode code pc = .ok (.lor, 1)) (hr : W l R C E h k n (pc + 1) Ls (.long (x ||| y) :: st)) : W l R C E h k n pc Ls (.long y :: .long x :: st) := .via (fun T t L X _ r => XT.lor X.here H.1 rfl (hb H.2.1 hd) rfl r) hr
theorem k_lxor {x y : Int64} (H : Cx C Z own code ml ret nm E.1) (hd : decode code pc = .ok (.lxor, 1)) (hr : W l R C E h k n (pc + 1) Ls (.long (x ^^^ y) :: st)) : W l R C E h k n pc Ls (.long y :: .long x :: st) := .via (fun T t L X _ r => XT.lxor X.here H.1 rfl (hb H.2.1 hd) rfl r) hr
theorem k_lshl {x : Int64} {y : Int32} (H : Cx C Z own code ml ret nm E.1) (hd : decode code pc = .ok (.lshl, 1)) (hr : W l R C E h k n (pc + 1) Ls (.long (x <<< (y.toInt64 &&& 63)) :: st)) : W l R C E h k n pc Ls (.int y :: .long x :: st) := .via (fun T t L X _ r => XT.lshl X.here H.1 rfl (hb H.2.1 hd) rfl r) hr
theorem k_lushr {x : Int64} {y : Int32} (H : Cx C Z own code ml ret nm E.1) (hd : decode code pc = .ok (.lushr, 1)) (hr : W l R C E h k n (pc + 1) Ls (.long (XT.ushrL x y) :: st)) : W l R C E h k n pc Ls (.int y :: .long x :: st) := .via (fun T t L X _ r => XT.lushr X.here H.1 rfl (hb H.2.1 hd) rfl r) hr
theorem k_i2l {x : Int32} (H : Cx C Z own code ml ret nm E.1) (hd : decode code pc = .ok (.i2l, 1)) (hr : W l R C E h k n (pc + 1) Ls (.long x.toInt64 :: st)) : W l R C E h k n pc Ls (.int x :: st) := .via (fun T t L X _ r => XT.i2l X.here H.1 rfl (hb H.2.1 hd) rfl r) hr
theorem k_l2i {x : Int64} (H : Cx C Z own code ml ret nm E.1) (hd : decode code pc = .ok (.l2i, 1)) (hr : W l R C E h k n (pc + 1) Ls (.int x.toInt32 :: st)) : W l R C E h k n pc Ls (.long x :: st) := .via (fun T t L X _ r => XT.l2i X.here H.1 rfl (hb H.2.1 hd) rfl r) hr
theorem k_i2b {x : Int32} (H : Cx C Z own code ml ret nm E.1) (hd : decode code pc = .ok (.i2b, 1)) (hr : W l R C E h k n (pc + 1) Ls (.int x.toInt8.toInt32 :: st)) : W l R C E h k n pc Ls (.int x :: st) := .via (fun T t L X _ r => XT.i2b X.here H.1 rfl (hb H.2.1 hd) rfl r) hr
theorem k_i2c {x : Int32} (H : Cx C Z own code ml ret nm E.1) (hd : decode code pc = .ok (.i2c, 1)) (hr : W l R C E h k n (pc + 1) Ls (.int x.toUInt32.toUInt16.toUInt32.toInt32 :: st)) : W l R C E h k n pc Ls (.int x :: st) := .via (fun T t L X _ r => XT.i2c X.here H.1 rfl (hb H.2.1 hd) rfl r) hr
theorem k_lcmp {x y : Int64} (H : Cx C Z own code ml ret nm E.1) (hd : decode code pc = .ok (.lcmp, 1)) (hr : W l R C E h k n (pc + 1) Ls (.int (XT.cmpL x y) :: st)) : W l R C E h k n pc Ls (.long y :: .long x :: st) := .via (fun T t L X _ r => XT.lcmp X.here H.1 rfl (hb H.2.1 hd) rfl r) hr
theorem k_dup {v : Value} (H : Cx C Z own code ml ret nm E.1) (hd : decode code pc = .ok (.dup, 1)) (hc : v.category = 1) (hr : W l R C E h k n (pc + 1) Ls (v :: v :: st)) : W l R C E h k n pc Ls (v :: st) := .via (fun T t L X _ r => XS.dup X.here H.1 rfl (hb H.2.1 hd) rfl hc r) hr
theorem k_pop {v : Value} (H : Cx C Z own code ml ret nm E.1) (hd : decode code pc = .ok (.pop, 1)) (hc : v.category = 1) (hr : W l R C E h k n (pc + 1) Ls st) : W l R C E h k n pc Ls (v :: st) := .via (fun T t L X _ r => XT.pop X.here H.1 rfl (hb H.2.1 hd) rfl hc r) hr
theorem k_dupX1 {v w : Value} (H : Cx C Z own code ml ret nm E.1) (hd : decode code pc = .ok (.dup_x1, 1)) (hc : v.category = 1) (hc' : w.category = 1) (hr : W l R C E h k n (pc + 1) Ls (v :: w :: v :: st)) : W l R C E h k n pc Ls (v :: w :: st) := .via (fun T t L X _ r => XT.dupX1 X.here H.1 rfl (hb H.2.1 hd) rfl hc hc' r) hr
theorem k_dup2 {v w : Value} (H : Cx C Z own code ml ret nm E.1) (hd : decode code pc = .ok (.dup2, 1)) (hc : v.category = 1) (hc' : w.category = 1) (hr : W l R C E h k n (pc + 1) Ls (v :: w :: v :: w :: st)) : W l R C E h k n pc Ls (v :: w :: st) := .via (fun T t L X _ r => XT.dup2 X.here H.1 rfl (hb H.2.1 hd) rfl hc hc' r) hr
theorem k_goto {o : Int} (pc' : Nat) (H : Cx C Z own code ml ret nm E.1) (hd : decode code pc = .ok (.goto o, 3)) (hp : (pc : Int) + o = (pc' : Int)) (hr : W l R C E h k n pc' Ls st) : W l R C E h k n pc Ls st := .via (fun T t L X _ r => XS.goto X.here H.1 rfl rfl (hb H.2.1 hd) (by rw [hp]; exact Int.natCast_nonneg _) (by rw [hp]; rfl) r) hr
theorem k_icmpT {cd : ClassFile.Cond} {o : Int} {x y : Int32} (pc' : Nat) (H : Cx C Z own code ml ret nm E.1) (hd : decode code pc = .ok (.if_icmp cd o, 3)) (hp : (pc : Int) + o = (pc' : Int)) (hc : if_icmp.holds cd x y = true) (hr : W l R C E h k n pc' Ls st) : W l R C E h k n pc Ls (.int y :: .int x :: st) :=
  .via (fun T t L X _ r => XS.icmpYes X.here H.1 rfl rfl (hb H.2.1 hd) rfl hc (by rw [hp]; exact Int.natCast_nonneg _) (by rw [hp]; rfl) r) hr
theorem k_icmpF {cd : ClassFile.Cond} {o : Int} {x y : Int32} (H : Cx C Z own code ml ret nm E.1) (hd : decode code pc = .ok (.if_icmp cd o, 3)) (hc : if_icmp.holds cd x y = false) (hr : W l R C E h k n (pc + 3) Ls st) : W l R C E h k n pc Ls (.int y :: .int x :: st) :=
  .via (fun T t L X _ r => XS.icmpNo X.here H.1 rfl (hb H.2.1 hd) rfl hc r) hr
theorem k_ifT {cd : ClassFile.Cond} {o : Int} {x : Int32} (pc' : Nat) (H : Cx C Z own code ml ret nm E.1) (hd : decode code pc = .ok (.ifCond cd o, 3)) (hp : (pc : Int) + o = (pc' : Int)) (hc : ifCond.holds cd x = true) (hr : W l R C E h k n pc' Ls st) : W l R C E h k n pc Ls (.int x :: st) :=
  .via (fun T t L X _ r => XS.ifYes X.here H.1 rfl rfl (hb H.2.1 hd) rfl hc (by rw [hp]; exact Int.natCast_nonneg _) (by rw [hp]; rfl) r) hr
theorem k_ifF {cd : ClassFile.Cond} {o : Int} {x : Int32} (H : Cx C Z own code ml ret nm E.1) (hd : decode code pc = .ok (.ifCond cd o, 3)) (hc : ifCond.holds cd x = false) (hr : W l R C E h k n (pc + 3) Ls st) : W l R C E h k n pc Ls (.int x :: st) :=
  .via (fun T t L X _ r => XS.ifNo X.here H.1 rfl (hb H.2.1 hd) rfl hc r) hr
theorem k_acmpT {cd : ClassFile.ACond} {o : Int} {x y : Value} (pc' : Nat) (H : Cx C Z own code ml ret nm E.1) (hd : decode code pc = .ok (.if_acmp cd o, 3)) (hp : (pc : Int) + o = (pc' : Int)) (hx : x.isRef = true) (hy : y.isRef = true) (hc : XT.acmp cd x y = true) (hr : W l R C E h k n pc' Ls st) : W l R C E h k n pc Ls (y :: x :: st) :=
  .via (fun T t L X _ r => XT.acmpYes X.here H.1 rfl rfl (hb H.2.1 hd) rfl hx hy hc (by rw [hp]; exact Int.natCast_nonneg _) (by rw [hp]; rfl) r) hr
theorem k_acmpF {cd : ClassFile.ACond} {o : Int} {x y : Value} (H : Cx C Z own code ml ret nm E.1) (hd : decode code pc = .ok (.if_acmp cd o, 3)) (hx : x.isRef = true) (hy : y.isRef = true) (hc : XT.acmp cd x y = false) (hr : W l R C E h k n (pc + 3) Ls st) : W l R C E h k n pc Ls (y :: x :: st) :=
  .via (fun T t L X _ r => XT.acmpNo X.here H.1 rfl (hb H.2.1 hd) rfl hx hy hc r) hr
theorem k_nonnullT {o : Int} {b : Addr} (pc' : Nat) (H : Cx C Z own code ml ret nm E.1) (hd : decode code pc = .ok (.ifnonnull o, 3)) (hp : (pc : Int) + o = (pc' : Int)) (hr : W l R C E h k n pc' Ls st) : W l R C E h k n pc Ls (.ref b :: st) :=
  .via (fun T t L X _ r => XT.ifnonnullYes X.here H.1 rfl rfl (hb H.2.1 hd) rfl (by rw [hp]; exact Int.natCast_nonneg _) (by rw [hp]; rfl) r) hr
theorem k_tsw {dflt low high o : Int} {offs : Array Int} {len : Nat} {i : Int32} (pc' : Nat) (H : Cx C Z own code ml ret nm E.1) (hd : decode code pc = .ok (.tableswitch dflt low high offs, len)) (hin : ¬ (i.toInt < low ∨ i.toInt > high)) (hoff : offs[(i.toInt - low).toNat]? = some o) (hp : (pc : Int) + o = (pc' : Int)) (hr : W l R C E h k n pc' Ls st) : W l R C E h k n pc Ls (.int i :: st) :=
  .via (fun T t L X _ r => XS.tswIn X.here H.1 rfl rfl (hb H.2.1 hd) rfl hin hoff (by rw [hp]; exact Int.natCast_nonneg _) (by rw [hp]; rfl) r) hr
theorem lsw {tb : Tables} [Ours tb] {e : Env} {below : List Frame} {T target : State} {m : MethodId} {c : Code} {g : JFrame} (h : At T m c below) (hx : tb.exec = Jvm.exec) (hg : g.method = m) {dflt : Int} {pairs : Array (Int × Int)} {len : Nat} {pc0 pc' : Nat} (hpc : g.pc = pc0) (hd : decode c.code g.pc = .ok (.lookupswitch dflt pairs, len)) {i : Int32} {rest : List Value} (hs : g.stack = .int i :: rest)
    (ho : 0 ≤ (pc0 : Int) + lookupswitch.offset pairs.toList dflt i.toInt) (hp : ((pc0 : Int) + lookupswitch.offset pairs.toList dflt i.toInt).toNat = pc') (hsort : ∀ (a b c d : Int), ((a, b), c, d) ∈ pairs.toList.zip pairs.toList.tail → a < c) (hr : Steps tb e below (T.setTop { g with pc := pc', stack := rest }) target) : Steps tb e below (T.setTop g) target := by
  subst hg hpc hp
  jvm_step h [h.top, hx, hd, hs, ho, lookupswitch.wp_chain]
  exact ⟨hsort, hr⟩
theorem k_lsw {dflt : Int} {pairs : Array (Int × Int)} {len : Nat} {i : Int32} (pc' : Nat) (H : Cx C Z own code ml ret nm E.1) (hd : decode code pc = .ok (.lookupswitch dflt pairs, len)) (hsort : ∀ (a b c d : Int), ((a, b), c, d) ∈ pairs.toList.zip pairs.toList.tail → a < c) (hp : (pc : Int) + lookupswitch.offset pairs.toList dflt i.toInt = (pc' : Int)) (hr : W l R C E h k n pc' Ls st) : W l R C E h k n pc Ls (.int i :: st) :=
  .via (fun T t L X _ r => lsw X.here H.1 rfl rfl (hb H.2.1 hd) rfl (by rw [hp]; exact Int.natCast_nonneg _) (by rw [hp]; rfl) hsort r) hr
end Plain
/-! branches, both ways -/
theorem k_icmp {cd : ClassFile.Cond} {o : Int} {x y : Int32} {P : Prop} [Decidable P] (pc' : Nat) (H : Cx C Z own code ml ret nm E.1) (hd : decode code pc = .ok (.if_icmp cd o, 3)) (hp : (pc : Int) + o = (pc' : Int)) (hT : P → if_icmp.holds cd x y = true) (hF : ¬ P → if_icmp.holds cd x y = false)
    (h1 : P → W l R C E h k n pc' Ls st) (h2 : ¬ P → W l R C E h k n (pc + 3) Ls st) : W l R C E h k n pc Ls (.int y :: .int x :: st) := by
  by_cases q : P
  · exact k_icmpT pc' H hd hp (hT q) (h1 q)
  · exact k_icmpF H hd (hF q) (h2 q)
theorem k_iff0 {cd : ClassFile.Cond} {o : Int} {x : Int32} {P : Prop} [Decidable P] (pc' : Nat) (H : Cx C Z own code ml ret nm E.1) (hd : decode code pc = .ok (.ifCond cd o, 3)) (hp : (pc : Int) + o = (pc' : Int)) (hT : P → ifCond.holds cd x = true) (hF : ¬ P → ifCond.holds cd x = false)
    (h1 : P → W l R C E h k n pc' Ls st) (h2 : ¬ P → W l R C E h k n (pc + 3) Ls st) : W l R C E h k n pc Ls (.int x :: st) := by
  by_cases q : P
  · exact k_ifT pc' H hd hp (hT q) (h1 q)
  · exact k_ifF H hd (hF q) (h2 q)
theorem k_icmpR {cd : ClassFile.Cond} {o : Int} {x y : Int32} {P : Prop} [Decidable P] (pc' : Nat) (H : Cx C Z own code ml ret nm E.1) (hd : decode code pc = .ok (.if_icmp cd o, 3)) (hp : (pc : Int) + o = (pc' : Int)) (hT : ¬ P → if_icmp.holds cd x y = true) (hF : P → if_icmp.holds cd x y = false)
    (h1 : ¬ P → W l R C E h k n pc' Ls st) (h2 : P → W l R C E h k n (pc + 3) Ls st) : W l R C E h k n pc Ls (.int y :: .int x :: st) := by
  by_cases q : P
  · exact k_icmpF H hd (hF q) (h2 q)
  · exact k_icmpT pc' H hd hp (hT q) (h1 q)
theorem k_iff0R {cd : ClassFile.Cond} {o : Int} {x : Int32} {P : Prop} [Decidable P] (pc' : Nat) (H : Cx C Z own code ml ret nm E.1) (hd : decode code pc = .ok (.ifCond cd o, 3)) (hp : (pc : Int) + o = (pc' : Int)) (hT : ¬ P → ifCond.holds cd x = true) (hF : P → ifCond.holds cd x = false)
    (h1 : ¬ P → W l R C E h k n pc' Ls st) (h2 : P → W l R C E h k n (pc + 3) Ls st) : W l R C E h k n pc Ls (.int x :: st) := by
  by_cases q : P
  · exact k_ifF H hd (hF q) (h2 q)
  · exact k_ifT pc' H hd hp (hT q) (h1 q)
theorem k_acmp {cd : ClassFile.ACond} {o : Int} {x y : Value} {P : Prop} [Decidable P] (pc' : Nat) (H : Cx C Z own code ml ret nm E.1) (hd : decode code pc = .ok (.if_acmp cd o, 3)) (hp : (pc : Int) + o = (pc' : Int)) (hx : x.isRef = true) (hy : y.isRef = true) (hT : P → XT.acmp cd x y = true) (hF : ¬ P → XT.acmp cd x y = false)
    (h1 : P → W l R C E h k n pc' Ls st) (h2 : ¬ P → W l R C E h k n (pc + 3) Ls st) : W l R C E h k n pc Ls (y :: x :: st) := by
  by_cases q : P
  · exact k_acmpT pc' H hd hp hx hy (hT q) (h1 q)
  · exact k_acmpF H hd hx hy (hF q) (h2 q)
/-! heap steps -/
/-- an array: its kind and all that it holds -/
def Vec (Z : State) (h : Heap) (a : Addr) (ty : FieldType) (vs : List Value) : Prop := ∃ c : Cell, Arr Z h a c ty ∧ c.slots = vs.toArray ∧ vs.length < 2 ^ 31
abbrev IA (Z : State) (h : Heap) (a : Addr) (xs : List Int32) : Prop := Vec Z h a .int (xs.map Value.int)
abbrev JA (Z : State) (h : Heap) (a : Addr) (xs : List Int64) : Prop := Vec Z h a .long (xs.map Value.long)
abbrev BA (Z : State) (h : Heap) (a : Addr) (xs : List Int8) : Prop := Vec Z h a .byte (xs.map fun b => Value.int b.toInt32)
abbrev CA (Z : State) (h : Heap) (a : Addr) (xs : List UInt16) : Prop := Vec Z h a .char (xs.map fun b => Value.int b.toUInt32.toInt32)
theorem Vec.lt {a : Addr} {ty : FieldType} {vs : List Value} (F : Vec Z h a ty vs) : a < h.size := by obtain ⟨c, A, -⟩ := F; exact A.lt
theorem Vec.ext {a : Addr} {ty : FieldType} {vs : List Value} (F : Vec Z h a ty vs) (X : Ext h h') : Vec Z h' a ty vs := by obtain ⟨c, A, r⟩ := F; exact ⟨c, A.ext X, r⟩
theorem Vec.keep {a : Addr} {ty : FieldType} {vs : List Value} {ws : List Addr} (F : Vec Z h a ty vs) (K : Keep h h' ws) (q : a ∉ ws) : Vec Z h' a ty vs := by obtain ⟨c, A, r⟩ := F; exact ⟨c, ⟨K.2.1 a c A.1 q, A.2⟩, r⟩
theorem Vec.other {a b : Addr} {ty : FieldType} {vs : List Value} {sl : Nat} {v : Value} (F : Vec Z h b ty vs) (X : Wr h h' a sl v) (q : b ≠ a) : Vec Z h' b ty vs := by obtain ⟨c, A, r⟩ := F; exact ⟨c, A.other X q, r⟩
theorem Vec.set {a : Addr} {ty : FieldType} {vs : List Value} {sl : Nat} {v : Value} (F : Vec Z h a ty vs) (X : Wr h h' a sl v) : Vec Z h' a ty (vs.set sl v) := by
  obtain ⟨c, A, e, r⟩ := F
  refine ⟨_, A.same X, ?_, by simpa using r⟩
  simp [Cell.setSlot, e]
theorem Vec.ne {a b : Addr} {ty ty' : FieldType} {vs vs' : List Value} (F : Vec Z h a ty vs) (G : Vec Z h b ty' vs') (q : ty ≠ ty') : a ≠ b := fun e => by
  subst e
  obtain ⟨c, A, -⟩ := F
  obtain ⟨c', A', -⟩ := G
  cases A.1.symm.trans A'.1
  obtain ⟨-, k, h1, comp, h2⟩ := A.2.1
  obtain ⟨-, k', h1', comp', h2'⟩ := A'.2.1
  cases h1.symm.trans h1'
  rw [h2] at h2'; cases h2'; exact q rfl
theorem Vec.neX {a b : Addr} {ty : FieldType} {vs : List Value} {cls : String} {kk : Nat} (G : Vec Z h b ty vs) (F : Exa Z h a cls) (wi : (Cond.instantiable cls kk).before a0 Z = true) : a ≠ b := by obtain ⟨c, A, -⟩ := G; exact ne_arr F wi A
theorem Keep.ofExt (X : Ext h h') : Keep h h' [] := (Keep.refl h []).ext X
theorem idx_ok {j : Int32} {i : Nat} (hj : j.toInt = (i : Int)) : ¬ j < 0 ∧ j.toNatClampNeg = i := by
  have e0 : (0 : Int32).toInt = 0 := rfl
  constructor
  · rw [Int32.lt_iff_toInt_lt]; omega
  · simp only [Int32.toNatClampNeg, hj]; rfl
theorem len_ok {c : Cell} {vs : List Value} (e : c.slots = vs.toArray) (hl : vs.length < 2 ^ 31) : c.slots.size.toInt32.toInt = (vs.length : Int) := by
  rw [e]; exact len_toInt hl
section Arrs
variable {a : Addr} {j : Int32} {i : Nat} {v : Value} {vs : List Value}
theorem in_ok {c : Cell} (e : c.slots = vs.toArray) (hj : j.toInt = (i : Int)) (hv : vs[i]? = some v) : ¬ (j < 0 ∨ c.slots.size ≤ j.toNatClampNeg) ∧ c.slots[j.toNatClampNeg]? = some v := by
  obtain ⟨q1, q2⟩ := idx_ok hj
  rw [q2, e]
  have hlt : i < vs.length := (List.getElem?_eq_some_iff.mp hv).1
  exact ⟨fun z => z.elim q1 (fun z => absurd hlt (Nat.not_lt.mpr (by simpa using z))), by simpa using hv⟩
theorem k_arraylength {ty : FieldType} {N : Int32} (H : Cx C Z own code ml ret nm E.1) (A : Vec Z h a ty vs) (hN : N.toInt = (vs.length : Int)) (hd : decode code pc = .ok (.arraylength, 1)) (hr : W l R C E h k n (pc + 1) Ls (.int N :: st)) : W l R C E h k n pc Ls (.ref a :: st) := by
  obtain ⟨c, A, e, hl⟩ := A
  have q : c.slots.size.toInt32 = N := Int32.toInt_inj.mp ((len_ok e hl).trans hN.symm)
  subst q
  exact .via (fun T t L X eT r => X.arraylength H.1 (by rw [eT]; exact A.1) (State.isArrayOf_alike H.2.2.2.2.1.alike A.2.1) (g := mkF C.2.2.2.1 pc Ls (.ref a :: st)) rfl rfl (hb H.2.1 hd) _ r) hr
theorem k_iaload (H : Cx C Z own code ml ret nm E.1) (A : Vec Z h a .int vs) (hj : j.toInt = (i : Int)) (hv : vs[i]? = some v) (hd : decode code pc = .ok (.iaload, 1)) (hr : W l R C E h k n (pc + 1) Ls (v :: st)) : W l R C E h k n pc Ls (.int j :: .ref a :: st) := by
  obtain ⟨c, A, e, hl⟩ := A
  obtain ⟨q1, q2⟩ := in_ok e hj hv
  exact .via (fun T t L X eT r => X.iaload H.1 (by rw [eT]; exact A.1) (State.isArrayOf_alike H.2.2.2.2.1.alike A.2.1) A.2.2 q1 q2 (g := mkF C.2.2.2.1 pc Ls (.int j :: .ref a :: st)) rfl rfl (hb H.2.1 hd) _ r) hr
theorem k_laload (H : Cx C Z own code ml ret nm E.1) (A : Vec Z h a .long vs) (hj : j.toInt = (i : Int)) (hv : vs[i]? = some v) (hd : decode code pc = .ok (.laload, 1)) (hr : W l R C E h k n (pc + 1) Ls (v :: st)) : W l R C E h k n pc Ls (.int j :: .ref a :: st) := by
  obtain ⟨c, A, e, hl⟩ := A
  obtain ⟨q1, q2⟩ := in_ok e hj hv
  exact .via (fun T t L X eT r => X.laload H.1 (by rw [eT]; exact A.1) (State.isArrayOf_alike H.2.2.2.2.1.alike A.2.1) A.2.2 q1 q2 (g := mkF C.2.2.2.1 pc Ls (.int j :: .ref a :: st)) rfl rfl (hb H.2.1 hd) _ r) hr
theorem k_caload (H : Cx C Z own code ml ret nm E.1) (A : Vec Z h a .char vs) (hj : j.toInt = (i : Int)) (hv : vs[i]? = some v) (hd : decode code pc = .ok (.caload, 1)) (hr : W l R C E h k n (pc + 1) Ls (v :: st)) : W l R C E h k n pc Ls (.int j :: .ref a :: st) := by
  obtain ⟨c, A, e, hl⟩ := A
  obtain ⟨q1, q2⟩ := in_ok e hj hv
  exact .via (fun T t L X eT r => X.caload H.1 (by rw [eT]; exact A.1) (State.isArrayOf_alike H.2.2.2.2.1.alike A.2.1) A.2.2 q1 q2 (g := mkF C.2.2.2.1 pc Ls (.int j :: .ref a :: st)) rfl rfl (hb H.2.1 hd) _ r) hr
theorem k_baload (H : Cx C Z own code ml ret nm E.1) (A : Vec Z h a .byte vs) (hj : j.toInt = (i : Int)) (hv : vs[i]? = some v) (hd : decode code pc = .ok (.baload, 1)) (hr : W l R C E h k n (pc + 1) Ls (v :: st)) : W l R C E h k n pc Ls (.int j :: .ref a :: st) := by
  obtain ⟨c, A, e, hl⟩ := A
  obtain ⟨q1, q2⟩ := in_ok e hj hv
  exact .via (fun T t L X eT r => X.baloadBytes H.1 (by rw [eT]; exact A.1) (State.isArrayOf_alike H.2.2.2.2.1.alike A.2.1) A.2.2 q1 q2 (g := mkF C.2.2.2.1 pc Ls (.int j :: .ref a :: st)) rfl rfl (hb H.2.1 hd) _ r) hr
theorem out_ok {c : Cell} (e : c.slots = vs.toArray) (hj : j.toInt = (i : Int)) (hi : i < vs.length) : ¬ (j < 0 ∨ c.slots.size ≤ j.toNatClampNeg) := by
  obtain ⟨q1, q2⟩ := idx_ok hj
  rw [q2, e]
  exact fun z => z.elim q1 (fun z => absurd hi (Nat.not_lt.mpr (by simpa using z)))
theorem Goes.step {T T' : State} {g g' : JFrame} (q : ∀ t, Sp C (T'.setTop g') t → Sp C (T.setTop g) t) (r : Goes C E (T'.setTop g')) : Goes C E (T.setTop g) := by
  obtain ⟨t, o, h1, h2⟩ := r; exact ⟨t, o, q t h1, h2⟩
theorem k_iastore {x : Int32} (H : Cx C Z own code ml ret nm E.1) (A : Vec Z h a .int vs) (hj : j.toInt = (i : Int)) (hi : i < vs.length) (ge : E.1 ≤ a) (hd : decode code pc = .ok (.iastore, 1))
    (hr : ∀ h', Keep h h' [a] → Vec Z h' a .int (vs.set i (.int x)) → W l R C E h' k n (pc + 1) Ls st) : W l R C E h k n pc Ls (.int x :: .int j :: .ref a :: st) := fun T L X N eT => by
  have A' := A
  obtain ⟨c, A, e, hl⟩ := A
  obtain ⟨T', h', X', e', Wx, q⟩ := stI X H.1 H.2.2.2.2.1 eT A (out_ok e hj hi) (g := mkF C.2.2.2.1 pc Ls (.int x :: .int j :: .ref a :: st)) rfl rfl (hb H.2.1 hd)
  refine .step q (hr h' (Keep.of_wr Wx) ?_ T' _ X' (Fr.snoc X' N ge) e')
  rw [(idx_ok hj).2] at Wx; exact A'.set Wx
theorem k_lastore {x : Int64} (H : Cx C Z own code ml ret nm E.1) (A : Vec Z h a .long vs) (hj : j.toInt = (i : Int)) (hi : i < vs.length) (ge : E.1 ≤ a) (hd : decode code pc = .ok (.lastore, 1))
    (hr : ∀ h', Keep h h' [a] → Vec Z h' a .long (vs.set i (.long x)) → W l R C E h' k n (pc + 1) Ls st) : W l R C E h k n pc Ls (.long x :: .int j :: .ref a :: st) := fun T L X N eT => by
  have A' := A
  obtain ⟨c, A, e, hl⟩ := A
  obtain ⟨T', h', X', e', Wx, q⟩ := stJ X H.1 H.2.2.2.2.1 eT A (out_ok e hj hi) (g := mkF C.2.2.2.1 pc Ls (.long x :: .int j :: .ref a :: st)) rfl rfl (hb H.2.1 hd)
  refine .step q (hr h' (Keep.of_wr Wx) ?_ T' _ X' (Fr.snoc X' N ge) e')
  rw [(idx_ok hj).2] at Wx; exact A'.set Wx
theorem k_bastore {x : Int32} (H : Cx C Z own code ml ret nm E.1) (A : Vec Z h a .byte vs) (hj : j.toInt = (i : Int)) (hi : i < vs.length) (ge : E.1 ≤ a) (hd : decode code pc = .ok (.bastore, 1))
    (hr : ∀ h', Keep h h' [a] → Vec Z h' a .byte (vs.set i (.int x.toInt8.toInt32)) → W l R C E h' k n (pc + 1) Ls st) : W l R C E h k n pc Ls (.int x :: .int j :: .ref a :: st) := fun T L X N eT => by
  have A' := A
  obtain ⟨c, A, e, hl⟩ := A
  obtain ⟨T', h', X', e', Wx, q⟩ := stB X H.1 H.2.2.2.2.1 eT A (out_ok e hj hi) (g := mkF C.2.2.2.1 pc Ls (.int x :: .int j :: .ref a :: st)) rfl rfl (hb H.2.1 hd)
  refine .step q (hr h' (Keep.of_wr Wx) ?_ T' _ X' (Fr.snoc X' N ge) e')
  rw [(idx_ok hj).2] at Wx; exact A'.set Wx
theorem k_castore {x : Int32} (H : Cx C Z own code ml ret nm E.1) (A : Vec Z h a .char vs) (hj : j.toInt = (i : Int)) (hi : i < vs.length) (ge : E.1 ≤ a) (hd : decode code pc = .ok (.castore, 1))
    (hr : ∀ h', Keep h h' [a] → Vec Z h' a .char (vs.set i (.int x.toUInt32.toUInt16.toUInt32.toInt32)) → W l R C E h' k n (pc + 1) Ls st) : W l R C E h k n pc Ls (.int x :: .int j :: .ref a :: st) := fun T L X N eT => by
  have A' := A
  obtain ⟨c, A, e, hl⟩ := A
  obtain ⟨T', h', X', e', Wx, q⟩ := stC X H.1 H.2.2.2.2.1 eT A (out_ok e hj hi) (g := mkF C.2.2.2.1 pc Ls (.int x :: .int j :: .ref a :: st)) rfl rfl (hb H.2.1 hd)
  refine .step q (hr h' (Keep.of_wr Wx) ?_ T' _ X' (Fr.snoc X' N ge) e')
  rw [(idx_ok hj).2] at Wx; exact A'.set Wx
end Arrs
/-- newarray of a plain kind, at most cap long -/
theorem k_newarray {aty : ArrayType} {ty : FieldType} {len : Int32} (m cap : Nat) (H : Cx C Z own code ml ret nm E.1) (w : (Cond.arrayClass ty).before a0 Z = true) (hty : newarray.typeOf aty = ty) (hd : decode code pc = .ok (.newarray aty, 2)) (hm : len.toInt = (m : Int)) (hcap : m ≤ cap) (hB : cap * 8 ≤ 536870912) (hC : k + 1 ≤ R.cells) (hS : n + cap ≤ R.slots)
    (hr : ∀ h' a, a = h.size → E.1 ≤ a → Ext h h' → Exa Z h' a ("[" ++ ty.toString) → Vec Z h' a ty (List.replicate m (defaultValue ty)) → W l R C E h' (k + 1) (n + cap) (pc + 2) Ls (.ref a :: st)) : W l R C E h k n pc Ls (.int len :: st) := fun T L X N eT => by
  subst hty
  obtain ⟨q1, q2⟩ := idx_ok hm
  obtain ⟨T', h', cA, X', e', Ex, A, XA, q⟩ := newPE X H.1 H.2.2.2.2.1 w eT (g := mkF C.2.2.2.1 pc Ls (.int len :: st)) rfl (hb H.2.1 hd) rfl q1 (cap := cap) (by rw [q2]; exact hcap) hB hC hS rfl
  have hlt : m < 2 ^ 31 := by have := len.toInt_lt; omega
  refine .step q (hr h' h.size rfl (by rw [← eT]; exact size_ge H X) Ex XA ⟨_, A, ?_, by simpa using hlt⟩ T' _ X' N e')
  simp [newA, q2]
theorem k_newObj {idx ns : Nat} {cls : String} (H : Cx C Z own code ml ret nm E.1) (w : (Cond.classLink own idx cls).before a0 Z = true) (wi : (Cond.instantiable cls ns).before a0 Z = true) (wz : (Cond.initialized cls).before a0 Z = true) (hd : decode code pc = .ok (.new idx, 3)) (hC : k + 1 ≤ R.cells) (hS : n + ns ≤ R.slots)
    (hr : ∀ h' a, a = h.size → E.1 ≤ a → Ext h h' → Exa Z h' a cls → (∀ {O nf d : String} {ty : FieldType}, Laid Z a0 cls O nf d → parseFieldDescriptor d = some ty → Fld Z h' a O nf d (defaultValue ty)) → W l R C E h' (k + 1) (n + ns) (pc + 3) Ls (.ref a :: st)) : W l R C E h k n pc Ls st := fun T L X N eT => by
  obtain ⟨T', h', X', e', Ex, A, D, -, q⟩ := newO X H.1 H.2.2.2.2.1 H.2.2.2.1 w wi wz eT (g := mkF C.2.2.2.1 pc Ls st) rfl (hb H.2.1 hd) hC hS
  exact .step q (hr h' h.size rfl (by rw [← eT]; exact size_ge H X) Ex A D T' _ X' N e')
theorem k_initObj {idx w : Nat} {a : Addr} (H : Cx C Z own code ml ret nm E.1) (w1 : (Cond.methodLink own idx Lib.objectInit).before a0 Z = true) (w2 : (Cond.instanceMethod Lib.objectInit).before a0 Z = true) (w3 : (Cond.code Lib.objectInit ⟨#[0xb1]⟩ 1 none).before a0 Z = true) (hd : decode code pc = .ok (.invokespecial idx, 3)) (hsz : Ls.size = ml) (hF : 1 ≤ R.frames)
    (hw : (st.map fun v => v.category).sum = w) (hL : w + 12 ≤ R.locals) (hr : W l R C E h k n (pc + 3) Ls st) : W l R C E h k n pc Ls (.ref a :: st) :=
  .viaT (fun T L X eT => initO X H.1 H.2.2.2.2.1 H.2.2.2.1 w1 w2 w3 eT (g := mkF C.2.2.2.1 pc Ls (.ref a :: st)) rfl (by show Ls.size = _; rw [H.2.2.1]; exact hsz) rfl (hb H.2.1 hd) hF (W := w) (by show 2 * 0 + _ ≤ _; rw [hw]; omega) hL) hr
theorem k_getfield {idx : Nat} {O nf d : String} {a : Addr} {v : Value} (H : Cx C Z own code ml ret nm E.1) (w : (Cond.fieldLink own idx O nf d).before a0 Z = true) (F : Fld Z h a O nf d v) (hd : decode code pc = .ok (.getfield idx, 3)) (hr : W l R C E h k n (pc + 3) Ls (v :: st)) : W l R C E h k n pc Ls (.ref a :: st) :=
  .viaT (fun T L X eT => getF X H.1 H.2.2.2.2.1 H.2.2.2.1 (host := "") (Or.inl w) Via.refl eT F (g := mkF C.2.2.2.1 pc Ls (.ref a :: st)) rfl rfl (hb H.2.1 hd)) hr
theorem k_putfield {idx kk : Nat} {O nf d cls : String} {a : Addr} {v old : Value} (ty : FieldType) (H : Cx C Z own code ml ret nm E.1) (w : (Cond.fieldLink own idx O nf d).before a0 Z = true) (F : Fld Z h a O nf d old) (X0 : Exa Z h a cls) (La : (Cond.lays cls O nf d).before a0 Z = true ∨ ((Cond.laysFinal cls O nf d).before a0 Z = true ∧ own = O ∧ nm = "<init>"))
    (wi : (Cond.instantiable cls kk).before a0 Z = true) (hty : parseFieldDescriptor d = some ty) (hn : narrow ty v = v) (hf : fits ty v = true) (ge : E.1 ≤ a) (hd : decode code pc = .ok (.putfield idx, 3))
    (hr : ∀ h', Wr h h' a (Jvm.RoadKit.slotOf Z O nf d) v → Fld Z h' a O nf d v → W l R C E h' k n (pc + 3) Ls st) : W l R C E h k n pc Ls (v :: .ref a :: st) := fun T L X N eT => by
  obtain ⟨T', h', X', e', Wx, q⟩ := putF X H.1 H.2.2.2.2.1 H.2.2.2.1 (host := "") (Or.inl w) Via.refl eT F X0 (La.imp id fun z => ⟨z.1, z.2.1, H.2.2.2.2.2.2.2.1.trans z.2.2⟩) wi hty hn hf (g := mkF C.2.2.2.1 pc Ls (v :: .ref a :: st)) rfl rfl (hb H.2.1 hd)
  exact .step q (hr h' Wx (F.same Wx) T' _ X' (Fr.snoc X' N ge) e')
/-! arrays by the kind of what they hold -/
section Typed
variable {a : Addr} {j : Int32} {i : Nat}
theorem map_at {α : Type} {f : α → Value} {xs : List α} {x : α} (hv : xs[i]? = some x) : (xs.map f)[i]? = some (f x) := by rw [List.getElem?_map, hv]; rfl
theorem k_ialoadT {xs : List Int32} {x : Int32} (H : Cx C Z own code ml ret nm E.1) (A : IA Z h a xs) (hj : j.toInt = (i : Int)) (hv : xs[i]? = some x) (hd : decode code pc = .ok (.iaload, 1)) (hr : W l R C E h k n (pc + 1) Ls ((.int x) :: st)) : W l R C E h k n pc Ls (.int j :: .ref a :: st) := k_iaload H A hj (map_at hv) hd hr
theorem k_iastoreT {xs : List Int32} {x : Int32} (H : Cx C Z own code ml ret nm E.1) (A : IA Z h a xs) (hj : j.toInt = (i : Int)) (hi : i < xs.length) (ge : E.1 ≤ a) (hd : decode code pc = .ok (.iastore, 1))
    (hr : ∀ h', Keep h h' [a] → IA Z h' a (xs.set i x) → W l R C E h' k n (pc + 1) Ls st) : W l R C E h k n pc Ls ((.int x) :: .int j :: .ref a :: st) := k_iastore H A hj (by simpa using hi) ge hd (fun h' K V => hr h' K (by rw [IA, List.map_set]; exact V))
theorem k_new_int {len : Int32} (m cap : Nat) (H : Cx C Z own code ml ret nm E.1) (w : (Cond.arrayClass .int).before a0 Z = true) (hd : decode code pc = .ok (.newarray .int, 2)) (hm : len.toInt = (m : Int)) (hcap : m ≤ cap) (hB : cap * 8 ≤ 536870912) (hC : k + 1 ≤ R.cells) (hS : n + cap ≤ R.slots)
    (hr : ∀ h' a, a = h.size → E.1 ≤ a → Ext h h' → Exa Z h' a "[I" → IA Z h' a (List.replicate m 0) → W l R C E h' (k + 1) (n + cap) (pc + 2) Ls (.ref a :: st)) : W l R C E h k n pc Ls (.int len :: st) := k_newarray m cap H w rfl hd hm hcap hB hC hS (fun h' a e g X XA V => hr h' a e g X XA (by rw [IA, List.map_replicate]; exact V))
theorem k_laloadT {xs : List Int64} {x : Int64} (H : Cx C Z own code ml ret nm E.1) (A : JA Z h a xs) (hj : j.toInt = (i : Int)) (hv : xs[i]? = some x) (hd : decode code pc = .ok (.laload, 1)) (hr : W l R C E h k n (pc + 1) Ls ((.long x) :: st)) : W l R C E h k n pc Ls (.int j :: .ref a :: st) := k_laload H A hj (map_at hv) hd hr
theorem k_lastoreT {xs : List Int64} {x : Int64} (H : Cx C Z own code ml ret nm E.1) (A : JA Z h a xs) (hj : j.toInt = (i : Int)) (hi : i < xs.length) (ge : E.1 ≤ a) (hd : decode code pc = .ok (.lastore, 1))
    (hr : ∀ h', Keep h h' [a] → JA Z h' a (xs.set i x) → W l R C E h' k n (pc + 1) Ls st) : W l R C E h k n pc Ls ((.long x) :: .int j :: .ref a :: st) := k_lastore H A hj (by simpa using hi) ge hd (fun h' K V => hr h' K (by rw [JA, List.map_set]; exact V))
theorem k_new_long {len : Int32} (m cap : Nat) (H : Cx C Z own code ml ret nm E.1) (w : (Cond.arrayClass .long).before a0 Z = true) (hd : decode code pc = .ok (.newarray .long, 2)) (hm : len.toInt = (m : Int)) (hcap : m ≤ cap) (hB : cap * 8 ≤ 536870912) (hC : k + 1 ≤ R.cells) (hS : n + cap ≤ R.slots)
    (hr : ∀ h' a, a = h.size → E.1 ≤ a → Ext h h' → Exa Z h' a "[J" → JA Z h' a (List.replicate m 0) → W l R C E h' (k + 1) (n + cap) (pc + 2) Ls (.ref a :: st)) : W l R C E h k n pc Ls (.int len :: st) := k_newarray m cap H w rfl hd hm hcap hB hC hS (fun h' a e g X XA V => hr h' a e g X XA (by rw [JA, List.map_replicate]; exact V))
theorem k_baloadT {xs : List Int8} {x : Int8} (H : Cx C Z own code ml ret nm E.1) (A : BA Z h a xs) (hj : j.toInt = (i : Int)) (hv : xs[i]? = some x) (hd : decode code pc = .ok (.baload, 1)) (hr : W l R C E h k n (pc + 1) Ls ((.int x.toInt32) :: st)) : W l R C E h k n pc Ls (.int j :: .ref a :: st) := k_baload H A hj (map_at hv) hd hr
theorem k_bastoreT {xs : List Int8} {x : Int32} (H : Cx C Z own code ml ret nm E.1) (A : BA Z h a xs) (hj : j.toInt = (i : Int)) (hi : i < xs.length) (ge : E.1 ≤ a) (hd : decode code pc = .ok (.bastore, 1))
    (hr : ∀ h', Keep h h' [a] → BA Z h' a (xs.set i x.toInt8) → W l R C E h' k n (pc + 1) Ls st) : W l R C E h k n pc Ls ((.int x) :: .int j :: .ref a :: st) := k_bastore H A hj (by simpa using hi) ge hd (fun h' K V => hr h' K (by rw [BA, List.map_set]; exact V))
theorem k_new_byte {len : Int32} (m cap : Nat) (H : Cx C Z own code ml ret nm E.1) (w : (Cond.arrayClass .byte).before a0 Z = true) (hd : decode code pc = .ok (.newarray .byte, 2)) (hm : len.toInt = (m : Int)) (hcap : m ≤ cap) (hB : cap * 8 ≤ 536870912) (hC : k + 1 ≤ R.cells) (hS : n + cap ≤ R.slots)
    (hr : ∀ h' a, a = h.size → E.1 ≤ a → Ext h h' → Exa Z h' a "[B" → BA Z h' a (List.replicate m 0) → W l R C E h' (k + 1) (n + cap) (pc + 2) Ls (.ref a :: st)) : W l R C E h k n pc Ls (.int len :: st) := k_newarray m cap H w rfl hd hm hcap hB hC hS (fun h' a e g X XA V => hr h' a e g X XA (by rw [BA, List.map_replicate]; exact V))
theorem k_caloadT {xs : List UInt16} {x : UInt16} (H : Cx C Z own code ml ret nm E.1) (A : CA Z h a xs) (hj : j.toInt = (i : Int)) (hv : xs[i]? = some x) (hd : decode code pc = .ok (.caload, 1)) (hr : W l R C E h k n (pc + 1) Ls ((.int x.toUInt32.toInt32) :: st)) : W l R C E h k n pc Ls (.int j :: .ref a :: st) := k_caload H A hj (map_at hv) hd hr
theorem k_castoreT {xs : List UInt16} {x : Int32} (H : Cx C Z own code ml ret nm E.1) (A : CA Z h a xs) (hj : j.toInt = (i : Int)) (hi : i < xs.length) (ge : E.1 ≤ a) (hd : decode code pc = .ok (.castore, 1))
    (hr : ∀ h', Keep h h' [a] → CA Z h' a (xs.set i x.toUInt32.toUInt16) → W l R C E h' k n (pc + 1) Ls st) : W l R C E h k n pc Ls ((.int x) :: .int j :: .ref a :: st) := k_castore H A hj (by simpa using hi) ge hd (fun h' K V => hr h' K (by rw [CA, List.map_set]; exact V))
theorem k_new_char {len : Int32} (m cap : Nat) (H : Cx C Z own code ml ret nm E.1) (w : (Cond.arrayClass .char).before a0 Z = true) (hd : decode code pc = .ok (.newarray .char, 2)) (hm : len.toInt = (m : Int)) (hcap : m ≤ cap) (hB : cap * 8 ≤ 536870912) (hC : k + 1 ≤ R.cells) (hS : n + cap ≤ R.slots)
    (hr : ∀ h' a, a = h.size → E.1 ≤ a → Ext h h' → Exa Z h' a "[C" → CA Z h' a (List.replicate m 0) → W l R C E h' (k + 1) (n + cap) (pc + 2) Ls (.ref a :: st)) : W l R C E h k n pc Ls (.int len :: st) := k_newarray m cap H w rfl hd hm hcap hB hC hS (fun h' a e g X XA V => hr h' a e g X XA (by rw [CA, List.map_replicate]; exact V))
theorem fits_of {ty : FieldType} {vs : List Value} {c : Cell} (A : Arr Z h a c ty) (e : c.slots = vs.toArray) (hf : ∀ v ∈ vs, fits ty v = true) : FitC Z c := fitC_of A fun i hi v hv => hf v (by rw [e] at hv; simp at hv; exact List.mem_of_getElem? hv)
theorem k_clone {idx w cap : Nat} {ty : FieldType} {ad : String} {vs : List Value} (H : Cx C Z own code ml ret nm E.1)
    (w1 : (Cond.methodLink own idx ⟨ad, "clone", "()Ljava/lang/Object;"⟩).before a0 Z = true) (w2 : (Cond.sameMethod ad "java/lang/Object" "clone" "()Ljava/lang/Object;").before a0 Z = true) (w3 : (Cond.native ⟨"java/lang/Object", "clone", "()Ljava/lang/Object;"⟩).before a0 Z = true)
    (w4 : (Cond.instanceMethod ⟨"java/lang/Object", "clone", "()Ljava/lang/Object;"⟩).before a0 Z = true) (w5 : (Cond.selects ad ⟨ad, "clone", "()Ljava/lang/Object;"⟩ ⟨"java/lang/Object", "clone", "()Ljava/lang/Object;"⟩).before a0 Z = true) (w6 : (Cond.castable ad "java/lang/Cloneable").before a0 Z = true)
    (V : Vec Z h a ty vs) (hf : ∀ v ∈ vs, fits ty v = true) (X0 : Exa Z h a ad) (hd : decode code pc = .ok (.invokevirtual idx, 3)) (hsz : Ls.size = ml) (hF : 1 ≤ R.frames) (hw : (st.map fun v => v.category).sum = w) (hL : w + 14 ≤ R.locals) (hcap : vs.length ≤ cap) (hC : k + 1 ≤ R.cells) (hS : n + cap ≤ R.slots)
    (hr : ∀ h' b, b = h.size → E.1 ≤ b → Ext h h' → Exa Z h' b ad → Vec Z h' b ty vs → W l R C E h' (k + 1) (n + cap) (pc + 3) Ls (.ref b :: st)) : W l R C E h k n pc Ls (.ref a :: st) := fun T L X N eT => by
  obtain ⟨c, A, e, hl⟩ := V
  obtain ⟨T', h', X', e', Ex, A', XA, q⟩ := cloneA X H.1 H.2.2.2.2.1 H.2.2.2.1 w1 w2 w3 w4 w5 w6 eT A X0 (fits_of A e hf) (g := mkF C.2.2.2.1 pc Ls (.ref a :: st)) rfl (by show Ls.size = _; rw [H.2.2.1]; exact hsz) rfl (hb H.2.1 hd) hF (W := w) (cap := cap) (by show 2 * 0 + _ ≤ _; rw [hw]; omega) hL (by rw [e]; simpa using hcap) hC hS
  exact .step q (hr h' h.size rfl (by rw [← eT]; exact size_ge H X) Ex XA ⟨_, A', e, hl⟩ T' _ X' N e')
theorem k_castY {idx : Nat} {K ad : String} (H : Cx C Z own code ml ret nm E.1) (w : (Cond.classLink own idx K).before a0 Z = true) (wc : (Cond.castable ad K).before a0 Z = true) (X0 : Exa Z h a ad) (hd : decode code pc = .ok (.checkcast idx, 3)) (hr : W l R C E h k n (pc + 3) Ls (.ref a :: st)) : W l R C E h k n pc Ls (.ref a :: st) :=
  .viaT (fun T L X eT => castY X H.1 H.2.2.2.2.1 H.2.2.2.1 w eT (Ins.of_exa X0 wc) (g := mkF C.2.2.2.1 pc Ls (.ref a :: st)) rfl rfl (hb H.2.1 hd)) hr
end Typed
/-! calls -/
section Calls
variable {y : MethodName} {bytes : ByteArray} {maxL : Nat} {rt : Option FieldType} {rm : Room} {Q : Option Value → Heap → Prop} {S : List Value}
theorem Goes.trans {T T' : State} {g g' : JFrame} (q : Sp C (T.setTop g) (T'.setTop g')) (r : Goes C E (T'.setTop g')) : Goes C E (T.setTop g) := by
  obtain ⟨t, o, h1, h2⟩ := r; exact ⟨t, o, q.trans h1, h2⟩
theorem payOf {s : State} {p : Program} {e : Env} {below : List Frame} {args : Array Value} {w n0 : Nat} {as' : Array Value} (hc : Ctr l Z y bytes maxL rt rm n0 as' h Q) (hZ : Z.Warmed39 s.vm) (w4 : (Cond.code y bytes maxL rt).before a0 Z = true) (w3 : (Cond.initialized y.cls).before a0 Z = true) (hF : rm.frames + 1 ≤ R.frames) (hL : w + (maxL + 11) + rm.locals ≤ R.locals) :
    Back l R p e below s args y 3 w (fun A a => a = as' ∧ A.U.heap = h ∧ A.cells + rm.cells ≤ R.cells ∧ A.slots + rm.slots ≤ R.slots)
      (fun A _ v B => ∃ L, (Q v B.U.heap ∧ Fr n0 L) ∧ B.locs = A.locs ++ L ∧ B.cells = A.cells + rm.cells ∧ B.slots = A.slots + rm.slots) :=
  backOf (Q := fun v h L => Q v h ∧ Fr n0 L) hc hZ w4 w3 hF hL
theorem k_invS {idx : Nat} (argsL : List Value) (w : Nat) (H : Cx C Z own code ml ret nm E.1) (w1 : (Cond.methodLink own idx y).before a0 Z = true) (w2 : (Cond.static y).before a0 Z = true) (w3 : (Cond.initialized y.cls).before a0 Z = true) (w4 : (Cond.code y bytes maxL rt).before a0 Z = true)
    (hy : y.cls ≠ "java/lang/invoke/MethodHandle" ∧ y.cls ≠ "java/lang/invoke/VarHandle") (hc : E.1 ≤ h.size → Ctr l Z y bytes maxL rt rm E.1 argsL.toArray h Q) (hlen : ∀ sig, parseMethodDescriptor y.desc = some sig → argsL.length = sig.parameters.length)
    (hd : decode code pc = .ok (.invokestatic idx, 3)) (hS : S = argsL.reverse ++ st) (hsz : Ls.size = ml) (hw : (st.map fun v => v.category).sum = w) (hF : rm.frames + 1 ≤ R.frames) (hL : w + (maxL + 11) + rm.locals ≤ R.locals) (hk : k + rm.cells ≤ R.cells) (hn : n + rm.slots ≤ R.slots)
    (hr : ∀ v h', Q v h' → W l R C E h' (k + rm.cells) (n + rm.slots) (pc + 3) Ls (v.toList ++ st)) : W l R C E h k n pc Ls S := fun T L X N eT => by
  obtain ⟨v, _, ⟨T', L', k', n'⟩, -, X', ⟨Lc, ⟨hQ, hN⟩, l', y', z'⟩, q⟩ := Jvm.LawKit.callS X H.1 (y := y) H.2.2.2.1 (mvT H.2.2.2.2.1 w1) (mvT H.2.2.2.2.1 w2) (mvT H.2.2.2.2.1 w3) (mvT H.2.2.2.2.1 w4) hy (payOf (w := w) (hc (by rw [← eT]; exact size_ge H X)) H.2.2.2.2.1 w4 w3 hF hL)
    (g := mkF C.2.2.2.1 pc Ls S) rfl (by show Ls.size = _; rw [H.2.2.1]; exact hsz) (argsL := argsL) (rest := st) hlen hS (by show 2 * 0 + _ ≤ _; rw [hw]; omega) (hb H.2.1 hd) (fun _ _ => ⟨rfl, eT, hk, hn⟩)
  dsimp only [Pt.U, Pt.locs, Pt.cells, Pt.slots] at X' l' y' z' q hQ
  subst l' y' z'
  exact .step q (hr v _ hQ T' _ X' (N.app hN) rfl)
theorem k_invI {idx : Nat} {a : Addr} (argsL : List Value) (w : Nat) (H : Cx C Z own code ml ret nm E.1) (hy1 : y.name = "<init>") (w1 : (Cond.methodLink own idx y).before a0 Z = true) (w2 : (Cond.instanceMethod y).before a0 Z = true) (w3 : (Cond.initialized y.cls).before a0 Z = true) (w4 : (Cond.code y bytes maxL none).before a0 Z = true)
    (hy : y.cls ≠ "java/lang/invoke/MethodHandle" ∧ y.cls ≠ "java/lang/invoke/VarHandle") (hc : E.1 ≤ h.size → Ctr l Z y bytes maxL none rm E.1 (.ref a :: argsL).toArray h Q) (hlen : ∀ sig, parseMethodDescriptor y.desc = some sig → argsL.length = sig.parameters.length)
    (hd : decode code pc = .ok (.invokespecial idx, 3)) (hS : S = argsL.reverse ++ .ref a :: st) (hsz : Ls.size = ml) (hw : (st.map fun v => v.category).sum = w) (hF : rm.frames + 1 ≤ R.frames) (hL : w + (maxL + 11) + rm.locals ≤ R.locals) (hk : k + rm.cells ≤ R.cells) (hn : n + rm.slots ≤ R.slots)
    (hr : ∀ v h', Q v h' → W l R C E h' (k + rm.cells) (n + rm.slots) (pc + 3) Ls (v.toList ++ st)) : W l R C E h k n pc Ls S := fun T L X N eT => by
  obtain ⟨v, _, ⟨T', L', k', n'⟩, -, X', ⟨Lc, ⟨hQ, hN⟩, l', y', z'⟩, q⟩ := X.specialBack H.1 (y := y) hy1 H.2.2.2.1 (mvT H.2.2.2.2.1 w1) (mvT H.2.2.2.2.1 w2) (mvT H.2.2.2.2.1 w4) hy (payOf (w := w) (hc (by rw [← eT]; exact size_ge H X)) H.2.2.2.2.1 w4 w3 hF hL)
    (g := mkF C.2.2.2.1 pc Ls S) rfl (by show Ls.size = _; rw [H.2.2.1]; exact hsz) (Steps.refl _) (a := a) (argsL := argsL) (rest := st) hlen hS (by show 2 * 0 + _ ≤ _; rw [hw]; omega) (hb H.2.1 hd) (fun _ _ => ⟨rfl, eT, hk, hn⟩)
  dsimp only [Pt.U, Pt.locs, Pt.cells, Pt.slots] at X' l' y' z' q hQ
  subst l' y' z'
  exact .trans q (hr v _ hQ T' _ X' (N.app hN) rfl)
theorem k_invV {idx : Nat} {a : Addr} {cls : String} (argsL : List Value) (w : Nat) (H : Cx C Z own code ml ret nm E.1) (w1 : (Cond.methodLink own idx y).before a0 Z = true) (w2 : (Cond.declares y).before a0 Z = true) (w5 : (Cond.selects cls y y).before a0 Z = true) (w6 : (Cond.instanceMethod y).before a0 Z = true) (w3 : (Cond.initialized y.cls).before a0 Z = true) (w4 : (Cond.code y bytes maxL rt).before a0 Z = true)
    (hcl : y.cls = cls) (hy : y.cls ≠ "java/lang/invoke/MethodHandle" ∧ y.cls ≠ "java/lang/invoke/VarHandle") (X0 : Exa Z h a cls) (hc : E.1 ≤ h.size → Ctr l Z y bytes maxL rt rm E.1 (.ref a :: argsL).toArray h Q) (hlen : ∀ sig, parseMethodDescriptor y.desc = some sig → argsL.length = sig.parameters.length)
    (hd : decode code pc = .ok (.invokevirtual idx, 3)) (hS : S = argsL.reverse ++ .ref a :: st) (hsz : Ls.size = ml) (hw : (st.map fun v => v.category).sum = w) (hF : rm.frames + 1 ≤ R.frames) (hL : w + (maxL + 11) + rm.locals ≤ R.locals) (hk : k + rm.cells ≤ R.cells) (hn : n + rm.slots ≤ R.slots)
    (hr : ∀ v h', Q v h' → W l R C E h' (k + rm.cells) (n + rm.slots) (pc + 3) Ls (v.toList ++ st)) : W l R C E h k n pc Ls S := fun T L X N eT => by
  subst hcl
  obtain ⟨cq, kq, qa, qb, qc⟩ := isOf H.2.2.2.2.1 eT X0
  obtain ⟨v, _, ⟨T', L', k', n'⟩, -, X', ⟨Lc, ⟨hQ, hN⟩, l', y', z'⟩, q⟩ := X.virtualBack H.1 (y := y) (z := y) H.2.2.2.1 (mvT H.2.2.2.2.1 w1) (mvT H.2.2.2.2.1 w2) (notFace_of_selects (args := #[]) (mvT H.2.2.2.2.1 w5)) (mvT H.2.2.2.2.1 w5) (mvT H.2.2.2.2.1 w6) hy (payOf (w := w) (hc (by rw [← eT]; exact size_ge H X)) H.2.2.2.2.1 w4 w3 hF hL) qa qc
    (g := mkF C.2.2.2.1 pc Ls S) rfl (by show Ls.size = _; rw [H.2.2.1]; exact hsz) (Steps.refl _) (argsL := argsL) (rest := st) hlen hS (by show 2 * 0 + _ ≤ _; rw [hw]; omega) (hb H.2.1 hd) (fun _ _ => ⟨rfl, eT, hk, hn⟩)
  dsimp only [Pt.U, Pt.locs, Pt.cells, Pt.slots] at X' l' y' z' q hQ
  subst l' y' z'
  exact .trans q (hr v _ hQ T' _ X' (N.app hN) rfl)
theorem Ctr.of {n0 : Nat} {as' : Array Value} (Ls : Array Slot) (hp : plainFor y = true) (hn0 : n0 ≤ h.size) (hef : ∀ m, entryFrame m as' maxL = mkF m 0 Ls []) (hW : ∀ C : Cxt, Cx C Z y.cls bytes maxL rt y.name n0 → W l rm C (n0, rm.cells, rm.slots, Q) h 0 0 0 Ls []) : Ctr l Z y bytes maxL rt rm n0 as' h Q := by
  refine MetFree.of_bodySF hp hisR ?_
  intro p e s m args below meth c s₁ Bd hml0 hP hK
  obtain ⟨rfl, hZ, hh⟩ := hP
  have hnm := (name_of_methodNamed Bd.named Bd.method).1
  have X0 : Stand p l e rm s m args below meth c s₁ [] 0 0 := Stand.of_body Bd
  have e0 : s₁.heap = h := by rw [← hh, Bd.state]; rfl
  obtain ⟨t, o, h1, h2, h3, v, L, h4, h5, h6⟩ := hW (p, e, s, m, args, below, meth, c) ⟨Bd.exec, Bd.bytes, hml0, findClass_of_methodNamed Bd.named, hZ, Bd.returns, Bd.notSynchronized, hnm, by rw [hh]; exact hn0⟩ s₁ [] X0 (Fr.nil n0) e0
  exact ⟨t, o, castTop (hef m) h1, h2, h3, v, L, h4, h5, h6⟩
/-- the judged body itself -/
theorem met_of {n0 K N : Nat} {ws : List Jvm.Cond} {as' : Array Value} (Ls : Array Slot) (hp : plainFor y = true) (hn0 : n0 ≤ h.size) (hef : ∀ m, entryFrame m as' maxL = mkF m 0 Ls []) (hW : ∀ C : Cxt, Cx C Z y.cls bytes maxL rt y.name n0 → W l rm C (n0, K, N, Q) h 0 0 0 Ls []) :
    MetFree l y (head1 (Cond.code y bytes maxL rt :: ws) rm) (fun a U => a = as' ∧ Z.Warmed39 U.vm ∧ U.heap = h) (fun _ _ _ _ _ => True) (fun _ U o U' => ∃ v L, o = .returned v ∧ (Q v U'.heap ∧ Fr n0 L) ∧ FrameEnd U o U' L K N) := by
  refine MetFree.of_bodySF hp hisR ?_
  intro p e s m args below meth c s₁ Bd hml0 hP hK
  obtain ⟨rfl, hZ, hh⟩ := hP
  have hnm := (name_of_methodNamed Bd.named Bd.method).1
  have X0 : Stand p l e rm s m args below meth c s₁ [] 0 0 := Stand.of_body Bd
  have e0 : s₁.heap = h := by rw [← hh, Bd.state]; rfl
  obtain ⟨t, o, h1, h2, h3, v, L, h4, h5, h6⟩ := hW (p, e, s, m, args, below, meth, c) ⟨Bd.exec, Bd.bytes, hml0, findClass_of_methodNamed Bd.named, hZ, Bd.returns, Bd.notSynchronized, hnm, by rw [hh]; exact hn0⟩ s₁ [] X0 (Fr.nil n0) e0
  exact ⟨t, o, castTop (hef m) h1, h2, h3, v, L, h4, h5, h6⟩
end Calls
/-! ends -/
theorem k_retInt {x : Int32} (H : Cx C Z own code ml (some .int) nm E.1) (hd : decode code pc = .ok (.ireturn, 1)) (hk : k ≤ E.2.1) (hn : n ≤ E.2.2.1) (hq : E.2.2.2 (some (.int x)) h) : W l R C E h k n pc Ls (.int x :: st) := fun T L X N eT => by
  obtain ⟨fs, hr, hrun, hend, hW, hs⟩ := X.leave (v := some (.int x)) (fun z => by rw [H.2.2.2.2.2.1] at z; cases z) H.2.2.2.2.2.2.1
  exact ⟨_, _, retOut X H.1 H.2.2.2.2.2.1 rfl (Or.inl ⟨rfl, Or.inl rfl, _, rfl⟩) (hb H.2.1 hd) hr, hrun, hend, _, L, rfl, ⟨by subst eT; exact hq, N⟩, ⟨_, rfl⟩, hW, hs.mono hk hn⟩
theorem k_retN' {x : Int32} {t : FieldType} (ht : t = .boolean ∨ t = .byte ∨ t = .char ∨ t = .short) (H : Cx C Z own code ml (some t) nm E.1) (hd : decode code pc = .ok (.ireturn, 1)) (hk : k ≤ E.2.1) (hn : n ≤ E.2.2.1) (hq : E.2.2.2 (some (.int (nar t x))) h) : W l R C E h k n pc Ls (.int x :: st) := fun T L X N eT => by
  obtain ⟨fs, hr, hrun, hend, hW, hs⟩ := X.leave (v := some (.int (nar t x))) (fun z => by rw [H.2.2.2.2.2.1] at z; cases z) H.2.2.2.2.2.2.1
  exact ⟨_, _, retN X H.1 H.2.2.2.2.2.1 ht (hb H.2.1 hd) hr, hrun, hend, _, L, rfl, ⟨by subst eT; exact hq, N⟩, ⟨_, rfl⟩, hW, hs.mono hk hn⟩
theorem k_retLong {x : Int64} (H : Cx C Z own code ml (some .long) nm E.1) (hd : decode code pc = .ok (.lreturn, 1)) (hk : k ≤ E.2.1) (hn : n ≤ E.2.2.1) (hq : E.2.2.2 (some (.long x)) h) : W l R C E h k n pc Ls (.long x :: st) := fun T L X N eT => by
  obtain ⟨fs, hr, hrun, hend, hW, hs⟩ := X.leave (v := some (.long x)) (fun z => by rw [H.2.2.2.2.2.1] at z; cases z) H.2.2.2.2.2.2.1
  exact ⟨_, _, retOut X H.1 H.2.2.2.2.2.1 rfl (Or.inr (Or.inl ⟨rfl, rfl, _, rfl⟩)) (hb H.2.1 hd) hr, hrun, hend, _, L, rfl, ⟨by subst eT; exact hq, N⟩, ⟨_, rfl⟩, hW, hs.mono hk hn⟩
theorem k_retRef {a : Addr} {t : FieldType} (ht : t.isReference = true) (hnar : narrow t (.ref a) = .ref a) (H : Cx C Z own code ml (some t) nm E.1) (hd : decode code pc = .ok (.areturn, 1)) (hk : k ≤ E.2.1) (hn : n ≤ E.2.2.1) (hq : E.2.2.2 (some (.ref a)) h) : W l R C E h k n pc Ls (.ref a :: st) := fun T L X N eT => by
  obtain ⟨fs, hr, hrun, hend, hW, hs⟩ := X.leave (v := some (.ref a)) (fun z => by rw [H.2.2.2.2.2.1] at z; cases z) H.2.2.2.2.2.2.1
  exact ⟨_, _, retOut X H.1 H.2.2.2.2.2.1 hnar (Or.inr (Or.inr (Or.inr (Or.inr ⟨rfl, ht, rfl⟩)))) (hb H.2.1 hd) hr, hrun, hend, _, L, rfl, ⟨by subst eT; exact hq, N⟩, ⟨_, rfl⟩, hW, hs.mono hk hn⟩
theorem k_retVoid (H : Cx C Z own code ml none nm E.1) (hd : decode code pc = .ok (.return_, 1)) (hk : k ≤ E.2.1) (hn : n ≤ E.2.2.1) (hq : E.2.2.2 none h) : W l R C E h k n pc Ls [] := fun T L X N eT => by
  obtain ⟨fs, hr, hrun, hend, hW, hs⟩ := X.leave (v := none) (fun _ => rfl) H.2.2.2.2.2.2.1
  exact ⟨_, _, X.returnOut H.1 H.2.2.2.2.2.1 (hb H.2.1 hd) hr, hrun, hend, _, L, rfl, ⟨by subst eT; exact hq, N⟩, ⟨_, rfl⟩, hW, hs.mono hk hn⟩
end Own
end Jvm.OwnKit
namespace Jvm.OwnKit
/-! small naturals as ints -/
theorem lt_nat {x y : Int32} {i j : Nat} (hx : x.toInt = (i : Int)) (hy : y.toInt = (j : Int)) : x < y ↔ i < j := by rw [Int32.lt_iff_toInt_lt, hx, hy]; omega
theorem eq_nat {x y : Int32} {i j : Nat} (hx : x.toInt = (i : Int)) (hy : y.toInt = (j : Int)) : x = y ↔ i = j := by rw [← Int32.toInt_inj, hx, hy]; omega
theorem add_nat {x y : Int32} {i j : Nat} (hx : x.toInt = (i : Int)) (hy : y.toInt = (j : Int)) (hb : i + j < 2147483648) : (x + y).toInt = ((i + j : Nat) : Int) := by rw [Jvm.Kit.i32_add] <;> rw [hx, hy] <;> omega
theorem sub_nat {x y : Int32} {i j : Nat} (hx : x.toInt = (i : Int)) (hy : y.toInt = (j : Int)) (hb : j ≤ i) : (x - y).toInt = ((i - j : Nat) : Int) := by have := x.toInt_lt; rw [Jvm.Kit.i32_sub] <;> rw [hx, hy] <;> omega
theorem mul_nat {x y : Int32} {i j : Nat} (hx : x.toInt = (i : Int)) (hy : y.toInt = (j : Int)) (hb : i * j < 2147483648) : (x * y).toInt = ((i * j : Nat) : Int) := by
  have e : (i : Int) * (j : Int) = ((i * j : Nat) : Int) := by simp
  rw [Jvm.Kit.i32_mul] <;> rw [hx, hy, e] <;> omega
theorem rem_nat {x y : Int32} {i j : Nat} (hx : x.toInt = (i : Int)) (hy : y.toInt = (j : Int)) : (x % y).toInt = ((i % j : Nat) : Int) := by rw [Jvm.Kit.i32_rem_nonneg (by omega), hx, hy]; simp
theorem nat_of_nonneg {x : Int32} (h : 0 ≤ x.toInt) : ∃ i : Nat, x.toInt = (i : Int) ∧ i < 2147483648 := ⟨x.toInt.toNat, by omega, by have := x.toInt_lt; omega⟩
/-- a mask of k ones: a natural below 2 ^ k -/
theorem mask_nat (x m : Int32) (k : Nat) (hk : k < 32) (hm : m.toBitVec.toNat = 2 ^ k - 1) : ∃ i : Nat, (x &&& m).toInt = (i : Int) ∧ i < 2 ^ k := by
  have e := Jvm.Kit.i32_mask x m hk hm
  have p : (0 : Int) < 2 ^ k := Int.pow_pos (by omega)
  have h1 := Int.emod_nonneg x.toInt (Int.ne_of_gt p)
  have h2 := Int.emod_lt_of_pos x.toInt p
  refine ⟨(x.toInt % 2 ^ k).toNat, by rw [e]; omega, ?_⟩
  have h3 : ((2 ^ k : Nat) : Int) = 2 ^ k := by simp
  omega
theorem mod_nat (x m y : Int32) (k j : Nat) (hk : k < 32) (hm : m.toBitVec.toNat = 2 ^ k - 1) (hy : y.toInt = (j : Int)) (hj : 0 < j) : ∃ i : Nat, ((x &&& m) % y).toInt = (i : Int) ∧ i < j := by
  obtain ⟨i, h1, h2⟩ := mask_nat x m k hk hm
  exact ⟨i % j, rem_nat h1 hy, Nat.mod_lt _ hj⟩
theorem div_nat {x y : Int32} {i j : Nat} (hx : x.toInt = (i : Int)) (hy : y.toInt = (j : Int)) : (x / y).toInt = ((i / j : Nat) : Int) := by
  rw [Jvm.Kit.i32_div (by omega), hx, hy]; rfl
theorem ushr_nat {x y : Int32} {i : Nat} (k : Nat) (hx : x.toInt = (i : Int)) (hy : (y &&& 31).toUInt32.toNat = k) (hk : k < 32) : (Jvm.Free.XT.ushr x y).toInt = ((i / 2 ^ k : Nat) : Int) := by
  unfold Jvm.Free.XT.ushr
  rw [Jvm.Kit.i32_iushr (by rw [Int32.le_iff_toInt_le, hx]; exact Int.natCast_nonneg _) hy hk, hx]; simp
theorem c16 (c : UInt16) : c.toUInt32.toInt32.toUInt32.toUInt16 = c := by simp
theorem b8 (b : Int8) : b.toInt32.toInt8 = b := by simp
/-- a local's slot of one word -/
def OneW (s : Slot) : Prop := s = .unset ∨ ∃ w, s = .val w ∧ w.category = 1
theorem OneW.unset : OneW .unset := Or.inl rfl
theorem OneW.int (x : Int32) : OneW (.val (.int x)) := Or.inr ⟨_, rfl, rfl⟩
theorem OneW.ref (x : Addr) : OneW (.val (.ref x)) := Or.inr ⟨_, rfl, rfl⟩
end Jvm.OwnKit
namespace Jvm.OwnKit
open Sem ClassFile Op Lib Jvm.Stand Jvm.Free Jvm.LawKit Jvm.RoadKit
section Own2
variable {l : Launch} {R : Room} {C : Cxt} {E : En} {h h' : Heap} {k n pc : Nat} {Ls : Array Slot} {st : List Value} {Z : State} {own nm : String} {code : ByteArray} {ml : Nat} {ret : Option FieldType} {a0 : Array Value}
variable {y : MethodName} {bytes : ByteArray} {maxL : Nat} {rt : Option FieldType} {rm : Room} {Q : Option Value → Heap → Prop} {S : List Value}
/-- invokevirtual of a private method of the class -/
theorem k_invP {idx kk : Nat} {a : Addr} {cls : String} (argsL : List Value) (w : Nat) (H : Cx C Z own code ml ret nm E.1) (w1 : (Cond.methodLink own idx y).before a0 Z = true) (wp : (Cond.privateMethod y).before a0 Z = true) (w6 : (Cond.instanceMethod y).before a0 Z = true) (w3 : (Cond.initialized y.cls).before a0 Z = true) (w4 : (Cond.code y bytes maxL rt).before a0 Z = true) (wi : (Cond.instantiable cls kk).before a0 Z = true)
    (hcl : y.cls = cls) (hy : y.cls ≠ "java/lang/invoke/MethodHandle" ∧ y.cls ≠ "java/lang/invoke/VarHandle") (X0 : Exa Z h a cls) (hc : E.1 ≤ h.size → Ctr l Z y bytes maxL rt rm E.1 (.ref a :: argsL).toArray h Q) (hlen : ∀ sig, parseMethodDescriptor y.desc = some sig → argsL.length = sig.parameters.length)
    (hd : decode code pc = .ok (.invokevirtual idx, 3)) (hS : S = argsL.reverse ++ .ref a :: st) (hsz : Ls.size = ml) (hw : (st.map fun v => v.category).sum = w) (hF : rm.frames + 1 ≤ R.frames) (hL : w + (maxL + 11) + rm.locals ≤ R.locals) (hk : k + rm.cells ≤ R.cells) (hn : n + rm.slots ≤ R.slots)
    (hr : ∀ v h', Q v h' → W l R C E h' (k + rm.cells) (n + rm.slots) (pc + 3) Ls (v.toList ++ st)) : W l R C E h k n pc Ls S := fun T L X N eT => by
  subst hcl
  obtain ⟨cq, q1, q2⟩ := X0.cell
  have hP := Cond.privateMethod_at (mvP H.2.2.2.2.1 wp (args := #[]))
  obtain ⟨ci, ki, i1, i2, -, i4, -⟩ := Cond.instantiable_spec (mv H.2.2.2.2.1 wi (args := #[]))
  have hni : ki.isInterface = false := (Bool.or_eq_false_iff.mp i4).1
  have hsel : (Cond.selects y.cls y y).before C.2.2.2.2.1 C.2.2.1 = true := selects_self_of_private i1 i2 hni hP (mvT H.2.2.2.2.1 w6) hy
  obtain ⟨v, _, ⟨T', L', k', n'⟩, -, X', ⟨Lc, ⟨hQ, hN⟩, l', y', z'⟩, q⟩ := X.privateBack H.1 (y := y) H.2.2.2.1 (mvT H.2.2.2.2.1 w1) (mvT H.2.2.2.2.1 w6) hsel hP (mvT H.2.2.2.2.1 w4) hy (payOf (w := w) (hc (by rw [← eT]; exact size_ge H X)) H.2.2.2.2.1 w4 w3 hF hL)
    (g := mkF C.2.2.2.1 pc Ls S) rfl (by show Ls.size = _; rw [H.2.2.1]; exact hsz) (Steps.refl _) (a := a) (by rw [eT]; exact q1) q2 (argsL := argsL) (rest := st) hlen hS (by show 2 * 0 + _ ≤ _; rw [hw]; omega) (hb H.2.1 hd) (fun _ _ => ⟨rfl, eT, hk, hn⟩)
  dsimp only [Pt.U, Pt.locs, Pt.cells, Pt.slots] at X' l' y' z' q hQ
  subst l' y' z'
  exact .trans q (hr v _ hQ T' _ X' (N.app hN) rfl)
/-! System.arraycopy of an int[], both from place 0 -/
theorem arv_of {a : Addr} {xs : List Int32} (V : IA Z h a xs) : ∃ kc, Arv Z h a kc .int xs.length.toInt32 (xs.map .int) (.int 0) ∧ xs.length.toInt32.toNatClampNeg = xs.length ∧ ¬ xs.length.toInt32 < 0 := by
  obtain ⟨c, A, e, hl⟩ := V
  rw [List.length_map] at hl
  have q := idx_ok (len_toInt hl)
  refine ⟨c.cls, ⟨c, A, rfl, by rw [q.2, e]; simp, q.1, fun i hi => ?_, fun i hi => ?_⟩, q.2, q.1⟩
  · rw [e] at hi ⊢
    have hi' : i < xs.length := by simpa using hi
    simp [hi']
  · rw [e] at hi
    have hi' : i < xs.length := by simpa using hi
    simp [hi', fits]
theorem of_arv {b : Addr} {kc : ClassId} {z : Int32} {zs : List Int32} {d : Value} (V : Arv Z h b kc .int z (zs.map .int) d) (hz : z.toNatClampNeg = zs.length) (hl : zs.length < 2 ^ 31) : IA Z h b zs := by
  obtain ⟨c, A, -, s, -, H, -⟩ := V
  refine ⟨c, A, ?_, by simpa using hl⟩
  apply Array.ext_getElem?
  intro i
  by_cases hi : i < c.slots.size
  · rw [H i hi]
    have hi' : i < zs.length := by rw [s, hz] at hi; exact hi
    simp [hi']
  · rw [Array.getElem?_eq_none (by omega)]
    have hi' : ¬ i < zs.length := by rw [s, hz] at hi; exact hi
    simp [hi']
theorem k_copyI {idx w m : Nat} {a b : Addr} {xs ys : List Int32} {nn : Int32} (H : Cx C Z own code ml ret nm E.1) (w1 : (Cond.methodLink own idx Jvm.Stand.acN).before a0 Z = true) (w2 : (Cond.native Jvm.Stand.acN).before a0 Z = true) (w3 : (Cond.static Jvm.Stand.acN).before a0 Z = true) (w4 : (Cond.initialized "java/lang/System").before a0 Z = true)
    (A : IA Z h a xs) (B : IA Z h b ys) (hm : nn.toInt = (m : Int)) (h1 : m ≤ xs.length) (h2 : m ≤ ys.length) (ge : E.1 ≤ b) (hd : decode code pc = .ok (.invokestatic idx, 3)) (hsz : Ls.size = ml) (hF : 1 ≤ R.frames) (hw : (st.map fun v => v.category).sum = w) (hL : w + 18 ≤ R.locals)
    (hr : ∀ h', Keep h h' [b] → IA Z h' b (xs.take m ++ ys.drop m) → W l R C E h' k n (pc + 3) Ls st) : W l R C E h k n pc Ls (.int nn :: .int (0 : Int32) :: .ref b :: .int (0 : Int32) :: .ref a :: st) := fun T L X N eT => by
  have hly : ys.length < 2 ^ 31 := by obtain ⟨_, _, _, z⟩ := B; simpa using z
  obtain ⟨ka, VA, a1, a2⟩ := arv_of A
  obtain ⟨kb, VB, b1, b2⟩ := arv_of B
  obtain ⟨q1, q2⟩ := idx_ok hm
  obtain ⟨T', h', L', X', e', N', K, V, q⟩ := cpA X H.1 H.2.2.2.2.1 H.2.2.2.1 w1 w2 w3 w4 eT VA VB (Or.inl ⟨rfl, rfl⟩) (sp := 0) (dp := 0) (nn := nn) (by decide) (by decide) q1 (by rw [q2, a1]; show 0 + m ≤ _; omega) (by rw [q2, b1]; show 0 + m ≤ _; omega) (us := _) rfl (by rw [q2, List.length_map]; show 0 + m ≤ _; omega) N ge
    (g := mkF C.2.2.2.1 pc Ls (.int nn :: .int (0 : Int32) :: .ref b :: .int (0 : Int32) :: .ref a :: st)) rfl (by show Ls.size = _; rw [H.2.2.1]; exact hsz) rfl (hb H.2.1 hd) hF (W := w) (by show 2 * 0 + _ ≤ _; rw [hw]; omega) hL
  refine .step q (hr h' K ?_ T' _ X' N' e')
  have e : ((ys.map Value.int).take (0 : Int32).toNatClampNeg ++ ((List.range nn.toNatClampNeg).map fun i => (xs.map Value.int).getD ((0 : Int32).toNatClampNeg + i) (.int 0)) ++ (ys.map Value.int).drop ((0 : Int32).toNatClampNeg + nn.toNatClampNeg)) = (xs.take m ++ ys.drop m).map Value.int := by
    have z0 : (0 : Int32).toNatClampNeg = 0 := rfl
    rw [z0, q2, List.map_append]
    simp only [List.take_zero, List.nil_append, Nat.zero_add, List.map_drop]
    congr 1
    apply List.ext_getElem?
    intro i
    by_cases hi : i < m
    · have : i < xs.length := by omega
      simp [hi, this]
    · rw [List.getElem?_eq_none (by simp; omega), List.getElem?_eq_none (by simp; omega)]
  rw [e] at V
  exact of_arv V (by rw [b1, List.length_append, List.length_take, List.length_drop]; omega) (by rw [List.length_append, List.length_take, List.length_drop]; omega)
end Own2
end Jvm.OwnKit
namespace Jvm.Pilot.@@N@@
open Jvm Jvm.ClassFile Sem Op Lib Jvm.Free Jvm.Stand Jvm.LawKit Jvm.RoadKit Jvm.OwnKit Bundle Jvm.Pilot.@@N@@.Jvm.D
theorem pf_1 : plainFor (⟨"java/lang/Math", "min", "(II)I"⟩ : MethodName) = true := by decide +kernel
theorem pf_8 : plainFor (⟨"java/util/Arrays", "copyOf", "([II)[I"⟩ : MethodName) = true := by decide +kernel
theorem pd_0 : parseMethodDescriptor "(II)I" = some ⟨[.int, .int], some .int⟩ := by decide +kernel
theorem pn_2 : plainName "com/example/hesabu/hesabu/billing/HeldLicences" = true := by first | (simp [plainName, overriddenIn]; done) | decide +kernel
theorem pd_1 : parseMethodDescriptor "([II)[I" = some ⟨[(.array .int), .int], some (.array .int)⟩ := by decide +kernel
theorem pd_2 : parseMethodDescriptor "(IZ)I" = some ⟨[.int, .boolean], some .int⟩ := by decide +kernel
theorem pd_3 : parseMethodDescriptor "(I)I" = some ⟨[.int], some .int⟩ := by decide +kernel
theorem pn_3 : plainName "com/example/hesabu/hesabu/billing/HeldLicencesHeldOnPinLaw" = true := by first | (simp [plainName, overriddenIn]; done) | decide +kernel
theorem pd_4 : parseMethodDescriptor "()V" = some ⟨[], none⟩ := by decide +kernel
theorem pd_5 : parseMethodDescriptor "(II)V" = some ⟨[.int, .int], none⟩ := by decide +kernel
def own_H (Z : State) (h : Heap) (n0 hA : Nat) (es : List (Int32 × Int32)) (cap : Nat) : Prop := ∃ (a b : Addr) (c : Int32) (xs ys : List Int32),
  n0 ≤ a ∧ n0 ≤ b ∧ hA < a ∧ hA < b ∧ a ≠ b ∧ Exa Z h hA "com/example/hesabu/hesabu/billing/HeldLicences" ∧ Fld Z h hA "com/example/hesabu/hesabu/billing/HeldLicences" "days" "[I" (.ref a) ∧ Fld Z h hA "com/example/hesabu/hesabu/billing/HeldLicences" "quantities" "[I" (.ref b) ∧ Fld Z h hA "com/example/hesabu/hesabu/billing/HeldLicences" "count" "I" (.int c) ∧ IA Z h a xs ∧ IA Z h b ys ∧
  c.toInt = (es.length : Int) ∧ xs.length = cap ∧ ys.length = cap ∧ es.length ≤ cap ∧ (∀ i, i < es.length → xs[i]? = (es.map Prod.fst)[i]?) ∧ (∀ i, i < es.length → ys[i]? = (es.map Prod.snd)[i]?)
def own_set (es : List (Int32 × Int32)) (d q : Int32) : List (Int32 × Int32) := match es.getLast? with
  | some e => if e.1 = d then es.dropLast ++ [(d, q)] else es ++ [(d, q)]
  | none => [(d, q)]
theorem own_set_nil (d q : Int32) : own_set [] d q = [(d, q)] := rfl
theorem own_set_eq (fs : List (Int32 × Int32)) (d q q' : Int32) : own_set (fs ++ [(d, q')]) d q = fs ++ [(d, q)] := by simp [own_set]
theorem own_set_ne (fs : List (Int32 × Int32)) {d d' q q' : Int32} (h : ¬ d' = d) : own_set (fs ++ [(d', q')]) d q = fs ++ [(d', q')] ++ [(d, q)] := by simp [own_set, h]
theorem own_set_len (es : List (Int32 × Int32)) (d q : Int32) : (own_set es d q).length ≤ es.length + 1 ∧ 1 ≤ (own_set es d q).length := by
  rcases List.eq_nil_or_concat es with rfl | ⟨fs, ⟨d', q'⟩, rfl⟩
  · simp [own_set_nil]
  · rw [List.concat_eq_append]
    by_cases e : d' = d
    · subst e; rw [own_set_eq]; simp
    · rw [own_set_ne fs e]; simp
theorem own_set_last (es : List (Int32 × Int32)) (d q : Int32) : ∃ fs, own_set es d q = fs ++ [(d, q)] := by
  rcases List.eq_nil_or_concat es with rfl | ⟨fs, ⟨d', q'⟩, rfl⟩
  · exact ⟨[], rfl⟩
  · rw [List.concat_eq_append]
    by_cases e : d' = d
    · subst e; exact ⟨fs, own_set_eq fs d' q q'⟩
    · exact ⟨_, own_set_ne fs e⟩
theorem own_pre_set {xs ds : List Int32} {d : Int32} (hp : ∀ i, i < ds.length → xs[i]? = ds[i]?) (hl : ds.length < xs.length) : ∀ i, i < (ds ++ [d]).length → (xs.set ds.length d)[i]? = (ds ++ [d])[i]? := by
  intro i hi
  by_cases e : i = ds.length
  · subst e; simp [hl]
  · have : i < ds.length := by simp at hi; omega
    rw [List.getElem?_set_ne (fun z => e z.symm), hp i this, List.getElem?_append_left this]
theorem own_pre_rep {xs ds : List Int32} {q q' : Int32} (hp : ∀ i, i < (ds ++ [q']).length → xs[i]? = (ds ++ [q'])[i]?) (hl : ds.length < xs.length) : ∀ i, i < (ds ++ [q]).length → (xs.set ds.length q)[i]? = (ds ++ [q])[i]? := by
  intro i hi
  by_cases e : i = ds.length
  · subst e; simp [hl]
  · have : i < ds.length := by simp at hi; omega
    rw [List.getElem?_set_ne (fun z => e z.symm), hp i (by simp; omega), List.getElem?_append_left this, List.getElem?_append_left this]
theorem own_srt {es fs0 : List (Int32 × Int32)} {D Q D' : Int32} (h : es = fs0 ++ [(D, Q)]) (hd : ¬ D' < D) : ∀ fs d' q', es = fs ++ [(d', q')] → ¬ D' < d' := by
  intro fs d' q' e
  have h1 := congrArg List.getLast? (h.symm.trans e)
  simp at h1
  rw [← h1.1]; exact hd
theorem own_inc {D b E : Int32} {m : Nat} {B : Int} (he : D + b = E) (hb : b.toInt = (m : Int)) (hD : D.toInt ≤ B) (hB : B + (m : Int) ≤ 2147483647) : ¬ E < D ∧ E.toInt ≤ B + m ∧ D.toInt ≤ E.toInt := by
  have h0 := D.le_toInt
  have h1 : E.toInt = D.toInt + m := by
    rw [← he, Jvm.Kit.i32_add] <;> rw [hb]
    · have : (-2 : Int) ^ 31 = -2147483648 := by decide
      omega
    · have : (2 : Int) ^ 31 = 2147483648 := by decide
      omega
  rw [Int32.lt_iff_toInt_lt]
  omega
theorem own_nlt {a b n : Int32} {i j : Nat} (h : ¬ a < n) (ha : a.toInt = (i : Int)) (hb : b.toInt = (j : Int)) (hij : i ≤ j) : ¬ b < n := by
  rw [Int32.lt_iff_toInt_lt] at h ⊢; omega
theorem own_min {x m y : Int32} {B : Int} (h : (if m < x then m else x) = y) (hm : m.toInt = B) : y.toInt ≤ B := by
  rw [← h]
  by_cases c : m < x
  · rw [if_pos c]; omega
  · rw [if_neg c]; rw [Int32.lt_iff_toInt_lt] at c; omega
def own_lk (es : List (Int32 × Int32)) (p : Int32) : Int32 := es.foldl (fun z e => if p < e.1 then z else e.2) 0
def own_at (es : List (Int32 × Int32)) (i : Nat) : Int32 := (es.map Prod.fst).getD i 0
def own_S (es : List (Int32 × Int32)) : Prop := es.Pairwise fun x y => x.1 < y.1
theorem own_lk_snoc (fs : List (Int32 × Int32)) (d q p : Int32) : own_lk (fs ++ [(d, q)]) p = if p < d then own_lk fs p else q := by simp [own_lk]
theorem own_lk_set (es : List (Int32 × Int32)) (d q p : Int32) (h : ∀ fs d' q', es = fs ++ [(d', q')] → ¬ d < d') : own_lk (own_set es d q) p = if p < d then own_lk es p else q := by
  rcases List.eq_nil_or_concat es with rfl | ⟨fs, ⟨d', q'⟩, rfl⟩
  · exact own_lk_snoc [] d q p
  · rw [List.concat_eq_append] at h ⊢
    by_cases e : d' = d
    · subst e
      rw [own_set_eq, own_lk_snoc, own_lk_snoc]
      by_cases c : p < d' <;> simp [c]
    · rw [own_set_ne fs e, own_lk_snoc]
theorem own_S_set (es : List (Int32 × Int32)) (d q : Int32) (hS : own_S es) (h : ∀ fs d' q', es = fs ++ [(d', q')] → ¬ d < d') : own_S (own_set es d q) := by
  rcases List.eq_nil_or_concat es with rfl | ⟨fs, ⟨d', q'⟩, rfl⟩
  · simp [own_set_nil, own_S]
  · rw [List.concat_eq_append] at h hS ⊢
    have h1 := h fs d' q' rfl
    obtain ⟨p1, p2, p3⟩ := List.pairwise_append.mp hS
    by_cases e : d' = d
    · subst e
      rw [own_set_eq]
      exact List.pairwise_append.mpr ⟨p1, by simp, fun x hx y hy => by simp at hy; subst hy; exact p3 x hx (d', q') (by simp)⟩
    · have lt : d' < d := by
        rw [Int32.lt_iff_toInt_lt] at h1 ⊢
        have : d'.toInt ≠ d.toInt := fun z => e (Int32.toInt_inj.mp z)
        omega
      rw [own_set_ne fs e]
      refine List.pairwise_append.mpr ⟨hS, by simp, fun x hx y hy => ?_⟩
      simp at hy; subst hy
      rcases List.mem_append.mp hx with hx | hx
      · have := p3 x hx (d', q') (by simp)
        exact Int32.lt_trans this lt
      · simp at hx; subst hx; exact lt
theorem own_at_get {es : List (Int32 × Int32)} {i : Nat} (h : i < es.length) : own_at es i = es[i].1 := by simp [own_at, h]
theorem own_at_lt {es : List (Int32 × Int32)} (hS : own_S es) {i j : Nat} (hij : i < j) (hj : j < es.length) : own_at es i < own_at es j := by
  rw [own_at_get (by omega), own_at_get hj]
  exact (List.pairwise_iff_getElem.mp hS) i j (by omega) hj hij
theorem own_lk_skip (p : Int32) : ∀ (es : List (Int32 × Int32)) (z : Int32), (∀ e ∈ es, p < e.1) → es.foldl (fun z e => if p < e.1 then z else e.2) z = z
  | [], _, _ => rfl
  | e :: es, z, h => by
    rw [List.foldl_cons, if_pos (h e (by simp))]
    exact own_lk_skip p es z (fun x hx => h x (by simp [hx]))
theorem own_lk_at {es : List (Int32 × Int32)} {p : Int32} {k : Nat} (hk : k < es.length) (h1 : ¬ p < own_at es k) (h2 : ∀ i, k < i → i < es.length → p < own_at es i) : (es.map Prod.snd)[k]? = some (own_lk es p) := by
  have e1 : es = es.take (k + 1) ++ es.drop (k + 1) := (List.take_append_drop _ _).symm
  have e2 : own_lk es p = own_lk (es.take (k + 1)) p := by
    conv => lhs; rw [e1]
    unfold own_lk
    rw [List.foldl_append]
    apply own_lk_skip
    intro e he
    obtain ⟨i, hi, rfl⟩ := List.mem_iff_getElem.mp he
    have hi' : k + 1 + i < es.length := by simp at hi; omega
    have := h2 (k + 1 + i) (by omega) hi'
    rw [own_at_get hi'] at this
    simpa using this
  rw [e2, List.take_succ_eq_append_getElem hk, show es[k] = (es[k].1, es[k].2) from rfl, own_lk_snoc, if_neg (by rw [← own_at_get hk]; exact h1)]
  simp [hk]
theorem own_at_set {es : List (Int32 × Int32)} (d q : Int32) (h : 1 ≤ es.length) : own_at (own_set es d q) 0 = own_at es 0 := by
  rcases List.eq_nil_or_concat es with rfl | ⟨fs, ⟨d', q'⟩, rfl⟩
  · simp at h
  · rw [List.concat_eq_append]
    by_cases e : d' = d
    · subst e; rw [own_set_eq]; cases fs <;> simp [own_at]
    · rw [own_set_ne fs e]; cases fs <;> simp [own_at]
def own_x (kk i : Nat) (p D Q z : Int32) : Int32 := if i ≤ kk ∧ ¬ p < D then Q else z
theorem own_x_no {kk i : Nat} {p D Q z : Int32} (h : ¬ i ≤ kk) : own_x kk i p D Q z = z := if_neg (fun q => h q.1)
theorem own_x_lt {kk i : Nat} {p D Q z : Int32} (h : p < D) : own_x kk i p D Q z = z := if_neg (fun q => q.2 h)
theorem own_x_yes {kk i : Nat} {p D Q z : Int32} (h : i ≤ kk) (h' : ¬ p < D) : own_x kk i p D Q z = Q := if_pos ⟨h, h'⟩
theorem own_x_if {kk i : Nat} {p D Q z : Int32} (h : i ≤ kk) : own_x kk i p D Q z = if p < D then z else Q := by
  by_cases c : p < D
  · rw [own_x_lt c, if_pos c]
  · rw [own_x_yes h c, if_neg c]
theorem d1_0 : decode jdk_29_method_69_code 0 = .ok (.iload_n 0, 1) := by decide +kernel
theorem d1_1 : decode jdk_29_method_69_code 1 = .ok (.iload_n 1, 1) := by decide +kernel
theorem d1_2 : decode jdk_29_method_69_code 2 = .ok (.if_icmp .gt 7, 3) := by decide +kernel
theorem d1_5 : decode jdk_29_method_69_code 5 = .ok (.iload_n 0, 1) := by decide +kernel
theorem d1_6 : decode jdk_29_method_69_code 6 = .ok (.goto 4, 3) := by decide +kernel
theorem d1_9 : decode jdk_29_method_69_code 9 = .ok (.iload_n 1, 1) := by decide +kernel
theorem d1_10 : decode jdk_29_method_69_code 10 = .ok (.ireturn, 1) := by decide +kernel
abbrev own_rm1_room : Room := { frames := 0, cells := 0, slots := 0, locals := 0 }
set_option maxRecDepth 65536 in
set_option maxHeartbeats 40000000 in
theorem rm1 (l : Launch) (Z : State) (a0 : Array Value) (hw : ∀ d ∈ tables_1, d.before a0 Z = true) (n0 : Nat) (h0 : Heap) (Z0 : n0 ≤ h0.size) (x y : Int32)  :
    Ctr l Z (⟨"java/lang/Math", "min", "(II)I"⟩ : MethodName) jdk_29_method_69_code 2 (some .int) own_rm1_room n0 #[(.int x), (.int y)] h0 (fun v h => v = some (.int (if y < x then y else x)) ∧ h = h0) := by
  refine Ctr.of #[.val (.int x), .val (.int y)] pf_1 Z0 (fun m => by first | (simp [entryFrame, mkF, argsToLocals, Value.category]; done) | rfl) ?_
  intro C H
  refine k_iloadN (pc := 0) H d1_0 rfl ?_
  refine k_iloadN (pc := 1) H d1_1 rfl ?_
  refine k_icmp (P := y < x) 9 (pc := 2) H d1_2 rfl XT.ii_gt_t XT.ii_gt_f (fun c2 => ?_) (fun c2 => ?_)
  · refine k_iloadN (pc := 9) H d1_9 rfl ?_
    exact k_retInt (pc := 10) H d1_10 (by show 0 ≤ own_rm1_room.cells; decide) (by show 0 ≤ own_rm1_room.slots; decide) (⟨by simp only [*, if_true, if_false], rfl⟩)
  · refine k_iloadN (pc := 5) H d1_5 rfl ?_
    refine k_goto 10 (pc := 6) H d1_6 rfl ?_
    exact k_retInt (pc := 10) H d1_10 (by show 0 ≤ own_rm1_room.cells; decide) (by show 0 ≤ own_rm1_room.slots; decide) (⟨by simp only [*, if_true, if_false], rfl⟩)
theorem d8_0 : decode jdk_65_method_123_code 0 = .ok (.iload_n 1, 1) := by decide +kernel
theorem d8_1 : decode jdk_65_method_123_code 1 = .ok (.aload_n 0, 1) := by decide +kernel
theorem d8_2 : decode jdk_65_method_123_code 2 = .ok (.arraylength, 1) := by decide +kernel
theorem d8_3 : decode jdk_65_method_123_code 3 = .ok (.if_icmp .ne 11, 3) := by decide +kernel
theorem d8_6 : decode jdk_65_method_123_code 6 = .ok (.aload_n 0, 1) := by decide +kernel
theorem d8_7 : decode jdk_65_method_123_code 7 = .ok (.invokevirtual 316, 3) := by decide +kernel
theorem d8_10 : decode jdk_65_method_123_code 10 = .ok (.checkcast 317, 3) := by decide +kernel
theorem d8_13 : decode jdk_65_method_123_code 13 = .ok (.areturn, 1) := by decide +kernel
theorem d8_14 : decode jdk_65_method_123_code 14 = .ok (.iload_n 1, 1) := by decide +kernel
theorem d8_15 : decode jdk_65_method_123_code 15 = .ok (.newarray .int, 2) := by decide +kernel
theorem d8_17 : decode jdk_65_method_123_code 17 = .ok (.astore_n 2, 1) := by decide +kernel
theorem d8_18 : decode jdk_65_method_123_code 18 = .ok (.aload_n 0, 1) := by decide +kernel
theorem d8_19 : decode jdk_65_method_123_code 19 = .ok (.iconst 0, 1) := by decide +kernel
theorem d8_20 : decode jdk_65_method_123_code 20 = .ok (.aload_n 2, 1) := by decide +kernel
theorem d8_21 : decode jdk_65_method_123_code 21 = .ok (.iconst 0, 1) := by decide +kernel
theorem d8_22 : decode jdk_65_method_123_code 22 = .ok (.aload_n 0, 1) := by decide +kernel
theorem d8_23 : decode jdk_65_method_123_code 23 = .ok (.arraylength, 1) := by decide +kernel
theorem d8_24 : decode jdk_65_method_123_code 24 = .ok (.iload_n 1, 1) := by decide +kernel
theorem d8_25 : decode jdk_65_method_123_code 25 = .ok (.invokestatic 304, 3) := by decide +kernel
theorem d8_28 : decode jdk_65_method_123_code 28 = .ok (.invokestatic 150, 3) := by decide +kernel
theorem d8_31 : decode jdk_65_method_123_code 31 = .ok (.aload_n 2, 1) := by decide +kernel
theorem d8_32 : decode jdk_65_method_123_code 32 = .ok (.areturn, 1) := by decide +kernel
abbrev own_rm8_room : Room := { frames := 1, cells := 1, slots := 8, locals := 18 }
set_option maxRecDepth 65536 in
set_option maxHeartbeats 40000000 in
theorem rm8 (l : Launch) (Z : State) (a0 : Array Value) (hw : ∀ d ∈ tables_1, d.before a0 Z = true) (n0 : Nat) (h0 : Heap) (Z0 : n0 ≤ h0.size) (a : Addr) (xs : List Int32) (nn : Int32) (m : Nat) (V : IA Z h0 a xs) (hm : nn.toInt = (m : Int)) (hxm : xs.length < m) (hm8 : m ≤ 8) :
    Ctr l Z (⟨"java/util/Arrays", "copyOf", "([II)[I"⟩ : MethodName) jdk_65_method_123_code 3 (some (.array .int)) own_rm8_room n0 #[(.ref a), (.int nn)] h0 (fun v h => ∃ b : Addr, v = some (.ref b) ∧ n0 ≤ b ∧ h0.size ≤ b ∧ Keep h0 h [] ∧ IA Z h b (xs ++ List.replicate (m - xs.length) 0)) := by
  refine Ctr.of #[.val (.ref a), .val (.int nn), .unset] pf_8 Z0 (fun m => by first | (simp [entryFrame, mkF, argsToLocals, Value.category]; done) | rfl) ?_
  intro C H
  refine k_iloadN (pc := 0) H d8_0 rfl ?_
  refine k_aloadN (pc := 1) H d8_1 rfl rfl ?_
  obtain ⟨N, hN⟩ : ∃ N : Int32, N.toInt = (xs.length : Int) := ⟨xs.length.toInt32, len_toInt (by omega)⟩
  refine k_arraylength (N := N) (pc := 2) H V (by simpa using hN) d8_2 ?_
  refine k_icmpT 14 (pc := 3) H d8_3 rfl (XT.ii_ne_t (fun z => by have := (eq_nat hm hN).mp z; omega)) ?_
  refine k_iloadN (pc := 14) H d8_14 rfl ?_
  refine k_new_int (m) 8 (pc := 15) H (wd hw 15 rfl) d8_15 (hm) (hm8) (by decide) (by decide) (by decide) ?_
  intro h2 b ea3 ge4 E5 XA1 V6
  have fr7 : h0.size ≤ b := by rw [ea3]; exact (Keep.refl h0 []).1
  have ne8 : a ≠ b := Nat.ne_of_lt (by rw [ea3]; exact V.lt)
  have KW9 : Keep h0 h2 [] := (Keep.refl h0 []).ext E5
  have f10 : IA Z h2 a xs := V.ext E5
  refine k_astoreN (pc := 17) H d8_17 rfl (Ls' := #[.val (.ref a), .val (.int nn), .val (.ref b)]) rfl ?_
  refine k_aloadN (pc := 18) H d8_18 rfl rfl ?_
  refine k_iconst (0 : Int32) (pc := 19) H d8_19 rfl ?_
  refine k_aloadN (pc := 20) H d8_20 rfl rfl ?_
  refine k_iconst (0 : Int32) (pc := 21) H d8_21 rfl ?_
  refine k_aloadN (pc := 22) H d8_22 rfl rfl ?_
  refine k_arraylength (N := N) (pc := 23) H f10 (by simpa using hN) d8_23 ?_
  refine k_iloadN (pc := 24) H d8_24 rfl ?_
  refine k_invS (y := (⟨"java/lang/Math", "min", "(II)I"⟩ : MethodName)) (st := [(.int (0 : Int32)), (.ref b), (.int (0 : Int32)), (.ref a)]) [(.int N), (.int nn)] 4 (pc := 25) H (wd hw 45 rfl) (wd hw 2 rfl) (wd hw 3 rfl) (wd hw 4 rfl) (by decide) (fun z0 => rm1 l Z a0 hw n0 h2 z0 N nn) (lenOf pd_0 rfl) d8_25 rfl rfl rfl (by decide) (by decide) (by decide) (by decide) ?_
  rintro v hx ⟨rfl, ex⟩
  rw [ex]
  clear ex hx
  show W l own_rm8_room C _ h2 1 8 28 #[.val (.ref a), .val (.int nn), .val (.ref b)] [(.int (if nn < N then nn else N)), (.int (0 : Int32)), (.ref b), (.int (0 : Int32)), (.ref a)]
  rw [if_neg (fun z => by have := (lt_nat hm hN).mp z; omega)]
  refine k_copyI (w := 0) (m := xs.length) (pc := 28) H (wd hw 46 rfl) (wd hw 49 rfl) (wd hw 47 rfl) (wd hw 48 rfl) f10 V6 hN (Nat.le_refl _) (by simp; omega) ge4 d8_28 rfl (by decide) rfl (by decide) ?_
  intro hC KC VC
  have KW11 : Keep h0 hC [] := KW9.trans KC (allS (Or.inr fr7) all0)
  refine k_aloadN (pc := 31) H d8_31 rfl rfl ?_
  exact k_retRef (t := (.array .int)) rfl rfl (pc := 32) H d8_32 (by show 1 ≤ own_rm8_room.cells; decide) (by show 8 ≤ own_rm8_room.slots; decide) (⟨b, rfl, ge4, fr7, KW11, by simpa using VC⟩)
theorem d2_0 : decode prog_5_method_1_code 0 = .ok (.aload_n 0, 1) := by decide +kernel
theorem d2_1 : decode prog_5_method_1_code 1 = .ok (.invokespecial 1, 3) := by decide +kernel
theorem d2_4 : decode prog_5_method_1_code 4 = .ok (.aload_n 0, 1) := by decide +kernel
theorem d2_5 : decode prog_5_method_1_code 5 = .ok (.iconst 4, 1) := by decide +kernel
theorem d2_6 : decode prog_5_method_1_code 6 = .ok (.newarray .int, 2) := by decide +kernel
theorem d2_8 : decode prog_5_method_1_code 8 = .ok (.putfield 9, 3) := by decide +kernel
theorem d2_11 : decode prog_5_method_1_code 11 = .ok (.aload_n 0, 1) := by decide +kernel
theorem d2_12 : decode prog_5_method_1_code 12 = .ok (.iconst 4, 1) := by decide +kernel
theorem d2_13 : decode prog_5_method_1_code 13 = .ok (.newarray .int, 2) := by decide +kernel
theorem d2_15 : decode prog_5_method_1_code 15 = .ok (.putfield 13, 3) := by decide +kernel
theorem d2_18 : decode prog_5_method_1_code 18 = .ok (.return_, 1) := by decide +kernel
abbrev own_rm2_room : Room := { frames := 1, cells := 2, slots := 8, locals := 12 }
set_option maxRecDepth 65536 in
set_option maxHeartbeats 40000000 in
theorem rm2 (l : Launch) (Z : State) (a0 : Array Value) (hw : ∀ d ∈ tables_1, d.before a0 Z = true) (n0 : Nat) (h0 : Heap) (Z0 : n0 ≤ h0.size) (hA : Addr) (gH : n0 ≤ hA) (X : Exa Z h0 hA "com/example/hesabu/hesabu/billing/HeldLicences") (F1 : Fld Z h0 hA "com/example/hesabu/hesabu/billing/HeldLicences" "days" "[I" .null) (F2 : Fld Z h0 hA "com/example/hesabu/hesabu/billing/HeldLicences" "quantities" "[I" .null) (F3 : Fld Z h0 hA "com/example/hesabu/hesabu/billing/HeldLicences" "count" "I" (.int 0)) :
    Ctr l Z (⟨"com/example/hesabu/hesabu/billing/HeldLicences", "<init>", "()V"⟩ : MethodName) prog_5_method_1_code 1 none own_rm2_room n0 #[(.ref hA)] h0 (fun v h => v = none ∧ Keep h0 h [hA] ∧ own_H Z h n0 hA [] 4) := by
  refine Ctr.of #[.val (.ref hA)] (plainFor_of_name pn_2) Z0 (fun m => by first | (simp [entryFrame, mkF, argsToLocals, Value.category]; done) | rfl) ?_
  intro C H
  have hlt := X.lt
  refine k_aloadN (pc := 0) H d2_0 rfl rfl ?_
  refine k_initObj (w := 0) (pc := 1) H (wd hw 12 rfl) (wd hw 13 rfl) (wd hw 14 rfl) d2_1 rfl (by decide) rfl (by decide) ?_
  refine k_aloadN (pc := 4) H d2_4 rfl rfl ?_
  refine k_iconst (4 : Int32) (pc := 5) H d2_5 rfl ?_
  refine k_new_int (4) 4 (pc := 6) H (wd hw 15 rfl) d2_6 (by decide) (by decide) (by decide) (by decide) (by decide) ?_
  intro h13 a ea14 ge15 E16 XA12 V17
  have fr18 : h0.size ≤ a := by rw [ea14]; exact (Keep.refl h0 [hA]).1
  have ne19 : hA ≠ a := Nat.ne_of_lt (by rw [ea14]; exact X.lt)
  have KW20 : Keep h0 h13 [hA] := (Keep.refl h0 [hA]).ext E16
  have f21 : Exa Z h13 hA "com/example/hesabu/hesabu/billing/HeldLicences" := Jvm.RoadKit.Exa.ext E16 X
  have f22 : Fld Z h13 hA "com/example/hesabu/hesabu/billing/HeldLicences" "days" "[I" .null := Jvm.RoadKit.Fld.ext E16 F1
  have f23 : Fld Z h13 hA "com/example/hesabu/hesabu/billing/HeldLicences" "quantities" "[I" .null := Jvm.RoadKit.Fld.ext E16 F2
  have f24 : Fld Z h13 hA "com/example/hesabu/hesabu/billing/HeldLicences" "count" "I" (.int 0) := Jvm.RoadKit.Fld.ext E16 F3
  refine k_putfield (.array .int) (pc := 8) H (wd hw 16 rfl) f22 f21 (Or.inl (wd hw 17 rfl)) (wd hw 7 rfl) (by decide) rfl rfl gH d2_8 ?_
  intro h25 Wr26 f27
  have KW28 : Keep h0 h25 [hA] := KW20.wr Wr26 (Or.inl (List.mem_of_getElem? (i := 0) rfl))
  have f29 : Exa Z h25 hA "com/example/hesabu/hesabu/billing/HeldLicences" := Jvm.RoadKit.Exa.wr Wr26 f21
  have f30 : Fld Z h25 hA "com/example/hesabu/hesabu/billing/HeldLicences" "quantities" "[I" .null := Jvm.RoadKit.Fld.other Wr26 f23 (Or.inr (slot_ne (t := (.array .int)) (t' := (.array .int)) (Or.inl (wd hw 19 rfl)) (Or.inl (wd hw 17 rfl)) (by decide) (by decide) (by decide)))
  have f31 : Fld Z h25 hA "com/example/hesabu/hesabu/billing/HeldLicences" "count" "I" (.int 0) := Jvm.RoadKit.Fld.other Wr26 f24 (Or.inr (slot_ne (t := .int) (t' := (.array .int)) (Or.inl (wd hw 26 rfl)) (Or.inl (wd hw 17 rfl)) (by decide) (by decide) (by decide)))
  have f32 : IA Z h25 a (List.replicate (4) 0) := V17.other Wr26 (Ne.symm ne19)
  refine k_aloadN (pc := 11) H d2_11 rfl rfl ?_
  refine k_iconst (4 : Int32) (pc := 12) H d2_12 rfl ?_
  refine k_new_int (4) 4 (pc := 13) H (wd hw 15 rfl) d2_13 (by decide) (by decide) (by decide) (by decide) (by decide) ?_
  intro h34 b ea35 ge36 E37 XA33 V38
  have fr39 : h0.size ≤ b := by rw [ea35]; exact KW28.1
  have ne40 : hA ≠ b := Nat.ne_of_lt (by rw [ea35]; exact f29.lt)
  have ne41 : a ≠ b := Nat.ne_of_lt (by rw [ea35]; exact f32.lt)
  have KW42 : Keep h0 h34 [hA] := KW28.ext E37
  have f43 : Exa Z h34 hA "com/example/hesabu/hesabu/billing/HeldLicences" := Jvm.RoadKit.Exa.ext E37 f29
  have f44 : Fld Z h34 hA "com/example/hesabu/hesabu/billing/HeldLicences" "quantities" "[I" .null := Jvm.RoadKit.Fld.ext E37 f30
  have f45 : Fld Z h34 hA "com/example/hesabu/hesabu/billing/HeldLicences" "count" "I" (.int 0) := Jvm.RoadKit.Fld.ext E37 f31
  have f46 : IA Z h34 a (List.replicate (4) 0) := f32.ext E37
  have f47 : Fld Z h34 hA "com/example/hesabu/hesabu/billing/HeldLicences" "days" "[I" (.ref a) := Jvm.RoadKit.Fld.ext E37 f27
  refine k_putfield (.array .int) (pc := 15) H (wd hw 18 rfl) f44 f43 (Or.inl (wd hw 19 rfl)) (wd hw 7 rfl) (by decide) rfl rfl gH d2_15 ?_
  intro h48 Wr49 f50
  have KW51 : Keep h0 h48 [hA] := KW42.wr Wr49 (Or.inl (List.mem_of_getElem? (i := 0) rfl))
  have f52 : Exa Z h48 hA "com/example/hesabu/hesabu/billing/HeldLicences" := Jvm.RoadKit.Exa.wr Wr49 f43
  have f53 : Fld Z h48 hA "com/example/hesabu/hesabu/billing/HeldLicences" "count" "I" (.int 0) := Jvm.RoadKit.Fld.other Wr49 f45 (Or.inr (slot_ne (t := .int) (t' := (.array .int)) (Or.inl (wd hw 26 rfl)) (Or.inl (wd hw 19 rfl)) (by decide) (by decide) (by decide)))
  have f54 : IA Z h48 a (List.replicate (4) 0) := f46.other Wr49 (Ne.symm ne19)
  have f55 : Fld Z h48 hA "com/example/hesabu/hesabu/billing/HeldLicences" "days" "[I" (.ref a) := Jvm.RoadKit.Fld.other Wr49 f47 (Or.inr (slot_ne (t := (.array .int)) (t' := (.array .int)) (Or.inl (wd hw 17 rfl)) (Or.inl (wd hw 19 rfl)) (by decide) (by decide) (by decide)))
  have f56 : IA Z h48 b (List.replicate (4) 0) := V38.other Wr49 (Ne.symm ne40)
  exact k_retVoid (pc := 18) H d2_18 (by show 2 ≤ own_rm2_room.cells; decide) (by show 8 ≤ own_rm2_room.slots; decide) (⟨rfl, KW51, a, b, 0, _, _, ge15, ge36, Nat.lt_of_lt_of_le hlt fr18, Nat.lt_of_lt_of_le hlt fr39, ne41, f52, f55, f50, f53, f54, f56, rfl, by simp, by simp, by simp, by simp, by simp⟩)
theorem d4_0 : decode prog_5_method_2_code 0 = .ok (.aload_n 0, 1) := by decide +kernel
theorem d4_1 : decode prog_5_method_2_code 1 = .ok (.getfield 16, 3) := by decide +kernel
theorem d4_4 : decode prog_5_method_2_code 4 = .ok (.ifCond .le 55, 3) := by decide +kernel
theorem d4_7 : decode prog_5_method_2_code 7 = .ok (.iload_n 1, 1) := by decide +kernel
theorem d4_8 : decode prog_5_method_2_code 8 = .ok (.aload_n 0, 1) := by decide +kernel
theorem d4_9 : decode prog_5_method_2_code 9 = .ok (.getfield 9, 3) := by decide +kernel
theorem d4_12 : decode prog_5_method_2_code 12 = .ok (.aload_n 0, 1) := by decide +kernel
theorem d4_13 : decode prog_5_method_2_code 13 = .ok (.getfield 16, 3) := by decide +kernel
theorem d4_16 : decode prog_5_method_2_code 16 = .ok (.iconst 1, 1) := by decide +kernel
theorem d4_17 : decode prog_5_method_2_code 17 = .ok (.isub, 1) := by decide +kernel
theorem d4_18 : decode prog_5_method_2_code 18 = .ok (.iaload, 1) := by decide +kernel
theorem d4_19 : decode prog_5_method_2_code 19 = .ok (.if_icmp .ge 40, 3) := by decide +kernel
theorem d4_22 : decode prog_5_method_2_code 22 = .ok (.new 20, 3) := by decide +kernel
theorem d4_25 : decode prog_5_method_2_code 25 = .ok (.dup, 1) := by decide +kernel
theorem d4_26 : decode prog_5_method_2_code 26 = .ok (.iload_n 1, 1) := by decide +kernel
theorem d4_27 : decode prog_5_method_2_code 27 = .ok (.invokestatic 22, 3) := by decide +kernel
theorem d4_30 : decode prog_5_method_2_code 30 = .ok (.invokestatic 28, 3) := by decide +kernel
theorem d4_33 : decode prog_5_method_2_code 33 = .ok (.aload_n 0, 1) := by decide +kernel
theorem d4_34 : decode prog_5_method_2_code 34 = .ok (.getfield 9, 3) := by decide +kernel
theorem d4_37 : decode prog_5_method_2_code 37 = .ok (.aload_n 0, 1) := by decide +kernel
theorem d4_38 : decode prog_5_method_2_code 38 = .ok (.getfield 16, 3) := by decide +kernel
theorem d4_41 : decode prog_5_method_2_code 41 = .ok (.iconst 1, 1) := by decide +kernel
theorem d4_42 : decode prog_5_method_2_code 42 = .ok (.isub, 1) := by decide +kernel
theorem d4_43 : decode prog_5_method_2_code 43 = .ok (.iaload, 1) := by decide +kernel
theorem d4_44 : decode prog_5_method_2_code 44 = .ok (.invokestatic 22, 3) := by decide +kernel
theorem d4_47 : decode prog_5_method_2_code 47 = .ok (.invokestatic 28, 3) := by decide +kernel
theorem d4_50 : decode prog_5_method_2_code 50 = .ok (.invokedynamic 34, 5) := by decide +kernel
theorem d4_55 : decode prog_5_method_2_code 55 = .ok (.invokespecial 38, 3) := by decide +kernel
theorem d4_58 : decode prog_5_method_2_code 58 = .ok (.athrow, 1) := by decide +kernel
theorem d4_59 : decode prog_5_method_2_code 59 = .ok (.aload_n 0, 1) := by decide +kernel
theorem d4_60 : decode prog_5_method_2_code 60 = .ok (.getfield 16, 3) := by decide +kernel
theorem d4_63 : decode prog_5_method_2_code 63 = .ok (.ifCond .le 33, 3) := by decide +kernel
theorem d4_66 : decode prog_5_method_2_code 66 = .ok (.iload_n 1, 1) := by decide +kernel
theorem d4_67 : decode prog_5_method_2_code 67 = .ok (.aload_n 0, 1) := by decide +kernel
theorem d4_68 : decode prog_5_method_2_code 68 = .ok (.getfield 9, 3) := by decide +kernel
theorem d4_71 : decode prog_5_method_2_code 71 = .ok (.aload_n 0, 1) := by decide +kernel
theorem d4_72 : decode prog_5_method_2_code 72 = .ok (.getfield 16, 3) := by decide +kernel
theorem d4_75 : decode prog_5_method_2_code 75 = .ok (.iconst 1, 1) := by decide +kernel
theorem d4_76 : decode prog_5_method_2_code 76 = .ok (.isub, 1) := by decide +kernel
theorem d4_77 : decode prog_5_method_2_code 77 = .ok (.iaload, 1) := by decide +kernel
theorem d4_78 : decode prog_5_method_2_code 78 = .ok (.if_icmp .ne 18, 3) := by decide +kernel
theorem d4_81 : decode prog_5_method_2_code 81 = .ok (.aload_n 0, 1) := by decide +kernel
theorem d4_82 : decode prog_5_method_2_code 82 = .ok (.getfield 13, 3) := by decide +kernel
theorem d4_85 : decode prog_5_method_2_code 85 = .ok (.aload_n 0, 1) := by decide +kernel
theorem d4_86 : decode prog_5_method_2_code 86 = .ok (.getfield 16, 3) := by decide +kernel
theorem d4_89 : decode prog_5_method_2_code 89 = .ok (.iconst 1, 1) := by decide +kernel
theorem d4_90 : decode prog_5_method_2_code 90 = .ok (.isub, 1) := by decide +kernel
theorem d4_91 : decode prog_5_method_2_code 91 = .ok (.iload_n 2, 1) := by decide +kernel
theorem d4_92 : decode prog_5_method_2_code 92 = .ok (.iastore, 1) := by decide +kernel
theorem d4_93 : decode prog_5_method_2_code 93 = .ok (.goto 79, 3) := by decide +kernel
theorem d4_96 : decode prog_5_method_2_code 96 = .ok (.aload_n 0, 1) := by decide +kernel
theorem d4_97 : decode prog_5_method_2_code 97 = .ok (.getfield 16, 3) := by decide +kernel
theorem d4_100 : decode prog_5_method_2_code 100 = .ok (.aload_n 0, 1) := by decide +kernel
theorem d4_101 : decode prog_5_method_2_code 101 = .ok (.getfield 9, 3) := by decide +kernel
theorem d4_104 : decode prog_5_method_2_code 104 = .ok (.arraylength, 1) := by decide +kernel
theorem d4_105 : decode prog_5_method_2_code 105 = .ok (.if_icmp .ne 37, 3) := by decide +kernel
theorem d4_108 : decode prog_5_method_2_code 108 = .ok (.aload_n 0, 1) := by decide +kernel
theorem d4_109 : decode prog_5_method_2_code 109 = .ok (.aload_n 0, 1) := by decide +kernel
theorem d4_110 : decode prog_5_method_2_code 110 = .ok (.getfield 9, 3) := by decide +kernel
theorem d4_113 : decode prog_5_method_2_code 113 = .ok (.iconst 2, 1) := by decide +kernel
theorem d4_114 : decode prog_5_method_2_code 114 = .ok (.aload_n 0, 1) := by decide +kernel
theorem d4_115 : decode prog_5_method_2_code 115 = .ok (.getfield 16, 3) := by decide +kernel
theorem d4_118 : decode prog_5_method_2_code 118 = .ok (.imul, 1) := by decide +kernel
theorem d4_119 : decode prog_5_method_2_code 119 = .ok (.invokestatic 41, 3) := by decide +kernel
theorem d4_122 : decode prog_5_method_2_code 122 = .ok (.putfield 9, 3) := by decide +kernel
theorem d4_125 : decode prog_5_method_2_code 125 = .ok (.aload_n 0, 1) := by decide +kernel
theorem d4_126 : decode prog_5_method_2_code 126 = .ok (.aload_n 0, 1) := by decide +kernel
theorem d4_127 : decode prog_5_method_2_code 127 = .ok (.getfield 13, 3) := by decide +kernel
theorem d4_130 : decode prog_5_method_2_code 130 = .ok (.iconst 2, 1) := by decide +kernel
theorem d4_131 : decode prog_5_method_2_code 131 = .ok (.aload_n 0, 1) := by decide +kernel
theorem d4_132 : decode prog_5_method_2_code 132 = .ok (.getfield 16, 3) := by decide +kernel
theorem d4_135 : decode prog_5_method_2_code 135 = .ok (.imul, 1) := by decide +kernel
theorem d4_136 : decode prog_5_method_2_code 136 = .ok (.invokestatic 41, 3) := by decide +kernel
theorem d4_139 : decode prog_5_method_2_code 139 = .ok (.putfield 13, 3) := by decide +kernel
theorem d4_142 : decode prog_5_method_2_code 142 = .ok (.aload_n 0, 1) := by decide +kernel
theorem d4_143 : decode prog_5_method_2_code 143 = .ok (.getfield 9, 3) := by decide +kernel
theorem d4_146 : decode prog_5_method_2_code 146 = .ok (.aload_n 0, 1) := by decide +kernel
theorem d4_147 : decode prog_5_method_2_code 147 = .ok (.getfield 16, 3) := by decide +kernel
theorem d4_150 : decode prog_5_method_2_code 150 = .ok (.iload_n 1, 1) := by decide +kernel
theorem d4_151 : decode prog_5_method_2_code 151 = .ok (.iastore, 1) := by decide +kernel
theorem d4_152 : decode prog_5_method_2_code 152 = .ok (.aload_n 0, 1) := by decide +kernel
theorem d4_153 : decode prog_5_method_2_code 153 = .ok (.getfield 13, 3) := by decide +kernel
theorem d4_156 : decode prog_5_method_2_code 156 = .ok (.aload_n 0, 1) := by decide +kernel
theorem d4_157 : decode prog_5_method_2_code 157 = .ok (.getfield 16, 3) := by decide +kernel
theorem d4_160 : decode prog_5_method_2_code 160 = .ok (.iload_n 2, 1) := by decide +kernel
theorem d4_161 : decode prog_5_method_2_code 161 = .ok (.iastore, 1) := by decide +kernel
theorem d4_162 : decode prog_5_method_2_code 162 = .ok (.aload_n 0, 1) := by decide +kernel
theorem d4_163 : decode prog_5_method_2_code 163 = .ok (.dup, 1) := by decide +kernel
theorem d4_164 : decode prog_5_method_2_code 164 = .ok (.getfield 16, 3) := by decide +kernel
theorem d4_167 : decode prog_5_method_2_code 167 = .ok (.iconst 1, 1) := by decide +kernel
theorem d4_168 : decode prog_5_method_2_code 168 = .ok (.iadd, 1) := by decide +kernel
theorem d4_169 : decode prog_5_method_2_code 169 = .ok (.putfield 16, 3) := by decide +kernel
theorem d4_172 : decode prog_5_method_2_code 172 = .ok (.return_, 1) := by decide +kernel
abbrev own_rm4_room : Room := { frames := 2, cells := 2, slots := 16, locals := 33 }
set_option maxRecDepth 65536 in
set_option maxHeartbeats 40000000 in
theorem rm4 (l : Launch) (Z : State) (a0 : Array Value) (hw : ∀ d ∈ tables_1, d.before a0 Z = true) (n0 : Nat) (h0 : Heap) (Z0 : n0 ≤ h0.size) (hA : Addr) (es : List (Int32 × Int32)) (cap : Nat) (d q : Int32) (gH : n0 ≤ hA) (HH : own_H Z h0 n0 hA es cap) (hcap : cap = 4 ∨ cap = 8) (hlen : es.length < 8) (hsrt : ∀ fs d' q', es = fs ++ [(d', q')] → ¬ d < d') :
    Ctr l Z (⟨"com/example/hesabu/hesabu/billing/HeldLicences", "set", "(II)V"⟩ : MethodName) prog_5_method_2_code 3 none own_rm4_room n0 #[(.ref hA), (.int d), (.int q)] h0 (fun v h => v = none ∧ ∃ ws cap', Keep h0 h ws ∧ (∀ x ∈ ws, hA ≤ x) ∧ own_H Z h n0 hA (own_set es d q) cap' ∧ (cap' = 4 ∨ cap' = 8)) := by
  refine Ctr.of #[.val (.ref hA), .val (.int d), .val (.int q)] (plainFor_of_name pn_2) Z0 (fun m => by first | (simp [entryFrame, mkF, argsToLocals, Value.category]; done) | rfl) ?_
  intro C H
  obtain ⟨a, b, c, xs, ys, ga, gb, la, lb, nab, X, Fd, Fq, Fc, Va, Vb, hc, hxl, hyl, hle, px, py⟩ := HH
  have nHa : hA ≠ a := Nat.ne_of_lt la
  have nHb : hA ≠ b := Nat.ne_of_lt lb
  have hHlt := X.lt
  have hws : ∀ x ∈ [hA, a, b], hA ≤ x := allS (Nat.le_refl _) (allS (Nat.le_of_lt la) (allS (Nat.le_of_lt lb) all0))
  have J142 : ∀ (hh : Heap) (a2 b2 : Addr) (xs2 ys2 : List Int32) (cap2 : Nat) (K : Keep h0 hh [hA, a, b]) (ma : a2 ∈ [hA, a, b] ∨ h0.size ≤ a2) (mb : b2 ∈ [hA, a, b] ∨ h0.size ≤ b2) (ga2 : n0 ≤ a2) (gb2 : n0 ≤ b2) (la2 : hA < a2) (lb2 : hA < b2) (nab2 : a2 ≠ b2) (yX : Exa Z hh hA "com/example/hesabu/hesabu/billing/HeldLicences") (yFd : Fld Z hh hA "com/example/hesabu/hesabu/billing/HeldLicences" "days" "[I" (.ref a2)) (yFq : Fld Z hh hA "com/example/hesabu/hesabu/billing/HeldLicences" "quantities" "[I" (.ref b2)) (yFc : Fld Z hh hA "com/example/hesabu/hesabu/billing/HeldLicences" "count" "I" (.int c)) (yVa : IA Z hh a2 xs2) (yVb : IA Z hh b2 ys2) (hx2 : xs2.length = cap2) (hy2 : ys2.length = cap2) (hc2 : cap2 = 4 ∨ cap2 = 8) (hlt : es.length < cap2) (px2 : ∀ i, i < es.length → xs2[i]? = (es.map Prod.fst)[i]?) (py2 : ∀ i, i < es.length → ys2[i]? = (es.map Prod.snd)[i]?) (hap : own_set es d q = es ++ [(d, q)]), W l own_rm4_room C (n0, own_rm4_room.cells, own_rm4_room.slots, fun v h => v = none ∧ ∃ ws cap', Keep h0 h ws ∧ (∀ x ∈ ws, hA ≤ x) ∧ own_H Z h n0 hA (own_set es d q) cap' ∧ (cap' = 4 ∨ cap' = 8)) hh 2 16 142 #[.val (.ref hA), .val (.int d), .val (.int q)] [] := by
    intro hh a2 b2 xs2 ys2 cap2 K ma mb ga2 gb2 la2 lb2 nab2 yX yFd yFq yFc yVa yVb hx2 hy2 hc2 hlt px2 py2 hap
    have nH2a : hA ≠ a2 := Nat.ne_of_lt la2
    have nH2b : hA ≠ b2 := Nat.ne_of_lt lb2
    refine k_aloadN (pc := 142) H d4_142 rfl rfl ?_
    refine k_getfield (pc := 143) H (wd hw 16 rfl) yFd d4_143 ?_
    refine k_aloadN (pc := 146) H d4_146 rfl rfl ?_
    refine k_getfield (pc := 147) H (wd hw 25 rfl) yFc d4_147 ?_
    refine k_iloadN (pc := 150) H d4_150 rfl ?_
    refine k_iastoreT (i := es.length) (pc := 151) H yVa (hc) (by omega) ga2 d4_151 ?_
    intro h57 K58 V59
    have KW60 : Keep h0 h57 [hA, a, b] := K.trans K58 (allS ma all0)
    have f61 : Exa Z h57 hA "com/example/hesabu/hesabu/billing/HeldLicences" := yX.keep K58
    have f62 : Fld Z h57 hA "com/example/hesabu/hesabu/billing/HeldLicences" "days" "[I" (.ref a2) := yFd.keep K58 (ninS nH2a nin0)
    have f63 : Fld Z h57 hA "com/example/hesabu/hesabu/billing/HeldLicences" "quantities" "[I" (.ref b2) := yFq.keep K58 (ninS nH2a nin0)
    have f64 : Fld Z h57 hA "com/example/hesabu/hesabu/billing/HeldLicences" "count" "I" (.int c) := yFc.keep K58 (ninS nH2a nin0)
    have f65 : IA Z h57 b2 ys2 := yVb.keep K58 (ninS (Ne.symm nab2) nin0)
    refine k_aloadN (pc := 152) H d4_152 rfl rfl ?_
    refine k_getfield (pc := 153) H (wd hw 18 rfl) f63 d4_153 ?_
    refine k_aloadN (pc := 156) H d4_156 rfl rfl ?_
    refine k_getfield (pc := 157) H (wd hw 25 rfl) f64 d4_157 ?_
    refine k_iloadN (pc := 160) H d4_160 rfl ?_
    refine k_iastoreT (i := es.length) (pc := 161) H f65 (hc) (by omega) gb2 d4_161 ?_
    intro h66 K67 V68
    have KW69 : Keep h0 h66 [hA, a, b] := KW60.trans K67 (allS mb all0)
    have f70 : Exa Z h66 hA "com/example/hesabu/hesabu/billing/HeldLicences" := f61.keep K67
    have f71 : Fld Z h66 hA "com/example/hesabu/hesabu/billing/HeldLicences" "days" "[I" (.ref a2) := f62.keep K67 (ninS nH2b nin0)
    have f72 : Fld Z h66 hA "com/example/hesabu/hesabu/billing/HeldLicences" "quantities" "[I" (.ref b2) := f63.keep K67 (ninS nH2b nin0)
    have f73 : Fld Z h66 hA "com/example/hesabu/hesabu/billing/HeldLicences" "count" "I" (.int c) := f64.keep K67 (ninS nH2b nin0)
    have f74 : IA Z h66 a2 (xs2.set es.length d) := V59.keep K67 (ninS nab2 nin0)
    refine k_aloadN (pc := 162) H d4_162 rfl rfl ?_
    refine k_dup (pc := 163) H d4_163 rfl ?_
    refine k_getfield (pc := 164) H (wd hw 25 rfl) f73 d4_164 ?_
    refine k_iconst (1 : Int32) (pc := 167) H d4_167 rfl ?_
    refine k_iadd (pc := 168) H d4_168 ?_
    refine k_putfield .int (pc := 169) H (wd hw 25 rfl) f73 f70 (Or.inl (wd hw 26 rfl)) (wd hw 7 rfl) (by decide) rfl rfl gH d4_169 ?_
    intro h75 Wr76 f77
    have KW78 : Keep h0 h75 [hA, a, b] := KW69.wr Wr76 (Or.inl (List.mem_of_getElem? (i := 0) rfl))
    have f79 : Exa Z h75 hA "com/example/hesabu/hesabu/billing/HeldLicences" := Jvm.RoadKit.Exa.wr Wr76 f70
    have f80 : Fld Z h75 hA "com/example/hesabu/hesabu/billing/HeldLicences" "days" "[I" (.ref a2) := Jvm.RoadKit.Fld.other Wr76 f71 (Or.inr (slot_ne (t := (.array .int)) (t' := .int) (Or.inl (wd hw 17 rfl)) (Or.inl (wd hw 26 rfl)) (by decide) (by decide) (by decide)))
    have f81 : Fld Z h75 hA "com/example/hesabu/hesabu/billing/HeldLicences" "quantities" "[I" (.ref b2) := Jvm.RoadKit.Fld.other Wr76 f72 (Or.inr (slot_ne (t := (.array .int)) (t' := .int) (Or.inl (wd hw 19 rfl)) (Or.inl (wd hw 26 rfl)) (by decide) (by decide) (by decide)))
    have f82 : IA Z h75 a2 (xs2.set es.length d) := f74.other Wr76 (Ne.symm nH2a)
    have f83 : IA Z h75 b2 (ys2.set es.length q) := V68.other Wr76 (Ne.symm nH2b)
    have lm1 : (es.map Prod.fst).length = es.length := by simp
    have lm2 : (es.map Prod.snd).length = es.length := by simp
    exact k_retVoid (pc := 172) H d4_172 (by show 2 ≤ own_rm4_room.cells; decide) (by show 16 ≤ own_rm4_room.slots; decide) (⟨rfl, [hA, a, b], cap2, KW78, hws, ⟨a2, b2, c + 1, _, _, ga2, gb2, la2, lb2, nab2, f79, f80, f81, f77, f82, f83, by rw [hap]; have := add_nat (y := 1) (j := 1) hc rfl (by omega); rw [this]; simp, by rw [List.length_set]; exact hx2, by rw [List.length_set]; exact hy2, by rw [hap, List.length_append]; simp; omega, by rw [hap, List.map_append]; have := own_pre_set (d := d) (ds := es.map Prod.fst) (by rw [lm1]; exact px2) (by rw [lm1]; omega); rw [lm1] at this; simpa using this, by rw [hap, List.map_append]; have := own_pre_set (d := q) (ds := es.map Prod.snd) (by rw [lm2]; exact py2) (by rw [lm2]; omega); rw [lm2] at this; simpa using this⟩, hc2⟩)
  have J96 : ∀ (hap : own_set es d q = es ++ [(d, q)]), W l own_rm4_room C (n0, own_rm4_room.cells, own_rm4_room.slots, fun v h => v = none ∧ ∃ ws cap', Keep h0 h ws ∧ (∀ x ∈ ws, hA ≤ x) ∧ own_H Z h n0 hA (own_set es d q) cap' ∧ (cap' = 4 ∨ cap' = 8)) h0 0 0 96 #[.val (.ref hA), .val (.int d), .val (.int q)] [] := by
    intro hap
    obtain ⟨N, hN⟩ : ∃ N : Int32, N.toInt = (xs.length : Int) := ⟨xs.length.toInt32, len_toInt (by omega)⟩
    have qc := eq_nat hc hN
    refine k_aloadN (pc := 96) H d4_96 rfl rfl ?_
    refine k_getfield (pc := 97) H (wd hw 25 rfl) Fc d4_97 ?_
    refine k_aloadN (pc := 100) H d4_100 rfl rfl ?_
    refine k_getfield (pc := 101) H (wd hw 16 rfl) Fd d4_101 ?_
    refine k_arraylength (N := N) (pc := 104) H Va (by simpa using hN) d4_104 ?_
    refine k_icmpR (P := c = N) 142 (pc := 105) H d4_105 rfl XT.ii_ne_t XT.ii_ne_f (fun k0 => ?_) (fun k0 => ?_)
    · have hne : ¬ es.length = xs.length := fun z => k0 (qc.mpr z)
      exact W.more (by decide) (by decide) (J142 h0 a b xs ys cap (Keep.refl _ _) (Or.inl (List.mem_of_getElem? (i := 1) rfl)) (Or.inl (List.mem_of_getElem? (i := 2) rfl)) ga gb la lb nab X Fd Fq Fc Va Vb hxl hyl hcap (by omega) px py hap)
    · have heq := qc.mp k0
      have h4 : xs.length = 4 := by omega
      have hy4 : ys.length = 4 := by omega
      have m8 : ((2 : Int32) * c).toInt = ((8 : Nat) : Int) := by have := mul_nat (x := 2) (i := 2) rfl hc (by omega); rw [this]; omega
      refine k_aloadN (pc := 108) H d4_108 rfl rfl ?_
      refine k_aloadN (pc := 109) H d4_109 rfl rfl ?_
      refine k_getfield (pc := 110) H (wd hw 16 rfl) Fd d4_110 ?_
      refine k_iconst (2 : Int32) (pc := 113) H d4_113 rfl ?_
      refine k_aloadN (pc := 114) H d4_114 rfl rfl ?_
      refine k_getfield (pc := 115) H (wd hw 25 rfl) Fc d4_115 ?_
      refine k_imul (pc := 118) H d4_118 ?_
      refine k_invS (y := (⟨"java/util/Arrays", "copyOf", "([II)[I"⟩ : MethodName)) (st := [(.ref hA)]) [(.ref a), (.int ((2 : Int32) * c))] 1 (pc := 119) H (wd hw 41 rfl) (wd hw 42 rfl) (wd hw 43 rfl) (wd hw 44 rfl) (by decide) (fun z0 => rm8 l Z a0 hw n0 h0 z0 a xs ((2 : Int32) * c) 8 Va m8 (by omega) (by decide)) (lenOf pd_1 rfl) d4_119 rfl rfl rfl (by decide) (by decide) (by decide) (by decide) ?_
      rintro v h84 ⟨a3, rfl, ga3, sa3, Ka3, Va3⟩
      show W l own_rm4_room C _ h84 1 8 122 #[.val (.ref hA), .val (.int d), .val (.int q)] [(.ref a3), (.ref hA)]
      have KW85 : Keep h0 h84 [hA, a, b] := (Keep.refl h0 [hA, a, b]).trans Ka3 all0
      have f86 : Exa Z h84 hA "com/example/hesabu/hesabu/billing/HeldLicences" := X.keep Ka3
      have f87 : Fld Z h84 hA "com/example/hesabu/hesabu/billing/HeldLicences" "days" "[I" (.ref a) := Fd.keep Ka3 nin0
      have f88 : Fld Z h84 hA "com/example/hesabu/hesabu/billing/HeldLicences" "quantities" "[I" (.ref b) := Fq.keep Ka3 nin0
      have f89 : Fld Z h84 hA "com/example/hesabu/hesabu/billing/HeldLicences" "count" "I" (.int c) := Fc.keep Ka3 nin0
      have f90 : IA Z h84 a xs := Va.keep Ka3 nin0
      have f91 : IA Z h84 b ys := Vb.keep Ka3 nin0
      have fa3 : h0.size ≤ a3 := sa3
      have nhAa3 : hA ≠ a3 := Nat.ne_of_lt (Nat.lt_of_lt_of_le (hHlt) fa3)
      have naa3 : a ≠ a3 := Nat.ne_of_lt (Nat.lt_of_lt_of_le (Va.lt) fa3)
      have nba3 : b ≠ a3 := Nat.ne_of_lt (Nat.lt_of_lt_of_le (Vb.lt) fa3)
      refine k_putfield (.array .int) (pc := 122) H (wd hw 16 rfl) f87 f86 (Or.inl (wd hw 17 rfl)) (wd hw 7 rfl) (by decide) rfl rfl gH d4_122 ?_
      intro h92 Wr93 f94
      have KW95 : Keep h0 h92 [hA, a, b] := KW85.wr Wr93 (Or.inl (List.mem_of_getElem? (i := 0) rfl))
      have f96 : Exa Z h92 hA "com/example/hesabu/hesabu/billing/HeldLicences" := Jvm.RoadKit.Exa.wr Wr93 f86
      have f97 : Fld Z h92 hA "com/example/hesabu/hesabu/billing/HeldLicences" "quantities" "[I" (.ref b) := Jvm.RoadKit.Fld.other Wr93 f88 (Or.inr (slot_ne (t := (.array .int)) (t' := (.array .int)) (Or.inl (wd hw 19 rfl)) (Or.inl (wd hw 17 rfl)) (by decide) (by decide) (by decide)))
      have f98 : Fld Z h92 hA "com/example/hesabu/hesabu/billing/HeldLicences" "count" "I" (.int c) := Jvm.RoadKit.Fld.other Wr93 f89 (Or.inr (slot_ne (t := .int) (t' := (.array .int)) (Or.inl (wd hw 26 rfl)) (Or.inl (wd hw 17 rfl)) (by decide) (by decide) (by decide)))
      have f99 : IA Z h92 a xs := f90.other Wr93 (Ne.symm nHa)
      have f100 : IA Z h92 b ys := f91.other Wr93 (Ne.symm nHb)
      have f101 : IA Z h92 a3 (xs ++ List.replicate (8 - xs.length) 0) := Va3.other Wr93 (Ne.symm nhAa3)
      refine k_aloadN (pc := 125) H d4_125 rfl rfl ?_
      refine k_aloadN (pc := 126) H d4_126 rfl rfl ?_
      refine k_getfield (pc := 127) H (wd hw 18 rfl) f97 d4_127 ?_
      refine k_iconst (2 : Int32) (pc := 130) H d4_130 rfl ?_
      refine k_aloadN (pc := 131) H d4_131 rfl rfl ?_
      refine k_getfield (pc := 132) H (wd hw 25 rfl) f98 d4_132 ?_
      refine k_imul (pc := 135) H d4_135 ?_
      refine k_invS (y := (⟨"java/util/Arrays", "copyOf", "([II)[I"⟩ : MethodName)) (st := [(.ref hA)]) [(.ref b), (.int ((2 : Int32) * c))] 1 (pc := 136) H (wd hw 41 rfl) (wd hw 42 rfl) (wd hw 43 rfl) (wd hw 44 rfl) (by decide) (fun z0 => rm8 l Z a0 hw n0 h92 z0 b ys ((2 : Int32) * c) 8 f100 m8 (by omega) (by decide)) (lenOf pd_1 rfl) d4_136 rfl rfl rfl (by decide) (by decide) (by decide) (by decide) ?_
      rintro v h102 ⟨b3, rfl, gb3, sb3, Kb3, Vb3⟩
      show W l own_rm4_room C _ h102 2 16 139 #[.val (.ref hA), .val (.int d), .val (.int q)] [(.ref b3), (.ref hA)]
      have KW103 : Keep h0 h102 [hA, a, b] := KW95.trans Kb3 all0
      have f104 : Exa Z h102 hA "com/example/hesabu/hesabu/billing/HeldLicences" := f96.keep Kb3
      have f105 : Fld Z h102 hA "com/example/hesabu/hesabu/billing/HeldLicences" "quantities" "[I" (.ref b) := f97.keep Kb3 nin0
      have f106 : Fld Z h102 hA "com/example/hesabu/hesabu/billing/HeldLicences" "count" "I" (.int c) := f98.keep Kb3 nin0
      have f107 : IA Z h102 a xs := f99.keep Kb3 nin0
      have f108 : IA Z h102 b ys := f100.keep Kb3 nin0
      have f109 : IA Z h102 a3 (xs ++ List.replicate (8 - xs.length) 0) := f101.keep Kb3 nin0
      have f110 : Fld Z h102 hA "com/example/hesabu/hesabu/billing/HeldLicences" "days" "[I" (.ref a3) := f94.keep Kb3 nin0
      have fb3 : h0.size ≤ b3 := Nat.le_trans KW95.1 sb3
      have na3b3 : a3 ≠ b3 := Nat.ne_of_lt (Nat.lt_of_lt_of_le (f101.lt) sb3)
      have nhAb3 : hA ≠ b3 := Nat.ne_of_lt (Nat.lt_of_lt_of_le (hHlt) fb3)
      have nab3 : a ≠ b3 := Nat.ne_of_lt (Nat.lt_of_lt_of_le (Va.lt) fb3)
      have nbb3 : b ≠ b3 := Nat.ne_of_lt (Nat.lt_of_lt_of_le (Vb.lt) fb3)
      refine k_putfield (.array .int) (pc := 139) H (wd hw 18 rfl) f105 f104 (Or.inl (wd hw 19 rfl)) (wd hw 7 rfl) (by decide) rfl rfl gH d4_139 ?_
      intro h111 Wr112 f113
      have KW114 : Keep h0 h111 [hA, a, b] := KW103.wr Wr112 (Or.inl (List.mem_of_getElem? (i := 0) rfl))
      have f115 : Exa Z h111 hA "com/example/hesabu/hesabu/billing/HeldLicences" := Jvm.RoadKit.Exa.wr Wr112 f104
      have f116 : Fld Z h111 hA "com/example/hesabu/hesabu/billing/HeldLicences" "count" "I" (.int c) := Jvm.RoadKit.Fld.other Wr112 f106 (Or.inr (slot_ne (t := .int) (t' := (.array .int)) (Or.inl (wd hw 26 rfl)) (Or.inl (wd hw 19 rfl)) (by decide) (by decide) (by decide)))
      have f117 : IA Z h111 a xs := f107.other Wr112 (Ne.symm nHa)
      have f118 : IA Z h111 b ys := f108.other Wr112 (Ne.symm nHb)
      have f119 : IA Z h111 a3 (xs ++ List.replicate (8 - xs.length) 0) := f109.other Wr112 (Ne.symm nhAa3)
      have f120 : Fld Z h111 hA "com/example/hesabu/hesabu/billing/HeldLicences" "days" "[I" (.ref a3) := Jvm.RoadKit.Fld.other Wr112 f110 (Or.inr (slot_ne (t := (.array .int)) (t' := (.array .int)) (Or.inl (wd hw 17 rfl)) (Or.inl (wd hw 19 rfl)) (by decide) (by decide) (by decide)))
      have f121 : IA Z h111 b3 (ys ++ List.replicate (8 - ys.length) 0) := Vb3.other Wr112 (Ne.symm nhAb3)
      have pp : ∀ (zs ds : List Int32), zs.length = 4 → ds.length = 4 → (∀ i, i < 4 → zs[i]? = ds[i]?) → ∀ i, i < 4 → (zs ++ List.replicate (8 - zs.length) 0)[i]? = ds[i]? := fun zs ds h1 h2 h3 i hi => by rw [List.getElem?_append_left (by omega)]; exact h3 i hi
      exact J142 _ a3 b3 _ _ 8 KW114 (Or.inr fa3) (Or.inr fb3) ga3 gb3 (Nat.lt_of_lt_of_le hHlt fa3) (Nat.lt_of_lt_of_le hHlt fb3) na3b3 f115 f120 f113 f116 f119 f121 (by simp; omega) (by simp; omega) (Or.inr rfl) (by omega) (fun i hi => pp xs (es.map Prod.fst) h4 (by simp; omega) (fun j hj => px j (by omega)) i (by omega)) (fun i hi => pp ys (es.map Prod.snd) hy4 (by simp; omega) (fun j hj => py j (by omega)) i (by omega)) hap
  rcases List.eq_nil_or_concat es with e0 | ⟨fs, ⟨d', q'⟩, e0⟩
  · have hc0 : ¬ (0 : Int32) < c := fun z => by rw [Int32.lt_iff_toInt_lt, hc, e0] at z; simp at z
    refine k_aloadN (pc := 0) H d4_0 rfl rfl ?_
    refine k_getfield (pc := 1) H (wd hw 25 rfl) Fc d4_1 ?_
    refine k_ifT 59 (pc := 4) H d4_4 rfl (XT.i0_le_t (hc0)) ?_
    refine k_aloadN (pc := 59) H d4_59 rfl rfl ?_
    refine k_getfield (pc := 60) H (wd hw 25 rfl) Fc d4_60 ?_
    refine k_ifT 96 (pc := 63) H d4_63 rfl (XT.i0_le_t (hc0)) ?_
    exact J96 (by rw [e0]; rfl)
  · rw [List.concat_eq_append] at e0
    have hl : es.length = fs.length + 1 := by rw [e0]; simp
    have hc1 : (0 : Int32) < c := (lt_nat (x := 0) (i := 0) rfl hc).mpr (by omega)
    have hi : (c - (1 : Int32)).toInt = (fs.length : Int) := by have := sub_nat (y := 1) (j := 1) hc rfl (by omega); rw [this]; omega
    have hd' : xs[fs.length]? = some d' := by rw [px _ (by omega), e0]; simp
    have hns := hsrt fs d' q' e0
    refine k_aloadN (pc := 0) H d4_0 rfl rfl ?_
    refine k_getfield (pc := 1) H (wd hw 25 rfl) Fc d4_1 ?_
    refine k_ifF (pc := 4) H d4_4 (XT.i0_le_f (hc1)) ?_
    refine k_iloadN (pc := 7) H d4_7 rfl ?_
    refine k_aloadN (pc := 8) H d4_8 rfl rfl ?_
    refine k_getfield (pc := 9) H (wd hw 16 rfl) Fd d4_9 ?_
    refine k_aloadN (pc := 12) H d4_12 rfl rfl ?_
    refine k_getfield (pc := 13) H (wd hw 25 rfl) Fc d4_13 ?_
    refine k_iconst (1 : Int32) (pc := 16) H d4_16 rfl ?_
    refine k_isub (pc := 17) H d4_17 ?_
    refine k_ialoadT (i := fs.length) (x := d') (pc := 18) H Va (hi) (hd') d4_18 ?_
    refine k_icmpT 59 (pc := 19) H d4_19 rfl (XT.ii_ge_t (hns)) ?_
    refine k_aloadN (pc := 59) H d4_59 rfl rfl ?_
    refine k_getfield (pc := 60) H (wd hw 25 rfl) Fc d4_60 ?_
    refine k_ifF (pc := 63) H d4_63 (XT.i0_le_f (hc1)) ?_
    refine k_iloadN (pc := 66) H d4_66 rfl ?_
    refine k_aloadN (pc := 67) H d4_67 rfl rfl ?_
    refine k_getfield (pc := 68) H (wd hw 16 rfl) Fd d4_68 ?_
    refine k_aloadN (pc := 71) H d4_71 rfl rfl ?_
    refine k_getfield (pc := 72) H (wd hw 25 rfl) Fc d4_72 ?_
    refine k_iconst (1 : Int32) (pc := 75) H d4_75 rfl ?_
    refine k_isub (pc := 76) H d4_76 ?_
    refine k_ialoadT (i := fs.length) (x := d') (pc := 77) H Va (hi) (hd') d4_77 ?_
    refine k_icmpR (P := d = d') 96 (pc := 78) H d4_78 rfl XT.ii_ne_t XT.ii_ne_f (fun k0 => ?_) (fun k0 => ?_)
    · exact J96 (by rw [e0]; exact own_set_ne fs (fun z => k0 z.symm))
    · refine k_aloadN (pc := 81) H d4_81 rfl rfl ?_
      refine k_getfield (pc := 82) H (wd hw 18 rfl) Fq d4_82 ?_
      refine k_aloadN (pc := 85) H d4_85 rfl rfl ?_
      refine k_getfield (pc := 86) H (wd hw 25 rfl) Fc d4_86 ?_
      refine k_iconst (1 : Int32) (pc := 89) H d4_89 rfl ?_
      refine k_isub (pc := 90) H d4_90 ?_
      refine k_iloadN (pc := 91) H d4_91 rfl ?_
      refine k_iastoreT (i := fs.length) (pc := 92) H Vb (hi) (by omega) gb d4_92 ?_
      intro h122 K123 V124
      have KW125 : Keep h0 h122 [hA, a, b] := (Keep.refl h0 [hA, a, b]).trans K123 (allS (Or.inl (List.mem_of_getElem? (i := 2) rfl)) all0)
      have f126 : Exa Z h122 hA "com/example/hesabu/hesabu/billing/HeldLicences" := X.keep K123
      have f127 : Fld Z h122 hA "com/example/hesabu/hesabu/billing/HeldLicences" "days" "[I" (.ref a) := Fd.keep K123 (ninS nHb nin0)
      have f128 : Fld Z h122 hA "com/example/hesabu/hesabu/billing/HeldLicences" "quantities" "[I" (.ref b) := Fq.keep K123 (ninS nHb nin0)
      have f129 : Fld Z h122 hA "com/example/hesabu/hesabu/billing/HeldLicences" "count" "I" (.int c) := Fc.keep K123 (ninS nHb nin0)
      have f130 : IA Z h122 a xs := Va.keep K123 (ninS nab nin0)
      refine k_goto 172 (pc := 93) H d4_93 rfl ?_
      have hap : own_set es d q = fs ++ [(d, q)] := by rw [e0, ← k0]; exact own_set_eq fs d q q'
      have lm : (fs.map Prod.snd).length = fs.length := by simp
      exact k_retVoid (pc := 172) H d4_172 (by show 0 ≤ own_rm4_room.cells; decide) (by show 0 ≤ own_rm4_room.slots; decide) (⟨rfl, [hA, a, b], cap, KW125, hws, ⟨a, b, c, _, _, ga, gb, la, lb, nab, f126, f127, f128, f129, f130, V124, by rw [hap, hc, hl]; simp, hxl, by rw [List.length_set]; exact hyl, by rw [hap, List.length_append]; simp; omega, fun i hi => by rw [hap] at hi; rw [px i (by rw [e0]; simpa using hi), hap, e0, ← k0]; simp, by rw [hap, List.map_append]; have := own_pre_rep (q := q) (q' := q') (ds := fs.map Prod.snd) (xs := ys) (by intro i hi; rw [py i (by rw [hl]; simpa using hi), e0]; simp) (by rw [lm]; omega); rw [lm] at this; simpa using this⟩, hcap⟩)
theorem d7_0 : decode prog_5_method_11_code 0 = .ok (.iconst 0, 1) := by decide +kernel
theorem d7_1 : decode prog_5_method_11_code 1 = .ok (.istore_n 3, 1) := by decide +kernel
theorem d7_2 : decode prog_5_method_11_code 2 = .ok (.aload_n 0, 1) := by decide +kernel
theorem d7_3 : decode prog_5_method_11_code 3 = .ok (.getfield 16, 3) := by decide +kernel
theorem d7_6 : decode prog_5_method_11_code 6 = .ok (.istore 4, 2) := by decide +kernel
theorem d7_8 : decode prog_5_method_11_code 8 = .ok (.iload_n 3, 1) := by decide +kernel
theorem d7_9 : decode prog_5_method_11_code 9 = .ok (.iload 4, 2) := by decide +kernel
theorem d7_11 : decode prog_5_method_11_code 11 = .ok (.if_icmp .ge 52, 3) := by decide +kernel
theorem d7_14 : decode prog_5_method_11_code 14 = .ok (.iload_n 3, 1) := by decide +kernel
theorem d7_15 : decode prog_5_method_11_code 15 = .ok (.iload 4, 2) := by decide +kernel
theorem d7_17 : decode prog_5_method_11_code 17 = .ok (.iadd, 1) := by decide +kernel
theorem d7_18 : decode prog_5_method_11_code 18 = .ok (.iconst 1, 1) := by decide +kernel
theorem d7_19 : decode prog_5_method_11_code 19 = .ok (.iushr, 1) := by decide +kernel
theorem d7_20 : decode prog_5_method_11_code 20 = .ok (.istore 5, 2) := by decide +kernel
theorem d7_22 : decode prog_5_method_11_code 22 = .ok (.aload_n 0, 1) := by decide +kernel
theorem d7_23 : decode prog_5_method_11_code 23 = .ok (.getfield 9, 3) := by decide +kernel
theorem d7_26 : decode prog_5_method_11_code 26 = .ok (.iload 5, 2) := by decide +kernel
theorem d7_28 : decode prog_5_method_11_code 28 = .ok (.iaload, 1) := by decide +kernel
theorem d7_29 : decode prog_5_method_11_code 29 = .ok (.iload_n 1, 1) := by decide +kernel
theorem d7_30 : decode prog_5_method_11_code 30 = .ok (.if_icmp .lt 18, 3) := by decide +kernel
theorem d7_33 : decode prog_5_method_11_code 33 = .ok (.iload_n 2, 1) := by decide +kernel
theorem d7_34 : decode prog_5_method_11_code 34 = .ok (.ifCond .eq 22, 3) := by decide +kernel
theorem d7_37 : decode prog_5_method_11_code 37 = .ok (.aload_n 0, 1) := by decide +kernel
theorem d7_38 : decode prog_5_method_11_code 38 = .ok (.getfield 9, 3) := by decide +kernel
theorem d7_41 : decode prog_5_method_11_code 41 = .ok (.iload 5, 2) := by decide +kernel
theorem d7_43 : decode prog_5_method_11_code 43 = .ok (.iaload, 1) := by decide +kernel
theorem d7_44 : decode prog_5_method_11_code 44 = .ok (.iload_n 1, 1) := by decide +kernel
theorem d7_45 : decode prog_5_method_11_code 45 = .ok (.if_icmp .ne 11, 3) := by decide +kernel
theorem d7_48 : decode prog_5_method_11_code 48 = .ok (.iload 5, 2) := by decide +kernel
theorem d7_50 : decode prog_5_method_11_code 50 = .ok (.iconst 1, 1) := by decide +kernel
theorem d7_51 : decode prog_5_method_11_code 51 = .ok (.iadd, 1) := by decide +kernel
theorem d7_52 : decode prog_5_method_11_code 52 = .ok (.istore_n 3, 1) := by decide +kernel
theorem d7_53 : decode prog_5_method_11_code 53 = .ok (.goto 7, 3) := by decide +kernel
theorem d7_56 : decode prog_5_method_11_code 56 = .ok (.iload 5, 2) := by decide +kernel
theorem d7_58 : decode prog_5_method_11_code 58 = .ok (.istore 4, 2) := by decide +kernel
theorem d7_60 : decode prog_5_method_11_code 60 = .ok (.goto (-52), 3) := by decide +kernel
theorem d7_63 : decode prog_5_method_11_code 63 = .ok (.iload_n 3, 1) := by decide +kernel
theorem d7_64 : decode prog_5_method_11_code 64 = .ok (.ireturn, 1) := by decide +kernel
abbrev own_rm7_room : Room := { frames := 0, cells := 0, slots := 0, locals := 0 }
set_option maxRecDepth 65536 in
set_option maxHeartbeats 40000000 in
theorem rm7 (l : Launch) (Z : State) (a0 : Array Value) (hw : ∀ d ∈ tables_1, d.before a0 Z = true) (n0 : Nat) (h0 : Heap) (Z0 : n0 ≤ h0.size) (hA : Addr) (es : List (Int32 × Int32)) (cap : Nat) (p : Int32) (HH : own_H Z h0 n0 hA es cap) (hS : own_S es) (hlen : es.length < 1000) :
    Ctr l Z (⟨"com/example/hesabu/hesabu/billing/HeldLicences", "countUpTo", "(IZ)I"⟩ : MethodName) prog_5_method_11_code 6 (some .int) own_rm7_room n0 #[(.ref hA), (.int p), (.int (1 : Int32))] h0 (fun v h => ∃ (kk : Nat) (r : Int32), r.toInt = (kk : Int) ∧ kk ≤ es.length ∧ (∀ i, i < kk → ¬ p < own_at es i) ∧ (∀ i, kk ≤ i → i < es.length → p < own_at es i) ∧ v = some (.int r) ∧ h = h0) := by
  refine Ctr.of #[.val (.ref hA), .val (.int p), .val (.int (1 : Int32)), .unset, .unset, .unset] (plainFor_of_name pn_2) Z0 (fun m => by first | (simp [entryFrame, mkF, argsToLocals, Value.category]; done) | rfl) ?_
  intro C H
  obtain ⟨a, b, c, xs, ys, ga, gb, la, lb, nab, X, Fd, Fq, Fc, Va, Vb, hc, hxl, hyl, hle, px, py⟩ := HH
  have nHa : hA ≠ a := Nat.ne_of_lt la
  have nHb : hA ≠ b := Nat.ne_of_lt lb
  refine k_iconst (0 : Int32) (pc := 0) H d7_0 rfl ?_
  refine k_istoreN (pc := 1) H d7_1 (Ls' := #[.val (.ref hA), .val (.int p), .val (.int (1 : Int32)), .val (.int (0 : Int32)), .unset, .unset]) rfl ?_
  refine k_aloadN (pc := 2) H d7_2 rfl rfl ?_
  refine k_getfield (pc := 3) H (wd hw 25 rfl) Fc d7_3 ?_
  refine k_istore (pc := 6) H d7_6 (Ls' := #[.val (.ref hA), .val (.int p), .val (.int (1 : Int32)), .val (.int (0 : Int32)), .val (.int c), .unset]) rfl ?_
  have L : ∀ (m l' u : Nat) (lo hi : Int32) (s5 : Slot) (hs : OneW s5) (h1 : lo.toInt = (l' : Int)) (h2 : hi.toInt = (u : Int)) (hlu : l' ≤ u) (hul : u ≤ es.length) (hm : u - l' ≤ m) (i1 : ∀ i, i < l' → ¬ p < own_at es i) (i2 : ∀ i, u ≤ i → i < es.length → p < own_at es i), W l own_rm7_room C (n0, own_rm7_room.cells, own_rm7_room.slots, fun v h => ∃ (kk : Nat) (r : Int32), r.toInt = (kk : Int) ∧ kk ≤ es.length ∧ (∀ i, i < kk → ¬ p < own_at es i) ∧ (∀ i, kk ≤ i → i < es.length → p < own_at es i) ∧ v = some (.int r) ∧ h = h0) h0 0 0 8 #[.val (.ref hA), .val (.int p), .val (.int (1 : Int32)), .val (.int lo), .val (.int hi), s5] [] := by
    intro m
    induction m with
    | zero =>
      intro l' u lo hi s5 hs h1 h2 hlu hul hm i1 i2
      refine k_iloadN (pc := 8) H d7_8 rfl ?_
      refine k_iload (pc := 9) H d7_9 rfl ?_
      refine k_icmpT 63 (pc := 11) H d7_11 rfl (XT.ii_ge_t (fun q => by have := (lt_nat h1 h2).mp q; omega)) ?_
      refine k_iloadN (pc := 63) H d7_63 rfl ?_
      exact k_retInt (pc := 64) H d7_64 (by show 0 ≤ own_rm7_room.cells; decide) (by show 0 ≤ own_rm7_room.slots; decide) (⟨l', lo, h1, by omega, i1, fun i hi' => i2 i (by omega), rfl, rfl⟩)
    | succ m ih =>
      intro l' u lo hi s5 hs h1 h2 hlu hul hm i1 i2
      have hq := lt_nat h1 h2
      refine k_iloadN (pc := 8) H d7_8 rfl ?_
      refine k_iload (pc := 9) H d7_9 rfl ?_
      refine k_icmpR (P := lo < hi) 63 (pc := 11) H d7_11 rfl XT.ii_ge_t XT.ii_ge_f (fun k0 => ?_) (fun k0 => ?_)
      · refine k_iloadN (pc := 63) H d7_63 rfl ?_
        have : ¬ l' < u := fun z => k0 (hq.mpr z)
        exact k_retInt (pc := 64) H d7_64 (by show 0 ≤ own_rm7_room.cells; decide) (by show 0 ≤ own_rm7_room.slots; decide) (⟨l', lo, h1, by omega, i1, fun i hi' => i2 i (by omega), rfl, rfl⟩)
      · have lt := hq.mp k0
        refine k_iloadN (pc := 14) H d7_14 rfl ?_
        refine k_iload (pc := 15) H d7_15 rfl ?_
        refine k_iadd (pc := 17) H d7_17 ?_
        refine k_iconst (1 : Int32) (pc := 18) H d7_18 rfl ?_
        refine k_iushr (pc := 19) H d7_19 ?_
        generalize hv_md : (XT.ushr (lo + hi) (1 : Int32)) = md
        refine k_istore (pc := 20) H d7_20 (Ls' := #[.val (.ref hA), .val (.int p), .val (.int (1 : Int32)), .val (.int lo), .val (.int hi), .val (.int md)]) (XS.store1 rfl hs rfl) ?_
        refine k_aloadN (pc := 22) H d7_22 rfl rfl ?_
        have hmd : md.toInt = (((l' + u) / 2 : Nat) : Int) := by rw [← hv_md]; exact ushr_nat 1 (add_nat h1 h2 (by omega)) (by decide) (by decide)
        obtain ⟨k, hk⟩ : ∃ k, k = (l' + u) / 2 := ⟨_, rfl⟩
        rw [← hk] at hmd
        have k1 : l' ≤ k := by omega
        have k2 : k < u := by omega
        have hx : xs[k]? = some (own_at es k) := by rw [px k (by omega)]; simp [own_at, show k < es.length by omega]
        refine k_getfield (pc := 23) H (wd hw 16 rfl) Fd d7_23 ?_
        refine k_iload (pc := 26) H d7_26 rfl ?_
        refine k_ialoadT (i := k) (x := (own_at es k)) (pc := 28) H Va (hmd) (hx) d7_28 ?_
        refine k_iloadN (pc := 29) H d7_29 rfl ?_
        refine k_icmp (P := (own_at es k) < p) 48 (pc := 30) H d7_30 rfl XT.ii_lt_t XT.ii_lt_f (fun k3 => ?_) (fun k3 => ?_)
        · have LE : ¬ p < own_at es k := fun z => by rw [Int32.lt_iff_toInt_lt] at z k3; omega
          refine k_iload (pc := 48) H d7_48 rfl ?_
          refine k_iconst (1 : Int32) (pc := 50) H d7_50 rfl ?_
          refine k_iadd (pc := 51) H d7_51 ?_
          refine k_istoreN (pc := 52) H d7_52 (Ls' := #[.val (.ref hA), .val (.int p), .val (.int (1 : Int32)), .val (.int (md + (1 : Int32))), .val (.int hi), .val (.int md)]) rfl ?_
          refine k_goto 60 (pc := 53) H d7_53 rfl ?_
          refine k_goto 8 (pc := 60) H d7_60 rfl ?_
          exact ih (k + 1) u _ _ _ (OneW.int _) (add_nat hmd rfl (by omega)) h2 (by omega) hul (by omega) (fun i hi' => if e : i = k then by rw [e]; exact LE else fun z => LE (Int32.lt_trans z (own_at_lt hS (by omega) (by omega)))) i2
        · refine k_iloadN (pc := 33) H d7_33 rfl ?_
          refine k_ifF (pc := 34) H d7_34 (XT.i0_eq_f (by decide)) ?_
          refine k_aloadN (pc := 37) H d7_37 rfl rfl ?_
          refine k_getfield (pc := 38) H (wd hw 16 rfl) Fd d7_38 ?_
          refine k_iload (pc := 41) H d7_41 rfl ?_
          refine k_ialoadT (i := k) (x := (own_at es k)) (pc := 43) H Va (hmd) (hx) d7_43 ?_
          refine k_iloadN (pc := 44) H d7_44 rfl ?_
          refine k_icmpR (P := (own_at es k) = p) 56 (pc := 45) H d7_45 rfl XT.ii_ne_t XT.ii_ne_f (fun k4 => ?_) (fun k4 => ?_)
          · have GT : p < own_at es k := by rw [Int32.lt_iff_toInt_lt] at k3 ⊢; have : (own_at es k).toInt ≠ p.toInt := fun z => k4 (Int32.toInt_inj.mp z); omega
            refine k_iload (pc := 56) H d7_56 rfl ?_
            refine k_istore (pc := 58) H d7_58 (Ls' := #[.val (.ref hA), .val (.int p), .val (.int (1 : Int32)), .val (.int lo), .val (.int md), .val (.int md)]) rfl ?_
            refine k_goto 8 (pc := 60) H d7_60 rfl ?_
            exact ih l' k _ _ _ (OneW.int _) h1 hmd (by omega) (by omega) (by omega) i1 (fun i hi1 hi2 => if e : i = k then by rw [e]; exact GT else Int32.lt_trans GT (own_at_lt hS (by omega) hi2))
          · have LE : ¬ p < own_at es k := by rw [k4, Int32.lt_iff_toInt_lt]; omega
            refine k_iload (pc := 48) H d7_48 rfl ?_
            refine k_iconst (1 : Int32) (pc := 50) H d7_50 rfl ?_
            refine k_iadd (pc := 51) H d7_51 ?_
            refine k_istoreN (pc := 52) H d7_52 (Ls' := #[.val (.ref hA), .val (.int p), .val (.int (1 : Int32)), .val (.int (md + (1 : Int32))), .val (.int hi), .val (.int md)]) rfl ?_
            refine k_goto 60 (pc := 53) H d7_53 rfl ?_
            refine k_goto 8 (pc := 60) H d7_60 rfl ?_
            exact ih (k + 1) u _ _ _ (OneW.int _) (add_nat hmd rfl (by omega)) h2 (by omega) hul (by omega) (fun i hi' => if e : i = k then by rw [e]; exact LE else fun z => LE (Int32.lt_trans z (own_at_lt hS (by omega) (by omega)))) i2
  exact L es.length 0 es.length _ _ _ OneW.unset rfl hc (by omega) (by omega) (by omega) (fun i hi => by omega) (fun i h1 h2 => by omega)
theorem d6_0 : decode prog_5_method_5_code 0 = .ok (.aload_n 0, 1) := by decide +kernel
theorem d6_1 : decode prog_5_method_5_code 1 = .ok (.iload_n 1, 1) := by decide +kernel
theorem d6_2 : decode prog_5_method_5_code 2 = .ok (.iconst 1, 1) := by decide +kernel
theorem d6_3 : decode prog_5_method_5_code 3 = .ok (.invokevirtual 51, 3) := by decide +kernel
theorem d6_6 : decode prog_5_method_5_code 6 = .ok (.ireturn, 1) := by decide +kernel
abbrev own_rm6_room : Room := { frames := 1, cells := 0, slots := 0, locals := 17 }
set_option maxRecDepth 65536 in
set_option maxHeartbeats 40000000 in
theorem rm6 (l : Launch) (Z : State) (a0 : Array Value) (hw : ∀ d ∈ tables_1, d.before a0 Z = true) (n0 : Nat) (h0 : Heap) (Z0 : n0 ≤ h0.size) (hA : Addr) (es : List (Int32 × Int32)) (cap : Nat) (p : Int32) (HH : own_H Z h0 n0 hA es cap) (hS : own_S es) (hlen : es.length < 1000) :
    Ctr l Z (⟨"com/example/hesabu/hesabu/billing/HeldLicences", "after", "(I)I"⟩ : MethodName) prog_5_method_5_code 2 (some .int) own_rm6_room n0 #[(.ref hA), (.int p)] h0 (fun v h => ∃ (kk : Nat) (r : Int32), r.toInt = (kk : Int) ∧ kk ≤ es.length ∧ (∀ i, i < kk → ¬ p < own_at es i) ∧ (∀ i, kk ≤ i → i < es.length → p < own_at es i) ∧ v = some (.int r) ∧ h = h0) := by
  refine Ctr.of #[.val (.ref hA), .val (.int p)] (plainFor_of_name pn_2) Z0 (fun m => by first | (simp [entryFrame, mkF, argsToLocals, Value.category]; done) | rfl) ?_
  intro C H
  obtain ⟨_, _, _, _, _, -, -, -, -, -, X, -⟩ := id HH
  refine k_aloadN (pc := 0) H d6_0 rfl rfl ?_
  refine k_iloadN (pc := 1) H d6_1 rfl ?_
  refine k_iconst (1 : Int32) (pc := 2) H d6_2 rfl ?_
  refine k_invP (y := (⟨"com/example/hesabu/hesabu/billing/HeldLicences", "countUpTo", "(IZ)I"⟩ : MethodName)) (st := []) (a := hA) [(.int p), (.int (1 : Int32))] 0 (pc := 3) H (wd hw 37 rfl) (wd hw 39 rfl) (wd hw 38 rfl) (wd hw 8 rfl) (wd hw 40 rfl) (wd hw 7 rfl) rfl (by decide) X (fun z0 => rm7 l Z a0 hw n0 h0 z0 hA es cap p HH hS hlen) (lenOf pd_2 rfl) d6_3 rfl rfl rfl (by decide) (by decide) (by decide) (by decide) ?_
  rintro v hx ⟨kk, r, hr, g1, g2, g3, rfl, ex⟩
  rw [ex]
  clear ex hx
  show W l own_rm6_room C _ h0 0 0 6 #[.val (.ref hA), .val (.int p)] [(.int r)]
  exact k_retInt (pc := 6) H d6_6 (by show 0 ≤ own_rm6_room.cells; decide) (by show 0 ≤ own_rm6_room.slots; decide) (⟨kk, r, hr, g1, g2, g3, rfl, rfl⟩)
theorem d5_0 : decode prog_5_method_4_code 0 = .ok (.aload_n 0, 1) := by decide +kernel
theorem d5_1 : decode prog_5_method_4_code 1 = .ok (.getfield 13, 3) := by decide +kernel
theorem d5_4 : decode prog_5_method_4_code 4 = .ok (.aload_n 0, 1) := by decide +kernel
theorem d5_5 : decode prog_5_method_4_code 5 = .ok (.iload_n 1, 1) := by decide +kernel
theorem d5_6 : decode prog_5_method_4_code 6 = .ok (.invokevirtual 47, 3) := by decide +kernel
theorem d5_9 : decode prog_5_method_4_code 9 = .ok (.iconst 1, 1) := by decide +kernel
theorem d5_10 : decode prog_5_method_4_code 10 = .ok (.isub, 1) := by decide +kernel
theorem d5_11 : decode prog_5_method_4_code 11 = .ok (.iaload, 1) := by decide +kernel
theorem d5_12 : decode prog_5_method_4_code 12 = .ok (.ireturn, 1) := by decide +kernel
abbrev own_rm5_room : Room := { frames := 2, cells := 0, slots := 0, locals := 31 }
set_option maxRecDepth 65536 in
set_option maxHeartbeats 40000000 in
theorem rm5 (l : Launch) (Z : State) (a0 : Array Value) (hw : ∀ d ∈ tables_1, d.before a0 Z = true) (n0 : Nat) (h0 : Heap) (Z0 : n0 ≤ h0.size) (hA : Addr) (es : List (Int32 × Int32)) (cap : Nat) (p : Int32) (HH : own_H Z h0 n0 hA es cap) (hS : own_S es) (hlen : es.length < 1000) (hne : 1 ≤ es.length) (hp : ¬ p < own_at es 0) :
    Ctr l Z (⟨"com/example/hesabu/hesabu/billing/HeldLicences", "heldOn", "(I)I"⟩ : MethodName) prog_5_method_4_code 2 (some .int) own_rm5_room n0 #[(.ref hA), (.int p)] h0 (fun v h => v = some (.int (own_lk es p)) ∧ h = h0) := by
  refine Ctr.of #[.val (.ref hA), .val (.int p)] (plainFor_of_name pn_2) Z0 (fun m => by first | (simp [entryFrame, mkF, argsToLocals, Value.category]; done) | rfl) ?_
  intro C H
  have HH' := HH
  obtain ⟨a, b, c, xs, ys, ga, gb, la, lb, nab, X, Fd, Fq, Fc, Va, Vb, hc, hxl, hyl, hle, px, py⟩ := HH
  have nHa : hA ≠ a := Nat.ne_of_lt la
  have nHb : hA ≠ b := Nat.ne_of_lt lb
  refine k_aloadN (pc := 0) H d5_0 rfl rfl ?_
  refine k_getfield (pc := 1) H (wd hw 18 rfl) Fq d5_1 ?_
  refine k_aloadN (pc := 4) H d5_4 rfl rfl ?_
  refine k_iloadN (pc := 5) H d5_5 rfl ?_
  refine k_invV (y := (⟨"com/example/hesabu/hesabu/billing/HeldLicences", "after", "(I)I"⟩ : MethodName)) (st := [(.ref b)]) (a := hA) [(.int p)] 1 (pc := 6) H (wd hw 32 rfl) (wd hw 33 rfl) (wd hw 35 rfl) (wd hw 34 rfl) (wd hw 8 rfl) (wd hw 36 rfl) rfl (by decide) X (fun z0 => rm6 l Z a0 hw n0 h0 z0 hA es cap p HH' hS hlen) (lenOf pd_3 rfl) d5_6 rfl rfl rfl (by decide) (by decide) (by decide) (by decide) ?_
  rintro v hx ⟨kk, r, hr, g1, g2, g3, rfl, ex⟩
  rw [ex]
  clear ex hx
  show W l own_rm5_room C _ h0 0 0 9 #[.val (.ref hA), .val (.int p)] [(.int r), (.ref b)]
  refine k_iconst (1 : Int32) (pc := 9) H d5_9 rfl ?_
  refine k_isub (pc := 10) H d5_10 ?_
  have hk1 : 1 ≤ kk := Nat.pos_of_ne_zero (fun z => absurd (g3 0 (by omega) (by omega)) hp)
  have hlk := own_lk_at (p := p) (k := kk - 1) (by omega) (g2 (kk - 1) (by omega)) (fun i h1 h2 => g3 i (by omega) h2)
  refine k_ialoadT (i := (kk - 1)) (x := (own_lk es p)) (pc := 11) H Vb (sub_nat hr rfl hk1) (by rw [py _ (by omega)]; exact hlk) d5_11 ?_
  exact k_retInt (pc := 12) H d5_12 (by show 0 ≤ own_rm5_room.cells; decide) (by show 0 ≤ own_rm5_room.slots; decide) (⟨rfl, rfl⟩)
theorem d0_0 : decode code 0 = .ok (.iload_n 0, 1) := by decide +kernel
theorem d0_1 : decode code 1 = .ok (.ldc 9, 2) := by decide +kernel
theorem d0_3 : decode code 3 = .ok (.invokestatic 10, 3) := by decide +kernel
theorem d0_6 : decode code 6 = .ok (.istore 6, 2) := by decide +kernel
theorem d0_8 : decode code 8 = .ok (.iconst 1, 1) := by decide +kernel
theorem d0_9 : decode code 9 = .ok (.iload 5, 2) := by decide +kernel
theorem d0_11 : decode code 11 = .ok (.ldc 16, 2) := by decide +kernel
theorem d0_13 : decode code 13 = .ok (.iand, 1) := by decide +kernel
theorem d0_14 : decode code 14 = .ok (.iconst 5, 1) := by decide +kernel
theorem d0_15 : decode code 15 = .ok (.irem, 1) := by decide +kernel
theorem d0_16 : decode code 16 = .ok (.iadd, 1) := by decide +kernel
theorem d0_17 : decode code 17 = .ok (.istore 7, 2) := by decide +kernel
theorem d0_19 : decode code 19 = .ok (.iload 6, 2) := by decide +kernel
theorem d0_21 : decode code 21 = .ok (.istore 8, 2) := by decide +kernel
theorem d0_23 : decode code 23 = .ok (.iload 8, 2) := by decide +kernel
theorem d0_25 : decode code 25 = .ok (.iload_n 1, 1) := by decide +kernel
theorem d0_26 : decode code 26 = .ok (.iconst 3, 1) := by decide +kernel
theorem d0_27 : decode code 27 = .ok (.iand, 1) := by decide +kernel
theorem d0_28 : decode code 28 = .ok (.iadd, 1) := by decide +kernel
theorem d0_29 : decode code 29 = .ok (.istore 9, 2) := by decide +kernel
theorem d0_31 : decode code 31 = .ok (.iload 9, 2) := by decide +kernel
theorem d0_33 : decode code 33 = .ok (.iload_n 1, 1) := by decide +kernel
theorem d0_34 : decode code 34 = .ok (.iconst 2, 1) := by decide +kernel
theorem d0_35 : decode code 35 = .ok (.iushr, 1) := by decide +kernel
theorem d0_36 : decode code 36 = .ok (.iconst 3, 1) := by decide +kernel
theorem d0_37 : decode code 37 = .ok (.iand, 1) := by decide +kernel
theorem d0_38 : decode code 38 = .ok (.iadd, 1) := by decide +kernel
theorem d0_39 : decode code 39 = .ok (.istore 10, 2) := by decide +kernel
theorem d0_41 : decode code 41 = .ok (.iload 10, 2) := by decide +kernel
theorem d0_43 : decode code 43 = .ok (.iload_n 1, 1) := by decide +kernel
theorem d0_44 : decode code 44 = .ok (.iconst 4, 1) := by decide +kernel
theorem d0_45 : decode code 45 = .ok (.iushr, 1) := by decide +kernel
theorem d0_46 : decode code 46 = .ok (.iconst 3, 1) := by decide +kernel
theorem d0_47 : decode code 47 = .ok (.iand, 1) := by decide +kernel
theorem d0_48 : decode code 48 = .ok (.iadd, 1) := by decide +kernel
theorem d0_49 : decode code 49 = .ok (.istore 11, 2) := by decide +kernel
theorem d0_51 : decode code 51 = .ok (.iload 11, 2) := by decide +kernel
theorem d0_53 : decode code 53 = .ok (.iload_n 1, 1) := by decide +kernel
theorem d0_54 : decode code 54 = .ok (.bipush 6, 2) := by decide +kernel
theorem d0_56 : decode code 56 = .ok (.iushr, 1) := by decide +kernel
theorem d0_57 : decode code 57 = .ok (.iconst 3, 1) := by decide +kernel
theorem d0_58 : decode code 58 = .ok (.iand, 1) := by decide +kernel
theorem d0_59 : decode code 59 = .ok (.iadd, 1) := by decide +kernel
theorem d0_60 : decode code 60 = .ok (.istore 12, 2) := by decide +kernel
theorem d0_62 : decode code 62 = .ok (.iload_n 2, 1) := by decide +kernel
theorem d0_63 : decode code 63 = .ok (.istore 13, 2) := by decide +kernel
theorem d0_65 : decode code 65 = .ok (.iload_n 3, 1) := by decide +kernel
theorem d0_66 : decode code 66 = .ok (.istore 14, 2) := by decide +kernel
theorem d0_68 : decode code 68 = .ok (.iload_n 2, 1) := by decide +kernel
theorem d0_69 : decode code 69 = .ok (.iconst (-1), 1) := by decide +kernel
theorem d0_70 : decode code 70 = .ok (.ixor, 1) := by decide +kernel
theorem d0_71 : decode code 71 = .ok (.istore 15, 2) := by decide +kernel
theorem d0_73 : decode code 73 = .ok (.iload_n 3, 1) := by decide +kernel
theorem d0_74 : decode code 74 = .ok (.iconst (-1), 1) := by decide +kernel
theorem d0_75 : decode code 75 = .ok (.ixor, 1) := by decide +kernel
theorem d0_76 : decode code 76 = .ok (.istore 16, 2) := by decide +kernel
theorem d0_78 : decode code 78 = .ok (.iload_n 2, 1) := by decide +kernel
theorem d0_79 : decode code 79 = .ok (.iload_n 3, 1) := by decide +kernel
theorem d0_80 : decode code 80 = .ok (.iadd, 1) := by decide +kernel
theorem d0_81 : decode code 81 = .ok (.istore 17, 2) := by decide +kernel
theorem d0_83 : decode code 83 = .ok (.new 17, 3) := by decide +kernel
theorem d0_86 : decode code 86 = .ok (.dup, 1) := by decide +kernel
theorem d0_87 : decode code 87 = .ok (.invokespecial 19, 3) := by decide +kernel
theorem d0_90 : decode code 90 = .ok (.astore 18, 2) := by decide +kernel
theorem d0_92 : decode code 92 = .ok (.aload 18, 2) := by decide +kernel
theorem d0_94 : decode code 94 = .ok (.iload 8, 2) := by decide +kernel
theorem d0_96 : decode code 96 = .ok (.iload 13, 2) := by decide +kernel
theorem d0_98 : decode code 98 = .ok (.invokevirtual 20, 3) := by decide +kernel
theorem d0_101 : decode code 101 = .ok (.iload 7, 2) := by decide +kernel
theorem d0_103 : decode code 103 = .ok (.iconst 2, 1) := by decide +kernel
theorem d0_104 : decode code 104 = .ok (.if_icmp .lt 12, 3) := by decide +kernel
theorem d0_107 : decode code 107 = .ok (.aload 18, 2) := by decide +kernel
theorem d0_109 : decode code 109 = .ok (.iload 9, 2) := by decide +kernel
theorem d0_111 : decode code 111 = .ok (.iload 14, 2) := by decide +kernel
theorem d0_113 : decode code 113 = .ok (.invokevirtual 20, 3) := by decide +kernel
theorem d0_116 : decode code 116 = .ok (.iload 7, 2) := by decide +kernel
theorem d0_118 : decode code 118 = .ok (.iconst 3, 1) := by decide +kernel
theorem d0_119 : decode code 119 = .ok (.if_icmp .lt 12, 3) := by decide +kernel
theorem d0_122 : decode code 122 = .ok (.aload 18, 2) := by decide +kernel
theorem d0_124 : decode code 124 = .ok (.iload 10, 2) := by decide +kernel
theorem d0_126 : decode code 126 = .ok (.iload 15, 2) := by decide +kernel
theorem d0_128 : decode code 128 = .ok (.invokevirtual 20, 3) := by decide +kernel
theorem d0_131 : decode code 131 = .ok (.iload 7, 2) := by decide +kernel
theorem d0_133 : decode code 133 = .ok (.iconst 4, 1) := by decide +kernel
theorem d0_134 : decode code 134 = .ok (.if_icmp .lt 12, 3) := by decide +kernel
theorem d0_137 : decode code 137 = .ok (.aload 18, 2) := by decide +kernel
theorem d0_139 : decode code 139 = .ok (.iload 11, 2) := by decide +kernel
theorem d0_141 : decode code 141 = .ok (.iload 16, 2) := by decide +kernel
theorem d0_143 : decode code 143 = .ok (.invokevirtual 20, 3) := by decide +kernel
theorem d0_146 : decode code 146 = .ok (.iload 7, 2) := by decide +kernel
theorem d0_148 : decode code 148 = .ok (.iconst 5, 1) := by decide +kernel
theorem d0_149 : decode code 149 = .ok (.if_icmp .lt 12, 3) := by decide +kernel
theorem d0_152 : decode code 152 = .ok (.aload 18, 2) := by decide +kernel
theorem d0_154 : decode code 154 = .ok (.iload 12, 2) := by decide +kernel
theorem d0_156 : decode code 156 = .ok (.iload 17, 2) := by decide +kernel
theorem d0_158 : decode code 158 = .ok (.invokevirtual 20, 3) := by decide +kernel
theorem d0_161 : decode code 161 = .ok (.iload 4, 2) := by decide +kernel
theorem d0_163 : decode code 163 = .ok (.iload 6, 2) := by decide +kernel
theorem d0_165 : decode code 165 = .ok (.if_icmp .lt 8, 3) := by decide +kernel
theorem d0_168 : decode code 168 = .ok (.iload 4, 2) := by decide +kernel
theorem d0_170 : decode code 170 = .ok (.goto 11, 3) := by decide +kernel
theorem d0_173 : decode code 173 = .ok (.iload 6, 2) := by decide +kernel
theorem d0_175 : decode code 175 = .ok (.iload 4, 2) := by decide +kernel
theorem d0_177 : decode code 177 = .ok (.bipush 15, 2) := by decide +kernel
theorem d0_179 : decode code 179 = .ok (.iand, 1) := by decide +kernel
theorem d0_180 : decode code 180 = .ok (.iadd, 1) := by decide +kernel
theorem d0_181 : decode code 181 = .ok (.istore 19, 2) := by decide +kernel
theorem d0_183 : decode code 183 = .ok (.iload 13, 2) := by decide +kernel
theorem d0_185 : decode code 185 = .ok (.istore 20, 2) := by decide +kernel
theorem d0_187 : decode code 187 = .ok (.iload 7, 2) := by decide +kernel
theorem d0_189 : decode code 189 = .ok (.iconst 2, 1) := by decide +kernel
theorem d0_190 : decode code 190 = .ok (.if_icmp .lt 14, 3) := by decide +kernel
theorem d0_193 : decode code 193 = .ok (.iload 9, 2) := by decide +kernel
theorem d0_195 : decode code 195 = .ok (.iload 19, 2) := by decide +kernel
theorem d0_197 : decode code 197 = .ok (.if_icmp .gt 7, 3) := by decide +kernel
theorem d0_200 : decode code 200 = .ok (.iload 14, 2) := by decide +kernel
theorem d0_202 : decode code 202 = .ok (.istore 20, 2) := by decide +kernel
theorem d0_204 : decode code 204 = .ok (.iload 7, 2) := by decide +kernel
theorem d0_206 : decode code 206 = .ok (.iconst 3, 1) := by decide +kernel
theorem d0_207 : decode code 207 = .ok (.if_icmp .lt 14, 3) := by decide +kernel
theorem d0_210 : decode code 210 = .ok (.iload 10, 2) := by decide +kernel
theorem d0_212 : decode code 212 = .ok (.iload 19, 2) := by decide +kernel
theorem d0_214 : decode code 214 = .ok (.if_icmp .gt 7, 3) := by decide +kernel
theorem d0_217 : decode code 217 = .ok (.iload 15, 2) := by decide +kernel
theorem d0_219 : decode code 219 = .ok (.istore 20, 2) := by decide +kernel
theorem d0_221 : decode code 221 = .ok (.iload 7, 2) := by decide +kernel
theorem d0_223 : decode code 223 = .ok (.iconst 4, 1) := by decide +kernel
theorem d0_224 : decode code 224 = .ok (.if_icmp .lt 14, 3) := by decide +kernel
theorem d0_227 : decode code 227 = .ok (.iload 11, 2) := by decide +kernel
theorem d0_229 : decode code 229 = .ok (.iload 19, 2) := by decide +kernel
theorem d0_231 : decode code 231 = .ok (.if_icmp .gt 7, 3) := by decide +kernel
theorem d0_234 : decode code 234 = .ok (.iload 16, 2) := by decide +kernel
theorem d0_236 : decode code 236 = .ok (.istore 20, 2) := by decide +kernel
theorem d0_238 : decode code 238 = .ok (.iload 7, 2) := by decide +kernel
theorem d0_240 : decode code 240 = .ok (.iconst 5, 1) := by decide +kernel
theorem d0_241 : decode code 241 = .ok (.if_icmp .lt 14, 3) := by decide +kernel
theorem d0_244 : decode code 244 = .ok (.iload 12, 2) := by decide +kernel
theorem d0_246 : decode code 246 = .ok (.iload 19, 2) := by decide +kernel
theorem d0_248 : decode code 248 = .ok (.if_icmp .gt 7, 3) := by decide +kernel
theorem d0_251 : decode code 251 = .ok (.iload 17, 2) := by decide +kernel
theorem d0_253 : decode code 253 = .ok (.istore 20, 2) := by decide +kernel
theorem d0_255 : decode code 255 = .ok (.aload 18, 2) := by decide +kernel
theorem d0_257 : decode code 257 = .ok (.iload 19, 2) := by decide +kernel
theorem d0_259 : decode code 259 = .ok (.invokevirtual 24, 3) := by decide +kernel
theorem d0_262 : decode code 262 = .ok (.iload 20, 2) := by decide +kernel
theorem d0_264 : decode code 264 = .ok (.if_icmp .ne 7, 3) := by decide +kernel
theorem d0_267 : decode code 267 = .ok (.iconst 1, 1) := by decide +kernel
theorem d0_268 : decode code 268 = .ok (.goto 4, 3) := by decide +kernel
theorem d0_271 : decode code 271 = .ok (.iconst 0, 1) := by decide +kernel
theorem d0_272 : decode code 272 = .ok (.ireturn, 1) := by decide +kernel
set_option maxRecDepth 65536 in
set_option maxHeartbeats 40000000 in
theorem rm0 (l : Launch) (Z : State) (a0 : Array Value) (hw : ∀ d ∈ tables_1, d.before a0 Z = true) (ws : List Jvm.Cond) (n0 : Nat) (h0 : Heap) (Z0 : n0 ≤ h0.size) (d0 : Int32) (gp : Int32) (qa : Int32) (qb : Int32) (pb : Int32) (nn : Int32) :
    MetFree l x (head1 (Jvm.Cond.code x code maxLocals ret :: ws) room_1) (fun as_ U => as_ = #[(.int d0), (.int gp), (.int qa), (.int qb), (.int pb), (.int nn)] ∧ Z.Warmed39 U.vm ∧ U.heap = h0) (fun _ _ _ _ _ => True) (fun _ U o U' => ∃ v L, o = .returned v ∧ ((fun v h => v = some (.int 1)) v U'.heap ∧ Fr n0 L) ∧ FrameEnd U o U' L 24 128) := by
  refine met_of (Q := fun v h => v = some (.int 1)) #[.val (.int d0), .val (.int gp), .val (.int qa), .val (.int qb), .val (.int pb), .val (.int nn), .unset, .unset, .unset, .unset, .unset, .unset, .unset, .unset, .unset, .unset, .unset, .unset, .unset, .unset, .unset] (plainFor_of_name pn_3) Z0 (fun m => by first | (simp [entryFrame, mkF, argsToLocals, Value.category, maxLocals]; done) | rfl) ?_
  intro C H
  refine k_iloadN (pc := 0) H d0_0 rfl ?_
  refine k_ldcI (v := (2147483632 : Int32)) (pc := 1) H (wd hw 0 rfl) d0_1 ?_
  refine k_invS (y := (⟨"java/lang/Math", "min", "(II)I"⟩ : MethodName)) (st := []) [(.int d0), (.int (2147483632 : Int32))] 0 (pc := 3) H (wd hw 1 rfl) (wd hw 2 rfl) (wd hw 3 rfl) (wd hw 4 rfl) (by decide) (fun z0 => rm1 l Z a0 hw n0 h0 z0 d0 (2147483632 : Int32)) (lenOf pd_0 rfl) d0_3 rfl rfl rfl (by decide) (by decide) (by decide) (by decide) ?_
  rintro v hx ⟨rfl, ex⟩
  rw [ex]
  clear ex hx
  show W l room_1 C _ h0 0 0 6 #[.val (.int d0), .val (.int gp), .val (.int qa), .val (.int qb), .val (.int pb), .val (.int nn), .unset, .unset, .unset, .unset, .unset, .unset, .unset, .unset, .unset, .unset, .unset, .unset, .unset, .unset, .unset] [(.int (if (2147483632 : Int32) < d0 then (2147483632 : Int32) else d0))]
  generalize hv_D0 : (if (2147483632 : Int32) < d0 then (2147483632 : Int32) else d0) = D0
  refine k_istore (pc := 6) H d0_6 (Ls' := #[.val (.int d0), .val (.int gp), .val (.int qa), .val (.int qb), .val (.int pb), .val (.int nn), .val (.int D0), .unset, .unset, .unset, .unset, .unset, .unset, .unset, .unset, .unset, .unset, .unset, .unset, .unset, .unset]) rfl ?_
  refine k_iconst (1 : Int32) (pc := 8) H d0_8 rfl ?_
  refine k_iload (pc := 9) H d0_9 rfl ?_
  refine k_ldcI (v := (2147483647 : Int32)) (pc := 11) H (wd hw 5 rfl) d0_11 ?_
  refine k_iand (pc := 13) H d0_13 ?_
  refine k_iconst (5 : Int32) (pc := 14) H d0_14 rfl ?_
  refine k_irem (pc := 15) H d0_15 (by decide) ?_
  refine k_iadd (pc := 16) H d0_16 ?_
  generalize hv_ni : ((1 : Int32) + ((nn &&& (2147483647 : Int32)) % (5 : Int32))) = ni
  refine k_istore (pc := 17) H d0_17 (Ls' := #[.val (.int d0), .val (.int gp), .val (.int qa), .val (.int qb), .val (.int pb), .val (.int nn), .val (.int D0), .val (.int ni), .unset, .unset, .unset, .unset, .unset, .unset, .unset, .unset, .unset, .unset, .unset, .unset, .unset]) rfl ?_
  refine k_iload (pc := 19) H d0_19 rfl ?_
  refine k_istore (pc := 21) H d0_21 (Ls' := #[.val (.int d0), .val (.int gp), .val (.int qa), .val (.int qb), .val (.int pb), .val (.int nn), .val (.int D0), .val (.int ni), .val (.int D0), .unset, .unset, .unset, .unset, .unset, .unset, .unset, .unset, .unset, .unset, .unset, .unset]) rfl ?_
  refine k_iload (pc := 23) H d0_23 rfl ?_
  refine k_iloadN (pc := 25) H d0_25 rfl ?_
  refine k_iconst (3 : Int32) (pc := 26) H d0_26 rfl ?_
  refine k_iand (pc := 27) H d0_27 ?_
  refine k_iadd (pc := 28) H d0_28 ?_
  generalize hv_D1 : (D0 + (gp &&& (3 : Int32))) = D1
  refine k_istore (pc := 29) H d0_29 (Ls' := #[.val (.int d0), .val (.int gp), .val (.int qa), .val (.int qb), .val (.int pb), .val (.int nn), .val (.int D0), .val (.int ni), .val (.int D0), .val (.int D1), .unset, .unset, .unset, .unset, .unset, .unset, .unset, .unset, .unset, .unset, .unset]) rfl ?_
  refine k_iload (pc := 31) H d0_31 rfl ?_
  refine k_iloadN (pc := 33) H d0_33 rfl ?_
  refine k_iconst (2 : Int32) (pc := 34) H d0_34 rfl ?_
  refine k_iushr (pc := 35) H d0_35 ?_
  refine k_iconst (3 : Int32) (pc := 36) H d0_36 rfl ?_
  refine k_iand (pc := 37) H d0_37 ?_
  refine k_iadd (pc := 38) H d0_38 ?_
  generalize hv_D2 : (D1 + ((XT.ushr gp (2 : Int32)) &&& (3 : Int32))) = D2
  refine k_istore (pc := 39) H d0_39 (Ls' := #[.val (.int d0), .val (.int gp), .val (.int qa), .val (.int qb), .val (.int pb), .val (.int nn), .val (.int D0), .val (.int ni), .val (.int D0), .val (.int D1), .val (.int D2), .unset, .unset, .unset, .unset, .unset, .unset, .unset, .unset, .unset, .unset]) rfl ?_
  refine k_iload (pc := 41) H d0_41 rfl ?_
  refine k_iloadN (pc := 43) H d0_43 rfl ?_
  refine k_iconst (4 : Int32) (pc := 44) H d0_44 rfl ?_
  refine k_iushr (pc := 45) H d0_45 ?_
  refine k_iconst (3 : Int32) (pc := 46) H d0_46 rfl ?_
  refine k_iand (pc := 47) H d0_47 ?_
  refine k_iadd (pc := 48) H d0_48 ?_
  generalize hv_D3 : (D2 + ((XT.ushr gp (4 : Int32)) &&& (3 : Int32))) = D3
  refine k_istore (pc := 49) H d0_49 (Ls' := #[.val (.int d0), .val (.int gp), .val (.int qa), .val (.int qb), .val (.int pb), .val (.int nn), .val (.int D0), .val (.int ni), .val (.int D0), .val (.int D1), .val (.int D2), .val (.int D3), .unset, .unset, .unset, .unset, .unset, .unset, .unset, .unset, .unset]) rfl ?_
  refine k_iload (pc := 51) H d0_51 rfl ?_
  refine k_iloadN (pc := 53) H d0_53 rfl ?_
  refine k_bipush (6 : Int32) (pc := 54) H d0_54 rfl ?_
  refine k_iushr (pc := 56) H d0_56 ?_
  refine k_iconst (3 : Int32) (pc := 57) H d0_57 rfl ?_
  refine k_iand (pc := 58) H d0_58 ?_
  refine k_iadd (pc := 59) H d0_59 ?_
  generalize hv_D4 : (D3 + ((XT.ushr gp (6 : Int32)) &&& (3 : Int32))) = D4
  refine k_istore (pc := 60) H d0_60 (Ls' := #[.val (.int d0), .val (.int gp), .val (.int qa), .val (.int qb), .val (.int pb), .val (.int nn), .val (.int D0), .val (.int ni), .val (.int D0), .val (.int D1), .val (.int D2), .val (.int D3), .val (.int D4), .unset, .unset, .unset, .unset, .unset, .unset, .unset, .unset]) rfl ?_
  refine k_iloadN (pc := 62) H d0_62 rfl ?_
  refine k_istore (pc := 63) H d0_63 (Ls' := #[.val (.int d0), .val (.int gp), .val (.int qa), .val (.int qb), .val (.int pb), .val (.int nn), .val (.int D0), .val (.int ni), .val (.int D0), .val (.int D1), .val (.int D2), .val (.int D3), .val (.int D4), .val (.int qa), .unset, .unset, .unset, .unset, .unset, .unset, .unset]) rfl ?_
  refine k_iloadN (pc := 65) H d0_65 rfl ?_
  refine k_istore (pc := 66) H d0_66 (Ls' := #[.val (.int d0), .val (.int gp), .val (.int qa), .val (.int qb), .val (.int pb), .val (.int nn), .val (.int D0), .val (.int ni), .val (.int D0), .val (.int D1), .val (.int D2), .val (.int D3), .val (.int D4), .val (.int qa), .val (.int qb), .unset, .unset, .unset, .unset, .unset, .unset]) rfl ?_
  refine k_iloadN (pc := 68) H d0_68 rfl ?_
  refine k_iconst (-1 : Int32) (pc := 69) H d0_69 rfl ?_
  refine k_ixor (pc := 70) H d0_70 ?_
  refine k_istore (pc := 71) H d0_71 (Ls' := #[.val (.int d0), .val (.int gp), .val (.int qa), .val (.int qb), .val (.int pb), .val (.int nn), .val (.int D0), .val (.int ni), .val (.int D0), .val (.int D1), .val (.int D2), .val (.int D3), .val (.int D4), .val (.int qa), .val (.int qb), .val (.int (qa ^^^ (-1 : Int32))), .unset, .unset, .unset, .unset, .unset]) rfl ?_
  refine k_iloadN (pc := 73) H d0_73 rfl ?_
  refine k_iconst (-1 : Int32) (pc := 74) H d0_74 rfl ?_
  refine k_ixor (pc := 75) H d0_75 ?_
  refine k_istore (pc := 76) H d0_76 (Ls' := #[.val (.int d0), .val (.int gp), .val (.int qa), .val (.int qb), .val (.int pb), .val (.int nn), .val (.int D0), .val (.int ni), .val (.int D0), .val (.int D1), .val (.int D2), .val (.int D3), .val (.int D4), .val (.int qa), .val (.int qb), .val (.int (qa ^^^ (-1 : Int32))), .val (.int (qb ^^^ (-1 : Int32))), .unset, .unset, .unset, .unset]) rfl ?_
  refine k_iloadN (pc := 78) H d0_78 rfl ?_
  refine k_iloadN (pc := 79) H d0_79 rfl ?_
  refine k_iadd (pc := 80) H d0_80 ?_
  refine k_istore (pc := 81) H d0_81 (Ls' := #[.val (.int d0), .val (.int gp), .val (.int qa), .val (.int qb), .val (.int pb), .val (.int nn), .val (.int D0), .val (.int ni), .val (.int D0), .val (.int D1), .val (.int D2), .val (.int D3), .val (.int D4), .val (.int qa), .val (.int qb), .val (.int (qa ^^^ (-1 : Int32))), .val (.int (qb ^^^ (-1 : Int32))), .val (.int (qa + qb)), .unset, .unset, .unset]) rfl ?_
  have b0 : D0.toInt ≤ 2147483632 := own_min hv_D0 rfl
  obtain ⟨m0, hm0, lm0⟩ := mask_nat gp 3 2 (by decide) (by decide)
  obtain ⟨s1, b1', u1⟩ := own_inc (B := 2147483632) hv_D1 hm0 b0 (by omega)
  have b1 : D1.toInt ≤ 2147483635 := by omega
  obtain ⟨m1, hm1, lm1⟩ := mask_nat (XT.ushr gp 2) 3 2 (by decide) (by decide)
  obtain ⟨s2, b2', u2⟩ := own_inc (B := 2147483635) hv_D2 hm1 b1 (by omega)
  have b2 : D2.toInt ≤ 2147483638 := by omega
  obtain ⟨m2, hm2, lm2⟩ := mask_nat (XT.ushr gp 4) 3 2 (by decide) (by decide)
  obtain ⟨s3, b3', u3⟩ := own_inc (B := 2147483638) hv_D3 hm2 b2 (by omega)
  have b3 : D3.toInt ≤ 2147483641 := by omega
  obtain ⟨m3, hm3, lm3⟩ := mask_nat (XT.ushr gp 6) 3 2 (by decide) (by decide)
  obtain ⟨s4, b4', u4⟩ := own_inc (B := 2147483641) hv_D4 hm3 b3 (by omega)
  have b4 : D4.toInt ≤ 2147483644 := by omega
  obtain ⟨n5, hn5, ln5⟩ := mod_nat nn 2147483647 5 31 5 (by decide) (by decide) rfl (by decide)
  obtain ⟨kk, hkk, hk1, hk5⟩ : ∃ n : Nat, ni.toInt = (n : Int) ∧ 1 ≤ n ∧ n ≤ 5 := ⟨1 + n5, by rw [← hv_ni]; exact add_nat rfl hn5 (by omega), by omega, by omega⟩
  refine k_newObj (pc := 83) H (wd hw 6 rfl) (wd hw 7 rfl) (wd hw 8 rfl) d0_83 (by decide) (by decide) ?_
  intro h131 hA ea132 ge133 E134 X135 D136
  have f137 : Fld Z h131 hA "com/example/hesabu/hesabu/billing/HeldLicences" "days" "[I" .null := D136 (Or.inl (wd hw 17 rfl)) (ty := (.array .int)) (by decide)
  have f138 : Fld Z h131 hA "com/example/hesabu/hesabu/billing/HeldLicences" "quantities" "[I" .null := D136 (Or.inl (wd hw 19 rfl)) (ty := (.array .int)) (by decide)
  have f139 : Fld Z h131 hA "com/example/hesabu/hesabu/billing/HeldLicences" "count" "I" (.int (0 : Int32)) := D136 (Or.inl (wd hw 26 rfl)) (ty := .int) (by decide)
  refine k_dup (pc := 86) H d0_86 rfl ?_
  have gH : n0 ≤ hA := ge133
  refine k_invI (y := (⟨"com/example/hesabu/hesabu/billing/HeldLicences", "<init>", "()V"⟩ : MethodName)) (st := [(.ref hA)]) (a := hA) [] 1 (pc := 87) H rfl (wd hw 9 rfl) (wd hw 10 rfl) (wd hw 8 rfl) (wd hw 11 rfl) (by decide) (fun z0 => rm2 l Z a0 hw n0 h131 z0 hA gH X135 f137 f138 f139) (lenOf pd_4 rfl) d0_87 rfl rfl rfl (by decide) (by decide) (by decide) (by decide) ?_
  rintro v hI ⟨rfl, KI, H0⟩
  show W l room_1 C _ hI 3 11 90 #[.val (.int d0), .val (.int gp), .val (.int qa), .val (.int qb), .val (.int pb), .val (.int nn), .val (.int D0), .val (.int ni), .val (.int D0), .val (.int D1), .val (.int D2), .val (.int D3), .val (.int D4), .val (.int qa), .val (.int qb), .val (.int (qa ^^^ (-1 : Int32))), .val (.int (qb ^^^ (-1 : Int32))), .val (.int (qa + qb)), .unset, .unset, .unset] [(.ref hA)]
  refine k_astore (pc := 90) H d0_90 rfl (Ls' := #[.val (.int d0), .val (.int gp), .val (.int qa), .val (.int qb), .val (.int pb), .val (.int nn), .val (.int D0), .val (.int ni), .val (.int D0), .val (.int D1), .val (.int D2), .val (.int D3), .val (.int D4), .val (.int qa), .val (.int qb), .val (.int (qa ^^^ (-1 : Int32))), .val (.int (qb ^^^ (-1 : Int32))), .val (.int (qa + qb)), .val (.ref hA), .unset, .unset]) rfl ?_
  refine k_aload (pc := 92) H d0_92 rfl rfl ?_
  refine k_iload (pc := 94) H d0_94 rfl ?_
  refine k_iload (pc := 96) H d0_96 rfl ?_
  have J161 : ∀ (hh : Heap) (es : List (Int32 × Int32)) (cap : Nat) (T : own_H Z hh n0 hA es cap) (hS : own_S es) (hl1 : 1 ≤ es.length) (hl : es.length ≤ 5) (h00 : own_at es 0 = D0) (hx : ∀ p, ¬ p < D0 → own_lk es p = (own_x kk 5 p D4 (qa + qb) (own_x kk 4 p D3 (qb ^^^ (-1 : Int32)) (own_x kk 3 p D2 (qa ^^^ (-1 : Int32)) (own_x kk 2 p D1 qb qa))))), W l room_1 C (n0, 24, 128, fun v h => v = some (.int 1)) hh 13 91 161 #[.val (.int d0), .val (.int gp), .val (.int qa), .val (.int qb), .val (.int pb), .val (.int nn), .val (.int D0), .val (.int ni), .val (.int D0), .val (.int D1), .val (.int D2), .val (.int D3), .val (.int D4), .val (.int qa), .val (.int qb), .val (.int (qa ^^^ (-1 : Int32))), .val (.int (qb ^^^ (-1 : Int32))), .val (.int (qa + qb)), .val (.ref hA), .unset, .unset] [] := by
    intro hh es cap T hS hl1 hl h00 hx
    obtain ⟨_, _, _, _, _, -, -, -, -, -, X, -⟩ := id T
    have J181 : ∀ (p : Int32) (hp : ¬ p < D0), W l room_1 C (n0, 24, 128, fun v h => v = some (.int 1)) hh 13 91 181 #[.val (.int d0), .val (.int gp), .val (.int qa), .val (.int qb), .val (.int pb), .val (.int nn), .val (.int D0), .val (.int ni), .val (.int D0), .val (.int D1), .val (.int D2), .val (.int D3), .val (.int D4), .val (.int qa), .val (.int qb), .val (.int (qa ^^^ (-1 : Int32))), .val (.int (qb ^^^ (-1 : Int32))), .val (.int (qa + qb)), .val (.ref hA), .unset, .unset] [(.int p)] := by
      intro p hp
      refine k_istore (pc := 181) H d0_181 (Ls' := #[.val (.int d0), .val (.int gp), .val (.int qa), .val (.int qb), .val (.int pb), .val (.int nn), .val (.int D0), .val (.int ni), .val (.int D0), .val (.int D1), .val (.int D2), .val (.int D3), .val (.int D4), .val (.int qa), .val (.int qb), .val (.int (qa ^^^ (-1 : Int32))), .val (.int (qb ^^^ (-1 : Int32))), .val (.int (qa + qb)), .val (.ref hA), .val (.int p), .unset]) rfl ?_
      refine k_iload (pc := 183) H d0_183 rfl ?_
      refine k_istore (pc := 185) H d0_185 (Ls' := #[.val (.int d0), .val (.int gp), .val (.int qa), .val (.int qb), .val (.int pb), .val (.int nn), .val (.int D0), .val (.int ni), .val (.int D0), .val (.int D1), .val (.int D2), .val (.int D3), .val (.int D4), .val (.int qa), .val (.int qb), .val (.int (qa ^^^ (-1 : Int32))), .val (.int (qb ^^^ (-1 : Int32))), .val (.int (qa + qb)), .val (.ref hA), .val (.int p), .val (.int qa)]) rfl ?_
      refine k_iload (pc := 187) H d0_187 rfl ?_
      refine k_iconst (2 : Int32) (pc := 189) H d0_189 rfl ?_
      have E255 : ∀ (z : Int32) (hz : z = (own_x kk 5 p D4 (qa + qb) (own_x kk 4 p D3 (qb ^^^ (-1 : Int32)) (own_x kk 3 p D2 (qa ^^^ (-1 : Int32)) (own_x kk 2 p D1 qb qa))))), W l room_1 C (n0, 24, 128, fun v h => v = some (.int 1)) hh 13 91 255 #[.val (.int d0), .val (.int gp), .val (.int qa), .val (.int qb), .val (.int pb), .val (.int nn), .val (.int D0), .val (.int ni), .val (.int D0), .val (.int D1), .val (.int D2), .val (.int D3), .val (.int D4), .val (.int qa), .val (.int qb), .val (.int (qa ^^^ (-1 : Int32))), .val (.int (qb ^^^ (-1 : Int32))), .val (.int (qa + qb)), .val (.ref hA), .val (.int p), .val (.int z)] [] := by
        intro z hz
        refine k_aload (pc := 255) H d0_255 rfl rfl ?_
        refine k_iload (pc := 257) H d0_257 rfl ?_
        refine k_invV (y := (⟨"com/example/hesabu/hesabu/billing/HeldLicences", "heldOn", "(I)I"⟩ : MethodName)) (st := []) (a := hA) [(.int p)] 0 (pc := 259) H (wd hw 27 rfl) (wd hw 28 rfl) (wd hw 30 rfl) (wd hw 29 rfl) (wd hw 8 rfl) (wd hw 31 rfl) rfl (by decide) X (fun z0 => rm5 l Z a0 hw n0 hh z0 hA es cap p T hS (by omega) hl1 (by rw [h00]; exact hp)) (lenOf pd_3 rfl) d0_259 rfl rfl rfl (by decide) (by decide) (by decide) (by decide) ?_
        rintro v hx ⟨rfl, ex⟩
        rw [ex]
        clear ex hx
        show W l room_1 C _ hh 13 91 262 #[.val (.int d0), .val (.int gp), .val (.int qa), .val (.int qb), .val (.int pb), .val (.int nn), .val (.int D0), .val (.int ni), .val (.int D0), .val (.int D1), .val (.int D2), .val (.int D3), .val (.int D4), .val (.int qa), .val (.int qb), .val (.int (qa ^^^ (-1 : Int32))), .val (.int (qb ^^^ (-1 : Int32))), .val (.int (qa + qb)), .val (.ref hA), .val (.int p), .val (.int z)] [(.int (own_lk es p))]
        refine k_iload (pc := 262) H d0_262 rfl ?_
        refine k_icmpF (pc := 264) H d0_264 (XT.ii_ne_f (by rw [hz]; exact hx p hp)) ?_
        refine k_iconst (1 : Int32) (pc := 267) H d0_267 rfl ?_
        refine k_goto 272 (pc := 268) H d0_268 rfl ?_
        exact k_retN' (t := .boolean) (by simp) (pc := 272) H d0_272 (by show 13 ≤ 24; decide) (by show 91 ≤ 128; decide) (rfl)
      have E238 : ∀ (z : Int32) (hz : z = (own_x kk 4 p D3 (qb ^^^ (-1 : Int32)) (own_x kk 3 p D2 (qa ^^^ (-1 : Int32)) (own_x kk 2 p D1 qb qa)))), W l room_1 C (n0, 24, 128, fun v h => v = some (.int 1)) hh 13 91 238 #[.val (.int d0), .val (.int gp), .val (.int qa), .val (.int qb), .val (.int pb), .val (.int nn), .val (.int D0), .val (.int ni), .val (.int D0), .val (.int D1), .val (.int D2), .val (.int D3), .val (.int D4), .val (.int qa), .val (.int qb), .val (.int (qa ^^^ (-1 : Int32))), .val (.int (qb ^^^ (-1 : Int32))), .val (.int (qa + qb)), .val (.ref hA), .val (.int p), .val (.int z)] [] := by
        intro z hz
        refine k_iload (pc := 238) H d0_238 rfl ?_
        refine k_iconst (5 : Int32) (pc := 240) H d0_240 rfl ?_
        have qk := lt_nat (y := 5) (j := 5) hkk rfl
        refine k_icmp (P := ni < (5 : Int32)) 255 (pc := 241) H d0_241 rfl XT.ii_lt_t XT.ii_lt_f (fun c1 => ?_) (fun c1 => ?_)
        · exact E255 _ (by rw [own_x_no (i := 5) (by have := qk.mp c1; omega)]; exact hz)
        · refine k_iload (pc := 244) H d0_244 rfl ?_
          refine k_iload (pc := 246) H d0_246 rfl ?_
          refine k_icmp (P := p < D4) 255 (pc := 248) H d0_248 rfl XT.ii_gt_t XT.ii_gt_f (fun c2 => ?_) (fun c2 => ?_)
          · exact E255 _ (by rw [own_x_lt (D := D4) c2]; exact hz)
          · refine k_iload (pc := 251) H d0_251 rfl ?_
            refine k_istore (pc := 253) H d0_253 (Ls' := #[.val (.int d0), .val (.int gp), .val (.int qa), .val (.int qb), .val (.int pb), .val (.int nn), .val (.int D0), .val (.int ni), .val (.int D0), .val (.int D1), .val (.int D2), .val (.int D3), .val (.int D4), .val (.int qa), .val (.int qb), .val (.int (qa ^^^ (-1 : Int32))), .val (.int (qb ^^^ (-1 : Int32))), .val (.int (qa + qb)), .val (.ref hA), .val (.int p), .val (.int (qa + qb))]) rfl ?_
            exact E255 _ (by rw [own_x_yes (i := 5) (D := D4) (by have : ¬ kk < 5 := fun z => c1 (qk.mpr z); omega) c2])
      have E221 : ∀ (z : Int32) (hz : z = (own_x kk 3 p D2 (qa ^^^ (-1 : Int32)) (own_x kk 2 p D1 qb qa))), W l room_1 C (n0, 24, 128, fun v h => v = some (.int 1)) hh 13 91 221 #[.val (.int d0), .val (.int gp), .val (.int qa), .val (.int qb), .val (.int pb), .val (.int nn), .val (.int D0), .val (.int ni), .val (.int D0), .val (.int D1), .val (.int D2), .val (.int D3), .val (.int D4), .val (.int qa), .val (.int qb), .val (.int (qa ^^^ (-1 : Int32))), .val (.int (qb ^^^ (-1 : Int32))), .val (.int (qa + qb)), .val (.ref hA), .val (.int p), .val (.int z)] [] := by
        intro z hz
        refine k_iload (pc := 221) H d0_221 rfl ?_
        refine k_iconst (4 : Int32) (pc := 223) H d0_223 rfl ?_
        have qk := lt_nat (y := 4) (j := 4) hkk rfl
        refine k_icmp (P := ni < (4 : Int32)) 238 (pc := 224) H d0_224 rfl XT.ii_lt_t XT.ii_lt_f (fun c1 => ?_) (fun c1 => ?_)
        · exact E238 _ (by rw [own_x_no (i := 4) (by have := qk.mp c1; omega)]; exact hz)
        · refine k_iload (pc := 227) H d0_227 rfl ?_
          refine k_iload (pc := 229) H d0_229 rfl ?_
          refine k_icmp (P := p < D3) 238 (pc := 231) H d0_231 rfl XT.ii_gt_t XT.ii_gt_f (fun c2 => ?_) (fun c2 => ?_)
          · exact E238 _ (by rw [own_x_lt (D := D3) c2]; exact hz)
          · refine k_iload (pc := 234) H d0_234 rfl ?_
            refine k_istore (pc := 236) H d0_236 (Ls' := #[.val (.int d0), .val (.int gp), .val (.int qa), .val (.int qb), .val (.int pb), .val (.int nn), .val (.int D0), .val (.int ni), .val (.int D0), .val (.int D1), .val (.int D2), .val (.int D3), .val (.int D4), .val (.int qa), .val (.int qb), .val (.int (qa ^^^ (-1 : Int32))), .val (.int (qb ^^^ (-1 : Int32))), .val (.int (qa + qb)), .val (.ref hA), .val (.int p), .val (.int (qb ^^^ (-1 : Int32)))]) rfl ?_
            exact E238 _ (by rw [own_x_yes (i := 4) (D := D3) (by have : ¬ kk < 4 := fun z => c1 (qk.mpr z); omega) c2])
      have E204 : ∀ (z : Int32) (hz : z = (own_x kk 2 p D1 qb qa)), W l room_1 C (n0, 24, 128, fun v h => v = some (.int 1)) hh 13 91 204 #[.val (.int d0), .val (.int gp), .val (.int qa), .val (.int qb), .val (.int pb), .val (.int nn), .val (.int D0), .val (.int ni), .val (.int D0), .val (.int D1), .val (.int D2), .val (.int D3), .val (.int D4), .val (.int qa), .val (.int qb), .val (.int (qa ^^^ (-1 : Int32))), .val (.int (qb ^^^ (-1 : Int32))), .val (.int (qa + qb)), .val (.ref hA), .val (.int p), .val (.int z)] [] := by
        intro z hz
        refine k_iload (pc := 204) H d0_204 rfl ?_
        refine k_iconst (3 : Int32) (pc := 206) H d0_206 rfl ?_
        have qk := lt_nat (y := 3) (j := 3) hkk rfl
        refine k_icmp (P := ni < (3 : Int32)) 221 (pc := 207) H d0_207 rfl XT.ii_lt_t XT.ii_lt_f (fun c1 => ?_) (fun c1 => ?_)
        · exact E221 _ (by rw [own_x_no (i := 3) (by have := qk.mp c1; omega)]; exact hz)
        · refine k_iload (pc := 210) H d0_210 rfl ?_
          refine k_iload (pc := 212) H d0_212 rfl ?_
          refine k_icmp (P := p < D2) 221 (pc := 214) H d0_214 rfl XT.ii_gt_t XT.ii_gt_f (fun c2 => ?_) (fun c2 => ?_)
          · exact E221 _ (by rw [own_x_lt (D := D2) c2]; exact hz)
          · refine k_iload (pc := 217) H d0_217 rfl ?_
            refine k_istore (pc := 219) H d0_219 (Ls' := #[.val (.int d0), .val (.int gp), .val (.int qa), .val (.int qb), .val (.int pb), .val (.int nn), .val (.int D0), .val (.int ni), .val (.int D0), .val (.int D1), .val (.int D2), .val (.int D3), .val (.int D4), .val (.int qa), .val (.int qb), .val (.int (qa ^^^ (-1 : Int32))), .val (.int (qb ^^^ (-1 : Int32))), .val (.int (qa + qb)), .val (.ref hA), .val (.int p), .val (.int (qa ^^^ (-1 : Int32)))]) rfl ?_
            exact E221 _ (by rw [own_x_yes (i := 3) (D := D2) (by have : ¬ kk < 3 := fun z => c1 (qk.mpr z); omega) c2])
      have qk := lt_nat (y := 2) (j := 2) hkk rfl
      refine k_icmp (P := ni < (2 : Int32)) 204 (pc := 190) H d0_190 rfl XT.ii_lt_t XT.ii_lt_f (fun c1 => ?_) (fun c1 => ?_)
      · exact E204 _ (by rw [own_x_no (i := 2) (by have := qk.mp c1; omega)])
      · refine k_iload (pc := 193) H d0_193 rfl ?_
        refine k_iload (pc := 195) H d0_195 rfl ?_
        refine k_icmp (P := p < D1) 204 (pc := 197) H d0_197 rfl XT.ii_gt_t XT.ii_gt_f (fun c2 => ?_) (fun c2 => ?_)
        · exact E204 _ (by rw [own_x_lt (D := D1) c2])
        · refine k_iload (pc := 200) H d0_200 rfl ?_
          refine k_istore (pc := 202) H d0_202 (Ls' := #[.val (.int d0), .val (.int gp), .val (.int qa), .val (.int qb), .val (.int pb), .val (.int nn), .val (.int D0), .val (.int ni), .val (.int D0), .val (.int D1), .val (.int D2), .val (.int D3), .val (.int D4), .val (.int qa), .val (.int qb), .val (.int (qa ^^^ (-1 : Int32))), .val (.int (qb ^^^ (-1 : Int32))), .val (.int (qa + qb)), .val (.ref hA), .val (.int p), .val (.int qb)]) rfl ?_
          exact E204 _ (by rw [own_x_yes (i := 2) (D := D1) (by have : ¬ kk < 2 := fun z => c1 (qk.mpr z); omega) c2])
    refine k_iload (pc := 161) H d0_161 rfl ?_
    refine k_iload (pc := 163) H d0_163 rfl ?_
    refine k_icmp (P := pb < D0) 173 (pc := 165) H d0_165 rfl XT.ii_lt_t XT.ii_lt_f (fun c0 => ?_) (fun c0 => ?_)
    · refine k_iload (pc := 173) H d0_173 rfl ?_
      refine k_iload (pc := 175) H d0_175 rfl ?_
      refine k_bipush (15 : Int32) (pc := 177) H d0_177 rfl ?_
      refine k_iand (pc := 179) H d0_179 ?_
      refine k_iadd (pc := 180) H d0_180 ?_
      obtain ⟨m9, hm9, lm9⟩ := mask_nat pb 15 4 (by decide) (by decide)
      exact J181 _ (own_inc (B := 2147483632) rfl hm9 b0 (by omega)).1
    · refine k_iload (pc := 168) H d0_168 rfl ?_
      refine k_goto 181 (pc := 170) H d0_170 rfl ?_
      exact J181 _ c0
  obtain ⟨_, _, _, _, _, -, -, -, -, -, X0, -⟩ := id H0
  have srt0 : ∀ fs d' q', ([] : List (Int32 × Int32)) = fs ++ [(d', q')] → ¬ D0 < d' := fun fs d' q' e => by simp at e
  refine k_invV (y := (⟨"com/example/hesabu/hesabu/billing/HeldLicences", "set", "(II)V"⟩ : MethodName)) (st := []) (a := hA) [(.int D0), (.int qa)] 0 (pc := 98) H (wd hw 20 rfl) (wd hw 21 rfl) (wd hw 23 rfl) (wd hw 22 rfl) (wd hw 8 rfl) (wd hw 24 rfl) rfl (by decide) X0 (fun z0 => rm4 l Z a0 hw n0 hI z0 hA [] 4 D0 qa gH H0 (Or.inl rfl) (by decide) srt0) (lenOf pd_5 rfl) d0_98 rfl rfl rfl (by decide) (by decide) (by decide) (by decide) ?_
  rintro v hS0 ⟨rfl, ws0, cap0, K0, hw0, H0', hc0⟩
  show W l room_1 C _ hS0 5 27 101 #[.val (.int d0), .val (.int gp), .val (.int qa), .val (.int qb), .val (.int pb), .val (.int nn), .val (.int D0), .val (.int ni), .val (.int D0), .val (.int D1), .val (.int D2), .val (.int D3), .val (.int D4), .val (.int qa), .val (.int qb), .val (.int (qa ^^^ (-1 : Int32))), .val (.int (qb ^^^ (-1 : Int32))), .val (.int (qa + qb)), .val (.ref hA), .unset, .unset] []
  obtain ⟨hl0, hg0⟩ := own_set_len [] D0 qa
  obtain ⟨fs0, hf0⟩ := own_set_last [] D0 qa
  have hP0 := own_S_set [] D0 qa List.Pairwise.nil srt0
  have hL0 := fun p => own_lk_set [] D0 qa p srt0
  have hZ0 : own_at (own_set [] D0 qa) 0 = D0 := rfl
  generalize own_set [] D0 qa = es0 at hl0 hg0 hf0 H0' hP0 hL0 hZ0
  have ll0 : es0.length ≤ 1 := by simpa using hl0
  have hX0 : ∀ p, ¬ p < D0 → own_lk es0 p = qa := fun p hp => by rw [hL0, if_neg hp]
  refine k_iload (pc := 101) H d0_101 rfl ?_
  refine k_iconst (2 : Int32) (pc := 103) H d0_103 rfl ?_
  refine k_icmp (P := ni < (2 : Int32)) 116 (pc := 104) H d0_104 rfl XT.ii_lt_t XT.ii_lt_f (fun t1 => ?_) (fun t1 => ?_)
  · have hkl := (lt_nat (y := 2) (j := 2) hkk rfl).mp t1
    refine k_iload (pc := 116) H d0_116 rfl ?_
    refine k_iconst (3 : Int32) (pc := 118) H d0_118 rfl ?_
    refine k_icmpT 131 (pc := 119) H d0_119 rfl (XT.ii_lt_t ((lt_nat (y := 3) (j := 3) hkk rfl).mpr (by omega))) ?_
    refine k_iload (pc := 131) H d0_131 rfl ?_
    refine k_iconst (4 : Int32) (pc := 133) H d0_133 rfl ?_
    refine k_icmpT 146 (pc := 134) H d0_134 rfl (XT.ii_lt_t ((lt_nat (y := 4) (j := 4) hkk rfl).mpr (by omega))) ?_
    refine k_iload (pc := 146) H d0_146 rfl ?_
    refine k_iconst (5 : Int32) (pc := 148) H d0_148 rfl ?_
    refine k_icmpT 161 (pc := 149) H d0_149 rfl (XT.ii_lt_t ((lt_nat (y := 5) (j := 5) hkk rfl).mpr (by omega))) ?_
    exact W.more (by decide) (by decide) (J161 _ es0 cap0 H0' hP0 hg0 (by omega) hZ0 (fun p hp => by rw [hX0 p hp, own_x_no (i := 5) (by omega), own_x_no (i := 4) (by omega), own_x_no (i := 3) (by omega), own_x_no (i := 2) (by omega)]))
  · refine k_aload (pc := 107) H d0_107 rfl rfl ?_
    refine k_iload (pc := 109) H d0_109 rfl ?_
    refine k_iload (pc := 111) H d0_111 rfl ?_
    obtain ⟨_, _, _, _, _, -, -, -, -, -, X1, -⟩ := id H0'
    have srt1 : ∀ fs d' q', (es0 : List (Int32 × Int32)) = fs ++ [(d', q')] → ¬ D1 < d' := own_srt hf0 s1
    refine k_invV (y := (⟨"com/example/hesabu/hesabu/billing/HeldLicences", "set", "(II)V"⟩ : MethodName)) (st := []) (a := hA) [(.int D1), (.int qb)] 0 (pc := 113) H (wd hw 20 rfl) (wd hw 21 rfl) (wd hw 23 rfl) (wd hw 22 rfl) (wd hw 8 rfl) (wd hw 24 rfl) rfl (by decide) X1 (fun z0 => rm4 l Z a0 hw n0 hS0 z0 hA es0 cap0 D1 qb gH H0' hc0 (by omega) srt1) (lenOf pd_5 rfl) d0_113 rfl rfl rfl (by decide) (by decide) (by decide) (by decide) ?_
    rintro v hS1 ⟨rfl, ws1, cap1, K1, hw1, H1', hc1⟩
    show W l room_1 C _ hS1 7 43 116 #[.val (.int d0), .val (.int gp), .val (.int qa), .val (.int qb), .val (.int pb), .val (.int nn), .val (.int D0), .val (.int ni), .val (.int D0), .val (.int D1), .val (.int D2), .val (.int D3), .val (.int D4), .val (.int qa), .val (.int qb), .val (.int (qa ^^^ (-1 : Int32))), .val (.int (qb ^^^ (-1 : Int32))), .val (.int (qa + qb)), .val (.ref hA), .unset, .unset] []
    obtain ⟨hl1, hg1⟩ := own_set_len es0 D1 qb
    obtain ⟨fs1, hf1⟩ := own_set_last es0 D1 qb
    have hP1 := own_S_set es0 D1 qb hP0 srt1
    have hL1 := fun p => own_lk_set es0 D1 qb p srt1
    have hZ1 : own_at (own_set es0 D1 qb) 0 = D0 := (own_at_set _ _ (by omega)).trans hZ0
    generalize own_set es0 D1 qb = es1 at hl1 hg1 hf1 H1' hP1 hL1 hZ1
    have ll1 : es1.length ≤ 2 := by omega
    have hX1 : ∀ p, ¬ p < D0 → own_lk es1 p = (own_x kk 2 p D1 qb qa) := fun p hp => by rw [hL1, hX0 p hp, own_x_if (i := 2) (D := D1) (by have : ¬ kk < 2 := fun z => t1 ((lt_nat (y := 2) (j := 2) hkk rfl).mpr z); omega)]
    refine k_iload (pc := 116) H d0_116 rfl ?_
    refine k_iconst (3 : Int32) (pc := 118) H d0_118 rfl ?_
    refine k_icmp (P := ni < (3 : Int32)) 131 (pc := 119) H d0_119 rfl XT.ii_lt_t XT.ii_lt_f (fun t2 => ?_) (fun t2 => ?_)
    · have hkl := (lt_nat (y := 3) (j := 3) hkk rfl).mp t2
      refine k_iload (pc := 131) H d0_131 rfl ?_
      refine k_iconst (4 : Int32) (pc := 133) H d0_133 rfl ?_
      refine k_icmpT 146 (pc := 134) H d0_134 rfl (XT.ii_lt_t ((lt_nat (y := 4) (j := 4) hkk rfl).mpr (by omega))) ?_
      refine k_iload (pc := 146) H d0_146 rfl ?_
      refine k_iconst (5 : Int32) (pc := 148) H d0_148 rfl ?_
      refine k_icmpT 161 (pc := 149) H d0_149 rfl (XT.ii_lt_t ((lt_nat (y := 5) (j := 5) hkk rfl).mpr (by omega))) ?_
      exact W.more (by decide) (by decide) (J161 _ es1 cap1 H1' hP1 hg1 (by omega) hZ1 (fun p hp => by rw [hX1 p hp, own_x_no (i := 5) (by omega), own_x_no (i := 4) (by omega), own_x_no (i := 3) (by omega)]))
    · refine k_aload (pc := 122) H d0_122 rfl rfl ?_
      refine k_iload (pc := 124) H d0_124 rfl ?_
      refine k_iload (pc := 126) H d0_126 rfl ?_
      obtain ⟨_, _, _, _, _, -, -, -, -, -, X2, -⟩ := id H1'
      have srt2 : ∀ fs d' q', (es1 : List (Int32 × Int32)) = fs ++ [(d', q')] → ¬ D2 < d' := own_srt hf1 s2
      refine k_invV (y := (⟨"com/example/hesabu/hesabu/billing/HeldLicences", "set", "(II)V"⟩ : MethodName)) (st := []) (a := hA) [(.int D2), (.int (qa ^^^ (-1 : Int32)))] 0 (pc := 128) H (wd hw 20 rfl) (wd hw 21 rfl) (wd hw 23 rfl) (wd hw 22 rfl) (wd hw 8 rfl) (wd hw 24 rfl) rfl (by decide) X2 (fun z0 => rm4 l Z a0 hw n0 hS1 z0 hA es1 cap1 D2 (qa ^^^ (-1 : Int32)) gH H1' hc1 (by omega) srt2) (lenOf pd_5 rfl) d0_128 rfl rfl rfl (by decide) (by decide) (by decide) (by decide) ?_
      rintro v hS2 ⟨rfl, ws2, cap2, K2, hw2, H2', hc2⟩
      show W l room_1 C _ hS2 9 59 131 #[.val (.int d0), .val (.int gp), .val (.int qa), .val (.int qb), .val (.int pb), .val (.int nn), .val (.int D0), .val (.int ni), .val (.int D0), .val (.int D1), .val (.int D2), .val (.int D3), .val (.int D4), .val (.int qa), .val (.int qb), .val (.int (qa ^^^ (-1 : Int32))), .val (.int (qb ^^^ (-1 : Int32))), .val (.int (qa + qb)), .val (.ref hA), .unset, .unset] []
      obtain ⟨hl2, hg2⟩ := own_set_len es1 D2 (qa ^^^ (-1 : Int32))
      obtain ⟨fs2, hf2⟩ := own_set_last es1 D2 (qa ^^^ (-1 : Int32))
      have hP2 := own_S_set es1 D2 (qa ^^^ (-1 : Int32)) hP1 srt2
      have hL2 := fun p => own_lk_set es1 D2 (qa ^^^ (-1 : Int32)) p srt2
      have hZ2 : own_at (own_set es1 D2 (qa ^^^ (-1 : Int32))) 0 = D0 := (own_at_set _ _ (by omega)).trans hZ1
      generalize own_set es1 D2 (qa ^^^ (-1 : Int32)) = es2 at hl2 hg2 hf2 H2' hP2 hL2 hZ2
      have ll2 : es2.length ≤ 3 := by omega
      have hX2 : ∀ p, ¬ p < D0 → own_lk es2 p = (own_x kk 3 p D2 (qa ^^^ (-1 : Int32)) (own_x kk 2 p D1 qb qa)) := fun p hp => by rw [hL2, hX1 p hp, own_x_if (i := 3) (D := D2) (by have : ¬ kk < 3 := fun z => t2 ((lt_nat (y := 3) (j := 3) hkk rfl).mpr z); omega)]
      refine k_iload (pc := 131) H d0_131 rfl ?_
      refine k_iconst (4 : Int32) (pc := 133) H d0_133 rfl ?_
      refine k_icmp (P := ni < (4 : Int32)) 146 (pc := 134) H d0_134 rfl XT.ii_lt_t XT.ii_lt_f (fun t3 => ?_) (fun t3 => ?_)
      · have hkl := (lt_nat (y := 4) (j := 4) hkk rfl).mp t3
        refine k_iload (pc := 146) H d0_146 rfl ?_
        refine k_iconst (5 : Int32) (pc := 148) H d0_148 rfl ?_
        refine k_icmpT 161 (pc := 149) H d0_149 rfl (XT.ii_lt_t ((lt_nat (y := 5) (j := 5) hkk rfl).mpr (by omega))) ?_
        exact W.more (by decide) (by decide) (J161 _ es2 cap2 H2' hP2 hg2 (by omega) hZ2 (fun p hp => by rw [hX2 p hp, own_x_no (i := 5) (by omega), own_x_no (i := 4) (by omega)]))
      · refine k_aload (pc := 137) H d0_137 rfl rfl ?_
        refine k_iload (pc := 139) H d0_139 rfl ?_
        refine k_iload (pc := 141) H d0_141 rfl ?_
        obtain ⟨_, _, _, _, _, -, -, -, -, -, X3, -⟩ := id H2'
        have srt3 : ∀ fs d' q', (es2 : List (Int32 × Int32)) = fs ++ [(d', q')] → ¬ D3 < d' := own_srt hf2 s3
        refine k_invV (y := (⟨"com/example/hesabu/hesabu/billing/HeldLicences", "set", "(II)V"⟩ : MethodName)) (st := []) (a := hA) [(.int D3), (.int (qb ^^^ (-1 : Int32)))] 0 (pc := 143) H (wd hw 20 rfl) (wd hw 21 rfl) (wd hw 23 rfl) (wd hw 22 rfl) (wd hw 8 rfl) (wd hw 24 rfl) rfl (by decide) X3 (fun z0 => rm4 l Z a0 hw n0 hS2 z0 hA es2 cap2 D3 (qb ^^^ (-1 : Int32)) gH H2' hc2 (by omega) srt3) (lenOf pd_5 rfl) d0_143 rfl rfl rfl (by decide) (by decide) (by decide) (by decide) ?_
        rintro v hS3 ⟨rfl, ws3, cap3, K3, hw3, H3', hc3⟩
        show W l room_1 C _ hS3 11 75 146 #[.val (.int d0), .val (.int gp), .val (.int qa), .val (.int qb), .val (.int pb), .val (.int nn), .val (.int D0), .val (.int ni), .val (.int D0), .val (.int D1), .val (.int D2), .val (.int D3), .val (.int D4), .val (.int qa), .val (.int qb), .val (.int (qa ^^^ (-1 : Int32))), .val (.int (qb ^^^ (-1 : Int32))), .val (.int (qa + qb)), .val (.ref hA), .unset, .unset] []
        obtain ⟨hl3, hg3⟩ := own_set_len es2 D3 (qb ^^^ (-1 : Int32))
        obtain ⟨fs3, hf3⟩ := own_set_last es2 D3 (qb ^^^ (-1 : Int32))
        have hP3 := own_S_set es2 D3 (qb ^^^ (-1 : Int32)) hP2 srt3
        have hL3 := fun p => own_lk_set es2 D3 (qb ^^^ (-1 : Int32)) p srt3
        have hZ3 : own_at (own_set es2 D3 (qb ^^^ (-1 : Int32))) 0 = D0 := (own_at_set _ _ (by omega)).trans hZ2
        generalize own_set es2 D3 (qb ^^^ (-1 : Int32)) = es3 at hl3 hg3 hf3 H3' hP3 hL3 hZ3
        have ll3 : es3.length ≤ 4 := by omega
        have hX3 : ∀ p, ¬ p < D0 → own_lk es3 p = (own_x kk 4 p D3 (qb ^^^ (-1 : Int32)) (own_x kk 3 p D2 (qa ^^^ (-1 : Int32)) (own_x kk 2 p D1 qb qa))) := fun p hp => by rw [hL3, hX2 p hp, own_x_if (i := 4) (D := D3) (by have : ¬ kk < 4 := fun z => t3 ((lt_nat (y := 4) (j := 4) hkk rfl).mpr z); omega)]
        refine k_iload (pc := 146) H d0_146 rfl ?_
        refine k_iconst (5 : Int32) (pc := 148) H d0_148 rfl ?_
        refine k_icmp (P := ni < (5 : Int32)) 161 (pc := 149) H d0_149 rfl XT.ii_lt_t XT.ii_lt_f (fun t4 => ?_) (fun t4 => ?_)
        · have hkl := (lt_nat (y := 5) (j := 5) hkk rfl).mp t4
          exact W.more (by decide) (by decide) (J161 _ es3 cap3 H3' hP3 hg3 (by omega) hZ3 (fun p hp => by rw [hX3 p hp, own_x_no (i := 5) (by omega)]))
        · refine k_aload (pc := 152) H d0_152 rfl rfl ?_
          refine k_iload (pc := 154) H d0_154 rfl ?_
          refine k_iload (pc := 156) H d0_156 rfl ?_
          obtain ⟨_, _, _, _, _, -, -, -, -, -, X4, -⟩ := id H3'
          have srt4 : ∀ fs d' q', (es3 : List (Int32 × Int32)) = fs ++ [(d', q')] → ¬ D4 < d' := own_srt hf3 s4
          refine k_invV (y := (⟨"com/example/hesabu/hesabu/billing/HeldLicences", "set", "(II)V"⟩ : MethodName)) (st := []) (a := hA) [(.int D4), (.int (qa + qb))] 0 (pc := 158) H (wd hw 20 rfl) (wd hw 21 rfl) (wd hw 23 rfl) (wd hw 22 rfl) (wd hw 8 rfl) (wd hw 24 rfl) rfl (by decide) X4 (fun z0 => rm4 l Z a0 hw n0 hS3 z0 hA es3 cap3 D4 (qa + qb) gH H3' hc3 (by omega) srt4) (lenOf pd_5 rfl) d0_158 rfl rfl rfl (by decide) (by decide) (by decide) (by decide) ?_
          rintro v hS4 ⟨rfl, ws4, cap4, K4, hw4, H4', hc4⟩
          show W l room_1 C _ hS4 13 91 161 #[.val (.int d0), .val (.int gp), .val (.int qa), .val (.int qb), .val (.int pb), .val (.int nn), .val (.int D0), .val (.int ni), .val (.int D0), .val (.int D1), .val (.int D2), .val (.int D3), .val (.int D4), .val (.int qa), .val (.int qb), .val (.int (qa ^^^ (-1 : Int32))), .val (.int (qb ^^^ (-1 : Int32))), .val (.int (qa + qb)), .val (.ref hA), .unset, .unset] []
          obtain ⟨hl4, hg4⟩ := own_set_len es3 D4 (qa + qb)
          obtain ⟨fs4, hf4⟩ := own_set_last es3 D4 (qa + qb)
          have hP4 := own_S_set es3 D4 (qa + qb) hP3 srt4
          have hL4 := fun p => own_lk_set es3 D4 (qa + qb) p srt4
          have hZ4 : own_at (own_set es3 D4 (qa + qb)) 0 = D0 := (own_at_set _ _ (by omega)).trans hZ3
          generalize own_set es3 D4 (qa + qb) = es4 at hl4 hg4 hf4 H4' hP4 hL4 hZ4
          have ll4 : es4.length ≤ 5 := by omega
          have hX4 : ∀ p, ¬ p < D0 → own_lk es4 p = (own_x kk 5 p D4 (qa + qb) (own_x kk 4 p D3 (qb ^^^ (-1 : Int32)) (own_x kk 3 p D2 (qa ^^^ (-1 : Int32)) (own_x kk 2 p D1 qb qa)))) := fun p hp => by rw [hL4, hX3 p hp, own_x_if (i := 5) (D := D4) (by have : ¬ kk < 5 := fun z => t4 ((lt_nat (y := 5) (j := 5) hkk rfl).mpr z); omega)]
          exact W.more (by decide) (by decide) (J161 _ es4 cap4 H4' hP4 hg4 (by omega) hZ4 (hX4))
set_option maxRecDepth 65536 in
set_option maxHeartbeats 40000000 in
theorem comes_1 {Post : Tables → Env → Array Value → State → Outcome → State → Prop} (hpost : ∀ tb e args s v u, (limb_1_1.after args s (.returned v) u = true ∧ limb_1_2.after args s (.returned v) u = true ∧ True) → FrameEnd s (.returned v) u (Jvm.fieldLocs frame_1_writes args s ++ Jvm.arrayLocs frame_1_arrays args s ++ Jvm.staticLocs frame_1_statics s) 24 128 → Post tb e args s (.returned v) u) :
    ArmFor flags0 classFile x code maxLocals ret World_1 tables_1 room_1 Calls_1 rest_1 Pre_1 Post := by
  intro l hfl _ _ p e ha hc hk s m args below hf hA hF happ hP
  obtain ⟨hcalls, hrest, hpre⟩ := hP
  obtain ⟨-, -, -, hnamed, -, -, -, hat⟩ := (Spec.applies_iff hf).mp happ
  obtain ⟨hg, hn⟩ := and_e (Cond.before_iff.mp (show (Jvm.Cond.and given_1 narrow_1).before args s = true from hpre))
  obtain ⟨hcnt, g0⟩ := and_e hg
  obtain ⟨q0, g1⟩ := and_e g0
  obtain ⟨q1, g2⟩ := and_e g1
  obtain ⟨q2, g3⟩ := and_e g2
  obtain ⟨q3, g4⟩ := and_e g3
  obtain ⟨q4, g5⟩ := and_e g4
  obtain ⟨w0, w1, w2, w3, w4, w5, rfl⟩ : ∃ w0 w1 w2 w3 w4 w5 : Value, args = #[w0, w1, w2, w3, w4, w5] := by
    have hs : args.size = 6 := by simpa [Cond.value, given_1] using hcnt
    obtain ⟨L⟩ := args
    match L, hs with
    | [w0, w1, w2, w3, w4, w5], _ => exact ⟨w0, w1, w2, w3, w4, w5, rfl⟩
  have hw := fun d (hd : d ∈ tables_1) => atoms_spec (ws := Jvm.Cond.code x code maxLocals ret :: tables_1) hat d (List.mem_cons_of_mem _ hd)
  obtain ⟨i0, e0⟩ := is_v q0
  obtain rfl : w0 = (.int i0) := Option.some.inj e0
  obtain ⟨i1, e1⟩ := is_v q1
  obtain rfl : w1 = (.int i1) := Option.some.inj e1
  obtain ⟨i2, e2⟩ := is_v q2
  obtain rfl : w2 = (.int i2) := Option.some.inj e2
  obtain ⟨i3, e3⟩ := is_v q3
  obtain rfl : w3 = (.int i3) := Option.some.inj e3
  obtain ⟨i4, e4⟩ := is_v q4
  obtain rfl : w4 = (.int i4) := Option.some.inj e4
  obtain ⟨i5, e5⟩ := is_v g5
  obtain rfl : w5 = (.int i5) := Option.some.inj e5
  obtain ⟨n, o, h1, h2, h3, _, L, rfl, ⟨rfl, N⟩, hq⟩ := rm0 l s _ hw tables_1 s.heap.size s.heap (Nat.le_refl _) i0 i1 i2 i3 i4 i5  p e ha hc hk s m _ below hf ((Spec.applies_iff_loose hf).mp happ).1 ⟨rfl, State.Warmed39.refl s, rfl⟩ trivial
  refine ⟨n, _, h1, h2, h3, hpost _ _ _ _ _ _ ⟨Cond.after_iff.mpr rfl, Cond.after_iff.mpr (eq_i res_at (Term.int_eval (1)) rfl), trivial⟩ ⟨hq.1, hq.2.1, (hq.2.2.sift fun y hy => Or.inr (N y hy)).mono (by decide) (by decide)⟩⟩
theorem main_1_1 : Claimed_1_1 := comes_1 fun _ _ _ _ _ _ h hF => ⟨h.1, hF⟩
theorem main_1_2 : Claimed_1_2 := comes_1 fun _ _ _ _ _ _ h hF => ⟨h.2.1, hF⟩
end Jvm.Pilot.@@N@@
namespace Jvm.Pilot.@@N@@
open Jvm Jvm.ClassFile Sem Op Lib Jvm.Free Jvm.Stand Jvm.Pilot.@@N@@.Jvm.D
/-! MADE BY PROGRAM (witnessworld.py) out of the Statement's table words and the real class files: 12 classes; the members and pool entries that the words name. The judged class is class 1, her method 1. -/
namespace start1
open Jvm.ClassFile
def u (s : String) : CpInfo := .utf8 (stringToUtf16 s)
/-- a pool by its gaps: so many unusable entries, then the entry; so many at the end -/
def gap : Nat → List CpInfo → List CpInfo
  | 0, r => r
  | n + 1, r => .unusable :: gap n r
def poolList (es : List (Nat × CpInfo)) (last : Nat) : List CpInfo := es.foldr (fun e r => gap e.1 (e.2 :: r)) (gap last [])
def pool (es : List (Nat × CpInfo)) (last : Nat) : Array CpInfo := ⟨poolList es last⟩
def fileOf (pool : Array CpInfo) (this : Nat) (attrs : Array Attribute := #[]) (ms : Array MethodInfo := #[]) (fl : Nat := 33) (sup : Nat := 0) (ifs : Array Nat := #[]) (fds : Array FieldInfo := #[]) : ClassFile where
  minorVersion := 0
  majorVersion := 65
  constantPool := pool
  accessFlags := fl
  thisClass := this
  superClass := sup
  interfaces := ifs
  fields := fds
  methods := ms
  attributes := attrs
def plain (name : String) (sup : Option ClassId) : Class where
  name := name
  kind := .ordinary
  loader := none
  accessFlags := 33
  super := sup
  interfaces := #[]
  cf := none
  fields := #[]
  methods := #[]
  instanceTypes := #[]
  staticTypes := #[]
  resolved := #[]
  callSites := []
  init := .initialized
  statics := none
  mirror := none

def pool0 : Array CpInfo := pool [(5, u "<init>"), (0, u "()V"), (1, .class_ 10), (1, u "java/lang/Object")] 113

def k0c0 : Code := { maxStack := 0, maxLocals := 1, code := object_method_1_code, exceptionTable := #[], attributes := #[] }
def k0m0 : Method := { name := "<init>", desc := "()V", sig := { parameters := [], returnType := none }, accessFlags := 1, code := some k0c0 }
/-- java/lang/Object -/
def k0 : Class := { plain "java/lang/Object" none with
  accessFlags := 33
  interfaces := #[]
  cf := some (fileOf pool0 8 #[] #[{ accessFlags := 1, nameIndex := 5, descriptorIndex := 6, attributes := #[] }] 33 0 #[] #[])
  fields := #[]
  methods := #[k0m0]
  instanceTypes := #[]
  staticTypes := #[]
  resolved := Array.replicate 124 none
  statics := none }

def pool1 : Array CpInfo := pool [(2, .class_ 4), (0, .nameAndType 5 6), (0, u "java/lang/Object"), (0, u "<init>"), (0, u "()V"), (2, .integer 2147483632), (0, .methodref 11 12), (0, .class_ 13), (0, .nameAndType 14 15), (0, u "java/lang/Math"), (0, u "min"), (0, u "(II)I"), (0, .integer 2147483647), (0, .class_ 18), (0, u "com/example/hesabu/hesabu/billing/HeldLicences"), (0, .methodref 17 3), (0, .methodref 17 21), (0, .nameAndType 22 23), (0, u "set"), (0, u "(II)V"), (0, .methodref 17 25), (0, .nameAndType 26 27), (0, u "heldOn"), (0, u "(I)I"), (0, .class_ 29), (0, u "com/example/hesabu/hesabu/billing/HeldLicencesHeldOnPinLaw"), (2, u "law"), (0, u "(IIIIII)Z")] 3

def k1m0 : Method := { name := "<init>", desc := "()V", sig := { parameters := [], returnType := none }, accessFlags := 1, code := none }
def k1c1 : Code := { maxStack := 3, maxLocals := 21, code := code, exceptionTable := #[], attributes := #[] }
def k1m1 : Method := { name := "law", desc := "(IIIIII)Z", sig := { parameters := [.int, .int, .int, .int, .int, .int], returnType := some .boolean }, accessFlags := 9, code := some k1c1 }
/-- com/example/hesabu/hesabu/billing/HeldLicencesHeldOnPinLaw -/
def k1 : Class := { plain "com/example/hesabu/hesabu/billing/HeldLicencesHeldOnPinLaw" (some 0) with
  accessFlags := 49
  interfaces := #[]
  cf := some (fileOf pool1 28 #[] #[{ accessFlags := 1, nameIndex := 5, descriptorIndex := 6, attributes := #[] }, { accessFlags := 9, nameIndex := 32, descriptorIndex := 33, attributes := #[] }] 49 2 #[] #[])
  fields := #[]
  methods := #[k1m0, k1m1]
  instanceTypes := #[]
  staticTypes := #[]
  resolved := Array.replicate 37 none
  statics := none }

def pool2 : Array CpInfo := pool [(1, .class_ 2), (0, u "java/lang/Math"), (1, .class_ 6), (1, u "java/lang/Object"), (0, u "<init>"), (0, u "()V"), (89, .class_ 100), (1, u "java/lang/Math$RandomNumberGeneratorHolder"), (71, u "negativeZeroFloatBits"), (0, u "J"), (2, u "negativeZeroDoubleBits"), (24, u "min"), (43, u "$assertionsDisabled"), (0, u "Z"), (88, u "(II)I"), (2, u "twoToTheDoubleScaleDown"), (0, u "D"), (4, u "twoToTheDoubleScaleUp"), (9, u "E"), (3, u "PI"), (2, u "TAU"), (2, u "DEGREES_TO_RADIANS"), (0, u "RADIANS_TO_DEGREES")] 94

def k2m0 : Method := { name := "<init>", desc := "()V", sig := { parameters := [], returnType := none }, accessFlags := 2, code := none }
def k2c1 : Code := { maxStack := 2, maxLocals := 2, code := jdk_29_method_69_code, exceptionTable := #[], attributes := #[] }
def k2m1 : Method := { name := "min", desc := "(II)I", sig := { parameters := [.int, .int], returnType := some .int }, accessFlags := 9, code := some k2c1 }
/-- java/lang/Math -/
def k2 : Class := { plain "java/lang/Math" (some 0) with
  accessFlags := 49
  interfaces := #[]
  cf := some (fileOf pool2 1 #[.nestMembers #[98]] #[{ accessFlags := 2, nameIndex := 7, descriptorIndex := 8, attributes := #[] }, { accessFlags := 9, nameIndex := 201, descriptorIndex := 335, attributes := #[] }] 49 4 #[] #[{ accessFlags := 25, nameIndex := 354, descriptorIndex := 339, attributes := #[] }, { accessFlags := 25, nameIndex := 358, descriptorIndex := 339, attributes := #[] }, { accessFlags := 25, nameIndex := 361, descriptorIndex := 339, attributes := #[] }, { accessFlags := 26, nameIndex := 364, descriptorIndex := 339, attributes := #[] }, { accessFlags := 26, nameIndex := 365, descriptorIndex := 339, attributes := #[] }, { accessFlags := 26, nameIndex := 172, descriptorIndex := 173, attributes := #[] }, { accessFlags := 26, nameIndex := 176, descriptorIndex := 173, attributes := #[] }, { accessFlags := 8, nameIndex := 344, descriptorIndex := 339, attributes := #[] }, { accessFlags := 8, nameIndex := 338, descriptorIndex := 339, attributes := #[] }, { accessFlags := 4120, nameIndex := 245, descriptorIndex := 246, attributes := #[] }])
  fields := #[{ name := "E", type := .double, accessFlags := 25, slot := 0, constantValue := 0 }, { name := "PI", type := .double, accessFlags := 25, slot := 1, constantValue := 0 }, { name := "TAU", type := .double, accessFlags := 25, slot := 2, constantValue := 0 }, { name := "DEGREES_TO_RADIANS", type := .double, accessFlags := 26, slot := 3, constantValue := 0 }, { name := "RADIANS_TO_DEGREES", type := .double, accessFlags := 26, slot := 4, constantValue := 0 }, { name := "negativeZeroFloatBits", type := .long, accessFlags := 26, slot := 5, constantValue := 0 }, { name := "negativeZeroDoubleBits", type := .long, accessFlags := 26, slot := 6, constantValue := 0 }, { name := "twoToTheDoubleScaleUp", type := .double, accessFlags := 8, slot := 7, constantValue := 0 }, { name := "twoToTheDoubleScaleDown", type := .double, accessFlags := 8, slot := 8, constantValue := 0 }, { name := "$assertionsDisabled", type := .boolean, accessFlags := 4120, slot := 9, constantValue := 0 }]
  methods := #[k2m0, k2m1]
  instanceTypes := #[]
  staticTypes := #[.double, .double, .double, .double, .double, .long, .long, .double, .double, .boolean]
  resolved := Array.replicate 460 none
  statics := none }

def pool3 : Array CpInfo := pool [(1, .methodref 2 3), (0, .class_ 4), (0, .nameAndType 5 6), (0, u "java/lang/Object"), (0, u "<init>"), (0, u "()V"), (0, .class_ 8), (0, u "com/example/hesabu/hesabu/billing/HeldLicences"), (0, .fieldref 7 10), (0, .nameAndType 11 12), (0, u "days"), (0, u "[I"), (0, .fieldref 7 14), (0, .nameAndType 15 12), (0, u "quantities"), (0, .fieldref 7 17), (0, .nameAndType 18 19), (0, u "count"), (0, u "I"), (21, .methodref 42 43), (0, .class_ 44), (0, .nameAndType 45 46), (0, u "java/util/Arrays"), (0, u "copyOf"), (0, u "([II)[I"), (0, .methodref 7 48), (0, .nameAndType 49 50), (0, u "after"), (0, u "(I)I"), (0, .methodref 7 52), (0, .nameAndType 53 54), (0, u "countUpTo"), (0, u "(IZ)I"), (7, u "FIRST_ROOM"), (4, u "set"), (0, u "(II)V"), (3, u "heldOn")] 23

def k3c0 : Code := { maxStack := 2, maxLocals := 1, code := prog_5_method_1_code, exceptionTable := #[], attributes := #[] }
def k3m0 : Method := { name := "<init>", desc := "()V", sig := { parameters := [], returnType := none }, accessFlags := 0, code := some k3c0 }
def k3c1 : Code := { maxStack := 6, maxLocals := 3, code := prog_5_method_2_code, exceptionTable := #[], attributes := #[] }
def k3m1 : Method := { name := "set", desc := "(II)V", sig := { parameters := [.int, .int], returnType := none }, accessFlags := 0, code := some k3c1 }
def k3c2 : Code := { maxStack := 3, maxLocals := 2, code := prog_5_method_4_code, exceptionTable := #[], attributes := #[] }
def k3m2 : Method := { name := "heldOn", desc := "(I)I", sig := { parameters := [.int], returnType := some .int }, accessFlags := 0, code := some k3c2 }
def k3c3 : Code := { maxStack := 3, maxLocals := 2, code := prog_5_method_5_code, exceptionTable := #[], attributes := #[] }
def k3m3 : Method := { name := "after", desc := "(I)I", sig := { parameters := [.int], returnType := some .int }, accessFlags := 0, code := some k3c3 }
def k3c4 : Code := { maxStack := 2, maxLocals := 6, code := prog_5_method_11_code, exceptionTable := #[], attributes := #[] }
def k3m4 : Method := { name := "countUpTo", desc := "(IZ)I", sig := { parameters := [.int, .boolean], returnType := some .int }, accessFlags := 2, code := some k3c4 }
/-- com/example/hesabu/hesabu/billing/HeldLicences -/
def k3 : Class := { plain "com/example/hesabu/hesabu/billing/HeldLicences" (some 0) with
  accessFlags := 32
  interfaces := #[]
  cf := some (fileOf pool3 7 #[] #[{ accessFlags := 0, nameIndex := 5, descriptorIndex := 6, attributes := #[] }, { accessFlags := 0, nameIndex := 67, descriptorIndex := 68, attributes := #[] }, { accessFlags := 0, nameIndex := 72, descriptorIndex := 50, attributes := #[] }, { accessFlags := 0, nameIndex := 49, descriptorIndex := 50, attributes := #[] }, { accessFlags := 2, nameIndex := 53, descriptorIndex := 54, attributes := #[] }] 32 2 #[] #[{ accessFlags := 26, nameIndex := 62, descriptorIndex := 19, attributes := #[] }, { accessFlags := 2, nameIndex := 11, descriptorIndex := 12, attributes := #[] }, { accessFlags := 2, nameIndex := 15, descriptorIndex := 12, attributes := #[] }, { accessFlags := 2, nameIndex := 18, descriptorIndex := 19, attributes := #[] }])
  fields := #[{ name := "FIRST_ROOM", type := .int, accessFlags := 26, slot := 0, constantValue := 0 }, { name := "days", type := (.array .int), accessFlags := 2, slot := 0, constantValue := 0 }, { name := "quantities", type := (.array .int), accessFlags := 2, slot := 1, constantValue := 0 }, { name := "count", type := .int, accessFlags := 2, slot := 2, constantValue := 0 }]
  methods := #[k3m0, k3m1, k3m2, k3m3, k3m4]
  instanceTypes := #[(.array .int), (.array .int), .int]
  staticTypes := #[.int]
  resolved := Array.replicate 96 none
  statics := none }

def pool4 : Array CpInfo := pool [(2, .class_ 4), (1, u "java/lang/Object"), (0, u "<init>"), (0, u "()V"), (7, .class_ 16), (1, u "java/util/Arrays"), (57, .class_ 76), (1, u "java/util/Arrays$NaturalOrder"), (36, .class_ 115), (1, u "java/util/Arrays$LegacyMergeSort"), (1, u "Z"), (32, .methodref 151 152), (0, .class_ 153), (0, .nameAndType 154 155), (0, u "java/lang/System"), (0, u "arraycopy"), (0, u "(Ljava/lang/Object;ILjava/lang/Object;II)V"), (146, u "copyOf"), (1, .methodref 305 306), (0, .class_ 307), (0, .nameAndType 308 309), (0, u "java/lang/Math"), (0, u "min"), (0, u "(II)I"), (65, .class_ 376), (0, u "java/util/Arrays$ArrayList"), (68, u "$assertionsDisabled"), (269, u "MIN_ARRAY_SORT_GRAN"), (0, u "I"), (2, u "INSERTIONSORT_THRESHOLD"), (151, u "([II)[I"), (103, .class_ 976), (0, u "java/util/Arrays$ArrayItr")] 52

def k4m0 : Method := { name := "<init>", desc := "()V", sig := { parameters := [], returnType := none }, accessFlags := 2, code := none }
def k4c1 : Code := { maxStack := 6, maxLocals := 3, code := jdk_65_method_123_code, exceptionTable := #[], attributes := #[] }
def k4m1 : Method := { name := "copyOf", desc := "([II)[I", sig := { parameters := [(.array .int), .int], returnType := some (.array .int) }, accessFlags := 9, code := some k4c1 }
/-- java/util/Arrays -/
def k4 : Class := { plain "java/util/Arrays" (some 0) with
  accessFlags := 49
  interfaces := #[]
  cf := some (fileOf pool4 14 #[.nestMembers #[975, 375, 113, 74]] #[{ accessFlags := 2, nameIndex := 5, descriptorIndex := 6, attributes := #[] }, { accessFlags := 9, nameIndex := 302, descriptorIndex := 871, attributes := #[] }] 49 2 #[] #[{ accessFlags := 26, nameIndex := 715, descriptorIndex := 716, attributes := #[] }, { accessFlags := 26, nameIndex := 719, descriptorIndex := 716, attributes := #[] }, { accessFlags := 4120, nameIndex := 445, descriptorIndex := 117, attributes := #[] }])
  fields := #[{ name := "MIN_ARRAY_SORT_GRAN", type := .int, accessFlags := 26, slot := 0, constantValue := 0 }, { name := "INSERTIONSORT_THRESHOLD", type := .int, accessFlags := 26, slot := 1, constantValue := 0 }, { name := "$assertionsDisabled", type := .boolean, accessFlags := 4120, slot := 2, constantValue := 0 }]
  methods := #[k4m0, k4m1]
  instanceTypes := #[]
  staticTypes := #[.int, .int, .boolean]
  resolved := Array.replicate 1029 none
  statics := none }

def pool5 : Array CpInfo := pool [(2, .class_ 4), (1, u "java/lang/Object"), (0, u "<init>"), (0, u "()V"), (1, .class_ 10), (1, u "java/lang/System"), (0, u "allowSecurityManager"), (0, u "I"), (16, u "cons"), (0, u "Ljava/io/Console;"), (77, .class_ 110), (1, u "java/lang/System$CallersHolder"), (43, u "initialErrStream"), (0, u "Ljava/io/PrintStream;"), (19, u "security"), (0, u "Ljava/lang/SecurityManager;"), (31, .class_ 209), (0, u "java/lang/System$1"), (7, u "props"), (0, u "Ljava/util/Properties;"), (2, u "lineSeparator"), (0, u "Ljava/lang/String;"), (96, .class_ 321), (1, u "java/lang/System$LoggerFinder"), (5, .class_ 328), (0, u "java/lang/System$Logger"), (67, u "err"), (2, u "out"), (91, u "notSupportedJnuEncoding"), (15, u "in"), (17, u "initialIn"), (0, u "Ljava/io/InputStream;"), (35, u "bootLayer"), (0, u "Ljava/lang/ModuleLayer;"), (99, .class_ 664), (0, u "java/lang/System$2"), (9, u "NEVER"), (2, u "MAYBE"), (49, u "arraycopy"), (0, u "(Ljava/lang/Object;ILjava/lang/Object;II)V"), (72, .class_ 802), (0, u "java/lang/System$Logger$Level")] 31

def k5m0 : Method := { name := "<init>", desc := "()V", sig := { parameters := [], returnType := none }, accessFlags := 2, code := none }
def k5m1 : Method := { name := "arraycopy", desc := "(Ljava/lang/Object;ILjava/lang/Object;II)V", sig := { parameters := [(.object "java/lang/Object"), .int, (.object "java/lang/Object"), .int, .int], returnType := none }, accessFlags := 265, code := none }
/-- java/lang/System -/
def k5 : Class := { plain "java/lang/System" (some 0) with
  accessFlags := 49
  interfaces := #[]
  cf := some (fileOf pool5 8 #[.nestMembers #[319, 327, 801, 108, 663, 208]] #[{ accessFlags := 2, nameIndex := 5, descriptorIndex := 6, attributes := #[] }, { accessFlags := 265, nameIndex := 727, descriptorIndex := 728, attributes := #[] }] 49 2 #[] #[{ accessFlags := 25, nameIndex := 507, descriptorIndex := 526, attributes := #[] }, { accessFlags := 25, nameIndex := 399, descriptorIndex := 155, attributes := #[] }, { accessFlags := 25, nameIndex := 396, descriptorIndex := 155, attributes := #[] }, { accessFlags := 10, nameIndex := 525, descriptorIndex := 526, attributes := #[] }, { accessFlags := 26, nameIndex := 674, descriptorIndex := 12, attributes := #[] }, { accessFlags := 26, nameIndex := 677, descriptorIndex := 12, attributes := #[] }, { accessFlags := 10, nameIndex := 11, descriptorIndex := 12, attributes := #[] }, { accessFlags := 74, nameIndex := 175, descriptorIndex := 176, attributes := #[] }, { accessFlags := 10, nameIndex := 491, descriptorIndex := 222, attributes := #[] }, { accessFlags := 74, nameIndex := 29, descriptorIndex := 30, attributes := #[] }, { accessFlags := 74, nameIndex := 154, descriptorIndex := 155, attributes := #[] }, { accessFlags := 10, nameIndex := 217, descriptorIndex := 218, attributes := #[] }, { accessFlags := 10, nameIndex := 221, descriptorIndex := 222, attributes := #[] }, { accessFlags := 8, nameIndex := 562, descriptorIndex := 563, attributes := #[] }])
  fields := #[{ name := "in", type := (.object "java/io/InputStream"), accessFlags := 25, slot := 0, constantValue := 0 }, { name := "out", type := (.object "java/io/PrintStream"), accessFlags := 25, slot := 1, constantValue := 0 }, { name := "err", type := (.object "java/io/PrintStream"), accessFlags := 25, slot := 2, constantValue := 0 }, { name := "initialIn", type := (.object "java/io/InputStream"), accessFlags := 10, slot := 3, constantValue := 0 }, { name := "NEVER", type := .int, accessFlags := 26, slot := 4, constantValue := 0 }, { name := "MAYBE", type := .int, accessFlags := 26, slot := 5, constantValue := 0 }, { name := "allowSecurityManager", type := .int, accessFlags := 10, slot := 6, constantValue := 0 }, { name := "security", type := (.object "java/lang/SecurityManager"), accessFlags := 74, slot := 7, constantValue := 0 }, { name := "notSupportedJnuEncoding", type := (.object "java/lang/String"), accessFlags := 10, slot := 8, constantValue := 0 }, { name := "cons", type := (.object "java/io/Console"), accessFlags := 74, slot := 9, constantValue := 0 }, { name := "initialErrStream", type := (.object "java/io/PrintStream"), accessFlags := 74, slot := 10, constantValue := 0 }, { name := "props", type := (.object "java/util/Properties"), accessFlags := 10, slot := 11, constantValue := 0 }, { name := "lineSeparator", type := (.object "java/lang/String"), accessFlags := 10, slot := 12, constantValue := 0 }, { name := "bootLayer", type := (.object "java/lang/ModuleLayer"), accessFlags := 8, slot := 13, constantValue := 0 }]
  methods := #[k5m0, k5m1]
  instanceTypes := #[]
  staticTypes := #[(.object "java/io/InputStream"), (.object "java/io/PrintStream"), (.object "java/io/PrintStream"), (.object "java/io/InputStream"), .int, .int, .int, (.object "java/lang/SecurityManager"), (.object "java/lang/String"), (.object "java/io/Console"), (.object "java/io/PrintStream"), (.object "java/util/Properties"), (.object "java/lang/String"), (.object "java/lang/ModuleLayer")]
  resolved := Array.replicate 834 none
  statics := none }

def pool6 : Array CpInfo := pool [(1, u "java/lang/Cloneable"), (0, .class_ 1), (0, u "java/lang/Object"), (0, .class_ 3)] 3

/-- java/lang/Cloneable -/
def k6 : Class := { plain "java/lang/Cloneable" (some 0) with
  accessFlags := 1537
  interfaces := #[]
  cf := some (fileOf pool6 2 #[] #[] 1537 4 #[] #[])
  fields := #[]
  methods := #[]
  instanceTypes := #[]
  staticTypes := #[]
  resolved := Array.replicate 8 none
  statics := none }

def pool7 : Array CpInfo := pool [(1, u "java/io/Serializable"), (0, .class_ 1), (0, u "java/lang/Object"), (0, .class_ 3)] 3

/-- java/io/Serializable -/
def k7 : Class := { plain "java/io/Serializable" (some 0) with
  accessFlags := 1537
  interfaces := #[]
  cf := some (fileOf pool7 2 #[] #[] 1537 4 #[] #[])
  fields := #[]
  methods := #[]
  instanceTypes := #[]
  staticTypes := #[]
  resolved := Array.replicate 8 none
  statics := none }

/-- the primitive byte -/
def k8 : Class := { plain "byte" none with kind := .primitive 'B', accessFlags := 0x411 }
/-- [B -/
def k9 : Class := { plain "[B" (some 0) with kind := .array 8 .byte, interfaces := #[6, 7], accessFlags := 1041 }

/-- the primitive int -/
def k10 : Class := { plain "int" none with kind := .primitive 'I', accessFlags := 0x411 }
/-- [I -/
def k11 : Class := { plain "[I" (some 0) with kind := .array 10 .int, interfaces := #[6, 7], accessFlags := 1041 }

def heap : Heap := #[]
def classes : Array Class := #[k0, k1, k2, k3, k4, k5, k6, k7, k8, k9, k10, k11]
def interned : List (Array UInt16 × Addr) := []
def slotsUsed : Nat := 0
def theMethod : MethodId := ⟨1, 1⟩
def args0 : Array Value := #[.int 1, .int 2, .int 3, .int 4, .int 5, .int 6]
def aboutOver (below : List Frame) : State where
  vm := { classes := classes, interned := interned.toArray }
  heap := heap
  slotsUsed := slotsUsed
  threads := #[{ frames := .invoking theMethod args0 :: below }]
def below0 : List Frame := [.native { method := ⟨0, 0⟩, args := #[] }]
def about1 : State := aboutOver below0
def p0 : Program := .bare "" "" ""
def e0 : Env := launch0.env 0 0 0
theorem w_frames : about1.frames = Frame.invoking theMethod args0 :: below0 := rfl
set_option maxRecDepth 65536 in
theorem w_args : argsFit about1.vm theMethod args0 = true := by decide +kernel
set_option maxRecDepth 65536 in
theorem w_heap : heapFits about1 = true := by decide +kernel
set_option maxRecDepth 65536 in
theorem w_runnable : about1.curStatus? = some .runnable := by decide +kernel
set_option maxRecDepth 65536 in
theorem w_alone : about1.alone = true := by decide +kernel
set_option maxRecDepth 65536 in
theorem w_named : about1.methodNamed? x = some theMethod := by decide +kernel
set_option maxRecDepth 65536 in
theorem w_hears : about1.hears theMethod below0 = true := by decide +kernel
set_option maxRecDepth 65536 in
theorem w_ripe : about1.ripe theMethod args0 below0 = true := by decide +kernel
theorem w_running : about1.status = .running := rfl
set_option maxRecDepth 65536 in
theorem w_room : about1.hasRoom e0.platform room_1 = true :=
  launch0.hasRoom_least _ room_1 (by decide +kernel) (by decide +kernel) (by decide +kernel) (by decide +kernel) (by decide +kernel) (by decide +kernel)
theorem allAtoms_all (ts : List Jvm.Cond) (a : Array Jvm.Value) (st : Jvm.State) : (allAtoms ts).before a st = ts.all (fun c => c.before a st) := by
  induction ts with
  | nil => rfl
  | cons c t ih =>
    show (Jvm.Cond.and c (allAtoms t)).before a st = _
    rw [Jvm.Cond.before_and, ih, List.all_cons]
def words1 : List Jvm.Cond := Jvm.Cond.code x code maxLocals ret :: tables_1
/-- a 'code' word, met by the world's own term for the bytes: nothing is compared byte by byte -/
theorem code_word {y : MethodName} {bytes : ByteArray} {mx : Nat} {rt : Option FieldType} {a : Array Value} {s : State} {m : MethodId} {meth : Method} {c : Code} (h1 : s.methodNamed? y = some m) (h2 : s.vm.method? m = some meth) (h3 : meth.code = some c) (h4 : c.code = bytes)
    (h5 : (c.maxLocals == mx && c.exceptionTable.isEmpty && decide (c.maxStack ≤ mostOperands) && decide (meth.sig.returnType = rt) && !meth.locks && decide (parseMethodDescriptor y.desc = some meth.sig)) = true) : (Jvm.Cond.code y bytes mx rt).before a s = true := by
  simp only [Bool.and_eq_true, beq_iff_eq, Bool.not_eq_true', decide_eq_true_eq] at h5
  obtain ⟨⟨⟨⟨⟨g1, g2⟩, g3⟩, g4⟩, g5⟩, g6⟩ := h5
  simp [Cond.before, Cond.holds, Cond.value, h1, h2, h3, h4, g1, g2, g3, g4, g5, g6]
def isCode : Jvm.Cond → Bool
  | .code _ _ _ _ => true
  | _ => false
theorem all_split {L : List Jvm.Cond} {P : Jvm.Cond → Bool} (h1 : L.all (fun c => isCode c || P c) = true) (h2 : ∀ c ∈ L.filter isCode, P c = true) : L.all P = true := by
  refine List.all_eq_true.mpr fun c hc => ?_
  have h := List.all_eq_true.mp h1 c hc
  rcases Bool.eq_false_or_eq_true (isCode c) with hi | hi
  · exact h2 c (List.mem_filter.mpr ⟨hc, hi⟩)
  · simpa [hi] using h
set_option maxRecDepth 65536 in
theorem w_c0 : (Jvm.Cond.code x code maxLocals ret).before args0 about1 = true := code_word (m := ⟨1, 1⟩) (meth := k1m1) (c := k1c1) (by decide +kernel) rfl rfl rfl (by decide +kernel)
set_option maxRecDepth 65536 in
theorem w_c1 : (Jvm.Cond.code ({ cls := "java/lang/Math", name := "min", desc := "(II)I" } : Jvm.MethodName) jdk_29_method_69_code (2 : Nat) (Option.some Jvm.ClassFile.FieldType.int)).before args0 about1 = true := code_word (m := ⟨2, 1⟩) (meth := k2m1) (c := k2c1) (by decide +kernel) rfl rfl rfl (by decide +kernel)
set_option maxRecDepth 65536 in
theorem w_c2 : (Jvm.Cond.code ({ cls := "com/example/hesabu/hesabu/billing/HeldLicences", name := "<init>", desc := "()V" } : Jvm.MethodName) prog_5_method_1_code (1 : Nat) (Option.none : Option Jvm.ClassFile.FieldType)).before args0 about1 = true := code_word (m := ⟨3, 0⟩) (meth := k3m0) (c := k3c0) (by decide +kernel) rfl rfl rfl (by decide +kernel)
set_option maxRecDepth 65536 in
theorem w_c3 : (Jvm.Cond.code ({ cls := "java/lang/Object", name := "<init>", desc := "()V" } : Jvm.MethodName) object_method_1_code (1 : Nat) (Option.none : Option Jvm.ClassFile.FieldType)).before args0 about1 = true := code_word (m := ⟨0, 0⟩) (meth := k0m0) (c := k0c0) (by decide +kernel) rfl rfl rfl (by decide +kernel)
set_option maxRecDepth 65536 in
theorem w_c4 : (Jvm.Cond.code ({ cls := "com/example/hesabu/hesabu/billing/HeldLicences", name := "set", desc := "(II)V" } : Jvm.MethodName) prog_5_method_2_code (3 : Nat) (Option.none : Option Jvm.ClassFile.FieldType)).before args0 about1 = true := code_word (m := ⟨3, 1⟩) (meth := k3m1) (c := k3c1) (by decide +kernel) rfl rfl rfl (by decide +kernel)
set_option maxRecDepth 65536 in
theorem w_c5 : (Jvm.Cond.code ({ cls := "com/example/hesabu/hesabu/billing/HeldLicences", name := "heldOn", desc := "(I)I" } : Jvm.MethodName) prog_5_method_4_code (2 : Nat) (Option.some Jvm.ClassFile.FieldType.int)).before args0 about1 = true := code_word (m := ⟨3, 2⟩) (meth := k3m2) (c := k3c2) (by decide +kernel) rfl rfl rfl (by decide +kernel)
set_option maxRecDepth 65536 in
theorem w_c6 : (Jvm.Cond.code ({ cls := "com/example/hesabu/hesabu/billing/HeldLicences", name := "after", desc := "(I)I" } : Jvm.MethodName) prog_5_method_5_code (2 : Nat) (Option.some Jvm.ClassFile.FieldType.int)).before args0 about1 = true := code_word (m := ⟨3, 3⟩) (meth := k3m3) (c := k3c3) (by decide +kernel) rfl rfl rfl (by decide +kernel)
set_option maxRecDepth 65536 in
theorem w_c7 : (Jvm.Cond.code ({ cls := "com/example/hesabu/hesabu/billing/HeldLicences", name := "countUpTo", desc := "(IZ)I" } : Jvm.MethodName) prog_5_method_11_code (6 : Nat) (Option.some Jvm.ClassFile.FieldType.int)).before args0 about1 = true := code_word (m := ⟨3, 4⟩) (meth := k3m4) (c := k3c4) (by decide +kernel) rfl rfl rfl (by decide +kernel)
set_option maxRecDepth 65536 in
theorem w_c8 : (Jvm.Cond.code ({ cls := "java/util/Arrays", name := "copyOf", desc := "([II)[I" } : Jvm.MethodName) jdk_65_method_123_code (3 : Nat) (Option.some (Jvm.ClassFile.FieldType.array Jvm.ClassFile.FieldType.int))).before args0 about1 = true := code_word (m := ⟨4, 1⟩) (meth := k4m1) (c := k4c1) (by decide +kernel) rfl rfl rfl (by decide +kernel)
def codes1 : List Jvm.Cond := [Jvm.Cond.code x code maxLocals ret, Jvm.Cond.code ({ cls := "java/lang/Math", name := "min", desc := "(II)I" } : Jvm.MethodName) jdk_29_method_69_code (2 : Nat) (Option.some Jvm.ClassFile.FieldType.int), Jvm.Cond.code ({ cls := "com/example/hesabu/hesabu/billing/HeldLicences", name := "<init>", desc := "()V" } : Jvm.MethodName) prog_5_method_1_code (1 : Nat) (Option.none : Option Jvm.ClassFile.FieldType), Jvm.Cond.code ({ cls := "java/lang/Object", name := "<init>", desc := "()V" } : Jvm.MethodName) object_method_1_code (1 : Nat) (Option.none : Option Jvm.ClassFile.FieldType), Jvm.Cond.code ({ cls := "com/example/hesabu/hesabu/billing/HeldLicences", name := "set", desc := "(II)V" } : Jvm.MethodName) prog_5_method_2_code (3 : Nat) (Option.none : Option Jvm.ClassFile.FieldType), Jvm.Cond.code ({ cls := "com/example/hesabu/hesabu/billing/HeldLicences", name := "heldOn", desc := "(I)I" } : Jvm.MethodName) prog_5_method_4_code (2 : Nat) (Option.some Jvm.ClassFile.FieldType.int), Jvm.Cond.code ({ cls := "com/example/hesabu/hesabu/billing/HeldLicences", name := "after", desc := "(I)I" } : Jvm.MethodName) prog_5_method_5_code (2 : Nat) (Option.some Jvm.ClassFile.FieldType.int), Jvm.Cond.code ({ cls := "com/example/hesabu/hesabu/billing/HeldLicences", name := "countUpTo", desc := "(IZ)I" } : Jvm.MethodName) prog_5_method_11_code (6 : Nat) (Option.some Jvm.ClassFile.FieldType.int), Jvm.Cond.code ({ cls := "java/util/Arrays", name := "copyOf", desc := "([II)[I" } : Jvm.MethodName) jdk_65_method_123_code (3 : Nat) (Option.some (Jvm.ClassFile.FieldType.array Jvm.ClassFile.FieldType.int))]
set_option maxRecDepth 65536 in
theorem codes_eq : words1.filter isCode = codes1 := rfl
theorem w_codes : ∀ c ∈ words1.filter isCode, c.before args0 about1 = true := by
  rw [codes_eq]
  intro c hc
  simp only [codes1, List.mem_cons, List.not_mem_nil, or_false] at hc
  rcases hc with rfl | rfl | rfl | rfl | rfl | rfl | rfl | rfl | rfl
  · exact w_c0
  · exact w_c1
  · exact w_c2
  · exact w_c3
  · exact w_c4
  · exact w_c5
  · exact w_c6
  · exact w_c7
  · exact w_c8
set_option maxRecDepth 65536 in
theorem w_t1 : (words1.take 24).all (fun c => isCode c || c.before args0 about1) = true := by decide +kernel
set_option maxRecDepth 65536 in
theorem w_t2 : ((words1.drop 24).take 24).all (fun c => isCode c || c.before args0 about1) = true := by decide +kernel
set_option maxRecDepth 65536 in
theorem w_t3 : ((words1.drop 24).drop 24).all (fun c => isCode c || c.before args0 about1) = true := by decide +kernel
theorem w_tables : (allAtoms (Jvm.Cond.code x code maxLocals ret :: tables_1)).before args0 about1 = true := by
  rw [allAtoms_all]
  show words1.all (fun c => c.before args0 about1) = true
  refine all_split ?_ w_codes
  rw [← List.take_append_drop 24 words1, List.all_append, w_t1, ← List.take_append_drop 24 (words1.drop 24), List.all_append, w_t2, w_t3]
  rfl
set_option maxRecDepth 65536 in
theorem w_case : (Jvm.Cond.and given_1 narrow_1).before args0 about1 = true := by decide +kernel
theorem w_applies : (headSpec (Jvm.Cond.code x code maxLocals ret :: tables_1) room_1).applies x e0.platform about1 = true :=
  (Spec.applies_iff w_frames).mpr ⟨w_running, w_runnable, w_alone, w_named, w_hears, w_ripe, w_room, w_tables⟩
theorem atStart : AtStart classFile x code maxLocals ret World_1 tables_1 room_1 Calls_1 rest_1 Pre_1 launch0 p0 e0 about1 theMethod args0 below0 :=
  ⟨lists_1, trivial, launch0.admits_env _ _ _, launch0.least_env, fairChoices_fair.cas, fairChoices_fair.clock, w_frames, w_args, w_heap, w_applies, trivial, trivial, w_case⟩
end start1
theorem witness_1 : WitnessClaimed_1 := ⟨start1.p0, start1.e0, start1.about1, start1.theMethod, start1.args0, start1.below0, start1.atStart⟩
end Jvm.Pilot.@@N@@

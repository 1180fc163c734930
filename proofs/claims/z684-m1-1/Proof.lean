import JvmDerived
import JvmDerived.Pilot.@@N@@Statement
import JvmDerived.Pilot.@@N@@Code
set_option linter.unusedVariables false
set_option linter.unusedSimpArgs false
@@BLOCK:NumsL.lean.txt@@
namespace Jvm.OwnKit
open Sem ClassFile Op Lib Jvm.Stand Jvm.Free Jvm.LawKit Jvm.RoadKit
/-- the surroundings of one body: program, environment, start, method, arguments, frames below, method record, code -/
abbrev Cxt := Program × Env × State × MethodId × Array Value × List Frame × Method × Code
/-- what a body owes: the first new address, cells, slots, what it leaves -/
abbrev En := Nat × Nat × Nat × (Option Value → Heap → Prop)
abbrev St (l : Launch) (R : Room) (C : Cxt) (T : State) (L : List Loc) (k n : Nat) : Prop :=
  Stand C.1 l C.2.1 R C.2.2.1 C.2.2.2.1 C.2.2.2.2.1 C.2.2.2.2.2.1 C.2.2.2.2.2.2.1 C.2.2.2.2.2.2.2 T L k n
abbrev Sp (C : Cxt) (a b : State) : Prop := Steps C.1.tables C.2.1 C.2.2.2.2.2.1 a b
def Goes (C : Cxt) (E : En) (a : State) : Prop :=
  ∃ t o, Sp C a t ∧ t.status = .running ∧ Ended t C.2.2.2.2.2.1 o ∧ ∃ v L, o = .returned v ∧ (E.2.2.2 v t.heap ∧ Fr E.1 L) ∧ FrameEnd C.2.2.1 o t L E.2.1 E.2.2.1
/-- from this place of the code, with this heap, these locals and this stack, and so many cells and slots made, the body comes to its end as owed -/
def W (l : Launch) (R : Room) (C : Cxt) (E : En) (h : Heap) (k n pc : Nat) (Ls : Array Slot) (st : List Value) : Prop :=
  ∀ T L, St l R C T L k n → Fr E.1 L → T.heap = h → Goes C E (T.setTop (mkF C.2.2.2.1 pc Ls st))
def Cx (C : Cxt) (Z : State) (own : String) (code : ByteArray) (ml : Nat) (ret : Option FieldType) (nm : String) (n0 : Nat) : Prop :=
  C.1.tables.exec = Jvm.exec ∧ C.2.2.2.2.2.2.2.code = code ∧ C.2.2.2.2.2.2.2.maxLocals = ml ∧ C.2.2.1.vm.findClass own = some C.2.2.2.1.cls ∧ Z.Warmed39 C.2.2.1.vm ∧ C.2.2.2.2.2.2.1.sig.returnType = ret ∧ C.2.2.2.2.2.2.1.locks = false ∧ C.2.2.2.2.2.2.1.name = nm ∧ n0 ≤ C.2.2.1.heap.size
/-- a contract of one call: these arguments, this heap -/
def Ctr (l : Launch) (Z : State) (y : MethodName) (bytes : ByteArray) (maxL : Nat) (ret : Option FieldType) (rm : Room) (n0 : Nat) (as' : Array Value) (h : Heap) (Q : Option Value → Heap → Prop) : Prop :=
  MetFree l y (head1 [Cond.code y bytes maxL ret] rm) (fun a U => a = as' ∧ Z.Warmed39 U.vm ∧ U.heap = h) (fun _ _ _ _ _ => True) (fun _ U o U' => ∃ v L, o = .returned v ∧ (Q v U'.heap ∧ Fr n0 L) ∧ FrameEnd U o U' L rm.cells rm.slots)
section Own
variable {l : Launch} {R : Room} {C : Cxt} {E : En} {h h' : Heap} {k n pc : Nat} {Ls : Array Slot} {st : List Value} {Z : State} {own nm : String} {code : ByteArray} {ml : Nat} {ret : Option FieldType} {a0 : Array Value}
theorem wd {ts : List Jvm.Cond} (hw : ∀ d ∈ ts, d.before a0 Z = true) (i : Nat) {d : Jvm.Cond} (hi : ts[i]? = some d) : d.before a0 Z = true := hw _ (List.mem_of_getElem? hi)
theorem W.via {pc' : Nat} {Ls' : Array Slot} {st' : List Value} (f : ∀ T t L, St l R C T L k n → T.heap = h → Sp C (T.setTop (mkF C.2.2.2.1 pc' Ls' st')) t → Sp C (T.setTop (mkF C.2.2.2.1 pc Ls st)) t)
    (hr : W l R C E h k n pc' Ls' st') : W l R C E h k n pc Ls st := fun T L X N eT => by
  obtain ⟨t, o, h1, h2⟩ := hr T L X N eT
  exact ⟨t, o, f T t L X eT h1, h2⟩
theorem W.more {k' n' : Nat} (hk : k ≤ k') (hn : n ≤ n') (hr : W l R C E h k' n' pc Ls st) : W l R C E h k n pc Ls st := fun T L X N eT => hr T L (X.more hk hn) N eT
/-- a step that moves the tables alone -/
theorem W.viaT {pc' : Nat} {Ls' : Array Slot} {st' : List Value} (f : ∀ T L, St l R C T L k n → T.heap = h → ∃ T', St l R C T' L k n ∧ T'.heap = h ∧ ∀ t, Sp C (T'.setTop (mkF C.2.2.2.1 pc' Ls' st')) t → Sp C (T.setTop (mkF C.2.2.2.1 pc Ls st)) t)
    (hr : W l R C E h k n pc' Ls' st') : W l R C E h k n pc Ls st := fun T L X N eT => by
  obtain ⟨T', X', e', q⟩ := f T L X eT
  obtain ⟨t, o, h1, h2⟩ := hr T' L X' N e'
  exact ⟨t, o, q t h1, h2⟩
theorem size_ge {n0 : Nat} (H : Cx C Z own code ml ret nm n0) {T : State} {L : List Loc} (X : St l R C T L k n) : n0 ≤ T.heap.size := Nat.le_trans H.2.2.2.2.2.2.2.2 X.same.2.1
/-! plain steps -/
section Plain
theorem k_iloadN {i : Fin 4} {x : Int32} (H : Cx C Z own code ml ret nm E.1) (hd : decode code pc = .ok (.iload_n i, 1)) (hl : Ls[i.val]? = some (.val (.int x))) (hr : W l R C E h k n (pc + 1) Ls (.int x :: st)) : W l R C E h k n pc Ls st := .via (fun T t L X _ r => XS.iloadN X.here H.1 rfl (hb H.2.1 hd) hl r) hr
theorem k_iload {i : Nat} {x : Int32} (H : Cx C Z own code ml ret nm E.1) (hd : decode code pc = .ok (.iload i, 2)) (hl : Ls[i]? = some (.val (.int x))) (hr : W l R C E h k n (pc + 2) Ls (.int x :: st)) : W l R C E h k n pc Ls st := .via (fun T t L X _ r => XS.iload X.here H.1 rfl (hb H.2.1 hd) hl r) hr
theorem k_lloadN {i : Fin 4} {x : Int64} (H : Cx C Z own code ml ret nm E.1) (hd : decode code pc = .ok (.lload_n i, 1)) (hl : Ls[i.val]? = some (.val (.long x))) (hr : W l R C E h k n (pc + 1) Ls (.long x :: st)) : W l R C E h k n pc Ls st := .via (fun T t L X _ r => XT.lloadN X.here H.1 rfl (hb H.2.1 hd) hl r) hr
theorem k_lload {i : Nat} {x : Int64} (H : Cx C Z own code ml ret nm E.1) (hd : decode code pc = .ok (.lload i, 2)) (hl : Ls[i]? = some (.val (.long x))) (hr : W l R C E h k n (pc + 2) Ls (.long x :: st)) : W l R C E h k n pc Ls st := .via (fun T t L X _ r => XT.lload X.here H.1 rfl (hb H.2.1 hd) hl r) hr
theorem k_aloadN {i : Fin 4} {v : Value} (H : Cx C Z own code ml ret nm E.1) (hd : decode code pc = .ok (.aload_n i, 1)) (hl : Ls[i.val]? = some (.val v)) (hv : v.isRef = true) (hr : W l R C E h k n (pc + 1) Ls (v :: st)) : W l R C E h k n pc Ls st := .via (fun T t L X _ r => XS.aloadN X.here H.1 rfl (hb H.2.1 hd) hl hv r) hr
theorem k_aload {i : Nat} {v : Value} (H : Cx C Z own code ml ret nm E.1) (hd : decode code pc = .ok (.aload i, 2)) (hl : Ls[i]? = some (.val v)) (hv : v.isRef = true) (hr : W l R C E h k n (pc + 2) Ls (v :: st)) : W l R C E h k n pc Ls st := .via (fun T t L X _ r => XS.aload X.here H.1 rfl (hb H.2.1 hd) hl hv r) hr
theorem k_istoreN {i : Fin 4} {x : Int32} {Ls' : Array Slot} (H : Cx C Z own code ml ret nm E.1) (hd : decode code pc = .ok (.istore_n i, 1)) (hl : storeLocals Ls i.val (.int x) = some Ls') (hr : W l R C E h k n (pc + 1) Ls' st) : W l R C E h k n pc Ls (.int x :: st) := .via (fun T t L X _ r => XS.istoreN X.here H.1 rfl (hb H.2.1 hd) rfl hl r) hr
theorem k_istore {i : Nat} {x : Int32} {Ls' : Array Slot} (H : Cx C Z own code ml ret nm E.1) (hd : decode code pc = .ok (.istore i, 2)) (hl : storeLocals Ls i (.int x) = some Ls') (hr : W l R C E h k n (pc + 2) Ls' st) : W l R C E h k n pc Ls (.int x :: st) := .via (fun T t L X _ r => XS.istore X.here H.1 rfl (hb H.2.1 hd) rfl hl r) hr
theorem k_lstoreN {i : Fin 4} {x : Int64} {Ls' : Array Slot} (H : Cx C Z own code ml ret nm E.1) (hd : decode code pc = .ok (.lstore_n i, 1)) (hl : storeLocals Ls i.val (.long x) = some Ls') (hr : W l R C E h k n (pc + 1) Ls' st) : W l R C E h k n pc Ls (.long x :: st) := .via (fun T t L X _ r => XT.lstoreN X.here H.1 rfl (hb H.2.1 hd) rfl hl r) hr
theorem k_lstore {i : Nat} {x : Int64} {Ls' : Array Slot} (H : Cx C Z own code ml ret nm E.1) (hd : decode code pc = .ok (.lstore i, 2)) (hl : storeLocals Ls i (.long x) = some Ls') (hr : W l R C E h k n (pc + 2) Ls' st) : W l R C E h k n pc Ls (.long x :: st) := .via (fun T t L X _ r => XT.lstore X.here H.1 rfl (hb H.2.1 hd) rfl hl r) hr
theorem k_astoreN {i : Fin 4} {x : Value} {Ls' : Array Slot} (H : Cx C Z own code ml ret nm E.1) (hd : decode code pc = .ok (.astore_n i, 1)) (hv : x.isRef = true) (hl : storeLocals Ls i.val x = some Ls') (hr : W l R C E h k n (pc + 1) Ls' st) : W l R C E h k n pc Ls (x :: st) := .via (fun T t L X _ r => XS.astoreN X.here H.1 rfl (hb H.2.1 hd) rfl hv hl r) hr
theorem k_astore {i : Nat} {x : Value} {Ls' : Array Slot} (H : Cx C Z own code ml ret nm E.1) (hd : decode code pc = .ok (.astore i, 2)) (hv : x.isRef = true) (hl : storeLocals Ls i x = some Ls') (hr : W l R C E h k n (pc + 2) Ls' st) : W l R C E h k n pc Ls (x :: st) := .via (fun T t L X _ r => XS.astore X.here H.1 rfl (hb H.2.1 hd) rfl hv hl r) hr
theorem k_iconst {i : Int} (v : Int32) (H : Cx C Z own code ml ret nm E.1) (hd : decode code pc = .ok (.iconst i, 1)) (hv : Int32.ofInt i = v) (hr : W l R C E h k n (pc + 1) Ls (.int v :: st)) : W l R C E h k n pc Ls st := .via (fun T t L X _ r => XT.iconstV X.here H.1 rfl v (hb H.2.1 hd) hv r) hr
theorem k_bipush {i : Int} (v : Int32) (H : Cx C Z own code ml ret nm E.1) (hd : decode code pc = .ok (.bipush i, 2)) (hv : (Int8.ofInt i).toInt32 = v) (hr : W l R C E h k n (pc + 2) Ls (.int v :: st)) : W l R C E h k n pc Ls st := .via (fun T t L X _ r => XT.bipushV X.here H.1 rfl v (hb H.2.1 hd) hv r) hr
theorem k_sipush {i : Int} (v : Int32) (H : Cx C Z own code ml ret nm E.1) (hd : decode code pc = .ok (.sipush i, 3)) (hv : (Int16.ofInt i).toInt32 = v) (hr : W l R C E h k n (pc + 3) Ls (.int v :: st)) : W l R C E h k n pc Ls st := .via (fun T t L X _ r => XT.sipushV X.here H.1 rfl v (hb H.2.1 hd) hv r) hr
theorem k_lconst {i : Fin 2} (v : Int64) (H : Cx C Z own code ml ret nm E.1) (hd : decode code pc = .ok (.lconst i, 1)) (hv : Int64.ofNat i = v) (hr : W l R C E h k n (pc + 1) Ls (.long v :: st)) : W l R C E h k n pc Ls st := .via (fun T t L X _ r => XT.lconstV X.here H.1 rfl v (hb H.2.1 hd) hv r) hr
theorem k_aconstNull (H : Cx C Z own code ml ret nm E.1) (hd : decode code pc = .ok (.aconst_null, 1)) (hr : W l R C E h k n (pc + 1) Ls (.null :: st)) : W l R C E h k n pc Ls st := .via (fun T t L X _ r => XS.aconstNull X.here H.1 rfl (hb H.2.1 hd) r) hr
theorem k_ldcI {i : Nat} {v : Int32} (H : Cx C Z own code ml ret nm E.1) (hc : (Cond.constant own i v).before a0 Z = true) (hd : decode code pc = .ok (.ldc i, 2)) (hr : W l R C E h k n (pc + 2) Ls (.int v :: st)) : W l R C E h k n pc Ls st := .via (fun T t L X _ r => X.ldcI H.1 H.2.2.2.1 (mv H.2.2.2.2.1 hc) rfl (hb H.2.1 hd) r) hr
theorem k_ldcWI {i : Nat} {v : Int32} (H : Cx C Z own code ml ret nm E.1) (hc : (Cond.constant own i v).before a0 Z = true) (hd : decode code pc = .ok (.ldc_w i, 3)) (hr : W l R C E h k n (pc + 3) Ls (.int v :: st)) : W l R C E h k n pc Ls st := .via (fun T t L X _ r => X.ldcWI H.1 H.2.2.2.1 (mv H.2.2.2.2.1 hc) rfl (hb H.2.1 hd) r) hr
theorem k_ldc2J {i : Nat} {v : Int64} (H : Cx C Z own code ml ret nm E.1) (hc : (Cond.constantLong own i v).before a0 Z = true) (hd : decode code pc = .ok (.ldc2_w i, 3)) (hr : W l R C E h k n (pc + 3) Ls (.long v :: st)) : W l R C E h k n pc Ls st := .via (fun T t L X _ r => X.ldc2J H.1 H.2.2.2.1 (mv H.2.2.2.2.1 hc) rfl (hb H.2.1 hd) r) hr
theorem k_iinc {i : Nat} {c : Int} (v : Int32) {x : Int32} {Ls' : Array Slot} (H : Cx C Z own code ml ret nm E.1) (hd : decode code pc = .ok (.iinc i c, 3)) (hv : Int32.ofInt c = v) (hl : Ls[i]? = some (.val (.int x))) (hl' : storeLocals Ls i (.int (x + v)) = some Ls') (hr : W l R C E h k n (pc + 3) Ls' st) : W l R C E h k n pc Ls st := .via (fun T t L X _ r => XT.iincV X.here H.1 rfl v (hb H.2.1 hd) hv hl hl' r) hr
theorem k_iadd {x y : Int32} (H : Cx C Z own code ml ret nm E.1) (hd : decode code pc = .ok (.iadd, 1)) (hr : W l R C E h k n (pc + 1) Ls (.int (x + y) :: st)) : W l R C E h k n pc Ls (.int y :: .int x :: st) := .via (fun T t L X _ r => XS.iadd X.here H.1 rfl (hb H.2.1 hd) rfl r) hr
theorem k_isub {x y : Int32} (H : Cx C Z own code ml ret nm E.1) (hd : decode code pc = .ok (.isub, 1)) (hr : W l R C E h k n (pc + 1) Ls (.int (x - y) :: st)) : W l R C E h k n pc Ls (.int y :: .int x :: st) := .via (fun T t L X _ r => XS.isub X.here H.1 rfl (hb H.2.1 hd) rfl r) hr
theorem k_imul {x y : Int32} (H : Cx C Z own code ml ret nm E.1) (hd : decode code pc = .ok (.imul, 1)) (hr : W l R C E h k n (pc + 1) Ls (.int (x * y) :: st)) : W l R C E h k n pc Ls (.int y :: .int x :: st) := .via (fun T t L X _ r => XS.imul X.here H.1 rfl (hb H.2.1 hd) rfl r) hr
theorem k_idiv {x y : Int32} (H : Cx C Z own code ml ret nm E.1) (hd : decode code pc = .ok (.idiv, 1)) (hy : y ≠ 0) (hr : W l R C E h k n (pc + 1) Ls (.int (x / y) :: st)) : W l R C E h k n pc Ls (.int y :: .int x :: st) := .via (fun T t L X _ r => XS.idiv X.here H.1 rfl (hb H.2.1 hd) rfl hy r) hr
theorem k_irem {x y : Int32} (H : Cx C Z own code ml ret nm E.1) (hd : decode code pc = .ok (.irem, 1)) (hy : y ≠ 0) (hr : W l R C E h k n (pc + 1) Ls (.int (x % y) :: st)) : W l R C E h k n pc Ls (.int y :: .int x :: st) := .via (fun T t L X _ r => iremM X H.1 rfl (hb H.2.1 hd) rfl hy r) hr
theorem k_iand {x y : Int32} (H : Cx C Z own code ml ret nm E.1) (hd : decode code pc = .ok (.iand, 1)) (hr : W l R C E h k n (pc + 1) Ls (.int (x &&& y) :: st)) : W l R C E h k n pc Ls (.int y :: .int x :: st) := .via (fun T t L X _ r => XS.iand X.here H.1 rfl (hb H.2.1 hd) rfl r) hr
theorem k_ior {x y : Int32} (H : Cx C Z own code ml ret nm E.1) (hd : decode code pc = .ok (.ior, 1)) (hr : W l R C E h k n (pc + 1) Ls (.int (x ||| y) :: st)) : W l R C E h k n pc Ls (.int y :: .int x :: st) := .via (fun T t L X _ r => XT.ior X.here H.1 rfl (hb H.2.1 hd) rfl r) hr
theorem k_ixor {x y : Int32} (H : Cx C Z own code ml ret nm E.1) (hd : decode code pc = .ok (.ixor, 1)) (hr : W l R C E h k n (pc + 1) Ls (.int (x ^^^ y) :: st)) : W l R C E h k n pc Ls (.int y :: .int x :: st) := .via (fun T t L X _ r => XT.ixor X.here H.1 rfl (hb H.2.1 hd) rfl r) hr
theorem k_ishl {x y : Int32} (H : Cx C Z own code ml ret nm E.1) (hd : decode code pc = .ok (.ishl, 1)) (hr : W l R C E h k n (pc + 1) Ls (.int (x <<< (y &&& 31)) :: st)) : W l R C E h k n pc Ls (.int y :: .int x :: st) := .via (fun T t L X _ r => XT.ishl X.here H.1 rfl (hb H.2.1 hd) rfl r) hr
theorem k_ishr {x y : Int32} (H : Cx C Z own code ml ret nm E.1) (hd : decode code pc = .ok (.ishr, 1)) (hr : W l R C E h k n (pc + 1) Ls (.int (x >>> (y &&& 31)) :: st)) : W l R C E h k n pc Ls (.int y :: .int x :: st) := .via (fun T t L X _ r => XT.ishr X.here H.1 rfl (hb H.2.1 hd) rfl r) hr
theorem k_iushr {x y : Int32} (H : Cx C Z own code ml ret nm E.1) (hd : decode code pc = .ok (.iushr, 1)) (hr : W l R C E h k n (pc + 1) Ls (.int (XT.ushr x y) :: st)) : W l R C E h k n pc Ls (.int y :: .int x :: st) := .via (fun T t L X _ r => XT.iushr X.here H.1 rfl (hb H.2.1 hd) rfl r) hr
theorem k_ineg {x : Int32} (H : Cx C Z own code ml ret nm E.1) (hd : decode code pc = .ok (.ineg, 1)) (hr : W l R C E h k n (pc + 1) Ls (.int (-x) :: st)) : W l R C E h k n pc Ls (.int x :: st) := .via (fun T t L X _ r => XS.ineg X.here H.1 rfl (hb H.2.1 hd) rfl r) hr
theorem k_ladd {x y : Int64} (H : Cx C Z own code ml ret nm E.1) (hd : decode code pc = .ok (.ladd, 1)) (hr : W l R C E h k n (pc + 1) Ls (.long (x + y) :: st)) : W l R C E h k n pc Ls (.long y :: .long x :: st) := .via (fun T t L X _ r => XT.ladd X.here H.1 rfl (hb H.2.1 hd) rfl r) hr
theorem k_lsub {x y : Int64} (H : Cx C Z own code ml ret nm E.1) (hd : decode code pc = .ok (.lsub, 1)) (hr : W l R C E h k n (pc + 1) Ls (.long (x - y) :: st)) : W l R C E h k n pc Ls (.long y :: .long x :: st) := .via (fun T t L X _ r => XT.lsub X.here H.1 rfl (hb H.2.1 hd) rfl r) hr
theorem k_land {x y : Int64} (H : Cx C Z own code ml ret nm E.1) (hd : decode code pc = .ok (.land, 1)) (hr : W l R C E h k n (pc + 1) Ls (.long (x &&& y) :: st)) : W l R C E h k n pc Ls (.long y :: .long x :: st) := .via (fun T t L X _ r => XT.land X.here H.1 rfl (hb H.2.1 hd) rfl r) hr
theorem k_lor {x y : Int64} (H : Cx C Z own code ml ret nm E.1) (hd : decode code pc = .ok (.lor, 1)) (hr : W l R C E h k n (pc + 1) Ls (.long (x ||| y) :: st)) : W l R C E h k n pc Ls (.long y :: .long x :: st) := .via (fun T t L X _ r => XT.lor X.here H.1 rfl (hb H.2.1 hd) rfl r) hr
theorem k_lxor {x y : Int64} (H : Cx C Z own code ml ret nm E.1) (hd : decode code pc = .ok (.lxor, 1)) (hr : W l R C E h k n (pc + 1) Ls (.long (x ^^^ y) :: st)) : W l R C E h k n pc Ls (.long y :: .long x :: st) := .via (fun T t L X _ r => XT.lxor X.here H.1 rfl (hb H.2.1 hd) rfl r) hr
theorem k_lshl {x : Int64} {y : Int32} (H : Cx C Z own code ml ret nm E.1) (hd : decode code pc = .ok (.lshl, 1)) (hr : W l R C E h k n (pc + 1) Ls (.long (x <<< (y.toInt64 &&& 63)) :: st)) : W l R C E h k n pc Ls (.int y :: .long x :: st) := .via (fun T t L X _ r => XT.lshl X.here H.1 rfl (hb H.2.1 hd) rfl r) hr
theorem k_lushr {x : Int64} {y : Int32} (H : Cx C Z own code ml ret nm E.1) (hd : decode code pc = .ok (.lushr, 1)) (hr : W l R C E h k n (pc + 1) Ls (.long (XT.ushrL x y) :: st)) : W l R C E h k n pc Ls (.int y :: .long x :: st) := .via (fun T t L X _ r => XT.lushr X.here H.1 rfl (hb H.2.1 hd) rfl r) hr
theorem k_i2l {x : Int32} (H : Cx C Z own code ml ret nm E.1) (hd : decode code pc = .ok (.i2l, 1)) (hr : W l R C E h k n (pc + 1) Ls (.long x.toInt64 :: st)) : W l R C E h k n pc Ls (.int x :: st) := .via (fun T t L X _ r => XT.i2l X.here H.1 rfl (hb H.2.1 hd) rfl r) hr
theorem k_l2i {x : Int64} (H : Cx C Z own code ml ret nm E.1) (hd : decode code pc = .ok (.l2i, 1)) (hr : W l R C E h k n (pc + 1) Ls (.int x.toInt32 :: st)) : W l R C E h k n pc Ls (.long x :: st) := .via (fun T t L X _ r => XT.l2i X.here H.1 rfl (hb H.2.1 hd) rfl r) hr
theorem k_i2b {x : Int32} (H : Cx C Z own code ml ret nm E.1) (hd : decode code pc = .ok (.i2b, 1)) (hr : W l R C E h k n (pc + 1) Ls (.int x.toInt8.toInt32 :: st)) : W l R C E h k n pc Ls (.int x :: st) := .via (fun T t L X _ r => XT.i2b X.here H.1 rfl (hb H.2.1 hd) rfl r) hr
theorem k_i2c {x : Int32} (H : Cx C Z own code ml ret nm E.1) (hd : decode code pc = .ok (.i2c, 1)) (hr : W l R C E h k n (pc + 1) Ls (.int x.toUInt32.toUInt16.toUInt32.toInt32 :: st)) : W l R C E h k n pc Ls (.int x :: st) := .via (fun T t L X _ r => XT.i2c X.here H.1 rfl (hb H.2.1 hd) rfl r) hr
theorem k_lcmp {x y : Int64} (H : Cx C Z own code ml ret nm E.1) (hd : decode code pc = .ok (.lcmp, 1)) (hr : W l R C E h k n (pc + 1) Ls (.int (XT.cmpL x y) :: st)) : W l R C E h k n pc Ls (.long y :: .long x :: st) := .via (fun T t L X _ r => XT.lcmp X.here H.1 rfl (hb H.2.1 hd) rfl r) hr
theorem k_dup {v : Value} (H : Cx C Z own code ml ret nm E.1) (hd : decode code pc = .ok (.dup, 1)) (hc : v.category = 1) (hr : W l R C E h k n (pc + 1) Ls (v :: v :: st)) : W l R C E h k n pc Ls (v :: st) := .via (fun T t L X _ r => XS.dup X.here H.1 rfl (hb H.2.1 hd) rfl hc r) hr
theorem k_pop {v : Value} (H : Cx C Z own code ml ret nm E.1) (hd : decode code pc = .ok (.pop, 1)) (hc : v.category = 1) (hr : W l R C E h k n (pc + 1) Ls st) : W l R C E h k n pc Ls (v :: st) := .via (fun T t L X _ r => XT.pop X.here H.1 rfl (hb H.2.1 hd) rfl hc r) hr
theorem k_dupX1 {v w : Value} (H : Cx C Z own code ml ret nm E.1) (hd : decode code pc = .ok (.dup_x1, 1)) (hc : v.category = 1) (hc' : w.category = 1) (hr : W l R C E h k n (pc + 1) Ls (v :: w :: v :: st)) : W l R C E h k n pc Ls (v :: w :: st) := .via (fun T t L X _ r => XT.dupX1 X.here H.1 rfl (hb H.2.1 hd) rfl hc hc' r) hr
theorem k_dup2 {v w : Value} (H : Cx C Z own code ml ret nm E.1) (hd : decode code pc = .ok (.dup2, 1)) (hc : v.category = 1) (hc' : w.category = 1) (hr : W l R C E h k n (pc + 1) Ls (v :: w :: v :: w :: st)) : W l R C E h k n pc Ls (v :: w :: st) := .via (fun T t L X _ r => XT.dup2 X.here H.1 rfl (hb H.2.1 hd) rfl hc hc' r) hr
theorem k_goto {o : Int} (pc' : Nat) (H : Cx C Z own code ml ret nm E.1) (hd : decode code pc = .ok (.goto o, 3)) (hp : (pc : Int) + o = (pc' : Int)) (hr : W l R C E h k n pc' Ls st) : W l R C E h k n pc Ls st := .via (fun T t L X _ r => XS.goto X.here H.1 rfl rfl (hb H.2.1 hd) (by rw [hp]; exact Int.natCast_nonneg _) (by rw [hp]; rfl) r) hr
theorem k_icmpT {cd : ClassFile.Cond} {o : Int} {x y : Int32} (pc' : Nat) (H : Cx C Z own code ml ret nm E.1) (hd : decode code pc = .ok (.if_icmp cd o, 3)) (hp : (pc : Int) + o = (pc' : Int)) (hc : if_icmp.holds cd x y = true) (hr : W l R C E h k n pc' Ls st) : W l R C E h k n pc Ls (.int y :: .int x :: st) :=
  .via (fun T t L X _ r => XS.icmpYes X.here H.1 rfl rfl (hb H.2.1 hd) rfl hc (by rw [hp]; exact Int.natCast_nonneg _) (by rw [hp]; rfl) r) hr
theorem k_icmpF {cd : ClassFile.Cond} {o : Int} {x y : Int32} (H : Cx C Z own code ml ret nm E.1) (hd : decode code pc = .ok (.if_icmp cd o, 3)) (hc : if_icmp.holds cd x y = false) (hr : W l R C E h k n (pc + 3) Ls st) : W l R C E h k n pc Ls (.int y :: .int x :: st) :=
  .via (fun T t L X _ r => XS.icmpNo X.here H.1 rfl (hb H.2.1 hd) rfl hc r) hr
theorem k_ifT {cd : ClassFile.Cond} {o : Int} {x : Int32} (pc' : Nat) (H : Cx C Z own code ml ret nm E.1) (hd : decode code pc = .ok (.ifCond cd o, 3)) (hp : (pc : Int) + o = (pc' : Int)) (hc : ifCond.holds cd x = true) (hr : W l R C E h k n pc' Ls st) : W l R C E h k n pc Ls (.int x :: st) :=
  .via (fun T t L X _ r => XS.ifYes X.here H.1 rfl rfl (hb H.2.1 hd) rfl hc (by rw [hp]; exact Int.natCast_nonneg _) (by rw [hp]; rfl) r) hr
theorem k_ifF {cd : ClassFile.Cond} {o : Int} {x : Int32} (H : Cx C Z own code ml ret nm E.1) (hd : decode code pc = .ok (.ifCond cd o, 3)) (hc : ifCond.holds cd x = false) (hr : W l R C E h k n (pc + 3) Ls st) : W l R C E h k n pc Ls (.int x :: st) :=
  .via (fun T t L X _ r => XS.ifNo X.here H.1 rfl (hb H.2.1 hd) rfl hc r) hr
theorem k_acmpT {cd : ClassFile.ACond} {o : Int} {x y : Value} (pc' : Nat) (H : Cx C Z own code ml ret nm E.1) (hd : decode code pc = .ok (.if_acmp cd o, 3)) (hp : (pc : Int) + o = (pc' : Int)) (hx : x.isRef = true) (hy : y.isRef = true) (hc : XT.acmp cd x y = true) (hr : W l R C E h k n pc' Ls st) : W l R C E h k n pc Ls (y :: x :: st) :=
  .via (fun T t L X _ r => XT.acmpYes X.here H.1 rfl rfl (hb H.2.1 hd) rfl hx hy hc (by rw [hp]; exact Int.natCast_nonneg _) (by rw [hp]; rfl) r) hr
theorem k_acmpF {cd : ClassFile.ACond} {o : Int} {x y : Value} (H : Cx C Z own code ml ret nm E.1) (hd : decode code pc = .ok (.if_acmp cd o, 3)) (hx : x.isRef = true) (hy : y.isRef = true) (hc : XT.acmp cd x y = false) (hr : W l R C E h k n (pc + 3) Ls st) : W l R C E h k n pc Ls (y :: x :: st) :=
  .via (fun T t L X _ r => XT.acmpNo X.here H.1 rfl (hb H.2.1 hd) rfl hx hy hc r) hr
theorem k_nonnullT {o : Int} {b : Addr} (pc' : Nat) (H : Cx C Z own code ml ret nm E.1) (hd : decode code pc = .ok (.ifnonnull o, 3)) (hp : (pc : Int) + o = (pc' : Int)) (hr : W l R C E h k n pc' Ls st) : W l R C E h k n pc Ls (.ref b :: st) :=
  .via (fun T t L X _ r => XT.ifnonnullYes X.here H.1 rfl rfl (hb H.2.1 hd) rfl (by rw [hp]; exact Int.natCast_nonneg _) (by rw [hp]; rfl) r) hr
theorem k_tsw {dflt low high o : Int} {offs : Array Int} {len : Nat} {i : Int32} (pc' : Nat) (H : Cx C Z own code ml ret nm E.1) (hd : decode code pc = .ok (.tableswitch dflt low high offs, len)) (hin : ¬ (i.toInt < low ∨ i.toInt > high)) (hoff : offs[(i.toInt - low).toNat]? = some o) (hp : (pc : Int) + o = (pc' : Int)) (hr : W l R C E h k n pc' Ls st) : W l R C E h k n pc Ls (.int i :: st) :=
  .via (fun T t L X _ r => XS.tswIn X.here H.1 rfl rfl (hb H.2.1 hd) rfl hin hoff (by rw [hp]; exact Int.natCast_nonneg _) (by rw [hp]; rfl) r) hr
theorem lsw {tb : Tables} [Ours tb] {e : Env} {below : List Frame} {T target : State} {m : MethodId} {c : Code} {g : JFrame} (h : At T m c below) (hx : tb.exec = Jvm.exec) (hg : g.method = m) {dflt : Int} {pairs : Array (Int × Int)} {len : Nat} {pc0 pc' : Nat} (hpc : g.pc = pc0) (hd : decode c.code g.pc = .ok (.lookupswitch dflt pairs, len)) {i : Int32} {rest : List Value} (hs : g.stack = .int i :: rest)
    (ho : 0 ≤ (pc0 : Int) + lookupswitch.offset pairs.toList dflt i.toInt) (hp : ((pc0 : Int) + lookupswitch.offset pairs.toList dflt i.toInt).toNat = pc') (hsort : ∀ (a b c d : Int), ((a, b), c, d) ∈ pairs.toList.zip pairs.toList.tail → a < c) (hr : Steps tb e below (T.setTop { g with pc := pc', stack := rest }) target) : Steps tb e below (T.setTop g) target := by
  subst hg hpc hp
  jvm_step h [h.top, hx, hd, hs, ho, lookupswitch.wp_chain]
  exact ⟨hsort, hr⟩
theorem k_lsw {dflt : Int} {pairs : Array (Int × Int)} {len : Nat} {i : Int32} (pc' : Nat) (H : Cx C Z own code ml ret nm E.1) (hd : decode code pc = .ok (.lookupswitch dflt pairs, len)) (hsort : ∀ (a b c d : Int), ((a, b), c, d) ∈ pairs.toList.zip pairs.toList.tail → a < c) (hp : (pc : Int) + lookupswitch.offset pairs.toList dflt i.toInt = (pc' : Int)) (hr : W l R C E h k n pc' Ls st) : W l R C E h k n pc Ls (.int i :: st) :=
  .via (fun T t L X _ r => lsw X.here H.1 rfl rfl (hb H.2.1 hd) rfl (by rw [hp]; exact Int.natCast_nonneg _) (by rw [hp]; rfl) hsort r) hr
end Plain
/-! branches, both ways -/
theorem k_icmp {cd : ClassFile.Cond} {o : Int} {x y : Int32} {P : Prop} [Decidable P] (pc' : Nat) (H : Cx C Z own code ml ret nm E.1) (hd : decode code pc = .ok (.if_icmp cd o, 3)) (hp : (pc : Int) + o = (pc' : Int)) (hT : P → if_icmp.holds cd x y = true) (hF : ¬ P → if_icmp.holds cd x y = false)
    (h1 : P → W l R C E h k n pc' Ls st) (h2 : ¬ P → W l R C E h k n (pc + 3) Ls st) : W l R C E h k n pc Ls (.int y :: .int x :: st) := by
  by_cases q : P
  · exact k_icmpT pc' H hd hp (hT q) (h1 q)
  · exact k_icmpF H hd (hF q) (h2 q)
theorem k_iff0 {cd : ClassFile.Cond} {o : Int} {x : Int32} {P : Prop} [Decidable P] (pc' : Nat) (H : Cx C Z own code ml ret nm E.1) (hd : decode code pc = .ok (.ifCond cd o, 3)) (hp : (pc : Int) + o = (pc' : Int)) (hT : P → ifCond.holds cd x = true) (hF : ¬ P → ifCond.holds cd x = false)
    (h1 : P → W l R C E h k n pc' Ls st) (h2 : ¬ P → W l R C E h k n (pc + 3) Ls st) : W l R C E h k n pc Ls (.int x :: st) := by
  by_cases q : P
  · exact k_ifT pc' H hd hp (hT q) (h1 q)
  · exact k_ifF H hd (hF q) (h2 q)
theorem k_icmpR {cd : ClassFile.Cond} {o : Int} {x y : Int32} {P : Prop} [Decidable P] (pc' : Nat) (H : Cx C Z own code ml ret nm E.1) (hd : decode code pc = .ok (.if_icmp cd o, 3)) (hp : (pc : Int) + o = (pc' : Int)) (hT : ¬ P → if_icmp.holds cd x y = true) (hF : P → if_icmp.holds cd x y = false)
    (h1 : ¬ P → W l R C E h k n pc' Ls st) (h2 : P → W l R C E h k n (pc + 3) Ls st) : W l R C E h k n pc Ls (.int y :: .int x :: st) := by
  by_cases q : P
  · exact k_icmpF H hd (hF q) (h2 q)
  · exact k_icmpT pc' H hd hp (hT q) (h1 q)
theorem k_iff0R {cd : ClassFile.Cond} {o : Int} {x : Int32} {P : Prop} [Decidable P] (pc' : Nat) (H : Cx C Z own code ml ret nm E.1) (hd : decode code pc = .ok (.ifCond cd o, 3)) (hp : (pc : Int) + o = (pc' : Int)) (hT : ¬ P → ifCond.holds cd x = true) (hF : P → ifCond.holds cd x = false)
    (h1 : ¬ P → W l R C E h k n pc' Ls st) (h2 : P → W l R C E h k n (pc + 3) Ls st) : W l R C E h k n pc Ls (.int x :: st) := by
  by_cases q : P
  · exact k_ifF H hd (hF q) (h2 q)
  · exact k_ifT pc' H hd hp (hT q) (h1 q)
theorem k_acmp {cd : ClassFile.ACond} {o : Int} {x y : Value} {P : Prop} [Decidable P] (pc' : Nat) (H : Cx C Z own code ml ret nm E.1) (hd : decode code pc = .ok (.if_acmp cd o, 3)) (hp : (pc : Int) + o = (pc' : Int)) (hx : x.isRef = true) (hy : y.isRef = true) (hT : P → XT.acmp cd x y = true) (hF : ¬ P → XT.acmp cd x y = false)
    (h1 : P → W l R C E h k n pc' Ls st) (h2 : ¬ P → W l R C E h k n (pc + 3) Ls st) : W l R C E h k n pc Ls (y :: x :: st) := by
  by_cases q : P
  · exact k_acmpT pc' H hd hp hx hy (hT q) (h1 q)
  · exact k_acmpF H hd hx hy (hF q) (h2 q)
/-! heap steps -/
/-- an array: its kind and all that it holds -/
def Vec (Z : State) (h : Heap) (a : Addr) (ty : FieldType) (vs : List Value) : Prop := ∃ c : Cell, Arr Z h a c ty ∧ c.slots = vs.toArray ∧ vs.length < 2 ^ 31
abbrev IA (Z : State) (h : Heap) (a : Addr) (xs : List Int32) : Prop := Vec Z h a .int (xs.map Value.int)
abbrev JA (Z : State) (h : Heap) (a : Addr) (xs : List Int64) : Prop := Vec Z h a .long (xs.map Value.long)
abbrev BA (Z : State) (h : Heap) (a : Addr) (xs : List Int8) : Prop := Vec Z h a .byte (xs.map fun b => Value.int b.toInt32)
abbrev CA (Z : State) (h : Heap) (a : Addr) (xs : List UInt16) : Prop := Vec Z h a .char (xs.map fun b => Value.int b.toUInt32.toInt32)
theorem Vec.lt {a : Addr} {ty : FieldType} {vs : List Value} (F : Vec Z h a ty vs) : a < h.size := by obtain ⟨c, A, -⟩ := F; exact A.lt
theorem Vec.ext {a : Addr} {ty : FieldType} {vs : List Value} (F : Vec Z h a ty vs) (X : Ext h h') : Vec Z h' a ty vs := by obtain ⟨c, A, r⟩ := F; exact ⟨c, A.ext X, r⟩
theorem Vec.keep {a : Addr} {ty : FieldType} {vs : List Value} {ws : List Addr} (F : Vec Z h a ty vs) (K : Keep h h' ws) (q : a ∉ ws) : Vec Z h' a ty vs := by obtain ⟨c, A, r⟩ := F; exact ⟨c, ⟨K.2.1 a c A.1 q, A.2⟩, r⟩
theorem Vec.other {a b : Addr} {ty : FieldType} {vs : List Value} {sl : Nat} {v : Value} (F : Vec Z h b ty vs) (X : Wr h h' a sl v) (q : b ≠ a) : Vec Z h' b ty vs := by obtain ⟨c, A, r⟩ := F; exact ⟨c, A.other X q, r⟩
theorem Vec.set {a : Addr} {ty : FieldType} {vs : List Value} {sl : Nat} {v : Value} (F : Vec Z h a ty vs) (X : Wr h h' a sl v) : Vec Z h' a ty (vs.set sl v) := by
  obtain ⟨c, A, e, r⟩ := F
  refine ⟨_, A.same X, ?_, by simpa using r⟩
  simp [Cell.setSlot, e]
theorem Vec.ne {a b : Addr} {ty ty' : FieldType} {vs vs' : List Value} (F : Vec Z h a ty vs) (G : Vec Z h b ty' vs') (q : ty ≠ ty') : a ≠ b := fun e => by
  subst e
  obtain ⟨c, A, -⟩ := F
  obtain ⟨c', A', -⟩ := G
  cases A.1.symm.trans A'.1
  obtain ⟨-, k, h1, comp, h2⟩ := A.2.1
  obtain ⟨-, k', h1', comp', h2'⟩ := A'.2.1
  cases h1.symm.trans h1'
  rw [h2] at h2'; cases h2'; exact q rfl
theorem Vec.neX {a b : Addr} {ty : FieldType} {vs : List Value} {cls : String} {kk : Nat} (G : Vec Z h b ty vs) (F : Exa Z h a cls) (wi : (Cond.instantiable cls kk).before a0 Z = true) : a ≠ b := by obtain ⟨c, A, -⟩ := G; exact ne_arr F wi A
theorem Keep.ofExt (X : Ext h h') : Keep h h' [] := (Keep.refl h []).ext X
theorem idx_ok {j : Int32} {i : Nat} (hj : j.toInt = (i : Int)) : ¬ j < 0 ∧ j.toNatClampNeg = i := by
  have e0 : (0 : Int32).toInt = 0 := rfl
  constructor
  · rw [Int32.lt_iff_toInt_lt]; omega
  · simp only [Int32.toNatClampNeg, hj]; rfl
theorem len_ok {c : Cell} {vs : List Value} (e : c.slots = vs.toArray) (hl : vs.length < 2 ^ 31) : c.slots.size.toInt32.toInt = (vs.length : Int) := by
  rw [e]; exact len_toInt hl
section Arrs
variable {a : Addr} {j : Int32} {i : Nat} {v : Value} {vs : List Value}
theorem in_ok {c : Cell} (e : c.slots = vs.toArray) (hj : j.toInt = (i : Int)) (hv : vs[i]? = some v) : ¬ (j < 0 ∨ c.slots.size ≤ j.toNatClampNeg) ∧ c.slots[j.toNatClampNeg]? = some v := by
  obtain ⟨q1, q2⟩ := idx_ok hj
  rw [q2, e]
  have hlt : i < vs.length := (List.getElem?_eq_some_iff.mp hv).1
  exact ⟨fun z => z.elim q1 (fun z => absurd hlt (Nat.not_lt.mpr (by simpa using z))), by simpa using hv⟩
theorem k_arraylength {ty : FieldType} {N : Int32} (H : Cx C Z own code ml ret nm E.1) (A : Vec Z h a ty vs) (hN : N.toInt = (vs.length : Int)) (hd : decode code pc = .ok (.arraylength, 1)) (hr : W l R C E h k n (pc + 1) Ls (.int N :: st)) : W l R C E h k n pc Ls (.ref a :: st) := by
  obtain ⟨c, A, e, hl⟩ := A
  have q : c.slots.size.toInt32 = N := Int32.toInt_inj.mp ((len_ok e hl).trans hN.symm)
  subst q
  exact .via (fun T t L X eT r => X.arraylength H.1 (by rw [eT]; exact A.1) (State.isArrayOf_alike H.2.2.2.2.1.alike A.2.1) (g := mkF C.2.2.2.1 pc Ls (.ref a :: st)) rfl rfl (hb H.2.1 hd) _ r) hr
theorem k_iaload (H : Cx C Z own code ml ret nm E.1) (A : Vec Z h a .int vs) (hj : j.toInt = (i : Int)) (hv : vs[i]? = some v) (hd : decode code pc = .ok (.iaload, 1)) (hr : W l R C E h k n (pc + 1) Ls (v :: st)) : W l R C E h k n pc Ls (.int j :: .ref a :: st) := by
  obtain ⟨c, A, e, hl⟩ := A
  obtain ⟨q1, q2⟩ := in_ok e hj hv
  exact .via (fun T t L X eT r => X.iaload H.1 (by rw [eT]; exact A.1) (State.isArrayOf_alike H.2.2.2.2.1.alike A.2.1) A.2.2 q1 q2 (g := mkF C.2.2.2.1 pc Ls (.int j :: .ref a :: st)) rfl rfl (hb H.2.1 hd) _ r) hr
theorem k_laload (H : Cx C Z own code ml ret nm E.1) (A : Vec Z h a .long vs) (hj : j.toInt = (i : Int)) (hv : vs[i]? = some v) (hd : decode code pc = .ok (.laload, 1)) (hr : W l R C E h k n (pc + 1) Ls (v :: st)) : W l R C E h k n pc Ls (.int j :: .ref a :: st) := by
  obtain ⟨c, A, e, hl⟩ := A
  obtain ⟨q1, q2⟩ := in_ok e hj hv
  exact .via (fun T t L X eT r => X.laload H.1 (by rw [eT]; exact A.1) (State.isArrayOf_alike H.2.2.2.2.1.alike A.2.1) A.2.2 q1 q2 (g := mkF C.2.2.2.1 pc Ls (.int j :: .ref a :: st)) rfl rfl (hb H.2.1 hd) _ r) hr
theorem k_caload (H : Cx C Z own code ml ret nm E.1) (A : Vec Z h a .char vs) (hj : j.toInt = (i : Int)) (hv : vs[i]? = some v) (hd : decode code pc = .ok (.caload, 1)) (hr : W l R C E h k n (pc + 1) Ls (v :: st)) : W l R C E h k n pc Ls (.int j :: .ref a :: st) := by
  obtain ⟨c, A, e, hl⟩ := A
  obtain ⟨q1, q2⟩ := in_ok e hj hv
  exact .via (fun T t L X eT r => X.caload H.1 (by rw [eT]; exact A.1) (State.isArrayOf_alike H.2.2.2.2.1.alike A.2.1) A.2.2 q1 q2 (g := mkF C.2.2.2.1 pc Ls (.int j :: .ref a :: st)) rfl rfl (hb H.2.1 hd) _ r) hr
theorem k_baload (H : Cx C Z own code ml ret nm E.1) (A : Vec Z h a .byte vs) (hj : j.toInt = (i : Int)) (hv : vs[i]? = some v) (hd : decode code pc = .ok (.baload, 1)) (hr : W l R C E h k n (pc + 1) Ls (v :: st)) : W l R C E h k n pc Ls (.int j :: .ref a :: st) := by
  obtain ⟨c, A, e, hl⟩ := A
  obtain ⟨q1, q2⟩ := in_ok e hj hv
  exact .via (fun T t L X eT r => X.baloadBytes H.1 (by rw [eT]; exact A.1) (State.isArrayOf_alike H.2.2.2.2.1.alike A.2.1) A.2.2 q1 q2 (g := mkF C.2.2.2.1 pc Ls (.int j :: .ref a :: st)) rfl rfl (hb H.2.1 hd) _ r) hr
theorem out_ok {c : Cell} (e : c.slots = vs.toArray) (hj : j.toInt = (i : Int)) (hi : i < vs.length) : ¬ (j < 0 ∨ c.slots.size ≤ j.toNatClampNeg) := by
  obtain ⟨q1, q2⟩ := idx_ok hj
  rw [q2, e]
  exact fun z => z.elim q1 (fun z => absurd hi (Nat.not_lt.mpr (by simpa using z)))
theorem Goes.step {T T' : State} {g g' : JFrame} (q : ∀ t, Sp C (T'.setTop g') t → Sp C (T.setTop g) t) (r : Goes C E (T'.setTop g')) : Goes C E (T.setTop g) := by
  obtain ⟨t, o, h1, h2⟩ := r; exact ⟨t, o, q t h1, h2⟩
theorem k_iastore {x : Int32} (H : Cx C Z own code ml ret nm E.1) (A : Vec Z h a .int vs) (hj : j.toInt = (i : Int)) (hi : i < vs.length) (ge : E.1 ≤ a) (hd : decode code pc = .ok (.iastore, 1))
    (hr : ∀ h', Keep h h' [a] → Vec Z h' a .int (vs.set i (.int x)) → W l R C E h' k n (pc + 1) Ls st) : W l R C E h k n pc Ls (.int x :: .int j :: .ref a :: st) := fun T L X N eT => by
  have A' := A
  obtain ⟨c, A, e, hl⟩ := A
  obtain ⟨T', h', X', e', Wx, q⟩ := stI X H.1 H.2.2.2.2.1 eT A (out_ok e hj hi) (g := mkF C.2.2.2.1 pc Ls (.int x :: .int j :: .ref a :: st)) rfl rfl (hb H.2.1 hd)
  refine .step q (hr h' (Keep.of_wr Wx) ?_ T' _ X' (Fr.snoc X' N ge) e')
  rw [(idx_ok hj).2] at Wx; exact A'.set Wx
theorem k_lastore {x : Int64} (H : Cx C Z own code ml ret nm E.1) (A : Vec Z h a .long vs) (hj : j.toInt = (i : Int)) (hi : i < vs.length) (ge : E.1 ≤ a) (hd : decode code pc = .ok (.lastore, 1))
    (hr : ∀ h', Keep h h' [a] → Vec Z h' a .long (vs.set i (.long x)) → W l R C E h' k n (pc + 1) Ls st) : W l R C E h k n pc Ls (.long x :: .int j :: .ref a :: st) := fun T L X N eT => by
  have A' := A
  obtain ⟨c, A, e, hl⟩ := A
  obtain ⟨T', h', X', e', Wx, q⟩ := stJ X H.1 H.2.2.2.2.1 eT A (out_ok e hj hi) (g := mkF C.2.2.2.1 pc Ls (.long x :: .int j :: .ref a :: st)) rfl rfl (hb H.2.1 hd)
  refine .step q (hr h' (Keep.of_wr Wx) ?_ T' _ X' (Fr.snoc X' N ge) e')
  rw [(idx_ok hj).2] at Wx; exact A'.set Wx
theorem k_bastore {x : Int32} (H : Cx C Z own code ml ret nm E.1) (A : Vec Z h a .byte vs) (hj : j.toInt = (i : Int)) (hi : i < vs.length) (ge : E.1 ≤ a) (hd : decode code pc = .ok (.bastore, 1))
    (hr : ∀ h', Keep h h' [a] → Vec Z h' a .byte (vs.set i (.int x.toInt8.toInt32)) → W l R C E h' k n (pc + 1) Ls st) : W l R C E h k n pc Ls (.int x :: .int j :: .ref a :: st) := fun T L X N eT => by
  have A' := A
  obtain ⟨c, A, e, hl⟩ := A
  obtain ⟨T', h', X', e', Wx, q⟩ := stB X H.1 H.2.2.2.2.1 eT A (out_ok e hj hi) (g := mkF C.2.2.2.1 pc Ls (.int x :: .int j :: .ref a :: st)) rfl rfl (hb H.2.1 hd)
  refine .step q (hr h' (Keep.of_wr Wx) ?_ T' _ X' (Fr.snoc X' N ge) e')
  rw [(idx_ok hj).2] at Wx; exact A'.set Wx
theorem k_castore {x : Int32} (H : Cx C Z own code ml ret nm E.1) (A : Vec Z h a .char vs) (hj : j.toInt = (i : Int)) (hi : i < vs.length) (ge : E.1 ≤ a) (hd : decode code pc = .ok (.castore, 1))
    (hr : ∀ h', Keep h h' [a] → Vec Z h' a .char (vs.set i (.int x.toUInt32.toUInt16.toUInt32.toInt32)) → W l R C E h' k n (pc + 1) Ls st) : W l R C E h k n pc Ls (.int x :: .int j :: .ref a :: st) := fun T L X N eT => by
  have A' := A
  obtain ⟨c, A, e, hl⟩ := A
  obtain ⟨T', h', X', e', Wx, q⟩ := stC X H.1 H.2.2.2.2.1 eT A (out_ok e hj hi) (g := mkF C.2.2.2.1 pc Ls (.int x :: .int j :: .ref a :: st)) rfl rfl (hb H.2.1 hd)
  refine .step q (hr h' (Keep.of_wr Wx) ?_ T' _ X' (Fr.snoc X' N ge) e')
  rw [(idx_ok hj).2] at Wx; exact A'.set Wx
end Arrs
/-- newarray of a plain kind, at most cap long -/
theorem k_newarray {aty : ArrayType} {ty : FieldType} {len : Int32} (m cap : Nat) (H : Cx C Z own code ml ret nm E.1) (w : (Cond.arrayClass ty).before a0 Z = true) (hty : newarray.typeOf aty = ty) (hd : decode code pc = .ok (.newarray aty, 2)) (hm : len.toInt = (m : Int)) (hcap : m ≤ cap) (hB : cap * 8 ≤ 536870912) (hC : k + 1 ≤ R.cells) (hS : n + cap ≤ R.slots)
    (hr : ∀ h' a, a = h.size → E.1 ≤ a → Ext h h' → Exa Z h' a ("[" ++ ty.toString) → Vec Z h' a ty (List.replicate m (defaultValue ty)) → W l R C E h' (k + 1) (n + cap) (pc + 2) Ls (.ref a :: st)) : W l R C E h k n pc Ls (.int len :: st) := fun T L X N eT => by
  subst hty
  obtain ⟨q1, q2⟩ := idx_ok hm
  obtain ⟨T', h', cA, X', e', Ex, A, XA, q⟩ := newPE X H.1 H.2.2.2.2.1 w eT (g := mkF C.2.2.2.1 pc Ls (.int len :: st)) rfl (hb H.2.1 hd) rfl q1 (cap := cap) (by rw [q2]; exact hcap) hB hC hS rfl
  have hlt : m < 2 ^ 31 := by have := len.toInt_lt; omega
  refine .step q (hr h' h.size rfl (by rw [← eT]; exact size_ge H X) Ex XA ⟨_, A, ?_, by simpa using hlt⟩ T' _ X' N e')
  simp [newA, q2]
theorem k_newObj {idx ns : Nat} {cls : String} (H : Cx C Z own code ml ret nm E.1) (w : (Cond.classLink own idx cls).before a0 Z = true) (wi : (Cond.instantiable cls ns).before a0 Z = true) (wz : (Cond.initialized cls).before a0 Z = true) (hd : decode code pc = .ok (.new idx, 3)) (hC : k + 1 ≤ R.cells) (hS : n + ns ≤ R.slots)
    (hr : ∀ h' a, a = h.size → E.1 ≤ a → Ext h h' → Exa Z h' a cls → (∀ {O nf d : String} {ty : FieldType}, Laid Z a0 cls O nf d → parseFieldDescriptor d = some ty → Fld Z h' a O nf d (defaultValue ty)) → W l R C E h' (k + 1) (n + ns) (pc + 3) Ls (.ref a :: st)) : W l R C E h k n pc Ls st := fun T L X N eT => by
  obtain ⟨T', h', X', e', Ex, A, D, -, q⟩ := newO X H.1 H.2.2.2.2.1 H.2.2.2.1 w wi wz eT (g := mkF C.2.2.2.1 pc Ls st) rfl (hb H.2.1 hd) hC hS
  exact .step q (hr h' h.size rfl (by rw [← eT]; exact size_ge H X) Ex A D T' _ X' N e')
theorem k_initObj {idx w : Nat} {a : Addr} (H : Cx C Z own code ml ret nm E.1) (w1 : (Cond.methodLink own idx Lib.objectInit).before a0 Z = true) (w2 : (Cond.instanceMethod Lib.objectInit).before a0 Z = true) (w3 : (Cond.code Lib.objectInit ⟨#[0xb1]⟩ 1 none).before a0 Z = true) (hd : decode code pc = .ok (.invokespecial idx, 3)) (hsz : Ls.size = ml) (hF : 1 ≤ R.frames)
    (hw : (st.map fun v => v.category).sum = w) (hL : w + 12 ≤ R.locals) (hr : W l R C E h k n (pc + 3) Ls st) : W l R C E h k n pc Ls (.ref a :: st) :=
  .viaT (fun T L X eT => initO X H.1 H.2.2.2.2.1 H.2.2.2.1 w1 w2 w3 eT (g := mkF C.2.2.2.1 pc Ls (.ref a :: st)) rfl (by show Ls.size = _; rw [H.2.2.1]; exact hsz) rfl (hb H.2.1 hd) hF (W := w) (by show 2 * 0 + _ ≤ _; rw [hw]; omega) hL) hr
theorem k_getfield {idx : Nat} {O nf d : String} {a : Addr} {v : Value} (H : Cx C Z own code ml ret nm E.1) (w : (Cond.fieldLink own idx O nf d).before a0 Z = true) (F : Fld Z h a O nf d v) (hd : decode code pc = .ok (.getfield idx, 3)) (hr : W l R C E h k n (pc + 3) Ls (v :: st)) : W l R C E h k n pc Ls (.ref a :: st) :=
  .viaT (fun T L X eT => getF X H.1 H.2.2.2.2.1 H.2.2.2.1 (host := "") (Or.inl w) Via.refl eT F (g := mkF C.2.2.2.1 pc Ls (.ref a :: st)) rfl rfl (hb H.2.1 hd)) hr
theorem k_putfield {idx kk : Nat} {O nf d cls : String} {a : Addr} {v old : Value} (ty : FieldType) (H : Cx C Z own code ml ret nm E.1) (w : (Cond.fieldLink own idx O nf d).before a0 Z = true) (F : Fld Z h a O nf d old) (X0 : Exa Z h a cls) (La : (Cond.lays cls O nf d).before a0 Z = true ∨ ((Cond.laysFinal cls O nf d).before a0 Z = true ∧ own = O ∧ nm = "<init>"))
    (wi : (Cond.instantiable cls kk).before a0 Z = true) (hty : parseFieldDescriptor d = some ty) (hn : narrow ty v = v) (hf : fits ty v = true) (ge : E.1 ≤ a) (hd : decode code pc = .ok (.putfield idx, 3))
    (hr : ∀ h', Wr h h' a (Jvm.RoadKit.slotOf Z O nf d) v → Fld Z h' a O nf d v → W l R C E h' k n (pc + 3) Ls st) : W l R C E h k n pc Ls (v :: .ref a :: st) := fun T L X N eT => by
  obtain ⟨T', h', X', e', Wx, q⟩ := putF X H.1 H.2.2.2.2.1 H.2.2.2.1 (host := "") (Or.inl w) Via.refl eT F X0 (La.imp id fun z => ⟨z.1, z.2.1, H.2.2.2.2.2.2.2.1.trans z.2.2⟩) wi hty hn hf (g := mkF C.2.2.2.1 pc Ls (v :: .ref a :: st)) rfl rfl (hb H.2.1 hd)
  exact .step q (hr h' Wx (F.same Wx) T' _ X' (Fr.snoc X' N ge) e')
/-! arrays by the kind of what they hold -/
section Typed
variable {a : Addr} {j : Int32} {i : Nat}
theorem map_at {α : Type} {f : α → Value} {xs : List α} {x : α} (hv : xs[i]? = some x) : (xs.map f)[i]? = some (f x) := by rw [List.getElem?_map, hv]; rfl
theorem k_ialoadT {xs : List Int32} {x : Int32} (H : Cx C Z own code ml ret nm E.1) (A : IA Z h a xs) (hj : j.toInt = (i : Int)) (hv : xs[i]? = some x) (hd : decode code pc = .ok (.iaload, 1)) (hr : W l R C E h k n (pc + 1) Ls ((.int x) :: st)) : W l R C E h k n pc Ls (.int j :: .ref a :: st) := k_iaload H A hj (map_at hv) hd hr
theorem k_iastoreT {xs : List Int32} {x : Int32} (H : Cx C Z own code ml ret nm E.1) (A : IA Z h a xs) (hj : j.toInt = (i : Int)) (hi : i < xs.length) (ge : E.1 ≤ a) (hd : decode code pc = .ok (.iastore, 1))
    (hr : ∀ h', Keep h h' [a] → IA Z h' a (xs.set i x) → W l R C E h' k n (pc + 1) Ls st) : W l R C E h k n pc Ls ((.int x) :: .int j :: .ref a :: st) := k_iastore H A hj (by simpa using hi) ge hd (fun h' K V => hr h' K (by rw [IA, List.map_set]; exact V))
theorem k_new_int {len : Int32} (m cap : Nat) (H : Cx C Z own code ml ret nm E.1) (w : (Cond.arrayClass .int).before a0 Z = true) (hd : decode code pc = .ok (.newarray .int, 2)) (hm : len.toInt = (m : Int)) (hcap : m ≤ cap) (hB : cap * 8 ≤ 536870912) (hC : k + 1 ≤ R.cells) (hS : n + cap ≤ R.slots)
    (hr : ∀ h' a, a = h.size → E.1 ≤ a → Ext h h' → Exa Z h' a "[I" → IA Z h' a (List.replicate m 0) → W l R C E h' (k + 1) (n + cap) (pc + 2) Ls (.ref a :: st)) : W l R C E h k n pc Ls (.int len :: st) := k_newarray m cap H w rfl hd hm hcap hB hC hS (fun h' a e g X XA V => hr h' a e g X XA (by rw [IA, List.map_replicate]; exact V))
theorem k_laloadT {xs : List Int64} {x : Int64} (H : Cx C Z own code ml ret nm E.1) (A : JA Z h a xs) (hj : j.toInt = (i : Int)) (hv : xs[i]? = some x) (hd : decode code pc = .ok (.laload, 1)) (hr : W l R C E h k n (pc + 1) Ls ((.long x) :: st)) : W l R C E h k n pc Ls (.int j :: .ref a :: st) := k_laload H A hj (map_at hv) hd hr
theorem k_lastoreT {xs : List Int64} {x : Int64} (H : Cx C Z own code ml ret nm E.1) (A : JA Z h a xs) (hj : j.toInt = (i : Int)) (hi : i < xs.length) (ge : E.1 ≤ a) (hd : decode code pc = .ok (.lastore, 1))
    (hr : ∀ h', Keep h h' [a] → JA Z h' a (xs.set i x) → W l R C E h' k n (pc + 1) Ls st) : W l R C E h k n pc Ls ((.long x) :: .int j :: .ref a :: st) := k_lastore H A hj (by simpa using hi) ge hd (fun h' K V => hr h' K (by rw [JA, List.map_set]; exact V))
theorem k_new_long {len : Int32} (m cap : Nat) (H : Cx C Z own code ml ret nm E.1) (w : (Cond.arrayClass .long).before a0 Z = true) (hd : decode code pc = .ok (.newarray .long, 2)) (hm : len.toInt = (m : Int)) (hcap : m ≤ cap) (hB : cap * 8 ≤ 536870912) (hC : k + 1 ≤ R.cells) (hS : n + cap ≤ R.slots)
    (hr : ∀ h' a, a = h.size → E.1 ≤ a → Ext h h' → Exa Z h' a "[J" → JA Z h' a (List.replicate m 0) → W l R C E h' (k + 1) (n + cap) (pc + 2) Ls (.ref a :: st)) : W l R C E h k n pc Ls (.int len :: st) := k_newarray m cap H w rfl hd hm hcap hB hC hS (fun h' a e g X XA V => hr h' a e g X XA (by rw [JA, List.map_replicate]; exact V))
theorem k_baloadT {xs : List Int8} {x : Int8} (H : Cx C Z own code ml ret nm E.1) (A : BA Z h a xs) (hj : j.toInt = (i : Int)) (hv : xs[i]? = some x) (hd : decode code pc = .ok (.baload, 1)) (hr : W l R C E h k n (pc + 1) Ls ((.int x.toInt32) :: st)) : W l R C E h k n pc Ls (.int j :: .ref a :: st) := k_baload H A hj (map_at hv) hd hr
theorem k_bastoreT {xs : List Int8} {x : Int32} (H : Cx C Z own code ml ret nm E.1) (A : BA Z h a xs) (hj : j.toInt = (i : Int)) (hi : i < xs.length) (ge : E.1 ≤ a) (hd : decode code pc = .ok (.bastore, 1))
    (hr : ∀ h', Keep h h' [a] → BA Z h' a (xs.set i x.toInt8) → W l R C E h' k n (pc + 1) Ls st) : W l R C E h k n pc Ls ((.int x) :: .int j :: .ref a :: st) := k_bastore H A hj (by simpa using hi) ge hd (fun h' K V => hr h' K (by rw [BA, List.map_set]; exact V))
theorem k_new_byte {len : Int32} (m cap : Nat) (H : Cx C Z own code ml ret nm E.1) (w : (Cond.arrayClass .byte).before a0 Z = true) (hd : decode code pc = .ok (.newarray .byte, 2)) (hm : len.toInt = (m : Int)) (hcap : m ≤ cap) (hB : cap * 8 ≤ 536870912) (hC : k + 1 ≤ R.cells) (hS : n + cap ≤ R.slots)
    (hr : ∀ h' a, a = h.size → E.1 ≤ a → Ext h h' → Exa Z h' a "[B" → BA Z h' a (List.replicate m 0) → W l R C E h' (k + 1) (n + cap) (pc + 2) Ls (.ref a :: st)) : W l R C E h k n pc Ls (.int len :: st) := k_newarray m cap H w rfl hd hm hcap hB hC hS (fun h' a e g X XA V => hr h' a e g X XA (by rw [BA, List.map_replicate]; exact V))
theorem k_caloadT {xs : List UInt16} {x : UInt16} (H : Cx C Z own code ml ret nm E.1) (A : CA Z h a xs) (hj : j.toInt = (i : Int)) (hv : xs[i]? = some x) (hd : decode code pc = .ok (.caload, 1)) (hr : W l R C E h k n (pc + 1) Ls ((.int x.toUInt32.toInt32) :: st)) : W l R C E h k n pc Ls (.int j :: .ref a :: st) := k_caload H A hj (map_at hv) hd hr
theorem k_castoreT {xs : List UInt16} {x : Int32} (H : Cx C Z own code ml ret nm E.1) (A : CA Z h a xs) (hj : j.toInt = (i : Int)) (hi : i < xs.length) (ge : E.1 ≤ a) (hd : decode code pc = .ok (.castore, 1))
    (hr : ∀ h', Keep h h' [a] → CA Z h' a (xs.set i x.toUInt32.toUInt16) → W l R C E h' k n (pc + 1) Ls st) : W l R C E h k n pc Ls ((.int x) :: .int j :: .ref a :: st) := k_castore H A hj (by simpa using hi) ge hd (fun h' K V => hr h' K (by rw [CA, List.map_set]; exact V))
theorem k_new_char {len : Int32} (m cap : Nat) (H : Cx C Z own code ml ret nm E.1) (w : (Cond.arrayClass .char).before a0 Z = true) (hd : decode code pc = .ok (.newarray .char, 2)) (hm : len.toInt = (m : Int)) (hcap : m ≤ cap) (hB : cap * 8 ≤ 536870912) (hC : k + 1 ≤ R.cells) (hS : n + cap ≤ R.slots)
    (hr : ∀ h' a, a = h.size → E.1 ≤ a → Ext h h' → Exa Z h' a "[C" → CA Z h' a (List.replicate m 0) → W l R C E h' (k + 1) (n + cap) (pc + 2) Ls (.ref a :: st)) : W l R C E h k n pc Ls (.int len :: st) := k_newarray m cap H w rfl hd hm hcap hB hC hS (fun h' a e g X XA V => hr h' a e g X XA (by rw [CA, List.map_replicate]; exact V))
theorem fits_of {ty : FieldType} {vs : List Value} {c : Cell} (A : Arr Z h a c ty) (e : c.slots = vs.toArray) (hf : ∀ v ∈ vs, fits ty v = true) : FitC Z c := fitC_of A fun i hi v hv => hf v (by rw [e] at hv; simp at hv; exact List.mem_of_getElem? hv)
theorem k_clone {idx w cap : Nat} {ty : FieldType} {ad : String} {vs : List Value} (H : Cx C Z own code ml ret nm E.1)
    (w1 : (Cond.methodLink own idx ⟨ad, "clone", "()Ljava/lang/Object;"⟩).before a0 Z = true) (w2 : (Cond.sameMethod ad "java/lang/Object" "clone" "()Ljava/lang/Object;").before a0 Z = true) (w3 : (Cond.native ⟨"java/lang/Object", "clone", "()Ljava/lang/Object;"⟩).before a0 Z = true)
    (w4 : (Cond.instanceMethod ⟨"java/lang/Object", "clone", "()Ljava/lang/Object;"⟩).before a0 Z = true) (w5 : (Cond.selects ad ⟨ad, "clone", "()Ljava/lang/Object;"⟩ ⟨"java/lang/Object", "clone", "()Ljava/lang/Object;"⟩).before a0 Z = true) (w6 : (Cond.castable ad "java/lang/Cloneable").before a0 Z = true)
    (V : Vec Z h a ty vs) (hf : ∀ v ∈ vs, fits ty v = true) (X0 : Exa Z h a ad) (hd : decode code pc = .ok (.invokevirtual idx, 3)) (hsz : Ls.size = ml) (hF : 1 ≤ R.frames) (hw : (st.map fun v => v.category).sum = w) (hL : w + 14 ≤ R.locals) (hcap : vs.length ≤ cap) (hC : k + 1 ≤ R.cells) (hS : n + cap ≤ R.slots)
    (hr : ∀ h' b, b = h.size → E.1 ≤ b → Ext h h' → Exa Z h' b ad → Vec Z h' b ty vs → W l R C E h' (k + 1) (n + cap) (pc + 3) Ls (.ref b :: st)) : W l R C E h k n pc Ls (.ref a :: st) := fun T L X N eT => by
  obtain ⟨c, A, e, hl⟩ := V
  obtain ⟨T', h', X', e', Ex, A', XA, q⟩ := cloneA X H.1 H.2.2.2.2.1 H.2.2.2.1 w1 w2 w3 w4 w5 w6 eT A X0 (fits_of A e hf) (g := mkF C.2.2.2.1 pc Ls (.ref a :: st)) rfl (by show Ls.size = _; rw [H.2.2.1]; exact hsz) rfl (hb H.2.1 hd) hF (W := w) (cap := cap) (by show 2 * 0 + _ ≤ _; rw [hw]; omega) hL (by rw [e]; simpa using hcap) hC hS
  exact .step q (hr h' h.size rfl (by rw [← eT]; exact size_ge H X) Ex XA ⟨_, A', e, hl⟩ T' _ X' N e')
theorem k_castY {idx : Nat} {K ad : String} (H : Cx C Z own code ml ret nm E.1) (w : (Cond.classLink own idx K).before a0 Z = true) (wc : (Cond.castable ad K).before a0 Z = true) (X0 : Exa Z h a ad) (hd : decode code pc = .ok (.checkcast idx, 3)) (hr : W l R C E h k n (pc + 3) Ls (.ref a :: st)) : W l R C E h k n pc Ls (.ref a :: st) :=
  .viaT (fun T L X eT => castY X H.1 H.2.2.2.2.1 H.2.2.2.1 w eT (Ins.of_exa X0 wc) (g := mkF C.2.2.2.1 pc Ls (.ref a :: st)) rfl rfl (hb H.2.1 hd)) hr
end Typed
/-! calls -/
section Calls
variable {y : MethodName} {bytes : ByteArray} {maxL : Nat} {rt : Option FieldType} {rm : Room} {Q : Option Value → Heap → Prop} {S : List Value}
theorem Goes.trans {T T' : State} {g g' : JFrame} (q : Sp C (T.setTop g) (T'.setTop g')) (r : Goes C E (T'.setTop g')) : Goes C E (T.setTop g) := by
  obtain ⟨t, o, h1, h2⟩ := r; exact ⟨t, o, q.trans h1, h2⟩
theorem payOf {s : State} {p : Program} {e : Env} {below : List Frame} {args : Array Value} {w n0 : Nat} {as' : Array Value} (hc : Ctr l Z y bytes maxL rt rm n0 as' h Q) (hZ : Z.Warmed39 s.vm) (w4 : (Cond.code y bytes maxL rt).before a0 Z = true) (w3 : (Cond.initialized y.cls).before a0 Z = true) (hF : rm.frames + 1 ≤ R.frames) (hL : w + (maxL + 11) + rm.locals ≤ R.locals) :
    Back l R p e below s args y 3 w (fun A a => a = as' ∧ A.U.heap = h ∧ A.cells + rm.cells ≤ R.cells ∧ A.slots + rm.slots ≤ R.slots)
      (fun A _ v B => ∃ L, (Q v B.U.heap ∧ Fr n0 L) ∧ B.locs = A.locs ++ L ∧ B.cells = A.cells + rm.cells ∧ B.slots = A.slots + rm.slots) :=
  backOf (Q := fun v h L => Q v h ∧ Fr n0 L) hc hZ w4 w3 hF hL
theorem k_invS {idx : Nat} (argsL : List Value) (w : Nat) (H : Cx C Z own code ml ret nm E.1) (w1 : (Cond.methodLink own idx y).before a0 Z = true) (w2 : (Cond.static y).before a0 Z = true) (w3 : (Cond.initialized y.cls).before a0 Z = true) (w4 : (Cond.code y bytes maxL rt).before a0 Z = true)
    (hy : y.cls ≠ "java/lang/invoke/MethodHandle" ∧ y.cls ≠ "java/lang/invoke/VarHandle") (hc : E.1 ≤ h.size → Ctr l Z y bytes maxL rt rm E.1 argsL.toArray h Q) (hlen : ∀ sig, parseMethodDescriptor y.desc = some sig → argsL.length = sig.parameters.length)
    (hd : decode code pc = .ok (.invokestatic idx, 3)) (hS : S = argsL.reverse ++ st) (hsz : Ls.size = ml) (hw : (st.map fun v => v.category).sum = w) (hF : rm.frames + 1 ≤ R.frames) (hL : w + (maxL + 11) + rm.locals ≤ R.locals) (hk : k + rm.cells ≤ R.cells) (hn : n + rm.slots ≤ R.slots)
    (hr : ∀ v h', Q v h' → W l R C E h' (k + rm.cells) (n + rm.slots) (pc + 3) Ls (v.toList ++ st)) : W l R C E h k n pc Ls S := fun T L X N eT => by
  obtain ⟨v, _, ⟨T', L', k', n'⟩, -, X', ⟨Lc, ⟨hQ, hN⟩, l', y', z'⟩, q⟩ := Jvm.LawKit.callS X H.1 (y := y) H.2.2.2.1 (mvT H.2.2.2.2.1 w1) (mvT H.2.2.2.2.1 w2) (mvT H.2.2.2.2.1 w3) (mvT H.2.2.2.2.1 w4) hy (payOf (w := w) (hc (by rw [← eT]; exact size_ge H X)) H.2.2.2.2.1 w4 w3 hF hL)
    (g := mkF C.2.2.2.1 pc Ls S) rfl (by show Ls.size = _; rw [H.2.2.1]; exact hsz) (argsL := argsL) (rest := st) hlen hS (by show 2 * 0 + _ ≤ _; rw [hw]; omega) (hb H.2.1 hd) (fun _ _ => ⟨rfl, eT, hk, hn⟩)
  dsimp only [Pt.U, Pt.locs, Pt.cells, Pt.slots] at X' l' y' z' q hQ
  subst l' y' z'
  exact .step q (hr v _ hQ T' _ X' (N.app hN) rfl)
theorem k_invI {idx : Nat} {a : Addr} (argsL : List Value) (w : Nat) (H : Cx C Z own code ml ret nm E.1) (hy1 : y.name = "<init>") (w1 : (Cond.methodLink own idx y).before a0 Z = true) (w2 : (Cond.instanceMethod y).before a0 Z = true) (w3 : (Cond.initialized y.cls).before a0 Z = true) (w4 : (Cond.code y bytes maxL none).before a0 Z = true)
    (hy : y.cls ≠ "java/lang/invoke/MethodHandle" ∧ y.cls ≠ "java/lang/invoke/VarHandle") (hc : E.1 ≤ h.size → Ctr l Z y bytes maxL none rm E.1 (.ref a :: argsL).toArray h Q) (hlen : ∀ sig, parseMethodDescriptor y.desc = some sig → argsL.length = sig.parameters.length)
    (hd : decode code pc = .ok (.invokespecial idx, 3)) (hS : S = argsL.reverse ++ .ref a :: st) (hsz : Ls.size = ml) (hw : (st.map fun v => v.category).sum = w) (hF : rm.frames + 1 ≤ R.frames) (hL : w + (maxL + 11) + rm.locals ≤ R.locals) (hk : k + rm.cells ≤ R.cells) (hn : n + rm.slots ≤ R.slots)
    (hr : ∀ v h', Q v h' → W l R C E h' (k + rm.cells) (n + rm.slots) (pc + 3) Ls (v.toList ++ st)) : W l R C E h k n pc Ls S := fun T L X N eT => by
  obtain ⟨v, _, ⟨T', L', k', n'⟩, -, X', ⟨Lc, ⟨hQ, hN⟩, l', y', z'⟩, q⟩ := X.specialBack H.1 (y := y) hy1 H.2.2.2.1 (mvT H.2.2.2.2.1 w1) (mvT H.2.2.2.2.1 w2) (mvT H.2.2.2.2.1 w4) hy (payOf (w := w) (hc (by rw [← eT]; exact size_ge H X)) H.2.2.2.2.1 w4 w3 hF hL)
    (g := mkF C.2.2.2.1 pc Ls S) rfl (by show Ls.size = _; rw [H.2.2.1]; exact hsz) (Steps.refl _) (a := a) (argsL := argsL) (rest := st) hlen hS (by show 2 * 0 + _ ≤ _; rw [hw]; omega) (hb H.2.1 hd) (fun _ _ => ⟨rfl, eT, hk, hn⟩)
  dsimp only [Pt.U, Pt.locs, Pt.cells, Pt.slots] at X' l' y' z' q hQ
  subst l' y' z'
  exact .trans q (hr v _ hQ T' _ X' (N.app hN) rfl)
theorem k_invV {idx : Nat} {a : Addr} {cls : String} (argsL : List Value) (w : Nat) (H : Cx C Z own code ml ret nm E.1) (w1 : (Cond.methodLink own idx y).before a0 Z = true) (w2 : (Cond.declares y).before a0 Z = true) (w5 : (Cond.selects cls y y).before a0 Z = true) (w6 : (Cond.instanceMethod y).before a0 Z = true) (w3 : (Cond.initialized y.cls).before a0 Z = true) (w4 : (Cond.code y bytes maxL rt).before a0 Z = true)
    (hcl : y.cls = cls) (hy : y.cls ≠ "java/lang/invoke/MethodHandle" ∧ y.cls ≠ "java/lang/invoke/VarHandle") (X0 : Exa Z h a cls) (hc : E.1 ≤ h.size → Ctr l Z y bytes maxL rt rm E.1 (.ref a :: argsL).toArray h Q) (hlen : ∀ sig, parseMethodDescriptor y.desc = some sig → argsL.length = sig.parameters.length)
    (hd : decode code pc = .ok (.invokevirtual idx, 3)) (hS : S = argsL.reverse ++ .ref a :: st) (hsz : Ls.size = ml) (hw : (st.map fun v => v.category).sum = w) (hF : rm.frames + 1 ≤ R.frames) (hL : w + (maxL + 11) + rm.locals ≤ R.locals) (hk : k + rm.cells ≤ R.cells) (hn : n + rm.slots ≤ R.slots)
    (hr : ∀ v h', Q v h' → W l R C E h' (k + rm.cells) (n + rm.slots) (pc + 3) Ls (v.toList ++ st)) : W l R C E h k n pc Ls S := fun T L X N eT => by
  subst hcl
  obtain ⟨cq, kq, qa, qb, qc⟩ := isOf H.2.2.2.2.1 eT X0
  obtain ⟨v, _, ⟨T', L', k', n'⟩, -, X', ⟨Lc, ⟨hQ, hN⟩, l', y', z'⟩, q⟩ := X.virtualBack H.1 (y := y) (z := y) H.2.2.2.1 (mvT H.2.2.2.2.1 w1) (mvT H.2.2.2.2.1 w2) (notFace_of_selects (args := #[]) (mvT H.2.2.2.2.1 w5)) (mvT H.2.2.2.2.1 w5) (mvT H.2.2.2.2.1 w6) hy (payOf (w := w) (hc (by rw [← eT]; exact size_ge H X)) H.2.2.2.2.1 w4 w3 hF hL) qa qc
    (g := mkF C.2.2.2.1 pc Ls S) rfl (by show Ls.size = _; rw [H.2.2.1]; exact hsz) (Steps.refl _) (argsL := argsL) (rest := st) hlen hS (by show 2 * 0 + _ ≤ _; rw [hw]; omega) (hb H.2.1 hd) (fun _ _ => ⟨rfl, eT, hk, hn⟩)
  dsimp only [Pt.U, Pt.locs, Pt.cells, Pt.slots] at X' l' y' z' q hQ
  subst l' y' z'
  exact .trans q (hr v _ hQ T' _ X' (N.app hN) rfl)
theorem Ctr.of {n0 : Nat} {as' : Array Value} (Ls : Array Slot) (hp : plainName y.cls = true) (hn0 : n0 ≤ h.size) (hef : ∀ m, entryFrame m as' maxL = mkF m 0 Ls []) (hW : ∀ C : Cxt, Cx C Z y.cls bytes maxL rt y.name n0 → W l rm C (n0, rm.cells, rm.slots, Q) h 0 0 0 Ls []) : Ctr l Z y bytes maxL rt rm n0 as' h Q := by
  refine MetFree.of_bodySF (plainFor_of_name hp) hisR ?_
  intro p e s m args below meth c s₁ Bd hml0 hP hK
  obtain ⟨rfl, hZ, hh⟩ := hP
  have hnm := (name_of_methodNamed Bd.named Bd.method).1
  have X0 : Stand p l e rm s m args below meth c s₁ [] 0 0 := Stand.of_body Bd
  have e0 : s₁.heap = h := by rw [← hh, Bd.state]; rfl
  obtain ⟨t, o, h1, h2, h3, v, L, h4, h5, h6⟩ := hW (p, e, s, m, args, below, meth, c) ⟨Bd.exec, Bd.bytes, hml0, findClass_of_methodNamed Bd.named, hZ, Bd.returns, Bd.notSynchronized, hnm, by rw [hh]; exact hn0⟩ s₁ [] X0 (Fr.nil n0) e0
  exact ⟨t, o, castTop (hef m) h1, h2, h3, v, L, h4, h5, h6⟩
/-- the judged body itself -/
theorem met_of {n0 K N : Nat} {ws : List Jvm.Cond} {as' : Array Value} (Ls : Array Slot) (hp : plainName y.cls = true) (hn0 : n0 ≤ h.size) (hef : ∀ m, entryFrame m as' maxL = mkF m 0 Ls []) (hW : ∀ C : Cxt, Cx C Z y.cls bytes maxL rt y.name n0 → W l rm C (n0, K, N, Q) h 0 0 0 Ls []) :
    MetFree l y (head1 (Cond.code y bytes maxL rt :: ws) rm) (fun a U => a = as' ∧ Z.Warmed39 U.vm ∧ U.heap = h) (fun _ _ _ _ _ => True) (fun _ U o U' => ∃ v L, o = .returned v ∧ (Q v U'.heap ∧ Fr n0 L) ∧ FrameEnd U o U' L K N) := by
  refine MetFree.of_bodySF (plainFor_of_name hp) hisR ?_
  intro p e s m args below meth c s₁ Bd hml0 hP hK
  obtain ⟨rfl, hZ, hh⟩ := hP
  have hnm := (name_of_methodNamed Bd.named Bd.method).1
  have X0 : Stand p l e rm s m args below meth c s₁ [] 0 0 := Stand.of_body Bd
  have e0 : s₁.heap = h := by rw [← hh, Bd.state]; rfl
  obtain ⟨t, o, h1, h2, h3, v, L, h4, h5, h6⟩ := hW (p, e, s, m, args, below, meth, c) ⟨Bd.exec, Bd.bytes, hml0, findClass_of_methodNamed Bd.named, hZ, Bd.returns, Bd.notSynchronized, hnm, by rw [hh]; exact hn0⟩ s₁ [] X0 (Fr.nil n0) e0
  exact ⟨t, o, castTop (hef m) h1, h2, h3, v, L, h4, h5, h6⟩
end Calls
/-! ends -/
theorem k_retInt {x : Int32} (H : Cx C Z own code ml (some .int) nm E.1) (hd : decode code pc = .ok (.ireturn, 1)) (hk : k ≤ E.2.1) (hn : n ≤ E.2.2.1) (hq : E.2.2.2 (some (.int x)) h) : W l R C E h k n pc Ls (.int x :: st) := fun T L X N eT => by
  obtain ⟨fs, hr, hrun, hend, hW, hs⟩ := X.leave (v := some (.int x)) (fun z => by rw [H.2.2.2.2.2.1] at z; cases z) H.2.2.2.2.2.2.1
  exact ⟨_, _, retOut X H.1 H.2.2.2.2.2.1 rfl (Or.inl ⟨rfl, Or.inl rfl, _, rfl⟩) (hb H.2.1 hd) hr, hrun, hend, _, L, rfl, ⟨by subst eT; exact hq, N⟩, ⟨_, rfl⟩, hW, hs.mono hk hn⟩
theorem k_retN' {x : Int32} {t : FieldType} (ht : t = .boolean ∨ t = .byte ∨ t = .char ∨ t = .short) (H : Cx C Z own code ml (some t) nm E.1) (hd : decode code pc = .ok (.ireturn, 1)) (hk : k ≤ E.2.1) (hn : n ≤ E.2.2.1) (hq : E.2.2.2 (some (.int (nar t x))) h) : W l R C E h k n pc Ls (.int x :: st) := fun T L X N eT => by
  obtain ⟨fs, hr, hrun, hend, hW, hs⟩ := X.leave (v := some (.int (nar t x))) (fun z => by rw [H.2.2.2.2.2.1] at z; cases z) H.2.2.2.2.2.2.1
  exact ⟨_, _, retN X H.1 H.2.2.2.2.2.1 ht (hb H.2.1 hd) hr, hrun, hend, _, L, rfl, ⟨by subst eT; exact hq, N⟩, ⟨_, rfl⟩, hW, hs.mono hk hn⟩
theorem k_retLong {x : Int64} (H : Cx C Z own code ml (some .long) nm E.1) (hd : decode code pc = .ok (.lreturn, 1)) (hk : k ≤ E.2.1) (hn : n ≤ E.2.2.1) (hq : E.2.2.2 (some (.long x)) h) : W l R C E h k n pc Ls (.long x :: st) := fun T L X N eT => by
  obtain ⟨fs, hr, hrun, hend, hW, hs⟩ := X.leave (v := some (.long x)) (fun z => by rw [H.2.2.2.2.2.1] at z; cases z) H.2.2.2.2.2.2.1
  exact ⟨_, _, retOut X H.1 H.2.2.2.2.2.1 rfl (Or.inr (Or.inl ⟨rfl, rfl, _, rfl⟩)) (hb H.2.1 hd) hr, hrun, hend, _, L, rfl, ⟨by subst eT; exact hq, N⟩, ⟨_, rfl⟩, hW, hs.mono hk hn⟩
theorem k_retRef {a : Addr} {t : FieldType} (ht : t.isReference = true) (hnar : narrow t (.ref a) = .ref a) (H : Cx C Z own code ml (some t) nm E.1) (hd : decode code pc = .ok (.areturn, 1)) (hk : k ≤ E.2.1) (hn : n ≤ E.2.2.1) (hq : E.2.2.2 (some (.ref a)) h) : W l R C E h k n pc Ls (.ref a :: st) := fun T L X N eT => by
  obtain ⟨fs, hr, hrun, hend, hW, hs⟩ := X.leave (v := some (.ref a)) (fun z => by rw [H.2.2.2.2.2.1] at z; cases z) H.2.2.2.2.2.2.1
  exact ⟨_, _, retOut X H.1 H.2.2.2.2.2.1 hnar (Or.inr (Or.inr (Or.inr (Or.inr ⟨rfl, ht, rfl⟩)))) (hb H.2.1 hd) hr, hrun, hend, _, L, rfl, ⟨by subst eT; exact hq, N⟩, ⟨_, rfl⟩, hW, hs.mono hk hn⟩
theorem k_retVoid (H : Cx C Z own code ml none nm E.1) (hd : decode code pc = .ok (.return_, 1)) (hk : k ≤ E.2.1) (hn : n ≤ E.2.2.1) (hq : E.2.2.2 none h) : W l R C E h k n pc Ls [] := fun T L X N eT => by
  obtain ⟨fs, hr, hrun, hend, hW, hs⟩ := X.leave (v := none) (fun _ => rfl) H.2.2.2.2.2.2.1
  exact ⟨_, _, X.returnOut H.1 H.2.2.2.2.2.1 (hb H.2.1 hd) hr, hrun, hend, _, L, rfl, ⟨by subst eT; exact hq, N⟩, ⟨_, rfl⟩, hW, hs.mono hk hn⟩
end Own
end Jvm.OwnKit
namespace Jvm.OwnKit
/-! small naturals as ints -/
theorem lt_nat {x y : Int32} {i j : Nat} (hx : x.toInt = (i : Int)) (hy : y.toInt = (j : Int)) : x < y ↔ i < j := by rw [Int32.lt_iff_toInt_lt, hx, hy]; omega
theorem eq_nat {x y : Int32} {i j : Nat} (hx : x.toInt = (i : Int)) (hy : y.toInt = (j : Int)) : x = y ↔ i = j := by rw [← Int32.toInt_inj, hx, hy]; omega
theorem add_nat {x y : Int32} {i j : Nat} (hx : x.toInt = (i : Int)) (hy : y.toInt = (j : Int)) (hb : i + j < 2147483648) : (x + y).toInt = ((i + j : Nat) : Int) := by rw [Jvm.Kit.i32_add] <;> rw [hx, hy] <;> omega
theorem sub_nat {x y : Int32} {i j : Nat} (hx : x.toInt = (i : Int)) (hy : y.toInt = (j : Int)) (hb : j ≤ i) : (x - y).toInt = ((i - j : Nat) : Int) := by have := x.toInt_lt; rw [Jvm.Kit.i32_sub] <;> rw [hx, hy] <;> omega
theorem mul_nat {x y : Int32} {i j : Nat} (hx : x.toInt = (i : Int)) (hy : y.toInt = (j : Int)) (hb : i * j < 2147483648) : (x * y).toInt = ((i * j : Nat) : Int) := by
  have e : (i : Int) * (j : Int) = ((i * j : Nat) : Int) := by simp
  rw [Jvm.Kit.i32_mul] <;> rw [hx, hy, e] <;> omega
theorem rem_nat {x y : Int32} {i j : Nat} (hx : x.toInt = (i : Int)) (hy : y.toInt = (j : Int)) : (x % y).toInt = ((i % j : Nat) : Int) := by rw [Jvm.Kit.i32_rem_nonneg (by omega), hx, hy]; simp
theorem nat_of_nonneg {x : Int32} (h : 0 ≤ x.toInt) : ∃ i : Nat, x.toInt = (i : Int) ∧ i < 2147483648 := ⟨x.toInt.toNat, by omega, by have := x.toInt_lt; omega⟩
/-- a mask of k ones: a natural below 2 ^ k -/
theorem mask_nat (x m : Int32) (k : Nat) (hk : k < 32) (hm : m.toBitVec.toNat = 2 ^ k - 1) : ∃ i : Nat, (x &&& m).toInt = (i : Int) ∧ i < 2 ^ k := by
  have e := Jvm.Kit.i32_mask x m hk hm
  have p : (0 : Int) < 2 ^ k := Int.pow_pos (by omega)
  have h1 := Int.emod_nonneg x.toInt (Int.ne_of_gt p)
  have h2 := Int.emod_lt_of_pos x.toInt p
  refine ⟨(x.toInt % 2 ^ k).toNat, by rw [e]; omega, ?_⟩
  have h3 : ((2 ^ k : Nat) : Int) = 2 ^ k := by simp
  omega
theorem mod_nat (x m y : Int32) (k j : Nat) (hk : k < 32) (hm : m.toBitVec.toNat = 2 ^ k - 1) (hy : y.toInt = (j : Int)) (hj : 0 < j) : ∃ i : Nat, ((x &&& m) % y).toInt = (i : Int) ∧ i < j := by
  obtain ⟨i, h1, h2⟩ := mask_nat x m k hk hm
  exact ⟨i % j, rem_nat h1 hy, Nat.mod_lt _ hj⟩
theorem div_nat {x y : Int32} {i j : Nat} (hx : x.toInt = (i : Int)) (hy : y.toInt = (j : Int)) : (x / y).toInt = ((i / j : Nat) : Int) := by
  rw [Jvm.Kit.i32_div (by omega), hx, hy]; rfl
theorem ushr_nat {x y : Int32} {i : Nat} (k : Nat) (hx : x.toInt = (i : Int)) (hy : (y &&& 31).toUInt32.toNat = k) (hk : k < 32) : (Jvm.Free.XT.ushr x y).toInt = ((i / 2 ^ k : Nat) : Int) := by
  unfold Jvm.Free.XT.ushr
  rw [Jvm.Kit.i32_iushr (by rw [Int32.le_iff_toInt_le, hx]; exact Int.natCast_nonneg _) hy hk, hx]; simp
theorem c16 (c : UInt16) : c.toUInt32.toInt32.toUInt32.toUInt16 = c := by simp
theorem b8 (b : Int8) : b.toInt32.toInt8 = b := by simp
/-- a local's slot of one word -/
def OneW (s : Slot) : Prop := s = .unset ∨ ∃ w, s = .val w ∧ w.category = 1
theorem OneW.unset : OneW .unset := Or.inl rfl
theorem OneW.int (x : Int32) : OneW (.val (.int x)) := Or.inr ⟨_, rfl, rfl⟩
theorem OneW.ref (x : Addr) : OneW (.val (.ref x)) := Or.inr ⟨_, rfl, rfl⟩
end Jvm.OwnKit
namespace Jvm.Pilot.@@N@@
open Jvm Jvm.ClassFile Sem Op Lib Jvm.Free Jvm.Stand Jvm.LawKit Jvm.RoadKit Jvm.OwnKit Bundle Jvm.Pilot.@@N@@.Jvm.D
theorem pn_0 : plainName "java/util/Arrays" = true := by first | (simp [plainName, overriddenIn]; done) | decide +kernel
theorem pd_0 : parseMethodDescriptor "(III)V" = some ⟨[.int, .int, .int], none⟩ := by decide +kernel
theorem pn_1 : plainName "com/example/terms_to_entities/termstoentities/index/TermCounts" = true := by first | (simp [plainName, overriddenIn]; done) | decide +kernel
theorem pd_1 : parseMethodDescriptor "([II)V" = some ⟨[(.array .int), .int], none⟩ := by decide +kernel
theorem pd_2 : parseMethodDescriptor "([IIII)V" = some ⟨[(.array .int), .int, .int, .int], none⟩ := by decide +kernel
theorem pn_2 : plainName "com/example/terms_to_entities/termstoentities/index/TermCountsRestLengthPinLaw" = true := by first | (simp [plainName, overriddenIn]; done) | decide +kernel
theorem pd_3 : parseMethodDescriptor "(J)V" = some ⟨[.long], none⟩ := by decide +kernel
theorem pd_4 : parseMethodDescriptor "()J" = some ⟨[], some .long⟩ := by decide +kernel
theorem pd_5 : parseMethodDescriptor "(I)V" = some ⟨[.int], none⟩ := by decide +kernel
theorem pd_6 : parseMethodDescriptor "(IJ)V" = some ⟨[.int, .long], none⟩ := by decide +kernel
def own_TC (Z : State) (h : Heap) (c w pl pr le fr : Addr) (tm : Int32) (xw xpl xpr : List Int32) (xle : List Int64) (xfr : List Int32) (wl : Int64) (pk : Int32) : Prop :=
  Exa Z h c "com/example/terms_to_entities/termstoentities/index/TermCounts" ∧ Fld Z h c "com/example/terms_to_entities/termstoentities/index/TermCounts" "terms" "I" (.int tm) ∧ Fld Z h c "com/example/terms_to_entities/termstoentities/index/TermCounts" "wholeFrequencies" "[I" (.ref w) ∧ Fld Z h c "com/example/terms_to_entities/termstoentities/index/TermCounts" "placeOfPredicate" "[I" (.ref pl) ∧ Fld Z h c "com/example/terms_to_entities/termstoentities/index/TermCounts" "predicates" "[I" (.ref pr) ∧ Fld Z h c "com/example/terms_to_entities/termstoentities/index/TermCounts" "predicateLengths" "[J" (.ref le) ∧ Fld Z h c "com/example/terms_to_entities/termstoentities/index/TermCounts" "predicateFrequencies" "[I" (.ref fr) ∧ Fld Z h c "com/example/terms_to_entities/termstoentities/index/TermCounts" "wholeLength" "J" (.long wl) ∧ Fld Z h c "com/example/terms_to_entities/termstoentities/index/TermCounts" "predicateCount" "I" (.int pk) ∧ IA Z h w xw ∧ IA Z h pl xpl ∧ IA Z h pr xpr ∧ JA Z h le xle ∧ IA Z h fr xfr
def own_Ap (n0 : Nat) (c w pl pr le fr : Addr) : Prop := n0 ≤ c ∧ n0 ≤ w ∧ n0 ≤ pl ∧ n0 ≤ pr ∧ n0 ≤ le ∧ n0 ≤ fr ∧ c ≠ w ∧ c ≠ pl ∧ c ≠ pr ∧ c ≠ le ∧ c ≠ fr ∧ w ≠ pl ∧ w ≠ pr ∧ w ≠ le ∧ w ≠ fr ∧ pl ≠ pr ∧ pl ≠ le ∧ pl ≠ fr ∧ pr ≠ le ∧ pr ≠ fr ∧ le ≠ fr
def own_fr (v : Int32) : List Int32 → Nat → Nat → List Int32
  | xs, _, 0 => xs
  | xs, i, k + 1 => own_fr v (xs.set i v) (i + 1) k
theorem own_fr_len (v : Int32) (k : Nat) : ∀ xs i, (own_fr v xs i k).length = xs.length := by
  induction k with
  | zero => intro xs i; rfl
  | succ k ih => intro xs i; rw [own_fr, ih, List.length_set]
def own_rs (xs : List Int64) : Nat → Nat → Int64 → Int64
  | _, 0, s => s
  | i, k + 1, s => own_rs xs (i + 1) k (s - xs.getD i 0)
def own_rf (f : Nat → Int32) : Nat → Nat → Int32 → Int32
  | _, 0, s => s
  | i, k + 1, s => own_rf f (i + 1) k (s - f i)
theorem own_get {α : Type} {xs : List α} {i : Nat} (d : α) (h : i < xs.length) : xs[i]? = some (xs.getD i d) := by simp [List.getD_eq_getElem?_getD, h]
theorem own_TC_le {Z : State} {h : Heap} {c w pl pr le fr : Addr} {tm : Int32} {xw xpl xpr : List Int32} {xle : List Int64} {xfr : List Int32} {wl : Int64} {pk : Int32} {ys : List Int64} (T : own_TC Z h c w pl pr le fr tm xw xpl xpr xle xfr wl pk) (e : xle = ys) : own_TC Z h c w pl pr le fr tm xw xpl xpr ys xfr wl pk := e ▸ T
theorem own_TC_fr {Z : State} {h : Heap} {c w pl pr le fr : Addr} {tm : Int32} {xw xpl xpr : List Int32} {xle : List Int64} {xfr : List Int32} {wl : Int64} {pk : Int32} {ys : List Int32} (T : own_TC Z h c w pl pr le fr tm xw xpl xpr xle xfr wl pk) (e : xfr = ys) : own_TC Z h c w pl pr le fr tm xw xpl xpr xle ys wl pk := e ▸ T
theorem own_nlt {a b n : Int32} {i j : Nat} (h : ¬ a < n) (ha : a.toInt = (i : Int)) (hb : b.toInt = (j : Int)) (hij : i ≤ j) : ¬ b < n := by
  rw [Int32.lt_iff_toInt_lt] at h ⊢; omega
theorem own_set_get {xs : List Int32} {i : Nat} {x : Int32} (h : i < xs.length) : (xs.set i x)[i]? = some x := by simp [h]
theorem d4_0 : decode jdk_65_method_103_code 0 = .ok (.iconst 0, 1) := by decide +kernel
theorem d4_1 : decode jdk_65_method_103_code 1 = .ok (.istore_n 2, 1) := by decide +kernel
theorem d4_2 : decode jdk_65_method_103_code 2 = .ok (.aload_n 0, 1) := by decide +kernel
theorem d4_3 : decode jdk_65_method_103_code 3 = .ok (.arraylength, 1) := by decide +kernel
theorem d4_4 : decode jdk_65_method_103_code 4 = .ok (.istore_n 3, 1) := by decide +kernel
theorem d4_5 : decode jdk_65_method_103_code 5 = .ok (.iload_n 2, 1) := by decide +kernel
theorem d4_6 : decode jdk_65_method_103_code 6 = .ok (.iload_n 3, 1) := by decide +kernel
theorem d4_7 : decode jdk_65_method_103_code 7 = .ok (.if_icmp .ge 13, 3) := by decide +kernel
theorem d4_10 : decode jdk_65_method_103_code 10 = .ok (.aload_n 0, 1) := by decide +kernel
theorem d4_11 : decode jdk_65_method_103_code 11 = .ok (.iload_n 2, 1) := by decide +kernel
theorem d4_12 : decode jdk_65_method_103_code 12 = .ok (.iload_n 1, 1) := by decide +kernel
theorem d4_13 : decode jdk_65_method_103_code 13 = .ok (.iastore, 1) := by decide +kernel
theorem d4_14 : decode jdk_65_method_103_code 14 = .ok (.iinc 2 1, 3) := by decide +kernel
theorem d4_17 : decode jdk_65_method_103_code 17 = .ok (.goto (-12), 3) := by decide +kernel
theorem d4_20 : decode jdk_65_method_103_code 20 = .ok (.return_, 1) := by decide +kernel
abbrev own_rm4_room : Room := { frames := 0, cells := 0, slots := 0, locals := 0 }
set_option maxRecDepth 65536 in
set_option maxHeartbeats 40000000 in
theorem rm4 (l : Launch) (Z : State) (a0 : Array Value) (hw : ∀ d ∈ tables_1, d.before a0 Z = true) (n0 : Nat) (h0 : Heap) (Z0 : n0 ≤ h0.size) (a : Addr) (xs : List Int32) (x : Int32) (ge : n0 ≤ a) (V : IA Z h0 a xs) (hlen : xs.length < 1000) :
    Ctr l Z (⟨"java/util/Arrays", "fill", "([II)V"⟩ : MethodName) jdk_65_method_103_code 4 none own_rm4_room n0 #[(.ref a), (.int x)] h0 (fun v h => v = none ∧ Keep h0 h [a] ∧ IA Z h a (own_fr x xs 0 xs.length)) := by
  refine Ctr.of #[.val (.ref a), .val (.int x), .unset, .unset] pn_0 Z0 (fun m => by first | (simp [entryFrame, mkF, argsToLocals, Value.category]; done) | rfl) ?_
  intro C H
  refine k_iconst (0 : Int32) (pc := 0) H d4_0 rfl ?_
  refine k_istoreN (pc := 1) H d4_1 (Ls' := #[.val (.ref a), .val (.int x), .val (.int (0 : Int32)), .unset]) rfl ?_
  refine k_aloadN (pc := 2) H d4_2 rfl rfl ?_
  obtain ⟨N, hN⟩ : ∃ N : Int32, N.toInt = (xs.length : Int) := ⟨xs.length.toInt32, len_toInt (by omega)⟩
  refine k_arraylength (N := N) (pc := 3) H V (by simpa using hN) d4_3 ?_
  refine k_istoreN (pc := 4) H d4_4 (Ls' := #[.val (.ref a), .val (.int x), .val (.int (0 : Int32)), .val (.int N)]) rfl ?_
  have L : ∀ (m i : Nat) (ii : Int32) (hh : Heap) (ys : List Int32) (K : Keep h0 hh [a]) (VV : IA Z hh a ys) (hi : ii.toInt = (i : Int)) (hm : i + m = xs.length) (hy : ys.length = xs.length) (hv : own_fr x xs 0 xs.length = own_fr x ys i m), W l own_rm4_room C (n0, own_rm4_room.cells, own_rm4_room.slots, fun v h => v = none ∧ Keep h0 h [a] ∧ IA Z h a (own_fr x xs 0 xs.length)) hh 0 0 5 #[.val (.ref a), .val (.int x), .val (.int ii), .val (.int N)] [] := by
    intro m
    induction m with
    | zero =>
      intro i ii hh ys K VV hi hm hy hv
      refine k_iloadN (pc := 5) H d4_5 rfl ?_
      refine k_iloadN (pc := 6) H d4_6 rfl ?_
      refine k_icmpT 20 (pc := 7) H d4_7 rfl (XT.ii_ge_t (fun q => by have := (lt_nat hi hN).mp q; omega)) ?_
      exact k_retVoid (pc := 20) H d4_20 (by show 0 ≤ own_rm4_room.cells; decide) (by show 0 ≤ own_rm4_room.slots; decide) (⟨rfl, K, by rw [hv]; exact VV⟩)
    | succ m ih =>
      intro i ii hh ys K VV hi hm hy hv
      refine k_iloadN (pc := 5) H d4_5 rfl ?_
      refine k_iloadN (pc := 6) H d4_6 rfl ?_
      refine k_icmpF (pc := 7) H d4_7 (XT.ii_ge_f ((lt_nat hi hN).mpr (by omega))) ?_
      refine k_aloadN (pc := 10) H d4_10 rfl rfl ?_
      refine k_iloadN (pc := 11) H d4_11 rfl ?_
      refine k_iloadN (pc := 12) H d4_12 rfl ?_
      refine k_iastoreT (i := i) (pc := 13) H VV (hi) (by omega) ge d4_13 ?_
      intro h1 K2 V3
      refine k_iinc (1 : Int32) (pc := 14) H d4_14 rfl rfl (Ls' := #[.val (.ref a), .val (.int x), .val (.int (ii + (1 : Int32))), .val (.int N)]) rfl ?_
      refine k_goto 5 (pc := 17) H d4_17 rfl ?_
      exact ih (i + 1) _ _ _ (K.trans K2 (allS (Or.inl (List.mem_of_getElem? (i := 0) rfl)) all0)) V3 (add_nat hi rfl (by omega)) (by omega) (by rw [List.length_set]; exact hy) (by rw [hv]; rfl)
  exact L _ 0 _ _ xs (Keep.refl _ _) V rfl (by omega) rfl rfl
theorem d7_0 : decode jdk_65_method_30_code 0 = .ok (.iload_n 1, 1) := by decide +kernel
theorem d7_1 : decode jdk_65_method_30_code 1 = .ok (.iload_n 2, 1) := by decide +kernel
theorem d7_2 : decode jdk_65_method_30_code 2 = .ok (.if_icmp .le 44, 3) := by decide +kernel
theorem d7_5 : decode jdk_65_method_30_code 5 = .ok (.new 43, 3) := by decide +kernel
theorem d7_8 : decode jdk_65_method_30_code 8 = .ok (.dup, 1) := by decide +kernel
theorem d7_9 : decode jdk_65_method_30_code 9 = .ok (.new 45, 3) := by decide +kernel
theorem d7_12 : decode jdk_65_method_30_code 12 = .ok (.dup, 1) := by decide +kernel
theorem d7_13 : decode jdk_65_method_30_code 13 = .ok (.invokespecial 47, 3) := by decide +kernel
theorem d7_16 : decode jdk_65_method_30_code 16 = .ok (.ldc 48, 2) := by decide +kernel
theorem d7_18 : decode jdk_65_method_30_code 18 = .ok (.invokevirtual 50, 3) := by decide +kernel
theorem d7_21 : decode jdk_65_method_30_code 21 = .ok (.iload_n 1, 1) := by decide +kernel
theorem d7_22 : decode jdk_65_method_30_code 22 = .ok (.invokevirtual 54, 3) := by decide +kernel
theorem d7_25 : decode jdk_65_method_30_code 25 = .ok (.ldc 57, 2) := by decide +kernel
theorem d7_27 : decode jdk_65_method_30_code 27 = .ok (.invokevirtual 50, 3) := by decide +kernel
theorem d7_30 : decode jdk_65_method_30_code 30 = .ok (.iload_n 2, 1) := by decide +kernel
theorem d7_31 : decode jdk_65_method_30_code 31 = .ok (.invokevirtual 54, 3) := by decide +kernel
theorem d7_34 : decode jdk_65_method_30_code 34 = .ok (.ldc 59, 2) := by decide +kernel
theorem d7_36 : decode jdk_65_method_30_code 36 = .ok (.invokevirtual 50, 3) := by decide +kernel
theorem d7_39 : decode jdk_65_method_30_code 39 = .ok (.invokevirtual 61, 3) := by decide +kernel
theorem d7_42 : decode jdk_65_method_30_code 42 = .ok (.invokespecial 65, 3) := by decide +kernel
theorem d7_45 : decode jdk_65_method_30_code 45 = .ok (.athrow, 1) := by decide +kernel
theorem d7_46 : decode jdk_65_method_30_code 46 = .ok (.iload_n 1, 1) := by decide +kernel
theorem d7_47 : decode jdk_65_method_30_code 47 = .ok (.ifCond .ge 12, 3) := by decide +kernel
theorem d7_50 : decode jdk_65_method_30_code 50 = .ok (.new 68, 3) := by decide +kernel
theorem d7_53 : decode jdk_65_method_30_code 53 = .ok (.dup, 1) := by decide +kernel
theorem d7_54 : decode jdk_65_method_30_code 54 = .ok (.iload_n 1, 1) := by decide +kernel
theorem d7_55 : decode jdk_65_method_30_code 55 = .ok (.invokespecial 70, 3) := by decide +kernel
theorem d7_58 : decode jdk_65_method_30_code 58 = .ok (.athrow, 1) := by decide +kernel
theorem d7_59 : decode jdk_65_method_30_code 59 = .ok (.iload_n 2, 1) := by decide +kernel
theorem d7_60 : decode jdk_65_method_30_code 60 = .ok (.iload_n 0, 1) := by decide +kernel
theorem d7_61 : decode jdk_65_method_30_code 61 = .ok (.if_icmp .le 12, 3) := by decide +kernel
theorem d7_64 : decode jdk_65_method_30_code 64 = .ok (.new 68, 3) := by decide +kernel
theorem d7_67 : decode jdk_65_method_30_code 67 = .ok (.dup, 1) := by decide +kernel
theorem d7_68 : decode jdk_65_method_30_code 68 = .ok (.iload_n 2, 1) := by decide +kernel
theorem d7_69 : decode jdk_65_method_30_code 69 = .ok (.invokespecial 70, 3) := by decide +kernel
theorem d7_72 : decode jdk_65_method_30_code 72 = .ok (.athrow, 1) := by decide +kernel
theorem d7_73 : decode jdk_65_method_30_code 73 = .ok (.return_, 1) := by decide +kernel
abbrev own_rm7_room : Room := { frames := 0, cells := 0, slots := 0, locals := 0 }
set_option maxRecDepth 65536 in
set_option maxHeartbeats 40000000 in
theorem rm7 (l : Launch) (Z : State) (a0 : Array Value) (hw : ∀ d ∈ tables_1, d.before a0 Z = true) (n0 : Nat) (h0 : Heap) (Z0 : n0 ≤ h0.size) (a b c : Int32) (h1 : ¬ c < b) (h2 : ¬ b < 0) (h3 : ¬ a < c) :
    Ctr l Z (⟨"java/util/Arrays", "rangeCheck", "(III)V"⟩ : MethodName) jdk_65_method_30_code 3 none own_rm7_room n0 #[(.int a), (.int b), (.int c)] h0 (fun v h => v = none ∧ h = h0) := by
  refine Ctr.of #[.val (.int a), .val (.int b), .val (.int c)] pn_0 Z0 (fun m => by first | (simp [entryFrame, mkF, argsToLocals, Value.category]; done) | rfl) ?_
  intro C H
  refine k_iloadN (pc := 0) H d7_0 rfl ?_
  refine k_iloadN (pc := 1) H d7_1 rfl ?_
  refine k_icmpT 46 (pc := 2) H d7_2 rfl (XT.ii_le_t (h1)) ?_
  refine k_iloadN (pc := 46) H d7_46 rfl ?_
  refine k_ifT 59 (pc := 47) H d7_47 rfl (XT.i0_ge_t (h2)) ?_
  refine k_iloadN (pc := 59) H d7_59 rfl ?_
  refine k_iloadN (pc := 60) H d7_60 rfl ?_
  refine k_icmpT 73 (pc := 61) H d7_61 rfl (XT.ii_le_t (h3)) ?_
  exact k_retVoid (pc := 73) H d7_73 (by show 0 ≤ own_rm7_room.cells; decide) (by show 0 ≤ own_rm7_room.slots; decide) (⟨rfl, rfl⟩)
theorem d6_0 : decode jdk_65_method_104_code 0 = .ok (.aload_n 0, 1) := by decide +kernel
theorem d6_1 : decode jdk_65_method_104_code 1 = .ok (.arraylength, 1) := by decide +kernel
theorem d6_2 : decode jdk_65_method_104_code 2 = .ok (.iload_n 1, 1) := by decide +kernel
theorem d6_3 : decode jdk_65_method_104_code 3 = .ok (.iload_n 2, 1) := by decide +kernel
theorem d6_4 : decode jdk_65_method_104_code 4 = .ok (.invokestatic 13, 3) := by decide +kernel
theorem d6_7 : decode jdk_65_method_104_code 7 = .ok (.iload_n 1, 1) := by decide +kernel
theorem d6_8 : decode jdk_65_method_104_code 8 = .ok (.istore 4, 2) := by decide +kernel
theorem d6_10 : decode jdk_65_method_104_code 10 = .ok (.iload 4, 2) := by decide +kernel
theorem d6_12 : decode jdk_65_method_104_code 12 = .ok (.iload_n 2, 1) := by decide +kernel
theorem d6_13 : decode jdk_65_method_104_code 13 = .ok (.if_icmp .ge 14, 3) := by decide +kernel
theorem d6_16 : decode jdk_65_method_104_code 16 = .ok (.aload_n 0, 1) := by decide +kernel
theorem d6_17 : decode jdk_65_method_104_code 17 = .ok (.iload 4, 2) := by decide +kernel
theorem d6_19 : decode jdk_65_method_104_code 19 = .ok (.iload_n 3, 1) := by decide +kernel
theorem d6_20 : decode jdk_65_method_104_code 20 = .ok (.iastore, 1) := by decide +kernel
theorem d6_21 : decode jdk_65_method_104_code 21 = .ok (.iinc 4 1, 3) := by decide +kernel
theorem d6_24 : decode jdk_65_method_104_code 24 = .ok (.goto (-14), 3) := by decide +kernel
theorem d6_27 : decode jdk_65_method_104_code 27 = .ok (.return_, 1) := by decide +kernel
abbrev own_rm6_room : Room := { frames := 1, cells := 0, slots := 0, locals := 14 }
set_option maxRecDepth 65536 in
set_option maxHeartbeats 40000000 in
theorem rm6 (l : Launch) (Z : State) (a0 : Array Value) (hw : ∀ d ∈ tables_1, d.before a0 Z = true) (n0 : Nat) (h0 : Heap) (Z0 : n0 ≤ h0.size) (a : Addr) (xs : List Int32) (bi ei x : Int32) (b e : Nat) (ge : n0 ≤ a) (V : IA Z h0 a xs) (hlen : xs.length < 1000) (hb : bi.toInt = (b : Int)) (he : ei.toInt = (e : Int)) (hbe : b ≤ e) (hel : e ≤ xs.length) :
    Ctr l Z (⟨"java/util/Arrays", "fill", "([IIII)V"⟩ : MethodName) jdk_65_method_104_code 5 none own_rm6_room n0 #[(.ref a), (.int bi), (.int ei), (.int x)] h0 (fun v h => v = none ∧ Keep h0 h [a] ∧ IA Z h a (own_fr x xs b (e - b))) := by
  refine Ctr.of #[.val (.ref a), .val (.int bi), .val (.int ei), .val (.int x), .unset] pn_0 Z0 (fun m => by first | (simp [entryFrame, mkF, argsToLocals, Value.category]; done) | rfl) ?_
  intro C H
  refine k_aloadN (pc := 0) H d6_0 rfl rfl ?_
  obtain ⟨N, hN⟩ : ∃ N : Int32, N.toInt = (xs.length : Int) := ⟨xs.length.toInt32, len_toInt (by omega)⟩
  refine k_arraylength (N := N) (pc := 1) H V (by simpa using hN) d6_1 ?_
  refine k_iloadN (pc := 2) H d6_2 rfl ?_
  refine k_iloadN (pc := 3) H d6_3 rfl ?_
  refine k_invS (y := (⟨"java/util/Arrays", "rangeCheck", "(III)V"⟩ : MethodName)) (st := []) [(.int N), (.int bi), (.int ei)] 0 (pc := 4) H (wd hw 45 rfl) (wd hw 46 rfl) (wd hw 31 rfl) (wd hw 47 rfl) (by decide) (fun z0 => rm7 l Z a0 hw n0 h0 z0 N bi ei (fun q => by have := (lt_nat he hb).mp q; omega) (fun q => by rw [Int32.lt_iff_toInt_lt, hb] at q; have : (0 : Int32).toInt = 0 := rfl; omega) (fun q => by have := (lt_nat hN he).mp q; omega)) (lenOf pd_0 rfl) d6_4 rfl rfl rfl (by decide) (by decide) (by decide) (by decide) ?_
  rintro v hx ⟨rfl, ex⟩
  rw [ex]
  clear ex hx
  show W l own_rm6_room C _ h0 0 0 7 #[.val (.ref a), .val (.int bi), .val (.int ei), .val (.int x), .unset] []
  refine k_iloadN (pc := 7) H d6_7 rfl ?_
  refine k_istore (pc := 8) H d6_8 (Ls' := #[.val (.ref a), .val (.int bi), .val (.int ei), .val (.int x), .val (.int bi)]) rfl ?_
  have L : ∀ (m i : Nat) (ii : Int32) (hh : Heap) (ys : List Int32) (K : Keep h0 hh [a]) (VV : IA Z hh a ys) (hi : ii.toInt = (i : Int)) (hm : i + m = e) (hy : ys.length = xs.length) (hv : own_fr x xs b (e - b) = own_fr x ys i m), W l own_rm6_room C (n0, own_rm6_room.cells, own_rm6_room.slots, fun v h => v = none ∧ Keep h0 h [a] ∧ IA Z h a (own_fr x xs b (e - b))) hh 0 0 10 #[.val (.ref a), .val (.int bi), .val (.int ei), .val (.int x), .val (.int ii)] [] := by
    intro m
    induction m with
    | zero =>
      intro i ii hh ys K VV hi hm hy hv
      refine k_iload (pc := 10) H d6_10 rfl ?_
      refine k_iloadN (pc := 12) H d6_12 rfl ?_
      refine k_icmpT 27 (pc := 13) H d6_13 rfl (XT.ii_ge_t (fun q => by have := (lt_nat hi he).mp q; omega)) ?_
      exact k_retVoid (pc := 27) H d6_27 (by show 0 ≤ own_rm6_room.cells; decide) (by show 0 ≤ own_rm6_room.slots; decide) (⟨rfl, K, by rw [hv]; exact VV⟩)
    | succ m ih =>
      intro i ii hh ys K VV hi hm hy hv
      refine k_iload (pc := 10) H d6_10 rfl ?_
      refine k_iloadN (pc := 12) H d6_12 rfl ?_
      refine k_icmpF (pc := 13) H d6_13 (XT.ii_ge_f ((lt_nat hi he).mpr (by omega))) ?_
      refine k_aloadN (pc := 16) H d6_16 rfl rfl ?_
      refine k_iload (pc := 17) H d6_17 rfl ?_
      refine k_iloadN (pc := 19) H d6_19 rfl ?_
      refine k_iastoreT (i := i) (pc := 20) H VV (hi) (by omega) ge d6_20 ?_
      intro h4 K5 V6
      refine k_iinc (1 : Int32) (pc := 21) H d6_21 rfl rfl (Ls' := #[.val (.ref a), .val (.int bi), .val (.int ei), .val (.int x), .val (.int (ii + (1 : Int32)))]) rfl ?_
      refine k_goto 10 (pc := 24) H d6_24 rfl ?_
      exact ih (i + 1) _ _ _ (K.trans K5 (allS (Or.inl (List.mem_of_getElem? (i := 0) rfl)) all0)) V6 (add_nat hi rfl (by omega)) (by omega) (by rw [List.length_set]; exact hy) (by rw [hv]; rfl)
  exact L _ b _ _ xs (Keep.refl _ _) V hb (by omega) rfl rfl
theorem d1_0 : decode prog_14_method_1_code 0 = .ok (.aload_n 0, 1) := by decide +kernel
theorem d1_1 : decode prog_14_method_1_code 1 = .ok (.invokespecial 1, 3) := by decide +kernel
theorem d1_4 : decode prog_14_method_1_code 4 = .ok (.aload_n 0, 1) := by decide +kernel
theorem d1_5 : decode prog_14_method_1_code 5 = .ok (.iload_n 1, 1) := by decide +kernel
theorem d1_6 : decode prog_14_method_1_code 6 = .ok (.putfield 7, 3) := by decide +kernel
theorem d1_9 : decode prog_14_method_1_code 9 = .ok (.aload_n 0, 1) := by decide +kernel
theorem d1_10 : decode prog_14_method_1_code 10 = .ok (.iload_n 1, 1) := by decide +kernel
theorem d1_11 : decode prog_14_method_1_code 11 = .ok (.newarray .int, 2) := by decide +kernel
theorem d1_13 : decode prog_14_method_1_code 13 = .ok (.putfield 13, 3) := by decide +kernel
theorem d1_16 : decode prog_14_method_1_code 16 = .ok (.aload_n 0, 1) := by decide +kernel
theorem d1_17 : decode prog_14_method_1_code 17 = .ok (.iload_n 2, 1) := by decide +kernel
theorem d1_18 : decode prog_14_method_1_code 18 = .ok (.newarray .int, 2) := by decide +kernel
theorem d1_20 : decode prog_14_method_1_code 20 = .ok (.putfield 17, 3) := by decide +kernel
theorem d1_23 : decode prog_14_method_1_code 23 = .ok (.aload_n 0, 1) := by decide +kernel
theorem d1_24 : decode prog_14_method_1_code 24 = .ok (.iload_n 3, 1) := by decide +kernel
theorem d1_25 : decode prog_14_method_1_code 25 = .ok (.newarray .int, 2) := by decide +kernel
theorem d1_27 : decode prog_14_method_1_code 27 = .ok (.putfield 20, 3) := by decide +kernel
theorem d1_30 : decode prog_14_method_1_code 30 = .ok (.aload_n 0, 1) := by decide +kernel
theorem d1_31 : decode prog_14_method_1_code 31 = .ok (.iload_n 3, 1) := by decide +kernel
theorem d1_32 : decode prog_14_method_1_code 32 = .ok (.newarray .long, 2) := by decide +kernel
theorem d1_34 : decode prog_14_method_1_code 34 = .ok (.putfield 23, 3) := by decide +kernel
theorem d1_37 : decode prog_14_method_1_code 37 = .ok (.aload_n 0, 1) := by decide +kernel
theorem d1_38 : decode prog_14_method_1_code 38 = .ok (.iload_n 3, 1) := by decide +kernel
theorem d1_39 : decode prog_14_method_1_code 39 = .ok (.iload_n 1, 1) := by decide +kernel
theorem d1_40 : decode prog_14_method_1_code 40 = .ok (.imul, 1) := by decide +kernel
theorem d1_41 : decode prog_14_method_1_code 41 = .ok (.newarray .int, 2) := by decide +kernel
theorem d1_43 : decode prog_14_method_1_code 43 = .ok (.putfield 27, 3) := by decide +kernel
theorem d1_46 : decode prog_14_method_1_code 46 = .ok (.return_, 1) := by decide +kernel
abbrev own_rm1_room : Room := { frames := 1, cells := 5, slots := 13, locals := 12 }
set_option maxRecDepth 65536 in
set_option maxHeartbeats 40000000 in
theorem rm1 (l : Launch) (Z : State) (a0 : Array Value) (hw : ∀ d ∈ tables_1, d.before a0 Z = true) (n0 : Nat) (h0 : Heap) (Z0 : n0 ≤ h0.size) (c : Addr) (ge_c : n0 ≤ c) (X : Exa Z h0 c "com/example/terms_to_entities/termstoentities/index/TermCounts") (F_terms : Fld Z h0 c "com/example/terms_to_entities/termstoentities/index/TermCounts" "terms" "I" (.int (0 : Int32))) (F_wholeFrequencies : Fld Z h0 c "com/example/terms_to_entities/termstoentities/index/TermCounts" "wholeFrequencies" "[I" .null) (F_placeOfPredicate : Fld Z h0 c "com/example/terms_to_entities/termstoentities/index/TermCounts" "placeOfPredicate" "[I" .null) (F_predicates : Fld Z h0 c "com/example/terms_to_entities/termstoentities/index/TermCounts" "predicates" "[I" .null) (F_predicateLengths : Fld Z h0 c "com/example/terms_to_entities/termstoentities/index/TermCounts" "predicateLengths" "[J" .null) (F_predicateFrequencies : Fld Z h0 c "com/example/terms_to_entities/termstoentities/index/TermCounts" "predicateFrequencies" "[I" .null) (F_wholeLength : Fld Z h0 c "com/example/terms_to_entities/termstoentities/index/TermCounts" "wholeLength" "J" (.long (0 : Int64))) (F_predicateCount : Fld Z h0 c "com/example/terms_to_entities/termstoentities/index/TermCounts" "predicateCount" "I" (.int (0 : Int32))) :
    Ctr l Z (⟨"com/example/terms_to_entities/termstoentities/index/TermCounts", "<init>", "(III)V"⟩ : MethodName) prog_14_method_1_code 4 none own_rm1_room n0 #[(.ref c), (.int (1 : Int32)), (.int (3 : Int32)), (.int (3 : Int32))] h0 (fun v h => v = none ∧ ∃ w pl pr le fr : Addr, own_Ap n0 c w pl pr le fr ∧ (h0.size ≤ w ∧ h0.size ≤ pl ∧ h0.size ≤ pr ∧ h0.size ≤ le ∧ h0.size ≤ fr) ∧ Keep h0 h [c] ∧ own_TC Z h c w pl pr le fr 1 (List.replicate 1 0) (List.replicate 3 0) (List.replicate 3 0) (List.replicate 3 0) (List.replicate 3 0) 0 0) := by
  refine Ctr.of #[.val (.ref c), .val (.int (1 : Int32)), .val (.int (3 : Int32)), .val (.int (3 : Int32))] pn_1 Z0 (fun m => by first | (simp [entryFrame, mkF, argsToLocals, Value.category]; done) | rfl) ?_
  intro C H
  refine k_aloadN (pc := 0) H d1_0 rfl rfl ?_
  refine k_initObj (w := 0) (pc := 1) H (wd hw 7 rfl) (wd hw 8 rfl) (wd hw 9 rfl) d1_1 rfl (by decide) rfl (by decide) ?_
  refine k_aloadN (pc := 4) H d1_4 rfl rfl ?_
  refine k_iloadN (pc := 5) H d1_5 rfl ?_
  refine k_putfield .int (pc := 6) H (wd hw 10 rfl) F_terms X (Or.inr ⟨(wd hw 11 rfl), rfl, rfl⟩) (wd hw 2 rfl) (by decide) rfl rfl ge_c d1_6 ?_
  intro h7 Wr8 f9
  have KW10 : Keep h0 h7 [c] := (Keep.refl h0 [c]).wr Wr8 (Or.inl (List.mem_of_getElem? (i := 0) rfl))
  have f11 : Exa Z h7 c "com/example/terms_to_entities/termstoentities/index/TermCounts" := Jvm.RoadKit.Exa.wr Wr8 X
  have f12 : Fld Z h7 c "com/example/terms_to_entities/termstoentities/index/TermCounts" "wholeFrequencies" "[I" .null := Jvm.RoadKit.Fld.other Wr8 F_wholeFrequencies (Or.inr (slot_ne (t := (.array .int)) (t' := .int) (Or.inr (wd hw 14 rfl)) (Or.inr (wd hw 11 rfl)) (by decide) (by decide) (by decide)))
  have f13 : Fld Z h7 c "com/example/terms_to_entities/termstoentities/index/TermCounts" "placeOfPredicate" "[I" .null := Jvm.RoadKit.Fld.other Wr8 F_placeOfPredicate (Or.inr (slot_ne (t := (.array .int)) (t' := .int) (Or.inr (wd hw 16 rfl)) (Or.inr (wd hw 11 rfl)) (by decide) (by decide) (by decide)))
  have f14 : Fld Z h7 c "com/example/terms_to_entities/termstoentities/index/TermCounts" "predicates" "[I" .null := Jvm.RoadKit.Fld.other Wr8 F_predicates (Or.inr (slot_ne (t := (.array .int)) (t' := .int) (Or.inr (wd hw 18 rfl)) (Or.inr (wd hw 11 rfl)) (by decide) (by decide) (by decide)))
  have f15 : Fld Z h7 c "com/example/terms_to_entities/termstoentities/index/TermCounts" "predicateLengths" "[J" .null := Jvm.RoadKit.Fld.other Wr8 F_predicateLengths (Or.inr (slot_ne (t := (.array .long)) (t' := .int) (Or.inr (wd hw 21 rfl)) (Or.inr (wd hw 11 rfl)) (by decide) (by decide) (by decide)))
  have f16 : Fld Z h7 c "com/example/terms_to_entities/termstoentities/index/TermCounts" "predicateFrequencies" "[I" .null := Jvm.RoadKit.Fld.other Wr8 F_predicateFrequencies (Or.inr (slot_ne (t := (.array .int)) (t' := .int) (Or.inr (wd hw 23 rfl)) (Or.inr (wd hw 11 rfl)) (by decide) (by decide) (by decide)))
  have f17 : Fld Z h7 c "com/example/terms_to_entities/termstoentities/index/TermCounts" "wholeLength" "J" (.long (0 : Int64)) := Jvm.RoadKit.Fld.other Wr8 F_wholeLength (Or.inr (slot_ne (t := .long) (t' := .int) (Or.inl (wd hw 34 rfl)) (Or.inr (wd hw 11 rfl)) (by decide) (by decide) (by decide)))
  have f18 : Fld Z h7 c "com/example/terms_to_entities/termstoentities/index/TermCounts" "predicateCount" "I" (.int (0 : Int32)) := Jvm.RoadKit.Fld.other Wr8 F_predicateCount (Or.inr (slot_ne (t := .int) (t' := .int) (Or.inl (wd hw 36 rfl)) (Or.inr (wd hw 11 rfl)) (by decide) (by decide) (by decide)))
  refine k_aloadN (pc := 9) H d1_9 rfl rfl ?_
  refine k_iloadN (pc := 10) H d1_10 rfl ?_
  refine k_new_int (1) 1 (pc := 11) H (wd hw 12 rfl) d1_11 (by decide) (by decide) (by decide) (by decide) (by decide) ?_
  intro h20 w ea21 ge22 E23 XA19 V24
  have fr25 : h0.size ≤ w := by rw [ea21]; exact KW10.1
  have ne26 : c ≠ w := Nat.ne_of_lt (by rw [ea21]; exact f11.lt)
  have KW27 : Keep h0 h20 [c] := KW10.ext E23
  have f28 : Exa Z h20 c "com/example/terms_to_entities/termstoentities/index/TermCounts" := Jvm.RoadKit.Exa.ext E23 f11
  have f29 : Fld Z h20 c "com/example/terms_to_entities/termstoentities/index/TermCounts" "wholeFrequencies" "[I" .null := Jvm.RoadKit.Fld.ext E23 f12
  have f30 : Fld Z h20 c "com/example/terms_to_entities/termstoentities/index/TermCounts" "placeOfPredicate" "[I" .null := Jvm.RoadKit.Fld.ext E23 f13
  have f31 : Fld Z h20 c "com/example/terms_to_entities/termstoentities/index/TermCounts" "predicates" "[I" .null := Jvm.RoadKit.Fld.ext E23 f14
  have f32 : Fld Z h20 c "com/example/terms_to_entities/termstoentities/index/TermCounts" "predicateLengths" "[J" .null := Jvm.RoadKit.Fld.ext E23 f15
  have f33 : Fld Z h20 c "com/example/terms_to_entities/termstoentities/index/TermCounts" "predicateFrequencies" "[I" .null := Jvm.RoadKit.Fld.ext E23 f16
  have f34 : Fld Z h20 c "com/example/terms_to_entities/termstoentities/index/TermCounts" "wholeLength" "J" (.long (0 : Int64)) := Jvm.RoadKit.Fld.ext E23 f17
  have f35 : Fld Z h20 c "com/example/terms_to_entities/termstoentities/index/TermCounts" "predicateCount" "I" (.int (0 : Int32)) := Jvm.RoadKit.Fld.ext E23 f18
  have f36 : Fld Z h20 c "com/example/terms_to_entities/termstoentities/index/TermCounts" "terms" "I" (.int (1 : Int32)) := Jvm.RoadKit.Fld.ext E23 f9
  refine k_putfield (.array .int) (pc := 13) H (wd hw 13 rfl) f29 f28 (Or.inr ⟨(wd hw 14 rfl), rfl, rfl⟩) (wd hw 2 rfl) (by decide) rfl rfl ge_c d1_13 ?_
  intro h37 Wr38 f39
  have KW40 : Keep h0 h37 [c] := KW27.wr Wr38 (Or.inl (List.mem_of_getElem? (i := 0) rfl))
  have f41 : Exa Z h37 c "com/example/terms_to_entities/termstoentities/index/TermCounts" := Jvm.RoadKit.Exa.wr Wr38 f28
  have f42 : Fld Z h37 c "com/example/terms_to_entities/termstoentities/index/TermCounts" "placeOfPredicate" "[I" .null := Jvm.RoadKit.Fld.other Wr38 f30 (Or.inr (slot_ne (t := (.array .int)) (t' := (.array .int)) (Or.inr (wd hw 16 rfl)) (Or.inr (wd hw 14 rfl)) (by decide) (by decide) (by decide)))
  have f43 : Fld Z h37 c "com/example/terms_to_entities/termstoentities/index/TermCounts" "predicates" "[I" .null := Jvm.RoadKit.Fld.other Wr38 f31 (Or.inr (slot_ne (t := (.array .int)) (t' := (.array .int)) (Or.inr (wd hw 18 rfl)) (Or.inr (wd hw 14 rfl)) (by decide) (by decide) (by decide)))
  have f44 : Fld Z h37 c "com/example/terms_to_entities/termstoentities/index/TermCounts" "predicateLengths" "[J" .null := Jvm.RoadKit.Fld.other Wr38 f32 (Or.inr (slot_ne (t := (.array .long)) (t' := (.array .int)) (Or.inr (wd hw 21 rfl)) (Or.inr (wd hw 14 rfl)) (by decide) (by decide) (by decide)))
  have f45 : Fld Z h37 c "com/example/terms_to_entities/termstoentities/index/TermCounts" "predicateFrequencies" "[I" .null := Jvm.RoadKit.Fld.other Wr38 f33 (Or.inr (slot_ne (t := (.array .int)) (t' := (.array .int)) (Or.inr (wd hw 23 rfl)) (Or.inr (wd hw 14 rfl)) (by decide) (by decide) (by decide)))
  have f46 : Fld Z h37 c "com/example/terms_to_entities/termstoentities/index/TermCounts" "wholeLength" "J" (.long (0 : Int64)) := Jvm.RoadKit.Fld.other Wr38 f34 (Or.inr (slot_ne (t := .long) (t' := (.array .int)) (Or.inl (wd hw 34 rfl)) (Or.inr (wd hw 14 rfl)) (by decide) (by decide) (by decide)))
  have f47 : Fld Z h37 c "com/example/terms_to_entities/termstoentities/index/TermCounts" "predicateCount" "I" (.int (0 : Int32)) := Jvm.RoadKit.Fld.other Wr38 f35 (Or.inr (slot_ne (t := .int) (t' := (.array .int)) (Or.inl (wd hw 36 rfl)) (Or.inr (wd hw 14 rfl)) (by decide) (by decide) (by decide)))
  have f48 : Fld Z h37 c "com/example/terms_to_entities/termstoentities/index/TermCounts" "terms" "I" (.int (1 : Int32)) := Jvm.RoadKit.Fld.other Wr38 f36 (Or.inr (slot_ne (t := .int) (t' := (.array .int)) (Or.inr (wd hw 11 rfl)) (Or.inr (wd hw 14 rfl)) (by decide) (by decide) (by decide)))
  have f49 : IA Z h37 w (List.replicate (1) 0) := V24.other Wr38 (Ne.symm ne26)
  refine k_aloadN (pc := 16) H d1_16 rfl rfl ?_
  refine k_iloadN (pc := 17) H d1_17 rfl ?_
  refine k_new_int (3) 3 (pc := 18) H (wd hw 12 rfl) d1_18 (by decide) (by decide) (by decide) (by decide) (by decide) ?_
  intro h51 pl ea52 ge53 E54 XA50 V55
  have fr56 : h0.size ≤ pl := by rw [ea52]; exact KW40.1
  have ne57 : c ≠ pl := Nat.ne_of_lt (by rw [ea52]; exact f41.lt)
  have ne58 : w ≠ pl := Nat.ne_of_lt (by rw [ea52]; exact f49.lt)
  have KW59 : Keep h0 h51 [c] := KW40.ext E54
  have f60 : Exa Z h51 c "com/example/terms_to_entities/termstoentities/index/TermCounts" := Jvm.RoadKit.Exa.ext E54 f41
  have f61 : Fld Z h51 c "com/example/terms_to_entities/termstoentities/index/TermCounts" "placeOfPredicate" "[I" .null := Jvm.RoadKit.Fld.ext E54 f42
  have f62 : Fld Z h51 c "com/example/terms_to_entities/termstoentities/index/TermCounts" "predicates" "[I" .null := Jvm.RoadKit.Fld.ext E54 f43
  have f63 : Fld Z h51 c "com/example/terms_to_entities/termstoentities/index/TermCounts" "predicateLengths" "[J" .null := Jvm.RoadKit.Fld.ext E54 f44
  have f64 : Fld Z h51 c "com/example/terms_to_entities/termstoentities/index/TermCounts" "predicateFrequencies" "[I" .null := Jvm.RoadKit.Fld.ext E54 f45
  have f65 : Fld Z h51 c "com/example/terms_to_entities/termstoentities/index/TermCounts" "wholeLength" "J" (.long (0 : Int64)) := Jvm.RoadKit.Fld.ext E54 f46
  have f66 : Fld Z h51 c "com/example/terms_to_entities/termstoentities/index/TermCounts" "predicateCount" "I" (.int (0 : Int32)) := Jvm.RoadKit.Fld.ext E54 f47
  have f67 : Fld Z h51 c "com/example/terms_to_entities/termstoentities/index/TermCounts" "terms" "I" (.int (1 : Int32)) := Jvm.RoadKit.Fld.ext E54 f48
  have f68 : IA Z h51 w (List.replicate (1) 0) := f49.ext E54
  have f69 : Fld Z h51 c "com/example/terms_to_entities/termstoentities/index/TermCounts" "wholeFrequencies" "[I" (.ref w) := Jvm.RoadKit.Fld.ext E54 f39
  refine k_putfield (.array .int) (pc := 20) H (wd hw 15 rfl) f61 f60 (Or.inr ⟨(wd hw 16 rfl), rfl, rfl⟩) (wd hw 2 rfl) (by decide) rfl rfl ge_c d1_20 ?_
  intro h70 Wr71 f72
  have KW73 : Keep h0 h70 [c] := KW59.wr Wr71 (Or.inl (List.mem_of_getElem? (i := 0) rfl))
  have f74 : Exa Z h70 c "com/example/terms_to_entities/termstoentities/index/TermCounts" := Jvm.RoadKit.Exa.wr Wr71 f60
  have f75 : Fld Z h70 c "com/example/terms_to_entities/termstoentities/index/TermCounts" "predicates" "[I" .null := Jvm.RoadKit.Fld.other Wr71 f62 (Or.inr (slot_ne (t := (.array .int)) (t' := (.array .int)) (Or.inr (wd hw 18 rfl)) (Or.inr (wd hw 16 rfl)) (by decide) (by decide) (by decide)))
  have f76 : Fld Z h70 c "com/example/terms_to_entities/termstoentities/index/TermCounts" "predicateLengths" "[J" .null := Jvm.RoadKit.Fld.other Wr71 f63 (Or.inr (slot_ne (t := (.array .long)) (t' := (.array .int)) (Or.inr (wd hw 21 rfl)) (Or.inr (wd hw 16 rfl)) (by decide) (by decide) (by decide)))
  have f77 : Fld Z h70 c "com/example/terms_to_entities/termstoentities/index/TermCounts" "predicateFrequencies" "[I" .null := Jvm.RoadKit.Fld.other Wr71 f64 (Or.inr (slot_ne (t := (.array .int)) (t' := (.array .int)) (Or.inr (wd hw 23 rfl)) (Or.inr (wd hw 16 rfl)) (by decide) (by decide) (by decide)))
  have f78 : Fld Z h70 c "com/example/terms_to_entities/termstoentities/index/TermCounts" "wholeLength" "J" (.long (0 : Int64)) := Jvm.RoadKit.Fld.other Wr71 f65 (Or.inr (slot_ne (t := .long) (t' := (.array .int)) (Or.inl (wd hw 34 rfl)) (Or.inr (wd hw 16 rfl)) (by decide) (by decide) (by decide)))
  have f79 : Fld Z h70 c "com/example/terms_to_entities/termstoentities/index/TermCounts" "predicateCount" "I" (.int (0 : Int32)) := Jvm.RoadKit.Fld.other Wr71 f66 (Or.inr (slot_ne (t := .int) (t' := (.array .int)) (Or.inl (wd hw 36 rfl)) (Or.inr (wd hw 16 rfl)) (by decide) (by decide) (by decide)))
  have f80 : Fld Z h70 c "com/example/terms_to_entities/termstoentities/index/TermCounts" "terms" "I" (.int (1 : Int32)) := Jvm.RoadKit.Fld.other Wr71 f67 (Or.inr (slot_ne (t := .int) (t' := (.array .int)) (Or.inr (wd hw 11 rfl)) (Or.inr (wd hw 16 rfl)) (by decide) (by decide) (by decide)))
  have f81 : IA Z h70 w (List.replicate (1) 0) := f68.other Wr71 (Ne.symm ne26)
  have f82 : Fld Z h70 c "com/example/terms_to_entities/termstoentities/index/TermCounts" "wholeFrequencies" "[I" (.ref w) := Jvm.RoadKit.Fld.other Wr71 f69 (Or.inr (slot_ne (t := (.array .int)) (t' := (.array .int)) (Or.inr (wd hw 14 rfl)) (Or.inr (wd hw 16 rfl)) (by decide) (by decide) (by decide)))
  have f83 : IA Z h70 pl (List.replicate (3) 0) := V55.other Wr71 (Ne.symm ne57)
  refine k_aloadN (pc := 23) H d1_23 rfl rfl ?_
  refine k_iloadN (pc := 24) H d1_24 rfl ?_
  refine k_new_int (3) 3 (pc := 25) H (wd hw 12 rfl) d1_25 (by decide) (by decide) (by decide) (by decide) (by decide) ?_
  intro h85 pr ea86 ge87 E88 XA84 V89
  have fr90 : h0.size ≤ pr := by rw [ea86]; exact KW73.1
  have ne91 : c ≠ pr := Nat.ne_of_lt (by rw [ea86]; exact f74.lt)
  have ne92 : w ≠ pr := Nat.ne_of_lt (by rw [ea86]; exact f81.lt)
  have ne93 : pl ≠ pr := Nat.ne_of_lt (by rw [ea86]; exact f83.lt)
  have KW94 : Keep h0 h85 [c] := KW73.ext E88
  have f95 : Exa Z h85 c "com/example/terms_to_entities/termstoentities/index/TermCounts" := Jvm.RoadKit.Exa.ext E88 f74
  have f96 : Fld Z h85 c "com/example/terms_to_entities/termstoentities/index/TermCounts" "predicates" "[I" .null := Jvm.RoadKit.Fld.ext E88 f75
  have f97 : Fld Z h85 c "com/example/terms_to_entities/termstoentities/index/TermCounts" "predicateLengths" "[J" .null := Jvm.RoadKit.Fld.ext E88 f76
  have f98 : Fld Z h85 c "com/example/terms_to_entities/termstoentities/index/TermCounts" "predicateFrequencies" "[I" .null := Jvm.RoadKit.Fld.ext E88 f77
  have f99 : Fld Z h85 c "com/example/terms_to_entities/termstoentities/index/TermCounts" "wholeLength" "J" (.long (0 : Int64)) := Jvm.RoadKit.Fld.ext E88 f78
  have f100 : Fld Z h85 c "com/example/terms_to_entities/termstoentities/index/TermCounts" "predicateCount" "I" (.int (0 : Int32)) := Jvm.RoadKit.Fld.ext E88 f79
  have f101 : Fld Z h85 c "com/example/terms_to_entities/termstoentities/index/TermCounts" "terms" "I" (.int (1 : Int32)) := Jvm.RoadKit.Fld.ext E88 f80
  have f102 : IA Z h85 w (List.replicate (1) 0) := f81.ext E88
  have f103 : Fld Z h85 c "com/example/terms_to_entities/termstoentities/index/TermCounts" "wholeFrequencies" "[I" (.ref w) := Jvm.RoadKit.Fld.ext E88 f82
  have f104 : IA Z h85 pl (List.replicate (3) 0) := f83.ext E88
  have f105 : Fld Z h85 c "com/example/terms_to_entities/termstoentities/index/TermCounts" "placeOfPredicate" "[I" (.ref pl) := Jvm.RoadKit.Fld.ext E88 f72
  refine k_putfield (.array .int) (pc := 27) H (wd hw 17 rfl) f96 f95 (Or.inr ⟨(wd hw 18 rfl), rfl, rfl⟩) (wd hw 2 rfl) (by decide) rfl rfl ge_c d1_27 ?_
  intro h106 Wr107 f108
  have KW109 : Keep h0 h106 [c] := KW94.wr Wr107 (Or.inl (List.mem_of_getElem? (i := 0) rfl))
  have f110 : Exa Z h106 c "com/example/terms_to_entities/termstoentities/index/TermCounts" := Jvm.RoadKit.Exa.wr Wr107 f95
  have f111 : Fld Z h106 c "com/example/terms_to_entities/termstoentities/index/TermCounts" "predicateLengths" "[J" .null := Jvm.RoadKit.Fld.other Wr107 f97 (Or.inr (slot_ne (t := (.array .long)) (t' := (.array .int)) (Or.inr (wd hw 21 rfl)) (Or.inr (wd hw 18 rfl)) (by decide) (by decide) (by decide)))
  have f112 : Fld Z h106 c "com/example/terms_to_entities/termstoentities/index/TermCounts" "predicateFrequencies" "[I" .null := Jvm.RoadKit.Fld.other Wr107 f98 (Or.inr (slot_ne (t := (.array .int)) (t' := (.array .int)) (Or.inr (wd hw 23 rfl)) (Or.inr (wd hw 18 rfl)) (by decide) (by decide) (by decide)))
  have f113 : Fld Z h106 c "com/example/terms_to_entities/termstoentities/index/TermCounts" "wholeLength" "J" (.long (0 : Int64)) := Jvm.RoadKit.Fld.other Wr107 f99 (Or.inr (slot_ne (t := .long) (t' := (.array .int)) (Or.inl (wd hw 34 rfl)) (Or.inr (wd hw 18 rfl)) (by decide) (by decide) (by decide)))
  have f114 : Fld Z h106 c "com/example/terms_to_entities/termstoentities/index/TermCounts" "predicateCount" "I" (.int (0 : Int32)) := Jvm.RoadKit.Fld.other Wr107 f100 (Or.inr (slot_ne (t := .int) (t' := (.array .int)) (Or.inl (wd hw 36 rfl)) (Or.inr (wd hw 18 rfl)) (by decide) (by decide) (by decide)))
  have f115 : Fld Z h106 c "com/example/terms_to_entities/termstoentities/index/TermCounts" "terms" "I" (.int (1 : Int32)) := Jvm.RoadKit.Fld.other Wr107 f101 (Or.inr (slot_ne (t := .int) (t' := (.array .int)) (Or.inr (wd hw 11 rfl)) (Or.inr (wd hw 18 rfl)) (by decide) (by decide) (by decide)))
  have f116 : IA Z h106 w (List.replicate (1) 0) := f102.other Wr107 (Ne.symm ne26)
  have f117 : Fld Z h106 c "com/example/terms_to_entities/termstoentities/index/TermCounts" "wholeFrequencies" "[I" (.ref w) := Jvm.RoadKit.Fld.other Wr107 f103 (Or.inr (slot_ne (t := (.array .int)) (t' := (.array .int)) (Or.inr (wd hw 14 rfl)) (Or.inr (wd hw 18 rfl)) (by decide) (by decide) (by decide)))
  have f118 : IA Z h106 pl (List.replicate (3) 0) := f104.other Wr107 (Ne.symm ne57)
  have f119 : Fld Z h106 c "com/example/terms_to_entities/termstoentities/index/TermCounts" "placeOfPredicate" "[I" (.ref pl) := Jvm.RoadKit.Fld.other Wr107 f105 (Or.inr (slot_ne (t := (.array .int)) (t' := (.array .int)) (Or.inr (wd hw 16 rfl)) (Or.inr (wd hw 18 rfl)) (by decide) (by decide) (by decide)))
  have f120 : IA Z h106 pr (List.replicate (3) 0) := V89.other Wr107 (Ne.symm ne91)
  refine k_aloadN (pc := 30) H d1_30 rfl rfl ?_
  refine k_iloadN (pc := 31) H d1_31 rfl ?_
  refine k_new_long (3) 3 (pc := 32) H (wd hw 19 rfl) d1_32 (by decide) (by decide) (by decide) (by decide) (by decide) ?_
  intro h122 le ea123 ge124 E125 XA121 V126
  have fr127 : h0.size ≤ le := by rw [ea123]; exact KW109.1
  have ne128 : c ≠ le := Nat.ne_of_lt (by rw [ea123]; exact f110.lt)
  have ne129 : w ≠ le := Nat.ne_of_lt (by rw [ea123]; exact f116.lt)
  have ne130 : pl ≠ le := Nat.ne_of_lt (by rw [ea123]; exact f118.lt)
  have ne131 : pr ≠ le := Nat.ne_of_lt (by rw [ea123]; exact f120.lt)
  have KW132 : Keep h0 h122 [c] := KW109.ext E125
  have f133 : Exa Z h122 c "com/example/terms_to_entities/termstoentities/index/TermCounts" := Jvm.RoadKit.Exa.ext E125 f110
  have f134 : Fld Z h122 c "com/example/terms_to_entities/termstoentities/index/TermCounts" "predicateLengths" "[J" .null := Jvm.RoadKit.Fld.ext E125 f111
  have f135 : Fld Z h122 c "com/example/terms_to_entities/termstoentities/index/TermCounts" "predicateFrequencies" "[I" .null := Jvm.RoadKit.Fld.ext E125 f112
  have f136 : Fld Z h122 c "com/example/terms_to_entities/termstoentities/index/TermCounts" "wholeLength" "J" (.long (0 : Int64)) := Jvm.RoadKit.Fld.ext E125 f113
  have f137 : Fld Z h122 c "com/example/terms_to_entities/termstoentities/index/TermCounts" "predicateCount" "I" (.int (0 : Int32)) := Jvm.RoadKit.Fld.ext E125 f114
  have f138 : Fld Z h122 c "com/example/terms_to_entities/termstoentities/index/TermCounts" "terms" "I" (.int (1 : Int32)) := Jvm.RoadKit.Fld.ext E125 f115
  have f139 : IA Z h122 w (List.replicate (1) 0) := f116.ext E125
  have f140 : Fld Z h122 c "com/example/terms_to_entities/termstoentities/index/TermCounts" "wholeFrequencies" "[I" (.ref w) := Jvm.RoadKit.Fld.ext E125 f117
  have f141 : IA Z h122 pl (List.replicate (3) 0) := f118.ext E125
  have f142 : Fld Z h122 c "com/example/terms_to_entities/termstoentities/index/TermCounts" "placeOfPredicate" "[I" (.ref pl) := Jvm.RoadKit.Fld.ext E125 f119
  have f143 : IA Z h122 pr (List.replicate (3) 0) := f120.ext E125
  have f144 : Fld Z h122 c "com/example/terms_to_entities/termstoentities/index/TermCounts" "predicates" "[I" (.ref pr) := Jvm.RoadKit.Fld.ext E125 f108
  refine k_putfield (.array .long) (pc := 34) H (wd hw 20 rfl) f134 f133 (Or.inr ⟨(wd hw 21 rfl), rfl, rfl⟩) (wd hw 2 rfl) (by decide) rfl rfl ge_c d1_34 ?_
  intro h145 Wr146 f147
  have KW148 : Keep h0 h145 [c] := KW132.wr Wr146 (Or.inl (List.mem_of_getElem? (i := 0) rfl))
  have f149 : Exa Z h145 c "com/example/terms_to_entities/termstoentities/index/TermCounts" := Jvm.RoadKit.Exa.wr Wr146 f133
  have f150 : Fld Z h145 c "com/example/terms_to_entities/termstoentities/index/TermCounts" "predicateFrequencies" "[I" .null := Jvm.RoadKit.Fld.other Wr146 f135 (Or.inr (slot_ne (t := (.array .int)) (t' := (.array .long)) (Or.inr (wd hw 23 rfl)) (Or.inr (wd hw 21 rfl)) (by decide) (by decide) (by decide)))
  have f151 : Fld Z h145 c "com/example/terms_to_entities/termstoentities/index/TermCounts" "wholeLength" "J" (.long (0 : Int64)) := Jvm.RoadKit.Fld.other Wr146 f136 (Or.inr (slot_ne (t := .long) (t' := (.array .long)) (Or.inl (wd hw 34 rfl)) (Or.inr (wd hw 21 rfl)) (by decide) (by decide) (by decide)))
  have f152 : Fld Z h145 c "com/example/terms_to_entities/termstoentities/index/TermCounts" "predicateCount" "I" (.int (0 : Int32)) := Jvm.RoadKit.Fld.other Wr146 f137 (Or.inr (slot_ne (t := .int) (t' := (.array .long)) (Or.inl (wd hw 36 rfl)) (Or.inr (wd hw 21 rfl)) (by decide) (by decide) (by decide)))
  have f153 : Fld Z h145 c "com/example/terms_to_entities/termstoentities/index/TermCounts" "terms" "I" (.int (1 : Int32)) := Jvm.RoadKit.Fld.other Wr146 f138 (Or.inr (slot_ne (t := .int) (t' := (.array .long)) (Or.inr (wd hw 11 rfl)) (Or.inr (wd hw 21 rfl)) (by decide) (by decide) (by decide)))
  have f154 : IA Z h145 w (List.replicate (1) 0) := f139.other Wr146 (Ne.symm ne26)
  have f155 : Fld Z h145 c "com/example/terms_to_entities/termstoentities/index/TermCounts" "wholeFrequencies" "[I" (.ref w) := Jvm.RoadKit.Fld.other Wr146 f140 (Or.inr (slot_ne (t := (.array .int)) (t' := (.array .long)) (Or.inr (wd hw 14 rfl)) (Or.inr (wd hw 21 rfl)) (by decide) (by decide) (by decide)))
  have f156 : IA Z h145 pl (List.replicate (3) 0) := f141.other Wr146 (Ne.symm ne57)
  have f157 : Fld Z h145 c "com/example/terms_to_entities/termstoentities/index/TermCounts" "placeOfPredicate" "[I" (.ref pl) := Jvm.RoadKit.Fld.other Wr146 f142 (Or.inr (slot_ne (t := (.array .int)) (t' := (.array .long)) (Or.inr (wd hw 16 rfl)) (Or.inr (wd hw 21 rfl)) (by decide) (by decide) (by decide)))
  have f158 : IA Z h145 pr (List.replicate (3) 0) := f143.other Wr146 (Ne.symm ne91)
  have f159 : Fld Z h145 c "com/example/terms_to_entities/termstoentities/index/TermCounts" "predicates" "[I" (.ref pr) := Jvm.RoadKit.Fld.other Wr146 f144 (Or.inr (slot_ne (t := (.array .int)) (t' := (.array .long)) (Or.inr (wd hw 18 rfl)) (Or.inr (wd hw 21 rfl)) (by decide) (by decide) (by decide)))
  have f160 : JA Z h145 le (List.replicate (3) 0) := V126.other Wr146 (Ne.symm ne128)
  refine k_aloadN (pc := 37) H d1_37 rfl rfl ?_
  refine k_iloadN (pc := 38) H d1_38 rfl ?_
  refine k_iloadN (pc := 39) H d1_39 rfl ?_
  refine k_imul (pc := 40) H d1_40 ?_
  refine k_new_int (3) 3 (pc := 41) H (wd hw 12 rfl) d1_41 (by decide) (by decide) (by decide) (by decide) (by decide) ?_
  intro h162 fr ea163 ge164 E165 XA161 V166
  have fr167 : h0.size ≤ fr := by rw [ea163]; exact KW148.1
  have ne168 : c ≠ fr := Nat.ne_of_lt (by rw [ea163]; exact f149.lt)
  have ne169 : w ≠ fr := Nat.ne_of_lt (by rw [ea163]; exact f154.lt)
  have ne170 : pl ≠ fr := Nat.ne_of_lt (by rw [ea163]; exact f156.lt)
  have ne171 : pr ≠ fr := Nat.ne_of_lt (by rw [ea163]; exact f158.lt)
  have ne172 : le ≠ fr := Nat.ne_of_lt (by rw [ea163]; exact f160.lt)
  have KW173 : Keep h0 h162 [c] := KW148.ext E165
  have f174 : Exa Z h162 c "com/example/terms_to_entities/termstoentities/index/TermCounts" := Jvm.RoadKit.Exa.ext E165 f149
  have f175 : Fld Z h162 c "com/example/terms_to_entities/termstoentities/index/TermCounts" "predicateFrequencies" "[I" .null := Jvm.RoadKit.Fld.ext E165 f150
  have f176 : Fld Z h162 c "com/example/terms_to_entities/termstoentities/index/TermCounts" "wholeLength" "J" (.long (0 : Int64)) := Jvm.RoadKit.Fld.ext E165 f151
  have f177 : Fld Z h162 c "com/example/terms_to_entities/termstoentities/index/TermCounts" "predicateCount" "I" (.int (0 : Int32)) := Jvm.RoadKit.Fld.ext E165 f152
  have f178 : Fld Z h162 c "com/example/terms_to_entities/termstoentities/index/TermCounts" "terms" "I" (.int (1 : Int32)) := Jvm.RoadKit.Fld.ext E165 f153
  have f179 : IA Z h162 w (List.replicate (1) 0) := f154.ext E165
  have f180 : Fld Z h162 c "com/example/terms_to_entities/termstoentities/index/TermCounts" "wholeFrequencies" "[I" (.ref w) := Jvm.RoadKit.Fld.ext E165 f155
  have f181 : IA Z h162 pl (List.replicate (3) 0) := f156.ext E165
  have f182 : Fld Z h162 c "com/example/terms_to_entities/termstoentities/index/TermCounts" "placeOfPredicate" "[I" (.ref pl) := Jvm.RoadKit.Fld.ext E165 f157
  have f183 : IA Z h162 pr (List.replicate (3) 0) := f158.ext E165
  have f184 : Fld Z h162 c "com/example/terms_to_entities/termstoentities/index/TermCounts" "predicates" "[I" (.ref pr) := Jvm.RoadKit.Fld.ext E165 f159
  have f185 : JA Z h162 le (List.replicate (3) 0) := f160.ext E165
  have f186 : Fld Z h162 c "com/example/terms_to_entities/termstoentities/index/TermCounts" "predicateLengths" "[J" (.ref le) := Jvm.RoadKit.Fld.ext E165 f147
  refine k_putfield (.array .int) (pc := 43) H (wd hw 22 rfl) f175 f174 (Or.inr ⟨(wd hw 23 rfl), rfl, rfl⟩) (wd hw 2 rfl) (by decide) rfl rfl ge_c d1_43 ?_
  intro h187 Wr188 f189
  have KW190 : Keep h0 h187 [c] := KW173.wr Wr188 (Or.inl (List.mem_of_getElem? (i := 0) rfl))
  have f191 : Exa Z h187 c "com/example/terms_to_entities/termstoentities/index/TermCounts" := Jvm.RoadKit.Exa.wr Wr188 f174
  have f192 : Fld Z h187 c "com/example/terms_to_entities/termstoentities/index/TermCounts" "wholeLength" "J" (.long (0 : Int64)) := Jvm.RoadKit.Fld.other Wr188 f176 (Or.inr (slot_ne (t := .long) (t' := (.array .int)) (Or.inl (wd hw 34 rfl)) (Or.inr (wd hw 23 rfl)) (by decide) (by decide) (by decide)))
  have f193 : Fld Z h187 c "com/example/terms_to_entities/termstoentities/index/TermCounts" "predicateCount" "I" (.int (0 : Int32)) := Jvm.RoadKit.Fld.other Wr188 f177 (Or.inr (slot_ne (t := .int) (t' := (.array .int)) (Or.inl (wd hw 36 rfl)) (Or.inr (wd hw 23 rfl)) (by decide) (by decide) (by decide)))
  have f194 : Fld Z h187 c "com/example/terms_to_entities/termstoentities/index/TermCounts" "terms" "I" (.int (1 : Int32)) := Jvm.RoadKit.Fld.other Wr188 f178 (Or.inr (slot_ne (t := .int) (t' := (.array .int)) (Or.inr (wd hw 11 rfl)) (Or.inr (wd hw 23 rfl)) (by decide) (by decide) (by decide)))
  have f195 : IA Z h187 w (List.replicate (1) 0) := f179.other Wr188 (Ne.symm ne26)
  have f196 : Fld Z h187 c "com/example/terms_to_entities/termstoentities/index/TermCounts" "wholeFrequencies" "[I" (.ref w) := Jvm.RoadKit.Fld.other Wr188 f180 (Or.inr (slot_ne (t := (.array .int)) (t' := (.array .int)) (Or.inr (wd hw 14 rfl)) (Or.inr (wd hw 23 rfl)) (by decide) (by decide) (by decide)))
  have f197 : IA Z h187 pl (List.replicate (3) 0) := f181.other Wr188 (Ne.symm ne57)
  have f198 : Fld Z h187 c "com/example/terms_to_entities/termstoentities/index/TermCounts" "placeOfPredicate" "[I" (.ref pl) := Jvm.RoadKit.Fld.other Wr188 f182 (Or.inr (slot_ne (t := (.array .int)) (t' := (.array .int)) (Or.inr (wd hw 16 rfl)) (Or.inr (wd hw 23 rfl)) (by decide) (by decide) (by decide)))
  have f199 : IA Z h187 pr (List.replicate (3) 0) := f183.other Wr188 (Ne.symm ne91)
  have f200 : Fld Z h187 c "com/example/terms_to_entities/termstoentities/index/TermCounts" "predicates" "[I" (.ref pr) := Jvm.RoadKit.Fld.other Wr188 f184 (Or.inr (slot_ne (t := (.array .int)) (t' := (.array .int)) (Or.inr (wd hw 18 rfl)) (Or.inr (wd hw 23 rfl)) (by decide) (by decide) (by decide)))
  have f201 : JA Z h187 le (List.replicate (3) 0) := f185.other Wr188 (Ne.symm ne128)
  have f202 : Fld Z h187 c "com/example/terms_to_entities/termstoentities/index/TermCounts" "predicateLengths" "[J" (.ref le) := Jvm.RoadKit.Fld.other Wr188 f186 (Or.inr (slot_ne (t := (.array .long)) (t' := (.array .int)) (Or.inr (wd hw 21 rfl)) (Or.inr (wd hw 23 rfl)) (by decide) (by decide) (by decide)))
  have f203 : IA Z h187 fr (List.replicate (3) 0) := V166.other Wr188 (Ne.symm ne168)
  exact k_retVoid (pc := 46) H d1_46 (by show 5 ≤ own_rm1_room.cells; decide) (by show 13 ≤ own_rm1_room.slots; decide) (⟨rfl, w, pl, pr, le, fr, ⟨ge_c, ge22, ge53, ge87, ge124, ge164, ne26, ne57, ne91, ne128, ne168, ne58, ne92, ne129, ne169, ne93, ne130, ne170, ne131, ne171, ne172⟩, ⟨fr25, fr56, fr90, fr127, fr167⟩, KW190, ⟨f191, f194, f196, f198, f200, f202, f189, f192, f193, f195, f197, f199, f201, f203⟩⟩)
theorem d3_0 : decode prog_14_method_8_code 0 = .ok (.aload_n 0, 1) := by decide +kernel
theorem d3_1 : decode prog_14_method_8_code 1 = .ok (.getfield 13, 3) := by decide +kernel
theorem d3_4 : decode prog_14_method_8_code 4 = .ok (.iconst 0, 1) := by decide +kernel
theorem d3_5 : decode prog_14_method_8_code 5 = .ok (.invokestatic 41, 3) := by decide +kernel
theorem d3_8 : decode prog_14_method_8_code 8 = .ok (.aload_n 0, 1) := by decide +kernel
theorem d3_9 : decode prog_14_method_8_code 9 = .ok (.lload_n 1, 1) := by decide +kernel
theorem d3_10 : decode prog_14_method_8_code 10 = .ok (.putfield 30, 3) := by decide +kernel
theorem d3_13 : decode prog_14_method_8_code 13 = .ok (.aload_n 0, 1) := by decide +kernel
theorem d3_14 : decode prog_14_method_8_code 14 = .ok (.iconst 0, 1) := by decide +kernel
theorem d3_15 : decode prog_14_method_8_code 15 = .ok (.putfield 34, 3) := by decide +kernel
theorem d3_18 : decode prog_14_method_8_code 18 = .ok (.return_, 1) := by decide +kernel
abbrev own_rm3_room : Room := { frames := 1, cells := 0, slots := 0, locals := 15 }
set_option maxRecDepth 65536 in
set_option maxHeartbeats 40000000 in
theorem rm3 (l : Launch) (Z : State) (a0 : Array Value) (hw : ∀ d ∈ tables_1, d.before a0 Z = true) (n0 : Nat) (h0 : Heap) (Z0 : n0 ≤ h0.size) (c w pl pr le fr : Addr) (tm : Int32) (xw xpl xpr : List Int32) (xle : List Int64) (xfr : List Int32) (wl : Int64) (pk : Int32) (x : Int64) (AP : own_Ap n0 c w pl pr le fr) (T : own_TC Z h0 c w pl pr le fr tm xw xpl xpr xle xfr wl pk) (hlen : xw.length < 1000) :
    Ctr l Z (⟨"com/example/terms_to_entities/termstoentities/index/TermCounts", "start", "(J)V"⟩ : MethodName) prog_14_method_8_code 3 none own_rm3_room n0 #[(.ref c), (.long x)] h0 (fun v h => v = none ∧ Keep h0 h [c, w, pl, pr, le, fr] ∧ own_TC Z h c w pl pr le fr tm (own_fr 0 xw 0 xw.length) xpl xpr xle xfr x 0) := by
  refine Ctr.of #[.val (.ref c), .val (.long x), .second] pn_1 Z0 (fun m => by first | (simp [entryFrame, mkF, argsToLocals, Value.category]; done) | rfl) ?_
  intro C H
  have TT := T
  have AQ := AP
  obtain ⟨ge_c, ge_w, ge_pl, ge_pr, ge_le, ge_fr, ne_c_w, ne_c_pl, ne_c_pr, ne_c_le, ne_c_fr, ne_w_pl, ne_w_pr, ne_w_le, ne_w_fr, ne_pl_pr, ne_pl_le, ne_pl_fr, ne_pr_le, ne_pr_fr, ne_le_fr⟩ := AQ
  obtain ⟨X, F_terms, F_wholeFrequencies, F_placeOfPredicate, F_predicates, F_predicateLengths, F_predicateFrequencies, F_wholeLength, F_predicateCount, V_w, V_pl, V_pr, V_le, V_fr⟩ := TT
  refine k_aloadN (pc := 0) H d3_0 rfl rfl ?_
  refine k_getfield (pc := 1) H (wd hw 13 rfl) F_wholeFrequencies d3_1 ?_
  refine k_iconst (0 : Int32) (pc := 4) H d3_4 rfl ?_
  refine k_invS (y := (⟨"java/util/Arrays", "fill", "([II)V"⟩ : MethodName)) (st := []) [(.ref w), (.int (0 : Int32))] 0 (pc := 5) H (wd hw 29 rfl) (wd hw 30 rfl) (wd hw 31 rfl) (wd hw 32 rfl) (by decide) (fun z0 => rm4 l Z a0 hw n0 h0 z0 w xw (0 : Int32) ge_w V_w hlen) (lenOf pd_1 rfl) d3_5 rfl rfl rfl (by decide) (by decide) (by decide) (by decide) ?_
  rintro v h205 ⟨rfl, K204, f206⟩
  show W l own_rm3_room C _ h205 0 0 8 #[.val (.ref c), .val (.long x), .second] []
  have KW207 : Keep h0 h205 [c, w, pl, pr, le, fr] := (Keep.refl h0 [c, w, pl, pr, le, fr]).trans K204 (allS (Or.inl (List.mem_of_getElem? (i := 1) rfl)) all0)
  have f208 : Exa Z h205 c "com/example/terms_to_entities/termstoentities/index/TermCounts" := X.keep K204
  have f209 : Fld Z h205 c "com/example/terms_to_entities/termstoentities/index/TermCounts" "terms" "I" (.int tm) := F_terms.keep K204 (ninS ne_c_w nin0)
  have f210 : Fld Z h205 c "com/example/terms_to_entities/termstoentities/index/TermCounts" "wholeFrequencies" "[I" (.ref w) := F_wholeFrequencies.keep K204 (ninS ne_c_w nin0)
  have f211 : Fld Z h205 c "com/example/terms_to_entities/termstoentities/index/TermCounts" "placeOfPredicate" "[I" (.ref pl) := F_placeOfPredicate.keep K204 (ninS ne_c_w nin0)
  have f212 : Fld Z h205 c "com/example/terms_to_entities/termstoentities/index/TermCounts" "predicates" "[I" (.ref pr) := F_predicates.keep K204 (ninS ne_c_w nin0)
  have f213 : Fld Z h205 c "com/example/terms_to_entities/termstoentities/index/TermCounts" "predicateLengths" "[J" (.ref le) := F_predicateLengths.keep K204 (ninS ne_c_w nin0)
  have f214 : Fld Z h205 c "com/example/terms_to_entities/termstoentities/index/TermCounts" "predicateFrequencies" "[I" (.ref fr) := F_predicateFrequencies.keep K204 (ninS ne_c_w nin0)
  have f215 : Fld Z h205 c "com/example/terms_to_entities/termstoentities/index/TermCounts" "wholeLength" "J" (.long wl) := F_wholeLength.keep K204 (ninS ne_c_w nin0)
  have f216 : Fld Z h205 c "com/example/terms_to_entities/termstoentities/index/TermCounts" "predicateCount" "I" (.int pk) := F_predicateCount.keep K204 (ninS ne_c_w nin0)
  have f217 : IA Z h205 pl xpl := V_pl.keep K204 (ninS (Ne.symm ne_w_pl) nin0)
  have f218 : IA Z h205 pr xpr := V_pr.keep K204 (ninS (Ne.symm ne_w_pr) nin0)
  have f219 : JA Z h205 le xle := V_le.keep K204 (ninS (Ne.symm ne_w_le) nin0)
  have f220 : IA Z h205 fr xfr := V_fr.keep K204 (ninS (Ne.symm ne_w_fr) nin0)
  refine k_aloadN (pc := 8) H d3_8 rfl rfl ?_
  refine k_lloadN (pc := 9) H d3_9 rfl ?_
  refine k_putfield .long (pc := 10) H (wd hw 33 rfl) f215 f208 (Or.inl (wd hw 34 rfl)) (wd hw 2 rfl) (by decide) rfl rfl ge_c d3_10 ?_
  intro h221 Wr222 f223
  have KW224 : Keep h0 h221 [c, w, pl, pr, le, fr] := KW207.wr Wr222 (Or.inl (List.mem_of_getElem? (i := 0) rfl))
  have f225 : Exa Z h221 c "com/example/terms_to_entities/termstoentities/index/TermCounts" := Jvm.RoadKit.Exa.wr Wr222 f208
  have f226 : Fld Z h221 c "com/example/terms_to_entities/termstoentities/index/TermCounts" "terms" "I" (.int tm) := Jvm.RoadKit.Fld.other Wr222 f209 (Or.inr (slot_ne (t := .int) (t' := .long) (Or.inr (wd hw 11 rfl)) (Or.inl (wd hw 34 rfl)) (by decide) (by decide) (by decide)))
  have f227 : Fld Z h221 c "com/example/terms_to_entities/termstoentities/index/TermCounts" "wholeFrequencies" "[I" (.ref w) := Jvm.RoadKit.Fld.other Wr222 f210 (Or.inr (slot_ne (t := (.array .int)) (t' := .long) (Or.inr (wd hw 14 rfl)) (Or.inl (wd hw 34 rfl)) (by decide) (by decide) (by decide)))
  have f228 : Fld Z h221 c "com/example/terms_to_entities/termstoentities/index/TermCounts" "placeOfPredicate" "[I" (.ref pl) := Jvm.RoadKit.Fld.other Wr222 f211 (Or.inr (slot_ne (t := (.array .int)) (t' := .long) (Or.inr (wd hw 16 rfl)) (Or.inl (wd hw 34 rfl)) (by decide) (by decide) (by decide)))
  have f229 : Fld Z h221 c "com/example/terms_to_entities/termstoentities/index/TermCounts" "predicates" "[I" (.ref pr) := Jvm.RoadKit.Fld.other Wr222 f212 (Or.inr (slot_ne (t := (.array .int)) (t' := .long) (Or.inr (wd hw 18 rfl)) (Or.inl (wd hw 34 rfl)) (by decide) (by decide) (by decide)))
  have f230 : Fld Z h221 c "com/example/terms_to_entities/termstoentities/index/TermCounts" "predicateLengths" "[J" (.ref le) := Jvm.RoadKit.Fld.other Wr222 f213 (Or.inr (slot_ne (t := (.array .long)) (t' := .long) (Or.inr (wd hw 21 rfl)) (Or.inl (wd hw 34 rfl)) (by decide) (by decide) (by decide)))
  have f231 : Fld Z h221 c "com/example/terms_to_entities/termstoentities/index/TermCounts" "predicateFrequencies" "[I" (.ref fr) := Jvm.RoadKit.Fld.other Wr222 f214 (Or.inr (slot_ne (t := (.array .int)) (t' := .long) (Or.inr (wd hw 23 rfl)) (Or.inl (wd hw 34 rfl)) (by decide) (by decide) (by decide)))
  have f232 : Fld Z h221 c "com/example/terms_to_entities/termstoentities/index/TermCounts" "predicateCount" "I" (.int pk) := Jvm.RoadKit.Fld.other Wr222 f216 (Or.inr (slot_ne (t := .int) (t' := .long) (Or.inl (wd hw 36 rfl)) (Or.inl (wd hw 34 rfl)) (by decide) (by decide) (by decide)))
  have f233 : IA Z h221 pl xpl := f217.other Wr222 (Ne.symm ne_c_pl)
  have f234 : IA Z h221 pr xpr := f218.other Wr222 (Ne.symm ne_c_pr)
  have f235 : JA Z h221 le xle := f219.other Wr222 (Ne.symm ne_c_le)
  have f236 : IA Z h221 fr xfr := f220.other Wr222 (Ne.symm ne_c_fr)
  have f237 : IA Z h221 w (own_fr (0 : Int32) xw 0 xw.length) := f206.other Wr222 (Ne.symm ne_c_w)
  refine k_aloadN (pc := 13) H d3_13 rfl rfl ?_
  refine k_iconst (0 : Int32) (pc := 14) H d3_14 rfl ?_
  refine k_putfield .int (pc := 15) H (wd hw 35 rfl) f232 f225 (Or.inl (wd hw 36 rfl)) (wd hw 2 rfl) (by decide) rfl rfl ge_c d3_15 ?_
  intro h238 Wr239 f240
  have KW241 : Keep h0 h238 [c, w, pl, pr, le, fr] := KW224.wr Wr239 (Or.inl (List.mem_of_getElem? (i := 0) rfl))
  have f242 : Exa Z h238 c "com/example/terms_to_entities/termstoentities/index/TermCounts" := Jvm.RoadKit.Exa.wr Wr239 f225
  have f243 : Fld Z h238 c "com/example/terms_to_entities/termstoentities/index/TermCounts" "terms" "I" (.int tm) := Jvm.RoadKit.Fld.other Wr239 f226 (Or.inr (slot_ne (t := .int) (t' := .int) (Or.inr (wd hw 11 rfl)) (Or.inl (wd hw 36 rfl)) (by decide) (by decide) (by decide)))
  have f244 : Fld Z h238 c "com/example/terms_to_entities/termstoentities/index/TermCounts" "wholeFrequencies" "[I" (.ref w) := Jvm.RoadKit.Fld.other Wr239 f227 (Or.inr (slot_ne (t := (.array .int)) (t' := .int) (Or.inr (wd hw 14 rfl)) (Or.inl (wd hw 36 rfl)) (by decide) (by decide) (by decide)))
  have f245 : Fld Z h238 c "com/example/terms_to_entities/termstoentities/index/TermCounts" "placeOfPredicate" "[I" (.ref pl) := Jvm.RoadKit.Fld.other Wr239 f228 (Or.inr (slot_ne (t := (.array .int)) (t' := .int) (Or.inr (wd hw 16 rfl)) (Or.inl (wd hw 36 rfl)) (by decide) (by decide) (by decide)))
  have f246 : Fld Z h238 c "com/example/terms_to_entities/termstoentities/index/TermCounts" "predicates" "[I" (.ref pr) := Jvm.RoadKit.Fld.other Wr239 f229 (Or.inr (slot_ne (t := (.array .int)) (t' := .int) (Or.inr (wd hw 18 rfl)) (Or.inl (wd hw 36 rfl)) (by decide) (by decide) (by decide)))
  have f247 : Fld Z h238 c "com/example/terms_to_entities/termstoentities/index/TermCounts" "predicateLengths" "[J" (.ref le) := Jvm.RoadKit.Fld.other Wr239 f230 (Or.inr (slot_ne (t := (.array .long)) (t' := .int) (Or.inr (wd hw 21 rfl)) (Or.inl (wd hw 36 rfl)) (by decide) (by decide) (by decide)))
  have f248 : Fld Z h238 c "com/example/terms_to_entities/termstoentities/index/TermCounts" "predicateFrequencies" "[I" (.ref fr) := Jvm.RoadKit.Fld.other Wr239 f231 (Or.inr (slot_ne (t := (.array .int)) (t' := .int) (Or.inr (wd hw 23 rfl)) (Or.inl (wd hw 36 rfl)) (by decide) (by decide) (by decide)))
  have f249 : IA Z h238 pl xpl := f233.other Wr239 (Ne.symm ne_c_pl)
  have f250 : IA Z h238 pr xpr := f234.other Wr239 (Ne.symm ne_c_pr)
  have f251 : JA Z h238 le xle := f235.other Wr239 (Ne.symm ne_c_le)
  have f252 : IA Z h238 fr xfr := f236.other Wr239 (Ne.symm ne_c_fr)
  have f253 : IA Z h238 w (own_fr (0 : Int32) xw 0 xw.length) := f237.other Wr239 (Ne.symm ne_c_w)
  have f254 : Fld Z h238 c "com/example/terms_to_entities/termstoentities/index/TermCounts" "wholeLength" "J" (.long x) := Jvm.RoadKit.Fld.other Wr239 f223 (Or.inr (slot_ne (t := .long) (t' := .int) (Or.inl (wd hw 34 rfl)) (Or.inl (wd hw 36 rfl)) (by decide) (by decide) (by decide)))
  exact k_retVoid (pc := 18) H d3_18 (by show 0 ≤ own_rm3_room.cells; decide) (by show 0 ≤ own_rm3_room.slots; decide) (⟨rfl, KW241, ⟨f242, f243, f244, f245, f246, f247, f248, f254, f240, f253, f249, f250, f251, f252⟩⟩)
theorem d5_0 : decode prog_14_method_9_code 0 = .ok (.aload_n 0, 1) := by decide +kernel
theorem d5_1 : decode prog_14_method_9_code 1 = .ok (.getfield 17, 3) := by decide +kernel
theorem d5_4 : decode prog_14_method_9_code 4 = .ok (.iload_n 1, 1) := by decide +kernel
theorem d5_5 : decode prog_14_method_9_code 5 = .ok (.aload_n 0, 1) := by decide +kernel
theorem d5_6 : decode prog_14_method_9_code 6 = .ok (.getfield 34, 3) := by decide +kernel
theorem d5_9 : decode prog_14_method_9_code 9 = .ok (.iastore, 1) := by decide +kernel
theorem d5_10 : decode prog_14_method_9_code 10 = .ok (.aload_n 0, 1) := by decide +kernel
theorem d5_11 : decode prog_14_method_9_code 11 = .ok (.getfield 20, 3) := by decide +kernel
theorem d5_14 : decode prog_14_method_9_code 14 = .ok (.aload_n 0, 1) := by decide +kernel
theorem d5_15 : decode prog_14_method_9_code 15 = .ok (.getfield 34, 3) := by decide +kernel
theorem d5_18 : decode prog_14_method_9_code 18 = .ok (.iload_n 1, 1) := by decide +kernel
theorem d5_19 : decode prog_14_method_9_code 19 = .ok (.iastore, 1) := by decide +kernel
theorem d5_20 : decode prog_14_method_9_code 20 = .ok (.aload_n 0, 1) := by decide +kernel
theorem d5_21 : decode prog_14_method_9_code 21 = .ok (.getfield 23, 3) := by decide +kernel
theorem d5_24 : decode prog_14_method_9_code 24 = .ok (.aload_n 0, 1) := by decide +kernel
theorem d5_25 : decode prog_14_method_9_code 25 = .ok (.getfield 34, 3) := by decide +kernel
theorem d5_28 : decode prog_14_method_9_code 28 = .ok (.lconst 0, 1) := by decide +kernel
theorem d5_29 : decode prog_14_method_9_code 29 = .ok (.lastore, 1) := by decide +kernel
theorem d5_30 : decode prog_14_method_9_code 30 = .ok (.aload_n 0, 1) := by decide +kernel
theorem d5_31 : decode prog_14_method_9_code 31 = .ok (.getfield 27, 3) := by decide +kernel
theorem d5_34 : decode prog_14_method_9_code 34 = .ok (.aload_n 0, 1) := by decide +kernel
theorem d5_35 : decode prog_14_method_9_code 35 = .ok (.getfield 34, 3) := by decide +kernel
theorem d5_38 : decode prog_14_method_9_code 38 = .ok (.aload_n 0, 1) := by decide +kernel
theorem d5_39 : decode prog_14_method_9_code 39 = .ok (.getfield 7, 3) := by decide +kernel
theorem d5_42 : decode prog_14_method_9_code 42 = .ok (.imul, 1) := by decide +kernel
theorem d5_43 : decode prog_14_method_9_code 43 = .ok (.aload_n 0, 1) := by decide +kernel
theorem d5_44 : decode prog_14_method_9_code 44 = .ok (.getfield 34, 3) := by decide +kernel
theorem d5_47 : decode prog_14_method_9_code 47 = .ok (.iconst 1, 1) := by decide +kernel
theorem d5_48 : decode prog_14_method_9_code 48 = .ok (.iadd, 1) := by decide +kernel
theorem d5_49 : decode prog_14_method_9_code 49 = .ok (.aload_n 0, 1) := by decide +kernel
theorem d5_50 : decode prog_14_method_9_code 50 = .ok (.getfield 7, 3) := by decide +kernel
theorem d5_53 : decode prog_14_method_9_code 53 = .ok (.imul, 1) := by decide +kernel
theorem d5_54 : decode prog_14_method_9_code 54 = .ok (.iconst 0, 1) := by decide +kernel
theorem d5_55 : decode prog_14_method_9_code 55 = .ok (.invokestatic 47, 3) := by decide +kernel
theorem d5_58 : decode prog_14_method_9_code 58 = .ok (.aload_n 0, 1) := by decide +kernel
theorem d5_59 : decode prog_14_method_9_code 59 = .ok (.dup, 1) := by decide +kernel
theorem d5_60 : decode prog_14_method_9_code 60 = .ok (.getfield 34, 3) := by decide +kernel
theorem d5_63 : decode prog_14_method_9_code 63 = .ok (.iconst 1, 1) := by decide +kernel
theorem d5_64 : decode prog_14_method_9_code 64 = .ok (.iadd, 1) := by decide +kernel
theorem d5_65 : decode prog_14_method_9_code 65 = .ok (.putfield 34, 3) := by decide +kernel
theorem d5_68 : decode prog_14_method_9_code 68 = .ok (.return_, 1) := by decide +kernel
abbrev own_rm5_room : Room := { frames := 2, cells := 0, slots := 0, locals := 30 }
set_option maxRecDepth 65536 in
set_option maxHeartbeats 40000000 in
theorem rm5 (l : Launch) (Z : State) (a0 : Array Value) (hw : ∀ d ∈ tables_1, d.before a0 Z = true) (n0 : Nat) (h0 : Heap) (Z0 : n0 ≤ h0.size) (c w pl pr le fr : Addr) (tm : Int32) (xw xpl xpr : List Int32) (xle : List Int64) (xfr : List Int32) (wl : Int64) (pk : Int32) (x : Int32) (p q t : Nat) (AP : own_Ap n0 c w pl pr le fr) (T : own_TC Z h0 c w pl pr le fr tm xw xpl xpr xle xfr wl pk) (hp : x.toInt = (p : Int)) (hpl : p < xpl.length) (hq : pk.toInt = (q : Int)) (hqr : q < xpr.length) (hql : q < xle.length) (ht : tm.toInt = (t : Int)) (hfr : (q + 1) * t ≤ xfr.length) (hlen : xfr.length < 1000) (hq1 : q < 1000) :
    Ctr l Z (⟨"com/example/terms_to_entities/termstoentities/index/TermCounts", "addPredicate", "(I)V"⟩ : MethodName) prog_14_method_9_code 2 none own_rm5_room n0 #[(.ref c), (.int x)] h0 (fun v h => v = none ∧ Keep h0 h [c, w, pl, pr, le, fr] ∧ own_TC Z h c w pl pr le fr tm xw (xpl.set p pk) (xpr.set q x) (xle.set q 0) (own_fr 0 xfr (q * t) ((q + 1) * t - q * t)) wl (pk + 1)) := by
  refine Ctr.of #[.val (.ref c), .val (.int x)] pn_1 Z0 (fun m => by first | (simp [entryFrame, mkF, argsToLocals, Value.category]; done) | rfl) ?_
  intro C H
  have TT := T
  have AQ := AP
  obtain ⟨ge_c, ge_w, ge_pl, ge_pr, ge_le, ge_fr, ne_c_w, ne_c_pl, ne_c_pr, ne_c_le, ne_c_fr, ne_w_pl, ne_w_pr, ne_w_le, ne_w_fr, ne_pl_pr, ne_pl_le, ne_pl_fr, ne_pr_le, ne_pr_fr, ne_le_fr⟩ := AQ
  obtain ⟨X, F_terms, F_wholeFrequencies, F_placeOfPredicate, F_predicates, F_predicateLengths, F_predicateFrequencies, F_wholeLength, F_predicateCount, V_w, V_pl, V_pr, V_le, V_fr⟩ := TT
  refine k_aloadN (pc := 0) H d5_0 rfl rfl ?_
  refine k_getfield (pc := 1) H (wd hw 15 rfl) F_placeOfPredicate d5_1 ?_
  refine k_iloadN (pc := 4) H d5_4 rfl ?_
  refine k_aloadN (pc := 5) H d5_5 rfl rfl ?_
  refine k_getfield (pc := 6) H (wd hw 35 rfl) F_predicateCount d5_6 ?_
  refine k_iastoreT (i := p) (pc := 9) H V_pl (hp) (hpl) ge_pl d5_9 ?_
  intro h255 K256 V257
  have KW258 : Keep h0 h255 [c, w, pl, pr, le, fr] := (Keep.refl h0 [c, w, pl, pr, le, fr]).trans K256 (allS (Or.inl (List.mem_of_getElem? (i := 2) rfl)) all0)
  have f259 : Exa Z h255 c "com/example/terms_to_entities/termstoentities/index/TermCounts" := X.keep K256
  have f260 : Fld Z h255 c "com/example/terms_to_entities/termstoentities/index/TermCounts" "terms" "I" (.int tm) := F_terms.keep K256 (ninS ne_c_pl nin0)
  have f261 : Fld Z h255 c "com/example/terms_to_entities/termstoentities/index/TermCounts" "wholeFrequencies" "[I" (.ref w) := F_wholeFrequencies.keep K256 (ninS ne_c_pl nin0)
  have f262 : Fld Z h255 c "com/example/terms_to_entities/termstoentities/index/TermCounts" "placeOfPredicate" "[I" (.ref pl) := F_placeOfPredicate.keep K256 (ninS ne_c_pl nin0)
  have f263 : Fld Z h255 c "com/example/terms_to_entities/termstoentities/index/TermCounts" "predicates" "[I" (.ref pr) := F_predicates.keep K256 (ninS ne_c_pl nin0)
  have f264 : Fld Z h255 c "com/example/terms_to_entities/termstoentities/index/TermCounts" "predicateLengths" "[J" (.ref le) := F_predicateLengths.keep K256 (ninS ne_c_pl nin0)
  have f265 : Fld Z h255 c "com/example/terms_to_entities/termstoentities/index/TermCounts" "predicateFrequencies" "[I" (.ref fr) := F_predicateFrequencies.keep K256 (ninS ne_c_pl nin0)
  have f266 : Fld Z h255 c "com/example/terms_to_entities/termstoentities/index/TermCounts" "wholeLength" "J" (.long wl) := F_wholeLength.keep K256 (ninS ne_c_pl nin0)
  have f267 : Fld Z h255 c "com/example/terms_to_entities/termstoentities/index/TermCounts" "predicateCount" "I" (.int pk) := F_predicateCount.keep K256 (ninS ne_c_pl nin0)
  have f268 : IA Z h255 w xw := V_w.keep K256 (ninS ne_w_pl nin0)
  have f269 : IA Z h255 pr xpr := V_pr.keep K256 (ninS (Ne.symm ne_pl_pr) nin0)
  have f270 : JA Z h255 le xle := V_le.keep K256 (ninS (Ne.symm ne_pl_le) nin0)
  have f271 : IA Z h255 fr xfr := V_fr.keep K256 (ninS (Ne.symm ne_pl_fr) nin0)
  refine k_aloadN (pc := 10) H d5_10 rfl rfl ?_
  refine k_getfield (pc := 11) H (wd hw 17 rfl) f263 d5_11 ?_
  refine k_aloadN (pc := 14) H d5_14 rfl rfl ?_
  refine k_getfield (pc := 15) H (wd hw 35 rfl) f267 d5_15 ?_
  refine k_iloadN (pc := 18) H d5_18 rfl ?_
  refine k_iastoreT (i := q) (pc := 19) H f269 (hq) (hqr) ge_pr d5_19 ?_
  intro h272 K273 V274
  have KW275 : Keep h0 h272 [c, w, pl, pr, le, fr] := KW258.trans K273 (allS (Or.inl (List.mem_of_getElem? (i := 3) rfl)) all0)
  have f276 : Exa Z h272 c "com/example/terms_to_entities/termstoentities/index/TermCounts" := f259.keep K273
  have f277 : Fld Z h272 c "com/example/terms_to_entities/termstoentities/index/TermCounts" "terms" "I" (.int tm) := f260.keep K273 (ninS ne_c_pr nin0)
  have f278 : Fld Z h272 c "com/example/terms_to_entities/termstoentities/index/TermCounts" "wholeFrequencies" "[I" (.ref w) := f261.keep K273 (ninS ne_c_pr nin0)
  have f279 : Fld Z h272 c "com/example/terms_to_entities/termstoentities/index/TermCounts" "placeOfPredicate" "[I" (.ref pl) := f262.keep K273 (ninS ne_c_pr nin0)
  have f280 : Fld Z h272 c "com/example/terms_to_entities/termstoentities/index/TermCounts" "predicates" "[I" (.ref pr) := f263.keep K273 (ninS ne_c_pr nin0)
  have f281 : Fld Z h272 c "com/example/terms_to_entities/termstoentities/index/TermCounts" "predicateLengths" "[J" (.ref le) := f264.keep K273 (ninS ne_c_pr nin0)
  have f282 : Fld Z h272 c "com/example/terms_to_entities/termstoentities/index/TermCounts" "predicateFrequencies" "[I" (.ref fr) := f265.keep K273 (ninS ne_c_pr nin0)
  have f283 : Fld Z h272 c "com/example/terms_to_entities/termstoentities/index/TermCounts" "wholeLength" "J" (.long wl) := f266.keep K273 (ninS ne_c_pr nin0)
  have f284 : Fld Z h272 c "com/example/terms_to_entities/termstoentities/index/TermCounts" "predicateCount" "I" (.int pk) := f267.keep K273 (ninS ne_c_pr nin0)
  have f285 : IA Z h272 w xw := f268.keep K273 (ninS ne_w_pr nin0)
  have f286 : JA Z h272 le xle := f270.keep K273 (ninS (Ne.symm ne_pr_le) nin0)
  have f287 : IA Z h272 fr xfr := f271.keep K273 (ninS (Ne.symm ne_pr_fr) nin0)
  have f288 : IA Z h272 pl (xpl.set p pk) := V257.keep K273 (ninS ne_pl_pr nin0)
  refine k_aloadN (pc := 20) H d5_20 rfl rfl ?_
  refine k_getfield (pc := 21) H (wd hw 20 rfl) f281 d5_21 ?_
  refine k_aloadN (pc := 24) H d5_24 rfl rfl ?_
  refine k_getfield (pc := 25) H (wd hw 35 rfl) f284 d5_25 ?_
  refine k_lconst (0 : Int64) (pc := 28) H d5_28 rfl ?_
  refine k_lastoreT (i := q) (pc := 29) H f286 (hq) (hql) ge_le d5_29 ?_
  intro h289 K290 V291
  have KW292 : Keep h0 h289 [c, w, pl, pr, le, fr] := KW275.trans K290 (allS (Or.inl (List.mem_of_getElem? (i := 4) rfl)) all0)
  have f293 : Exa Z h289 c "com/example/terms_to_entities/termstoentities/index/TermCounts" := f276.keep K290
  have f294 : Fld Z h289 c "com/example/terms_to_entities/termstoentities/index/TermCounts" "terms" "I" (.int tm) := f277.keep K290 (ninS ne_c_le nin0)
  have f295 : Fld Z h289 c "com/example/terms_to_entities/termstoentities/index/TermCounts" "wholeFrequencies" "[I" (.ref w) := f278.keep K290 (ninS ne_c_le nin0)
  have f296 : Fld Z h289 c "com/example/terms_to_entities/termstoentities/index/TermCounts" "placeOfPredicate" "[I" (.ref pl) := f279.keep K290 (ninS ne_c_le nin0)
  have f297 : Fld Z h289 c "com/example/terms_to_entities/termstoentities/index/TermCounts" "predicates" "[I" (.ref pr) := f280.keep K290 (ninS ne_c_le nin0)
  have f298 : Fld Z h289 c "com/example/terms_to_entities/termstoentities/index/TermCounts" "predicateLengths" "[J" (.ref le) := f281.keep K290 (ninS ne_c_le nin0)
  have f299 : Fld Z h289 c "com/example/terms_to_entities/termstoentities/index/TermCounts" "predicateFrequencies" "[I" (.ref fr) := f282.keep K290 (ninS ne_c_le nin0)
  have f300 : Fld Z h289 c "com/example/terms_to_entities/termstoentities/index/TermCounts" "wholeLength" "J" (.long wl) := f283.keep K290 (ninS ne_c_le nin0)
  have f301 : Fld Z h289 c "com/example/terms_to_entities/termstoentities/index/TermCounts" "predicateCount" "I" (.int pk) := f284.keep K290 (ninS ne_c_le nin0)
  have f302 : IA Z h289 w xw := f285.keep K290 (ninS ne_w_le nin0)
  have f303 : IA Z h289 fr xfr := f287.keep K290 (ninS (Ne.symm ne_le_fr) nin0)
  have f304 : IA Z h289 pl (xpl.set p pk) := f288.keep K290 (ninS ne_pl_le nin0)
  have f305 : IA Z h289 pr (xpr.set q x) := V274.keep K290 (ninS ne_pr_le nin0)
  refine k_aloadN (pc := 30) H d5_30 rfl rfl ?_
  refine k_getfield (pc := 31) H (wd hw 22 rfl) f299 d5_31 ?_
  refine k_aloadN (pc := 34) H d5_34 rfl rfl ?_
  refine k_getfield (pc := 35) H (wd hw 35 rfl) f301 d5_35 ?_
  refine k_aloadN (pc := 38) H d5_38 rfl rfl ?_
  refine k_getfield (pc := 39) H (wd hw 10 rfl) f294 d5_39 ?_
  refine k_imul (pc := 42) H d5_42 ?_
  refine k_aloadN (pc := 43) H d5_43 rfl rfl ?_
  refine k_getfield (pc := 44) H (wd hw 35 rfl) f301 d5_44 ?_
  refine k_iconst (1 : Int32) (pc := 47) H d5_47 rfl ?_
  refine k_iadd (pc := 48) H d5_48 ?_
  refine k_aloadN (pc := 49) H d5_49 rfl rfl ?_
  refine k_getfield (pc := 50) H (wd hw 10 rfl) f294 d5_50 ?_
  refine k_imul (pc := 53) H d5_53 ?_
  refine k_iconst (0 : Int32) (pc := 54) H d5_54 rfl ?_
  have hqt : q * t ≤ (q + 1) * t := Nat.mul_le_mul_right _ (Nat.le_succ _)
  have m1 : (pk * tm).toInt = ((q * t : Nat) : Int) := mul_nat hq ht (by omega)
  have m2 : ((pk + (1 : Int32)) * tm).toInt = (((q + 1) * t : Nat) : Int) := mul_nat (add_nat hq rfl (by omega)) ht (by omega)
  refine k_invS (y := (⟨"java/util/Arrays", "fill", "([IIII)V"⟩ : MethodName)) (st := []) [(.ref fr), (.int (pk * tm)), (.int ((pk + (1 : Int32)) * tm)), (.int (0 : Int32))] 0 (pc := 55) H (wd hw 42 rfl) (wd hw 43 rfl) (wd hw 31 rfl) (wd hw 44 rfl) (by decide) (fun z0 => rm6 l Z a0 hw n0 h289 z0 fr xfr (pk * tm) ((pk + (1 : Int32)) * tm) (0 : Int32) (q * t) ((q + 1) * t) ge_fr f303 hlen m1 m2 hqt hfr) (lenOf pd_2 rfl) d5_55 rfl rfl rfl (by decide) (by decide) (by decide) (by decide) ?_
  rintro v h307 ⟨rfl, K306, f308⟩
  show W l own_rm5_room C _ h307 0 0 58 #[.val (.ref c), .val (.int x)] []
  have KW309 : Keep h0 h307 [c, w, pl, pr, le, fr] := KW292.trans K306 (allS (Or.inl (List.mem_of_getElem? (i := 5) rfl)) all0)
  have f310 : Exa Z h307 c "com/example/terms_to_entities/termstoentities/index/TermCounts" := f293.keep K306
  have f311 : Fld Z h307 c "com/example/terms_to_entities/termstoentities/index/TermCounts" "terms" "I" (.int tm) := f294.keep K306 (ninS ne_c_fr nin0)
  have f312 : Fld Z h307 c "com/example/terms_to_entities/termstoentities/index/TermCounts" "wholeFrequencies" "[I" (.ref w) := f295.keep K306 (ninS ne_c_fr nin0)
  have f313 : Fld Z h307 c "com/example/terms_to_entities/termstoentities/index/TermCounts" "placeOfPredicate" "[I" (.ref pl) := f296.keep K306 (ninS ne_c_fr nin0)
  have f314 : Fld Z h307 c "com/example/terms_to_entities/termstoentities/index/TermCounts" "predicates" "[I" (.ref pr) := f297.keep K306 (ninS ne_c_fr nin0)
  have f315 : Fld Z h307 c "com/example/terms_to_entities/termstoentities/index/TermCounts" "predicateLengths" "[J" (.ref le) := f298.keep K306 (ninS ne_c_fr nin0)
  have f316 : Fld Z h307 c "com/example/terms_to_entities/termstoentities/index/TermCounts" "predicateFrequencies" "[I" (.ref fr) := f299.keep K306 (ninS ne_c_fr nin0)
  have f317 : Fld Z h307 c "com/example/terms_to_entities/termstoentities/index/TermCounts" "wholeLength" "J" (.long wl) := f300.keep K306 (ninS ne_c_fr nin0)
  have f318 : Fld Z h307 c "com/example/terms_to_entities/termstoentities/index/TermCounts" "predicateCount" "I" (.int pk) := f301.keep K306 (ninS ne_c_fr nin0)
  have f319 : IA Z h307 w xw := f302.keep K306 (ninS ne_w_fr nin0)
  have f320 : IA Z h307 pl (xpl.set p pk) := f304.keep K306 (ninS ne_pl_fr nin0)
  have f321 : IA Z h307 pr (xpr.set q x) := f305.keep K306 (ninS ne_pr_fr nin0)
  have f322 : JA Z h307 le (xle.set q (0 : Int64)) := V291.keep K306 (ninS ne_le_fr nin0)
  refine k_aloadN (pc := 58) H d5_58 rfl rfl ?_
  refine k_dup (pc := 59) H d5_59 rfl ?_
  refine k_getfield (pc := 60) H (wd hw 35 rfl) f318 d5_60 ?_
  refine k_iconst (1 : Int32) (pc := 63) H d5_63 rfl ?_
  refine k_iadd (pc := 64) H d5_64 ?_
  refine k_putfield .int (pc := 65) H (wd hw 35 rfl) f318 f310 (Or.inl (wd hw 36 rfl)) (wd hw 2 rfl) (by decide) rfl rfl ge_c d5_65 ?_
  intro h323 Wr324 f325
  have KW326 : Keep h0 h323 [c, w, pl, pr, le, fr] := KW309.wr Wr324 (Or.inl (List.mem_of_getElem? (i := 0) rfl))
  have f327 : Exa Z h323 c "com/example/terms_to_entities/termstoentities/index/TermCounts" := Jvm.RoadKit.Exa.wr Wr324 f310
  have f328 : Fld Z h323 c "com/example/terms_to_entities/termstoentities/index/TermCounts" "terms" "I" (.int tm) := Jvm.RoadKit.Fld.other Wr324 f311 (Or.inr (slot_ne (t := .int) (t' := .int) (Or.inr (wd hw 11 rfl)) (Or.inl (wd hw 36 rfl)) (by decide) (by decide) (by decide)))
  have f329 : Fld Z h323 c "com/example/terms_to_entities/termstoentities/index/TermCounts" "wholeFrequencies" "[I" (.ref w) := Jvm.RoadKit.Fld.other Wr324 f312 (Or.inr (slot_ne (t := (.array .int)) (t' := .int) (Or.inr (wd hw 14 rfl)) (Or.inl (wd hw 36 rfl)) (by decide) (by decide) (by decide)))
  have f330 : Fld Z h323 c "com/example/terms_to_entities/termstoentities/index/TermCounts" "placeOfPredicate" "[I" (.ref pl) := Jvm.RoadKit.Fld.other Wr324 f313 (Or.inr (slot_ne (t := (.array .int)) (t' := .int) (Or.inr (wd hw 16 rfl)) (Or.inl (wd hw 36 rfl)) (by decide) (by decide) (by decide)))
  have f331 : Fld Z h323 c "com/example/terms_to_entities/termstoentities/index/TermCounts" "predicates" "[I" (.ref pr) := Jvm.RoadKit.Fld.other Wr324 f314 (Or.inr (slot_ne (t := (.array .int)) (t' := .int) (Or.inr (wd hw 18 rfl)) (Or.inl (wd hw 36 rfl)) (by decide) (by decide) (by decide)))
  have f332 : Fld Z h323 c "com/example/terms_to_entities/termstoentities/index/TermCounts" "predicateLengths" "[J" (.ref le) := Jvm.RoadKit.Fld.other Wr324 f315 (Or.inr (slot_ne (t := (.array .long)) (t' := .int) (Or.inr (wd hw 21 rfl)) (Or.inl (wd hw 36 rfl)) (by decide) (by decide) (by decide)))
  have f333 : Fld Z h323 c "com/example/terms_to_entities/termstoentities/index/TermCounts" "predicateFrequencies" "[I" (.ref fr) := Jvm.RoadKit.Fld.other Wr324 f316 (Or.inr (slot_ne (t := (.array .int)) (t' := .int) (Or.inr (wd hw 23 rfl)) (Or.inl (wd hw 36 rfl)) (by decide) (by decide) (by decide)))
  have f334 : Fld Z h323 c "com/example/terms_to_entities/termstoentities/index/TermCounts" "wholeLength" "J" (.long wl) := Jvm.RoadKit.Fld.other Wr324 f317 (Or.inr (slot_ne (t := .long) (t' := .int) (Or.inl (wd hw 34 rfl)) (Or.inl (wd hw 36 rfl)) (by decide) (by decide) (by decide)))
  have f335 : IA Z h323 w xw := f319.other Wr324 (Ne.symm ne_c_w)
  have f336 : IA Z h323 pl (xpl.set p pk) := f320.other Wr324 (Ne.symm ne_c_pl)
  have f337 : IA Z h323 pr (xpr.set q x) := f321.other Wr324 (Ne.symm ne_c_pr)
  have f338 : JA Z h323 le (xle.set q (0 : Int64)) := f322.other Wr324 (Ne.symm ne_c_le)
  have f339 : IA Z h323 fr (own_fr (0 : Int32) xfr (q * t) ((q + 1) * t - q * t)) := f308.other Wr324 (Ne.symm ne_c_fr)
  exact k_retVoid (pc := 68) H d5_68 (by show 0 ≤ own_rm5_room.cells; decide) (by show 0 ≤ own_rm5_room.slots; decide) (⟨rfl, KW326, ⟨f327, f328, f329, f330, f331, f332, f333, f334, f325, f335, f336, f337, f338, f339⟩⟩)
theorem d8_0 : decode prog_14_method_11_code 0 = .ok (.aload_n 0, 1) := by decide +kernel
theorem d8_1 : decode prog_14_method_11_code 1 = .ok (.getfield 23, 3) := by decide +kernel
theorem d8_4 : decode prog_14_method_11_code 4 = .ok (.aload_n 0, 1) := by decide +kernel
theorem d8_5 : decode prog_14_method_11_code 5 = .ok (.getfield 17, 3) := by decide +kernel
theorem d8_8 : decode prog_14_method_11_code 8 = .ok (.iload_n 1, 1) := by decide +kernel
theorem d8_9 : decode prog_14_method_11_code 9 = .ok (.iaload, 1) := by decide +kernel
theorem d8_10 : decode prog_14_method_11_code 10 = .ok (.dup2, 1) := by decide +kernel
theorem d8_11 : decode prog_14_method_11_code 11 = .ok (.laload, 1) := by decide +kernel
theorem d8_12 : decode prog_14_method_11_code 12 = .ok (.lload_n 2, 1) := by decide +kernel
theorem d8_13 : decode prog_14_method_11_code 13 = .ok (.ladd, 1) := by decide +kernel
theorem d8_14 : decode prog_14_method_11_code 14 = .ok (.lastore, 1) := by decide +kernel
theorem d8_15 : decode prog_14_method_11_code 15 = .ok (.return_, 1) := by decide +kernel
abbrev own_rm8_room : Room := { frames := 0, cells := 0, slots := 0, locals := 0 }
set_option maxRecDepth 65536 in
set_option maxHeartbeats 40000000 in
theorem rm8 (l : Launch) (Z : State) (a0 : Array Value) (hw : ∀ d ∈ tables_1, d.before a0 Z = true) (n0 : Nat) (h0 : Heap) (Z0 : n0 ≤ h0.size) (c w pl pr le fr : Addr) (tm : Int32) (xw xpl xpr : List Int32) (xle : List Int64) (xfr : List Int32) (wl : Int64) (pk : Int32) (x : Int32) (y : Int64) (p q : Nat) (q32 : Int32) (AP : own_Ap n0 c w pl pr le fr) (T : own_TC Z h0 c w pl pr le fr tm xw xpl xpr xle xfr wl pk) (hp : x.toInt = (p : Int)) (hpl : xpl[p]? = some q32) (hq : q32.toInt = (q : Int)) (hql : q < xle.length) :
    Ctr l Z (⟨"com/example/terms_to_entities/termstoentities/index/TermCounts", "countLength", "(IJ)V"⟩ : MethodName) prog_14_method_11_code 4 none own_rm8_room n0 #[(.ref c), (.int x), (.long y)] h0 (fun v h => v = none ∧ Keep h0 h [c, w, pl, pr, le, fr] ∧ own_TC Z h c w pl pr le fr tm xw xpl xpr (xle.set q (xle.getD q 0 + y)) xfr wl pk) := by
  refine Ctr.of #[.val (.ref c), .val (.int x), .val (.long y), .second] pn_1 Z0 (fun m => by first | (simp [entryFrame, mkF, argsToLocals, Value.category]; done) | rfl) ?_
  intro C H
  have TT := T
  have AQ := AP
  obtain ⟨ge_c, ge_w, ge_pl, ge_pr, ge_le, ge_fr, ne_c_w, ne_c_pl, ne_c_pr, ne_c_le, ne_c_fr, ne_w_pl, ne_w_pr, ne_w_le, ne_w_fr, ne_pl_pr, ne_pl_le, ne_pl_fr, ne_pr_le, ne_pr_fr, ne_le_fr⟩ := AQ
  obtain ⟨X, F_terms, F_wholeFrequencies, F_placeOfPredicate, F_predicates, F_predicateLengths, F_predicateFrequencies, F_wholeLength, F_predicateCount, V_w, V_pl, V_pr, V_le, V_fr⟩ := TT
  refine k_aloadN (pc := 0) H d8_0 rfl rfl ?_
  refine k_getfield (pc := 1) H (wd hw 20 rfl) F_predicateLengths d8_1 ?_
  refine k_aloadN (pc := 4) H d8_4 rfl rfl ?_
  refine k_getfield (pc := 5) H (wd hw 15 rfl) F_placeOfPredicate d8_5 ?_
  refine k_iloadN (pc := 8) H d8_8 rfl ?_
  refine k_ialoadT (i := p) (x := q32) (pc := 9) H V_pl (hp) (hpl) d8_9 ?_
  refine k_dup2 (pc := 10) H d8_10 rfl rfl ?_
  refine k_laloadT (i := q) (x := (xle.getD q 0)) (pc := 11) H V_le (hq) (own_get 0 hql) d8_11 ?_
  refine k_lloadN (pc := 12) H d8_12 rfl ?_
  refine k_ladd (pc := 13) H d8_13 ?_
  refine k_lastoreT (i := q) (pc := 14) H V_le (hq) (hql) ge_le d8_14 ?_
  intro h340 K341 V342
  have KW343 : Keep h0 h340 [c, w, pl, pr, le, fr] := (Keep.refl h0 [c, w, pl, pr, le, fr]).trans K341 (allS (Or.inl (List.mem_of_getElem? (i := 4) rfl)) all0)
  have f344 : Exa Z h340 c "com/example/terms_to_entities/termstoentities/index/TermCounts" := X.keep K341
  have f345 : Fld Z h340 c "com/example/terms_to_entities/termstoentities/index/TermCounts" "terms" "I" (.int tm) := F_terms.keep K341 (ninS ne_c_le nin0)
  have f346 : Fld Z h340 c "com/example/terms_to_entities/termstoentities/index/TermCounts" "wholeFrequencies" "[I" (.ref w) := F_wholeFrequencies.keep K341 (ninS ne_c_le nin0)
  have f347 : Fld Z h340 c "com/example/terms_to_entities/termstoentities/index/TermCounts" "placeOfPredicate" "[I" (.ref pl) := F_placeOfPredicate.keep K341 (ninS ne_c_le nin0)
  have f348 : Fld Z h340 c "com/example/terms_to_entities/termstoentities/index/TermCounts" "predicates" "[I" (.ref pr) := F_predicates.keep K341 (ninS ne_c_le nin0)
  have f349 : Fld Z h340 c "com/example/terms_to_entities/termstoentities/index/TermCounts" "predicateLengths" "[J" (.ref le) := F_predicateLengths.keep K341 (ninS ne_c_le nin0)
  have f350 : Fld Z h340 c "com/example/terms_to_entities/termstoentities/index/TermCounts" "predicateFrequencies" "[I" (.ref fr) := F_predicateFrequencies.keep K341 (ninS ne_c_le nin0)
  have f351 : Fld Z h340 c "com/example/terms_to_entities/termstoentities/index/TermCounts" "wholeLength" "J" (.long wl) := F_wholeLength.keep K341 (ninS ne_c_le nin0)
  have f352 : Fld Z h340 c "com/example/terms_to_entities/termstoentities/index/TermCounts" "predicateCount" "I" (.int pk) := F_predicateCount.keep K341 (ninS ne_c_le nin0)
  have f353 : IA Z h340 w xw := V_w.keep K341 (ninS ne_w_le nin0)
  have f354 : IA Z h340 pl xpl := V_pl.keep K341 (ninS ne_pl_le nin0)
  have f355 : IA Z h340 pr xpr := V_pr.keep K341 (ninS ne_pr_le nin0)
  have f356 : IA Z h340 fr xfr := V_fr.keep K341 (ninS (Ne.symm ne_le_fr) nin0)
  exact k_retVoid (pc := 15) H d8_15 (by show 0 ≤ own_rm8_room.cells; decide) (by show 0 ≤ own_rm8_room.slots; decide) (⟨rfl, KW343, ⟨f344, f345, f346, f347, f348, f349, f350, f351, f352, f353, f354, f355, V342, f356⟩⟩)
theorem d9_0 : decode prog_14_method_2_code 0 = .ok (.aload_n 0, 1) := by decide +kernel
theorem d9_1 : decode prog_14_method_2_code 1 = .ok (.getfield 30, 3) := by decide +kernel
theorem d9_4 : decode prog_14_method_2_code 4 = .ok (.lstore_n 1, 1) := by decide +kernel
theorem d9_5 : decode prog_14_method_2_code 5 = .ok (.iconst 0, 1) := by decide +kernel
theorem d9_6 : decode prog_14_method_2_code 6 = .ok (.istore_n 3, 1) := by decide +kernel
theorem d9_7 : decode prog_14_method_2_code 7 = .ok (.iload_n 3, 1) := by decide +kernel
theorem d9_8 : decode prog_14_method_2_code 8 = .ok (.aload_n 0, 1) := by decide +kernel
theorem d9_9 : decode prog_14_method_2_code 9 = .ok (.getfield 34, 3) := by decide +kernel
theorem d9_12 : decode prog_14_method_2_code 12 = .ok (.if_icmp .ge 18, 3) := by decide +kernel
theorem d9_15 : decode prog_14_method_2_code 15 = .ok (.lload_n 1, 1) := by decide +kernel
theorem d9_16 : decode prog_14_method_2_code 16 = .ok (.aload_n 0, 1) := by decide +kernel
theorem d9_17 : decode prog_14_method_2_code 17 = .ok (.getfield 23, 3) := by decide +kernel
theorem d9_20 : decode prog_14_method_2_code 20 = .ok (.iload_n 3, 1) := by decide +kernel
theorem d9_21 : decode prog_14_method_2_code 21 = .ok (.laload, 1) := by decide +kernel
theorem d9_22 : decode prog_14_method_2_code 22 = .ok (.lsub, 1) := by decide +kernel
theorem d9_23 : decode prog_14_method_2_code 23 = .ok (.lstore_n 1, 1) := by decide +kernel
theorem d9_24 : decode prog_14_method_2_code 24 = .ok (.iinc 3 1, 3) := by decide +kernel
theorem d9_27 : decode prog_14_method_2_code 27 = .ok (.goto (-20), 3) := by decide +kernel
theorem d9_30 : decode prog_14_method_2_code 30 = .ok (.lload_n 1, 1) := by decide +kernel
theorem d9_31 : decode prog_14_method_2_code 31 = .ok (.lreturn, 1) := by decide +kernel
abbrev own_rm9_room : Room := { frames := 0, cells := 0, slots := 0, locals := 0 }
set_option maxRecDepth 65536 in
set_option maxHeartbeats 40000000 in
theorem rm9 (l : Launch) (Z : State) (a0 : Array Value) (hw : ∀ d ∈ tables_1, d.before a0 Z = true) (n0 : Nat) (h0 : Heap) (Z0 : n0 ≤ h0.size) (c w pl pr le fr : Addr) (tm : Int32) (xw xpl xpr : List Int32) (xle : List Int64) (xfr : List Int32) (wl : Int64) (pk : Int32) (q : Nat) (AP : own_Ap n0 c w pl pr le fr) (T : own_TC Z h0 c w pl pr le fr tm xw xpl xpr xle xfr wl pk) (hq : pk.toInt = (q : Int)) (hql : q ≤ xle.length) (hq1 : q < 1000) :
    Ctr l Z (⟨"com/example/terms_to_entities/termstoentities/index/TermCounts", "restLength", "()J"⟩ : MethodName) prog_14_method_2_code 4 (some .long) own_rm9_room n0 #[(.ref c)] h0 (fun v h => v = some (.long (own_rs xle 0 q wl)) ∧ h = h0) := by
  refine Ctr.of #[.val (.ref c), .unset, .unset, .unset] pn_1 Z0 (fun m => by first | (simp [entryFrame, mkF, argsToLocals, Value.category]; done) | rfl) ?_
  intro C H
  have TT := T
  have AQ := AP
  obtain ⟨ge_c, ge_w, ge_pl, ge_pr, ge_le, ge_fr, ne_c_w, ne_c_pl, ne_c_pr, ne_c_le, ne_c_fr, ne_w_pl, ne_w_pr, ne_w_le, ne_w_fr, ne_pl_pr, ne_pl_le, ne_pl_fr, ne_pr_le, ne_pr_fr, ne_le_fr⟩ := AQ
  obtain ⟨X, F_terms, F_wholeFrequencies, F_placeOfPredicate, F_predicates, F_predicateLengths, F_predicateFrequencies, F_wholeLength, F_predicateCount, V_w, V_pl, V_pr, V_le, V_fr⟩ := TT
  refine k_aloadN (pc := 0) H d9_0 rfl rfl ?_
  refine k_getfield (pc := 1) H (wd hw 33 rfl) F_wholeLength d9_1 ?_
  refine k_lstoreN (pc := 4) H d9_4 (Ls' := #[.val (.ref c), .val (.long wl), .second, .unset]) rfl ?_
  refine k_iconst (0 : Int32) (pc := 5) H d9_5 rfl ?_
  refine k_istoreN (pc := 6) H d9_6 (Ls' := #[.val (.ref c), .val (.long wl), .second, .val (.int (0 : Int32))]) rfl ?_
  have L : ∀ (m i : Nat) (ii : Int32) (s : Int64) (hi : ii.toInt = (i : Int)) (hm : i + m = q) (hv : own_rs xle 0 q wl = own_rs xle i m s), W l own_rm9_room C (n0, own_rm9_room.cells, own_rm9_room.slots, fun v h => v = some (.long (own_rs xle 0 q wl)) ∧ h = h0) h0 0 0 7 #[.val (.ref c), .val (.long s), .second, .val (.int ii)] [] := by
    intro m
    induction m with
    | zero =>
      intro i ii s hi hm hv
      refine k_iloadN (pc := 7) H d9_7 rfl ?_
      refine k_aloadN (pc := 8) H d9_8 rfl rfl ?_
      refine k_getfield (pc := 9) H (wd hw 35 rfl) F_predicateCount d9_9 ?_
      refine k_icmpT 30 (pc := 12) H d9_12 rfl (XT.ii_ge_t (fun q => by have := (lt_nat hi hq).mp q; omega)) ?_
      refine k_lloadN (pc := 30) H d9_30 rfl ?_
      exact k_retLong (pc := 31) H d9_31 (by show 0 ≤ own_rm9_room.cells; decide) (by show 0 ≤ own_rm9_room.slots; decide) (⟨by rw [hv]; rfl, rfl⟩)
    | succ m ih =>
      intro i ii s hi hm hv
      refine k_iloadN (pc := 7) H d9_7 rfl ?_
      refine k_aloadN (pc := 8) H d9_8 rfl rfl ?_
      refine k_getfield (pc := 9) H (wd hw 35 rfl) F_predicateCount d9_9 ?_
      refine k_icmpF (pc := 12) H d9_12 (XT.ii_ge_f ((lt_nat hi hq).mpr (by omega))) ?_
      refine k_lloadN (pc := 15) H d9_15 rfl ?_
      refine k_aloadN (pc := 16) H d9_16 rfl rfl ?_
      refine k_getfield (pc := 17) H (wd hw 20 rfl) F_predicateLengths d9_17 ?_
      refine k_iloadN (pc := 20) H d9_20 rfl ?_
      refine k_laloadT (i := i) (x := (xle.getD i 0)) (pc := 21) H V_le (hi) (own_get 0 (by omega)) d9_21 ?_
      refine k_lsub (pc := 22) H d9_22 ?_
      refine k_lstoreN (pc := 23) H d9_23 (Ls' := #[.val (.ref c), .val (.long (s - (xle.getD i 0))), .second, .val (.int ii)]) rfl ?_
      refine k_iinc (1 : Int32) (pc := 24) H d9_24 rfl rfl (Ls' := #[.val (.ref c), .val (.long (s - (xle.getD i 0))), .second, .val (.int (ii + (1 : Int32)))]) rfl ?_
      refine k_goto 7 (pc := 27) H d9_27 rfl ?_
      exact ih (i + 1) _ _ (add_nat hi rfl (by omega)) (by omega) (by rw [hv]; rfl)
  exact L _ 0 _ _ rfl (by omega) rfl
theorem d0_0 : decode code 0 = .ok (.iload 10, 2) := by decide +kernel
theorem d0_2 : decode code 2 = .ok (.iconst 3, 1) := by decide +kernel
theorem d0_3 : decode code 3 = .ok (.iand, 1) := by decide +kernel
theorem d0_4 : decode code 4 = .ok (.istore 11, 2) := by decide +kernel
theorem d0_6 : decode code 6 = .ok (.iload 10, 2) := by decide +kernel
theorem d0_8 : decode code 8 = .ok (.iconst 2, 1) := by decide +kernel
theorem d0_9 : decode code 9 = .ok (.iushr, 1) := by decide +kernel
theorem d0_10 : decode code 10 = .ok (.ldc 7, 2) := by decide +kernel
theorem d0_12 : decode code 12 = .ok (.iand, 1) := by decide +kernel
theorem d0_13 : decode code 13 = .ok (.iconst 3, 1) := by decide +kernel
theorem d0_14 : decode code 14 = .ok (.irem, 1) := by decide +kernel
theorem d0_15 : decode code 15 = .ok (.istore 12, 2) := by decide +kernel
theorem d0_17 : decode code 17 = .ok (.iload 12, 2) := by decide +kernel
theorem d0_19 : decode code 19 = .ok (.istore 13, 2) := by decide +kernel
theorem d0_21 : decode code 21 = .ok (.iload 12, 2) := by decide +kernel
theorem d0_23 : decode code 23 = .ok (.iconst 1, 1) := by decide +kernel
theorem d0_24 : decode code 24 = .ok (.iadd, 1) := by decide +kernel
theorem d0_25 : decode code 25 = .ok (.iconst 3, 1) := by decide +kernel
theorem d0_26 : decode code 26 = .ok (.irem, 1) := by decide +kernel
theorem d0_27 : decode code 27 = .ok (.istore 14, 2) := by decide +kernel
theorem d0_29 : decode code 29 = .ok (.iload 12, 2) := by decide +kernel
theorem d0_31 : decode code 31 = .ok (.iconst 2, 1) := by decide +kernel
theorem d0_32 : decode code 32 = .ok (.iadd, 1) := by decide +kernel
theorem d0_33 : decode code 33 = .ok (.iconst 3, 1) := by decide +kernel
theorem d0_34 : decode code 34 = .ok (.irem, 1) := by decide +kernel
theorem d0_35 : decode code 35 = .ok (.istore 15, 2) := by decide +kernel
theorem d0_37 : decode code 37 = .ok (.new 8, 3) := by decide +kernel
theorem d0_40 : decode code 40 = .ok (.dup, 1) := by decide +kernel
theorem d0_41 : decode code 41 = .ok (.iconst 1, 1) := by decide +kernel
theorem d0_42 : decode code 42 = .ok (.iconst 3, 1) := by decide +kernel
theorem d0_43 : decode code 43 = .ok (.iconst 3, 1) := by decide +kernel
theorem d0_44 : decode code 44 = .ok (.invokespecial 10, 3) := by decide +kernel
theorem d0_47 : decode code 47 = .ok (.astore 16, 2) := by decide +kernel
theorem d0_49 : decode code 49 = .ok (.aload 16, 2) := by decide +kernel
theorem d0_51 : decode code 51 = .ok (.lload_n 0, 1) := by decide +kernel
theorem d0_52 : decode code 52 = .ok (.invokevirtual 13, 3) := by decide +kernel
theorem d0_55 : decode code 55 = .ok (.lload_n 0, 1) := by decide +kernel
theorem d0_56 : decode code 56 = .ok (.lstore 17, 2) := by decide +kernel
theorem d0_58 : decode code 58 = .ok (.iload 11, 2) := by decide +kernel
theorem d0_60 : decode code 60 = .ok (.ifCond .le 24, 3) := by decide +kernel
theorem d0_63 : decode code 63 = .ok (.aload 16, 2) := by decide +kernel
theorem d0_65 : decode code 65 = .ok (.iload 13, 2) := by decide +kernel
theorem d0_67 : decode code 67 = .ok (.invokevirtual 17, 3) := by decide +kernel
theorem d0_70 : decode code 70 = .ok (.aload 16, 2) := by decide +kernel
theorem d0_72 : decode code 72 = .ok (.iload 13, 2) := by decide +kernel
theorem d0_74 : decode code 74 = .ok (.lload_n 2, 1) := by decide +kernel
theorem d0_75 : decode code 75 = .ok (.invokevirtual 21, 3) := by decide +kernel
theorem d0_78 : decode code 78 = .ok (.lload 17, 2) := by decide +kernel
theorem d0_80 : decode code 80 = .ok (.lload_n 2, 1) := by decide +kernel
theorem d0_81 : decode code 81 = .ok (.lsub, 1) := by decide +kernel
theorem d0_82 : decode code 82 = .ok (.lstore 17, 2) := by decide +kernel
theorem d0_84 : decode code 84 = .ok (.iload 11, 2) := by decide +kernel
theorem d0_86 : decode code 86 = .ok (.iconst 1, 1) := by decide +kernel
theorem d0_87 : decode code 87 = .ok (.if_icmp .le 26, 3) := by decide +kernel
theorem d0_90 : decode code 90 = .ok (.aload 16, 2) := by decide +kernel
theorem d0_92 : decode code 92 = .ok (.iload 14, 2) := by decide +kernel
theorem d0_94 : decode code 94 = .ok (.invokevirtual 17, 3) := by decide +kernel
theorem d0_97 : decode code 97 = .ok (.aload 16, 2) := by decide +kernel
theorem d0_99 : decode code 99 = .ok (.iload 14, 2) := by decide +kernel
theorem d0_101 : decode code 101 = .ok (.lload 4, 2) := by decide +kernel
theorem d0_103 : decode code 103 = .ok (.invokevirtual 21, 3) := by decide +kernel
theorem d0_106 : decode code 106 = .ok (.lload 17, 2) := by decide +kernel
theorem d0_108 : decode code 108 = .ok (.lload 4, 2) := by decide +kernel
theorem d0_110 : decode code 110 = .ok (.lsub, 1) := by decide +kernel
theorem d0_111 : decode code 111 = .ok (.lstore 17, 2) := by decide +kernel
theorem d0_113 : decode code 113 = .ok (.iload 11, 2) := by decide +kernel
theorem d0_115 : decode code 115 = .ok (.iconst 2, 1) := by decide +kernel
theorem d0_116 : decode code 116 = .ok (.if_icmp .le 26, 3) := by decide +kernel
theorem d0_119 : decode code 119 = .ok (.aload 16, 2) := by decide +kernel
theorem d0_121 : decode code 121 = .ok (.iload 15, 2) := by decide +kernel
theorem d0_123 : decode code 123 = .ok (.invokevirtual 17, 3) := by decide +kernel
theorem d0_126 : decode code 126 = .ok (.aload 16, 2) := by decide +kernel
theorem d0_128 : decode code 128 = .ok (.iload 15, 2) := by decide +kernel
theorem d0_130 : decode code 130 = .ok (.lload 6, 2) := by decide +kernel
theorem d0_132 : decode code 132 = .ok (.invokevirtual 21, 3) := by decide +kernel
theorem d0_135 : decode code 135 = .ok (.lload 17, 2) := by decide +kernel
theorem d0_137 : decode code 137 = .ok (.lload 6, 2) := by decide +kernel
theorem d0_139 : decode code 139 = .ok (.lsub, 1) := by decide +kernel
theorem d0_140 : decode code 140 = .ok (.lstore 17, 2) := by decide +kernel
theorem d0_142 : decode code 142 = .ok (.aload 16, 2) := by decide +kernel
theorem d0_144 : decode code 144 = .ok (.invokevirtual 25, 3) := by decide +kernel
theorem d0_147 : decode code 147 = .ok (.lstore 19, 2) := by decide +kernel
theorem d0_149 : decode code 149 = .ok (.aload 16, 2) := by decide +kernel
theorem d0_151 : decode code 151 = .ok (.lload 8, 2) := by decide +kernel
theorem d0_153 : decode code 153 = .ok (.invokevirtual 13, 3) := by decide +kernel
theorem d0_156 : decode code 156 = .ok (.aload 16, 2) := by decide +kernel
theorem d0_158 : decode code 158 = .ok (.invokevirtual 25, 3) := by decide +kernel
theorem d0_161 : decode code 161 = .ok (.lstore 21, 2) := by decide +kernel
theorem d0_163 : decode code 163 = .ok (.lload 19, 2) := by decide +kernel
theorem d0_165 : decode code 165 = .ok (.lload 17, 2) := by decide +kernel
theorem d0_167 : decode code 167 = .ok (.lcmp, 1) := by decide +kernel
theorem d0_168 : decode code 168 = .ok (.ifCond .ne 15, 3) := by decide +kernel
theorem d0_171 : decode code 171 = .ok (.lload 21, 2) := by decide +kernel
theorem d0_173 : decode code 173 = .ok (.lload 8, 2) := by decide +kernel
theorem d0_175 : decode code 175 = .ok (.lcmp, 1) := by decide +kernel
theorem d0_176 : decode code 176 = .ok (.ifCond .ne 7, 3) := by decide +kernel
theorem d0_179 : decode code 179 = .ok (.iconst 1, 1) := by decide +kernel
theorem d0_180 : decode code 180 = .ok (.goto 4, 3) := by decide +kernel
theorem d0_183 : decode code 183 = .ok (.iconst 0, 1) := by decide +kernel
theorem d0_184 : decode code 184 = .ok (.ireturn, 1) := by decide +kernel
set_option maxRecDepth 65536 in
set_option maxHeartbeats 40000000 in
theorem rm0 (l : Launch) (Z : State) (a0 : Array Value) (hw : ∀ d ∈ tables_1, d.before a0 Z = true) (ws : List Jvm.Cond) (n0 : Nat) (h0 : Heap) (Z0 : n0 ≤ h0.size) (whole : Int64) (l0 : Int64) (l1 : Int64) (l2 : Int64) (whole2 : Int64) (mode : Int32) :
    MetFree l x (head1 (Jvm.Cond.code x code maxLocals ret :: ws) room_1) (fun as_ U => as_ = #[(.long whole), (.long l0), (.long l1), (.long l2), (.long whole2), (.int mode)] ∧ Z.Warmed39 U.vm ∧ U.heap = h0) (fun _ _ _ _ _ => True) (fun _ U o U' => ∃ v L, o = .returned v ∧ ((fun v h => v = some (.int 1)) v U'.heap ∧ Fr n0 L) ∧ FrameEnd U o U' L 24 128) := by
  refine met_of (Q := fun v h => v = some (.int 1)) #[.val (.long whole), .second, .val (.long l0), .second, .val (.long l1), .second, .val (.long l2), .second, .val (.long whole2), .second, .val (.int mode), .unset, .unset, .unset, .unset, .unset, .unset, .unset, .unset, .unset, .unset, .unset, .unset] pn_2 Z0 (fun m => by first | (simp [entryFrame, mkF, argsToLocals, Value.category, maxLocals]; done) | rfl) ?_
  intro C H
  refine k_iload (pc := 0) H d0_0 rfl ?_
  refine k_iconst (3 : Int32) (pc := 2) H d0_2 rfl ?_
  refine k_iand (pc := 3) H d0_3 ?_
  generalize hv_n : (mode &&& (3 : Int32)) = n
  refine k_istore (pc := 4) H d0_4 (Ls' := #[.val (.long whole), .second, .val (.long l0), .second, .val (.long l1), .second, .val (.long l2), .second, .val (.long whole2), .second, .val (.int mode), .val (.int n), .unset, .unset, .unset, .unset, .unset, .unset, .unset, .unset, .unset, .unset, .unset]) rfl ?_
  refine k_iload (pc := 6) H d0_6 rfl ?_
  refine k_iconst (2 : Int32) (pc := 8) H d0_8 rfl ?_
  refine k_iushr (pc := 9) H d0_9 ?_
  refine k_ldcI (v := (2147483647 : Int32)) (pc := 10) H (wd hw 0 rfl) d0_10 ?_
  refine k_iand (pc := 12) H d0_12 ?_
  refine k_iconst (3 : Int32) (pc := 13) H d0_13 rfl ?_
  refine k_irem (pc := 14) H d0_14 (by decide) ?_
  generalize hv_r : (((XT.ushr mode (2 : Int32)) &&& (2147483647 : Int32)) % (3 : Int32)) = r
  refine k_istore (pc := 15) H d0_15 (Ls' := #[.val (.long whole), .second, .val (.long l0), .second, .val (.long l1), .second, .val (.long l2), .second, .val (.long whole2), .second, .val (.int mode), .val (.int n), .val (.int r), .unset, .unset, .unset, .unset, .unset, .unset, .unset, .unset, .unset, .unset]) rfl ?_
  refine k_iload (pc := 17) H d0_17 rfl ?_
  refine k_istore (pc := 19) H d0_19 (Ls' := #[.val (.long whole), .second, .val (.long l0), .second, .val (.long l1), .second, .val (.long l2), .second, .val (.long whole2), .second, .val (.int mode), .val (.int n), .val (.int r), .val (.int r), .unset, .unset, .unset, .unset, .unset, .unset, .unset, .unset, .unset]) rfl ?_
  refine k_iload (pc := 21) H d0_21 rfl ?_
  refine k_iconst (1 : Int32) (pc := 23) H d0_23 rfl ?_
  refine k_iadd (pc := 24) H d0_24 ?_
  refine k_iconst (3 : Int32) (pc := 25) H d0_25 rfl ?_
  refine k_irem (pc := 26) H d0_26 (by decide) ?_
  refine k_istore (pc := 27) H d0_27 (Ls' := #[.val (.long whole), .second, .val (.long l0), .second, .val (.long l1), .second, .val (.long l2), .second, .val (.long whole2), .second, .val (.int mode), .val (.int n), .val (.int r), .val (.int r), .val (.int ((r + (1 : Int32)) % (3 : Int32))), .unset, .unset, .unset, .unset, .unset, .unset, .unset, .unset]) rfl ?_
  refine k_iload (pc := 29) H d0_29 rfl ?_
  refine k_iconst (2 : Int32) (pc := 31) H d0_31 rfl ?_
  refine k_iadd (pc := 32) H d0_32 ?_
  refine k_iconst (3 : Int32) (pc := 33) H d0_33 rfl ?_
  refine k_irem (pc := 34) H d0_34 (by decide) ?_
  refine k_istore (pc := 35) H d0_35 (Ls' := #[.val (.long whole), .second, .val (.long l0), .second, .val (.long l1), .second, .val (.long l2), .second, .val (.long whole2), .second, .val (.int mode), .val (.int n), .val (.int r), .val (.int r), .val (.int ((r + (1 : Int32)) % (3 : Int32))), .val (.int ((r + (2 : Int32)) % (3 : Int32))), .unset, .unset, .unset, .unset, .unset, .unset, .unset]) rfl ?_
  obtain ⟨p0, hp0, hp03⟩ := mod_nat (XT.ushr mode 2) 2147483647 3 31 3 (by decide) (by decide) rfl (by decide)
  rw [hv_r] at hp0
  have hp1 : ((r + 1) % 3).toInt = (((p0 + 1) % 3 : Nat) : Int) := rem_nat (add_nat hp0 rfl (by omega)) rfl
  have hp2 : ((r + 2) % 3).toInt = (((p0 + 2) % 3 : Nat) : Int) := rem_nat (add_nat hp0 rfl (by omega)) rfl
  have hp13 : (p0 + 1) % 3 < 3 := Nat.mod_lt _ (by decide)
  have hp23 : (p0 + 2) % 3 < 3 := Nat.mod_lt _ (by decide)
  refine k_newObj (pc := 37) H (wd hw 1 rfl) (wd hw 2 rfl) (wd hw 3 rfl) d0_37 (by decide) (by decide) ?_
  intro h357 c ea358 ge359 E360 X361 D362
  have f363 : Fld Z h357 c "com/example/terms_to_entities/termstoentities/index/TermCounts" "terms" "I" (.int (0 : Int32)) := D362 (Or.inr (wd hw 11 rfl)) (ty := .int) (by decide)
  have f364 : Fld Z h357 c "com/example/terms_to_entities/termstoentities/index/TermCounts" "wholeFrequencies" "[I" .null := D362 (Or.inr (wd hw 14 rfl)) (ty := (.array .int)) (by decide)
  have f365 : Fld Z h357 c "com/example/terms_to_entities/termstoentities/index/TermCounts" "placeOfPredicate" "[I" .null := D362 (Or.inr (wd hw 16 rfl)) (ty := (.array .int)) (by decide)
  have f366 : Fld Z h357 c "com/example/terms_to_entities/termstoentities/index/TermCounts" "predicates" "[I" .null := D362 (Or.inr (wd hw 18 rfl)) (ty := (.array .int)) (by decide)
  have f367 : Fld Z h357 c "com/example/terms_to_entities/termstoentities/index/TermCounts" "predicateLengths" "[J" .null := D362 (Or.inr (wd hw 21 rfl)) (ty := (.array .long)) (by decide)
  have f368 : Fld Z h357 c "com/example/terms_to_entities/termstoentities/index/TermCounts" "predicateFrequencies" "[I" .null := D362 (Or.inr (wd hw 23 rfl)) (ty := (.array .int)) (by decide)
  have f369 : Fld Z h357 c "com/example/terms_to_entities/termstoentities/index/TermCounts" "wholeLength" "J" (.long (0 : Int64)) := D362 (Or.inl (wd hw 34 rfl)) (ty := .long) (by decide)
  have f370 : Fld Z h357 c "com/example/terms_to_entities/termstoentities/index/TermCounts" "predicateCount" "I" (.int (0 : Int32)) := D362 (Or.inl (wd hw 36 rfl)) (ty := .int) (by decide)
  refine k_dup (pc := 40) H d0_40 rfl ?_
  refine k_iconst (1 : Int32) (pc := 41) H d0_41 rfl ?_
  refine k_iconst (3 : Int32) (pc := 42) H d0_42 rfl ?_
  refine k_iconst (3 : Int32) (pc := 43) H d0_43 rfl ?_
  refine k_invI (y := (⟨"com/example/terms_to_entities/termstoentities/index/TermCounts", "<init>", "(III)V"⟩ : MethodName)) (st := [(.ref c)]) (a := c) [(.int (1 : Int32)), (.int (3 : Int32)), (.int (3 : Int32))] 1 (pc := 44) H rfl (wd hw 4 rfl) (wd hw 5 rfl) (wd hw 3 rfl) (wd hw 6 rfl) (by decide) (fun z0 => rm1 l Z a0 hw n0 h357 z0 c ge359 X361 f363 f364 f365 f366 f367 f368 f369 f370) (lenOf pd_0 rfl) d0_44 rfl rfl rfl (by decide) (by decide) (by decide) (by decide) ?_
  rintro v hA ⟨rfl, w, pl, pr, le, fr, AP, NW, K0, T0⟩
  show W l room_1 C _ hA 6 21 47 #[.val (.long whole), .second, .val (.long l0), .second, .val (.long l1), .second, .val (.long l2), .second, .val (.long whole2), .second, .val (.int mode), .val (.int n), .val (.int r), .val (.int r), .val (.int ((r + (1 : Int32)) % (3 : Int32))), .val (.int ((r + (2 : Int32)) % (3 : Int32))), .unset, .unset, .unset, .unset, .unset, .unset, .unset] [(.ref c)]
  refine k_astore (pc := 47) H d0_47 rfl (Ls' := #[.val (.long whole), .second, .val (.long l0), .second, .val (.long l1), .second, .val (.long l2), .second, .val (.long whole2), .second, .val (.int mode), .val (.int n), .val (.int r), .val (.int r), .val (.int ((r + (1 : Int32)) % (3 : Int32))), .val (.int ((r + (2 : Int32)) % (3 : Int32))), .val (.ref c), .unset, .unset, .unset, .unset, .unset, .unset]) rfl ?_
  refine k_aload (pc := 49) H d0_49 rfl rfl ?_
  refine k_lloadN (pc := 51) H d0_51 rfl ?_
  refine k_invV (y := (⟨"com/example/terms_to_entities/termstoentities/index/TermCounts", "start", "(J)V"⟩ : MethodName)) (st := []) (a := c) [(.long whole)] 0 (pc := 52) H (wd hw 24 rfl) (wd hw 25 rfl) (wd hw 27 rfl) (wd hw 26 rfl) (wd hw 3 rfl) (wd hw 28 rfl) rfl (by decide) T0.1 (fun z0 => rm3 l Z a0 hw n0 hA z0 _ _ _ _ _ _ _ _ _ _ _ _ _ _ whole AP T0 (by simp)) (lenOf pd_3 rfl) d0_52 rfl rfl rfl (by decide) (by decide) (by decide) (by decide) ?_
  rintro v hB ⟨rfl, K1, T1⟩
  show W l room_1 C _ hB 6 21 55 #[.val (.long whole), .second, .val (.long l0), .second, .val (.long l1), .second, .val (.long l2), .second, .val (.long whole2), .second, .val (.int mode), .val (.int n), .val (.int r), .val (.int r), .val (.int ((r + (1 : Int32)) % (3 : Int32))), .val (.int ((r + (2 : Int32)) % (3 : Int32))), .val (.ref c), .unset, .unset, .unset, .unset, .unset, .unset] []
  refine k_lloadN (pc := 55) H d0_55 rfl ?_
  refine k_lstore (pc := 56) H d0_56 (Ls' := #[.val (.long whole), .second, .val (.long l0), .second, .val (.long l1), .second, .val (.long l2), .second, .val (.long whole2), .second, .val (.int mode), .val (.int n), .val (.int r), .val (.int r), .val (.int ((r + (1 : Int32)) % (3 : Int32))), .val (.int ((r + (2 : Int32)) % (3 : Int32))), .val (.ref c), .val (.long whole), .second, .unset, .unset, .unset, .unset]) rfl ?_
  refine k_iload (pc := 58) H d0_58 rfl ?_
  have J : ∀ (hh : Heap) (xw xpl xpr : List Int32) (xle : List Int64) (xfr : List Int32) (pk : Int32) (q : Nat) (ex : Int64) (T : own_TC Z hh c w pl pr le fr 1 xw xpl xpr xle xfr whole pk) (hxw : xw.length = 1) (hq : pk.toInt = (q : Int)) (hql : q ≤ xle.length) (hl : xle.length = 3) (hex : own_rs xle 0 q whole = ex), W l room_1 C (n0, 24, 128, fun v h => v = some (.int 1)) hh 6 21 142 #[.val (.long whole), .second, .val (.long l0), .second, .val (.long l1), .second, .val (.long l2), .second, .val (.long whole2), .second, .val (.int mode), .val (.int n), .val (.int r), .val (.int r), .val (.int ((r + (1 : Int32)) % (3 : Int32))), .val (.int ((r + (2 : Int32)) % (3 : Int32))), .val (.ref c), .val (.long ex), .second, .unset, .unset, .unset, .unset] [] := by
    intro hh xw xpl xpr xle xfr pk q ex T hxw hq hql hl hex
    refine k_aload (pc := 142) H d0_142 rfl rfl ?_
    refine k_invV (y := (⟨"com/example/terms_to_entities/termstoentities/index/TermCounts", "restLength", "()J"⟩ : MethodName)) (st := []) (a := c) [] 0 (pc := 144) H (wd hw 53 rfl) (wd hw 54 rfl) (wd hw 56 rfl) (wd hw 55 rfl) (wd hw 3 rfl) (wd hw 57 rfl) rfl (by decide) T.1 (fun z0 => rm9 l Z a0 hw n0 hh z0 _ _ _ _ _ _ _ _ _ _ _ _ _ _ q AP T hq hql (by omega)) (lenOf pd_4 rfl) d0_144 rfl rfl rfl (by decide) (by decide) (by decide) (by decide) ?_
    rintro v hx ⟨rfl, ex⟩
    rw [ex]
    clear ex hx
    show W l room_1 C _ hh 6 21 147 #[.val (.long whole), .second, .val (.long l0), .second, .val (.long l1), .second, .val (.long l2), .second, .val (.long whole2), .second, .val (.int mode), .val (.int n), .val (.int r), .val (.int r), .val (.int ((r + (1 : Int32)) % (3 : Int32))), .val (.int ((r + (2 : Int32)) % (3 : Int32))), .val (.ref c), .val (.long ex), .second, .unset, .unset, .unset, .unset] [(.long (own_rs xle 0 q whole))]
    refine k_lstore (pc := 147) H d0_147 (Ls' := #[.val (.long whole), .second, .val (.long l0), .second, .val (.long l1), .second, .val (.long l2), .second, .val (.long whole2), .second, .val (.int mode), .val (.int n), .val (.int r), .val (.int r), .val (.int ((r + (1 : Int32)) % (3 : Int32))), .val (.int ((r + (2 : Int32)) % (3 : Int32))), .val (.ref c), .val (.long ex), .second, .val (.long (own_rs xle 0 q whole)), .second, .unset, .unset]) rfl ?_
    refine k_aload (pc := 149) H d0_149 rfl rfl ?_
    refine k_lload (pc := 151) H d0_151 rfl ?_
    refine k_invV (y := (⟨"com/example/terms_to_entities/termstoentities/index/TermCounts", "start", "(J)V"⟩ : MethodName)) (st := []) (a := c) [(.long whole2)] 0 (pc := 153) H (wd hw 24 rfl) (wd hw 25 rfl) (wd hw 27 rfl) (wd hw 26 rfl) (wd hw 3 rfl) (wd hw 28 rfl) rfl (by decide) T.1 (fun z0 => rm3 l Z a0 hw n0 hh z0 _ _ _ _ _ _ _ _ _ _ _ _ _ _ whole2 AP T (by omega)) (lenOf pd_3 rfl) d0_153 rfl rfl rfl (by decide) (by decide) (by decide) (by decide) ?_
    rintro v hC ⟨rfl, K9, T9⟩
    show W l room_1 C _ hC 6 21 156 #[.val (.long whole), .second, .val (.long l0), .second, .val (.long l1), .second, .val (.long l2), .second, .val (.long whole2), .second, .val (.int mode), .val (.int n), .val (.int r), .val (.int r), .val (.int ((r + (1 : Int32)) % (3 : Int32))), .val (.int ((r + (2 : Int32)) % (3 : Int32))), .val (.ref c), .val (.long ex), .second, .val (.long (own_rs xle 0 q whole)), .second, .unset, .unset] []
    refine k_aload (pc := 156) H d0_156 rfl rfl ?_
    refine k_invV (y := (⟨"com/example/terms_to_entities/termstoentities/index/TermCounts", "restLength", "()J"⟩ : MethodName)) (st := []) (a := c) [] 0 (pc := 158) H (wd hw 53 rfl) (wd hw 54 rfl) (wd hw 56 rfl) (wd hw 55 rfl) (wd hw 3 rfl) (wd hw 57 rfl) rfl (by decide) T9.1 (fun z0 => rm9 l Z a0 hw n0 hC z0 _ _ _ _ _ _ _ _ _ _ _ _ _ _ 0 AP T9 rfl (by omega) (by omega)) (lenOf pd_4 rfl) d0_158 rfl rfl rfl (by decide) (by decide) (by decide) (by decide) ?_
    rintro v hx ⟨rfl, ex⟩
    rw [ex]
    clear ex hx
    show W l room_1 C _ hC 6 21 161 #[.val (.long whole), .second, .val (.long l0), .second, .val (.long l1), .second, .val (.long l2), .second, .val (.long whole2), .second, .val (.int mode), .val (.int n), .val (.int r), .val (.int r), .val (.int ((r + (1 : Int32)) % (3 : Int32))), .val (.int ((r + (2 : Int32)) % (3 : Int32))), .val (.ref c), .val (.long ex), .second, .val (.long (own_rs xle 0 q whole)), .second, .unset, .unset] [(.long (own_rs xle 0 0 whole2))]
    refine k_lstore (pc := 161) H d0_161 (Ls' := #[.val (.long whole), .second, .val (.long l0), .second, .val (.long l1), .second, .val (.long l2), .second, .val (.long whole2), .second, .val (.int mode), .val (.int n), .val (.int r), .val (.int r), .val (.int ((r + (1 : Int32)) % (3 : Int32))), .val (.int ((r + (2 : Int32)) % (3 : Int32))), .val (.ref c), .val (.long ex), .second, .val (.long (own_rs xle 0 q whole)), .second, .val (.long (own_rs xle 0 0 whole2)), .second]) rfl ?_
    refine k_lload (pc := 163) H d0_163 rfl ?_
    refine k_lload (pc := 165) H d0_165 rfl ?_
    refine k_lcmp (pc := 167) H d0_167 ?_
    refine k_ifF (pc := 168) H d0_168 (XT.ll_ne_f (hex)) ?_
    refine k_lload (pc := 171) H d0_171 rfl ?_
    refine k_lload (pc := 173) H d0_173 rfl ?_
    refine k_lcmp (pc := 175) H d0_175 ?_
    refine k_ifF (pc := 176) H d0_176 (XT.ll_ne_f (rfl)) ?_
    refine k_iconst (1 : Int32) (pc := 179) H d0_179 rfl ?_
    refine k_goto 184 (pc := 180) H d0_180 rfl ?_
    exact k_retN' (t := .boolean) (by simp) (pc := 184) H d0_184 (by show 6 ≤ 24; decide) (by show 21 ≤ 128; decide) (rfl)
  refine k_iff0R (P := 0 < n) 84 (pc := 60) H d0_60 rfl XT.i0_le_t XT.i0_le_f (fun q0 => ?_) (fun q0 => ?_)
  · refine k_iload (pc := 84) H d0_84 rfl ?_
    refine k_iconst (1 : Int32) (pc := 86) H d0_86 rfl ?_
    refine k_icmpT 113 (pc := 87) H d0_87 rfl (XT.ii_le_t (own_nlt (i := 0) (j := 1) q0 rfl rfl (by decide))) ?_
    refine k_iload (pc := 113) H d0_113 rfl ?_
    refine k_iconst (2 : Int32) (pc := 115) H d0_115 rfl ?_
    refine k_icmpT 142 (pc := 116) H d0_116 rfl (XT.ii_le_t (own_nlt (i := 0) (j := 2) q0 rfl rfl (by decide))) ?_
    exact J _ _ _ _ _ _ _ 0 whole T1 (by simp [own_fr_len]) rfl (by simp) (by simp) (by rfl)
  · refine k_aload (pc := 63) H d0_63 rfl rfl ?_
    refine k_iload (pc := 65) H d0_65 rfl ?_
    refine k_invV (y := (⟨"com/example/terms_to_entities/termstoentities/index/TermCounts", "addPredicate", "(I)V"⟩ : MethodName)) (st := []) (a := c) [(.int r)] 0 (pc := 67) H (wd hw 37 rfl) (wd hw 38 rfl) (wd hw 40 rfl) (wd hw 39 rfl) (wd hw 3 rfl) (wd hw 41 rfl) rfl (by decide) T1.1 (fun z0 => rm5 l Z a0 hw n0 hB z0 _ _ _ _ _ _ _ _ _ _ _ _ _ _ _ p0 0 1 AP T1 hp0 (by simpa using hp03) rfl (by simp) (by simp) rfl (by simp [own_fr_len]) (by simp [own_fr_len]) (by decide)) (lenOf pd_5 rfl) d0_67 rfl rfl rfl (by decide) (by decide) (by decide) (by decide) ?_
    rintro v hA0 ⟨rfl, KA0, TA0⟩
    show W l room_1 C _ hA0 6 21 70 #[.val (.long whole), .second, .val (.long l0), .second, .val (.long l1), .second, .val (.long l2), .second, .val (.long whole2), .second, .val (.int mode), .val (.int n), .val (.int r), .val (.int r), .val (.int ((r + (1 : Int32)) % (3 : Int32))), .val (.int ((r + (2 : Int32)) % (3 : Int32))), .val (.ref c), .val (.long whole), .second, .unset, .unset, .unset, .unset] []
    refine k_aload (pc := 70) H d0_70 rfl rfl ?_
    refine k_iload (pc := 72) H d0_72 rfl ?_
    refine k_lloadN (pc := 74) H d0_74 rfl ?_
    refine k_invV (y := (⟨"com/example/terms_to_entities/termstoentities/index/TermCounts", "countLength", "(IJ)V"⟩ : MethodName)) (st := []) (a := c) [(.int r), (.long l0)] 0 (pc := 75) H (wd hw 48 rfl) (wd hw 49 rfl) (wd hw 51 rfl) (wd hw 50 rfl) (wd hw 3 rfl) (wd hw 52 rfl) rfl (by decide) TA0.1 (fun z0 => rm8 l Z a0 hw n0 hA0 z0 _ _ _ _ _ _ _ _ _ _ _ _ _ _ _ l0 p0 0 _ AP TA0 hp0 (own_set_get (by simpa using hp03)) rfl (by simp)) (lenOf pd_6 rfl) d0_75 rfl rfl rfl (by decide) (by decide) (by decide) (by decide) ?_
    rintro v hB0 ⟨rfl, KB0, TB0⟩
    show W l room_1 C _ hB0 6 21 78 #[.val (.long whole), .second, .val (.long l0), .second, .val (.long l1), .second, .val (.long l2), .second, .val (.long whole2), .second, .val (.int mode), .val (.int n), .val (.int r), .val (.int r), .val (.int ((r + (1 : Int32)) % (3 : Int32))), .val (.int ((r + (2 : Int32)) % (3 : Int32))), .val (.ref c), .val (.long whole), .second, .unset, .unset, .unset, .unset] []
    refine k_lload (pc := 78) H d0_78 rfl ?_
    refine k_lloadN (pc := 80) H d0_80 rfl ?_
    refine k_lsub (pc := 81) H d0_81 ?_
    refine k_lstore (pc := 82) H d0_82 (Ls' := #[.val (.long whole), .second, .val (.long l0), .second, .val (.long l1), .second, .val (.long l2), .second, .val (.long whole2), .second, .val (.int mode), .val (.int n), .val (.int r), .val (.int r), .val (.int ((r + (1 : Int32)) % (3 : Int32))), .val (.int ((r + (2 : Int32)) % (3 : Int32))), .val (.ref c), .val (.long (whole - l0)), .second, .unset, .unset, .unset, .unset]) rfl ?_
    refine k_iload (pc := 84) H d0_84 rfl ?_
    refine k_iconst (1 : Int32) (pc := 86) H d0_86 rfl ?_
    refine k_icmpR (P := (1 : Int32) < n) 113 (pc := 87) H d0_87 rfl XT.ii_le_t XT.ii_le_f (fun q1 => ?_) (fun q1 => ?_)
    · refine k_iload (pc := 113) H d0_113 rfl ?_
      refine k_iconst (2 : Int32) (pc := 115) H d0_115 rfl ?_
      refine k_icmpT 142 (pc := 116) H d0_116 rfl (XT.ii_le_t (own_nlt (i := 1) (j := 2) q1 rfl rfl (by decide))) ?_
      exact J _ _ _ _ _ _ _ 1 (whole - l0) TB0 (by simp [own_fr_len]) rfl (by simp) (by simp) (by simp [own_rs, List.replicate])
    · refine k_aload (pc := 90) H d0_90 rfl rfl ?_
      refine k_iload (pc := 92) H d0_92 rfl ?_
      refine k_invV (y := (⟨"com/example/terms_to_entities/termstoentities/index/TermCounts", "addPredicate", "(I)V"⟩ : MethodName)) (st := []) (a := c) [(.int ((r + (1 : Int32)) % (3 : Int32)))] 0 (pc := 94) H (wd hw 37 rfl) (wd hw 38 rfl) (wd hw 40 rfl) (wd hw 39 rfl) (wd hw 3 rfl) (wd hw 41 rfl) rfl (by decide) TB0.1 (fun z0 => rm5 l Z a0 hw n0 hB0 z0 _ _ _ _ _ _ _ _ _ _ _ _ _ _ _ ((p0 + 1) % 3) 1 1 AP TB0 hp1 (by simpa using hp13) rfl (by simp) (by simp) rfl (by simp [own_fr_len]) (by simp [own_fr_len]) (by decide)) (lenOf pd_5 rfl) d0_94 rfl rfl rfl (by decide) (by decide) (by decide) (by decide) ?_
      rintro v hA1 ⟨rfl, KA1, TA1⟩
      show W l room_1 C _ hA1 6 21 97 #[.val (.long whole), .second, .val (.long l0), .second, .val (.long l1), .second, .val (.long l2), .second, .val (.long whole2), .second, .val (.int mode), .val (.int n), .val (.int r), .val (.int r), .val (.int ((r + (1 : Int32)) % (3 : Int32))), .val (.int ((r + (2 : Int32)) % (3 : Int32))), .val (.ref c), .val (.long (whole - l0)), .second, .unset, .unset, .unset, .unset] []
      refine k_aload (pc := 97) H d0_97 rfl rfl ?_
      refine k_iload (pc := 99) H d0_99 rfl ?_
      refine k_lload (pc := 101) H d0_101 rfl ?_
      refine k_invV (y := (⟨"com/example/terms_to_entities/termstoentities/index/TermCounts", "countLength", "(IJ)V"⟩ : MethodName)) (st := []) (a := c) [(.int ((r + (1 : Int32)) % (3 : Int32))), (.long l1)] 0 (pc := 103) H (wd hw 48 rfl) (wd hw 49 rfl) (wd hw 51 rfl) (wd hw 50 rfl) (wd hw 3 rfl) (wd hw 52 rfl) rfl (by decide) TA1.1 (fun z0 => rm8 l Z a0 hw n0 hA1 z0 _ _ _ _ _ _ _ _ _ _ _ _ _ _ _ l1 ((p0 + 1) % 3) 1 _ AP TA1 hp1 (own_set_get (by simpa using hp13)) rfl (by simp)) (lenOf pd_6 rfl) d0_103 rfl rfl rfl (by decide) (by decide) (by decide) (by decide) ?_
      rintro v hB1 ⟨rfl, KB1, TB1⟩
      show W l room_1 C _ hB1 6 21 106 #[.val (.long whole), .second, .val (.long l0), .second, .val (.long l1), .second, .val (.long l2), .second, .val (.long whole2), .second, .val (.int mode), .val (.int n), .val (.int r), .val (.int r), .val (.int ((r + (1 : Int32)) % (3 : Int32))), .val (.int ((r + (2 : Int32)) % (3 : Int32))), .val (.ref c), .val (.long (whole - l0)), .second, .unset, .unset, .unset, .unset] []
      refine k_lload (pc := 106) H d0_106 rfl ?_
      refine k_lload (pc := 108) H d0_108 rfl ?_
      refine k_lsub (pc := 110) H d0_110 ?_
      refine k_lstore (pc := 111) H d0_111 (Ls' := #[.val (.long whole), .second, .val (.long l0), .second, .val (.long l1), .second, .val (.long l2), .second, .val (.long whole2), .second, .val (.int mode), .val (.int n), .val (.int r), .val (.int r), .val (.int ((r + (1 : Int32)) % (3 : Int32))), .val (.int ((r + (2 : Int32)) % (3 : Int32))), .val (.ref c), .val (.long ((whole - l0) - l1)), .second, .unset, .unset, .unset, .unset]) rfl ?_
      refine k_iload (pc := 113) H d0_113 rfl ?_
      refine k_iconst (2 : Int32) (pc := 115) H d0_115 rfl ?_
      refine k_icmpR (P := (2 : Int32) < n) 142 (pc := 116) H d0_116 rfl XT.ii_le_t XT.ii_le_f (fun q2 => ?_) (fun q2 => ?_)
      · exact J _ _ _ _ _ _ _ 2 ((whole - l0) - l1) TB1 (by simp [own_fr_len]) rfl (by simp) (by simp) (by simp [own_rs, List.replicate])
      · refine k_aload (pc := 119) H d0_119 rfl rfl ?_
        refine k_iload (pc := 121) H d0_121 rfl ?_
        refine k_invV (y := (⟨"com/example/terms_to_entities/termstoentities/index/TermCounts", "addPredicate", "(I)V"⟩ : MethodName)) (st := []) (a := c) [(.int ((r + (2 : Int32)) % (3 : Int32)))] 0 (pc := 123) H (wd hw 37 rfl) (wd hw 38 rfl) (wd hw 40 rfl) (wd hw 39 rfl) (wd hw 3 rfl) (wd hw 41 rfl) rfl (by decide) TB1.1 (fun z0 => rm5 l Z a0 hw n0 hB1 z0 _ _ _ _ _ _ _ _ _ _ _ _ _ _ _ ((p0 + 2) % 3) 2 1 AP TB1 hp2 (by simpa using hp23) rfl (by simp) (by simp) rfl (by simp [own_fr_len]) (by simp [own_fr_len]) (by decide)) (lenOf pd_5 rfl) d0_123 rfl rfl rfl (by decide) (by decide) (by decide) (by decide) ?_
        rintro v hA2 ⟨rfl, KA2, TA2⟩
        show W l room_1 C _ hA2 6 21 126 #[.val (.long whole), .second, .val (.long l0), .second, .val (.long l1), .second, .val (.long l2), .second, .val (.long whole2), .second, .val (.int mode), .val (.int n), .val (.int r), .val (.int r), .val (.int ((r + (1 : Int32)) % (3 : Int32))), .val (.int ((r + (2 : Int32)) % (3 : Int32))), .val (.ref c), .val (.long ((whole - l0) - l1)), .second, .unset, .unset, .unset, .unset] []
        refine k_aload (pc := 126) H d0_126 rfl rfl ?_
        refine k_iload (pc := 128) H d0_128 rfl ?_
        refine k_lload (pc := 130) H d0_130 rfl ?_
        refine k_invV (y := (⟨"com/example/terms_to_entities/termstoentities/index/TermCounts", "countLength", "(IJ)V"⟩ : MethodName)) (st := []) (a := c) [(.int ((r + (2 : Int32)) % (3 : Int32))), (.long l2)] 0 (pc := 132) H (wd hw 48 rfl) (wd hw 49 rfl) (wd hw 51 rfl) (wd hw 50 rfl) (wd hw 3 rfl) (wd hw 52 rfl) rfl (by decide) TA2.1 (fun z0 => rm8 l Z a0 hw n0 hA2 z0 _ _ _ _ _ _ _ _ _ _ _ _ _ _ _ l2 ((p0 + 2) % 3) 2 _ AP TA2 hp2 (own_set_get (by simpa using hp23)) rfl (by simp)) (lenOf pd_6 rfl) d0_132 rfl rfl rfl (by decide) (by decide) (by decide) (by decide) ?_
        rintro v hB2 ⟨rfl, KB2, TB2⟩
        show W l room_1 C _ hB2 6 21 135 #[.val (.long whole), .second, .val (.long l0), .second, .val (.long l1), .second, .val (.long l2), .second, .val (.long whole2), .second, .val (.int mode), .val (.int n), .val (.int r), .val (.int r), .val (.int ((r + (1 : Int32)) % (3 : Int32))), .val (.int ((r + (2 : Int32)) % (3 : Int32))), .val (.ref c), .val (.long ((whole - l0) - l1)), .second, .unset, .unset, .unset, .unset] []
        refine k_lload (pc := 135) H d0_135 rfl ?_
        refine k_lload (pc := 137) H d0_137 rfl ?_
        refine k_lsub (pc := 139) H d0_139 ?_
        refine k_lstore (pc := 140) H d0_140 (Ls' := #[.val (.long whole), .second, .val (.long l0), .second, .val (.long l1), .second, .val (.long l2), .second, .val (.long whole2), .second, .val (.int mode), .val (.int n), .val (.int r), .val (.int r), .val (.int ((r + (1 : Int32)) % (3 : Int32))), .val (.int ((r + (2 : Int32)) % (3 : Int32))), .val (.ref c), .val (.long (((whole - l0) - l1) - l2)), .second, .unset, .unset, .unset, .unset]) rfl ?_
        exact J _ _ _ _ _ _ _ 3 (((whole - l0) - l1) - l2) TB2 (by simp [own_fr_len]) rfl (by simp) (by simp) (by simp [own_rs, List.replicate])
set_option maxRecDepth 65536 in
set_option maxHeartbeats 40000000 in
theorem comes_1 {Post : Tables → Env → Array Value → State → Outcome → State → Prop} (hpost : ∀ tb e args s v u, (limb_1_1.after args s (.returned v) u = true ∧ limb_1_2.after args s (.returned v) u = true ∧ True) → FrameEnd s (.returned v) u (Jvm.fieldLocs frame_1_writes args s ++ Jvm.arrayLocs frame_1_arrays args s ++ Jvm.staticLocs frame_1_statics s) 24 128 → Post tb e args s (.returned v) u) :
    ArmFor flags0 classFile x code maxLocals ret World_1 tables_1 room_1 Calls_1 rest_1 Pre_1 Post := by
  intro l hfl _ _ p e ha hc hk s m args below hf hA hF happ hP
  obtain ⟨hcalls, hrest, hpre⟩ := hP
  obtain ⟨-, -, -, hnamed, -, -, -, hat⟩ := (Spec.applies_iff hf).mp happ
  obtain ⟨hg, hn⟩ := and_e (Cond.before_iff.mp (show (Jvm.Cond.and given_1 narrow_1).before args s = true from hpre))
  obtain ⟨hcnt, g0⟩ := and_e hg
  obtain ⟨q0, g1⟩ := and_e g0
  obtain ⟨q1, g2⟩ := and_e g1
  obtain ⟨q2, g3⟩ := and_e g2
  obtain ⟨q3, g4⟩ := and_e g3
  obtain ⟨q4, g5⟩ := and_e g4
  obtain ⟨w0, w1, w2, w3, w4, w5, rfl⟩ : ∃ w0 w1 w2 w3 w4 w5 : Value, args = #[w0, w1, w2, w3, w4, w5] := by
    have hs : args.size = 6 := by simpa [Cond.value, given_1] using hcnt
    obtain ⟨L⟩ := args
    match L, hs with
    | [w0, w1, w2, w3, w4, w5], _ => exact ⟨w0, w1, w2, w3, w4, w5, rfl⟩
  have hw := fun d (hd : d ∈ tables_1) => atoms_spec (ws := Jvm.Cond.code x code maxLocals ret :: tables_1) hat d (List.mem_cons_of_mem _ hd)
  obtain ⟨i0, e0⟩ := isL_v q0
  obtain rfl : w0 = (.long i0) := Option.some.inj e0
  obtain ⟨i1, e1⟩ := isL_v q1
  obtain rfl : w1 = (.long i1) := Option.some.inj e1
  obtain ⟨i2, e2⟩ := isL_v q2
  obtain rfl : w2 = (.long i2) := Option.some.inj e2
  obtain ⟨i3, e3⟩ := isL_v q3
  obtain rfl : w3 = (.long i3) := Option.some.inj e3
  obtain ⟨i4, e4⟩ := isL_v q4
  obtain rfl : w4 = (.long i4) := Option.some.inj e4
  obtain ⟨i5, e5⟩ := is_v g5
  obtain rfl : w5 = (.int i5) := Option.some.inj e5
  obtain ⟨n, o, h1, h2, h3, _, L, rfl, ⟨rfl, N⟩, hq⟩ := rm0 l s _ hw tables_1 s.heap.size s.heap (Nat.le_refl _) i0 i1 i2 i3 i4 i5  p e ha hc hk s m _ below hf ((Spec.applies_iff_loose hf).mp happ).1 ⟨rfl, State.Warmed39.refl s, rfl⟩ trivial
  refine ⟨n, _, h1, h2, h3, hpost _ _ _ _ _ _ ⟨Cond.after_iff.mpr rfl, Cond.after_iff.mpr (eq_i res_at (Term.int_eval (1)) rfl), trivial⟩ ⟨hq.1, hq.2.1, (hq.2.2.sift fun y hy => Or.inr (N y hy)).mono (by decide) (by decide)⟩⟩
theorem main_1_1 : Claimed_1_1 := comes_1 fun _ _ _ _ _ _ h hF => ⟨h.1, hF⟩
theorem main_1_2 : Claimed_1_2 := comes_1 fun _ _ _ _ _ _ h hF => ⟨h.2.1, hF⟩
end Jvm.Pilot.@@N@@
namespace Jvm.Pilot.@@N@@
open Jvm Jvm.ClassFile Sem Op Lib Jvm.Free Jvm.Stand Jvm.Pilot.@@N@@.Jvm.D
/-! MADE BY PROGRAM (witnessworld.py) out of the Statement's table words and the real class files: 12 classes; the members and pool entries that the words name. The judged class is class 1, her method 1. -/
namespace start1
open Jvm.ClassFile
def u (s : String) : CpInfo := .utf8 (stringToUtf16 s)
/-- a pool by its gaps: so many unusable entries, then the entry; so many at the end -/
def gap : Nat → List CpInfo → List CpInfo
  | 0, r => r
  | n + 1, r => .unusable :: gap n r
def poolList (es : List (Nat × CpInfo)) (last : Nat) : List CpInfo := es.foldr (fun e r => gap e.1 (e.2 :: r)) (gap last [])
def pool (es : List (Nat × CpInfo)) (last : Nat) : Array CpInfo := ⟨poolList es last⟩
def fileOf (pool : Array CpInfo) (this : Nat) (attrs : Array Attribute := #[]) (ms : Array MethodInfo := #[]) (fl : Nat := 33) (sup : Nat := 0) (ifs : Array Nat := #[]) (fds : Array FieldInfo := #[]) : ClassFile where
  minorVersion := 0
  majorVersion := 65
  constantPool := pool
  accessFlags := fl
  thisClass := this
  superClass := sup
  interfaces := ifs
  fields := fds
  methods := ms
  attributes := attrs
def plain (name : String) (sup : Option ClassId) : Class where
  name := name
  kind := .ordinary
  loader := none
  accessFlags := 33
  super := sup
  interfaces := #[]
  cf := none
  fields := #[]
  methods := #[]
  instanceTypes := #[]
  staticTypes := #[]
  resolved := #[]
  callSites := []
  init := .initialized
  statics := none
  mirror := none

def pool0 : Array CpInfo := pool [(5, u "<init>"), (0, u "()V"), (1, .class_ 10), (1, u "java/lang/Object")] 113

def k0c0 : Code := { maxStack := 0, maxLocals := 1, code := object_method_1_code, exceptionTable := #[], attributes := #[] }
def k0m0 : Method := { name := "<init>", desc := "()V", sig := { parameters := [], returnType := none }, accessFlags := 1, code := some k0c0 }
/-- java/lang/Object -/
def k0 : Class := { plain "java/lang/Object" none with
  accessFlags := 33
  interfaces := #[]
  cf := some (fileOf pool0 8 #[] #[{ accessFlags := 1, nameIndex := 5, descriptorIndex := 6, attributes := #[] }] 33 0 #[] #[])
  fields := #[]
  methods := #[k0m0]
  instanceTypes := #[]
  staticTypes := #[]
  resolved := Array.replicate 124 none
  statics := none }

def pool1 : Array CpInfo := pool [(2, .class_ 4), (1, u "java/lang/Object"), (0, u "<init>"), (0, u "()V"), (0, .integer 2147483647), (0, .class_ 9), (0, u "com/example/terms_to_entities/termstoentities/index/TermCounts"), (0, .methodref 8 11), (0, .nameAndType 5 12), (0, u "(III)V"), (0, .methodref 8 14), (0, .nameAndType 15 16), (0, u "start"), (0, u "(J)V"), (0, .methodref 8 18), (0, .nameAndType 19 20), (0, u "addPredicate"), (0, u "(I)V"), (0, .methodref 8 22), (0, .nameAndType 23 24), (0, u "countLength"), (0, u "(IJ)V"), (0, .methodref 8 26), (0, .nameAndType 27 28), (0, u "restLength"), (0, u "()J"), (0, .class_ 30), (0, u "com/example/terms_to_entities/termstoentities/index/TermCountsRestLengthPinLaw"), (2, u "law"), (0, u "(JJJJJI)Z")] 3

def k1m0 : Method := { name := "<init>", desc := "()V", sig := { parameters := [], returnType := none }, accessFlags := 1, code := none }
def k1c1 : Code := { maxStack := 5, maxLocals := 23, code := code, exceptionTable := #[], attributes := #[] }
def k1m1 : Method := { name := "law", desc := "(JJJJJI)Z", sig := { parameters := [.long, .long, .long, .long, .long, .int], returnType := some .boolean }, accessFlags := 9, code := some k1c1 }
/-- com/example/terms_to_entities/termstoentities/index/TermCountsRestLengthPinLaw -/
def k1 : Class := { plain "com/example/terms_to_entities/termstoentities/index/TermCountsRestLengthPinLaw" (some 0) with
  accessFlags := 49
  interfaces := #[]
  cf := some (fileOf pool1 29 #[] #[{ accessFlags := 1, nameIndex := 5, descriptorIndex := 6, attributes := #[] }, { accessFlags := 9, nameIndex := 33, descriptorIndex := 34, attributes := #[] }] 49 2 #[] #[])
  fields := #[]
  methods := #[k1m0, k1m1]
  instanceTypes := #[]
  staticTypes := #[]
  resolved := Array.replicate 38 none
  statics := none }

def pool2 : Array CpInfo := pool [(1, .methodref 2 3), (0, .class_ 4), (0, .nameAndType 5 6), (0, u "java/lang/Object"), (0, u "<init>"), (0, u "()V"), (0, .fieldref 8 9), (0, .class_ 10), (0, .nameAndType 11 12), (0, u "com/example/terms_to_entities/termstoentities/index/TermCounts"), (0, u "terms"), (0, u "I"), (0, .fieldref 8 14), (0, .nameAndType 15 16), (0, u "wholeFrequencies"), (0, u "[I"), (0, .fieldref 8 18), (0, .nameAndType 19 16), (0, u "placeOfPredicate"), (0, .fieldref 8 21), (0, .nameAndType 22 16), (0, u "predicates"), (0, .fieldref 8 24), (0, .nameAndType 25 26), (0, u "predicateLengths"), (0, u "[J"), (0, .fieldref 8 28), (0, .nameAndType 29 16), (0, u "predicateFrequencies"), (0, .fieldref 8 31), (0, .nameAndType 32 33), (0, u "wholeLength"), (0, u "J"), (0, .fieldref 8 35), (0, .nameAndType 36 12), (0, u "predicateCount"), (4, .methodref 42 43), (0, .class_ 44), (0, .nameAndType 45 46), (0, u "java/util/Arrays"), (0, u "fill"), (0, u "([II)V"), (0, .methodref 42 48), (0, .nameAndType 45 49), (0, u "([IIII)V"), (0, u "(III)V"), (2, u "restLength"), (0, u "()J"), (7, u "start"), (0, u "(J)V"), (0, u "addPredicate"), (0, u "(I)V"), (2, u "countLength"), (0, u "(IJ)V")] 2

def k2c0 : Code := { maxStack := 3, maxLocals := 4, code := prog_14_method_1_code, exceptionTable := #[], attributes := #[] }
def k2m0 : Method := { name := "<init>", desc := "(III)V", sig := { parameters := [.int, .int, .int], returnType := none }, accessFlags := 0, code := some k2c0 }
def k2c1 : Code := { maxStack := 4, maxLocals := 4, code := prog_14_method_2_code, exceptionTable := #[], attributes := #[] }
def k2m1 : Method := { name := "restLength", desc := "()J", sig := { parameters := [], returnType := some .long }, accessFlags := 1, code := some k2c1 }
def k2c2 : Code := { maxStack := 3, maxLocals := 3, code := prog_14_method_8_code, exceptionTable := #[], attributes := #[] }
def k2m2 : Method := { name := "start", desc := "(J)V", sig := { parameters := [.long], returnType := none }, accessFlags := 0, code := some k2c2 }
def k2c3 : Code := { maxStack := 4, maxLocals := 2, code := prog_14_method_9_code, exceptionTable := #[], attributes := #[] }
def k2m3 : Method := { name := "addPredicate", desc := "(I)V", sig := { parameters := [.int], returnType := none }, accessFlags := 0, code := some k2c3 }
def k2c4 : Code := { maxStack := 6, maxLocals := 4, code := prog_14_method_11_code, exceptionTable := #[], attributes := #[] }
def k2m4 : Method := { name := "countLength", desc := "(IJ)V", sig := { parameters := [.int, .long], returnType := none }, accessFlags := 0, code := some k2c4 }
/-- com/example/terms_to_entities/termstoentities/index/TermCounts -/
def k2 : Class := { plain "com/example/terms_to_entities/termstoentities/index/TermCounts" (some 0) with
  accessFlags := 33
  interfaces := #[]
  cf := some (fileOf pool2 8 #[] #[{ accessFlags := 0, nameIndex := 5, descriptorIndex := 50, attributes := #[] }, { accessFlags := 1, nameIndex := 53, descriptorIndex := 54, attributes := #[] }, { accessFlags := 0, nameIndex := 62, descriptorIndex := 63, attributes := #[] }, { accessFlags := 0, nameIndex := 64, descriptorIndex := 65, attributes := #[] }, { accessFlags := 0, nameIndex := 68, descriptorIndex := 69, attributes := #[] }] 33 2 #[] #[{ accessFlags := 18, nameIndex := 11, descriptorIndex := 12, attributes := #[] }, { accessFlags := 18, nameIndex := 15, descriptorIndex := 16, attributes := #[] }, { accessFlags := 18, nameIndex := 19, descriptorIndex := 16, attributes := #[] }, { accessFlags := 18, nameIndex := 22, descriptorIndex := 16, attributes := #[] }, { accessFlags := 18, nameIndex := 25, descriptorIndex := 26, attributes := #[] }, { accessFlags := 18, nameIndex := 29, descriptorIndex := 16, attributes := #[] }, { accessFlags := 2, nameIndex := 32, descriptorIndex := 33, attributes := #[] }, { accessFlags := 2, nameIndex := 36, descriptorIndex := 12, attributes := #[] }])
  fields := #[{ name := "terms", type := .int, accessFlags := 18, slot := 0, constantValue := 0 }, { name := "wholeFrequencies", type := (.array .int), accessFlags := 18, slot := 1, constantValue := 0 }, { name := "placeOfPredicate", type := (.array .int), accessFlags := 18, slot := 2, constantValue := 0 }, { name := "predicates", type := (.array .int), accessFlags := 18, slot := 3, constantValue := 0 }, { name := "predicateLengths", type := (.array .long), accessFlags := 18, slot := 4, constantValue := 0 }, { name := "predicateFrequencies", type := (.array .int), accessFlags := 18, slot := 5, constantValue := 0 }, { name := "wholeLength", type := .long, accessFlags := 2, slot := 6, constantValue := 0 }, { name := "predicateCount", type := .int, accessFlags := 2, slot := 7, constantValue := 0 }]
  methods := #[k2m0, k2m1, k2m2, k2m3, k2m4]
  instanceTypes := #[.int, (.array .int), (.array .int), (.array .int), (.array .long), (.array .int), .long, .int]
  staticTypes := #[]
  resolved := Array.replicate 72 none
  statics := none }

def pool3 : Array CpInfo := pool [(2, .class_ 4), (1, u "java/lang/Object"), (0, u "<init>"), (0, u "()V"), (5, u "([IIII)V"), (0, .methodref 14 15), (0, .class_ 16), (0, .nameAndType 17 18), (0, u "java/util/Arrays"), (0, u "rangeCheck"), (0, u "(III)V"), (55, .class_ 76), (1, u "java/util/Arrays$NaturalOrder"), (36, .class_ 115), (1, u "java/util/Arrays$LegacyMergeSort"), (1, u "Z"), (257, .class_ 376), (0, u "java/util/Arrays$ArrayList"), (68, u "$assertionsDisabled"), (269, u "MIN_ARRAY_SORT_GRAN"), (0, u "I"), (2, u "INSERTIONSORT_THRESHOLD"), (120, u "fill"), (4, u "([II)V"), (129, .class_ 976), (0, u "java/util/Arrays$ArrayItr")] 52

def k3m0 : Method := { name := "<init>", desc := "()V", sig := { parameters := [], returnType := none }, accessFlags := 2, code := none }
def k3c1 : Code := { maxStack := 4, maxLocals := 3, code := jdk_65_method_30_code, exceptionTable := #[], attributes := #[] }
def k3m1 : Method := { name := "rangeCheck", desc := "(III)V", sig := { parameters := [.int, .int, .int], returnType := none }, accessFlags := 8, code := some k3c1 }
def k3c2 : Code := { maxStack := 3, maxLocals := 4, code := jdk_65_method_103_code, exceptionTable := #[], attributes := #[] }
def k3m2 : Method := { name := "fill", desc := "([II)V", sig := { parameters := [(.array .int), .int], returnType := none }, accessFlags := 9, code := some k3c2 }
def k3c3 : Code := { maxStack := 3, maxLocals := 5, code := jdk_65_method_104_code, exceptionTable := #[], attributes := #[] }
def k3m3 : Method := { name := "fill", desc := "([IIII)V", sig := { parameters := [(.array .int), .int, .int, .int], returnType := none }, accessFlags := 9, code := some k3c3 }
/-- java/util/Arrays -/
def k3 : Class := { plain "java/util/Arrays" (some 0) with
  accessFlags := 49
  interfaces := #[]
  cf := some (fileOf pool3 14 #[.nestMembers #[975, 375, 113, 74]] #[{ accessFlags := 2, nameIndex := 5, descriptorIndex := 6, attributes := #[] }, { accessFlags := 8, nameIndex := 17, descriptorIndex := 18, attributes := #[] }, { accessFlags := 9, nameIndex := 840, descriptorIndex := 845, attributes := #[] }, { accessFlags := 9, nameIndex := 840, descriptorIndex := 12, attributes := #[] }] 49 2 #[] #[{ accessFlags := 26, nameIndex := 715, descriptorIndex := 716, attributes := #[] }, { accessFlags := 26, nameIndex := 719, descriptorIndex := 716, attributes := #[] }, { accessFlags := 4120, nameIndex := 445, descriptorIndex := 117, attributes := #[] }])
  fields := #[{ name := "MIN_ARRAY_SORT_GRAN", type := .int, accessFlags := 26, slot := 0, constantValue := 0 }, { name := "INSERTIONSORT_THRESHOLD", type := .int, accessFlags := 26, slot := 1, constantValue := 0 }, { name := "$assertionsDisabled", type := .boolean, accessFlags := 4120, slot := 2, constantValue := 0 }]
  methods := #[k3m0, k3m1, k3m2, k3m3]
  instanceTypes := #[]
  staticTypes := #[.int, .int, .boolean]
  resolved := Array.replicate 1029 none
  statics := none }

def pool4 : Array CpInfo := pool [(1, u "java/lang/Cloneable"), (0, .class_ 1), (0, u "java/lang/Object"), (0, .class_ 3)] 3

/-- java/lang/Cloneable -/
def k4 : Class := { plain "java/lang/Cloneable" (some 0) with
  accessFlags := 1537
  interfaces := #[]
  cf := some (fileOf pool4 2 #[] #[] 1537 4 #[] #[])
  fields := #[]
  methods := #[]
  instanceTypes := #[]
  staticTypes := #[]
  resolved := Array.replicate 8 none
  statics := none }

def pool5 : Array CpInfo := pool [(1, u "java/io/Serializable"), (0, .class_ 1), (0, u "java/lang/Object"), (0, .class_ 3)] 3

/-- java/io/Serializable -/
def k5 : Class := { plain "java/io/Serializable" (some 0) with
  accessFlags := 1537
  interfaces := #[]
  cf := some (fileOf pool5 2 #[] #[] 1537 4 #[] #[])
  fields := #[]
  methods := #[]
  instanceTypes := #[]
  staticTypes := #[]
  resolved := Array.replicate 8 none
  statics := none }

/-- the primitive byte -/
def k6 : Class := { plain "byte" none with kind := .primitive 'B', accessFlags := 0x411 }
/-- [B -/
def k7 : Class := { plain "[B" (some 0) with kind := .array 6 .byte, interfaces := #[4, 5], accessFlags := 1041 }

/-- the primitive int -/
def k8 : Class := { plain "int" none with kind := .primitive 'I', accessFlags := 0x411 }
/-- [I -/
def k9 : Class := { plain "[I" (some 0) with kind := .array 8 .int, interfaces := #[4, 5], accessFlags := 1041 }

/-- the primitive long -/
def k10 : Class := { plain "long" none with kind := .primitive 'J', accessFlags := 0x411 }
/-- [J -/
def k11 : Class := { plain "[J" (some 0) with kind := .array 10 .long, interfaces := #[4, 5], accessFlags := 1041 }

def heap : Heap := #[]
def classes : Array Class := #[k0, k1, k2, k3, k4, k5, k6, k7, k8, k9, k10, k11]
def interned : List (Array UInt16 × Addr) := []
def slotsUsed : Nat := 0
def theMethod : MethodId := ⟨1, 1⟩
def args0 : Array Value := #[.long 5, .long 1, .long 2, .long 3, .long 4, .int 3]
def aboutOver (below : List Frame) : State where
  vm := { classes := classes, interned := interned.toArray }
  heap := heap
  slotsUsed := slotsUsed
  threads := #[{ frames := .invoking theMethod args0 :: below }]
def below0 : List Frame := [.native { method := ⟨0, 0⟩, args := #[] }]
def about1 : State := aboutOver below0
def p0 : Program := .bare "" "" ""
def e0 : Env := launch0.env 0 0 0
theorem w_frames : about1.frames = Frame.invoking theMethod args0 :: below0 := rfl
set_option maxRecDepth 65536 in
theorem w_args : argsFit about1.vm theMethod args0 = true := by decide +kernel
set_option maxRecDepth 65536 in
theorem w_heap : heapFits about1 = true := by decide +kernel
set_option maxRecDepth 65536 in
theorem w_runnable : about1.curStatus? = some .runnable := by decide +kernel
set_option maxRecDepth 65536 in
theorem w_alone : about1.alone = true := by decide +kernel
set_option maxRecDepth 65536 in
theorem w_named : about1.methodNamed? x = some theMethod := by decide +kernel
set_option maxRecDepth 65536 in
theorem w_hears : about1.hears theMethod below0 = true := by decide +kernel
set_option maxRecDepth 65536 in
theorem w_ripe : about1.ripe theMethod args0 below0 = true := by decide +kernel
theorem w_running : about1.status = .running := rfl
set_option maxRecDepth 65536 in
theorem w_room : about1.hasRoom e0.platform room_1 = true :=
  launch0.hasRoom_least _ room_1 (by decide +kernel) (by decide +kernel) (by decide +kernel) (by decide +kernel) (by decide +kernel) (by decide +kernel)
theorem allAtoms_all (ts : List Jvm.Cond) (a : Array Jvm.Value) (st : Jvm.State) : (allAtoms ts).before a st = ts.all (fun c => c.before a st) := by
  induction ts with
  | nil => rfl
  | cons c t ih =>
    show (Jvm.Cond.and c (allAtoms t)).before a st = _
    rw [Jvm.Cond.before_and, ih, List.all_cons]
def words1 : List Jvm.Cond := Jvm.Cond.code x code maxLocals ret :: tables_1
/-- a 'code' word, met by the world's own term for the bytes: nothing is compared byte by byte -/
theorem code_word {y : MethodName} {bytes : ByteArray} {mx : Nat} {rt : Option FieldType} {a : Array Value} {s : State} {m : MethodId} {meth : Method} {c : Code} (h1 : s.methodNamed? y = some m) (h2 : s.vm.method? m = some meth) (h3 : meth.code = some c) (h4 : c.code = bytes)
    (h5 : (c.maxLocals == mx && c.exceptionTable.isEmpty && decide (c.maxStack ≤ mostOperands) && decide (meth.sig.returnType = rt) && !meth.locks && decide (parseMethodDescriptor y.desc = some meth.sig)) = true) : (Jvm.Cond.code y bytes mx rt).before a s = true := by
  simp only [Bool.and_eq_true, beq_iff_eq, Bool.not_eq_true', decide_eq_true_eq] at h5
  obtain ⟨⟨⟨⟨⟨g1, g2⟩, g3⟩, g4⟩, g5⟩, g6⟩ := h5
  simp [Cond.before, Cond.holds, Cond.value, h1, h2, h3, h4, g1, g2, g3, g4, g5, g6]
def isCode : Jvm.Cond → Bool
  | .code _ _ _ _ => true
  | _ => false
theorem all_split {L : List Jvm.Cond} {P : Jvm.Cond → Bool} (h1 : L.all (fun c => isCode c || P c) = true) (h2 : ∀ c ∈ L.filter isCode, P c = true) : L.all P = true := by
  refine List.all_eq_true.mpr fun c hc => ?_
  have h := List.all_eq_true.mp h1 c hc
  rcases Bool.eq_false_or_eq_true (isCode c) with hi | hi
  · exact h2 c (List.mem_filter.mpr ⟨hc, hi⟩)
  · simpa [hi] using h
set_option maxRecDepth 65536 in
theorem w_c0 : (Jvm.Cond.code x code maxLocals ret).before args0 about1 = true := code_word (m := ⟨1, 1⟩) (meth := k1m1) (c := k1c1) (by decide +kernel) rfl rfl rfl (by decide +kernel)
set_option maxRecDepth 65536 in
theorem w_c1 : (Jvm.Cond.code ({ cls := "com/example/terms_to_entities/termstoentities/index/TermCounts", name := "<init>", desc := "(III)V" } : Jvm.MethodName) prog_14_method_1_code (4 : Nat) (Option.none : Option Jvm.ClassFile.FieldType)).before args0 about1 = true := code_word (m := ⟨2, 0⟩) (meth := k2m0) (c := k2c0) (by decide +kernel) rfl rfl rfl (by decide +kernel)
set_option maxRecDepth 65536 in
theorem w_c2 : (Jvm.Cond.code ({ cls := "java/lang/Object", name := "<init>", desc := "()V" } : Jvm.MethodName) object_method_1_code (1 : Nat) (Option.none : Option Jvm.ClassFile.FieldType)).before args0 about1 = true := code_word (m := ⟨0, 0⟩) (meth := k0m0) (c := k0c0) (by decide +kernel) rfl rfl rfl (by decide +kernel)
set_option maxRecDepth 65536 in
theorem w_c3 : (Jvm.Cond.code ({ cls := "com/example/terms_to_entities/termstoentities/index/TermCounts", name := "start", desc := "(J)V" } : Jvm.MethodName) prog_14_method_8_code (3 : Nat) (Option.none : Option Jvm.ClassFile.FieldType)).before args0 about1 = true := code_word (m := ⟨2, 2⟩) (meth := k2m2) (c := k2c2) (by decide +kernel) rfl rfl rfl (by decide +kernel)
set_option maxRecDepth 65536 in
theorem w_c4 : (Jvm.Cond.code ({ cls := "java/util/Arrays", name := "fill", desc := "([II)V" } : Jvm.MethodName) jdk_65_method_103_code (4 : Nat) (Option.none : Option Jvm.ClassFile.FieldType)).before args0 about1 = true := code_word (m := ⟨3, 2⟩) (meth := k3m2) (c := k3c2) (by decide +kernel) rfl rfl rfl (by decide +kernel)
set_option maxRecDepth 65536 in
theorem w_c5 : (Jvm.Cond.code ({ cls := "com/example/terms_to_entities/termstoentities/index/TermCounts", name := "addPredicate", desc := "(I)V" } : Jvm.MethodName) prog_14_method_9_code (2 : Nat) (Option.none : Option Jvm.ClassFile.FieldType)).before args0 about1 = true := code_word (m := ⟨2, 3⟩) (meth := k2m3) (c := k2c3) (by decide +kernel) rfl rfl rfl (by decide +kernel)
set_option maxRecDepth 65536 in
theorem w_c6 : (Jvm.Cond.code ({ cls := "java/util/Arrays", name := "fill", desc := "([IIII)V" } : Jvm.MethodName) jdk_65_method_104_code (5 : Nat) (Option.none : Option Jvm.ClassFile.FieldType)).before args0 about1 = true := code_word (m := ⟨3, 3⟩) (meth := k3m3) (c := k3c3) (by decide +kernel) rfl rfl rfl (by decide +kernel)
set_option maxRecDepth 65536 in
theorem w_c7 : (Jvm.Cond.code ({ cls := "java/util/Arrays", name := "rangeCheck", desc := "(III)V" } : Jvm.MethodName) jdk_65_method_30_code (3 : Nat) (Option.none : Option Jvm.ClassFile.FieldType)).before args0 about1 = true := code_word (m := ⟨3, 1⟩) (meth := k3m1) (c := k3c1) (by decide +kernel) rfl rfl rfl (by decide +kernel)
set_option maxRecDepth 65536 in
theorem w_c8 : (Jvm.Cond.code ({ cls := "com/example/terms_to_entities/termstoentities/index/TermCounts", name := "countLength", desc := "(IJ)V" } : Jvm.MethodName) prog_14_method_11_code (4 : Nat) (Option.none : Option Jvm.ClassFile.FieldType)).before args0 about1 = true := code_word (m := ⟨2, 4⟩) (meth := k2m4) (c := k2c4) (by decide +kernel) rfl rfl rfl (by decide +kernel)
set_option maxRecDepth 65536 in
theorem w_c9 : (Jvm.Cond.code ({ cls := "com/example/terms_to_entities/termstoentities/index/TermCounts", name := "restLength", desc := "()J" } : Jvm.MethodName) prog_14_method_2_code (4 : Nat) (Option.some Jvm.ClassFile.FieldType.long)).before args0 about1 = true := code_word (m := ⟨2, 1⟩) (meth := k2m1) (c := k2c1) (by decide +kernel) rfl rfl rfl (by decide +kernel)
def codes1 : List Jvm.Cond := [Jvm.Cond.code x code maxLocals ret, Jvm.Cond.code ({ cls := "com/example/terms_to_entities/termstoentities/index/TermCounts", name := "<init>", desc := "(III)V" } : Jvm.MethodName) prog_14_method_1_code (4 : Nat) (Option.none : Option Jvm.ClassFile.FieldType), Jvm.Cond.code ({ cls := "java/lang/Object", name := "<init>", desc := "()V" } : Jvm.MethodName) object_method_1_code (1 : Nat) (Option.none : Option Jvm.ClassFile.FieldType), Jvm.Cond.code ({ cls := "com/example/terms_to_entities/termstoentities/index/TermCounts", name := "start", desc := "(J)V" } : Jvm.MethodName) prog_14_method_8_code (3 : Nat) (Option.none : Option Jvm.ClassFile.FieldType), Jvm.Cond.code ({ cls := "java/util/Arrays", name := "fill", desc := "([II)V" } : Jvm.MethodName) jdk_65_method_103_code (4 : Nat) (Option.none : Option Jvm.ClassFile.FieldType), Jvm.Cond.code ({ cls := "com/example/terms_to_entities/termstoentities/index/TermCounts", name := "addPredicate", desc := "(I)V" } : Jvm.MethodName) prog_14_method_9_code (2 : Nat) (Option.none : Option Jvm.ClassFile.FieldType), Jvm.Cond.code ({ cls := "java/util/Arrays", name := "fill", desc := "([IIII)V" } : Jvm.MethodName) jdk_65_method_104_code (5 : Nat) (Option.none : Option Jvm.ClassFile.FieldType), Jvm.Cond.code ({ cls := "java/util/Arrays", name := "rangeCheck", desc := "(III)V" } : Jvm.MethodName) jdk_65_method_30_code (3 : Nat) (Option.none : Option Jvm.ClassFile.FieldType), Jvm.Cond.code ({ cls := "com/example/terms_to_entities/termstoentities/index/TermCounts", name := "countLength", desc := "(IJ)V" } : Jvm.MethodName) prog_14_method_11_code (4 : Nat) (Option.none : Option Jvm.ClassFile.FieldType), Jvm.Cond.code ({ cls := "com/example/terms_to_entities/termstoentities/index/TermCounts", name := "restLength", desc := "()J" } : Jvm.MethodName) prog_14_method_2_code (4 : Nat) (Option.some Jvm.ClassFile.FieldType.long)]
set_option maxRecDepth 65536 in
theorem codes_eq : words1.filter isCode = codes1 := rfl
theorem w_codes : ∀ c ∈ words1.filter isCode, c.before args0 about1 = true := by
  rw [codes_eq]
  intro c hc
  simp only [codes1, List.mem_cons, List.not_mem_nil, or_false] at hc
  rcases hc with rfl | rfl | rfl | rfl | rfl | rfl | rfl | rfl | rfl | rfl
  · exact w_c0
  · exact w_c1
  · exact w_c2
  · exact w_c3
  · exact w_c4
  · exact w_c5
  · exact w_c6
  · exact w_c7
  · exact w_c8
  · exact w_c9
set_option maxRecDepth 65536 in
theorem w_t1 : (words1.take 24).all (fun c => isCode c || c.before args0 about1) = true := by decide +kernel
set_option maxRecDepth 65536 in
theorem w_t2 : ((words1.drop 24).take 24).all (fun c => isCode c || c.before args0 about1) = true := by decide +kernel
set_option maxRecDepth 65536 in
theorem w_t3 : ((words1.drop 24).drop 24).all (fun c => isCode c || c.before args0 about1) = true := by decide +kernel
theorem w_tables : (allAtoms (Jvm.Cond.code x code maxLocals ret :: tables_1)).before args0 about1 = true := by
  rw [allAtoms_all]
  show words1.all (fun c => c.before args0 about1) = true
  refine all_split ?_ w_codes
  rw [← List.take_append_drop 24 words1, List.all_append, w_t1, ← List.take_append_drop 24 (words1.drop 24), List.all_append, w_t2, w_t3]
  rfl
set_option maxRecDepth 65536 in
theorem w_case : (Jvm.Cond.and given_1 narrow_1).before args0 about1 = true := by decide +kernel
theorem w_applies : (headSpec (Jvm.Cond.code x code maxLocals ret :: tables_1) room_1).applies x e0.platform about1 = true :=
  (Spec.applies_iff w_frames).mpr ⟨w_running, w_runnable, w_alone, w_named, w_hears, w_ripe, w_room, w_tables⟩
theorem atStart : AtStart classFile x code maxLocals ret World_1 tables_1 room_1 Calls_1 rest_1 Pre_1 launch0 p0 e0 about1 theMethod args0 below0 :=
  ⟨lists_1, trivial, launch0.admits_env _ _ _, launch0.least_env, fairChoices_fair.cas, fairChoices_fair.clock, w_frames, w_args, w_heap, w_applies, trivial, trivial, w_case⟩
end start1
theorem witness_1 : WitnessClaimed_1 := ⟨start1.p0, start1.e0, start1.about1, start1.theMethod, start1.args0, start1.below0, start1.atStart⟩
end Jvm.Pilot.@@N@@

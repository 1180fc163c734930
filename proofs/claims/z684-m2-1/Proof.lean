import JvmDerived
import JvmDerived.Pilot.@@N@@Statement
import JvmDerived.Pilot.@@N@@Code
set_option linter.unusedVariables false
set_option linter.unusedSimpArgs false
@@BLOCK:NumsL.lean.txt@@
namespace Jvm.OwnKit
open Sem ClassFile Op Lib Jvm.Stand Jvm.Free Jvm.LawKit Jvm.RoadKit
/-- the surroundings of one body: program, environment, start, method, arguments, frames below, method record, code -/
abbrev Cxt := Program × Env × State × MethodId × Array Value × List Frame × Method × Code
/-- what a body owes: the first new address, cells, slots, what it leaves -/
abbrev En := Nat × Nat × Nat × (Option Value → Heap → Prop)
abbrev St (l : Launch) (R : Room) (C : Cxt) (T : State) (L : List Loc) (k n : Nat) : Prop :=
  Stand C.1 l C.2.1 R C.2.2.1 C.2.2.2.1 C.2.2.2.2.1 C.2.2.2.2.2.1 C.2.2.2.2.2.2.1 C.2.2.2.2.2.2.2 T L k n
abbrev Sp (C : Cxt) (a b : State) : Prop := Steps C.1.tables C.2.1 C.2.2.2.2.2.1 a b
def Goes (C : Cxt) (E : En) (a : State) : Prop :=
  ∃ t o, Sp C a t ∧ t.status = .running ∧ Ended t C.2.2.2.2.2.1 o ∧ ∃ v L, o = .returned v ∧ (E.2.2.2 v t.heap ∧ Fr E.1 L) ∧ FrameEnd C.2.2.1 o t L E.2.1 E.2.2.1
/-- from this place of the code, with this heap, these locals and this stack, and so many cells and slots made, the body comes to its end as owed -/
def W (l : Launch) (R : Room) (C : Cxt) (E : En) (h : Heap) (k n pc : Nat) (Ls : Array Slot) (st : List Value) : Prop :=
  ∀ T L, St l R C T L k n → Fr E.1 L → T.heap = h → Goes C E (T.setTop (mkF C.2.2.2.1 pc Ls st))
def Cx (C : Cxt) (Z : State) (own : String) (code : ByteArray) (ml : Nat) (ret : Option FieldType) (nm : String) (n0 : Nat) : Prop :=
  C.1.tables.exec = Jvm.exec ∧ C.2.2.2.2.2.2.2.code = code ∧ C.2.2.2.2.2.2.2.maxLocals = ml ∧ C.2.2.1.vm.findClass own = some C.2.2.2.1.cls ∧ Z.Warmed39 C.2.2.1.vm ∧ C.2.2.2.2.2.2.1.sig.returnType = ret ∧ C.2.2.2.2.2.2.1.locks = false ∧ C.2.2.2.2.2.2.1.name = nm ∧ n0 ≤ C.2.2.1.heap.size
/-- a contract of one call: these arguments, this heap -/
def Ctr (l : Launch) (Z : State) (y : MethodName) (bytes : ByteArray) (maxL : Nat) (ret : Option FieldType) (rm : Room) (n0 : Nat) (as' : Array Value) (h : Heap) (Q : Option Value → Heap → Prop) : Prop :=
  MetFree l y (head1 [Cond.code y bytes maxL ret] rm) (fun a U => a = as' ∧ Z.Warmed39 U.vm ∧ U.heap = h) (fun _ _ _ _ _ => True) (fun _ U o U' => ∃ v L, o = .returned v ∧ (Q v U'.heap ∧ Fr n0 L) ∧ FrameEnd U o U' L rm.cells rm.slots)
section Own
variable {l : Launch} {R : Room} {C : Cxt} {E : En} {h h' : Heap} {k n pc : Nat} {Ls : Array Slot} {st : List Value} {Z : State} {own nm : String} {code : ByteArray} {ml : Nat} {ret : Option FieldType} {a0 : Array Value}
theorem wd {ts : List Jvm.Cond} (hw : ∀ d ∈ ts, d.before a0 Z = true) (i : Nat) {d : Jvm.Cond} (hi : ts[i]? = some d) : d.before a0 Z = true := hw _ (List.mem_of_getElem? hi)
theorem W.via {pc' : Nat} {Ls' : Array Slot} {st' : List Value} (f : ∀ T t L, St l R C T L k n → T.heap = h → Sp C (T.setTop (mkF C.2.2.2.1 pc' Ls' st')) t → Sp C (T.setTop (mkF C.2.2.2.1 pc Ls st)) t)
    (hr : W l R C E h k n pc' Ls' st') : W l R C E h k n pc Ls st := fun T L X N eT => by
  obtain ⟨t, o, h1, h2⟩ := hr T L X N eT
  exact ⟨t, o, f T t L X eT h1, h2⟩
theorem W.more {k' n' : Nat} (hk : k ≤ k') (hn : n ≤ n') (hr : W l R C E h k' n' pc Ls st) : W l R C E h k n pc Ls st := fun T L X N eT => hr T L (X.more hk hn) N eT
/-- a step that moves the tables alone -/
theorem W.viaT {pc' : Nat} {Ls' : Array Slot} {st' : List Value} (f : ∀ T L, St l R C T L k n → T.heap = h → ∃ T', St l R C T' L k n ∧ T'.heap = h ∧ ∀ t, Sp C (T'.setTop (mkF C.2.2.2.1 pc' Ls' st')) t → Sp C (T.setTop (mkF C.2.2.2.1 pc Ls st)) t)
    (hr : W l R C E h k n pc' Ls' st') : W l R C E h k n pc Ls st := fun T L X N eT => by
  obtain ⟨T', X', e', q⟩ := f T L X eT
  obtain ⟨t, o, h1, h2⟩ := hr T' L X' N e'
  exact ⟨t, o, q t h1, h2⟩
theorem size_ge {n0 : Nat} (H : Cx C Z own code ml ret nm n0) {T : State} {L : List Loc} (X : St l R C T L k n) : n0 ≤ T.heap.size := Nat.le_trans H.2.2.2.2.2.2.2.2 X.same.2.1
/-! plain steps -/
section Plain
theorem k_iloadN {i : Fin 4} {x : Int32} (H : Cx C Z own code ml ret nm E.1) (hd : decode code pc = .ok (.iload_n i, 1)) (hl : Ls[i.val]? = some (.val (.int x))) (hr : W l R C E h k n (pc + 1) Ls (.int x :: st)) : W l R C E h k n pc Ls st := .via (fun T t L X _ r => XS.iloadN X.here H.1 rfl (hb H.2.1 hd) hl r) hr
theorem k_iload {i : Nat} {x : Int32} (H : Cx C Z own code ml ret nm E.1) (hd : decode code pc = .ok (.iload i, 2)) (hl : Ls[i]? = some (.val (.int x))) (hr : W l R C E h k n (pc + 2) Ls (.int x :: st)) : W l R C E h k n pc Ls st := .via (fun T t L X _ r => XS.iload X.here H.1 rfl (hb H.2.1 hd) hl r) hr
theorem k_lloadN {i : Fin 4} {x : Int64} (H : Cx C Z own code ml ret nm E.1) (hd : decode code pc = .ok (.lload_n i, 1)) (hl : Ls[i.val]? = some (.val (.long x))) (hr : W l R C E h k n (pc + 1) Ls (.long x :: st)) : W l R C E h k n pc Ls st := .via (fun T t L X _ r => XT.lloadN X.here H.1 rfl (hb H.2.1 hd) hl r) hr
theorem k_lload {i : Nat} {x : Int64} (H : Cx C Z own code ml ret nm E.1) (hd : decode code pc = .ok (.lload i, 2)) (hl : Ls[i]? = some (.val (.long x))) (hr : W l R C E h k n (pc + 2) Ls (.long x :: st)) : W l R C E h k n pc Ls st := .via (fun T t L X _ r => XT.lload X.here H.1 rfl (hb H.2.1 hd) hl r) hr
theorem k_aloadN {i : Fin 4} {v : Value} (H : Cx C Z own code ml ret nm E.1) (hd : decode code pc = .ok (.aload_n i, 1)) (hl : Ls[i.val]? = some (.val v)) (hv : v.isRef = true) (hr : W l R C E h k n (pc + 1) Ls (v :: st)) : W l R C E h k n pc Ls st := .via (fun T t L X _ r => XS.aloadN X.here H.1 rfl (hb H.2.1 hd) hl hv r) hr
theorem k_aload {i : Nat} {v : Value} (H : Cx C Z own code ml ret nm E.1) (hd : decode code pc = .ok (.aload i, 2)) (hl : Ls[i]? = some (.val v)) (hv : v.isRef = true) (hr : W l R C E h k n (pc + 2) Ls (v :: st)) : W l R C E h k n pc Ls st := .via (fun T t L X _ r => XS.aload X.here H.1 rfl (hb H.2.1 hd) hl hv r) hr
theorem k_istoreN {i : Fin 4} {x : Int32} {Ls' : Array Slot} (H : Cx C Z own code ml ret nm E.1) (hd : decode code pc = .ok (.istore_n i, 1)) (hl : storeLocals Ls i.val (.int x) = some Ls') (hr : W l R C E h k n (pc + 1) Ls' st) : W l R C E h k n pc Ls (.int x :: st) := .via (fun T t L X _ r => XS.istoreN X.here H.1 rfl (hb H.2.1 hd) rfl hl r) hr
theorem k_istore {i : Nat} {x : Int32} {Ls' : Array Slot} (H : Cx C Z own code ml ret nm E.1) (hd : decode code pc = .ok (.istore i, 2)) (hl : storeLocals Ls i (.int x) = some Ls') (hr : W l R C E h k n (pc + 2) Ls' st) : W l R C E h k n pc Ls (.int x :: st) := .via (fun T t L X _ r => XS.istore X.here H.1 rfl (hb H.2.1 hd) rfl hl r) hr
theorem k_lstoreN {i : Fin 4} {x : Int64} {Ls' : Array Slot} (H : Cx C Z own code ml ret nm E.1) (hd : decode code pc = .ok (.lstore_n i, 1)) (hl : storeLocals Ls i.val (.long x) = some Ls') (hr : W l R C E h k n (pc + 1) Ls' st) : W l R C E h k n pc Ls (.long x :: st) := .via (fun T t L X _ r => XT.lstoreN X.here H.1 rfl (hb H.2.1 hd) rfl hl r) hr
theorem k_lstore {i : Nat} {x : Int64} {Ls' : Array Slot} (H : Cx C Z own code ml ret nm E.1) (hd : decode code pc = .ok (.lstore i, 2)) (hl : storeLocals Ls i (.long x) = some Ls') (hr : W l R C E h k n (pc + 2) Ls' st) : W l R C E h k n pc Ls (.long x :: st) := .via (fun T t L X _ r => XT.lstore X.here H.1 rfl (hb H.2.1 hd) rfl hl r) hr
theorem k_astoreN {i : Fin 4} {x : Value} {Ls' : Array Slot} (H : Cx C Z own code ml ret nm E.1) (hd : decode code pc = .ok (.astore_n i, 1)) (hv : x.isRef = true) (hl : storeLocals Ls i.val x = some Ls') (hr : W l R C E h k n (pc + 1) Ls' st) : W l R C E h k n pc Ls (x :: st) := .via (fun T t L X _ r => XS.astoreN X.here H.1 rfl (hb H.2.1 hd) rfl hv hl r) hr
theorem k_astore {i : Nat} {x : Value} {Ls' : Array Slot} (H : Cx C Z own code ml ret nm E.1) (hd : decode code pc = .ok (.astore i, 2)) (hv : x.isRef = true) (hl : storeLocals Ls i x = some Ls') (hr : W l R C E h k n (pc + 2) Ls' st) : W l R C E h k n pc Ls (x :: st) := .via (fun T t L X _ r => XS.astore X.here H.1 rfl (hb H.2.1 hd) rfl hv hl r) hr
theorem k_iconst {i : Int} (v : Int32) (H : Cx C Z own code ml ret nm E.1) (hd : decode code pc = .ok (.iconst i, 1)) (hv : Int32.ofInt i = v) (hr : W l R C E h k n (pc + 1) Ls (.int v :: st)) : W l R C E h k n pc Ls st := .via (fun T t L X _ r => XT.iconstV X.here H.1 rfl v (hb H.2.1 hd) hv r) hr
theorem k_bipush {i : Int} (v : Int32) (H : Cx C Z own code ml ret nm E.1) (hd : decode code pc = .ok (.bipush i, 2)) (hv : (Int8.ofInt i).toInt32 = v) (hr : W l R C E h k n (pc + 2) Ls (.int v :: st)) : W l R C E h k n pc Ls st := .via (fun T t L X _ r => XT.bipushV X.here H.1 rfl v (hb H.2.1 hd) hv r) hr
theorem k_sipush {i : Int} (v : Int32) (H : Cx C Z own code ml ret nm E.1) (hd : decode code pc = .ok (.sipush i, 3)) (hv : (Int16.ofInt i).toInt32 = v) (hr : W l R C E h k n (pc + 3) Ls (.int v :: st)) : W l R C E h k n pc Ls st := .via (fun T t L X _ r => XT.sipushV X.here H.1 rfl v (hb H.2.1 hd) hv r) hr
theorem k_lconst {i : Fin 2} (v : Int64) (H : Cx C Z own code ml ret nm E.1) (hd : decode code pc = .ok (.lconst i, 1)) (hv : Int64.ofNat i = v) (hr : W l R C E h k n (pc + 1) Ls (.long v :: st)) : W l R C E h k n pc Ls st := .via (fun T t L X _ r => XT.lconstV X.here H.1 rfl v (hb H.2.1 hd) hv r) hr
theorem k_aconstNull (H : Cx C Z own code ml ret nm E.1) (hd : decode code pc = .ok (.aconst_null, 1)) (hr : W l R C E h k n (pc + 1) Ls (.null :: st)) : W l R C E h k n pc Ls st := .via (fun T t L X _ r => XS.aconstNull X.here H.1 rfl (hb H.2.1 hd) r) hr
theorem k_ldcI {i : Nat} {v : Int32} (H : Cx C Z own code ml ret nm E.1) (hc : (Cond.constant own i v).before a0 Z = true) (hd : decode code pc = .ok (.ldc i, 2)) (hr : W l R C E h k n (pc + 2) Ls (.int v :: st)) : W l R C E h k n pc Ls st := .via (fun T t L X _ r => X.ldcI H.1 H.2.2.2.1 (mv H.2.2.2.2.1 hc) rfl (hb H.2.1 hd) r) hr
theorem k_ldcWI {i : Nat} {v : Int32} (H : Cx C Z own code ml ret nm E.1) (hc : (Cond.constant own i v).before a0 Z = true) (hd : decode code pc = .ok (.ldc_w i, 3)) (hr : W l R C E h k n (pc + 3) Ls (.int v :: st)) : W l R C E h k n pc Ls st := .via (fun T t L X _ r => X.ldcWI H.1 H.2.2.2.1 (mv H.2.2.2.2.1 hc) rfl (hb H.2.1 hd) r) hr
theorem k_ldc2J {i : Nat} {v : Int64} (H : Cx C Z own code ml ret nm E.1) (hc : (Cond.constantLong own i v).before a0 Z = true) (hd : decode code pc = .ok (.ldc2_w i, 3)) (hr : W l R C E h k n (pc + 3) Ls (.long v :: st)) : W l R C E h k n pc Ls st := .via (fun T t L X _ r => X.ldc2J H.1 H.2.2.2.1 (mv H.2.2.2.2.1 hc) rfl (hb H.2.1 hd) r) hr
theorem k_iinc {i : Nat} {c : Int} (v : Int32) {x : Int32} {Ls' : Array Slot} (H : Cx C Z own code ml ret nm E.1) (hd : decode code pc = .ok (.iinc i c, 3)) (hv : Int32.ofInt c = v) (hl : Ls[i]? = some (.val (.int x))) (hl' : storeLocals Ls i (.int (x + v)) = some Ls') (hr : W l R C E h k n (pc + 3) Ls' st) : W l R C E h k n pc Ls st := .via (fun T t L X _ r => XT.iincV X.here H.1 rfl v (hb H.2.1 hd) hv hl hl' r) hr
theorem k_iadd {x y : Int32} (H : Cx C Z own code ml ret nm E.1) (hd : decode code pc = .ok (.iadd, 1)) (hr : W l R C E h k n (pc + 1) Ls (.int (x + y) :: st)) : W l R C E h k n pc Ls (.int y :: .int x :: st) := .via (fun T t L X _ r => XS.iadd X.here H.1 rfl (hb H.2.1 hd) rfl r) hr
theorem k_isub {x y : Int32} (H : Cx C Z own code ml ret nm E.1) (hd : decode code pc = .ok (.isub, 1)) (hr : W l R C E h k n (pc + 1) Ls (.int (x - y) :: st)) : W l R C E h k n pc Ls (.int y :: .int x :: st) := .via (fun T t L X _ r => XS.isub X.here H.1 rfl (hb H.2.1 hd) rfl r) hr
theorem k_imul {x y : Int32} (H : Cx C Z own code ml ret nm E.1) (hd : decode code pc = .ok (.imul, 1)) (hr : W l R C E h k n (pc + 1) Ls (.int (x * y) :: st)) : W l R C E h k n pc Ls (.int y :: .int x :: st) := .via (fun T t L X _ r => XS.imul X.here H.1 rfl (hb H.2.1 hd) rfl r) hr
theorem k_idiv {x y : Int32} (H : Cx C Z own code ml ret nm E.1) (hd : decode code pc = .ok (.idiv, 1)) (hy : y ≠ 0) (hr : W l R C E h k n (pc + 1) Ls (.int (x / y) :: st)) : W l R C E h k n pc Ls (.int y :: .int x :: st) := .via (fun T t L X _ r => XS.idiv X.here H.1 rfl (hb H.2.1 hd) rfl hy r) hr
theorem k_irem {x y : Int32} (H : Cx C Z own code ml ret nm E.1) (hd : decode code pc = .ok (.irem, 1)) (hy : y ≠ 0) (hr : W l R C E h k n (pc + 1) Ls (.int (x % y) :: st)) : W l R C E h k n pc Ls (.int y :: .int x :: st) := .via (fun T t L X _ r => iremM X H.1 rfl (hb H.2.1 hd) rfl hy r) hr
theorem k_iand {x y : Int32} (H : Cx C Z own code ml ret nm E.1) (hd : decode code pc = .ok (.iand, 1)) (hr : W l R C E h k n (pc + 1) Ls (.int (x &&& y) :: st)) : W l R C E h k n pc Ls (.int y :: .int x :: st) := .via (fun T t L X _ r => XS.iand X.here H.1 rfl (hb H.2.1 hd) rfl r) hr
theorem k_ior {x y : Int32} (H : Cx C Z own code ml ret nm E.1) (hd : decode code pc = .ok (.ior, 1)) (hr : W l R C E h k n (pc + 1) Ls (.int (x ||| y) :: st)) : W l R C E h k n pc Ls (.int y :: .int x :: st) := .via (fun T t L X _ r => XT.ior X.here H.1 rfl (hb H.2.1 hd) rfl r) hr
theorem k_ixor {x y : Int32} (H : Cx C Z own code ml ret nm E.1) (hd : decode code pc = .ok (.ixor, 1)) (hr : W l R C E h k n (pc + 1) Ls (.int (x ^^^ y) :: st)) : W l R C E h k n pc Ls (.int y :: .int x :: st) := .via (fun T t L X _ r => XT.ixor X.here H.1 rfl (hb H.2.1 hd) rfl r) hr
theorem k_ishl {x y : Int32} (H : Cx C Z own code ml ret nm E.1) (hd : decode code pc = .ok (.ishl, 1)) (hr : W l R C E h k n (pc + 1) Ls (.int (x <<< (y &&& 31)) :: st)) : W l R C E h k n pc Ls (.int y :: .int x :: st) := .via (fun T t L X _ r => XT.ishl X.here H.1 rfl (hb H.2.1 hd) rfl r) hr
theorem k_ishr {x y : Int32} (H : Cx C Z own code ml ret nm E.1) (hd : decode code pc = .ok (.ishr, 1)) (hr : W l R C E h k n (pc + 1) Ls (.int (x >>> (y &&& 31)) :: st)) : W l R C E h k n pc Ls (.int y :: .int x :: st) := .via (fun T t L X _ r => XT.ishr X.here H.1 rfl (hb H.2.1 hd) rfl r) hr
theorem k_iushr {x y : Int32} (H : Cx C Z own code ml ret nm E.1) (hd : decode code pc = .ok (.iushr, 1)) (hr : W l R C E h k n (pc + 1) Ls (.int (XT.ushr x y) :: st)) : W l R C E h k n pc Ls (.int y :: .int x :: st) := .via (fun T t L X _ r => XT.iushr X.here H.1 rfl (hb H.2.1 hd) rfl r) hr
theorem k_ineg {x : Int32} (H : Cx C Z own code ml ret nm E.1) (hd : decode code pc = .ok (.ineg, 1)) (hr : W l R C E h k n (pc + 1) Ls (.int (-x) :: st)) : W l R C E h k n pc Ls (.int x :: st) := .via (fun T t L X _ r => XS.ineg X.here H.1 rfl (hb H.2.1 hd) rfl r) hr
theorem k_ladd {x y : Int64} (H : Cx C Z own code ml ret nm E.1) (hd : decode code pc = .ok (.ladd, 1)) (hr : W l R C E h k n (pc + 1) Ls (.long (x + y) :: st)) : W l R C E h k n pc Ls (.long y :: .long x :: st) := .via (fun T t L X _ r => XT.ladd X.here H.1 rfl (hb H.2.1 hd) rfl r) hr
theorem k_lsub {x y : Int64} (H : Cx C Z own code ml ret nm E.1) (hd : decode code pc = .ok (.lsub, 1)) (hr : W l R C E h k n (pc + 1) Ls (.long (x - y) :: st)) : W l R C E h k n pc Ls (.long y :: .long x :: st) := .via (fun T t L X _ r => XT.lsub X.here H.1 rfl (hb H.2.1 hd) rfl r) hr
theorem k_land {x y : Int64} (H : Cx C Z own code ml ret nm E.1) (hd : decode code pc = .ok (.land, 1)) (hr : W l R C E h k n (pc + 1) Ls (.long (x &&& y) :: st)) : W l R C E h k n pc Ls (.long y :: .long x :: st) := .via (fun T t L X _ r => XT.land X.here H.1 rfl (hb H.2.1 hd) rfl r) hr
theorem k_lor {x y : Int64} (H : Cx C Z own code ml ret nm E.1) (hd : decode code pc = .ok (.lor, 1)) (hr : W l R C E h k n (pc + 1) Ls (.long (x ||| y) :: st)) : W l R C E h k n pc Ls (.long y :: .long x :: st) := .via (fun T t L X _ r => XT.lor X.here H.1 rfl (hb H.2.1 hd) rfl r) hr
theorem k_lxor {x y : Int64} (H : Cx C Z own code ml ret nm E.1) (hd : decode code pc = .ok (.lxor, 1)) (hr : W l R C E h k n (pc + 1) Ls (.long (x ^^^ y) :: st)) : W l R C E h k n pc Ls (.long y :: .long x :: st) := .via (fun T t L X _ r => XT.lxor X.here H.1 rfl (hb H.2.1 hd) rfl r) hr
theorem k_lshl {x : Int64} {y : Int32} (H : Cx C Z own code ml ret nm E.1) (hd : decode code pc = .ok (.lshl, 1)) (hr : W l R C E h k n (pc + 1) Ls (.long (x <<< (y.toInt64 &&& 63)) :: st)) : W l R C E h k n pc Ls (.int y :: .long x :: st) := .via (fun T t L X _ r => XT.lshl X.here H.1 rfl (hb H.2.1 hd) rfl r) hr
theorem k_lushr {x : Int64} {y : Int32} (H : Cx C Z own code ml ret nm E.1) (hd : decode code pc = .ok (.lushr, 1)) (hr : W l R C E h k n (pc + 1) Ls (.long (XT.ushrL x y) :: st)) : W l R C E h k n pc Ls (.int y :: .long x :: st) := .via (fun T t L X _ r => XT.lushr X.here H.1 rfl (hb H.2.1 hd) rfl r) hr
theorem k_i2l {x : Int32} (H : Cx C Z own code ml ret nm E.1) (hd : decode code pc = .ok (.i2l, 1)) (hr : W l R C E h k n (pc + 1) Ls (.long x.toInt64 :: st)) : W l R C E h k n pc Ls (.int x :: st) := .via (fun T t L X _ r => XT.i2l X.here H.1 rfl (hb H.2.1 hd) rfl r) hr
theorem k_l2i {x : Int64} (H : Cx C Z own code ml ret nm E.1) (hd : decode code pc = .ok (.l2i, 1)) (hr : W l R C E h k n (pc + 1) Ls (.int x.toInt32 :: st)) : W l R C E h k n pc Ls (.long x :: st) := .via (fun T t L X _ r => XT.l2i X.here H.1 rfl (hb H.2.1 hd) rfl r) hr
theorem k_i2b {x : Int32} (H : Cx C Z own code ml ret nm E.1) (hd : decode code pc = .ok (.i2b, 1)) (hr : W l R C E h k n (pc + 1) Ls (.int x.toInt8.toInt32 :: st)) : W l R C E h k n pc Ls (.int x :: st) := .via (fun T t L X _ r => XT.i2b X.here H.1 rfl (hb H.2.1 hd) rfl r) hr
theorem k_i2c {x : Int32} (H : Cx C Z own code ml ret nm E.1) (hd : decode code pc = .ok (.i2c, 1)) (hr : W l R C E h k n (pc + 1) Ls (.int x.toUInt32.toUInt16.toUInt32.toInt32 :: st)) : W l R C E h k n pc Ls (.int x :: st) := .via (fun T t L X _ r => XT.i2c X.here H.1 rfl (hb H.2.1 hd) rfl r) hr
theorem k_lcmp {x y : Int64} (H : Cx C Z own code ml ret nm E.1) (hd : decode code pc = .ok (.lcmp, 1)) (hr : W l R C E h k n (pc + 1) Ls (.int (XT.cmpL x y) :: st)) : W l R C E h k n pc Ls (.long y :: .long x :: st) := .via (fun T t L X _ r => XT.lcmp X.here H.1 rfl (hb H.2.1 hd) rfl r) hr
theorem k_dup {v : Value} (H : Cx C Z own code ml ret nm E.1) (hd : decode code pc = .ok (.dup, 1)) (hc : v.category = 1) (hr : W l R C E h k n (pc + 1) Ls (v :: v :: st)) : W l R C E h k n pc Ls (v :: st) := .via (fun T t L X _ r => XS.dup X.here H.1 rfl (hb H.2.1 hd) rfl hc r) hr
theorem k_pop {v : Value} (H : Cx C Z own code ml ret nm E.1) (hd : decode code pc = .ok (.pop, 1)) (hc : v.category = 1) (hr : W l R C E h k n (pc + 1) Ls st) : W l R C E h k n pc Ls (v :: st) := .via (fun T t L X _ r => XT.pop X.here H.1 rfl (hb H.2.1 hd) rfl hc r) hr
theorem k_dupX1 {v w : Value} (H : Cx C Z own code ml ret nm E.1) (hd : decode code pc = .ok (.dup_x1, 1)) (hc : v.category = 1) (hc' : w.category = 1) (hr : W l R C E h k n (pc + 1) Ls (v :: w :: v :: st)) : W l R C E h k n pc Ls (v :: w :: st) := .via (fun T t L X _ r => XT.dupX1 X.here H.1 rfl (hb H.2.1 hd) rfl hc hc' r) hr
theorem k_dup2 {v w : Value} (H : Cx C Z own code ml ret nm E.1) (hd : decode code pc = .ok (.dup2, 1)) (hc : v.category = 1) (hc' : w.category = 1) (hr : W l R C E h k n (pc + 1) Ls (v :: w :: v :: w :: st)) : W l R C E h k n pc Ls (v :: w :: st) := .via (fun T t L X _ r => XT.dup2 X.here H.1 rfl (hb H.2.1 hd) rfl hc hc' r) hr
theorem k_goto {o : Int} (pc' : Nat) (H : Cx C Z own code ml ret nm E.1) (hd : decode code pc = .ok (.goto o, 3)) (hp : (pc : Int) + o = (pc' : Int)) (hr : W l R C E h k n pc' Ls st) : W l R C E h k n pc Ls st := .via (fun T t L X _ r => XS.goto X.here H.1 rfl rfl (hb H.2.1 hd) (by rw [hp]; exact Int.natCast_nonneg _) (by rw [hp]; rfl) r) hr
theorem k_icmpT {cd : ClassFile.Cond} {o : Int} {x y : Int32} (pc' : Nat) (H : Cx C Z own code ml ret nm E.1) (hd : decode code pc = .ok (.if_icmp cd o, 3)) (hp : (pc : Int) + o = (pc' : Int)) (hc : if_icmp.holds cd x y = true) (hr : W l R C E h k n pc' Ls st) : W l R C E h k n pc Ls (.int y :: .int x :: st) :=
  .via (fun T t L X _ r => XS.icmpYes X.here H.1 rfl rfl (hb H.2.1 hd) rfl hc (by rw [hp]; exact Int.natCast_nonneg _) (by rw [hp]; rfl) r) hr
theorem k_icmpF {cd : ClassFile.Cond} {o : Int} {x y : Int32} (H : Cx C Z own code ml ret nm E.1) (hd : decode code pc = .ok (.if_icmp cd o, 3)) (hc : if_icmp.holds cd x y = false) (hr : W l R C E h k n (pc + 3) Ls st) : W l R C E h k n pc Ls (.int y :: .int x :: st) :=
  .via (fun T t L X _ r => XS.icmpNo X.here H.1 rfl (hb H.2.1 hd) rfl hc r) hr
theorem k_ifT {cd : ClassFile.Cond} {o : Int} {x : Int32} (pc' : Nat) (H : Cx C Z own code ml ret nm E.1) (hd : decode code pc = .ok (.ifCond cd o, 3)) (hp : (pc : Int) + o = (pc' : Int)) (hc : ifCond.holds cd x = true) (hr : W l R C E h k n pc' Ls st) : W l R C E h k n pc Ls (.int x :: st) :=
  .via (fun T t L X _ r => XS.ifYes X.here H.1 rfl rfl (hb H.2.1 hd) rfl hc (by rw [hp]; exact Int.natCast_nonneg _) (by rw [hp]; rfl) r) hr
theorem k_ifF {cd : ClassFile.Cond} {o : Int} {x : Int32} (H : Cx C Z own code ml ret nm E.1) (hd : decode code pc = .ok (.ifCond cd o, 3)) (hc : ifCond.holds cd x = false) (hr : W l R C E h k n (pc + 3) Ls st) : W l R C E h k n pc Ls (.int x :: st) :=
  .via (fun T t L X _ r => XS.ifNo X.here H.1 rfl (hb H.2.1 hd) rfl hc r) hr
theorem k_acmpT {cd : ClassFile.ACond} {o : Int} {x y : Value} (pc' : Nat) (H : Cx C Z own code ml ret nm E.1) (hd : decode code pc = .ok (.if_acmp cd o, 3)) (hp : (pc : Int) + o = (pc' : Int)) (hx : x.isRef = true) (hy : y.isRef = true) (hc : XT.acmp cd x y = true) (hr : W l R C E h k n pc' Ls st) : W l R C E h k n pc Ls (y :: x :: st) :=
  .via (fun T t L X _ r => XT.acmpYes X.here H.1 rfl rfl (hb H.2.1 hd) rfl hx hy hc (by rw [hp]; exact Int.natCast_nonneg _) (by rw [hp]; rfl) r) hr
theorem k_acmpF {cd : ClassFile.ACond} {o : Int} {x y : Value} (H : Cx C Z own code ml ret nm E.1) (hd : decode code pc = .ok (.if_acmp cd o, 3)) (hx : x.isRef = true) (hy : y.isRef = true) (hc : XT.acmp cd x y = false) (hr : W l R C E h k n (pc + 3) Ls st) : W l R C E h k n pc Ls (y :: x :: st) :=
  .via (fun T t L X _ r => XT.acmpNo X.here H.1 rfl (hb H.2.1 hd) rfl hx hy hc r) hr
theorem k_nonnullT {o : Int} {b : Addr} (pc' : Nat) (H : Cx C Z own code ml ret nm E.1) (hd : decode code pc = .ok (.ifnonnull o, 3)) (hp : (pc : Int) + o = (pc' : Int)) (hr : W l R C E h k n pc' Ls st) : W l R C E h k n pc Ls (.ref b :: st) :=
  .via (fun T t L X _ r => XT.ifnonnullYes X.here H.1 rfl rfl (hb H.2.1 hd) rfl (by rw [hp]; exact Int.natCast_nonneg _) (by rw [hp]; rfl) r) hr
theorem k_tsw {dflt low high o : Int} {offs : Array Int} {len : Nat} {i : Int32} (pc' : Nat) (H : Cx C Z own code ml ret nm E.1) (hd : decode code pc = .ok (.tableswitch dflt low high offs, len)) (hin : ¬ (i.toInt < low ∨ i.toInt > high)) (hoff : offs[(i.toInt - low).toNat]? = some o) (hp : (pc : Int) + o = (pc' : Int)) (hr : W l R C E h k n pc' Ls st) : W l R C E h k n pc Ls (.int i :: st) :=
  .via (fun T t L X _ r => XS.tswIn X.here H.1 rfl rfl (hb H.2.1 hd) rfl hin hoff (by rw [hp]; exact Int.natCast_nonneg _) (by rw [hp]; rfl) r) hr
theorem lsw {tb : Tables} [Ours tb] {e : Env} {below : List Frame} {T target : State} {m : MethodId} {c : Code} {g : JFrame} (h : At T m c below) (hx : tb.exec = Jvm.exec) (hg : g.method = m) {dflt : Int} {pairs : Array (Int × Int)} {len : Nat} {pc0 pc' : Nat} (hpc : g.pc = pc0) (hd : decode c.code g.pc = .ok (.lookupswitch dflt pairs, len)) {i : Int32} {rest : List Value} (hs : g.stack = .int i :: rest)
    (ho : 0 ≤ (pc0 : Int) + lookupswitch.offset pairs.toList dflt i.toInt) (hp : ((pc0 : Int) + lookupswitch.offset pairs.toList dflt i.toInt).toNat = pc') (hsort : ∀ (a b c d : Int), ((a, b), c, d) ∈ pairs.toList.zip pairs.toList.tail → a < c) (hr : Steps tb e below (T.setTop { g with pc := pc', stack := rest }) target) : Steps tb e below (T.setTop g) target := by
  subst hg hpc hp
  jvm_step h [h.top, hx, hd, hs, ho, lookupswitch.wp_chain]
  exact ⟨hsort, hr⟩
theorem k_lsw {dflt : Int} {pairs : Array (Int × Int)} {len : Nat} {i : Int32} (pc' : Nat) (H : Cx C Z own code ml ret nm E.1) (hd : decode code pc = .ok (.lookupswitch dflt pairs, len)) (hsort : ∀ (a b c d : Int), ((a, b), c, d) ∈ pairs.toList.zip pairs.toList.tail → a < c) (hp : (pc : Int) + lookupswitch.offset pairs.toList dflt i.toInt = (pc' : Int)) (hr : W l R C E h k n pc' Ls st) : W l R C E h k n pc Ls (.int i :: st) :=
  .via (fun T t L X _ r => lsw X.here H.1 rfl rfl (hb H.2.1 hd) rfl (by rw [hp]; exact Int.natCast_nonneg _) (by rw [hp]; rfl) hsort r) hr
end Plain
/-! branches, both ways -/
theorem k_icmp {cd : ClassFile.Cond} {o : Int} {x y : Int32} {P : Prop} [Decidable P] (pc' : Nat) (H : Cx C Z own code ml ret nm E.1) (hd : decode code pc = .ok (.if_icmp cd o, 3)) (hp : (pc : Int) + o = (pc' : Int)) (hT : P → if_icmp.holds cd x y = true) (hF : ¬ P → if_icmp.holds cd x y = false)
    (h1 : P → W l R C E h k n pc' Ls st) (h2 : ¬ P → W l R C E h k n (pc + 3) Ls st) : W l R C E h k n pc Ls (.int y :: .int x :: st) := by
  by_cases q : P
  · exact k_icmpT pc' H hd hp (hT q) (h1 q)
  · exact k_icmpF H hd (hF q) (h2 q)
theorem k_iff0 {cd : ClassFile.Cond} {o : Int} {x : Int32} {P : Prop} [Decidable P] (pc' : Nat) (H : Cx C Z own code ml ret nm E.1) (hd : decode code pc = .ok (.ifCond cd o, 3)) (hp : (pc : Int) + o = (pc' : Int)) (hT : P → ifCond.holds cd x = true) (hF : ¬ P → ifCond.holds cd x = false)
    (h1 : P → W l R C E h k n pc' Ls st) (h2 : ¬ P → W l R C E h k n (pc + 3) Ls st) : W l R C E h k n pc Ls (.int x :: st) := by
  by_cases q : P
  · exact k_ifT pc' H hd hp (hT q) (h1 q)
  · exact k_ifF H hd (hF q) (h2 q)
theorem k_icmpR {cd : ClassFile.Cond} {o : Int} {x y : Int32} {P : Prop} [Decidable P] (pc' : Nat) (H : Cx C Z own code ml ret nm E.1) (hd : decode code pc = .ok (.if_icmp cd o, 3)) (hp : (pc : Int) + o = (pc' : Int)) (hT : ¬ P → if_icmp.holds cd x y = true) (hF : P → if_icmp.holds cd x y = false)
    (h1 : ¬ P → W l R C E h k n pc' Ls st) (h2 : P → W l R C E h k n (pc + 3) Ls st) : W l R C E h k n pc Ls (.int y :: .int x :: st) := by
  by_cases q : P
  · exact k_icmpF H hd (hF q) (h2 q)
  · exact k_icmpT pc' H hd hp (hT q) (h1 q)
theorem k_iff0R {cd : ClassFile.Cond} {o : Int} {x : Int32} {P : Prop} [Decidable P] (pc' : Nat) (H : Cx C Z own code ml ret nm E.1) (hd : decode code pc = .ok (.ifCond cd o, 3)) (hp : (pc : Int) + o = (pc' : Int)) (hT : ¬ P → ifCond.holds cd x = true) (hF : P → ifCond.holds cd x = false)
    (h1 : ¬ P → W l R C E h k n pc' Ls st) (h2 : P → W l R C E h k n (pc + 3) Ls st) : W l R C E h k n pc Ls (.int x :: st) := by
  by_cases q : P
  · exact k_ifF H hd (hF q) (h2 q)
  · exact k_ifT pc' H hd hp (hT q) (h1 q)
theorem k_acmp {cd : ClassFile.ACond} {o : Int} {x y : Value} {P : Prop} [Decidable P] (pc' : Nat) (H : Cx C Z own code ml ret nm E.1) (hd : decode code pc = .ok (.if_acmp cd o, 3)) (hp : (pc : Int) + o = (pc' : Int)) (hx : x.isRef = true) (hy : y.isRef = true) (hT : P → XT.acmp cd x y = true) (hF : ¬ P → XT.acmp cd x y = false)
    (h1 : P → W l R C E h k n pc' Ls st) (h2 : ¬ P → W l R C E h k n (pc + 3) Ls st) : W l R C E h k n pc Ls (y :: x :: st) := by
  by_cases q : P
  · exact k_acmpT pc' H hd hp hx hy (hT q) (h1 q)
  · exact k_acmpF H hd hx hy (hF q) (h2 q)
/-! heap steps -/
/-- an array: its kind and all that it holds -/
def Vec (Z : State) (h : Heap) (a : Addr) (ty : FieldType) (vs : List Value) : Prop := ∃ c : Cell, Arr Z h a c ty ∧ c.slots = vs.toArray ∧ vs.length < 2 ^ 31
abbrev IA (Z : State) (h : Heap) (a : Addr) (xs : List Int32) : Prop := Vec Z h a .int (xs.map Value.int)
abbrev JA (Z : State) (h : Heap) (a : Addr) (xs : List Int64) : Prop := Vec Z h a .long (xs.map Value.long)
abbrev BA (Z : State) (h : Heap) (a : Addr) (xs : List Int8) : Prop := Vec Z h a .byte (xs.map fun b => Value.int b.toInt32)
abbrev CA (Z : State) (h : Heap) (a : Addr) (xs : List UInt16) : Prop := Vec Z h a .char (xs.map fun b => Value.int b.toUInt32.toInt32)
theorem Vec.lt {a : Addr} {ty : FieldType} {vs : List Value} (F : Vec Z h a ty vs) : a < h.size := by obtain ⟨c, A, -⟩ := F; exact A.lt
theorem Vec.ext {a : Addr} {ty : FieldType} {vs : List Value} (F : Vec Z h a ty vs) (X : Ext h h') : Vec Z h' a ty vs := by obtain ⟨c, A, r⟩ := F; exact ⟨c, A.ext X, r⟩
theorem Vec.keep {a : Addr} {ty : FieldType} {vs : List Value} {ws : List Addr} (F : Vec Z h a ty vs) (K : Keep h h' ws) (q : a ∉ ws) : Vec Z h' a ty vs := by obtain ⟨c, A, r⟩ := F; exact ⟨c, ⟨K.2.1 a c A.1 q, A.2⟩, r⟩
theorem Vec.other {a b : Addr} {ty : FieldType} {vs : List Value} {sl : Nat} {v : Value} (F : Vec Z h b ty vs) (X : Wr h h' a sl v) (q : b ≠ a) : Vec Z h' b ty vs := by obtain ⟨c, A, r⟩ := F; exact ⟨c, A.other X q, r⟩
theorem Vec.set {a : Addr} {ty : FieldType} {vs : List Value} {sl : Nat} {v : Value} (F : Vec Z h a ty vs) (X : Wr h h' a sl v) : Vec Z h' a ty (vs.set sl v) := by
  obtain ⟨c, A, e, r⟩ := F
  refine ⟨_, A.same X, ?_, by simpa using r⟩
  simp [Cell.setSlot, e]
theorem Vec.ne {a b : Addr} {ty ty' : FieldType} {vs vs' : List Value} (F : Vec Z h a ty vs) (G : Vec Z h b ty' vs') (q : ty ≠ ty') : a ≠ b := fun e => by
  subst e
  obtain ⟨c, A, -⟩ := F
  obtain ⟨c', A', -⟩ := G
  cases A.1.symm.trans A'.1
  obtain ⟨-, k, h1, comp, h2⟩ := A.2.1
  obtain ⟨-, k', h1', comp', h2'⟩ := A'.2.1
  cases h1.symm.trans h1'
  rw [h2] at h2'; cases h2'; exact q rfl
theorem Vec.neX {a b : Addr} {ty : FieldType} {vs : List Value} {cls : String} {kk : Nat} (G : Vec Z h b ty vs) (F : Exa Z h a cls) (wi : (Cond.instantiable cls kk).before a0 Z = true) : a ≠ b := by obtain ⟨c, A, -⟩ := G; exact ne_arr F wi A
theorem Keep.ofExt (X : Ext h h') : Keep h h' [] := (Keep.refl h []).ext X
theorem idx_ok {j : Int32} {i : Nat} (hj : j.toInt = (i : Int)) : ¬ j < 0 ∧ j.toNatClampNeg = i := by
  have e0 : (0 : Int32).toInt = 0 := rfl
  constructor
  · rw [Int32.lt_iff_toInt_lt]; omega
  · simp only [Int32.toNatClampNeg, hj]; rfl
theorem len_ok {c : Cell} {vs : List Value} (e : c.slots = vs.toArray) (hl : vs.length < 2 ^ 31) : c.slots.size.toInt32.toInt = (vs.length : Int) := by
  rw [e]; exact len_toInt hl
section Arrs
variable {a : Addr} {j : Int32} {i : Nat} {v : Value} {vs : List Value}
theorem in_ok {c : Cell} (e : c.slots = vs.toArray) (hj : j.toInt = (i : Int)) (hv : vs[i]? = some v) : ¬ (j < 0 ∨ c.slots.size ≤ j.toNatClampNeg) ∧ c.slots[j.toNatClampNeg]? = some v := by
  obtain ⟨q1, q2⟩ := idx_ok hj
  rw [q2, e]
  have hlt : i < vs.length := (List.getElem?_eq_some_iff.mp hv).1
  exact ⟨fun z => z.elim q1 (fun z => absurd hlt (Nat.not_lt.mpr (by simpa using z))), by simpa using hv⟩
theorem k_arraylength {ty : FieldType} {N : Int32} (H : Cx C Z own code ml ret nm E.1) (A : Vec Z h a ty vs) (hN : N.toInt = (vs.length : Int)) (hd : decode code pc = .ok (.arraylength, 1)) (hr : W l R C E h k n (pc + 1) Ls (.int N :: st)) : W l R C E h k n pc Ls (.ref a :: st) := by
  obtain ⟨c, A, e, hl⟩ := A
  have q : c.slots.size.toInt32 = N := Int32.toInt_inj.mp ((len_ok e hl).trans hN.symm)
  subst q
  exact .via (fun T t L X eT r => X.arraylength H.1 (by rw [eT]; exact A.1) (State.isArrayOf_alike H.2.2.2.2.1.alike A.2.1) (g := mkF C.2.2.2.1 pc Ls (.ref a :: st)) rfl rfl (hb H.2.1 hd) _ r) hr
theorem k_iaload (H : Cx C Z own code ml ret nm E.1) (A : Vec Z h a .int vs) (hj : j.toInt = (i : Int)) (hv : vs[i]? = some v) (hd : decode code pc = .ok (.iaload, 1)) (hr : W l R C E h k n (pc + 1) Ls (v :: st)) : W l R C E h k n pc Ls (.int j :: .ref a :: st) := by
  obtain ⟨c, A, e, hl⟩ := A
  obtain ⟨q1, q2⟩ := in_ok e hj hv
  exact .via (fun T t L X eT r => X.iaload H.1 (by rw [eT]; exact A.1) (State.isArrayOf_alike H.2.2.2.2.1.alike A.2.1) A.2.2 q1 q2 (g := mkF C.2.2.2.1 pc Ls (.int j :: .ref a :: st)) rfl rfl (hb H.2.1 hd) _ r) hr
theorem k_laload (H : Cx C Z own code ml ret nm E.1) (A : Vec Z h a .long vs) (hj : j.toInt = (i : Int)) (hv : vs[i]? = some v) (hd : decode code pc = .ok (.laload, 1)) (hr : W l R C E h k n (pc + 1) Ls (v :: st)) : W l R C E h k n pc Ls (.int j :: .ref a :: st) := by
  obtain ⟨c, A, e, hl⟩ := A
  obtain ⟨q1, q2⟩ := in_ok e hj hv
  exact .via (fun T t L X eT r => X.laload H.1 (by rw [eT]; exact A.1) (State.isArrayOf_alike H.2.2.2.2.1.alike A.2.1) A.2.2 q1 q2 (g := mkF C.2.2.2.1 pc Ls (.int j :: .ref a :: st)) rfl rfl (hb H.2.1 hd) _ r) hr
theorem k_caload (H : Cx C Z own code ml ret nm E.1) (A : Vec Z h a .char vs) (hj : j.toInt = (i : Int)) (hv : vs[i]? = some v) (hd : decode code pc = .ok (.caload, 1)) (hr : W l R C E h k n (pc + 1) Ls (v :: st)) : W l R C E h k n pc Ls (.int j :: .ref a :: st) := by
  obtain ⟨c, A, e, hl⟩ := A
  obtain ⟨q1, q2⟩ := in_ok e hj hv
  exact .via (fun T t L X eT r => X.caload H.1 (by rw [eT]; exact A.1) (State.isArrayOf_alike H.2.2.2.2.1.alike A.2.1) A.2.2 q1 q2 (g := mkF C.2.2.2.1 pc Ls (.int j :: .ref a :: st)) rfl rfl (hb H.2.1 hd) _ r) hr
theorem k_baload (H : Cx C Z own code ml ret nm E.1) (A : Vec Z h a .byte vs) (hj : j.toInt = (i : Int)) (hv : vs[i]? = some v) (hd : decode code pc = .ok (.baload, 1)) (hr : W l R C E h k n (pc + 1) Ls (v :: st)) : W l R C E h k n pc Ls (.int j :: .ref a :: st) := by
  obtain ⟨c, A, e, hl⟩ := A
  obtain ⟨q1, q2⟩ := in_ok e hj hv
  exact .via (fun T t L X eT r => X.baloadBytes H.1 (by rw [eT]; exact A.1) (State.isArrayOf_alike H.2.2.2.2.1.alike A.2.1) A.2.2 q1 q2 (g := mkF C.2.2.2.1 pc Ls (.int j :: .ref a :: st)) rfl rfl (hb H.2.1 hd) _ r) hr
theorem out_ok {c : Cell} (e : c.slots = vs.toArray) (hj : j.toInt = (i : Int)) (hi : i < vs.length) : ¬ (j < 0 ∨ c.slots.size ≤ j.toNatClampNeg) := by
  obtain ⟨q1, q2⟩ := idx_ok hj
  rw [q2, e]
  exact fun z => z.elim q1 (fun z => absurd hi (Nat.not_lt.mpr (by simpa using z)))
theorem Goes.step {T T' : State} {g g' : JFrame} (q : ∀ t, Sp C (T'.setTop g') t → Sp C (T.setTop g) t) (r : Goes C E (T'.setTop g')) : Goes C E (T.setTop g) := by
  obtain ⟨t, o, h1, h2⟩ := r; exact ⟨t, o, q t h1, h2⟩
theorem k_iastore {x : Int32} (H : Cx C Z own code ml ret nm E.1) (A : Vec Z h a .int vs) (hj : j.toInt = (i : Int)) (hi : i < vs.length) (ge : E.1 ≤ a) (hd : decode code pc = .ok (.iastore, 1))
    (hr : ∀ h', Keep h h' [a] → Vec Z h' a .int (vs.set i (.int x)) → W l R C E h' k n (pc + 1) Ls st) : W l R C E h k n pc Ls (.int x :: .int j :: .ref a :: st) := fun T L X N eT => by
  have A' := A
  obtain ⟨c, A, e, hl⟩ := A
  obtain ⟨T', h', X', e', Wx, q⟩ := stI X H.1 H.2.2.2.2.1 eT A (out_ok e hj hi) (g := mkF C.2.2.2.1 pc Ls (.int x :: .int j :: .ref a :: st)) rfl rfl (hb H.2.1 hd)
  refine .step q (hr h' (Keep.of_wr Wx) ?_ T' _ X' (Fr.snoc X' N ge) e')
  rw [(idx_ok hj).2] at Wx; exact A'.set Wx
theorem k_lastore {x : Int64} (H : Cx C Z own code ml ret nm E.1) (A : Vec Z h a .long vs) (hj : j.toInt = (i : Int)) (hi : i < vs.length) (ge : E.1 ≤ a) (hd : decode code pc = .ok (.lastore, 1))
    (hr : ∀ h', Keep h h' [a] → Vec Z h' a .long (vs.set i (.long x)) → W l R C E h' k n (pc + 1) Ls st) : W l R C E h k n pc Ls (.long x :: .int j :: .ref a :: st) := fun T L X N eT => by
  have A' := A
  obtain ⟨c, A, e, hl⟩ := A
  obtain ⟨T', h', X', e', Wx, q⟩ := stJ X H.1 H.2.2.2.2.1 eT A (out_ok e hj hi) (g := mkF C.2.2.2.1 pc Ls (.long x :: .int j :: .ref a :: st)) rfl rfl (hb H.2.1 hd)
  refine .step q (hr h' (Keep.of_wr Wx) ?_ T' _ X' (Fr.snoc X' N ge) e')
  rw [(idx_ok hj).2] at Wx; exact A'.set Wx
theorem k_bastore {x : Int32} (H : Cx C Z own code ml ret nm E.1) (A : Vec Z h a .byte vs) (hj : j.toInt = (i : Int)) (hi : i < vs.length) (ge : E.1 ≤ a) (hd : decode code pc = .ok (.bastore, 1))
    (hr : ∀ h', Keep h h' [a] → Vec Z h' a .byte (vs.set i (.int x.toInt8.toInt32)) → W l R C E h' k n (pc + 1) Ls st) : W l R C E h k n pc Ls (.int x :: .int j :: .ref a :: st) := fun T L X N eT => by
  have A' := A
  obtain ⟨c, A, e, hl⟩ := A
  obtain ⟨T', h', X', e', Wx, q⟩ := stB X H.1 H.2.2.2.2.1 eT A (out_ok e hj hi) (g := mkF C.2.2.2.1 pc Ls (.int x :: .int j :: .ref a :: st)) rfl rfl (hb H.2.1 hd)
  refine .step q (hr h' (Keep.of_wr Wx) ?_ T' _ X' (Fr.snoc X' N ge) e')
  rw [(idx_ok hj).2] at Wx; exact A'.set Wx
theorem k_castore {x : Int32} (H : Cx C Z own code ml ret nm E.1) (A : Vec Z h a .char vs) (hj : j.toInt = (i : Int)) (hi : i < vs.length) (ge : E.1 ≤ a) (hd : decode code pc = .ok (.castore, 1))
    (hr : ∀ h', Keep h h' [a] → Vec Z h' a .char (vs.set i (.int x.toUInt32.toUInt16.toUInt32.toInt32)) → W l R C E h' k n (pc + 1) Ls st) : W l R C E h k n pc Ls (.int x :: .int j :: .ref a :: st) := fun T L X N eT => by
  have A' := A
  obtain ⟨c, A, e, hl⟩ := A
  obtain ⟨T', h', X', e', Wx, q⟩ := stC X H.1 H.2.2.2.2.1 eT A (out_ok e hj hi) (g := mkF C.2.2.2.1 pc Ls (.int x :: .int j :: .ref a :: st)) rfl rfl (hb H.2.1 hd)
  refine .step q (hr h' (Keep.of_wr Wx) ?_ T' _ X' (Fr.snoc X' N ge) e')
  rw [(idx_ok hj).2] at Wx; exact A'.set Wx
end Arrs
/-- newarray of a plain kind, at most cap long -/
theorem k_newarray {aty : ArrayType} {ty : FieldType} {len : Int32} (m cap : Nat) (H : Cx C Z own code ml ret nm E.1) (w : (Cond.arrayClass ty).before a0 Z = true) (hty : newarray.typeOf aty = ty) (hd : decode code pc = .ok (.newarray aty, 2)) (hm : len.toInt = (m : Int)) (hcap : m ≤ cap) (hB : cap * 8 ≤ 536870912) (hC : k + 1 ≤ R.cells) (hS : n + cap ≤ R.slots)
    (hr : ∀ h' a, a = h.size → E.1 ≤ a → Ext h h' → Exa Z h' a ("[" ++ ty.toString) → Vec Z h' a ty (List.replicate m (defaultValue ty)) → W l R C E h' (k + 1) (n + cap) (pc + 2) Ls (.ref a :: st)) : W l R C E h k n pc Ls (.int len :: st) := fun T L X N eT => by
  subst hty
  obtain ⟨q1, q2⟩ := idx_ok hm
  obtain ⟨T', h', cA, X', e', Ex, A, XA, q⟩ := newPE X H.1 H.2.2.2.2.1 w eT (g := mkF C.2.2.2.1 pc Ls (.int len :: st)) rfl (hb H.2.1 hd) rfl q1 (cap := cap) (by rw [q2]; exact hcap) hB hC hS rfl
  have hlt : m < 2 ^ 31 := by have := len.toInt_lt; omega
  refine .step q (hr h' h.size rfl (by rw [← eT]; exact size_ge H X) Ex XA ⟨_, A, ?_, by simpa using hlt⟩ T' _ X' N e')
  simp [newA, q2]
theorem k_newObj {idx ns : Nat} {cls : String} (H : Cx C Z own code ml ret nm E.1) (w : (Cond.classLink own idx cls).before a0 Z = true) (wi : (Cond.instantiable cls ns).before a0 Z = true) (wz : (Cond.initialized cls).before a0 Z = true) (hd : decode code pc = .ok (.new idx, 3)) (hC : k + 1 ≤ R.cells) (hS : n + ns ≤ R.slots)
    (hr : ∀ h' a, a = h.size → E.1 ≤ a → Ext h h' → Exa Z h' a cls → (∀ {O nf d : String} {ty : FieldType}, Laid Z a0 cls O nf d → parseFieldDescriptor d = some ty → Fld Z h' a O nf d (defaultValue ty)) → W l R C E h' (k + 1) (n + ns) (pc + 3) Ls (.ref a :: st)) : W l R C E h k n pc Ls st := fun T L X N eT => by
  obtain ⟨T', h', X', e', Ex, A, D, -, q⟩ := newO X H.1 H.2.2.2.2.1 H.2.2.2.1 w wi wz eT (g := mkF C.2.2.2.1 pc Ls st) rfl (hb H.2.1 hd) hC hS
  exact .step q (hr h' h.size rfl (by rw [← eT]; exact size_ge H X) Ex A D T' _ X' N e')
theorem k_initObj {idx w : Nat} {a : Addr} (H : Cx C Z own code ml ret nm E.1) (w1 : (Cond.methodLink own idx Lib.objectInit).before a0 Z = true) (w2 : (Cond.instanceMethod Lib.objectInit).before a0 Z = true) (w3 : (Cond.code Lib.objectInit ⟨#[0xb1]⟩ 1 none).before a0 Z = true) (hd : decode code pc = .ok (.invokespecial idx, 3)) (hsz : Ls.size = ml) (hF : 1 ≤ R.frames)
    (hw : (st.map fun v => v.category).sum = w) (hL : w + 12 ≤ R.locals) (hr : W l R C E h k n (pc + 3) Ls st) : W l R C E h k n pc Ls (.ref a :: st) :=
  .viaT (fun T L X eT => initO X H.1 H.2.2.2.2.1 H.2.2.2.1 w1 w2 w3 eT (g := mkF C.2.2.2.1 pc Ls (.ref a :: st)) rfl (by show Ls.size = _; rw [H.2.2.1]; exact hsz) rfl (hb H.2.1 hd) hF (W := w) (by show 2 * 0 + _ ≤ _; rw [hw]; omega) hL) hr
theorem k_getfield {idx : Nat} {O nf d : String} {a : Addr} {v : Value} (H : Cx C Z own code ml ret nm E.1) (w : (Cond.fieldLink own idx O nf d).before a0 Z = true) (F : Fld Z h a O nf d v) (hd : decode code pc = .ok (.getfield idx, 3)) (hr : W l R C E h k n (pc + 3) Ls (v :: st)) : W l R C E h k n pc Ls (.ref a :: st) :=
  .viaT (fun T L X eT => getF X H.1 H.2.2.2.2.1 H.2.2.2.1 (host := "") (Or.inl w) Via.refl eT F (g := mkF C.2.2.2.1 pc Ls (.ref a :: st)) rfl rfl (hb H.2.1 hd)) hr
theorem k_putfield {idx kk : Nat} {O nf d cls : String} {a : Addr} {v old : Value} (ty : FieldType) (H : Cx C Z own code ml ret nm E.1) (w : (Cond.fieldLink own idx O nf d).before a0 Z = true) (F : Fld Z h a O nf d old) (X0 : Exa Z h a cls) (La : (Cond.lays cls O nf d).before a0 Z = true ∨ ((Cond.laysFinal cls O nf d).before a0 Z = true ∧ own = O ∧ nm = "<init>"))
    (wi : (Cond.instantiable cls kk).before a0 Z = true) (hty : parseFieldDescriptor d = some ty) (hn : narrow ty v = v) (hf : fits ty v = true) (ge : E.1 ≤ a) (hd : decode code pc = .ok (.putfield idx, 3))
    (hr : ∀ h', Wr h h' a (Jvm.RoadKit.slotOf Z O nf d) v → Fld Z h' a O nf d v → W l R C E h' k n (pc + 3) Ls st) : W l R C E h k n pc Ls (v :: .ref a :: st) := fun T L X N eT => by
  obtain ⟨T', h', X', e', Wx, q⟩ := putF X H.1 H.2.2.2.2.1 H.2.2.2.1 (host := "") (Or.inl w) Via.refl eT F X0 (La.imp id fun z => ⟨z.1, z.2.1, H.2.2.2.2.2.2.2.1.trans z.2.2⟩) wi hty hn hf (g := mkF C.2.2.2.1 pc Ls (v :: .ref a :: st)) rfl rfl (hb H.2.1 hd)
  exact .step q (hr h' Wx (F.same Wx) T' _ X' (Fr.snoc X' N ge) e')
/-! arrays by the kind of what they hold -/
section Typed
variable {a : Addr} {j : Int32} {i : Nat}
theorem map_at {α : Type} {f : α → Value} {xs : List α} {x : α} (hv : xs[i]? = some x) : (xs.map f)[i]? = some (f x) := by rw [List.getElem?_map, hv]; rfl
theorem k_ialoadT {xs : List Int32} {x : Int32} (H : Cx C Z own code ml ret nm E.1) (A : IA Z h a xs) (hj : j.toInt = (i : Int)) (hv : xs[i]? = some x) (hd : decode code pc = .ok (.iaload, 1)) (hr : W l R C E h k n (pc + 1) Ls ((.int x) :: st)) : W l R C E h k n pc Ls (.int j :: .ref a :: st) := k_iaload H A hj (map_at hv) hd hr
theorem k_iastoreT {xs : List Int32} {x : Int32} (H : Cx C Z own code ml ret nm E.1) (A : IA Z h a xs) (hj : j.toInt = (i : Int)) (hi : i < xs.length) (ge : E.1 ≤ a) (hd : decode code pc = .ok (.iastore, 1))
    (hr : ∀ h', Keep h h' [a] → IA Z h' a (xs.set i x) → W l R C E h' k n (pc + 1) Ls st) : W l R C E h k n pc Ls ((.int x) :: .int j :: .ref a :: st) := k_iastore H A hj (by simpa using hi) ge hd (fun h' K V => hr h' K (by rw [IA, List.map_set]; exact V))
theorem k_new_int {len : Int32} (m cap : Nat) (H : Cx C Z own code ml ret nm E.1) (w : (Cond.arrayClass .int).before a0 Z = true) (hd : decode code pc = .ok (.newarray .int, 2)) (hm : len.toInt = (m : Int)) (hcap : m ≤ cap) (hB : cap * 8 ≤ 536870912) (hC : k + 1 ≤ R.cells) (hS : n + cap ≤ R.slots)
    (hr : ∀ h' a, a = h.size → E.1 ≤ a → Ext h h' → Exa Z h' a "[I" → IA Z h' a (List.replicate m 0) → W l R C E h' (k + 1) (n + cap) (pc + 2) Ls (.ref a :: st)) : W l R C E h k n pc Ls (.int len :: st) := k_newarray m cap H w rfl hd hm hcap hB hC hS (fun h' a e g X XA V => hr h' a e g X XA (by rw [IA, List.map_replicate]; exact V))
theorem k_laloadT {xs : List Int64} {x : Int64} (H : Cx C Z own code ml ret nm E.1) (A : JA Z h a xs) (hj : j.toInt = (i : Int)) (hv : xs[i]? = some x) (hd : decode code pc = .ok (.laload, 1)) (hr : W l R C E h k n (pc + 1) Ls ((.long x) :: st)) : W l R C E h k n pc Ls (.int j :: .ref a :: st) := k_laload H A hj (map_at hv) hd hr
theorem k_lastoreT {xs : List Int64} {x : Int64} (H : Cx C Z own code ml ret nm E.1) (A : JA Z h a xs) (hj : j.toInt = (i : Int)) (hi : i < xs.length) (ge : E.1 ≤ a) (hd : decode code pc = .ok (.lastore, 1))
    (hr : ∀ h', Keep h h' [a] → JA Z h' a (xs.set i x) → W l R C E h' k n (pc + 1) Ls st) : W l R C E h k n pc Ls ((.long x) :: .int j :: .ref a :: st) := k_lastore H A hj (by simpa using hi) ge hd (fun h' K V => hr h' K (by rw [JA, List.map_set]; exact V))
theorem k_new_long {len : Int32} (m cap : Nat) (H : Cx C Z own code ml ret nm E.1) (w : (Cond.arrayClass .long).before a0 Z = true) (hd : decode code pc = .ok (.newarray .long, 2)) (hm : len.toInt = (m : Int)) (hcap : m ≤ cap) (hB : cap * 8 ≤ 536870912) (hC : k + 1 ≤ R.cells) (hS : n + cap ≤ R.slots)
    (hr : ∀ h' a, a = h.size → E.1 ≤ a → Ext h h' → Exa Z h' a "[J" → JA Z h' a (List.replicate m 0) → W l R C E h' (k + 1) (n + cap) (pc + 2) Ls (.ref a :: st)) : W l R C E h k n pc Ls (.int len :: st) := k_newarray m cap H w rfl hd hm hcap hB hC hS (fun h' a e g X XA V => hr h' a e g X XA (by rw [JA, List.map_replicate]; exact V))
theorem k_baloadT {xs : List Int8} {x : Int8} (H : Cx C Z own code ml ret nm E.1) (A : BA Z h a xs) (hj : j.toInt = (i : Int)) (hv : xs[i]? = some x) (hd : decode code pc = .ok (.baload, 1)) (hr : W l R C E h k n (pc + 1) Ls ((.int x.toInt32) :: st)) : W l R C E h k n pc Ls (.int j :: .ref a :: st) := k_baload H A hj (map_at hv) hd hr
theorem k_bastoreT {xs : List Int8} {x : Int32} (H : Cx C Z own code ml ret nm E.1) (A : BA Z h a xs) (hj : j.toInt = (i : Int)) (hi : i < xs.length) (ge : E.1 ≤ a) (hd : decode code pc = .ok (.bastore, 1))
    (hr : ∀ h', Keep h h' [a] → BA Z h' a (xs.set i x.toInt8) → W l R C E h' k n (pc + 1) Ls st) : W l R C E h k n pc Ls ((.int x) :: .int j :: .ref a :: st) := k_bastore H A hj (by simpa using hi) ge hd (fun h' K V => hr h' K (by rw [BA, List.map_set]; exact V))
theorem k_new_byte {len : Int32} (m cap : Nat) (H : Cx C Z own code ml ret nm E.1) (w : (Cond.arrayClass .byte).before a0 Z = true) (hd : decode code pc = .ok (.newarray .byte, 2)) (hm : len.toInt = (m : Int)) (hcap : m ≤ cap) (hB : cap * 8 ≤ 536870912) (hC : k + 1 ≤ R.cells) (hS : n + cap ≤ R.slots)
    (hr : ∀ h' a, a = h.size → E.1 ≤ a → Ext h h' → Exa Z h' a "[B" → BA Z h' a (List.replicate m 0) → W l R C E h' (k + 1) (n + cap) (pc + 2) Ls (.ref a :: st)) : W l R C E h k n pc Ls (.int len :: st) := k_newarray m cap H w rfl hd hm hcap hB hC hS (fun h' a e g X XA V => hr h' a e g X XA (by rw [BA, List.map_replicate]; exact V))
theorem k_caloadT {xs : List UInt16} {x : UInt16} (H : Cx C Z own code ml ret nm E.1) (A : CA Z h a xs) (hj : j.toInt = (i : Int)) (hv : xs[i]? = some x) (hd : decode code pc = .ok (.caload, 1)) (hr : W l R C E h k n (pc + 1) Ls ((.int x.toUInt32.toInt32) :: st)) : W l R C E h k n pc Ls (.int j :: .ref a :: st) := k_caload H A hj (map_at hv) hd hr
theorem k_castoreT {xs : List UInt16} {x : Int32} (H : Cx C Z own code ml ret nm E.1) (A : CA Z h a xs) (hj : j.toInt = (i : Int)) (hi : i < xs.length) (ge : E.1 ≤ a) (hd : decode code pc = .ok (.castore, 1))
    (hr : ∀ h', Keep h h' [a] → CA Z h' a (xs.set i x.toUInt32.toUInt16) → W l R C E h' k n (pc + 1) Ls st) : W l R C E h k n pc Ls ((.int x) :: .int j :: .ref a :: st) := k_castore H A hj (by simpa using hi) ge hd (fun h' K V => hr h' K (by rw [CA, List.map_set]; exact V))
theorem k_new_char {len : Int32} (m cap : Nat) (H : Cx C Z own code ml ret nm E.1) (w : (Cond.arrayClass .char).before a0 Z = true) (hd : decode code pc = .ok (.newarray .char, 2)) (hm : len.toInt = (m : Int)) (hcap : m ≤ cap) (hB : cap * 8 ≤ 536870912) (hC : k + 1 ≤ R.cells) (hS : n + cap ≤ R.slots)
    (hr : ∀ h' a, a = h.size → E.1 ≤ a → Ext h h' → Exa Z h' a "[C" → CA Z h' a (List.replicate m 0) → W l R C E h' (k + 1) (n + cap) (pc + 2) Ls (.ref a :: st)) : W l R C E h k n pc Ls (.int len :: st) := k_newarray m cap H w rfl hd hm hcap hB hC hS (fun h' a e g X XA V => hr h' a e g X XA (by rw [CA, List.map_replicate]; exact V))
theorem fits_of {ty : FieldType} {vs : List Value} {c : Cell} (A : Arr Z h a c ty) (e : c.slots = vs.toArray) (hf : ∀ v ∈ vs, fits ty v = true) : FitC Z c := fitC_of A fun i hi v hv => hf v (by rw [e] at hv; simp at hv; exact List.mem_of_getElem? hv)
theorem k_clone {idx w cap : Nat} {ty : FieldType} {ad : String} {vs : List Value} (H : Cx C Z own code ml ret nm E.1)
    (w1 : (Cond.methodLink own idx ⟨ad, "clone", "()Ljava/lang/Object;"⟩).before a0 Z = true) (w2 : (Cond.sameMethod ad "java/lang/Object" "clone" "()Ljava/lang/Object;").before a0 Z = true) (w3 : (Cond.native ⟨"java/lang/Object", "clone", "()Ljava/lang/Object;"⟩).before a0 Z = true)
    (w4 : (Cond.instanceMethod ⟨"java/lang/Object", "clone", "()Ljava/lang/Object;"⟩).before a0 Z = true) (w5 : (Cond.selects ad ⟨ad, "clone", "()Ljava/lang/Object;"⟩ ⟨"java/lang/Object", "clone", "()Ljava/lang/Object;"⟩).before a0 Z = true) (w6 : (Cond.castable ad "java/lang/Cloneable").before a0 Z = true)
    (V : Vec Z h a ty vs) (hf : ∀ v ∈ vs, fits ty v = true) (X0 : Exa Z h a ad) (hd : decode code pc = .ok (.invokevirtual idx, 3)) (hsz : Ls.size = ml) (hF : 1 ≤ R.frames) (hw : (st.map fun v => v.category).sum = w) (hL : w + 14 ≤ R.locals) (hcap : vs.length ≤ cap) (hC : k + 1 ≤ R.cells) (hS : n + cap ≤ R.slots)
    (hr : ∀ h' b, b = h.size → E.1 ≤ b → Ext h h' → Exa Z h' b ad → Vec Z h' b ty vs → W l R C E h' (k + 1) (n + cap) (pc + 3) Ls (.ref b :: st)) : W l R C E h k n pc Ls (.ref a :: st) := fun T L X N eT => by
  obtain ⟨c, A, e, hl⟩ := V
  obtain ⟨T', h', X', e', Ex, A', XA, q⟩ := cloneA X H.1 H.2.2.2.2.1 H.2.2.2.1 w1 w2 w3 w4 w5 w6 eT A X0 (fits_of A e hf) (g := mkF C.2.2.2.1 pc Ls (.ref a :: st)) rfl (by show Ls.size = _; rw [H.2.2.1]; exact hsz) rfl (hb H.2.1 hd) hF (W := w) (cap := cap) (by show 2 * 0 + _ ≤ _; rw [hw]; omega) hL (by rw [e]; simpa using hcap) hC hS
  exact .step q (hr h' h.size rfl (by rw [← eT]; exact size_ge H X) Ex XA ⟨_, A', e, hl⟩ T' _ X' N e')
theorem k_castY {idx : Nat} {K ad : String} (H : Cx C Z own code ml ret nm E.1) (w : (Cond.classLink own idx K).before a0 Z = true) (wc : (Cond.castable ad K).before a0 Z = true) (X0 : Exa Z h a ad) (hd : decode code pc = .ok (.checkcast idx, 3)) (hr : W l R C E h k n (pc + 3) Ls (.ref a :: st)) : W l R C E h k n pc Ls (.ref a :: st) :=
  .viaT (fun T L X eT => castY X H.1 H.2.2.2.2.1 H.2.2.2.1 w eT (Ins.of_exa X0 wc) (g := mkF C.2.2.2.1 pc Ls (.ref a :: st)) rfl rfl (hb H.2.1 hd)) hr
end Typed
/-! calls -/
section Calls
variable {y : MethodName} {bytes : ByteArray} {maxL : Nat} {rt : Option FieldType} {rm : Room} {Q : Option Value → Heap → Prop} {S : List Value}
theorem Goes.trans {T T' : State} {g g' : JFrame} (q : Sp C (T.setTop g) (T'.setTop g')) (r : Goes C E (T'.setTop g')) : Goes C E (T.setTop g) := by
  obtain ⟨t, o, h1, h2⟩ := r; exact ⟨t, o, q.trans h1, h2⟩
theorem payOf {s : State} {p : Program} {e : Env} {below : List Frame} {args : Array Value} {w n0 : Nat} {as' : Array Value} (hc : Ctr l Z y bytes maxL rt rm n0 as' h Q) (hZ : Z.Warmed39 s.vm) (w4 : (Cond.code y bytes maxL rt).before a0 Z = true) (w3 : (Cond.initialized y.cls).before a0 Z = true) (hF : rm.frames + 1 ≤ R.frames) (hL : w + (maxL + 11) + rm.locals ≤ R.locals) :
    Back l R p e below s args y 3 w (fun A a => a = as' ∧ A.U.heap = h ∧ A.cells + rm.cells ≤ R.cells ∧ A.slots + rm.slots ≤ R.slots)
      (fun A _ v B => ∃ L, (Q v B.U.heap ∧ Fr n0 L) ∧ B.locs = A.locs ++ L ∧ B.cells = A.cells + rm.cells ∧ B.slots = A.slots + rm.slots) :=
  backOf (Q := fun v h L => Q v h ∧ Fr n0 L) hc hZ w4 w3 hF hL
theorem k_invS {idx : Nat} (argsL : List Value) (w : Nat) (H : Cx C Z own code ml ret nm E.1) (w1 : (Cond.methodLink own idx y).before a0 Z = true) (w2 : (Cond.static y).before a0 Z = true) (w3 : (Cond.initialized y.cls).before a0 Z = true) (w4 : (Cond.code y bytes maxL rt).before a0 Z = true)
    (hy : y.cls ≠ "java/lang/invoke/MethodHandle" ∧ y.cls ≠ "java/lang/invoke/VarHandle") (hc : E.1 ≤ h.size → Ctr l Z y bytes maxL rt rm E.1 argsL.toArray h Q) (hlen : ∀ sig, parseMethodDescriptor y.desc = some sig → argsL.length = sig.parameters.length)
    (hd : decode code pc = .ok (.invokestatic idx, 3)) (hS : S = argsL.reverse ++ st) (hsz : Ls.size = ml) (hw : (st.map fun v => v.category).sum = w) (hF : rm.frames + 1 ≤ R.frames) (hL : w + (maxL + 11) + rm.locals ≤ R.locals) (hk : k + rm.cells ≤ R.cells) (hn : n + rm.slots ≤ R.slots)
    (hr : ∀ v h', Q v h' → W l R C E h' (k + rm.cells) (n + rm.slots) (pc + 3) Ls (v.toList ++ st)) : W l R C E h k n pc Ls S := fun T L X N eT => by
  obtain ⟨v, _, ⟨T', L', k', n'⟩, -, X', ⟨Lc, ⟨hQ, hN⟩, l', y', z'⟩, q⟩ := Jvm.LawKit.callS X H.1 (y := y) H.2.2.2.1 (mvT H.2.2.2.2.1 w1) (mvT H.2.2.2.2.1 w2) (mvT H.2.2.2.2.1 w3) (mvT H.2.2.2.2.1 w4) hy (payOf (w := w) (hc (by rw [← eT]; exact size_ge H X)) H.2.2.2.2.1 w4 w3 hF hL)
    (g := mkF C.2.2.2.1 pc Ls S) rfl (by show Ls.size = _; rw [H.2.2.1]; exact hsz) (argsL := argsL) (rest := st) hlen hS (by show 2 * 0 + _ ≤ _; rw [hw]; omega) (hb H.2.1 hd) (fun _ _ => ⟨rfl, eT, hk, hn⟩)
  dsimp only [Pt.U, Pt.locs, Pt.cells, Pt.slots] at X' l' y' z' q hQ
  subst l' y' z'
  exact .step q (hr v _ hQ T' _ X' (N.app hN) rfl)
theorem k_invI {idx : Nat} {a : Addr} (argsL : List Value) (w : Nat) (H : Cx C Z own code ml ret nm E.1) (hy1 : y.name = "<init>") (w1 : (Cond.methodLink own idx y).before a0 Z = true) (w2 : (Cond.instanceMethod y).before a0 Z = true) (w3 : (Cond.initialized y.cls).before a0 Z = true) (w4 : (Cond.code y bytes maxL none).before a0 Z = true)
    (hy : y.cls ≠ "java/lang/invoke/MethodHandle" ∧ y.cls ≠ "java/lang/invoke/VarHandle") (hc : E.1 ≤ h.size → Ctr l Z y bytes maxL none rm E.1 (.ref a :: argsL).toArray h Q) (hlen : ∀ sig, parseMethodDescriptor y.desc = some sig → argsL.length = sig.parameters.length)
    (hd : decode code pc = .ok (.invokespecial idx, 3)) (hS : S = argsL.reverse ++ .ref a :: st) (hsz : Ls.size = ml) (hw : (st.map fun v => v.category).sum = w) (hF : rm.frames + 1 ≤ R.frames) (hL : w + (maxL + 11) + rm.locals ≤ R.locals) (hk : k + rm.cells ≤ R.cells) (hn : n + rm.slots ≤ R.slots)
    (hr : ∀ v h', Q v h' → W l R C E h' (k + rm.cells) (n + rm.slots) (pc + 3) Ls (v.toList ++ st)) : W l R C E h k n pc Ls S := fun T L X N eT => by
  obtain ⟨v, _, ⟨T', L', k', n'⟩, -, X', ⟨Lc, ⟨hQ, hN⟩, l', y', z'⟩, q⟩ := X.specialBack H.1 (y := y) hy1 H.2.2.2.1 (mvT H.2.2.2.2.1 w1) (mvT H.2.2.2.2.1 w2) (mvT H.2.2.2.2.1 w4) hy (payOf (w := w) (hc (by rw [← eT]; exact size_ge H X)) H.2.2.2.2.1 w4 w3 hF hL)
    (g := mkF C.2.2.2.1 pc Ls S) rfl (by show Ls.size = _; rw [H.2.2.1]; exact hsz) (Steps.refl _) (a := a) (argsL := argsL) (rest := st) hlen hS (by show 2 * 0 + _ ≤ _; rw [hw]; omega) (hb H.2.1 hd) (fun _ _ => ⟨rfl, eT, hk, hn⟩)
  dsimp only [Pt.U, Pt.locs, Pt.cells, Pt.slots] at X' l' y' z' q hQ
  subst l' y' z'
  exact .trans q (hr v _ hQ T' _ X' (N.app hN) rfl)
theorem k_invV {idx : Nat} {a : Addr} {cls : String} (argsL : List Value) (w : Nat) (H : Cx C Z own code ml ret nm E.1) (w1 : (Cond.methodLink own idx y).before a0 Z = true) (w2 : (Cond.declares y).before a0 Z = true) (w5 : (Cond.selects cls y y).before a0 Z = true) (w6 : (Cond.instanceMethod y).before a0 Z = true) (w3 : (Cond.initialized y.cls).before a0 Z = true) (w4 : (Cond.code y bytes maxL rt).before a0 Z = true)
    (hcl : y.cls = cls) (hy : y.cls ≠ "java/lang/invoke/MethodHandle" ∧ y.cls ≠ "java/lang/invoke/VarHandle") (X0 : Exa Z h a cls) (hc : E.1 ≤ h.size → Ctr l Z y bytes maxL rt rm E.1 (.ref a :: argsL).toArray h Q) (hlen : ∀ sig, parseMethodDescriptor y.desc = some sig → argsL.length = sig.parameters.length)
    (hd : decode code pc = .ok (.invokevirtual idx, 3)) (hS : S = argsL.reverse ++ .ref a :: st) (hsz : Ls.size = ml) (hw : (st.map fun v => v.category).sum = w) (hF : rm.frames + 1 ≤ R.frames) (hL : w + (maxL + 11) + rm.locals ≤ R.locals) (hk : k + rm.cells ≤ R.cells) (hn : n + rm.slots ≤ R.slots)
    (hr : ∀ v h', Q v h' → W l R C E h' (k + rm.cells) (n + rm.slots) (pc + 3) Ls (v.toList ++ st)) : W l R C E h k n pc Ls S := fun T L X N eT => by
  subst hcl
  obtain ⟨cq, kq, qa, qb, qc⟩ := isOf H.2.2.2.2.1 eT X0
  obtain ⟨v, _, ⟨T', L', k', n'⟩, -, X', ⟨Lc, ⟨hQ, hN⟩, l', y', z'⟩, q⟩ := X.virtualBack H.1 (y := y) (z := y) H.2.2.2.1 (mvT H.2.2.2.2.1 w1) (mvT H.2.2.2.2.1 w2) (notFace_of_selects (args := #[]) (mvT H.2.2.2.2.1 w5)) (mvT H.2.2.2.2.1 w5) (mvT H.2.2.2.2.1 w6) hy (payOf (w := w) (hc (by rw [← eT]; exact size_ge H X)) H.2.2.2.2.1 w4 w3 hF hL) qa qc
    (g := mkF C.2.2.2.1 pc Ls S) rfl (by show Ls.size = _; rw [H.2.2.1]; exact hsz) (Steps.refl _) (argsL := argsL) (rest := st) hlen hS (by show 2 * 0 + _ ≤ _; rw [hw]; omega) (hb H.2.1 hd) (fun _ _ => ⟨rfl, eT, hk, hn⟩)
  dsimp only [Pt.U, Pt.locs, Pt.cells, Pt.slots] at X' l' y' z' q hQ
  subst l' y' z'
  exact .trans q (hr v _ hQ T' _ X' (N.app hN) rfl)
theorem Ctr.of {n0 : Nat} {as' : Array Value} (Ls : Array Slot) (hp : plainName y.cls = true) (hn0 : n0 ≤ h.size) (hef : ∀ m, entryFrame m as' maxL = mkF m 0 Ls []) (hW : ∀ C : Cxt, Cx C Z y.cls bytes maxL rt y.name n0 → W l rm C (n0, rm.cells, rm.slots, Q) h 0 0 0 Ls []) : Ctr l Z y bytes maxL rt rm n0 as' h Q := by
  refine MetFree.of_bodySF (plainFor_of_name hp) hisR ?_
  intro p e s m args below meth c s₁ Bd hml0 hP hK
  obtain ⟨rfl, hZ, hh⟩ := hP
  have hnm := (name_of_methodNamed Bd.named Bd.method).1
  have X0 : Stand p l e rm s m args below meth c s₁ [] 0 0 := Stand.of_body Bd
  have e0 : s₁.heap = h := by rw [← hh, Bd.state]; rfl
  obtain ⟨t, o, h1, h2, h3, v, L, h4, h5, h6⟩ := hW (p, e, s, m, args, below, meth, c) ⟨Bd.exec, Bd.bytes, hml0, findClass_of_methodNamed Bd.named, hZ, Bd.returns, Bd.notSynchronized, hnm, by rw [hh]; exact hn0⟩ s₁ [] X0 (Fr.nil n0) e0
  exact ⟨t, o, castTop (hef m) h1, h2, h3, v, L, h4, h5, h6⟩
/-- the judged body itself -/
theorem met_of {n0 K N : Nat} {ws : List Jvm.Cond} {as' : Array Value} (Ls : Array Slot) (hp : plainName y.cls = true) (hn0 : n0 ≤ h.size) (hef : ∀ m, entryFrame m as' maxL = mkF m 0 Ls []) (hW : ∀ C : Cxt, Cx C Z y.cls bytes maxL rt y.name n0 → W l rm C (n0, K, N, Q) h 0 0 0 Ls []) :
    MetFree l y (head1 (Cond.code y bytes maxL rt :: ws) rm) (fun a U => a = as' ∧ Z.Warmed39 U.vm ∧ U.heap = h) (fun _ _ _ _ _ => True) (fun _ U o U' => ∃ v L, o = .returned v ∧ (Q v U'.heap ∧ Fr n0 L) ∧ FrameEnd U o U' L K N) := by
  refine MetFree.of_bodySF (plainFor_of_name hp) hisR ?_
  intro p e s m args below meth c s₁ Bd hml0 hP hK
  obtain ⟨rfl, hZ, hh⟩ := hP
  have hnm := (name_of_methodNamed Bd.named Bd.method).1
  have X0 : Stand p l e rm s m args below meth c s₁ [] 0 0 := Stand.of_body Bd
  have e0 : s₁.heap = h := by rw [← hh, Bd.state]; rfl
  obtain ⟨t, o, h1, h2, h3, v, L, h4, h5, h6⟩ := hW (p, e, s, m, args, below, meth, c) ⟨Bd.exec, Bd.bytes, hml0, findClass_of_methodNamed Bd.named, hZ, Bd.returns, Bd.notSynchronized, hnm, by rw [hh]; exact hn0⟩ s₁ [] X0 (Fr.nil n0) e0
  exact ⟨t, o, castTop (hef m) h1, h2, h3, v, L, h4, h5, h6⟩
end Calls
/-! ends -/
theorem k_retInt {x : Int32} (H : Cx C Z own code ml (some .int) nm E.1) (hd : decode code pc = .ok (.ireturn, 1)) (hk : k ≤ E.2.1) (hn : n ≤ E.2.2.1) (hq : E.2.2.2 (some (.int x)) h) : W l R C E h k n pc Ls (.int x :: st) := fun T L X N eT => by
  obtain ⟨fs, hr, hrun, hend, hW, hs⟩ := X.leave (v := some (.int x)) (fun z => by rw [H.2.2.2.2.2.1] at z; cases z) H.2.2.2.2.2.2.1
  exact ⟨_, _, retOut X H.1 H.2.2.2.2.2.1 rfl (Or.inl ⟨rfl, Or.inl rfl, _, rfl⟩) (hb H.2.1 hd) hr, hrun, hend, _, L, rfl, ⟨by subst eT; exact hq, N⟩, ⟨_, rfl⟩, hW, hs.mono hk hn⟩
theorem k_retN' {x : Int32} {t : FieldType} (ht : t = .boolean ∨ t = .byte ∨ t = .char ∨ t = .short) (H : Cx C Z own code ml (some t) nm E.1) (hd : decode code pc = .ok (.ireturn, 1)) (hk : k ≤ E.2.1) (hn : n ≤ E.2.2.1) (hq : E.2.2.2 (some (.int (nar t x))) h) : W l R C E h k n pc Ls (.int x :: st) := fun T L X N eT => by
  obtain ⟨fs, hr, hrun, hend, hW, hs⟩ := X.leave (v := some (.int (nar t x))) (fun z => by rw [H.2.2.2.2.2.1] at z; cases z) H.2.2.2.2.2.2.1
  exact ⟨_, _, retN X H.1 H.2.2.2.2.2.1 ht (hb H.2.1 hd) hr, hrun, hend, _, L, rfl, ⟨by subst eT; exact hq, N⟩, ⟨_, rfl⟩, hW, hs.mono hk hn⟩
theorem k_retLong {x : Int64} (H : Cx C Z own code ml (some .long) nm E.1) (hd : decode code pc = .ok (.lreturn, 1)) (hk : k ≤ E.2.1) (hn : n ≤ E.2.2.1) (hq : E.2.2.2 (some (.long x)) h) : W l R C E h k n pc Ls (.long x :: st) := fun T L X N eT => by
  obtain ⟨fs, hr, hrun, hend, hW, hs⟩ := X.leave (v := some (.long x)) (fun z => by rw [H.2.2.2.2.2.1] at z; cases z) H.2.2.2.2.2.2.1
  exact ⟨_, _, retOut X H.1 H.2.2.2.2.2.1 rfl (Or.inr (Or.inl ⟨rfl, rfl, _, rfl⟩)) (hb H.2.1 hd) hr, hrun, hend, _, L, rfl, ⟨by subst eT; exact hq, N⟩, ⟨_, rfl⟩, hW, hs.mono hk hn⟩
theorem k_retRef {a : Addr} {t : FieldType} (ht : t.isReference = true) (hnar : narrow t (.ref a) = .ref a) (H : Cx C Z own code ml (some t) nm E.1) (hd : decode code pc = .ok (.areturn, 1)) (hk : k ≤ E.2.1) (hn : n ≤ E.2.2.1) (hq : E.2.2.2 (some (.ref a)) h) : W l R C E h k n pc Ls (.ref a :: st) := fun T L X N eT => by
  obtain ⟨fs, hr, hrun, hend, hW, hs⟩ := X.leave (v := some (.ref a)) (fun z => by rw [H.2.2.2.2.2.1] at z; cases z) H.2.2.2.2.2.2.1
  exact ⟨_, _, retOut X H.1 H.2.2.2.2.2.1 hnar (Or.inr (Or.inr (Or.inr (Or.inr ⟨rfl, ht, rfl⟩)))) (hb H.2.1 hd) hr, hrun, hend, _, L, rfl, ⟨by subst eT; exact hq, N⟩, ⟨_, rfl⟩, hW, hs.mono hk hn⟩
theorem k_retVoid (H : Cx C Z own code ml none nm E.1) (hd : decode code pc = .ok (.return_, 1)) (hk : k ≤ E.2.1) (hn : n ≤ E.2.2.1) (hq : E.2.2.2 none h) : W l R C E h k n pc Ls [] := fun T L X N eT => by
  obtain ⟨fs, hr, hrun, hend, hW, hs⟩ := X.leave (v := none) (fun _ => rfl) H.2.2.2.2.2.2.1
  exact ⟨_, _, X.returnOut H.1 H.2.2.2.2.2.1 (hb H.2.1 hd) hr, hrun, hend, _, L, rfl, ⟨by subst eT; exact hq, N⟩, ⟨_, rfl⟩, hW, hs.mono hk hn⟩
end Own
end Jvm.OwnKit
namespace Jvm.OwnKit
/-! small naturals as ints -/
theorem lt_nat {x y : Int32} {i j : Nat} (hx : x.toInt = (i : Int)) (hy : y.toInt = (j : Int)) : x < y ↔ i < j := by rw [Int32.lt_iff_toInt_lt, hx, hy]; omega
theorem eq_nat {x y : Int32} {i j : Nat} (hx : x.toInt = (i : Int)) (hy : y.toInt = (j : Int)) : x = y ↔ i = j := by rw [← Int32.toInt_inj, hx, hy]; omega
theorem add_nat {x y : Int32} {i j : Nat} (hx : x.toInt = (i : Int)) (hy : y.toInt = (j : Int)) (hb : i + j < 2147483648) : (x + y).toInt = ((i + j : Nat) : Int) := by rw [Jvm.Kit.i32_add] <;> rw [hx, hy] <;> omega
theorem sub_nat {x y : Int32} {i j : Nat} (hx : x.toInt = (i : Int)) (hy : y.toInt = (j : Int)) (hb : j ≤ i) : (x - y).toInt = ((i - j : Nat) : Int) := by have := x.toInt_lt; rw [Jvm.Kit.i32_sub] <;> rw [hx, hy] <;> omega
theorem mul_nat {x y : Int32} {i j : Nat} (hx : x.toInt = (i : Int)) (hy : y.toInt = (j : Int)) (hb : i * j < 2147483648) : (x * y).toInt = ((i * j : Nat) : Int) := by
  have e : (i : Int) * (j : Int) = ((i * j : Nat) : Int) := by simp
  rw [Jvm.Kit.i32_mul] <;> rw [hx, hy, e] <;> omega
theorem rem_nat {x y : Int32} {i j : Nat} (hx : x.toInt = (i : Int)) (hy : y.toInt = (j : Int)) : (x % y).toInt = ((i % j : Nat) : Int) := by rw [Jvm.Kit.i32_rem_nonneg (by omega), hx, hy]; simp
theorem nat_of_nonneg {x : Int32} (h : 0 ≤ x.toInt) : ∃ i : Nat, x.toInt = (i : Int) ∧ i < 2147483648 := ⟨x.toInt.toNat, by omega, by have := x.toInt_lt; omega⟩
/-- a mask of k ones: a natural below 2 ^ k -/
theorem mask_nat (x m : Int32) (k : Nat) (hk : k < 32) (hm : m.toBitVec.toNat = 2 ^ k - 1) : ∃ i : Nat, (x &&& m).toInt = (i : Int) ∧ i < 2 ^ k := by
  have e := Jvm.Kit.i32_mask x m hk hm
  have p : (0 : Int) < 2 ^ k := Int.pow_pos (by omega)
  have h1 := Int.emod_nonneg x.toInt (Int.ne_of_gt p)
  have h2 := Int.emod_lt_of_pos x.toInt p
  refine ⟨(x.toInt % 2 ^ k).toNat, by rw [e]; omega, ?_⟩
  have h3 : ((2 ^ k : Nat) : Int) = 2 ^ k := by simp
  omega
theorem mod_nat (x m y : Int32) (k j : Nat) (hk : k < 32) (hm : m.toBitVec.toNat = 2 ^ k - 1) (hy : y.toInt = (j : Int)) (hj : 0 < j) : ∃ i : Nat, ((x &&& m) % y).toInt = (i : Int) ∧ i < j := by
  obtain ⟨i, h1, h2⟩ := mask_nat x m k hk hm
  exact ⟨i % j, rem_nat h1 hy, Nat.mod_lt _ hj⟩
theorem div_nat {x y : Int32} {i j : Nat} (hx : x.toInt = (i : Int)) (hy : y.toInt = (j : Int)) : (x / y).toInt = ((i / j : Nat) : Int) := by
  rw [Jvm.Kit.i32_div (by omega), hx, hy]; rfl
theorem ushr_nat {x y : Int32} {i : Nat} (k : Nat) (hx : x.toInt = (i : Int)) (hy : (y &&& 31).toUInt32.toNat = k) (hk : k < 32) : (Jvm.Free.XT.ushr x y).toInt = ((i / 2 ^ k : Nat) : Int) := by
  unfold Jvm.Free.XT.ushr
  rw [Jvm.Kit.i32_iushr (by rw [Int32.le_iff_toInt_le, hx]; exact Int.natCast_nonneg _) hy hk, hx]; simp
theorem c16 (c : UInt16) : c.toUInt32.toInt32.toUInt32.toUInt16 = c := by simp
theorem b8 (b : Int8) : b.toInt32.toInt8 = b := by simp
/-- a local's slot of one word -/
def OneW (s : Slot) : Prop := s = .unset ∨ ∃ w, s = .val w ∧ w.category = 1
theorem OneW.unset : OneW .unset := Or.inl rfl
theorem OneW.int (x : Int32) : OneW (.val (.int x)) := Or.inr ⟨_, rfl, rfl⟩
theorem OneW.ref (x : Addr) : OneW (.val (.ref x)) := Or.inr ⟨_, rfl, rfl⟩
end Jvm.OwnKit
namespace Jvm.Pilot.@@N@@
open Jvm Jvm.ClassFile Sem Op Lib Jvm.Free Jvm.Stand Jvm.LawKit Jvm.RoadKit Jvm.OwnKit Bundle Jvm.Pilot.@@N@@.Jvm.D
theorem pn_0 : plainName "java/util/Arrays" = true := by first | (simp [plainName, overriddenIn]; done) | decide +kernel
theorem pd_0 : parseMethodDescriptor "(III)V" = some ⟨[.int, .int, .int], none⟩ := by decide +kernel
theorem pn_1 : plainName "com/example/terms_to_entities/termstoentities/index/TermCounts" = true := by first | (simp [plainName, overriddenIn]; done) | decide +kernel
theorem pd_1 : parseMethodDescriptor "([IIII)V" = some ⟨[(.array .int), .int, .int, .int], none⟩ := by decide +kernel
theorem pd_2 : parseMethodDescriptor "(II)I" = some ⟨[.int, .int], some .int⟩ := by decide +kernel
theorem pn_2 : plainName "com/example/terms_to_entities/termstoentities/index/TermCountsCountPinLaw" = true := by first | (simp [plainName, overriddenIn]; done) | decide +kernel
theorem pd_3 : parseMethodDescriptor "(I)V" = some ⟨[.int], none⟩ := by decide +kernel
theorem pd_4 : parseMethodDescriptor "(I)I" = some ⟨[.int], some .int⟩ := by decide +kernel
def own_TC (Z : State) (h : Heap) (c w pl pr le fr : Addr) (tm : Int32) (xw xpl xpr : List Int32) (xle : List Int64) (xfr : List Int32) (wl : Int64) (pk : Int32) : Prop :=
  Exa Z h c "com/example/terms_to_entities/termstoentities/index/TermCounts" ∧ Fld Z h c "com/example/terms_to_entities/termstoentities/index/TermCounts" "terms" "I" (.int tm) ∧ Fld Z h c "com/example/terms_to_entities/termstoentities/index/TermCounts" "wholeFrequencies" "[I" (.ref w) ∧ Fld Z h c "com/example/terms_to_entities/termstoentities/index/TermCounts" "placeOfPredicate" "[I" (.ref pl) ∧ Fld Z h c "com/example/terms_to_entities/termstoentities/index/TermCounts" "predicates" "[I" (.ref pr) ∧ Fld Z h c "com/example/terms_to_entities/termstoentities/index/TermCounts" "predicateLengths" "[J" (.ref le) ∧ Fld Z h c "com/example/terms_to_entities/termstoentities/index/TermCounts" "predicateFrequencies" "[I" (.ref fr) ∧ Fld Z h c "com/example/terms_to_entities/termstoentities/index/TermCounts" "predicateCount" "I" (.int pk) ∧ IA Z h w xw ∧ IA Z h pl xpl ∧ IA Z h pr xpr ∧ JA Z h le xle ∧ IA Z h fr xfr
def own_Ap (n0 : Nat) (c w pl pr le fr : Addr) : Prop := n0 ≤ c ∧ n0 ≤ w ∧ n0 ≤ pl ∧ n0 ≤ pr ∧ n0 ≤ le ∧ n0 ≤ fr ∧ c ≠ w ∧ c ≠ pl ∧ c ≠ pr ∧ c ≠ le ∧ c ≠ fr ∧ w ≠ pl ∧ w ≠ pr ∧ w ≠ le ∧ w ≠ fr ∧ pl ≠ pr ∧ pl ≠ le ∧ pl ≠ fr ∧ pr ≠ le ∧ pr ≠ fr ∧ le ≠ fr
def own_fr (v : Int32) : List Int32 → Nat → Nat → List Int32
  | xs, _, 0 => xs
  | xs, i, k + 1 => own_fr v (xs.set i v) (i + 1) k
theorem own_fr_len (v : Int32) (k : Nat) : ∀ xs i, (own_fr v xs i k).length = xs.length := by
  induction k with
  | zero => intro xs i; rfl
  | succ k ih => intro xs i; rw [own_fr, ih, List.length_set]
def own_rs (xs : List Int64) : Nat → Nat → Int64 → Int64
  | _, 0, s => s
  | i, k + 1, s => own_rs xs (i + 1) k (s - xs.getD i 0)
def own_rf (f : Nat → Int32) : Nat → Nat → Int32 → Int32
  | _, 0, s => s
  | i, k + 1, s => own_rf f (i + 1) k (s - f i)
theorem own_get {α : Type} {xs : List α} {i : Nat} (d : α) (h : i < xs.length) : xs[i]? = some (xs.getD i d) := by simp [List.getD_eq_getElem?_getD, h]
theorem own_TC_le {Z : State} {h : Heap} {c w pl pr le fr : Addr} {tm : Int32} {xw xpl xpr : List Int32} {xle : List Int64} {xfr : List Int32} {wl : Int64} {pk : Int32} {ys : List Int64} (T : own_TC Z h c w pl pr le fr tm xw xpl xpr xle xfr wl pk) (e : xle = ys) : own_TC Z h c w pl pr le fr tm xw xpl xpr ys xfr wl pk := e ▸ T
theorem own_TC_fr {Z : State} {h : Heap} {c w pl pr le fr : Addr} {tm : Int32} {xw xpl xpr : List Int32} {xle : List Int64} {xfr : List Int32} {wl : Int64} {pk : Int32} {ys : List Int32} (T : own_TC Z h c w pl pr le fr tm xw xpl xpr xle xfr wl pk) (e : xfr = ys) : own_TC Z h c w pl pr le fr tm xw xpl xpr xle ys wl pk := e ▸ T
theorem own_set_get {xs : List Int32} {i : Nat} {x : Int32} (h : i < xs.length) : (xs.set i x)[i]? = some x := by simp [h]
theorem own_set_ne {xs : List Int32} {i j : Nat} {x y : Int32} (h : i < xs.length) (ne : j ≠ i) : ((xs.set i x).set j y)[i]? = some x := by rw [List.getElem?_set_ne ne]; simp [h]
theorem own_neg (a b : Int32) : ((0 : Int32) - a) - b = -(a + b) := by
  rw [Int32.neg_add, Int32.zero_sub]
theorem d5_0 : decode jdk_65_method_30_code 0 = .ok (.iload_n 1, 1) := by decide +kernel
theorem d5_1 : decode jdk_65_method_30_code 1 = .ok (.iload_n 2, 1) := by decide +kernel
theorem d5_2 : decode jdk_65_method_30_code 2 = .ok (.if_icmp .le 44, 3) := by decide +kernel
theorem d5_5 : decode jdk_65_method_30_code 5 = .ok (.new 43, 3) := by decide +kernel
theorem d5_8 : decode jdk_65_method_30_code 8 = .ok (.dup, 1) := by decide +kernel
theorem d5_9 : decode jdk_65_method_30_code 9 = .ok (.new 45, 3) := by decide +kernel
theorem d5_12 : decode jdk_65_method_30_code 12 = .ok (.dup, 1) := by decide +kernel
theorem d5_13 : decode jdk_65_method_30_code 13 = .ok (.invokespecial 47, 3) := by decide +kernel
theorem d5_16 : decode jdk_65_method_30_code 16 = .ok (.ldc 48, 2) := by decide +kernel
theorem d5_18 : decode jdk_65_method_30_code 18 = .ok (.invokevirtual 50, 3) := by decide +kernel
theorem d5_21 : decode jdk_65_method_30_code 21 = .ok (.iload_n 1, 1) := by decide +kernel
theorem d5_22 : decode jdk_65_method_30_code 22 = .ok (.invokevirtual 54, 3) := by decide +kernel
theorem d5_25 : decode jdk_65_method_30_code 25 = .ok (.ldc 57, 2) := by decide +kernel
theorem d5_27 : decode jdk_65_method_30_code 27 = .ok (.invokevirtual 50, 3) := by decide +kernel
theorem d5_30 : decode jdk_65_method_30_code 30 = .ok (.iload_n 2, 1) := by decide +kernel
theorem d5_31 : decode jdk_65_method_30_code 31 = .ok (.invokevirtual 54, 3) := by decide +kernel
theorem d5_34 : decode jdk_65_method_30_code 34 = .ok (.ldc 59, 2) := by decide +kernel
theorem d5_36 : decode jdk_65_method_30_code 36 = .ok (.invokevirtual 50, 3) := by decide +kernel
theorem d5_39 : decode jdk_65_method_30_code 39 = .ok (.invokevirtual 61, 3) := by decide +kernel
theorem d5_42 : decode jdk_65_method_30_code 42 = .ok (.invokespecial 65, 3) := by decide +kernel
theorem d5_45 : decode jdk_65_method_30_code 45 = .ok (.athrow, 1) := by decide +kernel
theorem d5_46 : decode jdk_65_method_30_code 46 = .ok (.iload_n 1, 1) := by decide +kernel
theorem d5_47 : decode jdk_65_method_30_code 47 = .ok (.ifCond .ge 12, 3) := by decide +kernel
theorem d5_50 : decode jdk_65_method_30_code 50 = .ok (.new 68, 3) := by decide +kernel
theorem d5_53 : decode jdk_65_method_30_code 53 = .ok (.dup, 1) := by decide +kernel
theorem d5_54 : decode jdk_65_method_30_code 54 = .ok (.iload_n 1, 1) := by decide +kernel
theorem d5_55 : decode jdk_65_method_30_code 55 = .ok (.invokespecial 70, 3) := by decide +kernel
theorem d5_58 : decode jdk_65_method_30_code 58 = .ok (.athrow, 1) := by decide +kernel
theorem d5_59 : decode jdk_65_method_30_code 59 = .ok (.iload_n 2, 1) := by decide +kernel
theorem d5_60 : decode jdk_65_method_30_code 60 = .ok (.iload_n 0, 1) := by decide +kernel
theorem d5_61 : decode jdk_65_method_30_code 61 = .ok (.if_icmp .le 12, 3) := by decide +kernel
theorem d5_64 : decode jdk_65_method_30_code 64 = .ok (.new 68, 3) := by decide +kernel
theorem d5_67 : decode jdk_65_method_30_code 67 = .ok (.dup, 1) := by decide +kernel
theorem d5_68 : decode jdk_65_method_30_code 68 = .ok (.iload_n 2, 1) := by decide +kernel
theorem d5_69 : decode jdk_65_method_30_code 69 = .ok (.invokespecial 70, 3) := by decide +kernel
theorem d5_72 : decode jdk_65_method_30_code 72 = .ok (.athrow, 1) := by decide +kernel
theorem d5_73 : decode jdk_65_method_30_code 73 = .ok (.return_, 1) := by decide +kernel
abbrev own_rm5_room : Room := { frames := 0, cells := 0, slots := 0, locals := 0 }
set_option maxRecDepth 65536 in
set_option maxHeartbeats 40000000 in
theorem rm5 (l : Launch) (Z : State) (a0 : Array Value) (hw : ∀ d ∈ tables_1, d.before a0 Z = true) (n0 : Nat) (h0 : Heap) (Z0 : n0 ≤ h0.size) (a b c : Int32) (h1 : ¬ c < b) (h2 : ¬ b < 0) (h3 : ¬ a < c) :
    Ctr l Z (⟨"java/util/Arrays", "rangeCheck", "(III)V"⟩ : MethodName) jdk_65_method_30_code 3 none own_rm5_room n0 #[(.int a), (.int b), (.int c)] h0 (fun v h => v = none ∧ h = h0) := by
  refine Ctr.of #[.val (.int a), .val (.int b), .val (.int c)] pn_0 Z0 (fun m => by first | (simp [entryFrame, mkF, argsToLocals, Value.category]; done) | rfl) ?_
  intro C H
  refine k_iloadN (pc := 0) H d5_0 rfl ?_
  refine k_iloadN (pc := 1) H d5_1 rfl ?_
  refine k_icmpT 46 (pc := 2) H d5_2 rfl (XT.ii_le_t (h1)) ?_
  refine k_iloadN (pc := 46) H d5_46 rfl ?_
  refine k_ifT 59 (pc := 47) H d5_47 rfl (XT.i0_ge_t (h2)) ?_
  refine k_iloadN (pc := 59) H d5_59 rfl ?_
  refine k_iloadN (pc := 60) H d5_60 rfl ?_
  refine k_icmpT 73 (pc := 61) H d5_61 rfl (XT.ii_le_t (h3)) ?_
  exact k_retVoid (pc := 73) H d5_73 (by show 0 ≤ own_rm5_room.cells; decide) (by show 0 ≤ own_rm5_room.slots; decide) (⟨rfl, rfl⟩)
theorem d4_0 : decode jdk_65_method_104_code 0 = .ok (.aload_n 0, 1) := by decide +kernel
theorem d4_1 : decode jdk_65_method_104_code 1 = .ok (.arraylength, 1) := by decide +kernel
theorem d4_2 : decode jdk_65_method_104_code 2 = .ok (.iload_n 1, 1) := by decide +kernel
theorem d4_3 : decode jdk_65_method_104_code 3 = .ok (.iload_n 2, 1) := by decide +kernel
theorem d4_4 : decode jdk_65_method_104_code 4 = .ok (.invokestatic 13, 3) := by decide +kernel
theorem d4_7 : decode jdk_65_method_104_code 7 = .ok (.iload_n 1, 1) := by decide +kernel
theorem d4_8 : decode jdk_65_method_104_code 8 = .ok (.istore 4, 2) := by decide +kernel
theorem d4_10 : decode jdk_65_method_104_code 10 = .ok (.iload 4, 2) := by decide +kernel
theorem d4_12 : decode jdk_65_method_104_code 12 = .ok (.iload_n 2, 1) := by decide +kernel
theorem d4_13 : decode jdk_65_method_104_code 13 = .ok (.if_icmp .ge 14, 3) := by decide +kernel
theorem d4_16 : decode jdk_65_method_104_code 16 = .ok (.aload_n 0, 1) := by decide +kernel
theorem d4_17 : decode jdk_65_method_104_code 17 = .ok (.iload 4, 2) := by decide +kernel
theorem d4_19 : decode jdk_65_method_104_code 19 = .ok (.iload_n 3, 1) := by decide +kernel
theorem d4_20 : decode jdk_65_method_104_code 20 = .ok (.iastore, 1) := by decide +kernel
theorem d4_21 : decode jdk_65_method_104_code 21 = .ok (.iinc 4 1, 3) := by decide +kernel
theorem d4_24 : decode jdk_65_method_104_code 24 = .ok (.goto (-14), 3) := by decide +kernel
theorem d4_27 : decode jdk_65_method_104_code 27 = .ok (.return_, 1) := by decide +kernel
abbrev own_rm4_room : Room := { frames := 1, cells := 0, slots := 0, locals := 14 }
set_option maxRecDepth 65536 in
set_option maxHeartbeats 40000000 in
theorem rm4 (l : Launch) (Z : State) (a0 : Array Value) (hw : ∀ d ∈ tables_1, d.before a0 Z = true) (n0 : Nat) (h0 : Heap) (Z0 : n0 ≤ h0.size) (a : Addr) (xs : List Int32) (bi ei x : Int32) (b e : Nat) (ge : n0 ≤ a) (V : IA Z h0 a xs) (hlen : xs.length < 1000) (hb : bi.toInt = (b : Int)) (he : ei.toInt = (e : Int)) (hbe : b ≤ e) (hel : e ≤ xs.length) :
    Ctr l Z (⟨"java/util/Arrays", "fill", "([IIII)V"⟩ : MethodName) jdk_65_method_104_code 5 none own_rm4_room n0 #[(.ref a), (.int bi), (.int ei), (.int x)] h0 (fun v h => v = none ∧ Keep h0 h [a] ∧ IA Z h a (own_fr x xs b (e - b))) := by
  refine Ctr.of #[.val (.ref a), .val (.int bi), .val (.int ei), .val (.int x), .unset] pn_0 Z0 (fun m => by first | (simp [entryFrame, mkF, argsToLocals, Value.category]; done) | rfl) ?_
  intro C H
  refine k_aloadN (pc := 0) H d4_0 rfl rfl ?_
  obtain ⟨N, hN⟩ : ∃ N : Int32, N.toInt = (xs.length : Int) := ⟨xs.length.toInt32, len_toInt (by omega)⟩
  refine k_arraylength (N := N) (pc := 1) H V (by simpa using hN) d4_1 ?_
  refine k_iloadN (pc := 2) H d4_2 rfl ?_
  refine k_iloadN (pc := 3) H d4_3 rfl ?_
  refine k_invS (y := (⟨"java/util/Arrays", "rangeCheck", "(III)V"⟩ : MethodName)) (st := []) [(.int N), (.int bi), (.int ei)] 0 (pc := 4) H (wd hw 34 rfl) (wd hw 35 rfl) (wd hw 32 rfl) (wd hw 36 rfl) (by decide) (fun z0 => rm5 l Z a0 hw n0 h0 z0 N bi ei (fun q => by have := (lt_nat he hb).mp q; omega) (fun q => by rw [Int32.lt_iff_toInt_lt, hb] at q; have : (0 : Int32).toInt = 0 := rfl; omega) (fun q => by have := (lt_nat hN he).mp q; omega)) (lenOf pd_0 rfl) d4_4 rfl rfl rfl (by decide) (by decide) (by decide) (by decide) ?_
  rintro v hx ⟨rfl, ex⟩
  rw [ex]
  clear ex hx
  show W l own_rm4_room C _ h0 0 0 7 #[.val (.ref a), .val (.int bi), .val (.int ei), .val (.int x), .unset] []
  refine k_iloadN (pc := 7) H d4_7 rfl ?_
  refine k_istore (pc := 8) H d4_8 (Ls' := #[.val (.ref a), .val (.int bi), .val (.int ei), .val (.int x), .val (.int bi)]) rfl ?_
  have L : ∀ (m i : Nat) (ii : Int32) (hh : Heap) (ys : List Int32) (K : Keep h0 hh [a]) (VV : IA Z hh a ys) (hi : ii.toInt = (i : Int)) (hm : i + m = e) (hy : ys.length = xs.length) (hv : own_fr x xs b (e - b) = own_fr x ys i m), W l own_rm4_room C (n0, own_rm4_room.cells, own_rm4_room.slots, fun v h => v = none ∧ Keep h0 h [a] ∧ IA Z h a (own_fr x xs b (e - b))) hh 0 0 10 #[.val (.ref a), .val (.int bi), .val (.int ei), .val (.int x), .val (.int ii)] [] := by
    intro m
    induction m with
    | zero =>
      intro i ii hh ys K VV hi hm hy hv
      refine k_iload (pc := 10) H d4_10 rfl ?_
      refine k_iloadN (pc := 12) H d4_12 rfl ?_
      refine k_icmpT 27 (pc := 13) H d4_13 rfl (XT.ii_ge_t (fun q => by have := (lt_nat hi he).mp q; omega)) ?_
      exact k_retVoid (pc := 27) H d4_27 (by show 0 ≤ own_rm4_room.cells; decide) (by show 0 ≤ own_rm4_room.slots; decide) (⟨rfl, K, by rw [hv]; exact VV⟩)
    | succ m ih =>
      intro i ii hh ys K VV hi hm hy hv
      refine k_iload (pc := 10) H d4_10 rfl ?_
      refine k_iloadN (pc := 12) H d4_12 rfl ?_
      refine k_icmpF (pc := 13) H d4_13 (XT.ii_ge_f ((lt_nat hi he).mpr (by omega))) ?_
      refine k_aloadN (pc := 16) H d4_16 rfl rfl ?_
      refine k_iload (pc := 17) H d4_17 rfl ?_
      refine k_iloadN (pc := 19) H d4_19 rfl ?_
      refine k_iastoreT (i := i) (pc := 20) H VV (hi) (by omega) ge d4_20 ?_
      intro h1 K2 V3
      refine k_iinc (1 : Int32) (pc := 21) H d4_21 rfl rfl (Ls' := #[.val (.ref a), .val (.int bi), .val (.int ei), .val (.int x), .val (.int (ii + (1 : Int32)))]) rfl ?_
      refine k_goto 10 (pc := 24) H d4_24 rfl ?_
      exact ih (i + 1) _ _ _ (K.trans K2 (allS (Or.inl (List.mem_of_getElem? (i := 0) rfl)) all0)) V3 (add_nat hi rfl (by omega)) (by omega) (by rw [List.length_set]; exact hy) (by rw [hv]; rfl)
  exact L _ b _ _ xs (Keep.refl _ _) V hb (by omega) rfl rfl
theorem d1_0 : decode prog_14_method_1_code 0 = .ok (.aload_n 0, 1) := by decide +kernel
theorem d1_1 : decode prog_14_method_1_code 1 = .ok (.invokespecial 1, 3) := by decide +kernel
theorem d1_4 : decode prog_14_method_1_code 4 = .ok (.aload_n 0, 1) := by decide +kernel
theorem d1_5 : decode prog_14_method_1_code 5 = .ok (.iload_n 1, 1) := by decide +kernel
theorem d1_6 : decode prog_14_method_1_code 6 = .ok (.putfield 7, 3) := by decide +kernel
theorem d1_9 : decode prog_14_method_1_code 9 = .ok (.aload_n 0, 1) := by decide +kernel
theorem d1_10 : decode prog_14_method_1_code 10 = .ok (.iload_n 1, 1) := by decide +kernel
theorem d1_11 : decode prog_14_method_1_code 11 = .ok (.newarray .int, 2) := by decide +kernel
theorem d1_13 : decode prog_14_method_1_code 13 = .ok (.putfield 13, 3) := by decide +kernel
theorem d1_16 : decode prog_14_method_1_code 16 = .ok (.aload_n 0, 1) := by decide +kernel
theorem d1_17 : decode prog_14_method_1_code 17 = .ok (.iload_n 2, 1) := by decide +kernel
theorem d1_18 : decode prog_14_method_1_code 18 = .ok (.newarray .int, 2) := by decide +kernel
theorem d1_20 : decode prog_14_method_1_code 20 = .ok (.putfield 17, 3) := by decide +kernel
theorem d1_23 : decode prog_14_method_1_code 23 = .ok (.aload_n 0, 1) := by decide +kernel
theorem d1_24 : decode prog_14_method_1_code 24 = .ok (.iload_n 3, 1) := by decide +kernel
theorem d1_25 : decode prog_14_method_1_code 25 = .ok (.newarray .int, 2) := by decide +kernel
theorem d1_27 : decode prog_14_method_1_code 27 = .ok (.putfield 20, 3) := by decide +kernel
theorem d1_30 : decode prog_14_method_1_code 30 = .ok (.aload_n 0, 1) := by decide +kernel
theorem d1_31 : decode prog_14_method_1_code 31 = .ok (.iload_n 3, 1) := by decide +kernel
theorem d1_32 : decode prog_14_method_1_code 32 = .ok (.newarray .long, 2) := by decide +kernel
theorem d1_34 : decode prog_14_method_1_code 34 = .ok (.putfield 23, 3) := by decide +kernel
theorem d1_37 : decode prog_14_method_1_code 37 = .ok (.aload_n 0, 1) := by decide +kernel
theorem d1_38 : decode prog_14_method_1_code 38 = .ok (.iload_n 3, 1) := by decide +kernel
theorem d1_39 : decode prog_14_method_1_code 39 = .ok (.iload_n 1, 1) := by decide +kernel
theorem d1_40 : decode prog_14_method_1_code 40 = .ok (.imul, 1) := by decide +kernel
theorem d1_41 : decode prog_14_method_1_code 41 = .ok (.newarray .int, 2) := by decide +kernel
theorem d1_43 : decode prog_14_method_1_code 43 = .ok (.putfield 27, 3) := by decide +kernel
theorem d1_46 : decode prog_14_method_1_code 46 = .ok (.return_, 1) := by decide +kernel
abbrev own_rm1_room : Room := { frames := 1, cells := 5, slots := 13, locals := 12 }
set_option maxRecDepth 65536 in
set_option maxHeartbeats 40000000 in
theorem rm1 (l : Launch) (Z : State) (a0 : Array Value) (hw : ∀ d ∈ tables_1, d.before a0 Z = true) (n0 : Nat) (h0 : Heap) (Z0 : n0 ≤ h0.size) (c : Addr) (ge_c : n0 ≤ c) (X : Exa Z h0 c "com/example/terms_to_entities/termstoentities/index/TermCounts") (F_terms : Fld Z h0 c "com/example/terms_to_entities/termstoentities/index/TermCounts" "terms" "I" (.int (0 : Int32))) (F_wholeFrequencies : Fld Z h0 c "com/example/terms_to_entities/termstoentities/index/TermCounts" "wholeFrequencies" "[I" .null) (F_placeOfPredicate : Fld Z h0 c "com/example/terms_to_entities/termstoentities/index/TermCounts" "placeOfPredicate" "[I" .null) (F_predicates : Fld Z h0 c "com/example/terms_to_entities/termstoentities/index/TermCounts" "predicates" "[I" .null) (F_predicateLengths : Fld Z h0 c "com/example/terms_to_entities/termstoentities/index/TermCounts" "predicateLengths" "[J" .null) (F_predicateFrequencies : Fld Z h0 c "com/example/terms_to_entities/termstoentities/index/TermCounts" "predicateFrequencies" "[I" .null) (F_predicateCount : Fld Z h0 c "com/example/terms_to_entities/termstoentities/index/TermCounts" "predicateCount" "I" (.int (0 : Int32))) :
    Ctr l Z (⟨"com/example/terms_to_entities/termstoentities/index/TermCounts", "<init>", "(III)V"⟩ : MethodName) prog_14_method_1_code 4 none own_rm1_room n0 #[(.ref c), (.int (2 : Int32)), (.int (3 : Int32)), (.int (2 : Int32))] h0 (fun v h => v = none ∧ ∃ w pl pr le fr : Addr, own_Ap n0 c w pl pr le fr ∧ (h0.size ≤ w ∧ h0.size ≤ pl ∧ h0.size ≤ pr ∧ h0.size ≤ le ∧ h0.size ≤ fr) ∧ Keep h0 h [c] ∧ own_TC Z h c w pl pr le fr 2 (List.replicate 2 0) (List.replicate 3 0) (List.replicate 2 0) (List.replicate 2 0) (List.replicate 4 0) 0 0) := by
  refine Ctr.of #[.val (.ref c), .val (.int (2 : Int32)), .val (.int (3 : Int32)), .val (.int (2 : Int32))] pn_1 Z0 (fun m => by first | (simp [entryFrame, mkF, argsToLocals, Value.category]; done) | rfl) ?_
  intro C H
  refine k_aloadN (pc := 0) H d1_0 rfl rfl ?_
  refine k_initObj (w := 0) (pc := 1) H (wd hw 7 rfl) (wd hw 8 rfl) (wd hw 9 rfl) d1_1 rfl (by decide) rfl (by decide) ?_
  refine k_aloadN (pc := 4) H d1_4 rfl rfl ?_
  refine k_iloadN (pc := 5) H d1_5 rfl ?_
  refine k_putfield .int (pc := 6) H (wd hw 10 rfl) F_terms X (Or.inr ⟨(wd hw 11 rfl), rfl, rfl⟩) (wd hw 2 rfl) (by decide) rfl rfl ge_c d1_6 ?_
  intro h4 Wr5 f6
  have KW7 : Keep h0 h4 [c] := (Keep.refl h0 [c]).wr Wr5 (Or.inl (List.mem_of_getElem? (i := 0) rfl))
  have f8 : Exa Z h4 c "com/example/terms_to_entities/termstoentities/index/TermCounts" := Jvm.RoadKit.Exa.wr Wr5 X
  have f9 : Fld Z h4 c "com/example/terms_to_entities/termstoentities/index/TermCounts" "wholeFrequencies" "[I" .null := Jvm.RoadKit.Fld.other Wr5 F_wholeFrequencies (Or.inr (slot_ne (t := (.array .int)) (t' := .int) (Or.inr (wd hw 13 rfl)) (Or.inr (wd hw 11 rfl)) (by decide) (by decide) (by decide)))
  have f10 : Fld Z h4 c "com/example/terms_to_entities/termstoentities/index/TermCounts" "placeOfPredicate" "[I" .null := Jvm.RoadKit.Fld.other Wr5 F_placeOfPredicate (Or.inr (slot_ne (t := (.array .int)) (t' := .int) (Or.inr (wd hw 15 rfl)) (Or.inr (wd hw 11 rfl)) (by decide) (by decide) (by decide)))
  have f11 : Fld Z h4 c "com/example/terms_to_entities/termstoentities/index/TermCounts" "predicates" "[I" .null := Jvm.RoadKit.Fld.other Wr5 F_predicates (Or.inr (slot_ne (t := (.array .int)) (t' := .int) (Or.inr (wd hw 17 rfl)) (Or.inr (wd hw 11 rfl)) (by decide) (by decide) (by decide)))
  have f12 : Fld Z h4 c "com/example/terms_to_entities/termstoentities/index/TermCounts" "predicateLengths" "[J" .null := Jvm.RoadKit.Fld.other Wr5 F_predicateLengths (Or.inr (slot_ne (t := (.array .long)) (t' := .int) (Or.inr (wd hw 20 rfl)) (Or.inr (wd hw 11 rfl)) (by decide) (by decide) (by decide)))
  have f13 : Fld Z h4 c "com/example/terms_to_entities/termstoentities/index/TermCounts" "predicateFrequencies" "[I" .null := Jvm.RoadKit.Fld.other Wr5 F_predicateFrequencies (Or.inr (slot_ne (t := (.array .int)) (t' := .int) (Or.inr (wd hw 22 rfl)) (Or.inr (wd hw 11 rfl)) (by decide) (by decide) (by decide)))
  have f14 : Fld Z h4 c "com/example/terms_to_entities/termstoentities/index/TermCounts" "predicateCount" "I" (.int (0 : Int32)) := Jvm.RoadKit.Fld.other Wr5 F_predicateCount (Or.inr (slot_ne (t := .int) (t' := .int) (Or.inl (wd hw 29 rfl)) (Or.inr (wd hw 11 rfl)) (by decide) (by decide) (by decide)))
  refine k_aloadN (pc := 9) H d1_9 rfl rfl ?_
  refine k_iloadN (pc := 10) H d1_10 rfl ?_
  refine k_new_int (2) 2 (pc := 11) H (wd hw 0 rfl) d1_11 (by decide) (by decide) (by decide) (by decide) (by decide) ?_
  intro h16 w ea17 ge18 E19 XA15 V20
  have fr21 : h0.size ≤ w := by rw [ea17]; exact KW7.1
  have ne22 : c ≠ w := Nat.ne_of_lt (by rw [ea17]; exact f8.lt)
  have KW23 : Keep h0 h16 [c] := KW7.ext E19
  have f24 : Exa Z h16 c "com/example/terms_to_entities/termstoentities/index/TermCounts" := Jvm.RoadKit.Exa.ext E19 f8
  have f25 : Fld Z h16 c "com/example/terms_to_entities/termstoentities/index/TermCounts" "wholeFrequencies" "[I" .null := Jvm.RoadKit.Fld.ext E19 f9
  have f26 : Fld Z h16 c "com/example/terms_to_entities/termstoentities/index/TermCounts" "placeOfPredicate" "[I" .null := Jvm.RoadKit.Fld.ext E19 f10
  have f27 : Fld Z h16 c "com/example/terms_to_entities/termstoentities/index/TermCounts" "predicates" "[I" .null := Jvm.RoadKit.Fld.ext E19 f11
  have f28 : Fld Z h16 c "com/example/terms_to_entities/termstoentities/index/TermCounts" "predicateLengths" "[J" .null := Jvm.RoadKit.Fld.ext E19 f12
  have f29 : Fld Z h16 c "com/example/terms_to_entities/termstoentities/index/TermCounts" "predicateFrequencies" "[I" .null := Jvm.RoadKit.Fld.ext E19 f13
  have f30 : Fld Z h16 c "com/example/terms_to_entities/termstoentities/index/TermCounts" "predicateCount" "I" (.int (0 : Int32)) := Jvm.RoadKit.Fld.ext E19 f14
  have f31 : Fld Z h16 c "com/example/terms_to_entities/termstoentities/index/TermCounts" "terms" "I" (.int (2 : Int32)) := Jvm.RoadKit.Fld.ext E19 f6
  refine k_putfield (.array .int) (pc := 13) H (wd hw 12 rfl) f25 f24 (Or.inr ⟨(wd hw 13 rfl), rfl, rfl⟩) (wd hw 2 rfl) (by decide) rfl rfl ge_c d1_13 ?_
  intro h32 Wr33 f34
  have KW35 : Keep h0 h32 [c] := KW23.wr Wr33 (Or.inl (List.mem_of_getElem? (i := 0) rfl))
  have f36 : Exa Z h32 c "com/example/terms_to_entities/termstoentities/index/TermCounts" := Jvm.RoadKit.Exa.wr Wr33 f24
  have f37 : Fld Z h32 c "com/example/terms_to_entities/termstoentities/index/TermCounts" "placeOfPredicate" "[I" .null := Jvm.RoadKit.Fld.other Wr33 f26 (Or.inr (slot_ne (t := (.array .int)) (t' := (.array .int)) (Or.inr (wd hw 15 rfl)) (Or.inr (wd hw 13 rfl)) (by decide) (by decide) (by decide)))
  have f38 : Fld Z h32 c "com/example/terms_to_entities/termstoentities/index/TermCounts" "predicates" "[I" .null := Jvm.RoadKit.Fld.other Wr33 f27 (Or.inr (slot_ne (t := (.array .int)) (t' := (.array .int)) (Or.inr (wd hw 17 rfl)) (Or.inr (wd hw 13 rfl)) (by decide) (by decide) (by decide)))
  have f39 : Fld Z h32 c "com/example/terms_to_entities/termstoentities/index/TermCounts" "predicateLengths" "[J" .null := Jvm.RoadKit.Fld.other Wr33 f28 (Or.inr (slot_ne (t := (.array .long)) (t' := (.array .int)) (Or.inr (wd hw 20 rfl)) (Or.inr (wd hw 13 rfl)) (by decide) (by decide) (by decide)))
  have f40 : Fld Z h32 c "com/example/terms_to_entities/termstoentities/index/TermCounts" "predicateFrequencies" "[I" .null := Jvm.RoadKit.Fld.other Wr33 f29 (Or.inr (slot_ne (t := (.array .int)) (t' := (.array .int)) (Or.inr (wd hw 22 rfl)) (Or.inr (wd hw 13 rfl)) (by decide) (by decide) (by decide)))
  have f41 : Fld Z h32 c "com/example/terms_to_entities/termstoentities/index/TermCounts" "predicateCount" "I" (.int (0 : Int32)) := Jvm.RoadKit.Fld.other Wr33 f30 (Or.inr (slot_ne (t := .int) (t' := (.array .int)) (Or.inl (wd hw 29 rfl)) (Or.inr (wd hw 13 rfl)) (by decide) (by decide) (by decide)))
  have f42 : Fld Z h32 c "com/example/terms_to_entities/termstoentities/index/TermCounts" "terms" "I" (.int (2 : Int32)) := Jvm.RoadKit.Fld.other Wr33 f31 (Or.inr (slot_ne (t := .int) (t' := (.array .int)) (Or.inr (wd hw 11 rfl)) (Or.inr (wd hw 13 rfl)) (by decide) (by decide) (by decide)))
  have f43 : IA Z h32 w (List.replicate (2) 0) := V20.other Wr33 (Ne.symm ne22)
  refine k_aloadN (pc := 16) H d1_16 rfl rfl ?_
  refine k_iloadN (pc := 17) H d1_17 rfl ?_
  refine k_new_int (3) 3 (pc := 18) H (wd hw 0 rfl) d1_18 (by decide) (by decide) (by decide) (by decide) (by decide) ?_
  intro h45 pl ea46 ge47 E48 XA44 V49
  have fr50 : h0.size ≤ pl := by rw [ea46]; exact KW35.1
  have ne51 : c ≠ pl := Nat.ne_of_lt (by rw [ea46]; exact f36.lt)
  have ne52 : w ≠ pl := Nat.ne_of_lt (by rw [ea46]; exact f43.lt)
  have KW53 : Keep h0 h45 [c] := KW35.ext E48
  have f54 : Exa Z h45 c "com/example/terms_to_entities/termstoentities/index/TermCounts" := Jvm.RoadKit.Exa.ext E48 f36
  have f55 : Fld Z h45 c "com/example/terms_to_entities/termstoentities/index/TermCounts" "placeOfPredicate" "[I" .null := Jvm.RoadKit.Fld.ext E48 f37
  have f56 : Fld Z h45 c "com/example/terms_to_entities/termstoentities/index/TermCounts" "predicates" "[I" .null := Jvm.RoadKit.Fld.ext E48 f38
  have f57 : Fld Z h45 c "com/example/terms_to_entities/termstoentities/index/TermCounts" "predicateLengths" "[J" .null := Jvm.RoadKit.Fld.ext E48 f39
  have f58 : Fld Z h45 c "com/example/terms_to_entities/termstoentities/index/TermCounts" "predicateFrequencies" "[I" .null := Jvm.RoadKit.Fld.ext E48 f40
  have f59 : Fld Z h45 c "com/example/terms_to_entities/termstoentities/index/TermCounts" "predicateCount" "I" (.int (0 : Int32)) := Jvm.RoadKit.Fld.ext E48 f41
  have f60 : Fld Z h45 c "com/example/terms_to_entities/termstoentities/index/TermCounts" "terms" "I" (.int (2 : Int32)) := Jvm.RoadKit.Fld.ext E48 f42
  have f61 : IA Z h45 w (List.replicate (2) 0) := f43.ext E48
  have f62 : Fld Z h45 c "com/example/terms_to_entities/termstoentities/index/TermCounts" "wholeFrequencies" "[I" (.ref w) := Jvm.RoadKit.Fld.ext E48 f34
  refine k_putfield (.array .int) (pc := 20) H (wd hw 14 rfl) f55 f54 (Or.inr ⟨(wd hw 15 rfl), rfl, rfl⟩) (wd hw 2 rfl) (by decide) rfl rfl ge_c d1_20 ?_
  intro h63 Wr64 f65
  have KW66 : Keep h0 h63 [c] := KW53.wr Wr64 (Or.inl (List.mem_of_getElem? (i := 0) rfl))
  have f67 : Exa Z h63 c "com/example/terms_to_entities/termstoentities/index/TermCounts" := Jvm.RoadKit.Exa.wr Wr64 f54
  have f68 : Fld Z h63 c "com/example/terms_to_entities/termstoentities/index/TermCounts" "predicates" "[I" .null := Jvm.RoadKit.Fld.other Wr64 f56 (Or.inr (slot_ne (t := (.array .int)) (t' := (.array .int)) (Or.inr (wd hw 17 rfl)) (Or.inr (wd hw 15 rfl)) (by decide) (by decide) (by decide)))
  have f69 : Fld Z h63 c "com/example/terms_to_entities/termstoentities/index/TermCounts" "predicateLengths" "[J" .null := Jvm.RoadKit.Fld.other Wr64 f57 (Or.inr (slot_ne (t := (.array .long)) (t' := (.array .int)) (Or.inr (wd hw 20 rfl)) (Or.inr (wd hw 15 rfl)) (by decide) (by decide) (by decide)))
  have f70 : Fld Z h63 c "com/example/terms_to_entities/termstoentities/index/TermCounts" "predicateFrequencies" "[I" .null := Jvm.RoadKit.Fld.other Wr64 f58 (Or.inr (slot_ne (t := (.array .int)) (t' := (.array .int)) (Or.inr (wd hw 22 rfl)) (Or.inr (wd hw 15 rfl)) (by decide) (by decide) (by decide)))
  have f71 : Fld Z h63 c "com/example/terms_to_entities/termstoentities/index/TermCounts" "predicateCount" "I" (.int (0 : Int32)) := Jvm.RoadKit.Fld.other Wr64 f59 (Or.inr (slot_ne (t := .int) (t' := (.array .int)) (Or.inl (wd hw 29 rfl)) (Or.inr (wd hw 15 rfl)) (by decide) (by decide) (by decide)))
  have f72 : Fld Z h63 c "com/example/terms_to_entities/termstoentities/index/TermCounts" "terms" "I" (.int (2 : Int32)) := Jvm.RoadKit.Fld.other Wr64 f60 (Or.inr (slot_ne (t := .int) (t' := (.array .int)) (Or.inr (wd hw 11 rfl)) (Or.inr (wd hw 15 rfl)) (by decide) (by decide) (by decide)))
  have f73 : IA Z h63 w (List.replicate (2) 0) := f61.other Wr64 (Ne.symm ne22)
  have f74 : Fld Z h63 c "com/example/terms_to_entities/termstoentities/index/TermCounts" "wholeFrequencies" "[I" (.ref w) := Jvm.RoadKit.Fld.other Wr64 f62 (Or.inr (slot_ne (t := (.array .int)) (t' := (.array .int)) (Or.inr (wd hw 13 rfl)) (Or.inr (wd hw 15 rfl)) (by decide) (by decide) (by decide)))
  have f75 : IA Z h63 pl (List.replicate (3) 0) := V49.other Wr64 (Ne.symm ne51)
  refine k_aloadN (pc := 23) H d1_23 rfl rfl ?_
  refine k_iloadN (pc := 24) H d1_24 rfl ?_
  refine k_new_int (2) 2 (pc := 25) H (wd hw 0 rfl) d1_25 (by decide) (by decide) (by decide) (by decide) (by decide) ?_
  intro h77 pr ea78 ge79 E80 XA76 V81
  have fr82 : h0.size ≤ pr := by rw [ea78]; exact KW66.1
  have ne83 : c ≠ pr := Nat.ne_of_lt (by rw [ea78]; exact f67.lt)
  have ne84 : w ≠ pr := Nat.ne_of_lt (by rw [ea78]; exact f73.lt)
  have ne85 : pl ≠ pr := Nat.ne_of_lt (by rw [ea78]; exact f75.lt)
  have KW86 : Keep h0 h77 [c] := KW66.ext E80
  have f87 : Exa Z h77 c "com/example/terms_to_entities/termstoentities/index/TermCounts" := Jvm.RoadKit.Exa.ext E80 f67
  have f88 : Fld Z h77 c "com/example/terms_to_entities/termstoentities/index/TermCounts" "predicates" "[I" .null := Jvm.RoadKit.Fld.ext E80 f68
  have f89 : Fld Z h77 c "com/example/terms_to_entities/termstoentities/index/TermCounts" "predicateLengths" "[J" .null := Jvm.RoadKit.Fld.ext E80 f69
  have f90 : Fld Z h77 c "com/example/terms_to_entities/termstoentities/index/TermCounts" "predicateFrequencies" "[I" .null := Jvm.RoadKit.Fld.ext E80 f70
  have f91 : Fld Z h77 c "com/example/terms_to_entities/termstoentities/index/TermCounts" "predicateCount" "I" (.int (0 : Int32)) := Jvm.RoadKit.Fld.ext E80 f71
  have f92 : Fld Z h77 c "com/example/terms_to_entities/termstoentities/index/TermCounts" "terms" "I" (.int (2 : Int32)) := Jvm.RoadKit.Fld.ext E80 f72
  have f93 : IA Z h77 w (List.replicate (2) 0) := f73.ext E80
  have f94 : Fld Z h77 c "com/example/terms_to_entities/termstoentities/index/TermCounts" "wholeFrequencies" "[I" (.ref w) := Jvm.RoadKit.Fld.ext E80 f74
  have f95 : IA Z h77 pl (List.replicate (3) 0) := f75.ext E80
  have f96 : Fld Z h77 c "com/example/terms_to_entities/termstoentities/index/TermCounts" "placeOfPredicate" "[I" (.ref pl) := Jvm.RoadKit.Fld.ext E80 f65
  refine k_putfield (.array .int) (pc := 27) H (wd hw 16 rfl) f88 f87 (Or.inr ⟨(wd hw 17 rfl), rfl, rfl⟩) (wd hw 2 rfl) (by decide) rfl rfl ge_c d1_27 ?_
  intro h97 Wr98 f99
  have KW100 : Keep h0 h97 [c] := KW86.wr Wr98 (Or.inl (List.mem_of_getElem? (i := 0) rfl))
  have f101 : Exa Z h97 c "com/example/terms_to_entities/termstoentities/index/TermCounts" := Jvm.RoadKit.Exa.wr Wr98 f87
  have f102 : Fld Z h97 c "com/example/terms_to_entities/termstoentities/index/TermCounts" "predicateLengths" "[J" .null := Jvm.RoadKit.Fld.other Wr98 f89 (Or.inr (slot_ne (t := (.array .long)) (t' := (.array .int)) (Or.inr (wd hw 20 rfl)) (Or.inr (wd hw 17 rfl)) (by decide) (by decide) (by decide)))
  have f103 : Fld Z h97 c "com/example/terms_to_entities/termstoentities/index/TermCounts" "predicateFrequencies" "[I" .null := Jvm.RoadKit.Fld.other Wr98 f90 (Or.inr (slot_ne (t := (.array .int)) (t' := (.array .int)) (Or.inr (wd hw 22 rfl)) (Or.inr (wd hw 17 rfl)) (by decide) (by decide) (by decide)))
  have f104 : Fld Z h97 c "com/example/terms_to_entities/termstoentities/index/TermCounts" "predicateCount" "I" (.int (0 : Int32)) := Jvm.RoadKit.Fld.other Wr98 f91 (Or.inr (slot_ne (t := .int) (t' := (.array .int)) (Or.inl (wd hw 29 rfl)) (Or.inr (wd hw 17 rfl)) (by decide) (by decide) (by decide)))
  have f105 : Fld Z h97 c "com/example/terms_to_entities/termstoentities/index/TermCounts" "terms" "I" (.int (2 : Int32)) := Jvm.RoadKit.Fld.other Wr98 f92 (Or.inr (slot_ne (t := .int) (t' := (.array .int)) (Or.inr (wd hw 11 rfl)) (Or.inr (wd hw 17 rfl)) (by decide) (by decide) (by decide)))
  have f106 : IA Z h97 w (List.replicate (2) 0) := f93.other Wr98 (Ne.symm ne22)
  have f107 : Fld Z h97 c "com/example/terms_to_entities/termstoentities/index/TermCounts" "wholeFrequencies" "[I" (.ref w) := Jvm.RoadKit.Fld.other Wr98 f94 (Or.inr (slot_ne (t := (.array .int)) (t' := (.array .int)) (Or.inr (wd hw 13 rfl)) (Or.inr (wd hw 17 rfl)) (by decide) (by decide) (by decide)))
  have f108 : IA Z h97 pl (List.replicate (3) 0) := f95.other Wr98 (Ne.symm ne51)
  have f109 : Fld Z h97 c "com/example/terms_to_entities/termstoentities/index/TermCounts" "placeOfPredicate" "[I" (.ref pl) := Jvm.RoadKit.Fld.other Wr98 f96 (Or.inr (slot_ne (t := (.array .int)) (t' := (.array .int)) (Or.inr (wd hw 15 rfl)) (Or.inr (wd hw 17 rfl)) (by decide) (by decide) (by decide)))
  have f110 : IA Z h97 pr (List.replicate (2) 0) := V81.other Wr98 (Ne.symm ne83)
  refine k_aloadN (pc := 30) H d1_30 rfl rfl ?_
  refine k_iloadN (pc := 31) H d1_31 rfl ?_
  refine k_new_long (2) 2 (pc := 32) H (wd hw 18 rfl) d1_32 (by decide) (by decide) (by decide) (by decide) (by decide) ?_
  intro h112 le ea113 ge114 E115 XA111 V116
  have fr117 : h0.size ≤ le := by rw [ea113]; exact KW100.1
  have ne118 : c ≠ le := Nat.ne_of_lt (by rw [ea113]; exact f101.lt)
  have ne119 : w ≠ le := Nat.ne_of_lt (by rw [ea113]; exact f106.lt)
  have ne120 : pl ≠ le := Nat.ne_of_lt (by rw [ea113]; exact f108.lt)
  have ne121 : pr ≠ le := Nat.ne_of_lt (by rw [ea113]; exact f110.lt)
  have KW122 : Keep h0 h112 [c] := KW100.ext E115
  have f123 : Exa Z h112 c "com/example/terms_to_entities/termstoentities/index/TermCounts" := Jvm.RoadKit.Exa.ext E115 f101
  have f124 : Fld Z h112 c "com/example/terms_to_entities/termstoentities/index/TermCounts" "predicateLengths" "[J" .null := Jvm.RoadKit.Fld.ext E115 f102
  have f125 : Fld Z h112 c "com/example/terms_to_entities/termstoentities/index/TermCounts" "predicateFrequencies" "[I" .null := Jvm.RoadKit.Fld.ext E115 f103
  have f126 : Fld Z h112 c "com/example/terms_to_entities/termstoentities/index/TermCounts" "predicateCount" "I" (.int (0 : Int32)) := Jvm.RoadKit.Fld.ext E115 f104
  have f127 : Fld Z h112 c "com/example/terms_to_entities/termstoentities/index/TermCounts" "terms" "I" (.int (2 : Int32)) := Jvm.RoadKit.Fld.ext E115 f105
  have f128 : IA Z h112 w (List.replicate (2) 0) := f106.ext E115
  have f129 : Fld Z h112 c "com/example/terms_to_entities/termstoentities/index/TermCounts" "wholeFrequencies" "[I" (.ref w) := Jvm.RoadKit.Fld.ext E115 f107
  have f130 : IA Z h112 pl (List.replicate (3) 0) := f108.ext E115
  have f131 : Fld Z h112 c "com/example/terms_to_entities/termstoentities/index/TermCounts" "placeOfPredicate" "[I" (.ref pl) := Jvm.RoadKit.Fld.ext E115 f109
  have f132 : IA Z h112 pr (List.replicate (2) 0) := f110.ext E115
  have f133 : Fld Z h112 c "com/example/terms_to_entities/termstoentities/index/TermCounts" "predicates" "[I" (.ref pr) := Jvm.RoadKit.Fld.ext E115 f99
  refine k_putfield (.array .long) (pc := 34) H (wd hw 19 rfl) f124 f123 (Or.inr ⟨(wd hw 20 rfl), rfl, rfl⟩) (wd hw 2 rfl) (by decide) rfl rfl ge_c d1_34 ?_
  intro h134 Wr135 f136
  have KW137 : Keep h0 h134 [c] := KW122.wr Wr135 (Or.inl (List.mem_of_getElem? (i := 0) rfl))
  have f138 : Exa Z h134 c "com/example/terms_to_entities/termstoentities/index/TermCounts" := Jvm.RoadKit.Exa.wr Wr135 f123
  have f139 : Fld Z h134 c "com/example/terms_to_entities/termstoentities/index/TermCounts" "predicateFrequencies" "[I" .null := Jvm.RoadKit.Fld.other Wr135 f125 (Or.inr (slot_ne (t := (.array .int)) (t' := (.array .long)) (Or.inr (wd hw 22 rfl)) (Or.inr (wd hw 20 rfl)) (by decide) (by decide) (by decide)))
  have f140 : Fld Z h134 c "com/example/terms_to_entities/termstoentities/index/TermCounts" "predicateCount" "I" (.int (0 : Int32)) := Jvm.RoadKit.Fld.other Wr135 f126 (Or.inr (slot_ne (t := .int) (t' := (.array .long)) (Or.inl (wd hw 29 rfl)) (Or.inr (wd hw 20 rfl)) (by decide) (by decide) (by decide)))
  have f141 : Fld Z h134 c "com/example/terms_to_entities/termstoentities/index/TermCounts" "terms" "I" (.int (2 : Int32)) := Jvm.RoadKit.Fld.other Wr135 f127 (Or.inr (slot_ne (t := .int) (t' := (.array .long)) (Or.inr (wd hw 11 rfl)) (Or.inr (wd hw 20 rfl)) (by decide) (by decide) (by decide)))
  have f142 : IA Z h134 w (List.replicate (2) 0) := f128.other Wr135 (Ne.symm ne22)
  have f143 : Fld Z h134 c "com/example/terms_to_entities/termstoentities/index/TermCounts" "wholeFrequencies" "[I" (.ref w) := Jvm.RoadKit.Fld.other Wr135 f129 (Or.inr (slot_ne (t := (.array .int)) (t' := (.array .long)) (Or.inr (wd hw 13 rfl)) (Or.inr (wd hw 20 rfl)) (by decide) (by decide) (by decide)))
  have f144 : IA Z h134 pl (List.replicate (3) 0) := f130.other Wr135 (Ne.symm ne51)
  have f145 : Fld Z h134 c "com/example/terms_to_entities/termstoentities/index/TermCounts" "placeOfPredicate" "[I" (.ref pl) := Jvm.RoadKit.Fld.other Wr135 f131 (Or.inr (slot_ne (t := (.array .int)) (t' := (.array .long)) (Or.inr (wd hw 15 rfl)) (Or.inr (wd hw 20 rfl)) (by decide) (by decide) (by decide)))
  have f146 : IA Z h134 pr (List.replicate (2) 0) := f132.other Wr135 (Ne.symm ne83)
  have f147 : Fld Z h134 c "com/example/terms_to_entities/termstoentities/index/TermCounts" "predicates" "[I" (.ref pr) := Jvm.RoadKit.Fld.other Wr135 f133 (Or.inr (slot_ne (t := (.array .int)) (t' := (.array .long)) (Or.inr (wd hw 17 rfl)) (Or.inr (wd hw 20 rfl)) (by decide) (by decide) (by decide)))
  have f148 : JA Z h134 le (List.replicate (2) 0) := V116.other Wr135 (Ne.symm ne118)
  refine k_aloadN (pc := 37) H d1_37 rfl rfl ?_
  refine k_iloadN (pc := 38) H d1_38 rfl ?_
  refine k_iloadN (pc := 39) H d1_39 rfl ?_
  refine k_imul (pc := 40) H d1_40 ?_
  refine k_new_int (4) 4 (pc := 41) H (wd hw 0 rfl) d1_41 (by decide) (by decide) (by decide) (by decide) (by decide) ?_
  intro h150 fr ea151 ge152 E153 XA149 V154
  have fr155 : h0.size ≤ fr := by rw [ea151]; exact KW137.1
  have ne156 : c ≠ fr := Nat.ne_of_lt (by rw [ea151]; exact f138.lt)
  have ne157 : w ≠ fr := Nat.ne_of_lt (by rw [ea151]; exact f142.lt)
  have ne158 : pl ≠ fr := Nat.ne_of_lt (by rw [ea151]; exact f144.lt)
  have ne159 : pr ≠ fr := Nat.ne_of_lt (by rw [ea151]; exact f146.lt)
  have ne160 : le ≠ fr := Nat.ne_of_lt (by rw [ea151]; exact f148.lt)
  have KW161 : Keep h0 h150 [c] := KW137.ext E153
  have f162 : Exa Z h150 c "com/example/terms_to_entities/termstoentities/index/TermCounts" := Jvm.RoadKit.Exa.ext E153 f138
  have f163 : Fld Z h150 c "com/example/terms_to_entities/termstoentities/index/TermCounts" "predicateFrequencies" "[I" .null := Jvm.RoadKit.Fld.ext E153 f139
  have f164 : Fld Z h150 c "com/example/terms_to_entities/termstoentities/index/TermCounts" "predicateCount" "I" (.int (0 : Int32)) := Jvm.RoadKit.Fld.ext E153 f140
  have f165 : Fld Z h150 c "com/example/terms_to_entities/termstoentities/index/TermCounts" "terms" "I" (.int (2 : Int32)) := Jvm.RoadKit.Fld.ext E153 f141
  have f166 : IA Z h150 w (List.replicate (2) 0) := f142.ext E153
  have f167 : Fld Z h150 c "com/example/terms_to_entities/termstoentities/index/TermCounts" "wholeFrequencies" "[I" (.ref w) := Jvm.RoadKit.Fld.ext E153 f143
  have f168 : IA Z h150 pl (List.replicate (3) 0) := f144.ext E153
  have f169 : Fld Z h150 c "com/example/terms_to_entities/termstoentities/index/TermCounts" "placeOfPredicate" "[I" (.ref pl) := Jvm.RoadKit.Fld.ext E153 f145
  have f170 : IA Z h150 pr (List.replicate (2) 0) := f146.ext E153
  have f171 : Fld Z h150 c "com/example/terms_to_entities/termstoentities/index/TermCounts" "predicates" "[I" (.ref pr) := Jvm.RoadKit.Fld.ext E153 f147
  have f172 : JA Z h150 le (List.replicate (2) 0) := f148.ext E153
  have f173 : Fld Z h150 c "com/example/terms_to_entities/termstoentities/index/TermCounts" "predicateLengths" "[J" (.ref le) := Jvm.RoadKit.Fld.ext E153 f136
  refine k_putfield (.array .int) (pc := 43) H (wd hw 21 rfl) f163 f162 (Or.inr ⟨(wd hw 22 rfl), rfl, rfl⟩) (wd hw 2 rfl) (by decide) rfl rfl ge_c d1_43 ?_
  intro h174 Wr175 f176
  have KW177 : Keep h0 h174 [c] := KW161.wr Wr175 (Or.inl (List.mem_of_getElem? (i := 0) rfl))
  have f178 : Exa Z h174 c "com/example/terms_to_entities/termstoentities/index/TermCounts" := Jvm.RoadKit.Exa.wr Wr175 f162
  have f179 : Fld Z h174 c "com/example/terms_to_entities/termstoentities/index/TermCounts" "predicateCount" "I" (.int (0 : Int32)) := Jvm.RoadKit.Fld.other Wr175 f164 (Or.inr (slot_ne (t := .int) (t' := (.array .int)) (Or.inl (wd hw 29 rfl)) (Or.inr (wd hw 22 rfl)) (by decide) (by decide) (by decide)))
  have f180 : Fld Z h174 c "com/example/terms_to_entities/termstoentities/index/TermCounts" "terms" "I" (.int (2 : Int32)) := Jvm.RoadKit.Fld.other Wr175 f165 (Or.inr (slot_ne (t := .int) (t' := (.array .int)) (Or.inr (wd hw 11 rfl)) (Or.inr (wd hw 22 rfl)) (by decide) (by decide) (by decide)))
  have f181 : IA Z h174 w (List.replicate (2) 0) := f166.other Wr175 (Ne.symm ne22)
  have f182 : Fld Z h174 c "com/example/terms_to_entities/termstoentities/index/TermCounts" "wholeFrequencies" "[I" (.ref w) := Jvm.RoadKit.Fld.other Wr175 f167 (Or.inr (slot_ne (t := (.array .int)) (t' := (.array .int)) (Or.inr (wd hw 13 rfl)) (Or.inr (wd hw 22 rfl)) (by decide) (by decide) (by decide)))
  have f183 : IA Z h174 pl (List.replicate (3) 0) := f168.other Wr175 (Ne.symm ne51)
  have f184 : Fld Z h174 c "com/example/terms_to_entities/termstoentities/index/TermCounts" "placeOfPredicate" "[I" (.ref pl) := Jvm.RoadKit.Fld.other Wr175 f169 (Or.inr (slot_ne (t := (.array .int)) (t' := (.array .int)) (Or.inr (wd hw 15 rfl)) (Or.inr (wd hw 22 rfl)) (by decide) (by decide) (by decide)))
  have f185 : IA Z h174 pr (List.replicate (2) 0) := f170.other Wr175 (Ne.symm ne83)
  have f186 : Fld Z h174 c "com/example/terms_to_entities/termstoentities/index/TermCounts" "predicates" "[I" (.ref pr) := Jvm.RoadKit.Fld.other Wr175 f171 (Or.inr (slot_ne (t := (.array .int)) (t' := (.array .int)) (Or.inr (wd hw 17 rfl)) (Or.inr (wd hw 22 rfl)) (by decide) (by decide) (by decide)))
  have f187 : JA Z h174 le (List.replicate (2) 0) := f172.other Wr175 (Ne.symm ne118)
  have f188 : Fld Z h174 c "com/example/terms_to_entities/termstoentities/index/TermCounts" "predicateLengths" "[J" (.ref le) := Jvm.RoadKit.Fld.other Wr175 f173 (Or.inr (slot_ne (t := (.array .long)) (t' := (.array .int)) (Or.inr (wd hw 20 rfl)) (Or.inr (wd hw 22 rfl)) (by decide) (by decide) (by decide)))
  have f189 : IA Z h174 fr (List.replicate (4) 0) := V154.other Wr175 (Ne.symm ne156)
  exact k_retVoid (pc := 46) H d1_46 (by show 5 ≤ own_rm1_room.cells; decide) (by show 13 ≤ own_rm1_room.slots; decide) (⟨rfl, w, pl, pr, le, fr, ⟨ge_c, ge18, ge47, ge79, ge114, ge152, ne22, ne51, ne83, ne118, ne156, ne52, ne84, ne119, ne157, ne85, ne120, ne158, ne121, ne159, ne160⟩, ⟨fr21, fr50, fr82, fr117, fr155⟩, KW177, ⟨f178, f180, f182, f184, f186, f188, f176, f179, f181, f183, f185, f187, f189⟩⟩)
theorem d3_0 : decode prog_14_method_9_code 0 = .ok (.aload_n 0, 1) := by decide +kernel
theorem d3_1 : decode prog_14_method_9_code 1 = .ok (.getfield 17, 3) := by decide +kernel
theorem d3_4 : decode prog_14_method_9_code 4 = .ok (.iload_n 1, 1) := by decide +kernel
theorem d3_5 : decode prog_14_method_9_code 5 = .ok (.aload_n 0, 1) := by decide +kernel
theorem d3_6 : decode prog_14_method_9_code 6 = .ok (.getfield 34, 3) := by decide +kernel
theorem d3_9 : decode prog_14_method_9_code 9 = .ok (.iastore, 1) := by decide +kernel
theorem d3_10 : decode prog_14_method_9_code 10 = .ok (.aload_n 0, 1) := by decide +kernel
theorem d3_11 : decode prog_14_method_9_code 11 = .ok (.getfield 20, 3) := by decide +kernel
theorem d3_14 : decode prog_14_method_9_code 14 = .ok (.aload_n 0, 1) := by decide +kernel
theorem d3_15 : decode prog_14_method_9_code 15 = .ok (.getfield 34, 3) := by decide +kernel
theorem d3_18 : decode prog_14_method_9_code 18 = .ok (.iload_n 1, 1) := by decide +kernel
theorem d3_19 : decode prog_14_method_9_code 19 = .ok (.iastore, 1) := by decide +kernel
theorem d3_20 : decode prog_14_method_9_code 20 = .ok (.aload_n 0, 1) := by decide +kernel
theorem d3_21 : decode prog_14_method_9_code 21 = .ok (.getfield 23, 3) := by decide +kernel
theorem d3_24 : decode prog_14_method_9_code 24 = .ok (.aload_n 0, 1) := by decide +kernel
theorem d3_25 : decode prog_14_method_9_code 25 = .ok (.getfield 34, 3) := by decide +kernel
theorem d3_28 : decode prog_14_method_9_code 28 = .ok (.lconst 0, 1) := by decide +kernel
theorem d3_29 : decode prog_14_method_9_code 29 = .ok (.lastore, 1) := by decide +kernel
theorem d3_30 : decode prog_14_method_9_code 30 = .ok (.aload_n 0, 1) := by decide +kernel
theorem d3_31 : decode prog_14_method_9_code 31 = .ok (.getfield 27, 3) := by decide +kernel
theorem d3_34 : decode prog_14_method_9_code 34 = .ok (.aload_n 0, 1) := by decide +kernel
theorem d3_35 : decode prog_14_method_9_code 35 = .ok (.getfield 34, 3) := by decide +kernel
theorem d3_38 : decode prog_14_method_9_code 38 = .ok (.aload_n 0, 1) := by decide +kernel
theorem d3_39 : decode prog_14_method_9_code 39 = .ok (.getfield 7, 3) := by decide +kernel
theorem d3_42 : decode prog_14_method_9_code 42 = .ok (.imul, 1) := by decide +kernel
theorem d3_43 : decode prog_14_method_9_code 43 = .ok (.aload_n 0, 1) := by decide +kernel
theorem d3_44 : decode prog_14_method_9_code 44 = .ok (.getfield 34, 3) := by decide +kernel
theorem d3_47 : decode prog_14_method_9_code 47 = .ok (.iconst 1, 1) := by decide +kernel
theorem d3_48 : decode prog_14_method_9_code 48 = .ok (.iadd, 1) := by decide +kernel
theorem d3_49 : decode prog_14_method_9_code 49 = .ok (.aload_n 0, 1) := by decide +kernel
theorem d3_50 : decode prog_14_method_9_code 50 = .ok (.getfield 7, 3) := by decide +kernel
theorem d3_53 : decode prog_14_method_9_code 53 = .ok (.imul, 1) := by decide +kernel
theorem d3_54 : decode prog_14_method_9_code 54 = .ok (.iconst 0, 1) := by decide +kernel
theorem d3_55 : decode prog_14_method_9_code 55 = .ok (.invokestatic 47, 3) := by decide +kernel
theorem d3_58 : decode prog_14_method_9_code 58 = .ok (.aload_n 0, 1) := by decide +kernel
theorem d3_59 : decode prog_14_method_9_code 59 = .ok (.dup, 1) := by decide +kernel
theorem d3_60 : decode prog_14_method_9_code 60 = .ok (.getfield 34, 3) := by decide +kernel
theorem d3_63 : decode prog_14_method_9_code 63 = .ok (.iconst 1, 1) := by decide +kernel
theorem d3_64 : decode prog_14_method_9_code 64 = .ok (.iadd, 1) := by decide +kernel
theorem d3_65 : decode prog_14_method_9_code 65 = .ok (.putfield 34, 3) := by decide +kernel
theorem d3_68 : decode prog_14_method_9_code 68 = .ok (.return_, 1) := by decide +kernel
abbrev own_rm3_room : Room := { frames := 2, cells := 0, slots := 0, locals := 30 }
set_option maxRecDepth 65536 in
set_option maxHeartbeats 40000000 in
theorem rm3 (l : Launch) (Z : State) (a0 : Array Value) (hw : ∀ d ∈ tables_1, d.before a0 Z = true) (n0 : Nat) (h0 : Heap) (Z0 : n0 ≤ h0.size) (c w pl pr le fr : Addr) (tm : Int32) (xw xpl xpr : List Int32) (xle : List Int64) (xfr : List Int32) (wl : Int64) (pk : Int32) (x : Int32) (p q t : Nat) (AP : own_Ap n0 c w pl pr le fr) (T : own_TC Z h0 c w pl pr le fr tm xw xpl xpr xle xfr wl pk) (hp : x.toInt = (p : Int)) (hpl : p < xpl.length) (hq : pk.toInt = (q : Int)) (hqr : q < xpr.length) (hql : q < xle.length) (ht : tm.toInt = (t : Int)) (hfr : (q + 1) * t ≤ xfr.length) (hlen : xfr.length < 1000) (hq1 : q < 1000) :
    Ctr l Z (⟨"com/example/terms_to_entities/termstoentities/index/TermCounts", "addPredicate", "(I)V"⟩ : MethodName) prog_14_method_9_code 2 none own_rm3_room n0 #[(.ref c), (.int x)] h0 (fun v h => v = none ∧ Keep h0 h [c, w, pl, pr, le, fr] ∧ own_TC Z h c w pl pr le fr tm xw (xpl.set p pk) (xpr.set q x) (xle.set q 0) (own_fr 0 xfr (q * t) ((q + 1) * t - q * t)) wl (pk + 1)) := by
  refine Ctr.of #[.val (.ref c), .val (.int x)] pn_1 Z0 (fun m => by first | (simp [entryFrame, mkF, argsToLocals, Value.category]; done) | rfl) ?_
  intro C H
  have TT := T
  have AQ := AP
  obtain ⟨ge_c, ge_w, ge_pl, ge_pr, ge_le, ge_fr, ne_c_w, ne_c_pl, ne_c_pr, ne_c_le, ne_c_fr, ne_w_pl, ne_w_pr, ne_w_le, ne_w_fr, ne_pl_pr, ne_pl_le, ne_pl_fr, ne_pr_le, ne_pr_fr, ne_le_fr⟩ := AQ
  obtain ⟨X, F_terms, F_wholeFrequencies, F_placeOfPredicate, F_predicates, F_predicateLengths, F_predicateFrequencies, F_predicateCount, V_w, V_pl, V_pr, V_le, V_fr⟩ := TT
  refine k_aloadN (pc := 0) H d3_0 rfl rfl ?_
  refine k_getfield (pc := 1) H (wd hw 14 rfl) F_placeOfPredicate d3_1 ?_
  refine k_iloadN (pc := 4) H d3_4 rfl ?_
  refine k_aloadN (pc := 5) H d3_5 rfl rfl ?_
  refine k_getfield (pc := 6) H (wd hw 28 rfl) F_predicateCount d3_6 ?_
  refine k_iastoreT (i := p) (pc := 9) H V_pl (hp) (hpl) ge_pl d3_9 ?_
  intro h190 K191 V192
  have KW193 : Keep h0 h190 [c, w, pl, pr, le, fr] := (Keep.refl h0 [c, w, pl, pr, le, fr]).trans K191 (allS (Or.inl (List.mem_of_getElem? (i := 2) rfl)) all0)
  have f194 : Exa Z h190 c "com/example/terms_to_entities/termstoentities/index/TermCounts" := X.keep K191
  have f195 : Fld Z h190 c "com/example/terms_to_entities/termstoentities/index/TermCounts" "terms" "I" (.int tm) := F_terms.keep K191 (ninS ne_c_pl nin0)
  have f196 : Fld Z h190 c "com/example/terms_to_entities/termstoentities/index/TermCounts" "wholeFrequencies" "[I" (.ref w) := F_wholeFrequencies.keep K191 (ninS ne_c_pl nin0)
  have f197 : Fld Z h190 c "com/example/terms_to_entities/termstoentities/index/TermCounts" "placeOfPredicate" "[I" (.ref pl) := F_placeOfPredicate.keep K191 (ninS ne_c_pl nin0)
  have f198 : Fld Z h190 c "com/example/terms_to_entities/termstoentities/index/TermCounts" "predicates" "[I" (.ref pr) := F_predicates.keep K191 (ninS ne_c_pl nin0)
  have f199 : Fld Z h190 c "com/example/terms_to_entities/termstoentities/index/TermCounts" "predicateLengths" "[J" (.ref le) := F_predicateLengths.keep K191 (ninS ne_c_pl nin0)
  have f200 : Fld Z h190 c "com/example/terms_to_entities/termstoentities/index/TermCounts" "predicateFrequencies" "[I" (.ref fr) := F_predicateFrequencies.keep K191 (ninS ne_c_pl nin0)
  have f201 : Fld Z h190 c "com/example/terms_to_entities/termstoentities/index/TermCounts" "predicateCount" "I" (.int pk) := F_predicateCount.keep K191 (ninS ne_c_pl nin0)
  have f202 : IA Z h190 w xw := V_w.keep K191 (ninS ne_w_pl nin0)
  have f203 : IA Z h190 pr xpr := V_pr.keep K191 (ninS (Ne.symm ne_pl_pr) nin0)
  have f204 : JA Z h190 le xle := V_le.keep K191 (ninS (Ne.symm ne_pl_le) nin0)
  have f205 : IA Z h190 fr xfr := V_fr.keep K191 (ninS (Ne.symm ne_pl_fr) nin0)
  refine k_aloadN (pc := 10) H d3_10 rfl rfl ?_
  refine k_getfield (pc := 11) H (wd hw 16 rfl) f198 d3_11 ?_
  refine k_aloadN (pc := 14) H d3_14 rfl rfl ?_
  refine k_getfield (pc := 15) H (wd hw 28 rfl) f201 d3_15 ?_
  refine k_iloadN (pc := 18) H d3_18 rfl ?_
  refine k_iastoreT (i := q) (pc := 19) H f203 (hq) (hqr) ge_pr d3_19 ?_
  intro h206 K207 V208
  have KW209 : Keep h0 h206 [c, w, pl, pr, le, fr] := KW193.trans K207 (allS (Or.inl (List.mem_of_getElem? (i := 3) rfl)) all0)
  have f210 : Exa Z h206 c "com/example/terms_to_entities/termstoentities/index/TermCounts" := f194.keep K207
  have f211 : Fld Z h206 c "com/example/terms_to_entities/termstoentities/index/TermCounts" "terms" "I" (.int tm) := f195.keep K207 (ninS ne_c_pr nin0)
  have f212 : Fld Z h206 c "com/example/terms_to_entities/termstoentities/index/TermCounts" "wholeFrequencies" "[I" (.ref w) := f196.keep K207 (ninS ne_c_pr nin0)
  have f213 : Fld Z h206 c "com/example/terms_to_entities/termstoentities/index/TermCounts" "placeOfPredicate" "[I" (.ref pl) := f197.keep K207 (ninS ne_c_pr nin0)
  have f214 : Fld Z h206 c "com/example/terms_to_entities/termstoentities/index/TermCounts" "predicates" "[I" (.ref pr) := f198.keep K207 (ninS ne_c_pr nin0)
  have f215 : Fld Z h206 c "com/example/terms_to_entities/termstoentities/index/TermCounts" "predicateLengths" "[J" (.ref le) := f199.keep K207 (ninS ne_c_pr nin0)
  have f216 : Fld Z h206 c "com/example/terms_to_entities/termstoentities/index/TermCounts" "predicateFrequencies" "[I" (.ref fr) := f200.keep K207 (ninS ne_c_pr nin0)
  have f217 : Fld Z h206 c "com/example/terms_to_entities/termstoentities/index/TermCounts" "predicateCount" "I" (.int pk) := f201.keep K207 (ninS ne_c_pr nin0)
  have f218 : IA Z h206 w xw := f202.keep K207 (ninS ne_w_pr nin0)
  have f219 : JA Z h206 le xle := f204.keep K207 (ninS (Ne.symm ne_pr_le) nin0)
  have f220 : IA Z h206 fr xfr := f205.keep K207 (ninS (Ne.symm ne_pr_fr) nin0)
  have f221 : IA Z h206 pl (xpl.set p pk) := V192.keep K207 (ninS ne_pl_pr nin0)
  refine k_aloadN (pc := 20) H d3_20 rfl rfl ?_
  refine k_getfield (pc := 21) H (wd hw 19 rfl) f215 d3_21 ?_
  refine k_aloadN (pc := 24) H d3_24 rfl rfl ?_
  refine k_getfield (pc := 25) H (wd hw 28 rfl) f217 d3_25 ?_
  refine k_lconst (0 : Int64) (pc := 28) H d3_28 rfl ?_
  refine k_lastoreT (i := q) (pc := 29) H f219 (hq) (hql) ge_le d3_29 ?_
  intro h222 K223 V224
  have KW225 : Keep h0 h222 [c, w, pl, pr, le, fr] := KW209.trans K223 (allS (Or.inl (List.mem_of_getElem? (i := 4) rfl)) all0)
  have f226 : Exa Z h222 c "com/example/terms_to_entities/termstoentities/index/TermCounts" := f210.keep K223
  have f227 : Fld Z h222 c "com/example/terms_to_entities/termstoentities/index/TermCounts" "terms" "I" (.int tm) := f211.keep K223 (ninS ne_c_le nin0)
  have f228 : Fld Z h222 c "com/example/terms_to_entities/termstoentities/index/TermCounts" "wholeFrequencies" "[I" (.ref w) := f212.keep K223 (ninS ne_c_le nin0)
  have f229 : Fld Z h222 c "com/example/terms_to_entities/termstoentities/index/TermCounts" "placeOfPredicate" "[I" (.ref pl) := f213.keep K223 (ninS ne_c_le nin0)
  have f230 : Fld Z h222 c "com/example/terms_to_entities/termstoentities/index/TermCounts" "predicates" "[I" (.ref pr) := f214.keep K223 (ninS ne_c_le nin0)
  have f231 : Fld Z h222 c "com/example/terms_to_entities/termstoentities/index/TermCounts" "predicateLengths" "[J" (.ref le) := f215.keep K223 (ninS ne_c_le nin0)
  have f232 : Fld Z h222 c "com/example/terms_to_entities/termstoentities/index/TermCounts" "predicateFrequencies" "[I" (.ref fr) := f216.keep K223 (ninS ne_c_le nin0)
  have f233 : Fld Z h222 c "com/example/terms_to_entities/termstoentities/index/TermCounts" "predicateCount" "I" (.int pk) := f217.keep K223 (ninS ne_c_le nin0)
  have f234 : IA Z h222 w xw := f218.keep K223 (ninS ne_w_le nin0)
  have f235 : IA Z h222 fr xfr := f220.keep K223 (ninS (Ne.symm ne_le_fr) nin0)
  have f236 : IA Z h222 pl (xpl.set p pk) := f221.keep K223 (ninS ne_pl_le nin0)
  have f237 : IA Z h222 pr (xpr.set q x) := V208.keep K223 (ninS ne_pr_le nin0)
  refine k_aloadN (pc := 30) H d3_30 rfl rfl ?_
  refine k_getfield (pc := 31) H (wd hw 21 rfl) f232 d3_31 ?_
  refine k_aloadN (pc := 34) H d3_34 rfl rfl ?_
  refine k_getfield (pc := 35) H (wd hw 28 rfl) f233 d3_35 ?_
  refine k_aloadN (pc := 38) H d3_38 rfl rfl ?_
  refine k_getfield (pc := 39) H (wd hw 10 rfl) f227 d3_39 ?_
  refine k_imul (pc := 42) H d3_42 ?_
  refine k_aloadN (pc := 43) H d3_43 rfl rfl ?_
  refine k_getfield (pc := 44) H (wd hw 28 rfl) f233 d3_44 ?_
  refine k_iconst (1 : Int32) (pc := 47) H d3_47 rfl ?_
  refine k_iadd (pc := 48) H d3_48 ?_
  refine k_aloadN (pc := 49) H d3_49 rfl rfl ?_
  refine k_getfield (pc := 50) H (wd hw 10 rfl) f227 d3_50 ?_
  refine k_imul (pc := 53) H d3_53 ?_
  refine k_iconst (0 : Int32) (pc := 54) H d3_54 rfl ?_
  have hqt : q * t ≤ (q + 1) * t := Nat.mul_le_mul_right _ (Nat.le_succ _)
  have m1 : (pk * tm).toInt = ((q * t : Nat) : Int) := mul_nat hq ht (by omega)
  have m2 : ((pk + (1 : Int32)) * tm).toInt = (((q + 1) * t : Nat) : Int) := mul_nat (add_nat hq rfl (by omega)) ht (by omega)
  refine k_invS (y := (⟨"java/util/Arrays", "fill", "([IIII)V"⟩ : MethodName)) (st := []) [(.ref fr), (.int (pk * tm)), (.int ((pk + (1 : Int32)) * tm)), (.int (0 : Int32))] 0 (pc := 55) H (wd hw 30 rfl) (wd hw 31 rfl) (wd hw 32 rfl) (wd hw 33 rfl) (by decide) (fun z0 => rm4 l Z a0 hw n0 h222 z0 fr xfr (pk * tm) ((pk + (1 : Int32)) * tm) (0 : Int32) (q * t) ((q + 1) * t) ge_fr f235 hlen m1 m2 hqt hfr) (lenOf pd_1 rfl) d3_55 rfl rfl rfl (by decide) (by decide) (by decide) (by decide) ?_
  rintro v h239 ⟨rfl, K238, f240⟩
  show W l own_rm3_room C _ h239 0 0 58 #[.val (.ref c), .val (.int x)] []
  have KW241 : Keep h0 h239 [c, w, pl, pr, le, fr] := KW225.trans K238 (allS (Or.inl (List.mem_of_getElem? (i := 5) rfl)) all0)
  have f242 : Exa Z h239 c "com/example/terms_to_entities/termstoentities/index/TermCounts" := f226.keep K238
  have f243 : Fld Z h239 c "com/example/terms_to_entities/termstoentities/index/TermCounts" "terms" "I" (.int tm) := f227.keep K238 (ninS ne_c_fr nin0)
  have f244 : Fld Z h239 c "com/example/terms_to_entities/termstoentities/index/TermCounts" "wholeFrequencies" "[I" (.ref w) := f228.keep K238 (ninS ne_c_fr nin0)
  have f245 : Fld Z h239 c "com/example/terms_to_entities/termstoentities/index/TermCounts" "placeOfPredicate" "[I" (.ref pl) := f229.keep K238 (ninS ne_c_fr nin0)
  have f246 : Fld Z h239 c "com/example/terms_to_entities/termstoentities/index/TermCounts" "predicates" "[I" (.ref pr) := f230.keep K238 (ninS ne_c_fr nin0)
  have f247 : Fld Z h239 c "com/example/terms_to_entities/termstoentities/index/TermCounts" "predicateLengths" "[J" (.ref le) := f231.keep K238 (ninS ne_c_fr nin0)
  have f248 : Fld Z h239 c "com/example/terms_to_entities/termstoentities/index/TermCounts" "predicateFrequencies" "[I" (.ref fr) := f232.keep K238 (ninS ne_c_fr nin0)
  have f249 : Fld Z h239 c "com/example/terms_to_entities/termstoentities/index/TermCounts" "predicateCount" "I" (.int pk) := f233.keep K238 (ninS ne_c_fr nin0)
  have f250 : IA Z h239 w xw := f234.keep K238 (ninS ne_w_fr nin0)
  have f251 : IA Z h239 pl (xpl.set p pk) := f236.keep K238 (ninS ne_pl_fr nin0)
  have f252 : IA Z h239 pr (xpr.set q x) := f237.keep K238 (ninS ne_pr_fr nin0)
  have f253 : JA Z h239 le (xle.set q (0 : Int64)) := V224.keep K238 (ninS ne_le_fr nin0)
  refine k_aloadN (pc := 58) H d3_58 rfl rfl ?_
  refine k_dup (pc := 59) H d3_59 rfl ?_
  refine k_getfield (pc := 60) H (wd hw 28 rfl) f249 d3_60 ?_
  refine k_iconst (1 : Int32) (pc := 63) H d3_63 rfl ?_
  refine k_iadd (pc := 64) H d3_64 ?_
  refine k_putfield .int (pc := 65) H (wd hw 28 rfl) f249 f242 (Or.inl (wd hw 29 rfl)) (wd hw 2 rfl) (by decide) rfl rfl ge_c d3_65 ?_
  intro h254 Wr255 f256
  have KW257 : Keep h0 h254 [c, w, pl, pr, le, fr] := KW241.wr Wr255 (Or.inl (List.mem_of_getElem? (i := 0) rfl))
  have f258 : Exa Z h254 c "com/example/terms_to_entities/termstoentities/index/TermCounts" := Jvm.RoadKit.Exa.wr Wr255 f242
  have f259 : Fld Z h254 c "com/example/terms_to_entities/termstoentities/index/TermCounts" "terms" "I" (.int tm) := Jvm.RoadKit.Fld.other Wr255 f243 (Or.inr (slot_ne (t := .int) (t' := .int) (Or.inr (wd hw 11 rfl)) (Or.inl (wd hw 29 rfl)) (by decide) (by decide) (by decide)))
  have f260 : Fld Z h254 c "com/example/terms_to_entities/termstoentities/index/TermCounts" "wholeFrequencies" "[I" (.ref w) := Jvm.RoadKit.Fld.other Wr255 f244 (Or.inr (slot_ne (t := (.array .int)) (t' := .int) (Or.inr (wd hw 13 rfl)) (Or.inl (wd hw 29 rfl)) (by decide) (by decide) (by decide)))
  have f261 : Fld Z h254 c "com/example/terms_to_entities/termstoentities/index/TermCounts" "placeOfPredicate" "[I" (.ref pl) := Jvm.RoadKit.Fld.other Wr255 f245 (Or.inr (slot_ne (t := (.array .int)) (t' := .int) (Or.inr (wd hw 15 rfl)) (Or.inl (wd hw 29 rfl)) (by decide) (by decide) (by decide)))
  have f262 : Fld Z h254 c "com/example/terms_to_entities/termstoentities/index/TermCounts" "predicates" "[I" (.ref pr) := Jvm.RoadKit.Fld.other Wr255 f246 (Or.inr (slot_ne (t := (.array .int)) (t' := .int) (Or.inr (wd hw 17 rfl)) (Or.inl (wd hw 29 rfl)) (by decide) (by decide) (by decide)))
  have f263 : Fld Z h254 c "com/example/terms_to_entities/termstoentities/index/TermCounts" "predicateLengths" "[J" (.ref le) := Jvm.RoadKit.Fld.other Wr255 f247 (Or.inr (slot_ne (t := (.array .long)) (t' := .int) (Or.inr (wd hw 20 rfl)) (Or.inl (wd hw 29 rfl)) (by decide) (by decide) (by decide)))
  have f264 : Fld Z h254 c "com/example/terms_to_entities/termstoentities/index/TermCounts" "predicateFrequencies" "[I" (.ref fr) := Jvm.RoadKit.Fld.other Wr255 f248 (Or.inr (slot_ne (t := (.array .int)) (t' := .int) (Or.inr (wd hw 22 rfl)) (Or.inl (wd hw 29 rfl)) (by decide) (by decide) (by decide)))
  have f265 : IA Z h254 w xw := f250.other Wr255 (Ne.symm ne_c_w)
  have f266 : IA Z h254 pl (xpl.set p pk) := f251.other Wr255 (Ne.symm ne_c_pl)
  have f267 : IA Z h254 pr (xpr.set q x) := f252.other Wr255 (Ne.symm ne_c_pr)
  have f268 : JA Z h254 le (xle.set q (0 : Int64)) := f253.other Wr255 (Ne.symm ne_c_le)
  have f269 : IA Z h254 fr (own_fr (0 : Int32) xfr (q * t) ((q + 1) * t - q * t)) := f240.other Wr255 (Ne.symm ne_c_fr)
  exact k_retVoid (pc := 68) H d3_68 (by show 0 ≤ own_rm3_room.cells; decide) (by show 0 ≤ own_rm3_room.slots; decide) (⟨rfl, KW257, ⟨f258, f259, f260, f261, f262, f263, f264, f256, f265, f266, f267, f268, f269⟩⟩)
theorem d6_0 : decode prog_14_method_12_code 0 = .ok (.aload_n 0, 1) := by decide +kernel
theorem d6_1 : decode prog_14_method_12_code 1 = .ok (.getfield 27, 3) := by decide +kernel
theorem d6_4 : decode prog_14_method_12_code 4 = .ok (.aload_n 0, 1) := by decide +kernel
theorem d6_5 : decode prog_14_method_12_code 5 = .ok (.getfield 17, 3) := by decide +kernel
theorem d6_8 : decode prog_14_method_12_code 8 = .ok (.iload_n 1, 1) := by decide +kernel
theorem d6_9 : decode prog_14_method_12_code 9 = .ok (.iaload, 1) := by decide +kernel
theorem d6_10 : decode prog_14_method_12_code 10 = .ok (.aload_n 0, 1) := by decide +kernel
theorem d6_11 : decode prog_14_method_12_code 11 = .ok (.getfield 7, 3) := by decide +kernel
theorem d6_14 : decode prog_14_method_12_code 14 = .ok (.imul, 1) := by decide +kernel
theorem d6_15 : decode prog_14_method_12_code 15 = .ok (.iload_n 2, 1) := by decide +kernel
theorem d6_16 : decode prog_14_method_12_code 16 = .ok (.iadd, 1) := by decide +kernel
theorem d6_17 : decode prog_14_method_12_code 17 = .ok (.dup2, 1) := by decide +kernel
theorem d6_18 : decode prog_14_method_12_code 18 = .ok (.iaload, 1) := by decide +kernel
theorem d6_19 : decode prog_14_method_12_code 19 = .ok (.iload_n 3, 1) := by decide +kernel
theorem d6_20 : decode prog_14_method_12_code 20 = .ok (.iadd, 1) := by decide +kernel
theorem d6_21 : decode prog_14_method_12_code 21 = .ok (.iastore, 1) := by decide +kernel
theorem d6_22 : decode prog_14_method_12_code 22 = .ok (.return_, 1) := by decide +kernel
abbrev own_rm6_room : Room := { frames := 0, cells := 0, slots := 0, locals := 0 }
set_option maxRecDepth 65536 in
set_option maxHeartbeats 40000000 in
theorem rm6 (l : Launch) (Z : State) (a0 : Array Value) (hw : ∀ d ∈ tables_1, d.before a0 Z = true) (n0 : Nat) (h0 : Heap) (Z0 : n0 ≤ h0.size) (c w pl pr le fr : Addr) (tm : Int32) (xw xpl xpr : List Int32) (xle : List Int64) (xfr : List Int32) (wl : Int64) (pk : Int32) (x y z : Int32) (p q t u : Nat) (q32 : Int32) (AP : own_Ap n0 c w pl pr le fr) (T : own_TC Z h0 c w pl pr le fr tm xw xpl xpr xle xfr wl pk) (hp : x.toInt = (p : Int)) (hpl : xpl[p]? = some q32) (hq : q32.toInt = (q : Int)) (ht : tm.toInt = (t : Int)) (hu : y.toInt = (u : Int)) (hql : q * t + u < xfr.length) (hlen : xfr.length < 1000) :
    Ctr l Z (⟨"com/example/terms_to_entities/termstoentities/index/TermCounts", "count", "(III)V"⟩ : MethodName) prog_14_method_12_code 4 none own_rm6_room n0 #[(.ref c), (.int x), (.int y), (.int z)] h0 (fun v h => v = none ∧ Keep h0 h [c, w, pl, pr, le, fr] ∧ own_TC Z h c w pl pr le fr tm xw xpl xpr xle (xfr.set (q * t + u) (xfr.getD (q * t + u) 0 + z)) wl pk) := by
  refine Ctr.of #[.val (.ref c), .val (.int x), .val (.int y), .val (.int z)] pn_1 Z0 (fun m => by first | (simp [entryFrame, mkF, argsToLocals, Value.category]; done) | rfl) ?_
  intro C H
  have TT := T
  have AQ := AP
  obtain ⟨ge_c, ge_w, ge_pl, ge_pr, ge_le, ge_fr, ne_c_w, ne_c_pl, ne_c_pr, ne_c_le, ne_c_fr, ne_w_pl, ne_w_pr, ne_w_le, ne_w_fr, ne_pl_pr, ne_pl_le, ne_pl_fr, ne_pr_le, ne_pr_fr, ne_le_fr⟩ := AQ
  obtain ⟨X, F_terms, F_wholeFrequencies, F_placeOfPredicate, F_predicates, F_predicateLengths, F_predicateFrequencies, F_predicateCount, V_w, V_pl, V_pr, V_le, V_fr⟩ := TT
  have hi : (q32 * tm + y).toInt = ((q * t + u : Nat) : Int) := add_nat (mul_nat hq ht (by omega)) hu (by omega)
  refine k_aloadN (pc := 0) H d6_0 rfl rfl ?_
  refine k_getfield (pc := 1) H (wd hw 21 rfl) F_predicateFrequencies d6_1 ?_
  refine k_aloadN (pc := 4) H d6_4 rfl rfl ?_
  refine k_getfield (pc := 5) H (wd hw 14 rfl) F_placeOfPredicate d6_5 ?_
  refine k_iloadN (pc := 8) H d6_8 rfl ?_
  refine k_ialoadT (i := p) (x := q32) (pc := 9) H V_pl (hp) (hpl) d6_9 ?_
  refine k_aloadN (pc := 10) H d6_10 rfl rfl ?_
  refine k_getfield (pc := 11) H (wd hw 10 rfl) F_terms d6_11 ?_
  refine k_imul (pc := 14) H d6_14 ?_
  refine k_iloadN (pc := 15) H d6_15 rfl ?_
  refine k_iadd (pc := 16) H d6_16 ?_
  refine k_dup2 (pc := 17) H d6_17 rfl rfl ?_
  refine k_ialoadT (i := (q * t + u)) (x := (xfr.getD (q * t + u) 0)) (pc := 18) H V_fr (hi) (own_get 0 hql) d6_18 ?_
  refine k_iloadN (pc := 19) H d6_19 rfl ?_
  refine k_iadd (pc := 20) H d6_20 ?_
  refine k_iastoreT (i := (q * t + u)) (pc := 21) H V_fr (hi) (hql) ge_fr d6_21 ?_
  intro h270 K271 V272
  have KW273 : Keep h0 h270 [c, w, pl, pr, le, fr] := (Keep.refl h0 [c, w, pl, pr, le, fr]).trans K271 (allS (Or.inl (List.mem_of_getElem? (i := 5) rfl)) all0)
  have f274 : Exa Z h270 c "com/example/terms_to_entities/termstoentities/index/TermCounts" := X.keep K271
  have f275 : Fld Z h270 c "com/example/terms_to_entities/termstoentities/index/TermCounts" "terms" "I" (.int tm) := F_terms.keep K271 (ninS ne_c_fr nin0)
  have f276 : Fld Z h270 c "com/example/terms_to_entities/termstoentities/index/TermCounts" "wholeFrequencies" "[I" (.ref w) := F_wholeFrequencies.keep K271 (ninS ne_c_fr nin0)
  have f277 : Fld Z h270 c "com/example/terms_to_entities/termstoentities/index/TermCounts" "placeOfPredicate" "[I" (.ref pl) := F_placeOfPredicate.keep K271 (ninS ne_c_fr nin0)
  have f278 : Fld Z h270 c "com/example/terms_to_entities/termstoentities/index/TermCounts" "predicates" "[I" (.ref pr) := F_predicates.keep K271 (ninS ne_c_fr nin0)
  have f279 : Fld Z h270 c "com/example/terms_to_entities/termstoentities/index/TermCounts" "predicateLengths" "[J" (.ref le) := F_predicateLengths.keep K271 (ninS ne_c_fr nin0)
  have f280 : Fld Z h270 c "com/example/terms_to_entities/termstoentities/index/TermCounts" "predicateFrequencies" "[I" (.ref fr) := F_predicateFrequencies.keep K271 (ninS ne_c_fr nin0)
  have f281 : Fld Z h270 c "com/example/terms_to_entities/termstoentities/index/TermCounts" "predicateCount" "I" (.int pk) := F_predicateCount.keep K271 (ninS ne_c_fr nin0)
  have f282 : IA Z h270 w xw := V_w.keep K271 (ninS ne_w_fr nin0)
  have f283 : IA Z h270 pl xpl := V_pl.keep K271 (ninS ne_pl_fr nin0)
  have f284 : IA Z h270 pr xpr := V_pr.keep K271 (ninS ne_pr_fr nin0)
  have f285 : JA Z h270 le xle := V_le.keep K271 (ninS ne_le_fr nin0)
  exact k_retVoid (pc := 22) H d6_22 (by show 0 ≤ own_rm6_room.cells; decide) (by show 0 ≤ own_rm6_room.slots; decide) (⟨rfl, KW273, ⟨f274, f275, f276, f277, f278, f279, f280, f281, f282, f283, f284, f285, V272⟩⟩)
theorem d7_0 : decode prog_14_method_7_code 0 = .ok (.aload_n 0, 1) := by decide +kernel
theorem d7_1 : decode prog_14_method_7_code 1 = .ok (.getfield 27, 3) := by decide +kernel
theorem d7_4 : decode prog_14_method_7_code 4 = .ok (.iload_n 1, 1) := by decide +kernel
theorem d7_5 : decode prog_14_method_7_code 5 = .ok (.aload_n 0, 1) := by decide +kernel
theorem d7_6 : decode prog_14_method_7_code 6 = .ok (.getfield 7, 3) := by decide +kernel
theorem d7_9 : decode prog_14_method_7_code 9 = .ok (.imul, 1) := by decide +kernel
theorem d7_10 : decode prog_14_method_7_code 10 = .ok (.iload_n 2, 1) := by decide +kernel
theorem d7_11 : decode prog_14_method_7_code 11 = .ok (.iadd, 1) := by decide +kernel
theorem d7_12 : decode prog_14_method_7_code 12 = .ok (.iaload, 1) := by decide +kernel
theorem d7_13 : decode prog_14_method_7_code 13 = .ok (.ireturn, 1) := by decide +kernel
abbrev own_rm7_room : Room := { frames := 0, cells := 0, slots := 0, locals := 0 }
set_option maxRecDepth 65536 in
set_option maxHeartbeats 40000000 in
theorem rm7 (l : Launch) (Z : State) (a0 : Array Value) (hw : ∀ d ∈ tables_1, d.before a0 Z = true) (n0 : Nat) (h0 : Heap) (Z0 : n0 ≤ h0.size) (c w pl pr le fr : Addr) (tm : Int32) (xw xpl xpr : List Int32) (xle : List Int64) (xfr : List Int32) (wl : Int64) (pk : Int32) (x y : Int32) (q t u : Nat) (AP : own_Ap n0 c w pl pr le fr) (T : own_TC Z h0 c w pl pr le fr tm xw xpl xpr xle xfr wl pk) (hq : x.toInt = (q : Int)) (ht : tm.toInt = (t : Int)) (hu : y.toInt = (u : Int)) (hql : q * t + u < xfr.length) (hlen : xfr.length < 1000) :
    Ctr l Z (⟨"com/example/terms_to_entities/termstoentities/index/TermCounts", "predicateFrequency", "(II)I"⟩ : MethodName) prog_14_method_7_code 3 (some .int) own_rm7_room n0 #[(.ref c), (.int x), (.int y)] h0 (fun v h => v = some (.int (xfr.getD (q * t + u) 0)) ∧ h = h0) := by
  refine Ctr.of #[.val (.ref c), .val (.int x), .val (.int y)] pn_1 Z0 (fun m => by first | (simp [entryFrame, mkF, argsToLocals, Value.category]; done) | rfl) ?_
  intro C H
  have TT := T
  have AQ := AP
  obtain ⟨ge_c, ge_w, ge_pl, ge_pr, ge_le, ge_fr, ne_c_w, ne_c_pl, ne_c_pr, ne_c_le, ne_c_fr, ne_w_pl, ne_w_pr, ne_w_le, ne_w_fr, ne_pl_pr, ne_pl_le, ne_pl_fr, ne_pr_le, ne_pr_fr, ne_le_fr⟩ := AQ
  obtain ⟨X, F_terms, F_wholeFrequencies, F_placeOfPredicate, F_predicates, F_predicateLengths, F_predicateFrequencies, F_predicateCount, V_w, V_pl, V_pr, V_le, V_fr⟩ := TT
  have hi : (x * tm + y).toInt = ((q * t + u : Nat) : Int) := add_nat (mul_nat hq ht (by omega)) hu (by omega)
  refine k_aloadN (pc := 0) H d7_0 rfl rfl ?_
  refine k_getfield (pc := 1) H (wd hw 21 rfl) F_predicateFrequencies d7_1 ?_
  refine k_iloadN (pc := 4) H d7_4 rfl ?_
  refine k_aloadN (pc := 5) H d7_5 rfl rfl ?_
  refine k_getfield (pc := 6) H (wd hw 10 rfl) F_terms d7_6 ?_
  refine k_imul (pc := 9) H d7_9 ?_
  refine k_iloadN (pc := 10) H d7_10 rfl ?_
  refine k_iadd (pc := 11) H d7_11 ?_
  refine k_ialoadT (i := (q * t + u)) (x := (xfr.getD (q * t + u) 0)) (pc := 12) H V_fr (hi) (own_get 0 hql) d7_12 ?_
  exact k_retInt (pc := 13) H d7_13 (by show 0 ≤ own_rm7_room.cells; decide) (by show 0 ≤ own_rm7_room.slots; decide) (⟨rfl, rfl⟩)
theorem d8_0 : decode prog_14_method_3_code 0 = .ok (.aload_n 0, 1) := by decide +kernel
theorem d8_1 : decode prog_14_method_3_code 1 = .ok (.getfield 13, 3) := by decide +kernel
theorem d8_4 : decode prog_14_method_3_code 4 = .ok (.iload_n 1, 1) := by decide +kernel
theorem d8_5 : decode prog_14_method_3_code 5 = .ok (.iaload, 1) := by decide +kernel
theorem d8_6 : decode prog_14_method_3_code 6 = .ok (.istore_n 2, 1) := by decide +kernel
theorem d8_7 : decode prog_14_method_3_code 7 = .ok (.iconst 0, 1) := by decide +kernel
theorem d8_8 : decode prog_14_method_3_code 8 = .ok (.istore_n 3, 1) := by decide +kernel
theorem d8_9 : decode prog_14_method_3_code 9 = .ok (.iload_n 3, 1) := by decide +kernel
theorem d8_10 : decode prog_14_method_3_code 10 = .ok (.aload_n 0, 1) := by decide +kernel
theorem d8_11 : decode prog_14_method_3_code 11 = .ok (.getfield 34, 3) := by decide +kernel
theorem d8_14 : decode prog_14_method_3_code 14 = .ok (.if_icmp .ge 18, 3) := by decide +kernel
theorem d8_17 : decode prog_14_method_3_code 17 = .ok (.iload_n 2, 1) := by decide +kernel
theorem d8_18 : decode prog_14_method_3_code 18 = .ok (.aload_n 0, 1) := by decide +kernel
theorem d8_19 : decode prog_14_method_3_code 19 = .ok (.iload_n 3, 1) := by decide +kernel
theorem d8_20 : decode prog_14_method_3_code 20 = .ok (.iload_n 1, 1) := by decide +kernel
theorem d8_21 : decode prog_14_method_3_code 21 = .ok (.invokevirtual 37, 3) := by decide +kernel
theorem d8_24 : decode prog_14_method_3_code 24 = .ok (.isub, 1) := by decide +kernel
theorem d8_25 : decode prog_14_method_3_code 25 = .ok (.istore_n 2, 1) := by decide +kernel
theorem d8_26 : decode prog_14_method_3_code 26 = .ok (.iinc 3 1, 3) := by decide +kernel
theorem d8_29 : decode prog_14_method_3_code 29 = .ok (.goto (-20), 3) := by decide +kernel
theorem d8_32 : decode prog_14_method_3_code 32 = .ok (.iload_n 2, 1) := by decide +kernel
theorem d8_33 : decode prog_14_method_3_code 33 = .ok (.ireturn, 1) := by decide +kernel
abbrev own_rm8_room : Room := { frames := 1, cells := 0, slots := 0, locals := 15 }
set_option maxRecDepth 65536 in
set_option maxHeartbeats 40000000 in
theorem rm8 (l : Launch) (Z : State) (a0 : Array Value) (hw : ∀ d ∈ tables_1, d.before a0 Z = true) (n0 : Nat) (h0 : Heap) (Z0 : n0 ≤ h0.size) (c w pl pr le fr : Addr) (tm : Int32) (xw xpl xpr : List Int32) (xle : List Int64) (xfr : List Int32) (wl : Int64) (pk : Int32) (y : Int32) (q t u : Nat) (AP : own_Ap n0 c w pl pr le fr) (T : own_TC Z h0 c w pl pr le fr tm xw xpl xpr xle xfr wl pk) (hq : pk.toInt = (q : Int)) (ht : tm.toInt = (t : Int)) (hu : y.toInt = (u : Int)) (huw : u < xw.length) (hql : ∀ i, i < q → i * t + u < xfr.length) (hlen : xfr.length < 1000) (hq1 : q < 1000) :
    Ctr l Z (⟨"com/example/terms_to_entities/termstoentities/index/TermCounts", "restFrequency", "(I)I"⟩ : MethodName) prog_14_method_3_code 4 (some .int) own_rm8_room n0 #[(.ref c), (.int y)] h0 (fun v h => v = some (.int (own_rf (fun i => xfr.getD (i * t + u) 0) 0 q (xw.getD u 0))) ∧ h = h0) := by
  refine Ctr.of #[.val (.ref c), .val (.int y), .unset, .unset] pn_1 Z0 (fun m => by first | (simp [entryFrame, mkF, argsToLocals, Value.category]; done) | rfl) ?_
  intro C H
  have TT := T
  have AQ := AP
  obtain ⟨ge_c, ge_w, ge_pl, ge_pr, ge_le, ge_fr, ne_c_w, ne_c_pl, ne_c_pr, ne_c_le, ne_c_fr, ne_w_pl, ne_w_pr, ne_w_le, ne_w_fr, ne_pl_pr, ne_pl_le, ne_pl_fr, ne_pr_le, ne_pr_fr, ne_le_fr⟩ := AQ
  obtain ⟨X, F_terms, F_wholeFrequencies, F_placeOfPredicate, F_predicates, F_predicateLengths, F_predicateFrequencies, F_predicateCount, V_w, V_pl, V_pr, V_le, V_fr⟩ := TT
  refine k_aloadN (pc := 0) H d8_0 rfl rfl ?_
  refine k_getfield (pc := 1) H (wd hw 12 rfl) F_wholeFrequencies d8_1 ?_
  refine k_iloadN (pc := 4) H d8_4 rfl ?_
  refine k_ialoadT (i := u) (x := (xw.getD u 0)) (pc := 5) H V_w (hu) (own_get 0 huw) d8_5 ?_
  refine k_istoreN (pc := 6) H d8_6 (Ls' := #[.val (.ref c), .val (.int y), .val (.int (xw.getD u 0)), .unset]) rfl ?_
  refine k_iconst (0 : Int32) (pc := 7) H d8_7 rfl ?_
  refine k_istoreN (pc := 8) H d8_8 (Ls' := #[.val (.ref c), .val (.int y), .val (.int (xw.getD u 0)), .val (.int (0 : Int32))]) rfl ?_
  have L : ∀ (m i : Nat) (ii s : Int32) (hi : ii.toInt = (i : Int)) (hm : i + m = q) (hv : own_rf (fun i => xfr.getD (i * t + u) 0) 0 q (xw.getD u 0) = own_rf (fun i => xfr.getD (i * t + u) 0) i m s), W l own_rm8_room C (n0, own_rm8_room.cells, own_rm8_room.slots, fun v h => v = some (.int (own_rf (fun i => xfr.getD (i * t + u) 0) 0 q (xw.getD u 0))) ∧ h = h0) h0 0 0 9 #[.val (.ref c), .val (.int y), .val (.int s), .val (.int ii)] [] := by
    intro m
    induction m with
    | zero =>
      intro i ii s hi hm hv
      refine k_iloadN (pc := 9) H d8_9 rfl ?_
      refine k_aloadN (pc := 10) H d8_10 rfl rfl ?_
      refine k_getfield (pc := 11) H (wd hw 28 rfl) F_predicateCount d8_11 ?_
      refine k_icmpT 32 (pc := 14) H d8_14 rfl (XT.ii_ge_t (fun q => by have := (lt_nat hi hq).mp q; omega)) ?_
      refine k_iloadN (pc := 32) H d8_32 rfl ?_
      exact k_retInt (pc := 33) H d8_33 (by show 0 ≤ own_rm8_room.cells; decide) (by show 0 ≤ own_rm8_room.slots; decide) (⟨by rw [hv]; rfl, rfl⟩)
    | succ m ih =>
      intro i ii s hi hm hv
      refine k_iloadN (pc := 9) H d8_9 rfl ?_
      refine k_aloadN (pc := 10) H d8_10 rfl rfl ?_
      refine k_getfield (pc := 11) H (wd hw 28 rfl) F_predicateCount d8_11 ?_
      refine k_icmpF (pc := 14) H d8_14 (XT.ii_ge_f ((lt_nat hi hq).mpr (by omega))) ?_
      refine k_iloadN (pc := 17) H d8_17 rfl ?_
      refine k_aloadN (pc := 18) H d8_18 rfl rfl ?_
      refine k_iloadN (pc := 19) H d8_19 rfl ?_
      refine k_iloadN (pc := 20) H d8_20 rfl ?_
      refine k_invV (y := (⟨"com/example/terms_to_entities/termstoentities/index/TermCounts", "predicateFrequency", "(II)I"⟩ : MethodName)) (st := [(.int s)]) (a := c) [(.int ii), (.int y)] 1 (pc := 21) H (wd hw 52 rfl) (wd hw 43 rfl) (wd hw 45 rfl) (wd hw 44 rfl) (wd hw 3 rfl) (wd hw 46 rfl) rfl (by decide) X (fun z0 => rm7 l Z a0 hw n0 h0 z0 c w pl pr le fr tm xw xpl xpr xle xfr wl pk ii y i t u AP T hi ht hu (hql i (by omega)) hlen) (lenOf pd_2 rfl) d8_21 rfl rfl rfl (by decide) (by decide) (by decide) (by decide) ?_
      rintro v hx ⟨rfl, ex⟩
      rw [ex]
      clear ex hx
      show W l own_rm8_room C _ h0 0 0 24 #[.val (.ref c), .val (.int y), .val (.int s), .val (.int ii)] [(.int (xfr.getD (i * t + u) 0)), (.int s)]
      refine k_isub (pc := 24) H d8_24 ?_
      refine k_istoreN (pc := 25) H d8_25 (Ls' := #[.val (.ref c), .val (.int y), .val (.int (s - (xfr.getD (i * t + u) 0))), .val (.int ii)]) rfl ?_
      refine k_iinc (1 : Int32) (pc := 26) H d8_26 rfl rfl (Ls' := #[.val (.ref c), .val (.int y), .val (.int (s - (xfr.getD (i * t + u) 0))), .val (.int (ii + (1 : Int32)))]) rfl ?_
      refine k_goto 9 (pc := 29) H d8_29 rfl ?_
      exact ih (i + 1) _ _ (add_nat hi rfl (by omega)) (by omega) (by rw [hv]; rfl)
  exact L _ 0 _ _ rfl (by omega) rfl
theorem d0_0 : decode code 0 = .ok (.iload_n 0, 1) := by decide +kernel
theorem d0_1 : decode code 1 = .ok (.iconst 3, 1) := by decide +kernel
theorem d0_2 : decode code 2 = .ok (.iand, 1) := by decide +kernel
theorem d0_3 : decode code 3 = .ok (.iconst 3, 1) := by decide +kernel
theorem d0_4 : decode code 4 = .ok (.irem, 1) := by decide +kernel
theorem d0_5 : decode code 5 = .ok (.istore_n 3, 1) := by decide +kernel
theorem d0_6 : decode code 6 = .ok (.iload_n 3, 1) := by decide +kernel
theorem d0_7 : decode code 7 = .ok (.iconst 1, 1) := by decide +kernel
theorem d0_8 : decode code 8 = .ok (.iadd, 1) := by decide +kernel
theorem d0_9 : decode code 9 = .ok (.iload_n 0, 1) := by decide +kernel
theorem d0_10 : decode code 10 = .ok (.iconst 2, 1) := by decide +kernel
theorem d0_11 : decode code 11 = .ok (.iushr, 1) := by decide +kernel
theorem d0_12 : decode code 12 = .ok (.iconst 1, 1) := by decide +kernel
theorem d0_13 : decode code 13 = .ok (.iand, 1) := by decide +kernel
theorem d0_14 : decode code 14 = .ok (.iadd, 1) := by decide +kernel
theorem d0_15 : decode code 15 = .ok (.iconst 3, 1) := by decide +kernel
theorem d0_16 : decode code 16 = .ok (.irem, 1) := by decide +kernel
theorem d0_17 : decode code 17 = .ok (.istore 4, 2) := by decide +kernel
theorem d0_19 : decode code 19 = .ok (.iload_n 0, 1) := by decide +kernel
theorem d0_20 : decode code 20 = .ok (.iconst 3, 1) := by decide +kernel
theorem d0_21 : decode code 21 = .ok (.iushr, 1) := by decide +kernel
theorem d0_22 : decode code 22 = .ok (.iconst 1, 1) := by decide +kernel
theorem d0_23 : decode code 23 = .ok (.iand, 1) := by decide +kernel
theorem d0_24 : decode code 24 = .ok (.istore 5, 2) := by decide +kernel
theorem d0_26 : decode code 26 = .ok (.iload_n 0, 1) := by decide +kernel
theorem d0_27 : decode code 27 = .ok (.iconst 4, 1) := by decide +kernel
theorem d0_28 : decode code 28 = .ok (.iushr, 1) := by decide +kernel
theorem d0_29 : decode code 29 = .ok (.iconst 1, 1) := by decide +kernel
theorem d0_30 : decode code 30 = .ok (.iand, 1) := by decide +kernel
theorem d0_31 : decode code 31 = .ok (.istore 6, 2) := by decide +kernel
theorem d0_33 : decode code 33 = .ok (.iload_n 0, 1) := by decide +kernel
theorem d0_34 : decode code 34 = .ok (.iconst 5, 1) := by decide +kernel
theorem d0_35 : decode code 35 = .ok (.iushr, 1) := by decide +kernel
theorem d0_36 : decode code 36 = .ok (.iconst 1, 1) := by decide +kernel
theorem d0_37 : decode code 37 = .ok (.iand, 1) := by decide +kernel
theorem d0_38 : decode code 38 = .ok (.istore 7, 2) := by decide +kernel
theorem d0_40 : decode code 40 = .ok (.iload_n 0, 1) := by decide +kernel
theorem d0_41 : decode code 41 = .ok (.bipush 6, 2) := by decide +kernel
theorem d0_43 : decode code 43 = .ok (.iushr, 1) := by decide +kernel
theorem d0_44 : decode code 44 = .ok (.iconst 1, 1) := by decide +kernel
theorem d0_45 : decode code 45 = .ok (.iand, 1) := by decide +kernel
theorem d0_46 : decode code 46 = .ok (.istore 8, 2) := by decide +kernel
theorem d0_48 : decode code 48 = .ok (.iload 5, 2) := by decide +kernel
theorem d0_50 : decode code 50 = .ok (.ifCond .ne 7, 3) := by decide +kernel
theorem d0_53 : decode code 53 = .ok (.iload_n 3, 1) := by decide +kernel
theorem d0_54 : decode code 54 = .ok (.goto 5, 3) := by decide +kernel
theorem d0_57 : decode code 57 = .ok (.iload 4, 2) := by decide +kernel
theorem d0_59 : decode code 59 = .ok (.istore 9, 2) := by decide +kernel
theorem d0_61 : decode code 61 = .ok (.iload 7, 2) := by decide +kernel
theorem d0_63 : decode code 63 = .ok (.ifCond .ne 7, 3) := by decide +kernel
theorem d0_66 : decode code 66 = .ok (.iload_n 3, 1) := by decide +kernel
theorem d0_67 : decode code 67 = .ok (.goto 5, 3) := by decide +kernel
theorem d0_70 : decode code 70 = .ok (.iload 4, 2) := by decide +kernel
theorem d0_72 : decode code 72 = .ok (.istore 10, 2) := by decide +kernel
theorem d0_74 : decode code 74 = .ok (.iconst 4, 1) := by decide +kernel
theorem d0_75 : decode code 75 = .ok (.newarray .int, 2) := by decide +kernel
theorem d0_77 : decode code 77 = .ok (.astore 11, 2) := by decide +kernel
theorem d0_79 : decode code 79 = .ok (.aload 11, 2) := by decide +kernel
theorem d0_81 : decode code 81 = .ok (.iload 5, 2) := by decide +kernel
theorem d0_83 : decode code 83 = .ok (.iconst 2, 1) := by decide +kernel
theorem d0_84 : decode code 84 = .ok (.imul, 1) := by decide +kernel
theorem d0_85 : decode code 85 = .ok (.iload 6, 2) := by decide +kernel
theorem d0_87 : decode code 87 = .ok (.iadd, 1) := by decide +kernel
theorem d0_88 : decode code 88 = .ok (.dup2, 1) := by decide +kernel
theorem d0_89 : decode code 89 = .ok (.iaload, 1) := by decide +kernel
theorem d0_90 : decode code 90 = .ok (.iload_n 1, 1) := by decide +kernel
theorem d0_91 : decode code 91 = .ok (.iadd, 1) := by decide +kernel
theorem d0_92 : decode code 92 = .ok (.iastore, 1) := by decide +kernel
theorem d0_93 : decode code 93 = .ok (.aload 11, 2) := by decide +kernel
theorem d0_95 : decode code 95 = .ok (.iload 7, 2) := by decide +kernel
theorem d0_97 : decode code 97 = .ok (.iconst 2, 1) := by decide +kernel
theorem d0_98 : decode code 98 = .ok (.imul, 1) := by decide +kernel
theorem d0_99 : decode code 99 = .ok (.iload 8, 2) := by decide +kernel
theorem d0_101 : decode code 101 = .ok (.iadd, 1) := by decide +kernel
theorem d0_102 : decode code 102 = .ok (.dup2, 1) := by decide +kernel
theorem d0_103 : decode code 103 = .ok (.iaload, 1) := by decide +kernel
theorem d0_104 : decode code 104 = .ok (.iload_n 2, 1) := by decide +kernel
theorem d0_105 : decode code 105 = .ok (.iadd, 1) := by decide +kernel
theorem d0_106 : decode code 106 = .ok (.iastore, 1) := by decide +kernel
theorem d0_107 : decode code 107 = .ok (.new 7, 3) := by decide +kernel
theorem d0_110 : decode code 110 = .ok (.dup, 1) := by decide +kernel
theorem d0_111 : decode code 111 = .ok (.iconst 2, 1) := by decide +kernel
theorem d0_112 : decode code 112 = .ok (.iconst 3, 1) := by decide +kernel
theorem d0_113 : decode code 113 = .ok (.iconst 2, 1) := by decide +kernel
theorem d0_114 : decode code 114 = .ok (.invokespecial 9, 3) := by decide +kernel
theorem d0_117 : decode code 117 = .ok (.astore 12, 2) := by decide +kernel
theorem d0_119 : decode code 119 = .ok (.aload 12, 2) := by decide +kernel
theorem d0_121 : decode code 121 = .ok (.iload_n 3, 1) := by decide +kernel
theorem d0_122 : decode code 122 = .ok (.invokevirtual 12, 3) := by decide +kernel
theorem d0_125 : decode code 125 = .ok (.aload 12, 2) := by decide +kernel
theorem d0_127 : decode code 127 = .ok (.iload 4, 2) := by decide +kernel
theorem d0_129 : decode code 129 = .ok (.invokevirtual 12, 3) := by decide +kernel
theorem d0_132 : decode code 132 = .ok (.aload 12, 2) := by decide +kernel
theorem d0_134 : decode code 134 = .ok (.iload 9, 2) := by decide +kernel
theorem d0_136 : decode code 136 = .ok (.iload 6, 2) := by decide +kernel
theorem d0_138 : decode code 138 = .ok (.iload_n 1, 1) := by decide +kernel
theorem d0_139 : decode code 139 = .ok (.invokevirtual 16, 3) := by decide +kernel
theorem d0_142 : decode code 142 = .ok (.aload 12, 2) := by decide +kernel
theorem d0_144 : decode code 144 = .ok (.iload 10, 2) := by decide +kernel
theorem d0_146 : decode code 146 = .ok (.iload 8, 2) := by decide +kernel
theorem d0_148 : decode code 148 = .ok (.iload_n 2, 1) := by decide +kernel
theorem d0_149 : decode code 149 = .ok (.invokevirtual 16, 3) := by decide +kernel
theorem d0_152 : decode code 152 = .ok (.aload 12, 2) := by decide +kernel
theorem d0_154 : decode code 154 = .ok (.iconst 0, 1) := by decide +kernel
theorem d0_155 : decode code 155 = .ok (.iconst 0, 1) := by decide +kernel
theorem d0_156 : decode code 156 = .ok (.invokevirtual 19, 3) := by decide +kernel
theorem d0_159 : decode code 159 = .ok (.aload 11, 2) := by decide +kernel
theorem d0_161 : decode code 161 = .ok (.iconst 0, 1) := by decide +kernel
theorem d0_162 : decode code 162 = .ok (.iaload, 1) := by decide +kernel
theorem d0_163 : decode code 163 = .ok (.if_icmp .ne 73, 3) := by decide +kernel
theorem d0_166 : decode code 166 = .ok (.aload 12, 2) := by decide +kernel
theorem d0_168 : decode code 168 = .ok (.iconst 0, 1) := by decide +kernel
theorem d0_169 : decode code 169 = .ok (.iconst 1, 1) := by decide +kernel
theorem d0_170 : decode code 170 = .ok (.invokevirtual 19, 3) := by decide +kernel
theorem d0_173 : decode code 173 = .ok (.aload 11, 2) := by decide +kernel
theorem d0_175 : decode code 175 = .ok (.iconst 1, 1) := by decide +kernel
theorem d0_176 : decode code 176 = .ok (.iaload, 1) := by decide +kernel
theorem d0_177 : decode code 177 = .ok (.if_icmp .ne 59, 3) := by decide +kernel
theorem d0_180 : decode code 180 = .ok (.aload 12, 2) := by decide +kernel
theorem d0_182 : decode code 182 = .ok (.iconst 1, 1) := by decide +kernel
theorem d0_183 : decode code 183 = .ok (.iconst 0, 1) := by decide +kernel
theorem d0_184 : decode code 184 = .ok (.invokevirtual 19, 3) := by decide +kernel
theorem d0_187 : decode code 187 = .ok (.aload 11, 2) := by decide +kernel
theorem d0_189 : decode code 189 = .ok (.iconst 2, 1) := by decide +kernel
theorem d0_190 : decode code 190 = .ok (.iaload, 1) := by decide +kernel
theorem d0_191 : decode code 191 = .ok (.if_icmp .ne 45, 3) := by decide +kernel
theorem d0_194 : decode code 194 = .ok (.aload 12, 2) := by decide +kernel
theorem d0_196 : decode code 196 = .ok (.iconst 1, 1) := by decide +kernel
theorem d0_197 : decode code 197 = .ok (.iconst 1, 1) := by decide +kernel
theorem d0_198 : decode code 198 = .ok (.invokevirtual 19, 3) := by decide +kernel
theorem d0_201 : decode code 201 = .ok (.aload 11, 2) := by decide +kernel
theorem d0_203 : decode code 203 = .ok (.iconst 3, 1) := by decide +kernel
theorem d0_204 : decode code 204 = .ok (.iaload, 1) := by decide +kernel
theorem d0_205 : decode code 205 = .ok (.if_icmp .ne 31, 3) := by decide +kernel
theorem d0_208 : decode code 208 = .ok (.aload 12, 2) := by decide +kernel
theorem d0_210 : decode code 210 = .ok (.iload 6, 2) := by decide +kernel
theorem d0_212 : decode code 212 = .ok (.invokevirtual 23, 3) := by decide +kernel
theorem d0_215 : decode code 215 = .ok (.aload 11, 2) := by decide +kernel
theorem d0_217 : decode code 217 = .ok (.iload 6, 2) := by decide +kernel
theorem d0_219 : decode code 219 = .ok (.iaload, 1) := by decide +kernel
theorem d0_220 : decode code 220 = .ok (.aload 11, 2) := by decide +kernel
theorem d0_222 : decode code 222 = .ok (.iconst 2, 1) := by decide +kernel
theorem d0_223 : decode code 223 = .ok (.iload 6, 2) := by decide +kernel
theorem d0_225 : decode code 225 = .ok (.iadd, 1) := by decide +kernel
theorem d0_226 : decode code 226 = .ok (.iaload, 1) := by decide +kernel
theorem d0_227 : decode code 227 = .ok (.iadd, 1) := by decide +kernel
theorem d0_228 : decode code 228 = .ok (.ineg, 1) := by decide +kernel
theorem d0_229 : decode code 229 = .ok (.if_icmp .ne 7, 3) := by decide +kernel
theorem d0_232 : decode code 232 = .ok (.iconst 1, 1) := by decide +kernel
theorem d0_233 : decode code 233 = .ok (.goto 4, 3) := by decide +kernel
theorem d0_236 : decode code 236 = .ok (.iconst 0, 1) := by decide +kernel
theorem d0_237 : decode code 237 = .ok (.ireturn, 1) := by decide +kernel
set_option maxRecDepth 65536 in
set_option maxHeartbeats 40000000 in
theorem rm0 (l : Launch) (Z : State) (a0 : Array Value) (hw : ∀ d ∈ tables_1, d.before a0 Z = true) (ws : List Jvm.Cond) (n0 : Nat) (h0 : Heap) (Z0 : n0 ≤ h0.size) (sel : Int32) (f1 : Int32) (f2 : Int32) :
    MetFree l x (head1 (Jvm.Cond.code x code maxLocals ret :: ws) room_1) (fun as_ U => as_ = #[(.int sel), (.int f1), (.int f2)] ∧ Z.Warmed39 U.vm ∧ U.heap = h0) (fun _ _ _ _ _ => True) (fun _ U o U' => ∃ v L, o = .returned v ∧ ((fun v h => v = some (.int 1)) v U'.heap ∧ Fr n0 L) ∧ FrameEnd U o U' L 24 128) := by
  refine met_of (Q := fun v h => v = some (.int 1)) #[.val (.int sel), .val (.int f1), .val (.int f2), .unset, .unset, .unset, .unset, .unset, .unset, .unset, .unset, .unset, .unset] pn_2 Z0 (fun m => by first | (simp [entryFrame, mkF, argsToLocals, Value.category, maxLocals]; done) | rfl) ?_
  intro C H
  refine k_iloadN (pc := 0) H d0_0 rfl ?_
  refine k_iconst (3 : Int32) (pc := 1) H d0_1 rfl ?_
  refine k_iand (pc := 2) H d0_2 ?_
  refine k_iconst (3 : Int32) (pc := 3) H d0_3 rfl ?_
  refine k_irem (pc := 4) H d0_4 (by decide) ?_
  generalize hv_x0 : ((sel &&& (3 : Int32)) % (3 : Int32)) = x0
  refine k_istoreN (pc := 5) H d0_5 (Ls' := #[.val (.int sel), .val (.int f1), .val (.int f2), .val (.int x0), .unset, .unset, .unset, .unset, .unset, .unset, .unset, .unset, .unset]) rfl ?_
  refine k_iloadN (pc := 6) H d0_6 rfl ?_
  refine k_iconst (1 : Int32) (pc := 7) H d0_7 rfl ?_
  refine k_iadd (pc := 8) H d0_8 ?_
  refine k_iloadN (pc := 9) H d0_9 rfl ?_
  refine k_iconst (2 : Int32) (pc := 10) H d0_10 rfl ?_
  refine k_iushr (pc := 11) H d0_11 ?_
  refine k_iconst (1 : Int32) (pc := 12) H d0_12 rfl ?_
  refine k_iand (pc := 13) H d0_13 ?_
  refine k_iadd (pc := 14) H d0_14 ?_
  refine k_iconst (3 : Int32) (pc := 15) H d0_15 rfl ?_
  refine k_irem (pc := 16) H d0_16 (by decide) ?_
  generalize hv_x1 : (((x0 + (1 : Int32)) + ((XT.ushr sel (2 : Int32)) &&& (1 : Int32))) % (3 : Int32)) = x1
  refine k_istore (pc := 17) H d0_17 (Ls' := #[.val (.int sel), .val (.int f1), .val (.int f2), .val (.int x0), .val (.int x1), .unset, .unset, .unset, .unset, .unset, .unset, .unset, .unset]) rfl ?_
  refine k_iloadN (pc := 19) H d0_19 rfl ?_
  refine k_iconst (3 : Int32) (pc := 20) H d0_20 rfl ?_
  refine k_iushr (pc := 21) H d0_21 ?_
  refine k_iconst (1 : Int32) (pc := 22) H d0_22 rfl ?_
  refine k_iand (pc := 23) H d0_23 ?_
  generalize hv_w1 : ((XT.ushr sel (3 : Int32)) &&& (1 : Int32)) = w1
  refine k_istore (pc := 24) H d0_24 (Ls' := #[.val (.int sel), .val (.int f1), .val (.int f2), .val (.int x0), .val (.int x1), .val (.int w1), .unset, .unset, .unset, .unset, .unset, .unset, .unset]) rfl ?_
  refine k_iloadN (pc := 26) H d0_26 rfl ?_
  refine k_iconst (4 : Int32) (pc := 27) H d0_27 rfl ?_
  refine k_iushr (pc := 28) H d0_28 ?_
  refine k_iconst (1 : Int32) (pc := 29) H d0_29 rfl ?_
  refine k_iand (pc := 30) H d0_30 ?_
  generalize hv_t1 : ((XT.ushr sel (4 : Int32)) &&& (1 : Int32)) = t1
  refine k_istore (pc := 31) H d0_31 (Ls' := #[.val (.int sel), .val (.int f1), .val (.int f2), .val (.int x0), .val (.int x1), .val (.int w1), .val (.int t1), .unset, .unset, .unset, .unset, .unset, .unset]) rfl ?_
  refine k_iloadN (pc := 33) H d0_33 rfl ?_
  refine k_iconst (5 : Int32) (pc := 34) H d0_34 rfl ?_
  refine k_iushr (pc := 35) H d0_35 ?_
  refine k_iconst (1 : Int32) (pc := 36) H d0_36 rfl ?_
  refine k_iand (pc := 37) H d0_37 ?_
  generalize hv_w2 : ((XT.ushr sel (5 : Int32)) &&& (1 : Int32)) = w2
  refine k_istore (pc := 38) H d0_38 (Ls' := #[.val (.int sel), .val (.int f1), .val (.int f2), .val (.int x0), .val (.int x1), .val (.int w1), .val (.int t1), .val (.int w2), .unset, .unset, .unset, .unset, .unset]) rfl ?_
  refine k_iloadN (pc := 40) H d0_40 rfl ?_
  refine k_bipush (6 : Int32) (pc := 41) H d0_41 rfl ?_
  refine k_iushr (pc := 43) H d0_43 ?_
  refine k_iconst (1 : Int32) (pc := 44) H d0_44 rfl ?_
  refine k_iand (pc := 45) H d0_45 ?_
  generalize hv_t2 : ((XT.ushr sel (6 : Int32)) &&& (1 : Int32)) = t2
  refine k_istore (pc := 46) H d0_46 (Ls' := #[.val (.int sel), .val (.int f1), .val (.int f2), .val (.int x0), .val (.int x1), .val (.int w1), .val (.int t1), .val (.int w2), .val (.int t2), .unset, .unset, .unset, .unset]) rfl ?_
  refine k_iload (pc := 48) H d0_48 rfl ?_
  obtain ⟨m0, hm0, hm04⟩ := mask_nat sel 3 2 (by decide) (by decide)
  obtain ⟨p0, hp0, hp03⟩ : ∃ z : Nat, x0.toInt = (z : Int) ∧ z < 3 := ⟨m0 % 3, by rw [← hv_x0]; exact rem_nat hm0 rfl, Nat.mod_lt _ (by decide)⟩
  obtain ⟨b0, hb0, hb01⟩ := mask_nat (XT.ushr sel 2) 1 1 (by decide) (by decide)
  obtain ⟨p1, hp1, hp13, hne⟩ : ∃ z : Nat, x1.toInt = (z : Int) ∧ z < 3 ∧ z ≠ p0 := ⟨(p0 + 1 + b0) % 3, by rw [← hv_x1]; exact rem_nat (add_nat (add_nat hp0 rfl (by omega)) hb0 (by omega)) rfl, Nat.mod_lt _ (by decide), by omega⟩
  obtain ⟨v1, hv1, lv1⟩ := mask_nat (XT.ushr sel 3) 1 1 (by decide) (by decide)
  rw [hv_w1] at hv1
  obtain ⟨u1, hu1, lu1⟩ := mask_nat (XT.ushr sel 4) 1 1 (by decide) (by decide)
  rw [hv_t1] at hu1
  obtain ⟨v2, hv2, lv2⟩ := mask_nat (XT.ushr sel 5) 1 1 (by decide) (by decide)
  rw [hv_w2] at hv2
  obtain ⟨u2, hu2, lu2⟩ := mask_nat (XT.ushr sel 6) 1 1 (by decide) (by decide)
  rw [hv_t2] at hu2
  have hi1 : (w1 * (2 : Int32) + t1).toInt = ((v1 * 2 + u1 : Nat) : Int) := add_nat (mul_nat hv1 rfl (by omega)) hu1 (by omega)
  have hi2 : (w2 * (2 : Int32) + t2).toInt = ((v2 * 2 + u2 : Nat) : Int) := add_nat (mul_nat hv2 rfl (by omega)) hu2 (by omega)
  have z1 := eq_nat (y := 0) (j := 0) hv1 rfl
  have z2 := eq_nat (y := 0) (j := 0) hv2 rfl
  refine k_iff0R (P := w1 = 0) 57 (pc := 50) H d0_50 rfl XT.i0_ne_t XT.i0_ne_f (fun c1 => ?_) (fun c1 => ?_)
  · refine k_iload (pc := 57) H d0_57 rfl ?_
    refine k_istore (pc := 59) H d0_59 (Ls' := #[.val (.int sel), .val (.int f1), .val (.int f2), .val (.int x0), .val (.int x1), .val (.int w1), .val (.int t1), .val (.int w2), .val (.int t2), .val (.int x1), .unset, .unset, .unset]) rfl ?_
    refine k_iload (pc := 61) H d0_61 rfl ?_
    refine k_iff0R (P := w2 = 0) 70 (pc := 63) H d0_63 rfl XT.i0_ne_t XT.i0_ne_f (fun c2 => ?_) (fun c2 => ?_)
    · refine k_iload (pc := 70) H d0_70 rfl ?_
      refine k_istore (pc := 72) H d0_72 (Ls' := #[.val (.int sel), .val (.int f1), .val (.int f2), .val (.int x0), .val (.int x1), .val (.int w1), .val (.int t1), .val (.int w2), .val (.int t2), .val (.int x1), .val (.int x1), .unset, .unset]) rfl ?_
      refine k_iconst (4 : Int32) (pc := 74) H d0_74 rfl ?_
      refine k_new_int (4) 4 (pc := 75) H (wd hw 0 rfl) d0_75 (by decide) (by decide) (by decide) (by decide) (by decide) ?_
      intro h287 e ea288 ge289 E290 XA286 V291
      refine k_astore (pc := 77) H d0_77 rfl (Ls' := #[.val (.int sel), .val (.int f1), .val (.int f2), .val (.int x0), .val (.int x1), .val (.int w1), .val (.int t1), .val (.int w2), .val (.int t2), .val (.int x1), .val (.int x1), .val (.ref e), .unset]) rfl ?_
      refine k_aload (pc := 79) H d0_79 rfl rfl ?_
      refine k_iload (pc := 81) H d0_81 rfl ?_
      refine k_iconst (2 : Int32) (pc := 83) H d0_83 rfl ?_
      refine k_imul (pc := 84) H d0_84 ?_
      refine k_iload (pc := 85) H d0_85 rfl ?_
      refine k_iadd (pc := 87) H d0_87 ?_
      refine k_dup2 (pc := 88) H d0_88 rfl rfl ?_
      refine k_ialoadT (i := (v1 * 2 + u1)) (x := ((List.replicate 4 (0 : Int32)).getD (v1 * 2 + u1) 0)) (pc := 89) H V291 (hi1) (own_get 0 (by simp; omega)) d0_89 ?_
      refine k_iloadN (pc := 90) H d0_90 rfl ?_
      refine k_iadd (pc := 91) H d0_91 ?_
      refine k_iastoreT (i := (v1 * 2 + u1)) (pc := 92) H V291 (hi1) (by simp; omega) ge289 d0_92 ?_
      intro h292 K293 V294
      refine k_aload (pc := 93) H d0_93 rfl rfl ?_
      refine k_iload (pc := 95) H d0_95 rfl ?_
      refine k_iconst (2 : Int32) (pc := 97) H d0_97 rfl ?_
      refine k_imul (pc := 98) H d0_98 ?_
      refine k_iload (pc := 99) H d0_99 rfl ?_
      refine k_iadd (pc := 101) H d0_101 ?_
      refine k_dup2 (pc := 102) H d0_102 rfl rfl ?_
      refine k_ialoadT (i := (v2 * 2 + u2)) (x := (((List.replicate (4) 0).set (v1 * 2 + u1) (((List.replicate 4 (0 : Int32)).getD (v1 * 2 + u1) 0) + f1)).getD (v2 * 2 + u2) 0)) (pc := 103) H V294 (hi2) (own_get 0 (by simp; omega)) d0_103 ?_
      refine k_iloadN (pc := 104) H d0_104 rfl ?_
      refine k_iadd (pc := 105) H d0_105 ?_
      refine k_iastoreT (i := (v2 * 2 + u2)) (pc := 106) H V294 (hi2) (by simp; omega) ge289 d0_106 ?_
      intro h295 K296 V297
      obtain ⟨ys, hys⟩ : ∃ ys, ys = (((List.replicate (4) 0).set (v1 * 2 + u1) (((List.replicate 4 (0 : Int32)).getD (v1 * 2 + u1) 0) + f1)).set (v2 * 2 + u2) ((((List.replicate (4) 0).set (v1 * 2 + u1) (((List.replicate 4 (0 : Int32)).getD (v1 * 2 + u1) 0) + f1)).getD (v2 * 2 + u2) 0) + f2)) := ⟨_, rfl⟩
      have hyl : ys.length = 4 := by rw [hys]; simp
      have VE : IA Z h295 e ys := by rw [hys]; exact V297
      refine k_newObj (pc := 107) H (wd hw 1 rfl) (wd hw 2 rfl) (wd hw 3 rfl) d0_107 (by decide) (by decide) ?_
      intro h298 c ea299 ge300 E301 X302 D303
      have ne304 : e ≠ c := Nat.ne_of_lt (by rw [ea299]; exact VE.lt)
      have f305 : IA Z h298 e ys := VE.ext E301
      have f306 : Fld Z h298 c "com/example/terms_to_entities/termstoentities/index/TermCounts" "terms" "I" (.int (0 : Int32)) := D303 (Or.inr (wd hw 11 rfl)) (ty := .int) (by decide)
      have f307 : Fld Z h298 c "com/example/terms_to_entities/termstoentities/index/TermCounts" "wholeFrequencies" "[I" .null := D303 (Or.inr (wd hw 13 rfl)) (ty := (.array .int)) (by decide)
      have f308 : Fld Z h298 c "com/example/terms_to_entities/termstoentities/index/TermCounts" "placeOfPredicate" "[I" .null := D303 (Or.inr (wd hw 15 rfl)) (ty := (.array .int)) (by decide)
      have f309 : Fld Z h298 c "com/example/terms_to_entities/termstoentities/index/TermCounts" "predicates" "[I" .null := D303 (Or.inr (wd hw 17 rfl)) (ty := (.array .int)) (by decide)
      have f310 : Fld Z h298 c "com/example/terms_to_entities/termstoentities/index/TermCounts" "predicateLengths" "[J" .null := D303 (Or.inr (wd hw 20 rfl)) (ty := (.array .long)) (by decide)
      have f311 : Fld Z h298 c "com/example/terms_to_entities/termstoentities/index/TermCounts" "predicateFrequencies" "[I" .null := D303 (Or.inr (wd hw 22 rfl)) (ty := (.array .int)) (by decide)
      have f312 : Fld Z h298 c "com/example/terms_to_entities/termstoentities/index/TermCounts" "predicateCount" "I" (.int (0 : Int32)) := D303 (Or.inl (wd hw 29 rfl)) (ty := .int) (by decide)
      refine k_dup (pc := 110) H d0_110 rfl ?_
      refine k_iconst (2 : Int32) (pc := 111) H d0_111 rfl ?_
      refine k_iconst (3 : Int32) (pc := 112) H d0_112 rfl ?_
      refine k_iconst (2 : Int32) (pc := 113) H d0_113 rfl ?_
      refine k_invI (y := (⟨"com/example/terms_to_entities/termstoentities/index/TermCounts", "<init>", "(III)V"⟩ : MethodName)) (st := [(.ref c)]) (a := c) [(.int (2 : Int32)), (.int (3 : Int32)), (.int (2 : Int32))] 1 (pc := 114) H rfl (wd hw 4 rfl) (wd hw 5 rfl) (wd hw 3 rfl) (wd hw 6 rfl) (by decide) (fun z0 => rm1 l Z a0 hw n0 h298 z0 c ge300 X302 f306 f307 f308 f309 f310 f311 f312) (lenOf pd_0 rfl) d0_114 rfl rfl rfl (by decide) (by decide) (by decide) (by decide) ?_
      rintro v hA ⟨rfl, w, pl, pr, le, fr, AP, NW, K0, T0⟩
      show W l room_1 C _ hA 7 25 117 #[.val (.int sel), .val (.int f1), .val (.int f2), .val (.int x0), .val (.int x1), .val (.int w1), .val (.int t1), .val (.int w2), .val (.int t2), .val (.int x1), .val (.int x1), .val (.ref e), .unset] [(.ref c)]
      have VE0 : IA Z hA e ys := f305.keep K0 (ninS ne304 nin0)
      have elt : e < h298.size := f305.lt
      obtain ⟨n1, n2, n3, n4, n5⟩ := NW
      have nin : e ∉ [c, w, pl, pr, le, fr] := ninS ne304 (ninS (Nat.ne_of_lt (by omega)) (ninS (Nat.ne_of_lt (by omega)) (ninS (Nat.ne_of_lt (by omega)) (ninS (Nat.ne_of_lt (by omega)) (ninS (Nat.ne_of_lt (by omega)) nin0)))))
      refine k_astore (pc := 117) H d0_117 rfl (Ls' := #[.val (.int sel), .val (.int f1), .val (.int f2), .val (.int x0), .val (.int x1), .val (.int w1), .val (.int t1), .val (.int w2), .val (.int t2), .val (.int x1), .val (.int x1), .val (.ref e), .val (.ref c)]) rfl ?_
      refine k_aload (pc := 119) H d0_119 rfl rfl ?_
      refine k_iloadN (pc := 121) H d0_121 rfl ?_
      refine k_invV (y := (⟨"com/example/terms_to_entities/termstoentities/index/TermCounts", "addPredicate", "(I)V"⟩ : MethodName)) (st := []) (a := c) [(.int x0)] 0 (pc := 122) H (wd hw 23 rfl) (wd hw 24 rfl) (wd hw 26 rfl) (wd hw 25 rfl) (wd hw 3 rfl) (wd hw 27 rfl) rfl (by decide) T0.1 (fun z0 => rm3 l Z a0 hw n0 hA z0 _ _ _ _ _ _ _ _ _ _ _ _ _ _ _ p0 0 2 AP T0 hp0 (by simpa using hp03) rfl (by simp) (by simp) rfl (by simp [own_fr_len]) (by simp [own_fr_len]) (by decide)) (lenOf pd_3 rfl) d0_122 rfl rfl rfl (by decide) (by decide) (by decide) (by decide) ?_
      rintro v hA0 ⟨rfl, KA0, TA0⟩
      show W l room_1 C _ hA0 7 25 125 #[.val (.int sel), .val (.int f1), .val (.int f2), .val (.int x0), .val (.int x1), .val (.int w1), .val (.int t1), .val (.int w2), .val (.int t2), .val (.int x1), .val (.int x1), .val (.ref e), .val (.ref c)] []
      refine k_aload (pc := 125) H d0_125 rfl rfl ?_
      refine k_iload (pc := 127) H d0_127 rfl ?_
      have VA0 := VE0.keep KA0 nin
      refine k_invV (y := (⟨"com/example/terms_to_entities/termstoentities/index/TermCounts", "addPredicate", "(I)V"⟩ : MethodName)) (st := []) (a := c) [(.int x1)] 0 (pc := 129) H (wd hw 23 rfl) (wd hw 24 rfl) (wd hw 26 rfl) (wd hw 25 rfl) (wd hw 3 rfl) (wd hw 27 rfl) rfl (by decide) TA0.1 (fun z0 => rm3 l Z a0 hw n0 hA0 z0 _ _ _ _ _ _ _ _ _ _ _ _ _ _ _ p1 1 2 AP TA0 hp1 (by simpa using hp13) rfl (by simp) (by simp) rfl (by simp [own_fr_len]) (by simp [own_fr_len]) (by decide)) (lenOf pd_3 rfl) d0_129 rfl rfl rfl (by decide) (by decide) (by decide) (by decide) ?_
      rintro v hA1 ⟨rfl, KA1, TA1⟩
      show W l room_1 C _ hA1 7 25 132 #[.val (.int sel), .val (.int f1), .val (.int f2), .val (.int x0), .val (.int x1), .val (.int w1), .val (.int t1), .val (.int w2), .val (.int t2), .val (.int x1), .val (.int x1), .val (.ref e), .val (.ref c)] []
      refine k_aload (pc := 132) H d0_132 rfl rfl ?_
      refine k_iload (pc := 134) H d0_134 rfl ?_
      refine k_iload (pc := 136) H d0_136 rfl ?_
      refine k_iloadN (pc := 138) H d0_138 rfl ?_
      have VA1 := VA0.keep KA1 nin
      have TZ := own_TC_fr (ys := List.replicate 4 0) TA1 rfl
      refine k_invV (y := (⟨"com/example/terms_to_entities/termstoentities/index/TermCounts", "count", "(III)V"⟩ : MethodName)) (st := []) (a := c) [(.int x1), (.int t1), (.int f1)] 0 (pc := 139) H (wd hw 37 rfl) (wd hw 38 rfl) (wd hw 40 rfl) (wd hw 39 rfl) (wd hw 3 rfl) (wd hw 41 rfl) rfl (by decide) TZ.1 (fun z0 => rm6 l Z a0 hw n0 hA1 z0 _ _ _ _ _ _ _ _ _ _ _ _ _ _ _ _ f1 p1 1 2 u1 _ AP TZ hp1 (own_set_get (by simpa using hp13)) rfl rfl hu1 (by simp; omega) (by simp)) (lenOf pd_0 rfl) d0_139 rfl rfl rfl (by decide) (by decide) (by decide) (by decide) ?_
      rintro v hB0 ⟨rfl, KB0, TB0⟩
      show W l room_1 C _ hB0 7 25 142 #[.val (.int sel), .val (.int f1), .val (.int f2), .val (.int x0), .val (.int x1), .val (.int w1), .val (.int t1), .val (.int w2), .val (.int t2), .val (.int x1), .val (.int x1), .val (.ref e), .val (.ref c)] []
      refine k_aload (pc := 142) H d0_142 rfl rfl ?_
      refine k_iload (pc := 144) H d0_144 rfl ?_
      refine k_iload (pc := 146) H d0_146 rfl ?_
      refine k_iloadN (pc := 148) H d0_148 rfl ?_
      have VB0 := VA1.keep KB0 nin
      refine k_invV (y := (⟨"com/example/terms_to_entities/termstoentities/index/TermCounts", "count", "(III)V"⟩ : MethodName)) (st := []) (a := c) [(.int x1), (.int t2), (.int f2)] 0 (pc := 149) H (wd hw 37 rfl) (wd hw 38 rfl) (wd hw 40 rfl) (wd hw 39 rfl) (wd hw 3 rfl) (wd hw 41 rfl) rfl (by decide) TB0.1 (fun z0 => rm6 l Z a0 hw n0 hB0 z0 _ _ _ _ _ _ _ _ _ _ _ _ _ _ _ _ f2 p1 1 2 u2 _ AP TB0 hp1 (own_set_get (by simpa using hp13)) rfl rfl hu2 (by simp; omega) (by simp)) (lenOf pd_0 rfl) d0_149 rfl rfl rfl (by decide) (by decide) (by decide) (by decide) ?_
      rintro v hB1 ⟨rfl, KB1, TB1⟩
      show W l room_1 C _ hB1 7 25 152 #[.val (.int sel), .val (.int f1), .val (.int f2), .val (.int x0), .val (.int x1), .val (.int w1), .val (.int t1), .val (.int w2), .val (.int t2), .val (.int x1), .val (.int x1), .val (.ref e), .val (.ref c)] []
      refine k_aload (pc := 152) H d0_152 rfl rfl ?_
      refine k_iconst (0 : Int32) (pc := 154) H d0_154 rfl ?_
      refine k_iconst (0 : Int32) (pc := 155) H d0_155 rfl ?_
      have VB1 := VB0.keep KB1 nin
      have hq1 : v1 = 1 := by have : ¬ v1 = 0 := fun z => c1 (z1.mpr z); omega
      have hq2 : v2 = 1 := by have : ¬ v2 = 0 := fun z => c2 (z2.mpr z); omega
      have TF := own_TC_fr (ys := ys) TB1 (by rw [hys, hq1, hq2])
      refine k_invV (y := (⟨"com/example/terms_to_entities/termstoentities/index/TermCounts", "predicateFrequency", "(II)I"⟩ : MethodName)) (st := []) (a := c) [(.int (0 : Int32)), (.int (0 : Int32))] 0 (pc := 156) H (wd hw 42 rfl) (wd hw 43 rfl) (wd hw 45 rfl) (wd hw 44 rfl) (wd hw 3 rfl) (wd hw 46 rfl) rfl (by decide) TF.1 (fun z0 => rm7 l Z a0 hw n0 hB1 z0 _ _ _ _ _ _ _ _ _ _ _ _ _ _ (0 : Int32) (0 : Int32) 0 2 0 AP TF rfl rfl rfl (by rw [hyl]; decide) (by rw [hyl]; decide)) (lenOf pd_2 rfl) d0_156 rfl rfl rfl (by decide) (by decide) (by decide) (by decide) ?_
      rintro v hx ⟨rfl, ex⟩
      rw [ex]
      clear ex hx
      show W l room_1 C _ hB1 7 25 159 #[.val (.int sel), .val (.int f1), .val (.int f2), .val (.int x0), .val (.int x1), .val (.int w1), .val (.int t1), .val (.int w2), .val (.int t2), .val (.int x1), .val (.int x1), .val (.ref e), .val (.ref c)] [(.int (ys.getD (0 * 2 + 0) 0))]
      refine k_aload (pc := 159) H d0_159 rfl rfl ?_
      refine k_iconst (0 : Int32) (pc := 161) H d0_161 rfl ?_
      refine k_ialoadT (i := 0) (x := (ys.getD 0 0)) (pc := 162) H VB1 (rfl) (own_get 0 (by rw [hyl]; decide)) d0_162 ?_
      refine k_icmpF (pc := 163) H d0_163 (XT.ii_ne_f (rfl)) ?_
      refine k_aload (pc := 166) H d0_166 rfl rfl ?_
      refine k_iconst (0 : Int32) (pc := 168) H d0_168 rfl ?_
      refine k_iconst (1 : Int32) (pc := 169) H d0_169 rfl ?_
      refine k_invV (y := (⟨"com/example/terms_to_entities/termstoentities/index/TermCounts", "predicateFrequency", "(II)I"⟩ : MethodName)) (st := []) (a := c) [(.int (0 : Int32)), (.int (1 : Int32))] 0 (pc := 170) H (wd hw 42 rfl) (wd hw 43 rfl) (wd hw 45 rfl) (wd hw 44 rfl) (wd hw 3 rfl) (wd hw 46 rfl) rfl (by decide) TF.1 (fun z0 => rm7 l Z a0 hw n0 hB1 z0 _ _ _ _ _ _ _ _ _ _ _ _ _ _ (0 : Int32) (1 : Int32) 0 2 1 AP TF rfl rfl rfl (by rw [hyl]; decide) (by rw [hyl]; decide)) (lenOf pd_2 rfl) d0_170 rfl rfl rfl (by decide) (by decide) (by decide) (by decide) ?_
      rintro v hx ⟨rfl, ex⟩
      rw [ex]
      clear ex hx
      show W l room_1 C _ hB1 7 25 173 #[.val (.int sel), .val (.int f1), .val (.int f2), .val (.int x0), .val (.int x1), .val (.int w1), .val (.int t1), .val (.int w2), .val (.int t2), .val (.int x1), .val (.int x1), .val (.ref e), .val (.ref c)] [(.int (ys.getD (0 * 2 + 1) 0))]
      refine k_aload (pc := 173) H d0_173 rfl rfl ?_
      refine k_iconst (1 : Int32) (pc := 175) H d0_175 rfl ?_
      refine k_ialoadT (i := 1) (x := (ys.getD 1 0)) (pc := 176) H VB1 (rfl) (own_get 0 (by rw [hyl]; decide)) d0_176 ?_
      refine k_icmpF (pc := 177) H d0_177 (XT.ii_ne_f (rfl)) ?_
      refine k_aload (pc := 180) H d0_180 rfl rfl ?_
      refine k_iconst (1 : Int32) (pc := 182) H d0_182 rfl ?_
      refine k_iconst (0 : Int32) (pc := 183) H d0_183 rfl ?_
      refine k_invV (y := (⟨"com/example/terms_to_entities/termstoentities/index/TermCounts", "predicateFrequency", "(II)I"⟩ : MethodName)) (st := []) (a := c) [(.int (1 : Int32)), (.int (0 : Int32))] 0 (pc := 184) H (wd hw 42 rfl) (wd hw 43 rfl) (wd hw 45 rfl) (wd hw 44 rfl) (wd hw 3 rfl) (wd hw 46 rfl) rfl (by decide) TF.1 (fun z0 => rm7 l Z a0 hw n0 hB1 z0 _ _ _ _ _ _ _ _ _ _ _ _ _ _ (1 : Int32) (0 : Int32) 1 2 0 AP TF rfl rfl rfl (by rw [hyl]; decide) (by rw [hyl]; decide)) (lenOf pd_2 rfl) d0_184 rfl rfl rfl (by decide) (by decide) (by decide) (by decide) ?_
      rintro v hx ⟨rfl, ex⟩
      rw [ex]
      clear ex hx
      show W l room_1 C _ hB1 7 25 187 #[.val (.int sel), .val (.int f1), .val (.int f2), .val (.int x0), .val (.int x1), .val (.int w1), .val (.int t1), .val (.int w2), .val (.int t2), .val (.int x1), .val (.int x1), .val (.ref e), .val (.ref c)] [(.int (ys.getD (1 * 2 + 0) 0))]
      refine k_aload (pc := 187) H d0_187 rfl rfl ?_
      refine k_iconst (2 : Int32) (pc := 189) H d0_189 rfl ?_
      refine k_ialoadT (i := 2) (x := (ys.getD 2 0)) (pc := 190) H VB1 (rfl) (own_get 0 (by rw [hyl]; decide)) d0_190 ?_
      refine k_icmpF (pc := 191) H d0_191 (XT.ii_ne_f (rfl)) ?_
      refine k_aload (pc := 194) H d0_194 rfl rfl ?_
      refine k_iconst (1 : Int32) (pc := 196) H d0_196 rfl ?_
      refine k_iconst (1 : Int32) (pc := 197) H d0_197 rfl ?_
      refine k_invV (y := (⟨"com/example/terms_to_entities/termstoentities/index/TermCounts", "predicateFrequency", "(II)I"⟩ : MethodName)) (st := []) (a := c) [(.int (1 : Int32)), (.int (1 : Int32))] 0 (pc := 198) H (wd hw 42 rfl) (wd hw 43 rfl) (wd hw 45 rfl) (wd hw 44 rfl) (wd hw 3 rfl) (wd hw 46 rfl) rfl (by decide) TF.1 (fun z0 => rm7 l Z a0 hw n0 hB1 z0 _ _ _ _ _ _ _ _ _ _ _ _ _ _ (1 : Int32) (1 : Int32) 1 2 1 AP TF rfl rfl rfl (by rw [hyl]; decide) (by rw [hyl]; decide)) (lenOf pd_2 rfl) d0_198 rfl rfl rfl (by decide) (by decide) (by decide) (by decide) ?_
      rintro v hx ⟨rfl, ex⟩
      rw [ex]
      clear ex hx
      show W l room_1 C _ hB1 7 25 201 #[.val (.int sel), .val (.int f1), .val (.int f2), .val (.int x0), .val (.int x1), .val (.int w1), .val (.int t1), .val (.int w2), .val (.int t2), .val (.int x1), .val (.int x1), .val (.ref e), .val (.ref c)] [(.int (ys.getD (1 * 2 + 1) 0))]
      refine k_aload (pc := 201) H d0_201 rfl rfl ?_
      refine k_iconst (3 : Int32) (pc := 203) H d0_203 rfl ?_
      refine k_ialoadT (i := 3) (x := (ys.getD 3 0)) (pc := 204) H VB1 (rfl) (own_get 0 (by rw [hyl]; decide)) d0_204 ?_
      refine k_icmpF (pc := 205) H d0_205 (XT.ii_ne_f (rfl)) ?_
      refine k_aload (pc := 208) H d0_208 rfl rfl ?_
      refine k_iload (pc := 210) H d0_210 rfl ?_
      refine k_invV (y := (⟨"com/example/terms_to_entities/termstoentities/index/TermCounts", "restFrequency", "(I)I"⟩ : MethodName)) (st := []) (a := c) [(.int t1)] 0 (pc := 212) H (wd hw 47 rfl) (wd hw 48 rfl) (wd hw 50 rfl) (wd hw 49 rfl) (wd hw 3 rfl) (wd hw 51 rfl) rfl (by decide) TF.1 (fun z0 => rm8 l Z a0 hw n0 hB1 z0 _ _ _ _ _ _ _ _ _ _ _ _ _ _ t1 2 2 u1 AP TF rfl rfl hu1 (by simp; omega) (by intro i hi; rw [hyl]; omega) (by rw [hyl]; decide) (by decide)) (lenOf pd_4 rfl) d0_212 rfl rfl rfl (by decide) (by decide) (by decide) (by decide) ?_
      rintro v hx ⟨rfl, ex⟩
      rw [ex]
      clear ex hx
      show W l room_1 C _ hB1 7 25 215 #[.val (.int sel), .val (.int f1), .val (.int f2), .val (.int x0), .val (.int x1), .val (.int w1), .val (.int t1), .val (.int w2), .val (.int t2), .val (.int x1), .val (.int x1), .val (.ref e), .val (.ref c)] [(.int (own_rf (fun i => ys.getD (i * 2 + u1) 0) 0 2 ((List.replicate 2 (0 : Int32)).getD u1 0)))]
      refine k_aload (pc := 215) H d0_215 rfl rfl ?_
      refine k_iload (pc := 217) H d0_217 rfl ?_
      refine k_ialoadT (i := u1) (x := (ys.getD u1 0)) (pc := 219) H VB1 (hu1) (own_get 0 (by rw [hyl]; omega)) d0_219 ?_
      refine k_aload (pc := 220) H d0_220 rfl rfl ?_
      refine k_iconst (2 : Int32) (pc := 222) H d0_222 rfl ?_
      refine k_iload (pc := 223) H d0_223 rfl ?_
      refine k_iadd (pc := 225) H d0_225 ?_
      refine k_ialoadT (i := (2 + u1)) (x := (ys.getD (2 + u1) 0)) (pc := 226) H VB1 (add_nat rfl hu1 (by omega)) (own_get 0 (by rw [hyl]; omega)) d0_226 ?_
      refine k_iadd (pc := 227) H d0_227 ?_
      refine k_ineg (pc := 228) H d0_228 ?_
      refine k_icmpF (pc := 229) H d0_229 (XT.ii_ne_f (by have hz : (List.replicate 2 (0 : Int32)).getD u1 0 = 0 := by { have : u1 = 0 ∨ u1 = 1 := by { omega }; rcases this with rfl | rfl <;> rfl }; simp only [own_rf, hz, Nat.zero_mul, Nat.zero_add, Nat.one_mul]; exact own_neg _ _)) ?_
      refine k_iconst (1 : Int32) (pc := 232) H d0_232 rfl ?_
      refine k_goto 237 (pc := 233) H d0_233 rfl ?_
      exact k_retN' (t := .boolean) (by simp) (pc := 237) H d0_237 (by show 7 ≤ 24; decide) (by show 25 ≤ 128; decide) (rfl)
    · refine k_iloadN (pc := 66) H d0_66 rfl ?_
      refine k_goto 72 (pc := 67) H d0_67 rfl ?_
      refine k_istore (pc := 72) H d0_72 (Ls' := #[.val (.int sel), .val (.int f1), .val (.int f2), .val (.int x0), .val (.int x1), .val (.int w1), .val (.int t1), .val (.int w2), .val (.int t2), .val (.int x1), .val (.int x0), .unset, .unset]) rfl ?_
      refine k_iconst (4 : Int32) (pc := 74) H d0_74 rfl ?_
      refine k_new_int (4) 4 (pc := 75) H (wd hw 0 rfl) d0_75 (by decide) (by decide) (by decide) (by decide) (by decide) ?_
      intro h314 e ea315 ge316 E317 XA313 V318
      refine k_astore (pc := 77) H d0_77 rfl (Ls' := #[.val (.int sel), .val (.int f1), .val (.int f2), .val (.int x0), .val (.int x1), .val (.int w1), .val (.int t1), .val (.int w2), .val (.int t2), .val (.int x1), .val (.int x0), .val (.ref e), .unset]) rfl ?_
      refine k_aload (pc := 79) H d0_79 rfl rfl ?_
      refine k_iload (pc := 81) H d0_81 rfl ?_
      refine k_iconst (2 : Int32) (pc := 83) H d0_83 rfl ?_
      refine k_imul (pc := 84) H d0_84 ?_
      refine k_iload (pc := 85) H d0_85 rfl ?_
      refine k_iadd (pc := 87) H d0_87 ?_
      refine k_dup2 (pc := 88) H d0_88 rfl rfl ?_
      refine k_ialoadT (i := (v1 * 2 + u1)) (x := ((List.replicate 4 (0 : Int32)).getD (v1 * 2 + u1) 0)) (pc := 89) H V318 (hi1) (own_get 0 (by simp; omega)) d0_89 ?_
      refine k_iloadN (pc := 90) H d0_90 rfl ?_
      refine k_iadd (pc := 91) H d0_91 ?_
      refine k_iastoreT (i := (v1 * 2 + u1)) (pc := 92) H V318 (hi1) (by simp; omega) ge316 d0_92 ?_
      intro h319 K320 V321
      refine k_aload (pc := 93) H d0_93 rfl rfl ?_
      refine k_iload (pc := 95) H d0_95 rfl ?_
      refine k_iconst (2 : Int32) (pc := 97) H d0_97 rfl ?_
      refine k_imul (pc := 98) H d0_98 ?_
      refine k_iload (pc := 99) H d0_99 rfl ?_
      refine k_iadd (pc := 101) H d0_101 ?_
      refine k_dup2 (pc := 102) H d0_102 rfl rfl ?_
      refine k_ialoadT (i := (v2 * 2 + u2)) (x := (((List.replicate (4) 0).set (v1 * 2 + u1) (((List.replicate 4 (0 : Int32)).getD (v1 * 2 + u1) 0) + f1)).getD (v2 * 2 + u2) 0)) (pc := 103) H V321 (hi2) (own_get 0 (by simp; omega)) d0_103 ?_
      refine k_iloadN (pc := 104) H d0_104 rfl ?_
      refine k_iadd (pc := 105) H d0_105 ?_
      refine k_iastoreT (i := (v2 * 2 + u2)) (pc := 106) H V321 (hi2) (by simp; omega) ge316 d0_106 ?_
      intro h322 K323 V324
      obtain ⟨ys, hys⟩ : ∃ ys, ys = (((List.replicate (4) 0).set (v1 * 2 + u1) (((List.replicate 4 (0 : Int32)).getD (v1 * 2 + u1) 0) + f1)).set (v2 * 2 + u2) ((((List.replicate (4) 0).set (v1 * 2 + u1) (((List.replicate 4 (0 : Int32)).getD (v1 * 2 + u1) 0) + f1)).getD (v2 * 2 + u2) 0) + f2)) := ⟨_, rfl⟩
      have hyl : ys.length = 4 := by rw [hys]; simp
      have VE : IA Z h322 e ys := by rw [hys]; exact V324
      refine k_newObj (pc := 107) H (wd hw 1 rfl) (wd hw 2 rfl) (wd hw 3 rfl) d0_107 (by decide) (by decide) ?_
      intro h325 c ea326 ge327 E328 X329 D330
      have ne331 : e ≠ c := Nat.ne_of_lt (by rw [ea326]; exact VE.lt)
      have f332 : IA Z h325 e ys := VE.ext E328
      have f333 : Fld Z h325 c "com/example/terms_to_entities/termstoentities/index/TermCounts" "terms" "I" (.int (0 : Int32)) := D330 (Or.inr (wd hw 11 rfl)) (ty := .int) (by decide)
      have f334 : Fld Z h325 c "com/example/terms_to_entities/termstoentities/index/TermCounts" "wholeFrequencies" "[I" .null := D330 (Or.inr (wd hw 13 rfl)) (ty := (.array .int)) (by decide)
      have f335 : Fld Z h325 c "com/example/terms_to_entities/termstoentities/index/TermCounts" "placeOfPredicate" "[I" .null := D330 (Or.inr (wd hw 15 rfl)) (ty := (.array .int)) (by decide)
      have f336 : Fld Z h325 c "com/example/terms_to_entities/termstoentities/index/TermCounts" "predicates" "[I" .null := D330 (Or.inr (wd hw 17 rfl)) (ty := (.array .int)) (by decide)
      have f337 : Fld Z h325 c "com/example/terms_to_entities/termstoentities/index/TermCounts" "predicateLengths" "[J" .null := D330 (Or.inr (wd hw 20 rfl)) (ty := (.array .long)) (by decide)
      have f338 : Fld Z h325 c "com/example/terms_to_entities/termstoentities/index/TermCounts" "predicateFrequencies" "[I" .null := D330 (Or.inr (wd hw 22 rfl)) (ty := (.array .int)) (by decide)
      have f339 : Fld Z h325 c "com/example/terms_to_entities/termstoentities/index/TermCounts" "predicateCount" "I" (.int (0 : Int32)) := D330 (Or.inl (wd hw 29 rfl)) (ty := .int) (by decide)
      refine k_dup (pc := 110) H d0_110 rfl ?_
      refine k_iconst (2 : Int32) (pc := 111) H d0_111 rfl ?_
      refine k_iconst (3 : Int32) (pc := 112) H d0_112 rfl ?_
      refine k_iconst (2 : Int32) (pc := 113) H d0_113 rfl ?_
      refine k_invI (y := (⟨"com/example/terms_to_entities/termstoentities/index/TermCounts", "<init>", "(III)V"⟩ : MethodName)) (st := [(.ref c)]) (a := c) [(.int (2 : Int32)), (.int (3 : Int32)), (.int (2 : Int32))] 1 (pc := 114) H rfl (wd hw 4 rfl) (wd hw 5 rfl) (wd hw 3 rfl) (wd hw 6 rfl) (by decide) (fun z0 => rm1 l Z a0 hw n0 h325 z0 c ge327 X329 f333 f334 f335 f336 f337 f338 f339) (lenOf pd_0 rfl) d0_114 rfl rfl rfl (by decide) (by decide) (by decide) (by decide) ?_
      rintro v hA ⟨rfl, w, pl, pr, le, fr, AP, NW, K0, T0⟩
      show W l room_1 C _ hA 7 25 117 #[.val (.int sel), .val (.int f1), .val (.int f2), .val (.int x0), .val (.int x1), .val (.int w1), .val (.int t1), .val (.int w2), .val (.int t2), .val (.int x1), .val (.int x0), .val (.ref e), .unset] [(.ref c)]
      have VE0 : IA Z hA e ys := f332.keep K0 (ninS ne331 nin0)
      have elt : e < h325.size := f332.lt
      obtain ⟨n1, n2, n3, n4, n5⟩ := NW
      have nin : e ∉ [c, w, pl, pr, le, fr] := ninS ne331 (ninS (Nat.ne_of_lt (by omega)) (ninS (Nat.ne_of_lt (by omega)) (ninS (Nat.ne_of_lt (by omega)) (ninS (Nat.ne_of_lt (by omega)) (ninS (Nat.ne_of_lt (by omega)) nin0)))))
      refine k_astore (pc := 117) H d0_117 rfl (Ls' := #[.val (.int sel), .val (.int f1), .val (.int f2), .val (.int x0), .val (.int x1), .val (.int w1), .val (.int t1), .val (.int w2), .val (.int t2), .val (.int x1), .val (.int x0), .val (.ref e), .val (.ref c)]) rfl ?_
      refine k_aload (pc := 119) H d0_119 rfl rfl ?_
      refine k_iloadN (pc := 121) H d0_121 rfl ?_
      refine k_invV (y := (⟨"com/example/terms_to_entities/termstoentities/index/TermCounts", "addPredicate", "(I)V"⟩ : MethodName)) (st := []) (a := c) [(.int x0)] 0 (pc := 122) H (wd hw 23 rfl) (wd hw 24 rfl) (wd hw 26 rfl) (wd hw 25 rfl) (wd hw 3 rfl) (wd hw 27 rfl) rfl (by decide) T0.1 (fun z0 => rm3 l Z a0 hw n0 hA z0 _ _ _ _ _ _ _ _ _ _ _ _ _ _ _ p0 0 2 AP T0 hp0 (by simpa using hp03) rfl (by simp) (by simp) rfl (by simp [own_fr_len]) (by simp [own_fr_len]) (by decide)) (lenOf pd_3 rfl) d0_122 rfl rfl rfl (by decide) (by decide) (by decide) (by decide) ?_
      rintro v hA0 ⟨rfl, KA0, TA0⟩
      show W l room_1 C _ hA0 7 25 125 #[.val (.int sel), .val (.int f1), .val (.int f2), .val (.int x0), .val (.int x1), .val (.int w1), .val (.int t1), .val (.int w2), .val (.int t2), .val (.int x1), .val (.int x0), .val (.ref e), .val (.ref c)] []
      refine k_aload (pc := 125) H d0_125 rfl rfl ?_
      refine k_iload (pc := 127) H d0_127 rfl ?_
      have VA0 := VE0.keep KA0 nin
      refine k_invV (y := (⟨"com/example/terms_to_entities/termstoentities/index/TermCounts", "addPredicate", "(I)V"⟩ : MethodName)) (st := []) (a := c) [(.int x1)] 0 (pc := 129) H (wd hw 23 rfl) (wd hw 24 rfl) (wd hw 26 rfl) (wd hw 25 rfl) (wd hw 3 rfl) (wd hw 27 rfl) rfl (by decide) TA0.1 (fun z0 => rm3 l Z a0 hw n0 hA0 z0 _ _ _ _ _ _ _ _ _ _ _ _ _ _ _ p1 1 2 AP TA0 hp1 (by simpa using hp13) rfl (by simp) (by simp) rfl (by simp [own_fr_len]) (by simp [own_fr_len]) (by decide)) (lenOf pd_3 rfl) d0_129 rfl rfl rfl (by decide) (by decide) (by decide) (by decide) ?_
      rintro v hA1 ⟨rfl, KA1, TA1⟩
      show W l room_1 C _ hA1 7 25 132 #[.val (.int sel), .val (.int f1), .val (.int f2), .val (.int x0), .val (.int x1), .val (.int w1), .val (.int t1), .val (.int w2), .val (.int t2), .val (.int x1), .val (.int x0), .val (.ref e), .val (.ref c)] []
      refine k_aload (pc := 132) H d0_132 rfl rfl ?_
      refine k_iload (pc := 134) H d0_134 rfl ?_
      refine k_iload (pc := 136) H d0_136 rfl ?_
      refine k_iloadN (pc := 138) H d0_138 rfl ?_
      have VA1 := VA0.keep KA1 nin
      have TZ := own_TC_fr (ys := List.replicate 4 0) TA1 rfl
      refine k_invV (y := (⟨"com/example/terms_to_entities/termstoentities/index/TermCounts", "count", "(III)V"⟩ : MethodName)) (st := []) (a := c) [(.int x1), (.int t1), (.int f1)] 0 (pc := 139) H (wd hw 37 rfl) (wd hw 38 rfl) (wd hw 40 rfl) (wd hw 39 rfl) (wd hw 3 rfl) (wd hw 41 rfl) rfl (by decide) TZ.1 (fun z0 => rm6 l Z a0 hw n0 hA1 z0 _ _ _ _ _ _ _ _ _ _ _ _ _ _ _ _ f1 p1 1 2 u1 _ AP TZ hp1 (own_set_get (by simpa using hp13)) rfl rfl hu1 (by simp; omega) (by simp)) (lenOf pd_0 rfl) d0_139 rfl rfl rfl (by decide) (by decide) (by decide) (by decide) ?_
      rintro v hB0 ⟨rfl, KB0, TB0⟩
      show W l room_1 C _ hB0 7 25 142 #[.val (.int sel), .val (.int f1), .val (.int f2), .val (.int x0), .val (.int x1), .val (.int w1), .val (.int t1), .val (.int w2), .val (.int t2), .val (.int x1), .val (.int x0), .val (.ref e), .val (.ref c)] []
      refine k_aload (pc := 142) H d0_142 rfl rfl ?_
      refine k_iload (pc := 144) H d0_144 rfl ?_
      refine k_iload (pc := 146) H d0_146 rfl ?_
      refine k_iloadN (pc := 148) H d0_148 rfl ?_
      have VB0 := VA1.keep KB0 nin
      refine k_invV (y := (⟨"com/example/terms_to_entities/termstoentities/index/TermCounts", "count", "(III)V"⟩ : MethodName)) (st := []) (a := c) [(.int x0), (.int t2), (.int f2)] 0 (pc := 149) H (wd hw 37 rfl) (wd hw 38 rfl) (wd hw 40 rfl) (wd hw 39 rfl) (wd hw 3 rfl) (wd hw 41 rfl) rfl (by decide) TB0.1 (fun z0 => rm6 l Z a0 hw n0 hB0 z0 _ _ _ _ _ _ _ _ _ _ _ _ _ _ _ _ f2 p0 0 2 u2 _ AP TB0 hp0 (own_set_ne (by simpa using hp03) hne) rfl rfl hu2 (by simp; omega) (by simp)) (lenOf pd_0 rfl) d0_149 rfl rfl rfl (by decide) (by decide) (by decide) (by decide) ?_
      rintro v hB1 ⟨rfl, KB1, TB1⟩
      show W l room_1 C _ hB1 7 25 152 #[.val (.int sel), .val (.int f1), .val (.int f2), .val (.int x0), .val (.int x1), .val (.int w1), .val (.int t1), .val (.int w2), .val (.int t2), .val (.int x1), .val (.int x0), .val (.ref e), .val (.ref c)] []
      refine k_aload (pc := 152) H d0_152 rfl rfl ?_
      refine k_iconst (0 : Int32) (pc := 154) H d0_154 rfl ?_
      refine k_iconst (0 : Int32) (pc := 155) H d0_155 rfl ?_
      have VB1 := VB0.keep KB1 nin
      have hq1 : v1 = 1 := by have : ¬ v1 = 0 := fun z => c1 (z1.mpr z); omega
      have hq2 : v2 = 0 := by exact z2.mp c2
      have TF := own_TC_fr (ys := ys) TB1 (by rw [hys, hq1, hq2])
      refine k_invV (y := (⟨"com/example/terms_to_entities/termstoentities/index/TermCounts", "predicateFrequency", "(II)I"⟩ : MethodName)) (st := []) (a := c) [(.int (0 : Int32)), (.int (0 : Int32))] 0 (pc := 156) H (wd hw 42 rfl) (wd hw 43 rfl) (wd hw 45 rfl) (wd hw 44 rfl) (wd hw 3 rfl) (wd hw 46 rfl) rfl (by decide) TF.1 (fun z0 => rm7 l Z a0 hw n0 hB1 z0 _ _ _ _ _ _ _ _ _ _ _ _ _ _ (0 : Int32) (0 : Int32) 0 2 0 AP TF rfl rfl rfl (by rw [hyl]; decide) (by rw [hyl]; decide)) (lenOf pd_2 rfl) d0_156 rfl rfl rfl (by decide) (by decide) (by decide) (by decide) ?_
      rintro v hx ⟨rfl, ex⟩
      rw [ex]
      clear ex hx
      show W l room_1 C _ hB1 7 25 159 #[.val (.int sel), .val (.int f1), .val (.int f2), .val (.int x0), .val (.int x1), .val (.int w1), .val (.int t1), .val (.int w2), .val (.int t2), .val (.int x1), .val (.int x0), .val (.ref e), .val (.ref c)] [(.int (ys.getD (0 * 2 + 0) 0))]
      refine k_aload (pc := 159) H d0_159 rfl rfl ?_
      refine k_iconst (0 : Int32) (pc := 161) H d0_161 rfl ?_
      refine k_ialoadT (i := 0) (x := (ys.getD 0 0)) (pc := 162) H VB1 (rfl) (own_get 0 (by rw [hyl]; decide)) d0_162 ?_
      refine k_icmpF (pc := 163) H d0_163 (XT.ii_ne_f (rfl)) ?_
      refine k_aload (pc := 166) H d0_166 rfl rfl ?_
      refine k_iconst (0 : Int32) (pc := 168) H d0_168 rfl ?_
      refine k_iconst (1 : Int32) (pc := 169) H d0_169 rfl ?_
      refine k_invV (y := (⟨"com/example/terms_to_entities/termstoentities/index/TermCounts", "predicateFrequency", "(II)I"⟩ : MethodName)) (st := []) (a := c) [(.int (0 : Int32)), (.int (1 : Int32))] 0 (pc := 170) H (wd hw 42 rfl) (wd hw 43 rfl) (wd hw 45 rfl) (wd hw 44 rfl) (wd hw 3 rfl) (wd hw 46 rfl) rfl (by decide) TF.1 (fun z0 => rm7 l Z a0 hw n0 hB1 z0 _ _ _ _ _ _ _ _ _ _ _ _ _ _ (0 : Int32) (1 : Int32) 0 2 1 AP TF rfl rfl rfl (by rw [hyl]; decide) (by rw [hyl]; decide)) (lenOf pd_2 rfl) d0_170 rfl rfl rfl (by decide) (by decide) (by decide) (by decide) ?_
      rintro v hx ⟨rfl, ex⟩
      rw [ex]
      clear ex hx
      show W l room_1 C _ hB1 7 25 173 #[.val (.int sel), .val (.int f1), .val (.int f2), .val (.int x0), .val (.int x1), .val (.int w1), .val (.int t1), .val (.int w2), .val (.int t2), .val (.int x1), .val (.int x0), .val (.ref e), .val (.ref c)] [(.int (ys.getD (0 * 2 + 1) 0))]
      refine k_aload (pc := 173) H d0_173 rfl rfl ?_
      refine k_iconst (1 : Int32) (pc := 175) H d0_175 rfl ?_
      refine k_ialoadT (i := 1) (x := (ys.getD 1 0)) (pc := 176) H VB1 (rfl) (own_get 0 (by rw [hyl]; decide)) d0_176 ?_
      refine k_icmpF (pc := 177) H d0_177 (XT.ii_ne_f (rfl)) ?_
      refine k_aload (pc := 180) H d0_180 rfl rfl ?_
      refine k_iconst (1 : Int32) (pc := 182) H d0_182 rfl ?_
      refine k_iconst (0 : Int32) (pc := 183) H d0_183 rfl ?_
      refine k_invV (y := (⟨"com/example/terms_to_entities/termstoentities/index/TermCounts", "predicateFrequency", "(II)I"⟩ : MethodName)) (st := []) (a := c) [(.int (1 : Int32)), (.int (0 : Int32))] 0 (pc := 184) H (wd hw 42 rfl) (wd hw 43 rfl) (wd hw 45 rfl) (wd hw 44 rfl) (wd hw 3 rfl) (wd hw 46 rfl) rfl (by decide) TF.1 (fun z0 => rm7 l Z a0 hw n0 hB1 z0 _ _ _ _ _ _ _ _ _ _ _ _ _ _ (1 : Int32) (0 : Int32) 1 2 0 AP TF rfl rfl rfl (by rw [hyl]; decide) (by rw [hyl]; decide)) (lenOf pd_2 rfl) d0_184 rfl rfl rfl (by decide) (by decide) (by decide) (by decide) ?_
      rintro v hx ⟨rfl, ex⟩
      rw [ex]
      clear ex hx
      show W l room_1 C _ hB1 7 25 187 #[.val (.int sel), .val (.int f1), .val (.int f2), .val (.int x0), .val (.int x1), .val (.int w1), .val (.int t1), .val (.int w2), .val (.int t2), .val (.int x1), .val (.int x0), .val (.ref e), .val (.ref c)] [(.int (ys.getD (1 * 2 + 0) 0))]
      refine k_aload (pc := 187) H d0_187 rfl rfl ?_
      refine k_iconst (2 : Int32) (pc := 189) H d0_189 rfl ?_
      refine k_ialoadT (i := 2) (x := (ys.getD 2 0)) (pc := 190) H VB1 (rfl) (own_get 0 (by rw [hyl]; decide)) d0_190 ?_
      refine k_icmpF (pc := 191) H d0_191 (XT.ii_ne_f (rfl)) ?_
      refine k_aload (pc := 194) H d0_194 rfl rfl ?_
      refine k_iconst (1 : Int32) (pc := 196) H d0_196 rfl ?_
      refine k_iconst (1 : Int32) (pc := 197) H d0_197 rfl ?_
      refine k_invV (y := (⟨"com/example/terms_to_entities/termstoentities/index/TermCounts", "predicateFrequency", "(II)I"⟩ : MethodName)) (st := []) (a := c) [(.int (1 : Int32)), (.int (1 : Int32))] 0 (pc := 198) H (wd hw 42 rfl) (wd hw 43 rfl) (wd hw 45 rfl) (wd hw 44 rfl) (wd hw 3 rfl) (wd hw 46 rfl) rfl (by decide) TF.1 (fun z0 => rm7 l Z a0 hw n0 hB1 z0 _ _ _ _ _ _ _ _ _ _ _ _ _ _ (1 : Int32) (1 : Int32) 1 2 1 AP TF rfl rfl rfl (by rw [hyl]; decide) (by rw [hyl]; decide)) (lenOf pd_2 rfl) d0_198 rfl rfl rfl (by decide) (by decide) (by decide) (by decide) ?_
      rintro v hx ⟨rfl, ex⟩
      rw [ex]
      clear ex hx
      show W l room_1 C _ hB1 7 25 201 #[.val (.int sel), .val (.int f1), .val (.int f2), .val (.int x0), .val (.int x1), .val (.int w1), .val (.int t1), .val (.int w2), .val (.int t2), .val (.int x1), .val (.int x0), .val (.ref e), .val (.ref c)] [(.int (ys.getD (1 * 2 + 1) 0))]
      refine k_aload (pc := 201) H d0_201 rfl rfl ?_
      refine k_iconst (3 : Int32) (pc := 203) H d0_203 rfl ?_
      refine k_ialoadT (i := 3) (x := (ys.getD 3 0)) (pc := 204) H VB1 (rfl) (own_get 0 (by rw [hyl]; decide)) d0_204 ?_
      refine k_icmpF (pc := 205) H d0_205 (XT.ii_ne_f (rfl)) ?_
      refine k_aload (pc := 208) H d0_208 rfl rfl ?_
      refine k_iload (pc := 210) H d0_210 rfl ?_
      refine k_invV (y := (⟨"com/example/terms_to_entities/termstoentities/index/TermCounts", "restFrequency", "(I)I"⟩ : MethodName)) (st := []) (a := c) [(.int t1)] 0 (pc := 212) H (wd hw 47 rfl) (wd hw 48 rfl) (wd hw 50 rfl) (wd hw 49 rfl) (wd hw 3 rfl) (wd hw 51 rfl) rfl (by decide) TF.1 (fun z0 => rm8 l Z a0 hw n0 hB1 z0 _ _ _ _ _ _ _ _ _ _ _ _ _ _ t1 2 2 u1 AP TF rfl rfl hu1 (by simp; omega) (by intro i hi; rw [hyl]; omega) (by rw [hyl]; decide) (by decide)) (lenOf pd_4 rfl) d0_212 rfl rfl rfl (by decide) (by decide) (by decide) (by decide) ?_
      rintro v hx ⟨rfl, ex⟩
      rw [ex]
      clear ex hx
      show W l room_1 C _ hB1 7 25 215 #[.val (.int sel), .val (.int f1), .val (.int f2), .val (.int x0), .val (.int x1), .val (.int w1), .val (.int t1), .val (.int w2), .val (.int t2), .val (.int x1), .val (.int x0), .val (.ref e), .val (.ref c)] [(.int (own_rf (fun i => ys.getD (i * 2 + u1) 0) 0 2 ((List.replicate 2 (0 : Int32)).getD u1 0)))]
      refine k_aload (pc := 215) H d0_215 rfl rfl ?_
      refine k_iload (pc := 217) H d0_217 rfl ?_
      refine k_ialoadT (i := u1) (x := (ys.getD u1 0)) (pc := 219) H VB1 (hu1) (own_get 0 (by rw [hyl]; omega)) d0_219 ?_
      refine k_aload (pc := 220) H d0_220 rfl rfl ?_
      refine k_iconst (2 : Int32) (pc := 222) H d0_222 rfl ?_
      refine k_iload (pc := 223) H d0_223 rfl ?_
      refine k_iadd (pc := 225) H d0_225 ?_
      refine k_ialoadT (i := (2 + u1)) (x := (ys.getD (2 + u1) 0)) (pc := 226) H VB1 (add_nat rfl hu1 (by omega)) (own_get 0 (by rw [hyl]; omega)) d0_226 ?_
      refine k_iadd (pc := 227) H d0_227 ?_
      refine k_ineg (pc := 228) H d0_228 ?_
      refine k_icmpF (pc := 229) H d0_229 (XT.ii_ne_f (by have hz : (List.replicate 2 (0 : Int32)).getD u1 0 = 0 := by { have : u1 = 0 ∨ u1 = 1 := by { omega }; rcases this with rfl | rfl <;> rfl }; simp only [own_rf, hz, Nat.zero_mul, Nat.zero_add, Nat.one_mul]; exact own_neg _ _)) ?_
      refine k_iconst (1 : Int32) (pc := 232) H d0_232 rfl ?_
      refine k_goto 237 (pc := 233) H d0_233 rfl ?_
      exact k_retN' (t := .boolean) (by simp) (pc := 237) H d0_237 (by show 7 ≤ 24; decide) (by show 25 ≤ 128; decide) (rfl)
  · refine k_iloadN (pc := 53) H d0_53 rfl ?_
    refine k_goto 59 (pc := 54) H d0_54 rfl ?_
    refine k_istore (pc := 59) H d0_59 (Ls' := #[.val (.int sel), .val (.int f1), .val (.int f2), .val (.int x0), .val (.int x1), .val (.int w1), .val (.int t1), .val (.int w2), .val (.int t2), .val (.int x0), .unset, .unset, .unset]) rfl ?_
    refine k_iload (pc := 61) H d0_61 rfl ?_
    refine k_iff0R (P := w2 = 0) 70 (pc := 63) H d0_63 rfl XT.i0_ne_t XT.i0_ne_f (fun c2 => ?_) (fun c2 => ?_)
    · refine k_iload (pc := 70) H d0_70 rfl ?_
      refine k_istore (pc := 72) H d0_72 (Ls' := #[.val (.int sel), .val (.int f1), .val (.int f2), .val (.int x0), .val (.int x1), .val (.int w1), .val (.int t1), .val (.int w2), .val (.int t2), .val (.int x0), .val (.int x1), .unset, .unset]) rfl ?_
      refine k_iconst (4 : Int32) (pc := 74) H d0_74 rfl ?_
      refine k_new_int (4) 4 (pc := 75) H (wd hw 0 rfl) d0_75 (by decide) (by decide) (by decide) (by decide) (by decide) ?_
      intro h341 e ea342 ge343 E344 XA340 V345
      refine k_astore (pc := 77) H d0_77 rfl (Ls' := #[.val (.int sel), .val (.int f1), .val (.int f2), .val (.int x0), .val (.int x1), .val (.int w1), .val (.int t1), .val (.int w2), .val (.int t2), .val (.int x0), .val (.int x1), .val (.ref e), .unset]) rfl ?_
      refine k_aload (pc := 79) H d0_79 rfl rfl ?_
      refine k_iload (pc := 81) H d0_81 rfl ?_
      refine k_iconst (2 : Int32) (pc := 83) H d0_83 rfl ?_
      refine k_imul (pc := 84) H d0_84 ?_
      refine k_iload (pc := 85) H d0_85 rfl ?_
      refine k_iadd (pc := 87) H d0_87 ?_
      refine k_dup2 (pc := 88) H d0_88 rfl rfl ?_
      refine k_ialoadT (i := (v1 * 2 + u1)) (x := ((List.replicate 4 (0 : Int32)).getD (v1 * 2 + u1) 0)) (pc := 89) H V345 (hi1) (own_get 0 (by simp; omega)) d0_89 ?_
      refine k_iloadN (pc := 90) H d0_90 rfl ?_
      refine k_iadd (pc := 91) H d0_91 ?_
      refine k_iastoreT (i := (v1 * 2 + u1)) (pc := 92) H V345 (hi1) (by simp; omega) ge343 d0_92 ?_
      intro h346 K347 V348
      refine k_aload (pc := 93) H d0_93 rfl rfl ?_
      refine k_iload (pc := 95) H d0_95 rfl ?_
      refine k_iconst (2 : Int32) (pc := 97) H d0_97 rfl ?_
      refine k_imul (pc := 98) H d0_98 ?_
      refine k_iload (pc := 99) H d0_99 rfl ?_
      refine k_iadd (pc := 101) H d0_101 ?_
      refine k_dup2 (pc := 102) H d0_102 rfl rfl ?_
      refine k_ialoadT (i := (v2 * 2 + u2)) (x := (((List.replicate (4) 0).set (v1 * 2 + u1) (((List.replicate 4 (0 : Int32)).getD (v1 * 2 + u1) 0) + f1)).getD (v2 * 2 + u2) 0)) (pc := 103) H V348 (hi2) (own_get 0 (by simp; omega)) d0_103 ?_
      refine k_iloadN (pc := 104) H d0_104 rfl ?_
      refine k_iadd (pc := 105) H d0_105 ?_
      refine k_iastoreT (i := (v2 * 2 + u2)) (pc := 106) H V348 (hi2) (by simp; omega) ge343 d0_106 ?_
      intro h349 K350 V351
      obtain ⟨ys, hys⟩ : ∃ ys, ys = (((List.replicate (4) 0).set (v1 * 2 + u1) (((List.replicate 4 (0 : Int32)).getD (v1 * 2 + u1) 0) + f1)).set (v2 * 2 + u2) ((((List.replicate (4) 0).set (v1 * 2 + u1) (((List.replicate 4 (0 : Int32)).getD (v1 * 2 + u1) 0) + f1)).getD (v2 * 2 + u2) 0) + f2)) := ⟨_, rfl⟩
      have hyl : ys.length = 4 := by rw [hys]; simp
      have VE : IA Z h349 e ys := by rw [hys]; exact V351
      refine k_newObj (pc := 107) H (wd hw 1 rfl) (wd hw 2 rfl) (wd hw 3 rfl) d0_107 (by decide) (by decide) ?_
      intro h352 c ea353 ge354 E355 X356 D357
      have ne358 : e ≠ c := Nat.ne_of_lt (by rw [ea353]; exact VE.lt)
      have f359 : IA Z h352 e ys := VE.ext E355
      have f360 : Fld Z h352 c "com/example/terms_to_entities/termstoentities/index/TermCounts" "terms" "I" (.int (0 : Int32)) := D357 (Or.inr (wd hw 11 rfl)) (ty := .int) (by decide)
      have f361 : Fld Z h352 c "com/example/terms_to_entities/termstoentities/index/TermCounts" "wholeFrequencies" "[I" .null := D357 (Or.inr (wd hw 13 rfl)) (ty := (.array .int)) (by decide)
      have f362 : Fld Z h352 c "com/example/terms_to_entities/termstoentities/index/TermCounts" "placeOfPredicate" "[I" .null := D357 (Or.inr (wd hw 15 rfl)) (ty := (.array .int)) (by decide)
      have f363 : Fld Z h352 c "com/example/terms_to_entities/termstoentities/index/TermCounts" "predicates" "[I" .null := D357 (Or.inr (wd hw 17 rfl)) (ty := (.array .int)) (by decide)
      have f364 : Fld Z h352 c "com/example/terms_to_entities/termstoentities/index/TermCounts" "predicateLengths" "[J" .null := D357 (Or.inr (wd hw 20 rfl)) (ty := (.array .long)) (by decide)
      have f365 : Fld Z h352 c "com/example/terms_to_entities/termstoentities/index/TermCounts" "predicateFrequencies" "[I" .null := D357 (Or.inr (wd hw 22 rfl)) (ty := (.array .int)) (by decide)
      have f366 : Fld Z h352 c "com/example/terms_to_entities/termstoentities/index/TermCounts" "predicateCount" "I" (.int (0 : Int32)) := D357 (Or.inl (wd hw 29 rfl)) (ty := .int) (by decide)
      refine k_dup (pc := 110) H d0_110 rfl ?_
      refine k_iconst (2 : Int32) (pc := 111) H d0_111 rfl ?_
      refine k_iconst (3 : Int32) (pc := 112) H d0_112 rfl ?_
      refine k_iconst (2 : Int32) (pc := 113) H d0_113 rfl ?_
      refine k_invI (y := (⟨"com/example/terms_to_entities/termstoentities/index/TermCounts", "<init>", "(III)V"⟩ : MethodName)) (st := [(.ref c)]) (a := c) [(.int (2 : Int32)), (.int (3 : Int32)), (.int (2 : Int32))] 1 (pc := 114) H rfl (wd hw 4 rfl) (wd hw 5 rfl) (wd hw 3 rfl) (wd hw 6 rfl) (by decide) (fun z0 => rm1 l Z a0 hw n0 h352 z0 c ge354 X356 f360 f361 f362 f363 f364 f365 f366) (lenOf pd_0 rfl) d0_114 rfl rfl rfl (by decide) (by decide) (by decide) (by decide) ?_
      rintro v hA ⟨rfl, w, pl, pr, le, fr, AP, NW, K0, T0⟩
      show W l room_1 C _ hA 7 25 117 #[.val (.int sel), .val (.int f1), .val (.int f2), .val (.int x0), .val (.int x1), .val (.int w1), .val (.int t1), .val (.int w2), .val (.int t2), .val (.int x0), .val (.int x1), .val (.ref e), .unset] [(.ref c)]
      have VE0 : IA Z hA e ys := f359.keep K0 (ninS ne358 nin0)
      have elt : e < h352.size := f359.lt
      obtain ⟨n1, n2, n3, n4, n5⟩ := NW
      have nin : e ∉ [c, w, pl, pr, le, fr] := ninS ne358 (ninS (Nat.ne_of_lt (by omega)) (ninS (Nat.ne_of_lt (by omega)) (ninS (Nat.ne_of_lt (by omega)) (ninS (Nat.ne_of_lt (by omega)) (ninS (Nat.ne_of_lt (by omega)) nin0)))))
      refine k_astore (pc := 117) H d0_117 rfl (Ls' := #[.val (.int sel), .val (.int f1), .val (.int f2), .val (.int x0), .val (.int x1), .val (.int w1), .val (.int t1), .val (.int w2), .val (.int t2), .val (.int x0), .val (.int x1), .val (.ref e), .val (.ref c)]) rfl ?_
      refine k_aload (pc := 119) H d0_119 rfl rfl ?_
      refine k_iloadN (pc := 121) H d0_121 rfl ?_
      refine k_invV (y := (⟨"com/example/terms_to_entities/termstoentities/index/TermCounts", "addPredicate", "(I)V"⟩ : MethodName)) (st := []) (a := c) [(.int x0)] 0 (pc := 122) H (wd hw 23 rfl) (wd hw 24 rfl) (wd hw 26 rfl) (wd hw 25 rfl) (wd hw 3 rfl) (wd hw 27 rfl) rfl (by decide) T0.1 (fun z0 => rm3 l Z a0 hw n0 hA z0 _ _ _ _ _ _ _ _ _ _ _ _ _ _ _ p0 0 2 AP T0 hp0 (by simpa using hp03) rfl (by simp) (by simp) rfl (by simp [own_fr_len]) (by simp [own_fr_len]) (by decide)) (lenOf pd_3 rfl) d0_122 rfl rfl rfl (by decide) (by decide) (by decide) (by decide) ?_
      rintro v hA0 ⟨rfl, KA0, TA0⟩
      show W l room_1 C _ hA0 7 25 125 #[.val (.int sel), .val (.int f1), .val (.int f2), .val (.int x0), .val (.int x1), .val (.int w1), .val (.int t1), .val (.int w2), .val (.int t2), .val (.int x0), .val (.int x1), .val (.ref e), .val (.ref c)] []
      refine k_aload (pc := 125) H d0_125 rfl rfl ?_
      refine k_iload (pc := 127) H d0_127 rfl ?_
      have VA0 := VE0.keep KA0 nin
      refine k_invV (y := (⟨"com/example/terms_to_entities/termstoentities/index/TermCounts", "addPredicate", "(I)V"⟩ : MethodName)) (st := []) (a := c) [(.int x1)] 0 (pc := 129) H (wd hw 23 rfl) (wd hw 24 rfl) (wd hw 26 rfl) (wd hw 25 rfl) (wd hw 3 rfl) (wd hw 27 rfl) rfl (by decide) TA0.1 (fun z0 => rm3 l Z a0 hw n0 hA0 z0 _ _ _ _ _ _ _ _ _ _ _ _ _ _ _ p1 1 2 AP TA0 hp1 (by simpa using hp13) rfl (by simp) (by simp) rfl (by simp [own_fr_len]) (by simp [own_fr_len]) (by decide)) (lenOf pd_3 rfl) d0_129 rfl rfl rfl (by decide) (by decide) (by decide) (by decide) ?_
      rintro v hA1 ⟨rfl, KA1, TA1⟩
      show W l room_1 C _ hA1 7 25 132 #[.val (.int sel), .val (.int f1), .val (.int f2), .val (.int x0), .val (.int x1), .val (.int w1), .val (.int t1), .val (.int w2), .val (.int t2), .val (.int x0), .val (.int x1), .val (.ref e), .val (.ref c)] []
      refine k_aload (pc := 132) H d0_132 rfl rfl ?_
      refine k_iload (pc := 134) H d0_134 rfl ?_
      refine k_iload (pc := 136) H d0_136 rfl ?_
      refine k_iloadN (pc := 138) H d0_138 rfl ?_
      have VA1 := VA0.keep KA1 nin
      have TZ := own_TC_fr (ys := List.replicate 4 0) TA1 rfl
      refine k_invV (y := (⟨"com/example/terms_to_entities/termstoentities/index/TermCounts", "count", "(III)V"⟩ : MethodName)) (st := []) (a := c) [(.int x0), (.int t1), (.int f1)] 0 (pc := 139) H (wd hw 37 rfl) (wd hw 38 rfl) (wd hw 40 rfl) (wd hw 39 rfl) (wd hw 3 rfl) (wd hw 41 rfl) rfl (by decide) TZ.1 (fun z0 => rm6 l Z a0 hw n0 hA1 z0 _ _ _ _ _ _ _ _ _ _ _ _ _ _ _ _ f1 p0 0 2 u1 _ AP TZ hp0 (own_set_ne (by simpa using hp03) hne) rfl rfl hu1 (by simp; omega) (by simp)) (lenOf pd_0 rfl) d0_139 rfl rfl rfl (by decide) (by decide) (by decide) (by decide) ?_
      rintro v hB0 ⟨rfl, KB0, TB0⟩
      show W l room_1 C _ hB0 7 25 142 #[.val (.int sel), .val (.int f1), .val (.int f2), .val (.int x0), .val (.int x1), .val (.int w1), .val (.int t1), .val (.int w2), .val (.int t2), .val (.int x0), .val (.int x1), .val (.ref e), .val (.ref c)] []
      refine k_aload (pc := 142) H d0_142 rfl rfl ?_
      refine k_iload (pc := 144) H d0_144 rfl ?_
      refine k_iload (pc := 146) H d0_146 rfl ?_
      refine k_iloadN (pc := 148) H d0_148 rfl ?_
      have VB0 := VA1.keep KB0 nin
      refine k_invV (y := (⟨"com/example/terms_to_entities/termstoentities/index/TermCounts", "count", "(III)V"⟩ : MethodName)) (st := []) (a := c) [(.int x1), (.int t2), (.int f2)] 0 (pc := 149) H (wd hw 37 rfl) (wd hw 38 rfl) (wd hw 40 rfl) (wd hw 39 rfl) (wd hw 3 rfl) (wd hw 41 rfl) rfl (by decide) TB0.1 (fun z0 => rm6 l Z a0 hw n0 hB0 z0 _ _ _ _ _ _ _ _ _ _ _ _ _ _ _ _ f2 p1 1 2 u2 _ AP TB0 hp1 (own_set_get (by simpa using hp13)) rfl rfl hu2 (by simp; omega) (by simp)) (lenOf pd_0 rfl) d0_149 rfl rfl rfl (by decide) (by decide) (by decide) (by decide) ?_
      rintro v hB1 ⟨rfl, KB1, TB1⟩
      show W l room_1 C _ hB1 7 25 152 #[.val (.int sel), .val (.int f1), .val (.int f2), .val (.int x0), .val (.int x1), .val (.int w1), .val (.int t1), .val (.int w2), .val (.int t2), .val (.int x0), .val (.int x1), .val (.ref e), .val (.ref c)] []
      refine k_aload (pc := 152) H d0_152 rfl rfl ?_
      refine k_iconst (0 : Int32) (pc := 154) H d0_154 rfl ?_
      refine k_iconst (0 : Int32) (pc := 155) H d0_155 rfl ?_
      have VB1 := VB0.keep KB1 nin
      have hq1 : v1 = 0 := by exact z1.mp c1
      have hq2 : v2 = 1 := by have : ¬ v2 = 0 := fun z => c2 (z2.mpr z); omega
      have TF := own_TC_fr (ys := ys) TB1 (by rw [hys, hq1, hq2])
      refine k_invV (y := (⟨"com/example/terms_to_entities/termstoentities/index/TermCounts", "predicateFrequency", "(II)I"⟩ : MethodName)) (st := []) (a := c) [(.int (0 : Int32)), (.int (0 : Int32))] 0 (pc := 156) H (wd hw 42 rfl) (wd hw 43 rfl) (wd hw 45 rfl) (wd hw 44 rfl) (wd hw 3 rfl) (wd hw 46 rfl) rfl (by decide) TF.1 (fun z0 => rm7 l Z a0 hw n0 hB1 z0 _ _ _ _ _ _ _ _ _ _ _ _ _ _ (0 : Int32) (0 : Int32) 0 2 0 AP TF rfl rfl rfl (by rw [hyl]; decide) (by rw [hyl]; decide)) (lenOf pd_2 rfl) d0_156 rfl rfl rfl (by decide) (by decide) (by decide) (by decide) ?_
      rintro v hx ⟨rfl, ex⟩
      rw [ex]
      clear ex hx
      show W l room_1 C _ hB1 7 25 159 #[.val (.int sel), .val (.int f1), .val (.int f2), .val (.int x0), .val (.int x1), .val (.int w1), .val (.int t1), .val (.int w2), .val (.int t2), .val (.int x0), .val (.int x1), .val (.ref e), .val (.ref c)] [(.int (ys.getD (0 * 2 + 0) 0))]
      refine k_aload (pc := 159) H d0_159 rfl rfl ?_
      refine k_iconst (0 : Int32) (pc := 161) H d0_161 rfl ?_
      refine k_ialoadT (i := 0) (x := (ys.getD 0 0)) (pc := 162) H VB1 (rfl) (own_get 0 (by rw [hyl]; decide)) d0_162 ?_
      refine k_icmpF (pc := 163) H d0_163 (XT.ii_ne_f (rfl)) ?_
      refine k_aload (pc := 166) H d0_166 rfl rfl ?_
      refine k_iconst (0 : Int32) (pc := 168) H d0_168 rfl ?_
      refine k_iconst (1 : Int32) (pc := 169) H d0_169 rfl ?_
      refine k_invV (y := (⟨"com/example/terms_to_entities/termstoentities/index/TermCounts", "predicateFrequency", "(II)I"⟩ : MethodName)) (st := []) (a := c) [(.int (0 : Int32)), (.int (1 : Int32))] 0 (pc := 170) H (wd hw 42 rfl) (wd hw 43 rfl) (wd hw 45 rfl) (wd hw 44 rfl) (wd hw 3 rfl) (wd hw 46 rfl) rfl (by decide) TF.1 (fun z0 => rm7 l Z a0 hw n0 hB1 z0 _ _ _ _ _ _ _ _ _ _ _ _ _ _ (0 : Int32) (1 : Int32) 0 2 1 AP TF rfl rfl rfl (by rw [hyl]; decide) (by rw [hyl]; decide)) (lenOf pd_2 rfl) d0_170 rfl rfl rfl (by decide) (by decide) (by decide) (by decide) ?_
      rintro v hx ⟨rfl, ex⟩
      rw [ex]
      clear ex hx
      show W l room_1 C _ hB1 7 25 173 #[.val (.int sel), .val (.int f1), .val (.int f2), .val (.int x0), .val (.int x1), .val (.int w1), .val (.int t1), .val (.int w2), .val (.int t2), .val (.int x0), .val (.int x1), .val (.ref e), .val (.ref c)] [(.int (ys.getD (0 * 2 + 1) 0))]
      refine k_aload (pc := 173) H d0_173 rfl rfl ?_
      refine k_iconst (1 : Int32) (pc := 175) H d0_175 rfl ?_
      refine k_ialoadT (i := 1) (x := (ys.getD 1 0)) (pc := 176) H VB1 (rfl) (own_get 0 (by rw [hyl]; decide)) d0_176 ?_
      refine k_icmpF (pc := 177) H d0_177 (XT.ii_ne_f (rfl)) ?_
      refine k_aload (pc := 180) H d0_180 rfl rfl ?_
      refine k_iconst (1 : Int32) (pc := 182) H d0_182 rfl ?_
      refine k_iconst (0 : Int32) (pc := 183) H d0_183 rfl ?_
      refine k_invV (y := (⟨"com/example/terms_to_entities/termstoentities/index/TermCounts", "predicateFrequency", "(II)I"⟩ : MethodName)) (st := []) (a := c) [(.int (1 : Int32)), (.int (0 : Int32))] 0 (pc := 184) H (wd hw 42 rfl) (wd hw 43 rfl) (wd hw 45 rfl) (wd hw 44 rfl) (wd hw 3 rfl) (wd hw 46 rfl) rfl (by decide) TF.1 (fun z0 => rm7 l Z a0 hw n0 hB1 z0 _ _ _ _ _ _ _ _ _ _ _ _ _ _ (1 : Int32) (0 : Int32) 1 2 0 AP TF rfl rfl rfl (by rw [hyl]; decide) (by rw [hyl]; decide)) (lenOf pd_2 rfl) d0_184 rfl rfl rfl (by decide) (by decide) (by decide) (by decide) ?_
      rintro v hx ⟨rfl, ex⟩
      rw [ex]
      clear ex hx
      show W l room_1 C _ hB1 7 25 187 #[.val (.int sel), .val (.int f1), .val (.int f2), .val (.int x0), .val (.int x1), .val (.int w1), .val (.int t1), .val (.int w2), .val (.int t2), .val (.int x0), .val (.int x1), .val (.ref e), .val (.ref c)] [(.int (ys.getD (1 * 2 + 0) 0))]
      refine k_aload (pc := 187) H d0_187 rfl rfl ?_
      refine k_iconst (2 : Int32) (pc := 189) H d0_189 rfl ?_
      refine k_ialoadT (i := 2) (x := (ys.getD 2 0)) (pc := 190) H VB1 (rfl) (own_get 0 (by rw [hyl]; decide)) d0_190 ?_
      refine k_icmpF (pc := 191) H d0_191 (XT.ii_ne_f (rfl)) ?_
      refine k_aload (pc := 194) H d0_194 rfl rfl ?_
      refine k_iconst (1 : Int32) (pc := 196) H d0_196 rfl ?_
      refine k_iconst (1 : Int32) (pc := 197) H d0_197 rfl ?_
      refine k_invV (y := (⟨"com/example/terms_to_entities/termstoentities/index/TermCounts", "predicateFrequency", "(II)I"⟩ : MethodName)) (st := []) (a := c) [(.int (1 : Int32)), (.int (1 : Int32))] 0 (pc := 198) H (wd hw 42 rfl) (wd hw 43 rfl) (wd hw 45 rfl) (wd hw 44 rfl) (wd hw 3 rfl) (wd hw 46 rfl) rfl (by decide) TF.1 (fun z0 => rm7 l Z a0 hw n0 hB1 z0 _ _ _ _ _ _ _ _ _ _ _ _ _ _ (1 : Int32) (1 : Int32) 1 2 1 AP TF rfl rfl rfl (by rw [hyl]; decide) (by rw [hyl]; decide)) (lenOf pd_2 rfl) d0_198 rfl rfl rfl (by decide) (by decide) (by decide) (by decide) ?_
      rintro v hx ⟨rfl, ex⟩
      rw [ex]
      clear ex hx
      show W l room_1 C _ hB1 7 25 201 #[.val (.int sel), .val (.int f1), .val (.int f2), .val (.int x0), .val (.int x1), .val (.int w1), .val (.int t1), .val (.int w2), .val (.int t2), .val (.int x0), .val (.int x1), .val (.ref e), .val (.ref c)] [(.int (ys.getD (1 * 2 + 1) 0))]
      refine k_aload (pc := 201) H d0_201 rfl rfl ?_
      refine k_iconst (3 : Int32) (pc := 203) H d0_203 rfl ?_
      refine k_ialoadT (i := 3) (x := (ys.getD 3 0)) (pc := 204) H VB1 (rfl) (own_get 0 (by rw [hyl]; decide)) d0_204 ?_
      refine k_icmpF (pc := 205) H d0_205 (XT.ii_ne_f (rfl)) ?_
      refine k_aload (pc := 208) H d0_208 rfl rfl ?_
      refine k_iload (pc := 210) H d0_210 rfl ?_
      refine k_invV (y := (⟨"com/example/terms_to_entities/termstoentities/index/TermCounts", "restFrequency", "(I)I"⟩ : MethodName)) (st := []) (a := c) [(.int t1)] 0 (pc := 212) H (wd hw 47 rfl) (wd hw 48 rfl) (wd hw 50 rfl) (wd hw 49 rfl) (wd hw 3 rfl) (wd hw 51 rfl) rfl (by decide) TF.1 (fun z0 => rm8 l Z a0 hw n0 hB1 z0 _ _ _ _ _ _ _ _ _ _ _ _ _ _ t1 2 2 u1 AP TF rfl rfl hu1 (by simp; omega) (by intro i hi; rw [hyl]; omega) (by rw [hyl]; decide) (by decide)) (lenOf pd_4 rfl) d0_212 rfl rfl rfl (by decide) (by decide) (by decide) (by decide) ?_
      rintro v hx ⟨rfl, ex⟩
      rw [ex]
      clear ex hx
      show W l room_1 C _ hB1 7 25 215 #[.val (.int sel), .val (.int f1), .val (.int f2), .val (.int x0), .val (.int x1), .val (.int w1), .val (.int t1), .val (.int w2), .val (.int t2), .val (.int x0), .val (.int x1), .val (.ref e), .val (.ref c)] [(.int (own_rf (fun i => ys.getD (i * 2 + u1) 0) 0 2 ((List.replicate 2 (0 : Int32)).getD u1 0)))]
      refine k_aload (pc := 215) H d0_215 rfl rfl ?_
      refine k_iload (pc := 217) H d0_217 rfl ?_
      refine k_ialoadT (i := u1) (x := (ys.getD u1 0)) (pc := 219) H VB1 (hu1) (own_get 0 (by rw [hyl]; omega)) d0_219 ?_
      refine k_aload (pc := 220) H d0_220 rfl rfl ?_
      refine k_iconst (2 : Int32) (pc := 222) H d0_222 rfl ?_
      refine k_iload (pc := 223) H d0_223 rfl ?_
      refine k_iadd (pc := 225) H d0_225 ?_
      refine k_ialoadT (i := (2 + u1)) (x := (ys.getD (2 + u1) 0)) (pc := 226) H VB1 (add_nat rfl hu1 (by omega)) (own_get 0 (by rw [hyl]; omega)) d0_226 ?_
      refine k_iadd (pc := 227) H d0_227 ?_
      refine k_ineg (pc := 228) H d0_228 ?_
      refine k_icmpF (pc := 229) H d0_229 (XT.ii_ne_f (by have hz : (List.replicate 2 (0 : Int32)).getD u1 0 = 0 := by { have : u1 = 0 ∨ u1 = 1 := by { omega }; rcases this with rfl | rfl <;> rfl }; simp only [own_rf, hz, Nat.zero_mul, Nat.zero_add, Nat.one_mul]; exact own_neg _ _)) ?_
      refine k_iconst (1 : Int32) (pc := 232) H d0_232 rfl ?_
      refine k_goto 237 (pc := 233) H d0_233 rfl ?_
      exact k_retN' (t := .boolean) (by simp) (pc := 237) H d0_237 (by show 7 ≤ 24; decide) (by show 25 ≤ 128; decide) (rfl)
    · refine k_iloadN (pc := 66) H d0_66 rfl ?_
      refine k_goto 72 (pc := 67) H d0_67 rfl ?_
      refine k_istore (pc := 72) H d0_72 (Ls' := #[.val (.int sel), .val (.int f1), .val (.int f2), .val (.int x0), .val (.int x1), .val (.int w1), .val (.int t1), .val (.int w2), .val (.int t2), .val (.int x0), .val (.int x0), .unset, .unset]) rfl ?_
      refine k_iconst (4 : Int32) (pc := 74) H d0_74 rfl ?_
      refine k_new_int (4) 4 (pc := 75) H (wd hw 0 rfl) d0_75 (by decide) (by decide) (by decide) (by decide) (by decide) ?_
      intro h368 e ea369 ge370 E371 XA367 V372
      refine k_astore (pc := 77) H d0_77 rfl (Ls' := #[.val (.int sel), .val (.int f1), .val (.int f2), .val (.int x0), .val (.int x1), .val (.int w1), .val (.int t1), .val (.int w2), .val (.int t2), .val (.int x0), .val (.int x0), .val (.ref e), .unset]) rfl ?_
      refine k_aload (pc := 79) H d0_79 rfl rfl ?_
      refine k_iload (pc := 81) H d0_81 rfl ?_
      refine k_iconst (2 : Int32) (pc := 83) H d0_83 rfl ?_
      refine k_imul (pc := 84) H d0_84 ?_
      refine k_iload (pc := 85) H d0_85 rfl ?_
      refine k_iadd (pc := 87) H d0_87 ?_
      refine k_dup2 (pc := 88) H d0_88 rfl rfl ?_
      refine k_ialoadT (i := (v1 * 2 + u1)) (x := ((List.replicate 4 (0 : Int32)).getD (v1 * 2 + u1) 0)) (pc := 89) H V372 (hi1) (own_get 0 (by simp; omega)) d0_89 ?_
      refine k_iloadN (pc := 90) H d0_90 rfl ?_
      refine k_iadd (pc := 91) H d0_91 ?_
      refine k_iastoreT (i := (v1 * 2 + u1)) (pc := 92) H V372 (hi1) (by simp; omega) ge370 d0_92 ?_
      intro h373 K374 V375
      refine k_aload (pc := 93) H d0_93 rfl rfl ?_
      refine k_iload (pc := 95) H d0_95 rfl ?_
      refine k_iconst (2 : Int32) (pc := 97) H d0_97 rfl ?_
      refine k_imul (pc := 98) H d0_98 ?_
      refine k_iload (pc := 99) H d0_99 rfl ?_
      refine k_iadd (pc := 101) H d0_101 ?_
      refine k_dup2 (pc := 102) H d0_102 rfl rfl ?_
      refine k_ialoadT (i := (v2 * 2 + u2)) (x := (((List.replicate (4) 0).set (v1 * 2 + u1) (((List.replicate 4 (0 : Int32)).getD (v1 * 2 + u1) 0) + f1)).getD (v2 * 2 + u2) 0)) (pc := 103) H V375 (hi2) (own_get 0 (by simp; omega)) d0_103 ?_
      refine k_iloadN (pc := 104) H d0_104 rfl ?_
      refine k_iadd (pc := 105) H d0_105 ?_
      refine k_iastoreT (i := (v2 * 2 + u2)) (pc := 106) H V375 (hi2) (by simp; omega) ge370 d0_106 ?_
      intro h376 K377 V378
      obtain ⟨ys, hys⟩ : ∃ ys, ys = (((List.replicate (4) 0).set (v1 * 2 + u1) (((List.replicate 4 (0 : Int32)).getD (v1 * 2 + u1) 0) + f1)).set (v2 * 2 + u2) ((((List.replicate (4) 0).set (v1 * 2 + u1) (((List.replicate 4 (0 : Int32)).getD (v1 * 2 + u1) 0) + f1)).getD (v2 * 2 + u2) 0) + f2)) := ⟨_, rfl⟩
      have hyl : ys.length = 4 := by rw [hys]; simp
      have VE : IA Z h376 e ys := by rw [hys]; exact V378
      refine k_newObj (pc := 107) H (wd hw 1 rfl) (wd hw 2 rfl) (wd hw 3 rfl) d0_107 (by decide) (by decide) ?_
      intro h379 c ea380 ge381 E382 X383 D384
      have ne385 : e ≠ c := Nat.ne_of_lt (by rw [ea380]; exact VE.lt)
      have f386 : IA Z h379 e ys := VE.ext E382
      have f387 : Fld Z h379 c "com/example/terms_to_entities/termstoentities/index/TermCounts" "terms" "I" (.int (0 : Int32)) := D384 (Or.inr (wd hw 11 rfl)) (ty := .int) (by decide)
      have f388 : Fld Z h379 c "com/example/terms_to_entities/termstoentities/index/TermCounts" "wholeFrequencies" "[I" .null := D384 (Or.inr (wd hw 13 rfl)) (ty := (.array .int)) (by decide)
      have f389 : Fld Z h379 c "com/example/terms_to_entities/termstoentities/index/TermCounts" "placeOfPredicate" "[I" .null := D384 (Or.inr (wd hw 15 rfl)) (ty := (.array .int)) (by decide)
      have f390 : Fld Z h379 c "com/example/terms_to_entities/termstoentities/index/TermCounts" "predicates" "[I" .null := D384 (Or.inr (wd hw 17 rfl)) (ty := (.array .int)) (by decide)
      have f391 : Fld Z h379 c "com/example/terms_to_entities/termstoentities/index/TermCounts" "predicateLengths" "[J" .null := D384 (Or.inr (wd hw 20 rfl)) (ty := (.array .long)) (by decide)
      have f392 : Fld Z h379 c "com/example/terms_to_entities/termstoentities/index/TermCounts" "predicateFrequencies" "[I" .null := D384 (Or.inr (wd hw 22 rfl)) (ty := (.array .int)) (by decide)
      have f393 : Fld Z h379 c "com/example/terms_to_entities/termstoentities/index/TermCounts" "predicateCount" "I" (.int (0 : Int32)) := D384 (Or.inl (wd hw 29 rfl)) (ty := .int) (by decide)
      refine k_dup (pc := 110) H d0_110 rfl ?_
      refine k_iconst (2 : Int32) (pc := 111) H d0_111 rfl ?_
      refine k_iconst (3 : Int32) (pc := 112) H d0_112 rfl ?_
      refine k_iconst (2 : Int32) (pc := 113) H d0_113 rfl ?_
      refine k_invI (y := (⟨"com/example/terms_to_entities/termstoentities/index/TermCounts", "<init>", "(III)V"⟩ : MethodName)) (st := [(.ref c)]) (a := c) [(.int (2 : Int32)), (.int (3 : Int32)), (.int (2 : Int32))] 1 (pc := 114) H rfl (wd hw 4 rfl) (wd hw 5 rfl) (wd hw 3 rfl) (wd hw 6 rfl) (by decide) (fun z0 => rm1 l Z a0 hw n0 h379 z0 c ge381 X383 f387 f388 f389 f390 f391 f392 f393) (lenOf pd_0 rfl) d0_114 rfl rfl rfl (by decide) (by decide) (by decide) (by decide) ?_
      rintro v hA ⟨rfl, w, pl, pr, le, fr, AP, NW, K0, T0⟩
      show W l room_1 C _ hA 7 25 117 #[.val (.int sel), .val (.int f1), .val (.int f2), .val (.int x0), .val (.int x1), .val (.int w1), .val (.int t1), .val (.int w2), .val (.int t2), .val (.int x0), .val (.int x0), .val (.ref e), .unset] [(.ref c)]
      have VE0 : IA Z hA e ys := f386.keep K0 (ninS ne385 nin0)
      have elt : e < h379.size := f386.lt
      obtain ⟨n1, n2, n3, n4, n5⟩ := NW
      have nin : e ∉ [c, w, pl, pr, le, fr] := ninS ne385 (ninS (Nat.ne_of_lt (by omega)) (ninS (Nat.ne_of_lt (by omega)) (ninS (Nat.ne_of_lt (by omega)) (ninS (Nat.ne_of_lt (by omega)) (ninS (Nat.ne_of_lt (by omega)) nin0)))))
      refine k_astore (pc := 117) H d0_117 rfl (Ls' := #[.val (.int sel), .val (.int f1), .val (.int f2), .val (.int x0), .val (.int x1), .val (.int w1), .val (.int t1), .val (.int w2), .val (.int t2), .val (.int x0), .val (.int x0), .val (.ref e), .val (.ref c)]) rfl ?_
      refine k_aload (pc := 119) H d0_119 rfl rfl ?_
      refine k_iloadN (pc := 121) H d0_121 rfl ?_
      refine k_invV (y := (⟨"com/example/terms_to_entities/termstoentities/index/TermCounts", "addPredicate", "(I)V"⟩ : MethodName)) (st := []) (a := c) [(.int x0)] 0 (pc := 122) H (wd hw 23 rfl) (wd hw 24 rfl) (wd hw 26 rfl) (wd hw 25 rfl) (wd hw 3 rfl) (wd hw 27 rfl) rfl (by decide) T0.1 (fun z0 => rm3 l Z a0 hw n0 hA z0 _ _ _ _ _ _ _ _ _ _ _ _ _ _ _ p0 0 2 AP T0 hp0 (by simpa using hp03) rfl (by simp) (by simp) rfl (by simp [own_fr_len]) (by simp [own_fr_len]) (by decide)) (lenOf pd_3 rfl) d0_122 rfl rfl rfl (by decide) (by decide) (by decide) (by decide) ?_
      rintro v hA0 ⟨rfl, KA0, TA0⟩
      show W l room_1 C _ hA0 7 25 125 #[.val (.int sel), .val (.int f1), .val (.int f2), .val (.int x0), .val (.int x1), .val (.int w1), .val (.int t1), .val (.int w2), .val (.int t2), .val (.int x0), .val (.int x0), .val (.ref e), .val (.ref c)] []
      refine k_aload (pc := 125) H d0_125 rfl rfl ?_
      refine k_iload (pc := 127) H d0_127 rfl ?_
      have VA0 := VE0.keep KA0 nin
      refine k_invV (y := (⟨"com/example/terms_to_entities/termstoentities/index/TermCounts", "addPredicate", "(I)V"⟩ : MethodName)) (st := []) (a := c) [(.int x1)] 0 (pc := 129) H (wd hw 23 rfl) (wd hw 24 rfl) (wd hw 26 rfl) (wd hw 25 rfl) (wd hw 3 rfl) (wd hw 27 rfl) rfl (by decide) TA0.1 (fun z0 => rm3 l Z a0 hw n0 hA0 z0 _ _ _ _ _ _ _ _ _ _ _ _ _ _ _ p1 1 2 AP TA0 hp1 (by simpa using hp13) rfl (by simp) (by simp) rfl (by simp [own_fr_len]) (by simp [own_fr_len]) (by decide)) (lenOf pd_3 rfl) d0_129 rfl rfl rfl (by decide) (by decide) (by decide) (by decide) ?_
      rintro v hA1 ⟨rfl, KA1, TA1⟩
      show W l room_1 C _ hA1 7 25 132 #[.val (.int sel), .val (.int f1), .val (.int f2), .val (.int x0), .val (.int x1), .val (.int w1), .val (.int t1), .val (.int w2), .val (.int t2), .val (.int x0), .val (.int x0), .val (.ref e), .val (.ref c)] []
      refine k_aload (pc := 132) H d0_132 rfl rfl ?_
      refine k_iload (pc := 134) H d0_134 rfl ?_
      refine k_iload (pc := 136) H d0_136 rfl ?_
      refine k_iloadN (pc := 138) H d0_138 rfl ?_
      have VA1 := VA0.keep KA1 nin
      have TZ := own_TC_fr (ys := List.replicate 4 0) TA1 rfl
      refine k_invV (y := (⟨"com/example/terms_to_entities/termstoentities/index/TermCounts", "count", "(III)V"⟩ : MethodName)) (st := []) (a := c) [(.int x0), (.int t1), (.int f1)] 0 (pc := 139) H (wd hw 37 rfl) (wd hw 38 rfl) (wd hw 40 rfl) (wd hw 39 rfl) (wd hw 3 rfl) (wd hw 41 rfl) rfl (by decide) TZ.1 (fun z0 => rm6 l Z a0 hw n0 hA1 z0 _ _ _ _ _ _ _ _ _ _ _ _ _ _ _ _ f1 p0 0 2 u1 _ AP TZ hp0 (own_set_ne (by simpa using hp03) hne) rfl rfl hu1 (by simp; omega) (by simp)) (lenOf pd_0 rfl) d0_139 rfl rfl rfl (by decide) (by decide) (by decide) (by decide) ?_
      rintro v hB0 ⟨rfl, KB0, TB0⟩
      show W l room_1 C _ hB0 7 25 142 #[.val (.int sel), .val (.int f1), .val (.int f2), .val (.int x0), .val (.int x1), .val (.int w1), .val (.int t1), .val (.int w2), .val (.int t2), .val (.int x0), .val (.int x0), .val (.ref e), .val (.ref c)] []
      refine k_aload (pc := 142) H d0_142 rfl rfl ?_
      refine k_iload (pc := 144) H d0_144 rfl ?_
      refine k_iload (pc := 146) H d0_146 rfl ?_
      refine k_iloadN (pc := 148) H d0_148 rfl ?_
      have VB0 := VA1.keep KB0 nin
      refine k_invV (y := (⟨"com/example/terms_to_entities/termstoentities/index/TermCounts", "count", "(III)V"⟩ : MethodName)) (st := []) (a := c) [(.int x0), (.int t2), (.int f2)] 0 (pc := 149) H (wd hw 37 rfl) (wd hw 38 rfl) (wd hw 40 rfl) (wd hw 39 rfl) (wd hw 3 rfl) (wd hw 41 rfl) rfl (by decide) TB0.1 (fun z0 => rm6 l Z a0 hw n0 hB0 z0 _ _ _ _ _ _ _ _ _ _ _ _ _ _ _ _ f2 p0 0 2 u2 _ AP TB0 hp0 (own_set_ne (by simpa using hp03) hne) rfl rfl hu2 (by simp; omega) (by simp)) (lenOf pd_0 rfl) d0_149 rfl rfl rfl (by decide) (by decide) (by decide) (by decide) ?_
      rintro v hB1 ⟨rfl, KB1, TB1⟩
      show W l room_1 C _ hB1 7 25 152 #[.val (.int sel), .val (.int f1), .val (.int f2), .val (.int x0), .val (.int x1), .val (.int w1), .val (.int t1), .val (.int w2), .val (.int t2), .val (.int x0), .val (.int x0), .val (.ref e), .val (.ref c)] []
      refine k_aload (pc := 152) H d0_152 rfl rfl ?_
      refine k_iconst (0 : Int32) (pc := 154) H d0_154 rfl ?_
      refine k_iconst (0 : Int32) (pc := 155) H d0_155 rfl ?_
      have VB1 := VB0.keep KB1 nin
      have hq1 : v1 = 0 := by exact z1.mp c1
      have hq2 : v2 = 0 := by exact z2.mp c2
      have TF := own_TC_fr (ys := ys) TB1 (by rw [hys, hq1, hq2])
      refine k_invV (y := (⟨"com/example/terms_to_entities/termstoentities/index/TermCounts", "predicateFrequency", "(II)I"⟩ : MethodName)) (st := []) (a := c) [(.int (0 : Int32)), (.int (0 : Int32))] 0 (pc := 156) H (wd hw 42 rfl) (wd hw 43 rfl) (wd hw 45 rfl) (wd hw 44 rfl) (wd hw 3 rfl) (wd hw 46 rfl) rfl (by decide) TF.1 (fun z0 => rm7 l Z a0 hw n0 hB1 z0 _ _ _ _ _ _ _ _ _ _ _ _ _ _ (0 : Int32) (0 : Int32) 0 2 0 AP TF rfl rfl rfl (by rw [hyl]; decide) (by rw [hyl]; decide)) (lenOf pd_2 rfl) d0_156 rfl rfl rfl (by decide) (by decide) (by decide) (by decide) ?_
      rintro v hx ⟨rfl, ex⟩
      rw [ex]
      clear ex hx
      show W l room_1 C _ hB1 7 25 159 #[.val (.int sel), .val (.int f1), .val (.int f2), .val (.int x0), .val (.int x1), .val (.int w1), .val (.int t1), .val (.int w2), .val (.int t2), .val (.int x0), .val (.int x0), .val (.ref e), .val (.ref c)] [(.int (ys.getD (0 * 2 + 0) 0))]
      refine k_aload (pc := 159) H d0_159 rfl rfl ?_
      refine k_iconst (0 : Int32) (pc := 161) H d0_161 rfl ?_
      refine k_ialoadT (i := 0) (x := (ys.getD 0 0)) (pc := 162) H VB1 (rfl) (own_get 0 (by rw [hyl]; decide)) d0_162 ?_
      refine k_icmpF (pc := 163) H d0_163 (XT.ii_ne_f (rfl)) ?_
      refine k_aload (pc := 166) H d0_166 rfl rfl ?_
      refine k_iconst (0 : Int32) (pc := 168) H d0_168 rfl ?_
      refine k_iconst (1 : Int32) (pc := 169) H d0_169 rfl ?_
      refine k_invV (y := (⟨"com/example/terms_to_entities/termstoentities/index/TermCounts", "predicateFrequency", "(II)I"⟩ : MethodName)) (st := []) (a := c) [(.int (0 : Int32)), (.int (1 : Int32))] 0 (pc := 170) H (wd hw 42 rfl) (wd hw 43 rfl) (wd hw 45 rfl) (wd hw 44 rfl) (wd hw 3 rfl) (wd hw 46 rfl) rfl (by decide) TF.1 (fun z0 => rm7 l Z a0 hw n0 hB1 z0 _ _ _ _ _ _ _ _ _ _ _ _ _ _ (0 : Int32) (1 : Int32) 0 2 1 AP TF rfl rfl rfl (by rw [hyl]; decide) (by rw [hyl]; decide)) (lenOf pd_2 rfl) d0_170 rfl rfl rfl (by decide) (by decide) (by decide) (by decide) ?_
      rintro v hx ⟨rfl, ex⟩
      rw [ex]
      clear ex hx
      show W l room_1 C _ hB1 7 25 173 #[.val (.int sel), .val (.int f1), .val (.int f2), .val (.int x0), .val (.int x1), .val (.int w1), .val (.int t1), .val (.int w2), .val (.int t2), .val (.int x0), .val (.int x0), .val (.ref e), .val (.ref c)] [(.int (ys.getD (0 * 2 + 1) 0))]
      refine k_aload (pc := 173) H d0_173 rfl rfl ?_
      refine k_iconst (1 : Int32) (pc := 175) H d0_175 rfl ?_
      refine k_ialoadT (i := 1) (x := (ys.getD 1 0)) (pc := 176) H VB1 (rfl) (own_get 0 (by rw [hyl]; decide)) d0_176 ?_
      refine k_icmpF (pc := 177) H d0_177 (XT.ii_ne_f (rfl)) ?_
      refine k_aload (pc := 180) H d0_180 rfl rfl ?_
      refine k_iconst (1 : Int32) (pc := 182) H d0_182 rfl ?_
      refine k_iconst (0 : Int32) (pc := 183) H d0_183 rfl ?_
      refine k_invV (y := (⟨"com/example/terms_to_entities/termstoentities/index/TermCounts", "predicateFrequency", "(II)I"⟩ : MethodName)) (st := []) (a := c) [(.int (1 : Int32)), (.int (0 : Int32))] 0 (pc := 184) H (wd hw 42 rfl) (wd hw 43 rfl) (wd hw 45 rfl) (wd hw 44 rfl) (wd hw 3 rfl) (wd hw 46 rfl) rfl (by decide) TF.1 (fun z0 => rm7 l Z a0 hw n0 hB1 z0 _ _ _ _ _ _ _ _ _ _ _ _ _ _ (1 : Int32) (0 : Int32) 1 2 0 AP TF rfl rfl rfl (by rw [hyl]; decide) (by rw [hyl]; decide)) (lenOf pd_2 rfl) d0_184 rfl rfl rfl (by decide) (by decide) (by decide) (by decide) ?_
      rintro v hx ⟨rfl, ex⟩
      rw [ex]
      clear ex hx
      show W l room_1 C _ hB1 7 25 187 #[.val (.int sel), .val (.int f1), .val (.int f2), .val (.int x0), .val (.int x1), .val (.int w1), .val (.int t1), .val (.int w2), .val (.int t2), .val (.int x0), .val (.int x0), .val (.ref e), .val (.ref c)] [(.int (ys.getD (1 * 2 + 0) 0))]
      refine k_aload (pc := 187) H d0_187 rfl rfl ?_
      refine k_iconst (2 : Int32) (pc := 189) H d0_189 rfl ?_
      refine k_ialoadT (i := 2) (x := (ys.getD 2 0)) (pc := 190) H VB1 (rfl) (own_get 0 (by rw [hyl]; decide)) d0_190 ?_
      refine k_icmpF (pc := 191) H d0_191 (XT.ii_ne_f (rfl)) ?_
      refine k_aload (pc := 194) H d0_194 rfl rfl ?_
      refine k_iconst (1 : Int32) (pc := 196) H d0_196 rfl ?_
      refine k_iconst (1 : Int32) (pc := 197) H d0_197 rfl ?_
      refine k_invV (y := (⟨"com/example/terms_to_entities/termstoentities/index/TermCounts", "predicateFrequency", "(II)I"⟩ : MethodName)) (st := []) (a := c) [(.int (1 : Int32)), (.int (1 : Int32))] 0 (pc := 198) H (wd hw 42 rfl) (wd hw 43 rfl) (wd hw 45 rfl) (wd hw 44 rfl) (wd hw 3 rfl) (wd hw 46 rfl) rfl (by decide) TF.1 (fun z0 => rm7 l Z a0 hw n0 hB1 z0 _ _ _ _ _ _ _ _ _ _ _ _ _ _ (1 : Int32) (1 : Int32) 1 2 1 AP TF rfl rfl rfl (by rw [hyl]; decide) (by rw [hyl]; decide)) (lenOf pd_2 rfl) d0_198 rfl rfl rfl (by decide) (by decide) (by decide) (by decide) ?_
      rintro v hx ⟨rfl, ex⟩
      rw [ex]
      clear ex hx
      show W l room_1 C _ hB1 7 25 201 #[.val (.int sel), .val (.int f1), .val (.int f2), .val (.int x0), .val (.int x1), .val (.int w1), .val (.int t1), .val (.int w2), .val (.int t2), .val (.int x0), .val (.int x0), .val (.ref e), .val (.ref c)] [(.int (ys.getD (1 * 2 + 1) 0))]
      refine k_aload (pc := 201) H d0_201 rfl rfl ?_
      refine k_iconst (3 : Int32) (pc := 203) H d0_203 rfl ?_
      refine k_ialoadT (i := 3) (x := (ys.getD 3 0)) (pc := 204) H VB1 (rfl) (own_get 0 (by rw [hyl]; decide)) d0_204 ?_
      refine k_icmpF (pc := 205) H d0_205 (XT.ii_ne_f (rfl)) ?_
      refine k_aload (pc := 208) H d0_208 rfl rfl ?_
      refine k_iload (pc := 210) H d0_210 rfl ?_
      refine k_invV (y := (⟨"com/example/terms_to_entities/termstoentities/index/TermCounts", "restFrequency", "(I)I"⟩ : MethodName)) (st := []) (a := c) [(.int t1)] 0 (pc := 212) H (wd hw 47 rfl) (wd hw 48 rfl) (wd hw 50 rfl) (wd hw 49 rfl) (wd hw 3 rfl) (wd hw 51 rfl) rfl (by decide) TF.1 (fun z0 => rm8 l Z a0 hw n0 hB1 z0 _ _ _ _ _ _ _ _ _ _ _ _ _ _ t1 2 2 u1 AP TF rfl rfl hu1 (by simp; omega) (by intro i hi; rw [hyl]; omega) (by rw [hyl]; decide) (by decide)) (lenOf pd_4 rfl) d0_212 rfl rfl rfl (by decide) (by decide) (by decide) (by decide) ?_
      rintro v hx ⟨rfl, ex⟩
      rw [ex]
      clear ex hx
      show W l room_1 C _ hB1 7 25 215 #[.val (.int sel), .val (.int f1), .val (.int f2), .val (.int x0), .val (.int x1), .val (.int w1), .val (.int t1), .val (.int w2), .val (.int t2), .val (.int x0), .val (.int x0), .val (.ref e), .val (.ref c)] [(.int (own_rf (fun i => ys.getD (i * 2 + u1) 0) 0 2 ((List.replicate 2 (0 : Int32)).getD u1 0)))]
      refine k_aload (pc := 215) H d0_215 rfl rfl ?_
      refine k_iload (pc := 217) H d0_217 rfl ?_
      refine k_ialoadT (i := u1) (x := (ys.getD u1 0)) (pc := 219) H VB1 (hu1) (own_get 0 (by rw [hyl]; omega)) d0_219 ?_
      refine k_aload (pc := 220) H d0_220 rfl rfl ?_
      refine k_iconst (2 : Int32) (pc := 222) H d0_222 rfl ?_
      refine k_iload (pc := 223) H d0_223 rfl ?_
      refine k_iadd (pc := 225) H d0_225 ?_
      refine k_ialoadT (i := (2 + u1)) (x := (ys.getD (2 + u1) 0)) (pc := 226) H VB1 (add_nat rfl hu1 (by omega)) (own_get 0 (by rw [hyl]; omega)) d0_226 ?_
      refine k_iadd (pc := 227) H d0_227 ?_
      refine k_ineg (pc := 228) H d0_228 ?_
      refine k_icmpF (pc := 229) H d0_229 (XT.ii_ne_f (by have hz : (List.replicate 2 (0 : Int32)).getD u1 0 = 0 := by { have : u1 = 0 ∨ u1 = 1 := by { omega }; rcases this with rfl | rfl <;> rfl }; simp only [own_rf, hz, Nat.zero_mul, Nat.zero_add, Nat.one_mul]; exact own_neg _ _)) ?_
      refine k_iconst (1 : Int32) (pc := 232) H d0_232 rfl ?_
      refine k_goto 237 (pc := 233) H d0_233 rfl ?_
      exact k_retN' (t := .boolean) (by simp) (pc := 237) H d0_237 (by show 7 ≤ 24; decide) (by show 25 ≤ 128; decide) (rfl)
set_option maxRecDepth 65536 in
set_option maxHeartbeats 40000000 in
theorem comes_1 {Post : Tables → Env → Array Value → State → Outcome → State → Prop} (hpost : ∀ tb e args s v u, (limb_1_1.after args s (.returned v) u = true ∧ limb_1_2.after args s (.returned v) u = true ∧ True) → FrameEnd s (.returned v) u (Jvm.fieldLocs frame_1_writes args s ++ Jvm.arrayLocs frame_1_arrays args s ++ Jvm.staticLocs frame_1_statics s) 24 128 → Post tb e args s (.returned v) u) :
    ArmFor flags0 classFile x code maxLocals ret World_1 tables_1 room_1 Calls_1 rest_1 Pre_1 Post := by
  intro l hfl _ _ p e ha hc hk s m args below hf hA hF happ hP
  obtain ⟨hcalls, hrest, hpre⟩ := hP
  obtain ⟨-, -, -, hnamed, -, -, -, hat⟩ := (Spec.applies_iff hf).mp happ
  obtain ⟨hg, hn⟩ := and_e (Cond.before_iff.mp (show (Jvm.Cond.and given_1 narrow_1).before args s = true from hpre))
  obtain ⟨hcnt, g0⟩ := and_e hg
  obtain ⟨q0, g1⟩ := and_e g0
  obtain ⟨q1, g2⟩ := and_e g1
  obtain ⟨w0, w1, w2, rfl⟩ : ∃ w0 w1 w2 : Value, args = #[w0, w1, w2] := by
    have hs : args.size = 3 := by simpa [Cond.value, given_1] using hcnt
    obtain ⟨L⟩ := args
    match L, hs with
    | [w0, w1, w2], _ => exact ⟨w0, w1, w2, rfl⟩
  have hw := fun d (hd : d ∈ tables_1) => atoms_spec (ws := Jvm.Cond.code x code maxLocals ret :: tables_1) hat d (List.mem_cons_of_mem _ hd)
  obtain ⟨i0, e0⟩ := is_v q0
  obtain rfl : w0 = (.int i0) := Option.some.inj e0
  obtain ⟨i1, e1⟩ := is_v q1
  obtain rfl : w1 = (.int i1) := Option.some.inj e1
  obtain ⟨i2, e2⟩ := is_v g2
  obtain rfl : w2 = (.int i2) := Option.some.inj e2
  obtain ⟨n, o, h1, h2, h3, _, L, rfl, ⟨rfl, N⟩, hq⟩ := rm0 l s _ hw tables_1 s.heap.size s.heap (Nat.le_refl _) i0 i1 i2  p e ha hc hk s m _ below hf ((Spec.applies_iff_loose hf).mp happ).1 ⟨rfl, State.Warmed39.refl s, rfl⟩ trivial
  refine ⟨n, _, h1, h2, h3, hpost _ _ _ _ _ _ ⟨Cond.after_iff.mpr rfl, Cond.after_iff.mpr (eq_i res_at (Term.int_eval (1)) rfl), trivial⟩ ⟨hq.1, hq.2.1, (hq.2.2.sift fun y hy => Or.inr (N y hy)).mono (by decide) (by decide)⟩⟩
theorem main_1_1 : Claimed_1_1 := comes_1 fun _ _ _ _ _ _ h hF => ⟨h.1, hF⟩
theorem main_1_2 : Claimed_1_2 := comes_1 fun _ _ _ _ _ _ h hF => ⟨h.2.1, hF⟩
end Jvm.Pilot.@@N@@
namespace Jvm.Pilot.@@N@@
open Jvm Jvm.ClassFile Sem Op Lib Jvm.Free Jvm.Stand Jvm.Pilot.@@N@@.Jvm.D
/-! MADE BY PROGRAM (witnessworld.py) out of the Statement's table words and the real class files: 12 classes; the members and pool entries that the words name. The judged class is class 1, her method 1. -/
namespace start1
open Jvm.ClassFile
def u (s : String) : CpInfo := .utf8 (stringToUtf16 s)
/-- a pool by its gaps: so many unusable entries, then the entry; so many at the end -/
def gap : Nat → List CpInfo → List CpInfo
  | 0, r => r
  | n + 1, r => .unusable :: gap n r
def poolList (es : List (Nat × CpInfo)) (last : Nat) : List CpInfo := es.foldr (fun e r => gap e.1 (e.2 :: r)) (gap last [])
def pool (es : List (Nat × CpInfo)) (last : Nat) : Array CpInfo := ⟨poolList es last⟩
def fileOf (pool : Array CpInfo) (this : Nat) (attrs : Array Attribute := #[]) (ms : Array MethodInfo := #[]) (fl : Nat := 33) (sup : Nat := 0) (ifs : Array Nat := #[]) (fds : Array FieldInfo := #[]) : ClassFile where
  minorVersion := 0
  majorVersion := 65
  constantPool := pool
  accessFlags := fl
  thisClass := this
  superClass := sup
  interfaces := ifs
  fields := fds
  methods := ms
  attributes := attrs
def plain (name : String) (sup : Option ClassId) : Class where
  name := name
  kind := .ordinary
  loader := none
  accessFlags := 33
  super := sup
  interfaces := #[]
  cf := none
  fields := #[]
  methods := #[]
  instanceTypes := #[]
  staticTypes := #[]
  resolved := #[]
  callSites := []
  init := .initialized
  statics := none
  mirror := none

def pool0 : Array CpInfo := pool [(5, u "<init>"), (0, u "()V"), (1, .class_ 10), (1, u "java/lang/Object")] 113

def k0c0 : Code := { maxStack := 0, maxLocals := 1, code := object_method_1_code, exceptionTable := #[], attributes := #[] }
def k0m0 : Method := { name := "<init>", desc := "()V", sig := { parameters := [], returnType := none }, accessFlags := 1, code := some k0c0 }
/-- java/lang/Object -/
def k0 : Class := { plain "java/lang/Object" none with
  accessFlags := 33
  interfaces := #[]
  cf := some (fileOf pool0 8 #[] #[{ accessFlags := 1, nameIndex := 5, descriptorIndex := 6, attributes := #[] }] 33 0 #[] #[])
  fields := #[]
  methods := #[k0m0]
  instanceTypes := #[]
  staticTypes := #[]
  resolved := Array.replicate 124 none
  statics := none }

def pool1 : Array CpInfo := pool [(2, .class_ 4), (1, u "java/lang/Object"), (0, u "<init>"), (0, u "()V"), (0, .class_ 8), (0, u "com/example/terms_to_entities/termstoentities/index/TermCounts"), (0, .methodref 7 10), (0, .nameAndType 5 11), (0, u "(III)V"), (0, .methodref 7 13), (0, .nameAndType 14 15), (0, u "addPredicate"), (0, u "(I)V"), (0, .methodref 7 17), (0, .nameAndType 18 11), (0, u "count"), (0, .methodref 7 20), (0, .nameAndType 21 22), (0, u "predicateFrequency"), (0, u "(II)I"), (0, .methodref 7 24), (0, .nameAndType 25 26), (0, u "restFrequency"), (0, u "(I)I"), (0, .class_ 28), (0, u "com/example/terms_to_entities/termstoentities/index/TermCountsCountPinLaw"), (2, u "law"), (0, u "(III)Z")] 5

def k1m0 : Method := { name := "<init>", desc := "()V", sig := { parameters := [], returnType := none }, accessFlags := 1, code := none }
def k1c1 : Code := { maxStack := 5, maxLocals := 13, code := code, exceptionTable := #[], attributes := #[] }
def k1m1 : Method := { name := "law", desc := "(III)Z", sig := { parameters := [.int, .int, .int], returnType := some .boolean }, accessFlags := 9, code := some k1c1 }
/-- com/example/terms_to_entities/termstoentities/index/TermCountsCountPinLaw -/
def k1 : Class := { plain "com/example/terms_to_entities/termstoentities/index/TermCountsCountPinLaw" (some 0) with
  accessFlags := 49
  interfaces := #[]
  cf := some (fileOf pool1 27 #[] #[{ accessFlags := 1, nameIndex := 5, descriptorIndex := 6, attributes := #[] }, { accessFlags := 9, nameIndex := 31, descriptorIndex := 32, attributes := #[] }] 49 2 #[] #[])
  fields := #[]
  methods := #[k1m0, k1m1]
  instanceTypes := #[]
  staticTypes := #[]
  resolved := Array.replicate 38 none
  statics := none }

def pool2 : Array CpInfo := pool [(1, .methodref 2 3), (0, .class_ 4), (0, .nameAndType 5 6), (0, u "java/lang/Object"), (0, u "<init>"), (0, u "()V"), (0, .fieldref 8 9), (0, .class_ 10), (0, .nameAndType 11 12), (0, u "com/example/terms_to_entities/termstoentities/index/TermCounts"), (0, u "terms"), (0, u "I"), (0, .fieldref 8 14), (0, .nameAndType 15 16), (0, u "wholeFrequencies"), (0, u "[I"), (0, .fieldref 8 18), (0, .nameAndType 19 16), (0, u "placeOfPredicate"), (0, .fieldref 8 21), (0, .nameAndType 22 16), (0, u "predicates"), (0, .fieldref 8 24), (0, .nameAndType 25 26), (0, u "predicateLengths"), (0, u "[J"), (0, .fieldref 8 28), (0, .nameAndType 29 16), (0, u "predicateFrequencies"), (2, u "wholeLength"), (0, u "J"), (0, .fieldref 8 35), (0, .nameAndType 36 12), (0, u "predicateCount"), (0, .methodref 8 38), (0, .nameAndType 39 40), (0, u "predicateFrequency"), (0, u "(II)I"), (1, .class_ 44), (1, u "java/util/Arrays"), (0, u "fill"), (1, .methodref 42 48), (0, .nameAndType 45 49), (0, u "([IIII)V"), (0, u "(III)V"), (5, u "restFrequency"), (0, u "(I)I"), (6, u "addPredicate"), (0, u "(I)V"), (0, u "count")] 5

def k2c0 : Code := { maxStack := 3, maxLocals := 4, code := prog_14_method_1_code, exceptionTable := #[], attributes := #[] }
def k2m0 : Method := { name := "<init>", desc := "(III)V", sig := { parameters := [.int, .int, .int], returnType := none }, accessFlags := 0, code := some k2c0 }
def k2c1 : Code := { maxStack := 4, maxLocals := 4, code := prog_14_method_3_code, exceptionTable := #[], attributes := #[] }
def k2m1 : Method := { name := "restFrequency", desc := "(I)I", sig := { parameters := [.int], returnType := some .int }, accessFlags := 1, code := some k2c1 }
def k2c2 : Code := { maxStack := 3, maxLocals := 3, code := prog_14_method_7_code, exceptionTable := #[], attributes := #[] }
def k2m2 : Method := { name := "predicateFrequency", desc := "(II)I", sig := { parameters := [.int, .int], returnType := some .int }, accessFlags := 1, code := some k2c2 }
def k2c3 : Code := { maxStack := 4, maxLocals := 2, code := prog_14_method_9_code, exceptionTable := #[], attributes := #[] }
def k2m3 : Method := { name := "addPredicate", desc := "(I)V", sig := { parameters := [.int], returnType := none }, accessFlags := 0, code := some k2c3 }
def k2c4 : Code := { maxStack := 4, maxLocals := 4, code := prog_14_method_12_code, exceptionTable := #[], attributes := #[] }
def k2m4 : Method := { name := "count", desc := "(III)V", sig := { parameters := [.int, .int, .int], returnType := none }, accessFlags := 0, code := some k2c4 }
/-- com/example/terms_to_entities/termstoentities/index/TermCounts -/
def k2 : Class := { plain "com/example/terms_to_entities/termstoentities/index/TermCounts" (some 0) with
  accessFlags := 33
  interfaces := #[]
  cf := some (fileOf pool2 8 #[] #[{ accessFlags := 0, nameIndex := 5, descriptorIndex := 50, attributes := #[] }, { accessFlags := 1, nameIndex := 56, descriptorIndex := 57, attributes := #[] }, { accessFlags := 1, nameIndex := 39, descriptorIndex := 40, attributes := #[] }, { accessFlags := 0, nameIndex := 64, descriptorIndex := 65, attributes := #[] }, { accessFlags := 0, nameIndex := 66, descriptorIndex := 50, attributes := #[] }] 33 2 #[] #[{ accessFlags := 18, nameIndex := 11, descriptorIndex := 12, attributes := #[] }, { accessFlags := 18, nameIndex := 15, descriptorIndex := 16, attributes := #[] }, { accessFlags := 18, nameIndex := 19, descriptorIndex := 16, attributes := #[] }, { accessFlags := 18, nameIndex := 22, descriptorIndex := 16, attributes := #[] }, { accessFlags := 18, nameIndex := 25, descriptorIndex := 26, attributes := #[] }, { accessFlags := 18, nameIndex := 29, descriptorIndex := 16, attributes := #[] }, { accessFlags := 2, nameIndex := 32, descriptorIndex := 33, attributes := #[] }, { accessFlags := 2, nameIndex := 36, descriptorIndex := 12, attributes := #[] }])
  fields := #[{ name := "terms", type := .int, accessFlags := 18, slot := 0, constantValue := 0 }, { name := "wholeFrequencies", type := (.array .int), accessFlags := 18, slot := 1, constantValue := 0 }, { name := "placeOfPredicate", type := (.array .int), accessFlags := 18, slot := 2, constantValue := 0 }, { name := "predicates", type := (.array .int), accessFlags := 18, slot := 3, constantValue := 0 }, { name := "predicateLengths", type := (.array .long), accessFlags := 18, slot := 4, constantValue := 0 }, { name := "predicateFrequencies", type := (.array .int), accessFlags := 18, slot := 5, constantValue := 0 }, { name := "wholeLength", type := .long, accessFlags := 2, slot := 6, constantValue := 0 }, { name := "predicateCount", type := .int, accessFlags := 2, slot := 7, constantValue := 0 }]
  methods := #[k2m0, k2m1, k2m2, k2m3, k2m4]
  instanceTypes := #[.int, (.array .int), (.array .int), (.array .int), (.array .long), (.array .int), .long, .int]
  staticTypes := #[]
  resolved := Array.replicate 72 none
  statics := none }

def pool3 : Array CpInfo := pool [(2, .class_ 4), (1, u "java/lang/Object"), (0, u "<init>"), (0, u "()V"), (5, u "([IIII)V"), (0, .methodref 14 15), (0, .class_ 16), (0, .nameAndType 17 18), (0, u "java/util/Arrays"), (0, u "rangeCheck"), (0, u "(III)V"), (55, .class_ 76), (1, u "java/util/Arrays$NaturalOrder"), (36, .class_ 115), (1, u "java/util/Arrays$LegacyMergeSort"), (1, u "Z"), (257, .class_ 376), (0, u "java/util/Arrays$ArrayList"), (68, u "$assertionsDisabled"), (269, u "MIN_ARRAY_SORT_GRAN"), (0, u "I"), (2, u "INSERTIONSORT_THRESHOLD"), (120, u "fill"), (134, .class_ 976), (0, u "java/util/Arrays$ArrayItr")] 52

def k3m0 : Method := { name := "<init>", desc := "()V", sig := { parameters := [], returnType := none }, accessFlags := 2, code := none }
def k3c1 : Code := { maxStack := 4, maxLocals := 3, code := jdk_65_method_30_code, exceptionTable := #[], attributes := #[] }
def k3m1 : Method := { name := "rangeCheck", desc := "(III)V", sig := { parameters := [.int, .int, .int], returnType := none }, accessFlags := 8, code := some k3c1 }
def k3c2 : Code := { maxStack := 3, maxLocals := 5, code := jdk_65_method_104_code, exceptionTable := #[], attributes := #[] }
def k3m2 : Method := { name := "fill", desc := "([IIII)V", sig := { parameters := [(.array .int), .int, .int, .int], returnType := none }, accessFlags := 9, code := some k3c2 }
/-- java/util/Arrays -/
def k3 : Class := { plain "java/util/Arrays" (some 0) with
  accessFlags := 49
  interfaces := #[]
  cf := some (fileOf pool3 14 #[.nestMembers #[975, 375, 113, 74]] #[{ accessFlags := 2, nameIndex := 5, descriptorIndex := 6, attributes := #[] }, { accessFlags := 8, nameIndex := 17, descriptorIndex := 18, attributes := #[] }, { accessFlags := 9, nameIndex := 840, descriptorIndex := 12, attributes := #[] }] 49 2 #[] #[{ accessFlags := 26, nameIndex := 715, descriptorIndex := 716, attributes := #[] }, { accessFlags := 26, nameIndex := 719, descriptorIndex := 716, attributes := #[] }, { accessFlags := 4120, nameIndex := 445, descriptorIndex := 117, attributes := #[] }])
  fields := #[{ name := "MIN_ARRAY_SORT_GRAN", type := .int, accessFlags := 26, slot := 0, constantValue := 0 }, { name := "INSERTIONSORT_THRESHOLD", type := .int, accessFlags := 26, slot := 1, constantValue := 0 }, { name := "$assertionsDisabled", type := .boolean, accessFlags := 4120, slot := 2, constantValue := 0 }]
  methods := #[k3m0, k3m1, k3m2]
  instanceTypes := #[]
  staticTypes := #[.int, .int, .boolean]
  resolved := Array.replicate 1029 none
  statics := none }

def pool4 : Array CpInfo := pool [(1, u "java/lang/Cloneable"), (0, .class_ 1), (0, u "java/lang/Object"), (0, .class_ 3)] 3

/-- java/lang/Cloneable -/
def k4 : Class := { plain "java/lang/Cloneable" (some 0) with
  accessFlags := 1537
  interfaces := #[]
  cf := some (fileOf pool4 2 #[] #[] 1537 4 #[] #[])
  fields := #[]
  methods := #[]
  instanceTypes := #[]
  staticTypes := #[]
  resolved := Array.replicate 8 none
  statics := none }

def pool5 : Array CpInfo := pool [(1, u "java/io/Serializable"), (0, .class_ 1), (0, u "java/lang/Object"), (0, .class_ 3)] 3

/-- java/io/Serializable -/
def k5 : Class := { plain "java/io/Serializable" (some 0) with
  accessFlags := 1537
  interfaces := #[]
  cf := some (fileOf pool5 2 #[] #[] 1537 4 #[] #[])
  fields := #[]
  methods := #[]
  instanceTypes := #[]
  staticTypes := #[]
  resolved := Array.replicate 8 none
  statics := none }

/-- the primitive byte -/
def k6 : Class := { plain "byte" none with kind := .primitive 'B', accessFlags := 0x411 }
/-- [B -/
def k7 : Class := { plain "[B" (some 0) with kind := .array 6 .byte, interfaces := #[4, 5], accessFlags := 1041 }

/-- the primitive int -/
def k8 : Class := { plain "int" none with kind := .primitive 'I', accessFlags := 0x411 }
/-- [I -/
def k9 : Class := { plain "[I" (some 0) with kind := .array 8 .int, interfaces := #[4, 5], accessFlags := 1041 }

/-- the primitive long -/
def k10 : Class := { plain "long" none with kind := .primitive 'J', accessFlags := 0x411 }
/-- [J -/
def k11 : Class := { plain "[J" (some 0) with kind := .array 10 .long, interfaces := #[4, 5], accessFlags := 1041 }

def heap : Heap := #[]
def classes : Array Class := #[k0, k1, k2, k3, k4, k5, k6, k7, k8, k9, k10, k11]
def interned : List (Array UInt16 × Addr) := []
def slotsUsed : Nat := 0
def theMethod : MethodId := ⟨1, 1⟩
def args0 : Array Value := #[.int 1, .int 2, .int 3]
def aboutOver (below : List Frame) : State where
  vm := { classes := classes, interned := interned.toArray }
  heap := heap
  slotsUsed := slotsUsed
  threads := #[{ frames := .invoking theMethod args0 :: below }]
def below0 : List Frame := [.native { method := ⟨0, 0⟩, args := #[] }]
def about1 : State := aboutOver below0
def p0 : Program := .bare "" "" ""
def e0 : Env := launch0.env 0 0 0
theorem w_frames : about1.frames = Frame.invoking theMethod args0 :: below0 := rfl
set_option maxRecDepth 65536 in
theorem w_args : argsFit about1.vm theMethod args0 = true := by decide +kernel
set_option maxRecDepth 65536 in
theorem w_heap : heapFits about1 = true := by decide +kernel
set_option maxRecDepth 65536 in
theorem w_runnable : about1.curStatus? = some .runnable := by decide +kernel
set_option maxRecDepth 65536 in
theorem w_alone : about1.alone = true := by decide +kernel
set_option maxRecDepth 65536 in
theorem w_named : about1.methodNamed? x = some theMethod := by decide +kernel
set_option maxRecDepth 65536 in
theorem w_hears : about1.hears theMethod below0 = true := by decide +kernel
set_option maxRecDepth 65536 in
theorem w_ripe : about1.ripe theMethod args0 below0 = true := by decide +kernel
theorem w_running : about1.status = .running := rfl
set_option maxRecDepth 65536 in
theorem w_room : about1.hasRoom e0.platform room_1 = true :=
  launch0.hasRoom_least _ room_1 (by decide +kernel) (by decide +kernel) (by decide +kernel) (by decide +kernel) (by decide +kernel) (by decide +kernel)
theorem allAtoms_all (ts : List Jvm.Cond) (a : Array Jvm.Value) (st : Jvm.State) : (allAtoms ts).before a st = ts.all (fun c => c.before a st) := by
  induction ts with
  | nil => rfl
  | cons c t ih =>
    show (Jvm.Cond.and c (allAtoms t)).before a st = _
    rw [Jvm.Cond.before_and, ih, List.all_cons]
def words1 : List Jvm.Cond := Jvm.Cond.code x code maxLocals ret :: tables_1
/-- a 'code' word, met by the world's own term for the bytes: nothing is compared byte by byte -/
theorem code_word {y : MethodName} {bytes : ByteArray} {mx : Nat} {rt : Option FieldType} {a : Array Value} {s : State} {m : MethodId} {meth : Method} {c : Code} (h1 : s.methodNamed? y = some m) (h2 : s.vm.method? m = some meth) (h3 : meth.code = some c) (h4 : c.code = bytes)
    (h5 : (c.maxLocals == mx && c.exceptionTable.isEmpty && decide (c.maxStack ≤ mostOperands) && decide (meth.sig.returnType = rt) && !meth.locks && decide (parseMethodDescriptor y.desc = some meth.sig)) = true) : (Jvm.Cond.code y bytes mx rt).before a s = true := by
  simp only [Bool.and_eq_true, beq_iff_eq, Bool.not_eq_true', decide_eq_true_eq] at h5
  obtain ⟨⟨⟨⟨⟨g1, g2⟩, g3⟩, g4⟩, g5⟩, g6⟩ := h5
  simp [Cond.before, Cond.holds, Cond.value, h1, h2, h3, h4, g1, g2, g3, g4, g5, g6]
def isCode : Jvm.Cond → Bool
  | .code _ _ _ _ => true
  | _ => false
theorem all_split {L : List Jvm.Cond} {P : Jvm.Cond → Bool} (h1 : L.all (fun c => isCode c || P c) = true) (h2 : ∀ c ∈ L.filter isCode, P c = true) : L.all P = true := by
  refine List.all_eq_true.mpr fun c hc => ?_
  have h := List.all_eq_true.mp h1 c hc
  rcases Bool.eq_false_or_eq_true (isCode c) with hi | hi
  · exact h2 c (List.mem_filter.mpr ⟨hc, hi⟩)
  · simpa [hi] using h
set_option maxRecDepth 65536 in
theorem w_c0 : (Jvm.Cond.code x code maxLocals ret).before args0 about1 = true := code_word (m := ⟨1, 1⟩) (meth := k1m1) (c := k1c1) (by decide +kernel) rfl rfl rfl (by decide +kernel)
set_option maxRecDepth 65536 in
theorem w_c1 : (Jvm.Cond.code ({ cls := "com/example/terms_to_entities/termstoentities/index/TermCounts", name := "<init>", desc := "(III)V" } : Jvm.MethodName) prog_14_method_1_code (4 : Nat) (Option.none : Option Jvm.ClassFile.FieldType)).before args0 about1 = true := code_word (m := ⟨2, 0⟩) (meth := k2m0) (c := k2c0) (by decide +kernel) rfl rfl rfl (by decide +kernel)
set_option maxRecDepth 65536 in
theorem w_c2 : (Jvm.Cond.code ({ cls := "java/lang/Object", name := "<init>", desc := "()V" } : Jvm.MethodName) object_method_1_code (1 : Nat) (Option.none : Option Jvm.ClassFile.FieldType)).before args0 about1 = true := code_word (m := ⟨0, 0⟩) (meth := k0m0) (c := k0c0) (by decide +kernel) rfl rfl rfl (by decide +kernel)
set_option maxRecDepth 65536 in
theorem w_c3 : (Jvm.Cond.code ({ cls := "com/example/terms_to_entities/termstoentities/index/TermCounts", name := "addPredicate", desc := "(I)V" } : Jvm.MethodName) prog_14_method_9_code (2 : Nat) (Option.none : Option Jvm.ClassFile.FieldType)).before args0 about1 = true := code_word (m := ⟨2, 3⟩) (meth := k2m3) (c := k2c3) (by decide +kernel) rfl rfl rfl (by decide +kernel)
set_option maxRecDepth 65536 in
theorem w_c4 : (Jvm.Cond.code ({ cls := "java/util/Arrays", name := "fill", desc := "([IIII)V" } : Jvm.MethodName) jdk_65_method_104_code (5 : Nat) (Option.none : Option Jvm.ClassFile.FieldType)).before args0 about1 = true := code_word (m := ⟨3, 2⟩) (meth := k3m2) (c := k3c2) (by decide +kernel) rfl rfl rfl (by decide +kernel)
set_option maxRecDepth 65536 in
theorem w_c5 : (Jvm.Cond.code ({ cls := "java/util/Arrays", name := "rangeCheck", desc := "(III)V" } : Jvm.MethodName) jdk_65_method_30_code (3 : Nat) (Option.none : Option Jvm.ClassFile.FieldType)).before args0 about1 = true := code_word (m := ⟨3, 1⟩) (meth := k3m1) (c := k3c1) (by decide +kernel) rfl rfl rfl (by decide +kernel)
set_option maxRecDepth 65536 in
theorem w_c6 : (Jvm.Cond.code ({ cls := "com/example/terms_to_entities/termstoentities/index/TermCounts", name := "count", desc := "(III)V" } : Jvm.MethodName) prog_14_method_12_code (4 : Nat) (Option.none : Option Jvm.ClassFile.FieldType)).before args0 about1 = true := code_word (m := ⟨2, 4⟩) (meth := k2m4) (c := k2c4) (by decide +kernel) rfl rfl rfl (by decide +kernel)
set_option maxRecDepth 65536 in
theorem w_c7 : (Jvm.Cond.code ({ cls := "com/example/terms_to_entities/termstoentities/index/TermCounts", name := "predicateFrequency", desc := "(II)I" } : Jvm.MethodName) prog_14_method_7_code (3 : Nat) (Option.some Jvm.ClassFile.FieldType.int)).before args0 about1 = true := code_word (m := ⟨2, 2⟩) (meth := k2m2) (c := k2c2) (by decide +kernel) rfl rfl rfl (by decide +kernel)
set_option maxRecDepth 65536 in
theorem w_c8 : (Jvm.Cond.code ({ cls := "com/example/terms_to_entities/termstoentities/index/TermCounts", name := "restFrequency", desc := "(I)I" } : Jvm.MethodName) prog_14_method_3_code (4 : Nat) (Option.some Jvm.ClassFile.FieldType.int)).before args0 about1 = true := code_word (m := ⟨2, 1⟩) (meth := k2m1) (c := k2c1) (by decide +kernel) rfl rfl rfl (by decide +kernel)
def codes1 : List Jvm.Cond := [Jvm.Cond.code x code maxLocals ret, Jvm.Cond.code ({ cls := "com/example/terms_to_entities/termstoentities/index/TermCounts", name := "<init>", desc := "(III)V" } : Jvm.MethodName) prog_14_method_1_code (4 : Nat) (Option.none : Option Jvm.ClassFile.FieldType), Jvm.Cond.code ({ cls := "java/lang/Object", name := "<init>", desc := "()V" } : Jvm.MethodName) object_method_1_code (1 : Nat) (Option.none : Option Jvm.ClassFile.FieldType), Jvm.Cond.code ({ cls := "com/example/terms_to_entities/termstoentities/index/TermCounts", name := "addPredicate", desc := "(I)V" } : Jvm.MethodName) prog_14_method_9_code (2 : Nat) (Option.none : Option Jvm.ClassFile.FieldType), Jvm.Cond.code ({ cls := "java/util/Arrays", name := "fill", desc := "([IIII)V" } : Jvm.MethodName) jdk_65_method_104_code (5 : Nat) (Option.none : Option Jvm.ClassFile.FieldType), Jvm.Cond.code ({ cls := "java/util/Arrays", name := "rangeCheck", desc := "(III)V" } : Jvm.MethodName) jdk_65_method_30_code (3 : Nat) (Option.none : Option Jvm.ClassFile.FieldType), Jvm.Cond.code ({ cls := "com/example/terms_to_entities/termstoentities/index/TermCounts", name := "count", desc := "(III)V" } : Jvm.MethodName) prog_14_method_12_code (4 : Nat) (Option.none : Option Jvm.ClassFile.FieldType), Jvm.Cond.code ({ cls := "com/example/terms_to_entities/termstoentities/index/TermCounts", name := "predicateFrequency", desc := "(II)I" } : Jvm.MethodName) prog_14_method_7_code (3 : Nat) (Option.some Jvm.ClassFile.FieldType.int), Jvm.Cond.code ({ cls := "com/example/terms_to_entities/termstoentities/index/TermCounts", name := "restFrequency", desc := "(I)I" } : Jvm.MethodName) prog_14_method_3_code (4 : Nat) (Option.some Jvm.ClassFile.FieldType.int)]
set_option maxRecDepth 65536 in
theorem codes_eq : words1.filter isCode = codes1 := rfl
theorem w_codes : ∀ c ∈ words1.filter isCode, c.before args0 about1 = true := by
  rw [codes_eq]
  intro c hc
  simp only [codes1, List.mem_cons, List.not_mem_nil, or_false] at hc
  rcases hc with rfl | rfl | rfl | rfl | rfl | rfl | rfl | rfl | rfl
  · exact w_c0
  · exact w_c1
  · exact w_c2
  · exact w_c3
  · exact w_c4
  · exact w_c5
  · exact w_c6
  · exact w_c7
  · exact w_c8
set_option maxRecDepth 65536 in
theorem w_t1 : (words1.take 24).all (fun c => isCode c || c.before args0 about1) = true := by decide +kernel
set_option maxRecDepth 65536 in
theorem w_t2 : ((words1.drop 24).take 24).all (fun c => isCode c || c.before args0 about1) = true := by decide +kernel
set_option maxRecDepth 65536 in
theorem w_t3 : ((words1.drop 24).drop 24).all (fun c => isCode c || c.before args0 about1) = true := by decide +kernel
theorem w_tables : (allAtoms (Jvm.Cond.code x code maxLocals ret :: tables_1)).before args0 about1 = true := by
  rw [allAtoms_all]
  show words1.all (fun c => c.before args0 about1) = true
  refine all_split ?_ w_codes
  rw [← List.take_append_drop 24 words1, List.all_append, w_t1, ← List.take_append_drop 24 (words1.drop 24), List.all_append, w_t2, w_t3]
  rfl
set_option maxRecDepth 65536 in
theorem w_case : (Jvm.Cond.and given_1 narrow_1).before args0 about1 = true := by decide +kernel
theorem w_applies : (headSpec (Jvm.Cond.code x code maxLocals ret :: tables_1) room_1).applies x e0.platform about1 = true :=
  (Spec.applies_iff w_frames).mpr ⟨w_running, w_runnable, w_alone, w_named, w_hears, w_ripe, w_room, w_tables⟩
theorem atStart : AtStart classFile x code maxLocals ret World_1 tables_1 room_1 Calls_1 rest_1 Pre_1 launch0 p0 e0 about1 theMethod args0 below0 :=
  ⟨lists_1, trivial, launch0.admits_env _ _ _, launch0.least_env, fairChoices_fair.cas, fairChoices_fair.clock, w_frames, w_args, w_heap, w_applies, trivial, trivial, w_case⟩
end start1
theorem witness_1 : WitnessClaimed_1 := ⟨start1.p0, start1.e0, start1.about1, start1.theMethod, start1.args0, start1.below0, start1.atStart⟩
end Jvm.Pilot.@@N@@

import JvmDerived
import JvmDerived.Pilot.@@N@@Statement
import JvmDerived.Pilot.@@N@@Code
set_option linter.unusedVariables false
set_option linter.unusedSimpArgs false
@@BLOCK:NumsL.lean.txt@@
namespace Jvm.OwnKit
open Sem ClassFile Op Lib Jvm.Stand Jvm.Free Jvm.LawKit Jvm.RoadKit
/-- the surroundings of one body: program, environment, start, method, arguments, frames below, method record, code -/
abbrev Cxt := Program × Env × State × MethodId × Array Value × List Frame × Method × Code
/-- what a body owes: the first new address, cells, slots, what it leaves -/
abbrev En := Nat × Nat × Nat × (Option Value → Heap → Prop)
abbrev St (l : Launch) (R : Room) (C : Cxt) (T : State) (L : List Loc) (k n : Nat) : Prop :=
  Stand C.1 l C.2.1 R C.2.2.1 C.2.2.2.1 C.2.2.2.2.1 C.2.2.2.2.2.1 C.2.2.2.2.2.2.1 C.2.2.2.2.2.2.2 T L k n
abbrev Sp (C : Cxt) (a b : State) : Prop := Steps C.1.tables C.2.1 C.2.2.2.2.2.1 a b
def Goes (C : Cxt) (E : En) (a : State) : Prop :=
  ∃ t o, Sp C a t ∧ t.status = .running ∧ Ended t C.2.2.2.2.2.1 o ∧ ∃ v L, o = .returned v ∧ (E.2.2.2 v t.heap ∧ Fr E.1 L) ∧ FrameEnd C.2.2.1 o t L E.2.1 E.2.2.1
/-- from this place of the code, with this heap, these locals and this stack, and so many cells and slots made, the body comes to its end as owed -/
def W (l : Launch) (R : Room) (C : Cxt) (E : En) (h : Heap) (k n pc : Nat) (Ls : Array Slot) (st : List Value) : Prop :=
  ∀ T L, St l R C T L k n → Fr E.1 L → T.heap = h → Goes C E (T.setTop (mkF C.2.2.2.1 pc Ls st))
def Cx (C : Cxt) (Z : State) (own : String) (code : ByteArray) (ml : Nat) (ret : Option FieldType) (nm : String) (n0 : Nat) : Prop :=
  C.1.tables.exec = Jvm.exec ∧ C.2.2.2.2.2.2.2.code = code ∧ C.2.2.2.2.2.2.2.maxLocals = ml ∧ C.2.2.1.vm.findClass own = some C.2.2.2.1.cls ∧ Z.Warmed39 C.2.2.1.vm ∧ C.2.2.2.2.2.2.1.sig.returnType = ret ∧ C.2.2.2.2.2.2.1.locks = false ∧ C.2.2.2.2.2.2.1.name = nm ∧ n0 ≤ C.2.2.1.heap.size
/-- a contract of one call: these arguments, this heap -/
def Ctr (l : Launch) (Z : State) (y : MethodName) (bytes : ByteArray) (maxL : Nat) (ret : Option FieldType) (rm : Room) (n0 : Nat) (as' : Array Value) (h : Heap) (Q : Option Value → Heap → Prop) : Prop :=
  MetFree l y (head1 [Cond.code y bytes maxL ret] rm) (fun a U => a = as' ∧ Z.Warmed39 U.vm ∧ U.heap = h) (fun _ _ _ _ _ => True) (fun _ U o U' => ∃ v L, o = .returned v ∧ (Q v U'.heap ∧ Fr n0 L) ∧ FrameEnd U o U' L rm.cells rm.slots)
section Own
variable {l : Launch} {R : Room} {C : Cxt} {E : En} {h h' : Heap} {k n pc : Nat} {Ls : Array Slot} {st : List Value} {Z : State} {own nm : String} {code : ByteArray} {ml : Nat} {ret : Option FieldType} {a0 : Array Value}
theorem wd {ts : List Jvm.Cond} (hw : ∀ d ∈ ts, d.before a0 Z = true) (i : Nat) {d : Jvm.Cond} (hi : ts[i]? = some d) : d.before a0 Z = true := hw _ (List.mem_of_getElem? hi)
theorem W.via {pc' : Nat} {Ls' : Array Slot} {st' : List Value} (f : ∀ T t L, St l R C T L k n → T.heap = h → Sp C (T.setTop (mkF C.2.2.2.1 pc' Ls' st')) t → Sp C (T.setTop (mkF C.2.2.2.1 pc Ls st)) t)
    (hr : W l R C E h k n pc' Ls' st') : W l R C E h k n pc Ls st := fun T L X N eT => by
  obtain ⟨t, o, h1, h2⟩ := hr T L X N eT
  exact ⟨t, o, f T t L X eT h1, h2⟩
theorem W.more {k' n' : Nat} (hk : k ≤ k') (hn : n ≤ n') (hr : W l R C E h k' n' pc Ls st) : W l R C E h k n pc Ls st := fun T L X N eT => hr T L (X.more hk hn) N eT
/-- a step that moves the tables alone -/
theorem W.viaT {pc' : Nat} {Ls' : Array Slot} {st' : List Value} (f : ∀ T L, St l R C T L k n → T.heap = h → ∃ T', St l R C T' L k n ∧ T'.heap = h ∧ ∀ t, Sp C (T'.setTop (mkF C.2.2.2.1 pc' Ls' st')) t → Sp C (T.setTop (mkF C.2.2.2.1 pc Ls st)) t)
    (hr : W l R C E h k n pc' Ls' st') : W l R C E h k n pc Ls st := fun T L X N eT => by
  obtain ⟨T', X', e', q⟩ := f T L X eT
  obtain ⟨t, o, h1, h2⟩ := hr T' L X' N e'
  exact ⟨t, o, q t h1, h2⟩
theorem size_ge {n0 : Nat} (H : Cx C Z own code ml ret nm n0) {T : State} {L : List Loc} (X : St l R C T L k n) : n0 ≤ T.heap.size := Nat.le_trans H.2.2.2.2.2.2.2.2 X.same.2.1
/-! plain steps -/
section Plain
theorem k_iloadN {i : Fin 4} {x : Int32} (H : Cx C Z own code ml ret nm E.1) (hd : decode code pc = .ok (.iload_n i, 1)) (hl : Ls[i.val]? = some (.val (.int x))) (hr : W l R C E h k n (pc + 1) Ls (.int x :: st)) : W l R C E h k n pc Ls st := .via (fun T t L X _ r => XS.iloadN X.here H.1 rfl (hb H.2.1 hd) hl r) hr
theorem k_iload {i : Nat} {x : Int32} (H : Cx C Z own code ml ret nm E.1) (hd : decode code pc = .ok (.iload i, 2)) (hl : Ls[i]? = some (.val (.int x))) (hr : W l R C E h k n (pc + 2) Ls (.int x :: st)) : W l R C E h k n pc Ls st := .via (fun T t L X _ r => XS.iload X.here H.1 rfl (hb H.2.1 hd) hl r) hr
theorem k_lloadN {i : Fin 4} {x : Int64} (H : Cx C Z own code ml ret nm E.1) (hd : decode code pc = .ok (.lload_n i, 1)) (hl : Ls[i.val]? = some (.val (.long x))) (hr : W l R C E h k n (pc + 1) Ls (.long x :: st)) : W l R C E h k n pc Ls st := .via (fun T t L X _ r => XT.lloadN X.here H.1 rfl (hb H.2.1 hd) hl r) hr
theorem k_lload {i : Nat} {x : Int64} (H : Cx C Z own code ml ret nm E.1) (hd : decode code pc = .ok (.lload i, 2)) (hl : Ls[i]? = some (.val (.long x))) (hr : W l R C E h k n (pc + 2) Ls (.long x :: st)) : W l R C E h k n pc Ls st := .via (fun T t L X _ r => XT.lload X.here H.1 rfl (hb H.2.1 hd) hl r) hr
theorem k_aloadN {i : Fin 4} {v : Value} (H : Cx C Z own code ml ret nm E.1) (hd : decode code pc = .ok (.aload_n i, 1)) (hl : Ls[i.val]? = some (.val v)) (hv : v.isRef = true) (hr : W l R C E h k n (pc + 1) Ls (v :: st)) : W l R C E h k n pc Ls st := .via (fun T t L X _ r => XS.aloadN X.here H.1 rfl (hb H.2.1 hd) hl hv r) hr
theorem k_aload {i : Nat} {v : Value} (H : Cx C Z own code ml ret nm E.1) (hd : decode code pc = .ok (.aload i, 2)) (hl : Ls[i]? = some (.val v)) (hv : v.isRef = true) (hr : W l R C E h k n (pc + 2) Ls (v :: st)) : W l R C E h k n pc Ls st := .via (fun T t L X _ r => XS.aload X.here H.1 rfl (hb H.2.1 hd) hl hv r) hr
theorem k_istoreN {i : Fin 4} {x : Int32} {Ls' : Array Slot} (H : Cx C Z own code ml ret nm E.1) (hd : decode code pc = .ok (.istore_n i, 1)) (hl : storeLocals Ls i.val (.int x) = some Ls') (hr : W l R C E h k n (pc + 1) Ls' st) : W l R C E h k n pc Ls (.int x :: st) := .via (fun T t L X _ r => XS.istoreN X.here H.1 rfl (hb H.2.1 hd) rfl hl r) hr
theorem k_istore {i : Nat} {x : Int32} {Ls' : Array Slot} (H : Cx C Z own code ml ret nm E.1) (hd : decode code pc = .ok (.istore i, 2)) (hl : storeLocals Ls i (.int x) = some Ls') (hr : W l R C E h k n (pc + 2) Ls' st) : W l R C E h k n pc Ls (.int x :: st) := .via (fun T t L X _ r => XS.istore X.here H.1 rfl (hb H.2.1 hd) rfl hl r) hr
theorem k_lstoreN {i : Fin 4} {x : Int64} {Ls' : Array Slot} (H : Cx C Z own code ml ret nm E.1) (hd : decode code pc = .ok (.lstore_n i, 1)) (hl : storeLocals Ls i.val (.long x) = some Ls') (hr : W l R C E h k n (pc + 1) Ls' st) : W l R C E h k n pc Ls (.long x :: st) := .via (fun T t L X _ r => XT.lstoreN X.here H.1 rfl (hb H.2.1 hd) rfl hl r) hr
theorem k_lstore {i : Nat} {x : Int64} {Ls' : Array Slot} (H : Cx C Z own code ml ret nm E.1) (hd : decode code pc = .ok (.lstore i, 2)) (hl : storeLocals Ls i (.long x) = some Ls') (hr : W l R C E h k n (pc + 2) Ls' st) : W l R C E h k n pc Ls (.long x :: st) := .via (fun T t L X _ r => XT.lstore X.here H.1 rfl (hb H.2.1 hd) rfl hl r) hr
theorem k_astoreN {i : Fin 4} {x : Value} {Ls' : Array Slot} (H : Cx C Z own code ml ret nm E.1) (hd : decode code pc = .ok (.astore_n i, 1)) (hv : x.isRef = true) (hl : storeLocals Ls i.val x = some Ls') (hr : W l R C E h k n (pc + 1) Ls' st) : W l R C E h k n pc Ls (x :: st) := .via (fun T t L X _ r => XS.astoreN X.here H.1 rfl (hb H.2.1 hd) rfl hv hl r) hr
theorem k_astore {i : Nat} {x : Value} {Ls' : Array Slot} (H : Cx C Z own code ml ret nm E.1) (hd : decode code pc = .ok (.astore i, 2)) (hv : x.isRef = true) (hl : storeLocals Ls i x = some Ls') (hr : W l R C E h k n (pc + 2) Ls' st) : W l R C E h k n pc Ls (x :: st) := .via (fun T t L X _ r => XS.astore X.here H.1 rfl (hb H.2.1 hd) rfl hv hl r) hr
theorem k_iconst {i : Int} (v : Int32) (H : Cx C Z own code ml ret nm E.1) (hd : decode code pc = .ok (.iconst i, 1)) (hv : Int32.ofInt i = v) (hr : W l R C E h k n (pc + 1) Ls (.int v :: st)) : W l R C E h k n pc Ls st := .via (fun T t L X _ r => XT.iconstV X.here H.1 rfl v (hb H.2.1 hd) hv r) hr
theorem k_bipush {i : Int} (v : Int32) (H : Cx C Z own code ml ret nm E.1) (hd : decode code pc = .ok (.bipush i, 2)) (hv : (Int8.ofInt i).toInt32 = v) (hr : W l R C E h k n (pc + 2) Ls (.int v :: st)) : W l R C E h k n pc Ls st := .via (fun T t L X _ r => XT.bipushV X.here H.1 rfl v (hb H.2.1 hd) hv r) hr
theorem k_sipush {i : Int} (v : Int32) (H : Cx C Z own code ml ret nm E.1) (hd : decode code pc = .ok (.sipush i, 3)) (hv : (Int16.ofInt i).toInt32 = v) (hr : W l R C E h k n (pc + 3) Ls (.int v :: st)) : W l R C E h k n pc Ls st := .via (fun T t L X _ r => XT.sipushV X.here H.1 rfl v (hb H.2.1 hd) hv r) hr
theorem k_lconst {i : Fin 2} (v : Int64) (H : Cx C Z own code ml ret nm E.1) (hd : decode code pc = .ok (.lconst i, 1)) (hv : Int64.ofNat i = v) (hr : W l R C E h k n (pc + 1) Ls (.long v :: st)) : W l R C E h k n pc Ls st := .via (fun T t L X _ r => XT.lconstV X.here H.1 rfl v (hb H.2.1 hd) hv r) hr
theorem k_aconstNull (H : Cx C Z own code ml ret nm E.1) (hd : decode code pc = .ok (.aconst_null, 1)) (hr : W l R C E h k n (pc + 1) Ls (.null :: st)) : W l R C E h k n pc Ls st := .via (fun T t L X _ r => XS.aconstNull X.here H.1 rfl (hb H.2.1 hd) r) hr
theorem k_ldcI {i : Nat} {v : Int32} (H : Cx C Z own code ml ret nm E.1) (hc : (Cond.constant own i v).before a0 Z = true) (hd : decode code pc = .ok (.ldc i, 2)) (hr : W l R C E h k n (pc + 2) Ls (.int v :: st)) : W l R C E h k n pc Ls st := .via (fun T t L X _ r => X.ldcI H.1 H.2.2.2.1 (mv H.2.2.2.2.1 hc) rfl (hb H.2.1 hd) r) hr
theorem k_ldcWI {i : Nat} {v : Int32} (H : Cx C Z own code ml ret nm E.1) (hc : (Cond.constant own i v).before a0 Z = true) (hd : decode code pc = .ok (.ldc_w i, 3)) (hr : W l R C E h k n (pc + 3) Ls (.int v :: st)) : W l R C E h k n pc Ls st := .via (fun T t L X _ r => X.ldcWI H.1 H.2.2.2.1 (mv H.2.2.2.2.1 hc) rfl (hb H.2.1 hd) r) hr
theorem k_ldc2J {i : Nat} {v : Int64} (H : Cx C Z own code ml ret nm E.1) (hc : (Cond.constantLong own i v).before a0 Z = true) (hd : decode code pc = .ok (.ldc2_w i, 3)) (hr : W l R C E h k n (pc + 3) Ls (.long v :: st)) : W l R C E h k n pc Ls st := .via (fun T t L X _ r => X.ldc2J H.1 H.2.2.2.1 (mv H.2.2.2.2.1 hc) rfl (hb H.2.1 hd) r) hr
theorem k_iinc {i : Nat} {c : Int} (v : Int32) {x : Int32} {Ls' : Array Slot} (H : Cx C Z own code ml ret nm E.1) (hd : decode code pc = .ok (.iinc i c, 3)) (hv : Int32.ofInt c = v) (hl : Ls[i]? = some (.val (.int x))) (hl' : storeLocals Ls i (.int (x + v)) = some Ls') (hr : W l R C E h k n (pc + 3) Ls' st) : W l R C E h k n pc Ls st := .via (fun T t L X _ r => XT.iincV X.here H.1 rfl v (hb H.2.1 hd) hv hl hl' r) hr
theorem k_iadd {x y : Int32} (H : Cx C Z own code ml ret nm E.1) (hd : decode code pc = .ok (.iadd, 1)) (hr : W l R C E h k n (pc + 1) Ls (.int (x + y) :: st)) : W l R C E h k n pc Ls (.int y :: .int x :: st) := .via (fun T t L X _ r => XS.iadd X.here H.1 rfl (hb H.2.1 hd) rfl r) hr
theorem k_isub {x y : Int32} (H : Cx C Z own code ml ret nm E.1) (hd : decode code pc = .ok (.isub, 1)) (hr : W l R C E h k n (pc + 1) Ls (.int (x - y) :: st)) : W l R C E h k n pc Ls (.int y :: .int x :: st) := .via (fun T t L X _ r => XS.isub X.here H.1 rfl (hb H.2.1 hd) rfl r) hr
theorem k_imul {x y : Int32} (H : Cx C Z own code ml ret nm E.1) (hd : decode code pc = .ok (.imul, 1)) (hr : W l R C E h k n (pc + 1) Ls (.int (x * y) :: st)) : W l R C E h k n pc Ls (.int y :: .int x :: st) := .via (fun T t L X _ r => XS.imul X.here H.1 rfl (hb H.2.1 hd) rfl r) hr
theorem k_idiv {x y : Int32} (H : Cx C Z own code ml ret nm E.1) (hd : decode code pc = .ok (.idiv, 1)) (hy : y ≠ 0) (hr : W l R C E h k n (pc + 1) Ls (.int (x / y) :: st)) : W l R C E h k n pc Ls (.int y :: .int x :: st) := .via (fun T t L X _ r => XS.idiv X.here H.1 rfl (hb H.2.1 hd) rfl hy r) hr
theorem k_irem {x y : Int32} (H : Cx C Z own code ml ret nm E.1) (hd : decode code pc = .ok (.irem, 1)) (hy : y ≠ 0) (hr : W l R C E h k n (pc + 1) Ls (.int (x % y) :: st)) : W l R C E h k n pc Ls (.int y :: .int x :: st) := .via (fun T t L X _ r => iremM X H.1 rfl (hb H.2.1 hd) rfl hy r) hr
theorem k_iand {x y : Int32} (H : Cx C Z own code ml ret nm E.1) (hd : decode code pc = .ok (.iand, 1)) (hr : W l R C E h k n (pc + 1) Ls (.int (x &&& y) :: st)) : W l R C E h k n pc Ls (.int y :: .int x :: st) := .via (fun T t L X _ r => XS.iand X.here H.1 rfl (hb H.2.1 hd) rfl r) hr
theorem k_ior {x y : Int32} (H : Cx C Z own code ml ret nm E.1) (hd : decode code pc = .ok (.ior, 1)) (hr : W l R C E h k n (pc + 1) Ls (.int (x ||| y) :: st)) : W l R C E h k n pc Ls (.int y :: .int x :: st) := .via (fun T t L X _ r => XT.ior X.here H.1 rfl (hb H.2.1 hd) rfl r) hr
theorem k_ixor {x y : Int32} (H : Cx C Z own code ml ret nm E.1) (hd : decode code pc = .ok (.ixor, 1)) (hr : W l R C E h k n (pc + 1) Ls (.int (x ^^^ y) :: st)) : W l R C E h k n pc Ls (.int y :: .int x :: st) := .via (fun T t L X _ r => XT.ixor X.here H.1 rfl (hb H.2.1 hd) rfl r) hr
theorem k_ishl {x y : Int32} (H : Cx C Z own code ml ret nm E.1) (hd : decode code pc = .ok (.ishl, 1)) (hr : W l R C E h k n (pc + 1) Ls (.int (x <<< (y &&& 31)) :: st)) : W l R C E h k n pc Ls (.int y :: .int x :: st) := .via (fun T t L X _ r => XT.ishl X.here H.1 rfl (hb H.2.1 hd) rfl r) hr
theorem k_ishr {x y : Int32} (H : Cx C Z own code ml ret nm E.1) (hd : decode code pc = .ok (.ishr, 1)) (hr : W l R C E h k n (pc + 1) Ls (.int (x >>> (y &&& 31)) :: st)) : W l R C E h k n pc Ls (.int y :: .int x :: st) := .via (fun T t L X _ r => XT.ishr X.here H.1 rfl (hb H.2.1 hd) rfl r) hr
theorem k_iushr {x y : Int32} (H : Cx C Z own code ml ret nm E.1) (hd : decode code pc = .ok (.iushr, 1)) (hr : W l R C E h k n (pc + 1) Ls (.int (XT.ushr x y) :: st)) : W l R C E h k n pc Ls (.int y :: .int x :: st) := .via (fun T t L X _ r => XT.iushr X.here H.1 rfl (hb H.2.1 hd) rfl r) hr
theorem k_ineg {x : Int32} (H : Cx C Z own code ml ret nm E.1) (hd : decode code pc = .ok (.ineg, 1)) (hr : W l R C E h k n (pc + 1) Ls (.int (-x) :: st)) : W l R C E h k n pc Ls (.int x :: st) := .via (fun T t L X _ r => XS.ineg X.here H.1 rfl (hb H.2.1 hd) rfl r) hr
theorem k_ladd {x y : Int64} (H : Cx C Z own code ml ret nm E.1) (hd : decode code pc = .ok (.ladd, 1)) (hr : W l R C E h k n (pc + 1) Ls (.long (x + y) :: st)) : W l R C E h k n pc Ls (.long y :: .long x :: st) := .via (fun T t L X _ r => XT.ladd X.here H.1 rfl (hb H.2.1 hd) rfl r) hr
theorem k_lsub {x y : Int64} (H : Cx C Z own code ml ret nm E.1) (hd : decode code pc = .ok (.lsub, 1)) (hr : W l R C E h k n (pc + 1) Ls (.long (x - y) :: st)) : W l R C E h k n pc Ls (.long y :: .long x :: st) := .via (fun T t L X _ r => XT.lsub X.here H.1 rfl (hb H.2.1 hd) rfl r) hr
theorem k_land {x y : Int64} (H : Cx C Z own code ml ret nm E.1) (hd : decode code pc = .ok (.land, 1)) (hr : W l R C E h k n (pc + 1) Ls (.long (x &&& y) :: st)) : W l R C E h k n pc Ls (.long y :: .long x :: st) := .via (fun T t L X _ r => XT.land X.here H.1 rfl (hb H.2.1 hd) rfl r) hr
theorem k_lor {x y : Int64} (H : Cx C Z own code ml ret nm E.1) (hd : decode code pc = .ok (.lor, 1)) (hr : W l R C E h k n (pc + 1) Ls (.long (x ||| y) :: st)) : W l R C E h k n pc Ls (.long y :: .long x :: st) := .via (fun T t L X _ r => XT.lor X.here H.1 rfl (hb H.2.1 hd) rfl r) hr
theorem k_lxor {x y : Int64} (H : Cx C Z own code ml ret nm E.1) (hd : decode code pc = .ok (.lxor, 1)) (hr : W l R C E h k n (pc + 1) Ls (.long (x ^^^ y) :: st)) : W l R C E h k n pc Ls (.long y :: .long x :: st) := .via (fun T t L X _ r => XT.lxor X.here H.1 rfl (hb H.2.1 hd) rfl r) hr
theorem k_lshl {x : Int64} {y : Int32} (H : Cx C Z own code ml ret nm E.1) (hd : decode code pc = .ok (.lshl, 1)) (hr : W l R C E h k n (pc + 1) Ls (.long (x <<< (y.toInt64 &&& 63)) :: st)) : W l R C E h k n pc Ls (.int y :: .long x :: st) := .via (fun T t L X _ r => XT.lshl X.here H.1 rfl (hb H.2.1 hd) rfl r) hr
theorem k_lushr {x : Int64} {y : Int32} (H : Cx C Z own code ml ret nm E.1) (hd : decode code pc = .ok (.lushr, 1)) (hr : W l R C E h k n (pc + 1) Ls (.long (XT.ushrL x y) :: st)) : W l R C E h k n pc Ls (.int y :: .long x :: st) := .via (fun T t L X _ r => XT.lushr X.here H.1 rfl (hb H.2.1 hd) rfl r) hr
theorem k_i2l {x : Int32} (H : Cx C Z own code ml ret nm E.1) (hd : decode code pc = .ok (.i2l, 1)) (hr : W l R C E h k n (pc + 1) Ls (.long x.toInt64 :: st)) : W l R C E h k n pc Ls (.int x :: st) := .via (fun T t L X _ r => XT.i2l X.here H.1 rfl (hb H.2.1 hd) rfl r) hr
theorem k_l2i {x : Int64} (H : Cx C Z own code ml ret nm E.1) (hd : decode code pc = .ok (.l2i, 1)) (hr : W l R C E h k n (pc + 1) Ls (.int x.toInt32 :: st)) : W l R C E h k n pc Ls (.long x :: st) := .via (fun T t L X _ r => XT.l2i X.here H.1 rfl (hb H.2.1 hd) rfl r) hr
theorem k_i2b {x : Int32} (H : Cx C Z own code ml ret nm E.1) (hd : decode code pc = .ok (.i2b, 1)) (hr : W l R C E h k n (pc + 1) Ls (.int x.toInt8.toInt32 :: st)) : W l R C E h k n pc Ls (.int x :: st) := .via (fun T t L X _ r => XT.i2b X.here H.1 rfl (hb H.2.1 hd) rfl r) hr
theorem k_i2c {x : Int32} (H : Cx C Z own code ml ret nm E.1) (hd : decode code pc = .ok (.i2c, 1)) (hr : W l R C E h k n (pc + 1) Ls (.int x.toUInt32.toUInt16.toUInt32.toInt32 :: st)) : W l R C E h k n pc Ls (.int x :: st) := .via (fun T t L X _ r => XT.i2c X.here H.1 rfl (hb H.2.1 hd) rfl r) hr
theorem k_lcmp {x y : Int64} (H : Cx C Z own code ml ret nm E.1) (hd : decode code pc = .ok (.lcmp, 1)) (hr : W l R C E h k n (pc + 1) Ls (.int (XT.cmpL x y) :: st)) : W l R C E h k n pc Ls (.long y :: .long x :: st) := .via (fun T t L X _ r => XT.lcmp X.here H.1 rfl (hb H.2.1 hd) rfl r) hr
theorem k_dup {v : Value} (H : Cx C Z own code ml ret nm E.1) (hd : decode code pc = .ok (.dup, 1)) (hc : v.category = 1) (hr : W l R C E h k n (pc + 1) Ls (v :: v :: st)) : W l R C E h k n pc Ls (v :: st) := .via (fun T t L X _ r => XS.dup X.here H.1 rfl (hb H.2.1 hd) rfl hc r) hr
theorem k_pop {v : Value} (H : Cx C Z own code ml ret nm E.1) (hd : decode code pc = .ok (.pop, 1)) (hc : v.category = 1) (hr : W l R C E h k n (pc + 1) Ls st) : W l R C E h k n pc Ls (v :: st) := .via (fun T t L X _ r => XT.pop X.here H.1 rfl (hb H.2.1 hd) rfl hc r) hr
theorem k_dupX1 {v w : Value} (H : Cx C Z own code ml ret nm E.1) (hd : decode code pc = .ok (.dup_x1, 1)) (hc : v.category = 1) (hc' : w.category = 1) (hr : W l R C E h k n (pc + 1) Ls (v :: w :: v :: st)) : W l R C E h k n pc Ls (v :: w :: st) := .via (fun T t L X _ r => XT.dupX1 X.here H.1 rfl (hb H.2.1 hd) rfl hc hc' r) hr
theorem k_dup2 {v w : Value} (H : Cx C Z own code ml ret nm E.1) (hd : decode code pc = .ok (.dup2, 1)) (hc : v.category = 1) (hc' : w.category = 1) (hr : W l R C E h k n (pc + 1) Ls (v :: w :: v :: w :: st)) : W l R C E h k n pc Ls (v :: w :: st) := .via (fun T t L X _ r => XT.dup2 X.here H.1 rfl (hb H.2.1 hd) rfl hc hc' r) hr
theorem k_goto {o : Int} (pc' : Nat) (H : Cx C Z own code ml ret nm E.1) (hd : decode code pc = .ok (.goto o, 3)) (hp : (pc : Int) + o = (pc' : Int)) (hr : W l R C E h k n pc' Ls st) : W l R C E h k n pc Ls st := .via (fun T t L X _ r => XS.goto X.here H.1 rfl rfl (hb H.2.1 hd) (by rw [hp]; exact Int.natCast_nonneg _) (by rw [hp]; rfl) r) hr
theorem k_icmpT {cd : ClassFile.Cond} {o : Int} {x y : Int32} (pc' : Nat) (H : Cx C Z own code ml ret nm E.1) (hd : decode code pc = .ok (.if_icmp cd o, 3)) (hp : (pc : Int) + o = (pc' : Int)) (hc : if_icmp.holds cd x y = true) (hr : W l R C E h k n pc' Ls st) : W l R C E h k n pc Ls (.int y :: .int x :: st) :=
  .via (fun T t L X _ r => XS.icmpYes X.here H.1 rfl rfl (hb H.2.1 hd) rfl hc (by rw [hp]; exact Int.natCast_nonneg _) (by rw [hp]; rfl) r) hr
theorem k_icmpF {cd : ClassFile.Cond} {o : Int} {x y : Int32} (H : Cx C Z own code ml ret nm E.1) (hd : decode code pc = .ok (.if_icmp cd o, 3)) (hc : if_icmp.holds cd x y = false) (hr : W l R C E h k n (pc + 3) Ls st) : W l R C E h k n pc Ls (.int y :: .int x :: st) :=
  .via (fun T t L X _ r => XS.icmpNo X.here H.1 rfl (hb H.2.1 hd) rfl hc r) hr
theorem k_ifT {cd : ClassFile.Cond} {o : Int} {x : Int32} (pc' : Nat) (H : Cx C Z own code ml ret nm E.1) (hd : decode code pc = .ok (.ifCond cd o, 3)) (hp : (pc : Int) + o = (pc' : Int)) (hc : ifCond.holds cd x = true) (hr : W l R C E h k n pc' Ls st) : W l R C E h k n pc Ls (.int x :: st) :=
  .via (fun T t L X _ r => XS.ifYes X.here H.1 rfl rfl (hb H.2.1 hd) rfl hc (by rw [hp]; exact Int.natCast_nonneg _) (by rw [hp]; rfl) r) hr
theorem k_ifF {cd : ClassFile.Cond} {o : Int} {x : Int32} (H : Cx C Z own code ml ret nm E.1) (hd : decode code pc = .ok (.ifCond cd o, 3)) (hc : ifCond.holds cd x = false) (hr : W l R C E h k n (pc + 3) Ls st) : W l R C E h k n pc Ls (.int x :: st) :=
  .via (fun T t L X _ r => XS.ifNo X.here H.1 rfl (hb H.2.1 hd) rfl hc r) hr
theorem k_acmpT {cd : ClassFile.ACond} {o : Int} {x y : Value} (pc' : Nat) (H : Cx C Z own code ml ret nm E.1) (hd : decode code pc = .ok (.if_acmp cd o, 3)) (hp : (pc : Int) + o = (pc' : Int)) (hx : x.isRef = true) (hy : y.isRef = true) (hc : XT.acmp cd x y = true) (hr : W l R C E h k n pc' Ls st) : W l R C E h k n pc Ls (y :: x :: st) :=
  .via (fun T t L X _ r => XT.acmpYes X.here H.1 rfl rfl (hb H.2.1 hd) rfl hx hy hc (by rw [hp]; exact Int.natCast_nonneg _) (by rw [hp]; rfl) r) hr
theorem k_acmpF {cd : ClassFile.ACond} {o : Int} {x y : Value} (H : Cx C Z own code ml ret nm E.1) (hd : decode code pc = .ok (.if_acmp cd o, 3)) (hx : x.isRef = true) (hy : y.isRef = true) (hc : XT.acmp cd x y = false) (hr : W l R C E h k n (pc + 3) Ls st) : W l R C E h k n pc Ls (y :: x :: st) :=
  .via (fun T t L X _ r => XT.acmpNo X.here H.1 rfl (hb H.2.1 hd) rfl hx hy hc r) hr
theorem k_nonnullT {o : Int} {b : Addr} (pc' : Nat) (H : Cx C Z own code ml ret nm E.1) (hd : decode code pc = .ok (.ifnonnull o, 3)) (hp : (pc : Int) + o = (pc' : Int)) (hr : W l R C E h k n pc' Ls st) : W l R C E h k n pc Ls (.ref b :: st) :=
  .via (fun T t L X _ r => XT.ifnonnullYes X.here H.1 rfl rfl (hb H.2.1 hd) rfl (by rw [hp]; exact Int.natCast_nonneg _) (by rw [hp]; rfl) r) hr
theorem k_tsw {dflt low high o : Int} {offs : Array Int} {len : Nat} {i : Int32} (pc' : Nat) (H : Cx C Z own code ml ret nm E.1) (hd : decode code pc = .ok (.tableswitch dflt low high offs, len)) (hin : ¬ (i.toInt < low ∨ i.toInt > high)) (hoff : offs[(i.toInt - low).toNat]? = some o) (hp : (pc : Int) + o = (pc' : Int)) (hr : W l R C E h k n pc' Ls st) : W l R C E h k n pc Ls (.int i :: st) :=
  .via (fun T t L X _ r => XS.tswIn X.here H.1 rfl rfl (hb H.2.1 hd) rfl hin hoff (by rw [hp]; exact Int.natCast_nonneg _) (by rw [hp]; rfl) r) hr
theorem lsw {tb : Tables} [Ours tb] {e : Env} {below : List Frame} {T target : State} {m : MethodId} {c : Code} {g : JFrame} (h : At T m c below) (hx : tb.exec = Jvm.exec) (hg : g.method = m) {dflt : Int} {pairs : Array (Int × Int)} {len : Nat} {pc0 pc' : Nat} (hpc : g.pc = pc0) (hd : decode c.code g.pc = .ok (.lookupswitch dflt pairs, len)) {i : Int32} {rest : List Value} (hs : g.stack = .int i :: rest)
    (ho : 0 ≤ (pc0 : Int) + lookupswitch.offset pairs.toList dflt i.toInt) (hp : ((pc0 : Int) + lookupswitch.offset pairs.toList dflt i.toInt).toNat = pc') (hsort : ∀ (a b c d : Int), ((a, b), c, d) ∈ pairs.toList.zip pairs.toList.tail → a < c) (hr : Steps tb e below (T.setTop { g with pc := pc', stack := rest }) target) : Steps tb e below (T.setTop g) target := by
  subst hg hpc hp
  jvm_step h [h.top, hx, hd, hs, ho, lookupswitch.wp_chain]
  exact ⟨hsort, hr⟩
theorem k_lsw {dflt : Int} {pairs : Array (Int × Int)} {len : Nat} {i : Int32} (pc' : Nat) (H : Cx C Z own code ml ret nm E.1) (hd : decode code pc = .ok (.lookupswitch dflt pairs, len)) (hsort : ∀ (a b c d : Int), ((a, b), c, d) ∈ pairs.toList.zip pairs.toList.tail → a < c) (hp : (pc : Int) + lookupswitch.offset pairs.toList dflt i.toInt = (pc' : Int)) (hr : W l R C E h k n pc' Ls st) : W l R C E h k n pc Ls (.int i :: st) :=
  .via (fun T t L X _ r => lsw X.here H.1 rfl rfl (hb H.2.1 hd) rfl (by rw [hp]; exact Int.natCast_nonneg _) (by rw [hp]; rfl) hsort r) hr
end Plain
/-! branches, both ways -/
theorem k_icmp {cd : ClassFile.Cond} {o : Int} {x y : Int32} {P : Prop} [Decidable P] (pc' : Nat) (H : Cx C Z own code ml ret nm E.1) (hd : decode code pc = .ok (.if_icmp cd o, 3)) (hp : (pc : Int) + o = (pc' : Int)) (hT : P → if_icmp.holds cd x y = true) (hF : ¬ P → if_icmp.holds cd x y = false)
    (h1 : P → W l R C E h k n pc' Ls st) (h2 : ¬ P → W l R C E h k n (pc + 3) Ls st) : W l R C E h k n pc Ls (.int y :: .int x :: st) := by
  by_cases q : P
  · exact k_icmpT pc' H hd hp (hT q) (h1 q)
  · exact k_icmpF H hd (hF q) (h2 q)
theorem k_iff0 {cd : ClassFile.Cond} {o : Int} {x : Int32} {P : Prop} [Decidable P] (pc' : Nat) (H : Cx C Z own code ml ret nm E.1) (hd : decode code pc = .ok (.ifCond cd o, 3)) (hp : (pc : Int) + o = (pc' : Int)) (hT : P → ifCond.holds cd x = true) (hF : ¬ P → ifCond.holds cd x = false)
    (h1 : P → W l R C E h k n pc' Ls st) (h2 : ¬ P → W l R C E h k n (pc + 3) Ls st) : W l R C E h k n pc Ls (.int x :: st) := by
  by_cases q : P
  · exact k_ifT pc' H hd hp (hT q) (h1 q)
  · exact k_ifF H hd (hF q) (h2 q)
theorem k_icmpR {cd : ClassFile.Cond} {o : Int} {x y : Int32} {P : Prop} [Decidable P] (pc' : Nat) (H : Cx C Z own code ml ret nm E.1) (hd : decode code pc = .ok (.if_icmp cd o, 3)) (hp : (pc : Int) + o = (pc' : Int)) (hT : ¬ P → if_icmp.holds cd x y = true) (hF : P → if_icmp.holds cd x y = false)
    (h1 : ¬ P → W l R C E h k n pc' Ls st) (h2 : P → W l R C E h k n (pc + 3) Ls st) : W l R C E h k n pc Ls (.int y :: .int x :: st) := by
  by_cases q : P
  · exact k_icmpF H hd (hF q) (h2 q)
  · exact k_icmpT pc' H hd hp (hT q) (h1 q)
theorem k_iff0R {cd : ClassFile.Cond} {o : Int} {x : Int32} {P : Prop} [Decidable P] (pc' : Nat) (H : Cx C Z own code ml ret nm E.1) (hd : decode code pc = .ok (.ifCond cd o, 3)) (hp : (pc : Int) + o = (pc' : Int)) (hT : ¬ P → ifCond.holds cd x = true) (hF : P → ifCond.holds cd x = false)
    (h1 : ¬ P → W l R C E h k n pc' Ls st) (h2 : P → W l R C E h k n (pc + 3) Ls st) : W l R C E h k n pc Ls (.int x :: st) := by
  by_cases q : P
  · exact k_ifF H hd (hF q) (h2 q)
  · exact k_ifT pc' H hd hp (hT q) (h1 q)
theorem k_acmp {cd : ClassFile.ACond} {o : Int} {x y : Value} {P : Prop} [Decidable P] (pc' : Nat) (H : Cx C Z own code ml ret nm E.1) (hd : decode code pc = .ok (.if_acmp cd o, 3)) (hp : (pc : Int) + o = (pc' : Int)) (hx : x.isRef = true) (hy : y.isRef = true) (hT : P → XT.acmp cd x y = true) (hF : ¬ P → XT.acmp cd x y = false)
    (h1 : P → W l R C E h k n pc' Ls st) (h2 : ¬ P → W l R C E h k n (pc + 3) Ls st) : W l R C E h k n pc Ls (y :: x :: st) := by
  by_cases q : P
  · exact k_acmpT pc' H hd hp hx hy (hT q) (h1 q)
  · exact k_acmpF H hd hx hy (hF q) (h2 q)
/-! heap steps -/
/-- an array: its kind and all that it holds -/
def Vec (Z : State) (h : Heap) (a : Addr) (ty : FieldType) (vs : List Value) : Prop := ∃ c : Cell, Arr Z h a c ty ∧ c.slots = vs.toArray ∧ vs.length < 2 ^ 31
abbrev IA (Z : State) (h : Heap) (a : Addr) (xs : List Int32) : Prop := Vec Z h a .int (xs.map Value.int)
abbrev JA (Z : State) (h : Heap) (a : Addr) (xs : List Int64) : Prop := Vec Z h a .long (xs.map Value.long)
abbrev BA (Z : State) (h : Heap) (a : Addr) (xs : List Int8) : Prop := Vec Z h a .byte (xs.map fun b => Value.int b.toInt32)
abbrev CA (Z : State) (h : Heap) (a : Addr) (xs : List UInt16) : Prop := Vec Z h a .char (xs.map fun b => Value.int b.toUInt32.toInt32)
theorem Vec.lt {a : Addr} {ty : FieldType} {vs : List Value} (F : Vec Z h a ty vs) : a < h.size := by obtain ⟨c, A, -⟩ := F; exact A.lt
theorem Vec.ext {a : Addr} {ty : FieldType} {vs : List Value} (F : Vec Z h a ty vs) (X : Ext h h') : Vec Z h' a ty vs := by obtain ⟨c, A, r⟩ := F; exact ⟨c, A.ext X, r⟩
theorem Vec.keep {a : Addr} {ty : FieldType} {vs : List Value} {ws : List Addr} (F : Vec Z h a ty vs) (K : Keep h h' ws) (q : a ∉ ws) : Vec Z h' a ty vs := by obtain ⟨c, A, r⟩ := F; exact ⟨c, ⟨K.2.1 a c A.1 q, A.2⟩, r⟩
theorem Vec.other {a b : Addr} {ty : FieldType} {vs : List Value} {sl : Nat} {v : Value} (F : Vec Z h b ty vs) (X : Wr h h' a sl v) (q : b ≠ a) : Vec Z h' b ty vs := by obtain ⟨c, A, r⟩ := F; exact ⟨c, A.other X q, r⟩
theorem Vec.set {a : Addr} {ty : FieldType} {vs : List Value} {sl : Nat} {v : Value} (F : Vec Z h a ty vs) (X : Wr h h' a sl v) : Vec Z h' a ty (vs.set sl v) := by
  obtain ⟨c, A, e, r⟩ := F
  refine ⟨_, A.same X, ?_, by simpa using r⟩
  simp [Cell.setSlot, e]
theorem Vec.ne {a b : Addr} {ty ty' : FieldType} {vs vs' : List Value} (F : Vec Z h a ty vs) (G : Vec Z h b ty' vs') (q : ty ≠ ty') : a ≠ b := fun e => by
  subst e
  obtain ⟨c, A, -⟩ := F
  obtain ⟨c', A', -⟩ := G
  cases A.1.symm.trans A'.1
  obtain ⟨-, k, h1, comp, h2⟩ := A.2.1
  obtain ⟨-, k', h1', comp', h2'⟩ := A'.2.1
  cases h1.symm.trans h1'
  rw [h2] at h2'; cases h2'; exact q rfl
theorem Vec.neX {a b : Addr} {ty : FieldType} {vs : List Value} {cls : String} {kk : Nat} (G : Vec Z h b ty vs) (F : Exa Z h a cls) (wi : (Cond.instantiable cls kk).before a0 Z = true) : a ≠ b := by obtain ⟨c, A, -⟩ := G; exact ne_arr F wi A
theorem Keep.ofExt (X : Ext h h') : Keep h h' [] := (Keep.refl h []).ext X
theorem idx_ok {j : Int32} {i : Nat} (hj : j.toInt = (i : Int)) : ¬ j < 0 ∧ j.toNatClampNeg = i := by
  have e0 : (0 : Int32).toInt = 0 := rfl
  constructor
  · rw [Int32.lt_iff_toInt_lt]; omega
  · simp only [Int32.toNatClampNeg, hj]; rfl
theorem len_ok {c : Cell} {vs : List Value} (e : c.slots = vs.toArray) (hl : vs.length < 2 ^ 31) : c.slots.size.toInt32.toInt = (vs.length : Int) := by
  rw [e]; exact len_toInt hl
section Arrs
variable {a : Addr} {j : Int32} {i : Nat} {v : Value} {vs : List Value}
theorem in_ok {c : Cell} (e : c.slots = vs.toArray) (hj : j.toInt = (i : Int)) (hv : vs[i]? = some v) : ¬ (j < 0 ∨ c.slots.size ≤ j.toNatClampNeg) ∧ c.slots[j.toNatClampNeg]? = some v := by
  obtain ⟨q1, q2⟩ := idx_ok hj
  rw [q2, e]
  have hlt : i < vs.length := (List.getElem?_eq_some_iff.mp hv).1
  exact ⟨fun z => z.elim q1 (fun z => absurd hlt (Nat.not_lt.mpr (by simpa using z))), by simpa using hv⟩
theorem k_arraylength {ty : FieldType} {N : Int32} (H : Cx C Z own code ml ret nm E.1) (A : Vec Z h a ty vs) (hN : N.toInt = (vs.length : Int)) (hd : decode code pc = .ok (.arraylength, 1)) (hr : W l R C E h k n (pc + 1) Ls (.int N :: st)) : W l R C E h k n pc Ls (.ref a :: st) := by
  obtain ⟨c, A, e, hl⟩ := A
  have q : c.slots.size.toInt32 = N := Int32.toInt_inj.mp ((len_ok e hl).trans hN.symm)
  subst q
  exact .via (fun T t L X eT r => X.arraylength H.1 (by rw [eT]; exact A.1) (State.isArrayOf_alike H.2.2.2.2.1.alike A.2.1) (g := mkF C.2.2.2.1 pc Ls (.ref a :: st)) rfl rfl (hb H.2.1 hd) _ r) hr
theorem k_iaload (H : Cx C Z own code ml ret nm E.1) (A : Vec Z h a .int vs) (hj : j.toInt = (i : Int)) (hv : vs[i]? = some v) (hd : decode code pc = .ok (.iaload, 1)) (hr : W l R C E h k n (pc + 1) Ls (v :: st)) : W l R C E h k n pc Ls (.int j :: .ref a :: st) := by
  obtain ⟨c, A, e, hl⟩ := A
  obtain ⟨q1, q2⟩ := in_ok e hj hv
  exact .via (fun T t L X eT r => X.iaload H.1 (by rw [eT]; exact A.1) (State.isArrayOf_alike H.2.2.2.2.1.alike A.2.1) A.2.2 q1 q2 (g := mkF C.2.2.2.1 pc Ls (.int j :: .ref a :: st)) rfl rfl (hb H.2.1 hd) _ r) hr
theorem k_laload (H : Cx C Z own code ml ret nm E.1) (A : Vec Z h a .long vs) (hj : j.toInt = (i : Int)) (hv : vs[i]? = some v) (hd : decode code pc = .ok (.laload, 1)) (hr : W l R C E h k n (pc + 1) Ls (v :: st)) : W l R C E h k n pc Ls (.int j :: .ref a :: st) := by
  obtain ⟨c, A, e, hl⟩ := A
  obtain ⟨q1, q2⟩ := in_ok e hj hv
  exact .via (fun T t L X eT r => X.laload H.1 (by rw [eT]; exact A.1) (State.isArrayOf_alike H.2.2.2.2.1.alike A.2.1) A.2.2 q1 q2 (g := mkF C.2.2.2.1 pc Ls (.int j :: .ref a :: st)) rfl rfl (hb H.2.1 hd) _ r) hr
theorem k_caload (H : Cx C Z own code ml ret nm E.1) (A : Vec Z h a .char vs) (hj : j.toInt = (i : Int)) (hv : vs[i]? = some v) (hd : decode code pc = .ok (.caload, 1)) (hr : W l R C E h k n (pc + 1) Ls (v :: st)) : W l R C E h k n pc Ls (.int j :: .ref a :: st) := by
  obtain ⟨c, A, e, hl⟩ := A
  obtain ⟨q1, q2⟩ := in_ok e hj hv
  exact .via (fun T t L X eT r => X.caload H.1 (by rw [eT]; exact A.1) (State.isArrayOf_alike H.2.2.2.2.1.alike A.2.1) A.2.2 q1 q2 (g := mkF C.2.2.2.1 pc Ls (.int j :: .ref a :: st)) rfl rfl (hb H.2.1 hd) _ r) hr
theorem k_baload (H : Cx C Z own code ml ret nm E.1) (A : Vec Z h a .byte vs) (hj : j.toInt = (i : Int)) (hv : vs[i]? = some v) (hd : decode code pc = .ok (.baload, 1)) (hr : W l R C E h k n (pc + 1) Ls (v :: st)) : W l R C E h k n pc Ls (.int j :: .ref a :: st) := by
  obtain ⟨c, A, e, hl⟩ := A
  obtain ⟨q1, q2⟩ := in_ok e hj hv
  exact .via (fun T t L X eT r => X.baloadBytes H.1 (by rw [eT]; exact A.1) (State.isArrayOf_alike H.2.2.2.2.1.alike A.2.1) A.2.2 q1 q2 (g := mkF C.2.2.2.1 pc Ls (.int j :: .ref a :: st)) rfl rfl (hb H.2.1 hd) _ r) hr
theorem out_ok {c : Cell} (e : c.slots = vs.toArray) (hj : j.toInt = (i : Int)) (hi : i < vs.length) : ¬ (j < 0 ∨ c.slots.size ≤ j.toNatClampNeg) := by
  obtain ⟨q1, q2⟩ := idx_ok hj
  rw [q2, e]
  exact fun z => z.elim q1 (fun z => absurd hi (Nat.not_lt.mpr (by simpa using z)))
theorem Goes.step {T T' : State} {g g' : JFrame} (q : ∀ t, Sp C (T'.setTop g') t → Sp C (T.setTop g) t) (r : Goes C E (T'.setTop g')) : Goes C E (T.setTop g) := by
  obtain ⟨t, o, h1, h2⟩ := r; exact ⟨t, o, q t h1, h2⟩
theorem k_iastore {x : Int32} (H : Cx C Z own code ml ret nm E.1) (A : Vec Z h a .int vs) (hj : j.toInt = (i : Int)) (hi : i < vs.length) (ge : E.1 ≤ a) (hd : decode code pc = .ok (.iastore, 1))
    (hr : ∀ h', Keep h h' [a] → Vec Z h' a .int (vs.set i (.int x)) → W l R C E h' k n (pc + 1) Ls st) : W l R C E h k n pc Ls (.int x :: .int j :: .ref a :: st) := fun T L X N eT => by
  have A' := A
  obtain ⟨c, A, e, hl⟩ := A
  obtain ⟨T', h', X', e', Wx, q⟩ := stI X H.1 H.2.2.2.2.1 eT A (out_ok e hj hi) (g := mkF C.2.2.2.1 pc Ls (.int x :: .int j :: .ref a :: st)) rfl rfl (hb H.2.1 hd)
  refine .step q (hr h' (Keep.of_wr Wx) ?_ T' _ X' (Fr.snoc X' N ge) e')
  rw [(idx_ok hj).2] at Wx; exact A'.set Wx
theorem k_lastore {x : Int64} (H : Cx C Z own code ml ret nm E.1) (A : Vec Z h a .long vs) (hj : j.toInt = (i : Int)) (hi : i < vs.length) (ge : E.1 ≤ a) (hd : decode code pc = .ok (.lastore, 1))
    (hr : ∀ h', Keep h h' [a] → Vec Z h' a .long (vs.set i (.long x)) → W l R C E h' k n (pc + 1) Ls st) : W l R C E h k n pc Ls (.long x :: .int j :: .ref a :: st) := fun T L X N eT => by
  have A' := A
  obtain ⟨c, A, e, hl⟩ := A
  obtain ⟨T', h', X', e', Wx, q⟩ := stJ X H.1 H.2.2.2.2.1 eT A (out_ok e hj hi) (g := mkF C.2.2.2.1 pc Ls (.long x :: .int j :: .ref a :: st)) rfl rfl (hb H.2.1 hd)
  refine .step q (hr h' (Keep.of_wr Wx) ?_ T' _ X' (Fr.snoc X' N ge) e')
  rw [(idx_ok hj).2] at Wx; exact A'.set Wx
theorem k_bastore {x : Int32} (H : Cx C Z own code ml ret nm E.1) (A : Vec Z h a .byte vs) (hj : j.toInt = (i : Int)) (hi : i < vs.length) (ge : E.1 ≤ a) (hd : decode code pc = .ok (.bastore, 1))
    (hr : ∀ h', Keep h h' [a] → Vec Z h' a .byte (vs.set i (.int x.toInt8.toInt32)) → W l R C E h' k n (pc + 1) Ls st) : W l R C E h k n pc Ls (.int x :: .int j :: .ref a :: st) := fun T L X N eT => by
  have A' := A
  obtain ⟨c, A, e, hl⟩ := A
  obtain ⟨T', h', X', e', Wx, q⟩ := stB X H.1 H.2.2.2.2.1 eT A (out_ok e hj hi) (g := mkF C.2.2.2.1 pc Ls (.int x :: .int j :: .ref a :: st)) rfl rfl (hb H.2.1 hd)
  refine .step q (hr h' (Keep.of_wr Wx) ?_ T' _ X' (Fr.snoc X' N ge) e')
  rw [(idx_ok hj).2] at Wx; exact A'.set Wx
theorem k_castore {x : Int32} (H : Cx C Z own code ml ret nm E.1) (A : Vec Z h a .char vs) (hj : j.toInt = (i : Int)) (hi : i < vs.length) (ge : E.1 ≤ a) (hd : decode code pc = .ok (.castore, 1))
    (hr : ∀ h', Keep h h' [a] → Vec Z h' a .char (vs.set i (.int x.toUInt32.toUInt16.toUInt32.toInt32)) → W l R C E h' k n (pc + 1) Ls st) : W l R C E h k n pc Ls (.int x :: .int j :: .ref a :: st) := fun T L X N eT => by
  have A' := A
  obtain ⟨c, A, e, hl⟩ := A
  obtain ⟨T', h', X', e', Wx, q⟩ := stC X H.1 H.2.2.2.2.1 eT A (out_ok e hj hi) (g := mkF C.2.2.2.1 pc Ls (.int x :: .int j :: .ref a :: st)) rfl rfl (hb H.2.1 hd)
  refine .step q (hr h' (Keep.of_wr Wx) ?_ T' _ X' (Fr.snoc X' N ge) e')
  rw [(idx_ok hj).2] at Wx; exact A'.set Wx
end Arrs
/-- newarray of a plain kind, at most cap long -/
theorem k_newarray {aty : ArrayType} {ty : FieldType} {len : Int32} (m cap : Nat) (H : Cx C Z own code ml ret nm E.1) (w : (Cond.arrayClass ty).before a0 Z = true) (hty : newarray.typeOf aty = ty) (hd : decode code pc = .ok (.newarray aty, 2)) (hm : len.toInt = (m : Int)) (hcap : m ≤ cap) (hB : cap * 8 ≤ 536870912) (hC : k + 1 ≤ R.cells) (hS : n + cap ≤ R.slots)
    (hr : ∀ h' a, a = h.size → E.1 ≤ a → Ext h h' → Exa Z h' a ("[" ++ ty.toString) → Vec Z h' a ty (List.replicate m (defaultValue ty)) → W l R C E h' (k + 1) (n + cap) (pc + 2) Ls (.ref a :: st)) : W l R C E h k n pc Ls (.int len :: st) := fun T L X N eT => by
  subst hty
  obtain ⟨q1, q2⟩ := idx_ok hm
  obtain ⟨T', h', cA, X', e', Ex, A, XA, q⟩ := newPE X H.1 H.2.2.2.2.1 w eT (g := mkF C.2.2.2.1 pc Ls (.int len :: st)) rfl (hb H.2.1 hd) rfl q1 (cap := cap) (by rw [q2]; exact hcap) hB hC hS rfl
  have hlt : m < 2 ^ 31 := by have := len.toInt_lt; omega
  refine .step q (hr h' h.size rfl (by rw [← eT]; exact size_ge H X) Ex XA ⟨_, A, ?_, by simpa using hlt⟩ T' _ X' N e')
  simp [newA, q2]
theorem k_newObj {idx ns : Nat} {cls : String} (H : Cx C Z own code ml ret nm E.1) (w : (Cond.classLink own idx cls).before a0 Z = true) (wi : (Cond.instantiable cls ns).before a0 Z = true) (wz : (Cond.initialized cls).before a0 Z = true) (hd : decode code pc = .ok (.new idx, 3)) (hC : k + 1 ≤ R.cells) (hS : n + ns ≤ R.slots)
    (hr : ∀ h' a, a = h.size → E.1 ≤ a → Ext h h' → Exa Z h' a cls → (∀ {O nf d : String} {ty : FieldType}, Laid Z a0 cls O nf d → parseFieldDescriptor d = some ty → Fld Z h' a O nf d (defaultValue ty)) → W l R C E h' (k + 1) (n + ns) (pc + 3) Ls (.ref a :: st)) : W l R C E h k n pc Ls st := fun T L X N eT => by
  obtain ⟨T', h', X', e', Ex, A, D, -, q⟩ := newO X H.1 H.2.2.2.2.1 H.2.2.2.1 w wi wz eT (g := mkF C.2.2.2.1 pc Ls st) rfl (hb H.2.1 hd) hC hS
  exact .step q (hr h' h.size rfl (by rw [← eT]; exact size_ge H X) Ex A D T' _ X' N e')
theorem k_initObj {idx w : Nat} {a : Addr} (H : Cx C Z own code ml ret nm E.1) (w1 : (Cond.methodLink own idx Lib.objectInit).before a0 Z = true) (w2 : (Cond.instanceMethod Lib.objectInit).before a0 Z = true) (w3 : (Cond.code Lib.objectInit ⟨#[0xb1]⟩ 1 none).before a0 Z = true) (hd : decode code pc = .ok (.invokespecial idx, 3)) (hsz : Ls.size = ml) (hF : 1 ≤ R.frames)
    (hw : (st.map fun v => v.category).sum = w) (hL : w + 12 ≤ R.locals) (hr : W l R C E h k n (pc + 3) Ls st) : W l R C E h k n pc Ls (.ref a :: st) :=
  .viaT (fun T L X eT => initO X H.1 H.2.2.2.2.1 H.2.2.2.1 w1 w2 w3 eT (g := mkF C.2.2.2.1 pc Ls (.ref a :: st)) rfl (by show Ls.size = _; rw [H.2.2.1]; exact hsz) rfl (hb H.2.1 hd) hF (W := w) (by show 2 * 0 + _ ≤ _; rw [hw]; omega) hL) hr
theorem k_getfield {idx : Nat} {O nf d : String} {a : Addr} {v : Value} (H : Cx C Z own code ml ret nm E.1) (w : (Cond.fieldLink own idx O nf d).before a0 Z = true) (F : Fld Z h a O nf d v) (hd : decode code pc = .ok (.getfield idx, 3)) (hr : W l R C E h k n (pc + 3) Ls (v :: st)) : W l R C E h k n pc Ls (.ref a :: st) :=
  .viaT (fun T L X eT => getF X H.1 H.2.2.2.2.1 H.2.2.2.1 (host := "") (Or.inl w) Via.refl eT F (g := mkF C.2.2.2.1 pc Ls (.ref a :: st)) rfl rfl (hb H.2.1 hd)) hr
theorem k_putfield {idx kk : Nat} {O nf d cls : String} {a : Addr} {v old : Value} (ty : FieldType) (H : Cx C Z own code ml ret nm E.1) (w : (Cond.fieldLink own idx O nf d).before a0 Z = true) (F : Fld Z h a O nf d old) (X0 : Exa Z h a cls) (La : (Cond.lays cls O nf d).before a0 Z = true ∨ ((Cond.laysFinal cls O nf d).before a0 Z = true ∧ own = O ∧ nm = "<init>"))
    (wi : (Cond.instantiable cls kk).before a0 Z = true) (hty : parseFieldDescriptor d = some ty) (hn : narrow ty v = v) (hf : fits ty v = true) (ge : E.1 ≤ a) (hd : decode code pc = .ok (.putfield idx, 3))
    (hr : ∀ h', Wr h h' a (Jvm.RoadKit.slotOf Z O nf d) v → Fld Z h' a O nf d v → W l R C E h' k n (pc + 3) Ls st) : W l R C E h k n pc Ls (v :: .ref a :: st) := fun T L X N eT => by
  obtain ⟨T', h', X', e', Wx, q⟩ := putF X H.1 H.2.2.2.2.1 H.2.2.2.1 (host := "") (Or.inl w) Via.refl eT F X0 (La.imp id fun z => ⟨z.1, z.2.1, H.2.2.2.2.2.2.2.1.trans z.2.2⟩) wi hty hn hf (g := mkF C.2.2.2.1 pc Ls (v :: .ref a :: st)) rfl rfl (hb H.2.1 hd)
  exact .step q (hr h' Wx (F.same Wx) T' _ X' (Fr.snoc X' N ge) e')
/-! arrays by the kind of what they hold -/
section Typed
variable {a : Addr} {j : Int32} {i : Nat}
theorem map_at {α : Type} {f : α → Value} {xs : List α} {x : α} (hv : xs[i]? = some x) : (xs.map f)[i]? = some (f x) := by rw [List.getElem?_map, hv]; rfl
theorem k_ialoadT {xs : List Int32} {x : Int32} (H : Cx C Z own code ml ret nm E.1) (A : IA Z h a xs) (hj : j.toInt = (i : Int)) (hv : xs[i]? = some x) (hd : decode code pc = .ok (.iaload, 1)) (hr : W l R C E h k n (pc + 1) Ls ((.int x) :: st)) : W l R C E h k n pc Ls (.int j :: .ref a :: st) := k_iaload H A hj (map_at hv) hd hr
theorem k_iastoreT {xs : List Int32} {x : Int32} (H : Cx C Z own code ml ret nm E.1) (A : IA Z h a xs) (hj : j.toInt = (i : Int)) (hi : i < xs.length) (ge : E.1 ≤ a) (hd : decode code pc = .ok (.iastore, 1))
    (hr : ∀ h', Keep h h' [a] → IA Z h' a (xs.set i x) → W l R C E h' k n (pc + 1) Ls st) : W l R C E h k n pc Ls ((.int x) :: .int j :: .ref a :: st) := k_iastore H A hj (by simpa using hi) ge hd (fun h' K V => hr h' K (by rw [IA, List.map_set]; exact V))
theorem k_new_int {len : Int32} (m cap : Nat) (H : Cx C Z own code ml ret nm E.1) (w : (Cond.arrayClass .int).before a0 Z = true) (hd : decode code pc = .ok (.newarray .int, 2)) (hm : len.toInt = (m : Int)) (hcap : m ≤ cap) (hB : cap * 8 ≤ 536870912) (hC : k + 1 ≤ R.cells) (hS : n + cap ≤ R.slots)
    (hr : ∀ h' a, a = h.size → E.1 ≤ a → Ext h h' → Exa Z h' a "[I" → IA Z h' a (List.replicate m 0) → W l R C E h' (k + 1) (n + cap) (pc + 2) Ls (.ref a :: st)) : W l R C E h k n pc Ls (.int len :: st) := k_newarray m cap H w rfl hd hm hcap hB hC hS (fun h' a e g X XA V => hr h' a e g X XA (by rw [IA, List.map_replicate]; exact V))
theorem k_laloadT {xs : List Int64} {x : Int64} (H : Cx C Z own code ml ret nm E.1) (A : JA Z h a xs) (hj : j.toInt = (i : Int)) (hv : xs[i]? = some x) (hd : decode code pc = .ok (.laload, 1)) (hr : W l R C E h k n (pc + 1) Ls ((.long x) :: st)) : W l R C E h k n pc Ls (.int j :: .ref a :: st) := k_laload H A hj (map_at hv) hd hr
theorem k_lastoreT {xs : List Int64} {x : Int64} (H : Cx C Z own code ml ret nm E.1) (A : JA Z h a xs) (hj : j.toInt = (i : Int)) (hi : i < xs.length) (ge : E.1 ≤ a) (hd : decode code pc = .ok (.lastore, 1))
    (hr : ∀ h', Keep h h' [a] → JA Z h' a (xs.set i x) → W l R C E h' k n (pc + 1) Ls st) : W l R C E h k n pc Ls ((.long x) :: .int j :: .ref a :: st) := k_lastore H A hj (by simpa using hi) ge hd (fun h' K V => hr h' K (by rw [JA, List.map_set]; exact V))
theorem k_new_long {len : Int32} (m cap : Nat) (H : Cx C Z own code ml ret nm E.1) (w : (Cond.arrayClass .long).before a0 Z = true) (hd : decode code pc = .ok (.newarray .long, 2)) (hm : len.toInt = (m : Int)) (hcap : m ≤ cap) (hB : cap * 8 ≤ 536870912) (hC : k + 1 ≤ R.cells) (hS : n + cap ≤ R.slots)
    (hr : ∀ h' a, a = h.size → E.1 ≤ a → Ext h h' → Exa Z h' a "[J" → JA Z h' a (List.replicate m 0) → W l R C E h' (k + 1) (n + cap) (pc + 2) Ls (.ref a :: st)) : W l R C E h k n pc Ls (.int len :: st) := k_newarray m cap H w rfl hd hm hcap hB hC hS (fun h' a e g X XA V => hr h' a e g X XA (by rw [JA, List.map_replicate]; exact V))
theorem k_baloadT {xs : List Int8} {x : Int8} (H : Cx C Z own code ml ret nm E.1) (A : BA Z h a xs) (hj : j.toInt = (i : Int)) (hv : xs[i]? = some x) (hd : decode code pc = .ok (.baload, 1)) (hr : W l R C E h k n (pc + 1) Ls ((.int x.toInt32) :: st)) : W l R C E h k n pc Ls (.int j :: .ref a :: st) := k_baload H A hj (map_at hv) hd hr
theorem k_bastoreT {xs : List Int8} {x : Int32} (H : Cx C Z own code ml ret nm E.1) (A : BA Z h a xs) (hj : j.toInt = (i : Int)) (hi : i < xs.length) (ge : E.1 ≤ a) (hd : decode code pc = .ok (.bastore, 1))
    (hr : ∀ h', Keep h h' [a] → BA Z h' a (xs.set i x.toInt8) → W l R C E h' k n (pc + 1) Ls st) : W l R C E h k n pc Ls ((.int x) :: .int j :: .ref a :: st) := k_bastore H A hj (by simpa using hi) ge hd (fun h' K V => hr h' K (by rw [BA, List.map_set]; exact V))
theorem k_new_byte {len : Int32} (m cap : Nat) (H : Cx C Z own code ml ret nm E.1) (w : (Cond.arrayClass .byte).before a0 Z = true) (hd : decode code pc = .ok (.newarray .byte, 2)) (hm : len.toInt = (m : Int)) (hcap : m ≤ cap) (hB : cap * 8 ≤ 536870912) (hC : k + 1 ≤ R.cells) (hS : n + cap ≤ R.slots)
    (hr : ∀ h' a, a = h.size → E.1 ≤ a → Ext h h' → Exa Z h' a "[B" → BA Z h' a (List.replicate m 0) → W l R C E h' (k + 1) (n + cap) (pc + 2) Ls (.ref a :: st)) : W l R C E h k n pc Ls (.int len :: st) := k_newarray m cap H w rfl hd hm hcap hB hC hS (fun h' a e g X XA V => hr h' a e g X XA (by rw [BA, List.map_replicate]; exact V))
theorem k_caloadT {xs : List UInt16} {x : UInt16} (H : Cx C Z own code ml ret nm E.1) (A : CA Z h a xs) (hj : j.toInt = (i : Int)) (hv : xs[i]? = some x) (hd : decode code pc = .ok (.caload, 1)) (hr : W l R C E h k n (pc + 1) Ls ((.int x.toUInt32.toInt32) :: st)) : W l R C E h k n pc Ls (.int j :: .ref a :: st) := k_caload H A hj (map_at hv) hd hr
theorem k_castoreT {xs : List UInt16} {x : Int32} (H : Cx C Z own code ml ret nm E.1) (A : CA Z h a xs) (hj : j.toInt = (i : Int)) (hi : i < xs.length) (ge : E.1 ≤ a) (hd : decode code pc = .ok (.castore, 1))
    (hr : ∀ h', Keep h h' [a] → CA Z h' a (xs.set i x.toUInt32.toUInt16) → W l R C E h' k n (pc + 1) Ls st) : W l R C E h k n pc Ls ((.int x) :: .int j :: .ref a :: st) := k_castore H A hj (by simpa using hi) ge hd (fun h' K V => hr h' K (by rw [CA, List.map_set]; exact V))
theorem k_new_char {len : Int32} (m cap : Nat) (H : Cx C Z own code ml ret nm E.1) (w : (Cond.arrayClass .char).before a0 Z = true) (hd : decode code pc = .ok (.newarray .char, 2)) (hm : len.toInt = (m : Int)) (hcap : m ≤ cap) (hB : cap * 8 ≤ 536870912) (hC : k + 1 ≤ R.cells) (hS : n + cap ≤ R.slots)
    (hr : ∀ h' a, a = h.size → E.1 ≤ a → Ext h h' → Exa Z h' a "[C" → CA Z h' a (List.replicate m 0) → W l R C E h' (k + 1) (n + cap) (pc + 2) Ls (.ref a :: st)) : W l R C E h k n pc Ls (.int len :: st) := k_newarray m cap H w rfl hd hm hcap hB hC hS (fun h' a e g X XA V => hr h' a e g X XA (by rw [CA, List.map_replicate]; exact V))
theorem fits_of {ty : FieldType} {vs : List Value} {c : Cell} (A : Arr Z h a c ty) (e : c.slots = vs.toArray) (hf : ∀ v ∈ vs, fits ty v = true) : FitC Z c := fitC_of A fun i hi v hv => hf v (by rw [e] at hv; simp at hv; exact List.mem_of_getElem? hv)
theorem k_clone {idx w cap : Nat} {ty : FieldType} {ad : String} {vs : List Value} (H : Cx C Z own code ml ret nm E.1)
    (w1 : (Cond.methodLink own idx ⟨ad, "clone", "()Ljava/lang/Object;"⟩).before a0 Z = true) (w2 : (Cond.sameMethod ad "java/lang/Object" "clone" "()Ljava/lang/Object;").before a0 Z = true) (w3 : (Cond.native ⟨"java/lang/Object", "clone", "()Ljava/lang/Object;"⟩).before a0 Z = true)
    (w4 : (Cond.instanceMethod ⟨"java/lang/Object", "clone", "()Ljava/lang/Object;"⟩).before a0 Z = true) (w5 : (Cond.selects ad ⟨ad, "clone", "()Ljava/lang/Object;"⟩ ⟨"java/lang/Object", "clone", "()Ljava/lang/Object;"⟩).before a0 Z = true) (w6 : (Cond.castable ad "java/lang/Cloneable").before a0 Z = true)
    (V : Vec Z h a ty vs) (hf : ∀ v ∈ vs, fits ty v = true) (X0 : Exa Z h a ad) (hd : decode code pc = .ok (.invokevirtual idx, 3)) (hsz : Ls.size = ml) (hF : 1 ≤ R.frames) (hw : (st.map fun v => v.category).sum = w) (hL : w + 14 ≤ R.locals) (hcap : vs.length ≤ cap) (hC : k + 1 ≤ R.cells) (hS : n + cap ≤ R.slots)
    (hr : ∀ h' b, b = h.size → E.1 ≤ b → Ext h h' → Exa Z h' b ad → Vec Z h' b ty vs → W l R C E h' (k + 1) (n + cap) (pc + 3) Ls (.ref b :: st)) : W l R C E h k n pc Ls (.ref a :: st) := fun T L X N eT => by
  obtain ⟨c, A, e, hl⟩ := V
  obtain ⟨T', h', X', e', Ex, A', XA, q⟩ := cloneA X H.1 H.2.2.2.2.1 H.2.2.2.1 w1 w2 w3 w4 w5 w6 eT A X0 (fits_of A e hf) (g := mkF C.2.2.2.1 pc Ls (.ref a :: st)) rfl (by show Ls.size = _; rw [H.2.2.1]; exact hsz) rfl (hb H.2.1 hd) hF (W := w) (cap := cap) (by show 2 * 0 + _ ≤ _; rw [hw]; omega) hL (by rw [e]; simpa using hcap) hC hS
  exact .step q (hr h' h.size rfl (by rw [← eT]; exact size_ge H X) Ex XA ⟨_, A', e, hl⟩ T' _ X' N e')
theorem k_castY {idx : Nat} {K ad : String} (H : Cx C Z own code ml ret nm E.1) (w : (Cond.classLink own idx K).before a0 Z = true) (wc : (Cond.castable ad K).before a0 Z = true) (X0 : Exa Z h a ad) (hd : decode code pc = .ok (.checkcast idx, 3)) (hr : W l R C E h k n (pc + 3) Ls (.ref a :: st)) : W l R C E h k n pc Ls (.ref a :: st) :=
  .viaT (fun T L X eT => castY X H.1 H.2.2.2.2.1 H.2.2.2.1 w eT (Ins.of_exa X0 wc) (g := mkF C.2.2.2.1 pc Ls (.ref a :: st)) rfl rfl (hb H.2.1 hd)) hr
end Typed
/-! calls -/
section Calls
variable {y : MethodName} {bytes : ByteArray} {maxL : Nat} {rt : Option FieldType} {rm : Room} {Q : Option Value → Heap → Prop} {S : List Value}
theorem Goes.trans {T T' : State} {g g' : JFrame} (q : Sp C (T.setTop g) (T'.setTop g')) (r : Goes C E (T'.setTop g')) : Goes C E (T.setTop g) := by
  obtain ⟨t, o, h1, h2⟩ := r; exact ⟨t, o, q.trans h1, h2⟩
theorem payOf {s : State} {p : Program} {e : Env} {below : List Frame} {args : Array Value} {w n0 : Nat} {as' : Array Value} (hc : Ctr l Z y bytes maxL rt rm n0 as' h Q) (hZ : Z.Warmed39 s.vm) (w4 : (Cond.code y bytes maxL rt).before a0 Z = true) (w3 : (Cond.initialized y.cls).before a0 Z = true) (hF : rm.frames + 1 ≤ R.frames) (hL : w + (maxL + 11) + rm.locals ≤ R.locals) :
    Back l R p e below s args y 3 w (fun A a => a = as' ∧ A.U.heap = h ∧ A.cells + rm.cells ≤ R.cells ∧ A.slots + rm.slots ≤ R.slots)
      (fun A _ v B => ∃ L, (Q v B.U.heap ∧ Fr n0 L) ∧ B.locs = A.locs ++ L ∧ B.cells = A.cells + rm.cells ∧ B.slots = A.slots + rm.slots) :=
  backOf (Q := fun v h L => Q v h ∧ Fr n0 L) hc hZ w4 w3 hF hL
theorem k_invS {idx : Nat} (argsL : List Value) (w : Nat) (H : Cx C Z own code ml ret nm E.1) (w1 : (Cond.methodLink own idx y).before a0 Z = true) (w2 : (Cond.static y).before a0 Z = true) (w3 : (Cond.initialized y.cls).before a0 Z = true) (w4 : (Cond.code y bytes maxL rt).before a0 Z = true)
    (hy : y.cls ≠ "java/lang/invoke/MethodHandle" ∧ y.cls ≠ "java/lang/invoke/VarHandle") (hc : E.1 ≤ h.size → Ctr l Z y bytes maxL rt rm E.1 argsL.toArray h Q) (hlen : ∀ sig, parseMethodDescriptor y.desc = some sig → argsL.length = sig.parameters.length)
    (hd : decode code pc = .ok (.invokestatic idx, 3)) (hS : S = argsL.reverse ++ st) (hsz : Ls.size = ml) (hw : (st.map fun v => v.category).sum = w) (hF : rm.frames + 1 ≤ R.frames) (hL : w + (maxL + 11) + rm.locals ≤ R.locals) (hk : k + rm.cells ≤ R.cells) (hn : n + rm.slots ≤ R.slots)
    (hr : ∀ v h', Q v h' → W l R C E h' (k + rm.cells) (n + rm.slots) (pc + 3) Ls (v.toList ++ st)) : W l R C E h k n pc Ls S := fun T L X N eT => by
  obtain ⟨v, _, ⟨T', L', k', n'⟩, -, X', ⟨Lc, ⟨hQ, hN⟩, l', y', z'⟩, q⟩ := Jvm.LawKit.callS X H.1 (y := y) H.2.2.2.1 (mvT H.2.2.2.2.1 w1) (mvT H.2.2.2.2.1 w2) (mvT H.2.2.2.2.1 w3) (mvT H.2.2.2.2.1 w4) hy (payOf (w := w) (hc (by rw [← eT]; exact size_ge H X)) H.2.2.2.2.1 w4 w3 hF hL)
    (g := mkF C.2.2.2.1 pc Ls S) rfl (by show Ls.size = _; rw [H.2.2.1]; exact hsz) (argsL := argsL) (rest := st) hlen hS (by show 2 * 0 + _ ≤ _; rw [hw]; omega) (hb H.2.1 hd) (fun _ _ => ⟨rfl, eT, hk, hn⟩)
  dsimp only [Pt.U, Pt.locs, Pt.cells, Pt.slots] at X' l' y' z' q hQ
  subst l' y' z'
  exact .step q (hr v _ hQ T' _ X' (N.app hN) rfl)
theorem k_invI {idx : Nat} {a : Addr} (argsL : List Value) (w : Nat) (H : Cx C Z own code ml ret nm E.1) (hy1 : y.name = "<init>") (w1 : (Cond.methodLink own idx y).before a0 Z = true) (w2 : (Cond.instanceMethod y).before a0 Z = true) (w3 : (Cond.initialized y.cls).before a0 Z = true) (w4 : (Cond.code y bytes maxL none).before a0 Z = true)
    (hy : y.cls ≠ "java/lang/invoke/MethodHandle" ∧ y.cls ≠ "java/lang/invoke/VarHandle") (hc : E.1 ≤ h.size → Ctr l Z y bytes maxL none rm E.1 (.ref a :: argsL).toArray h Q) (hlen : ∀ sig, parseMethodDescriptor y.desc = some sig → argsL.length = sig.parameters.length)
    (hd : decode code pc = .ok (.invokespecial idx, 3)) (hS : S = argsL.reverse ++ .ref a :: st) (hsz : Ls.size = ml) (hw : (st.map fun v => v.category).sum = w) (hF : rm.frames + 1 ≤ R.frames) (hL : w + (maxL + 11) + rm.locals ≤ R.locals) (hk : k + rm.cells ≤ R.cells) (hn : n + rm.slots ≤ R.slots)
    (hr : ∀ v h', Q v h' → W l R C E h' (k + rm.cells) (n + rm.slots) (pc + 3) Ls (v.toList ++ st)) : W l R C E h k n pc Ls S := fun T L X N eT => by
  obtain ⟨v, _, ⟨T', L', k', n'⟩, -, X', ⟨Lc, ⟨hQ, hN⟩, l', y', z'⟩, q⟩ := X.specialBack H.1 (y := y) hy1 H.2.2.2.1 (mvT H.2.2.2.2.1 w1) (mvT H.2.2.2.2.1 w2) (mvT H.2.2.2.2.1 w4) hy (payOf (w := w) (hc (by rw [← eT]; exact size_ge H X)) H.2.2.2.2.1 w4 w3 hF hL)
    (g := mkF C.2.2.2.1 pc Ls S) rfl (by show Ls.size = _; rw [H.2.2.1]; exact hsz) (Steps.refl _) (a := a) (argsL := argsL) (rest := st) hlen hS (by show 2 * 0 + _ ≤ _; rw [hw]; omega) (hb H.2.1 hd) (fun _ _ => ⟨rfl, eT, hk, hn⟩)
  dsimp only [Pt.U, Pt.locs, Pt.cells, Pt.slots] at X' l' y' z' q hQ
  subst l' y' z'
  exact .trans q (hr v _ hQ T' _ X' (N.app hN) rfl)
theorem k_invV {idx : Nat} {a : Addr} {cls : String} (argsL : List Value) (w : Nat) (H : Cx C Z own code ml ret nm E.1) (w1 : (Cond.methodLink own idx y).before a0 Z = true) (w2 : (Cond.declares y).before a0 Z = true) (w5 : (Cond.selects cls y y).before a0 Z = true) (w6 : (Cond.instanceMethod y).before a0 Z = true) (w3 : (Cond.initialized y.cls).before a0 Z = true) (w4 : (Cond.code y bytes maxL rt).before a0 Z = true)
    (hcl : y.cls = cls) (hy : y.cls ≠ "java/lang/invoke/MethodHandle" ∧ y.cls ≠ "java/lang/invoke/VarHandle") (X0 : Exa Z h a cls) (hc : E.1 ≤ h.size → Ctr l Z y bytes maxL rt rm E.1 (.ref a :: argsL).toArray h Q) (hlen : ∀ sig, parseMethodDescriptor y.desc = some sig → argsL.length = sig.parameters.length)
    (hd : decode code pc = .ok (.invokevirtual idx, 3)) (hS : S = argsL.reverse ++ .ref a :: st) (hsz : Ls.size = ml) (hw : (st.map fun v => v.category).sum = w) (hF : rm.frames + 1 ≤ R.frames) (hL : w + (maxL + 11) + rm.locals ≤ R.locals) (hk : k + rm.cells ≤ R.cells) (hn : n + rm.slots ≤ R.slots)
    (hr : ∀ v h', Q v h' → W l R C E h' (k + rm.cells) (n + rm.slots) (pc + 3) Ls (v.toList ++ st)) : W l R C E h k n pc Ls S := fun T L X N eT => by
  subst hcl
  obtain ⟨cq, kq, qa, qb, qc⟩ := isOf H.2.2.2.2.1 eT X0
  obtain ⟨v, _, ⟨T', L', k', n'⟩, -, X', ⟨Lc, ⟨hQ, hN⟩, l', y', z'⟩, q⟩ := X.virtualBack H.1 (y := y) (z := y) H.2.2.2.1 (mvT H.2.2.2.2.1 w1) (mvT H.2.2.2.2.1 w2) (notFace_of_selects (args := #[]) (mvT H.2.2.2.2.1 w5)) (mvT H.2.2.2.2.1 w5) (mvT H.2.2.2.2.1 w6) hy (payOf (w := w) (hc (by rw [← eT]; exact size_ge H X)) H.2.2.2.2.1 w4 w3 hF hL) qa qc
    (g := mkF C.2.2.2.1 pc Ls S) rfl (by show Ls.size = _; rw [H.2.2.1]; exact hsz) (Steps.refl _) (argsL := argsL) (rest := st) hlen hS (by show 2 * 0 + _ ≤ _; rw [hw]; omega) (hb H.2.1 hd) (fun _ _ => ⟨rfl, eT, hk, hn⟩)
  dsimp only [Pt.U, Pt.locs, Pt.cells, Pt.slots] at X' l' y' z' q hQ
  subst l' y' z'
  exact .trans q (hr v _ hQ T' _ X' (N.app hN) rfl)
theorem Ctr.of {n0 : Nat} {as' : Array Value} (Ls : Array Slot) (hp : plainFor y = true) (hn0 : n0 ≤ h.size) (hef : ∀ m, entryFrame m as' maxL = mkF m 0 Ls []) (hW : ∀ C : Cxt, Cx C Z y.cls bytes maxL rt y.name n0 → W l rm C (n0, rm.cells, rm.slots, Q) h 0 0 0 Ls []) : Ctr l Z y bytes maxL rt rm n0 as' h Q := by
  refine MetFree.of_bodySF hp hisR ?_
  intro p e s m args below meth c s₁ Bd hml0 hP hK
  obtain ⟨rfl, hZ, hh⟩ := hP
  have hnm := (name_of_methodNamed Bd.named Bd.method).1
  have X0 : Stand p l e rm s m args below meth c s₁ [] 0 0 := Stand.of_body Bd
  have e0 : s₁.heap = h := by rw [← hh, Bd.state]; rfl
  obtain ⟨t, o, h1, h2, h3, v, L, h4, h5, h6⟩ := hW (p, e, s, m, args, below, meth, c) ⟨Bd.exec, Bd.bytes, hml0, findClass_of_methodNamed Bd.named, hZ, Bd.returns, Bd.notSynchronized, hnm, by rw [hh]; exact hn0⟩ s₁ [] X0 (Fr.nil n0) e0
  exact ⟨t, o, castTop (hef m) h1, h2, h3, v, L, h4, h5, h6⟩
/-- the judged body itself -/
theorem met_of {n0 K N : Nat} {ws : List Jvm.Cond} {as' : Array Value} (Ls : Array Slot) (hp : plainFor y = true) (hn0 : n0 ≤ h.size) (hef : ∀ m, entryFrame m as' maxL = mkF m 0 Ls []) (hW : ∀ C : Cxt, Cx C Z y.cls bytes maxL rt y.name n0 → W l rm C (n0, K, N, Q) h 0 0 0 Ls []) :
    MetFree l y (head1 (Cond.code y bytes maxL rt :: ws) rm) (fun a U => a = as' ∧ Z.Warmed39 U.vm ∧ U.heap = h) (fun _ _ _ _ _ => True) (fun _ U o U' => ∃ v L, o = .returned v ∧ (Q v U'.heap ∧ Fr n0 L) ∧ FrameEnd U o U' L K N) := by
  refine MetFree.of_bodySF hp hisR ?_
  intro p e s m args below meth c s₁ Bd hml0 hP hK
  obtain ⟨rfl, hZ, hh⟩ := hP
  have hnm := (name_of_methodNamed Bd.named Bd.method).1
  have X0 : Stand p l e rm s m args below meth c s₁ [] 0 0 := Stand.of_body Bd
  have e0 : s₁.heap = h := by rw [← hh, Bd.state]; rfl
  obtain ⟨t, o, h1, h2, h3, v, L, h4, h5, h6⟩ := hW (p, e, s, m, args, below, meth, c) ⟨Bd.exec, Bd.bytes, hml0, findClass_of_methodNamed Bd.named, hZ, Bd.returns, Bd.notSynchronized, hnm, by rw [hh]; exact hn0⟩ s₁ [] X0 (Fr.nil n0) e0
  exact ⟨t, o, castTop (hef m) h1, h2, h3, v, L, h4, h5, h6⟩
end Calls
/-! ends -/
theorem k_retInt {x : Int32} (H : Cx C Z own code ml (some .int) nm E.1) (hd : decode code pc = .ok (.ireturn, 1)) (hk : k ≤ E.2.1) (hn : n ≤ E.2.2.1) (hq : E.2.2.2 (some (.int x)) h) : W l R C E h k n pc Ls (.int x :: st) := fun T L X N eT => by
  obtain ⟨fs, hr, hrun, hend, hW, hs⟩ := X.leave (v := some (.int x)) (fun z => by rw [H.2.2.2.2.2.1] at z; cases z) H.2.2.2.2.2.2.1
  exact ⟨_, _, retOut X H.1 H.2.2.2.2.2.1 rfl (Or.inl ⟨rfl, Or.inl rfl, _, rfl⟩) (hb H.2.1 hd) hr, hrun, hend, _, L, rfl, ⟨by subst eT; exact hq, N⟩, ⟨_, rfl⟩, hW, hs.mono hk hn⟩
theorem k_retN' {x : Int32} {t : FieldType} (ht : t = .boolean ∨ t = .byte ∨ t = .char ∨ t = .short) (H : Cx C Z own code ml (some t) nm E.1) (hd : decode code pc = .ok (.ireturn, 1)) (hk : k ≤ E.2.1) (hn : n ≤ E.2.2.1) (hq : E.2.2.2 (some (.int (nar t x))) h) : W l R C E h k n pc Ls (.int x :: st) := fun T L X N eT => by
  obtain ⟨fs, hr, hrun, hend, hW, hs⟩ := X.leave (v := some (.int (nar t x))) (fun z => by rw [H.2.2.2.2.2.1] at z; cases z) H.2.2.2.2.2.2.1
  exact ⟨_, _, retN X H.1 H.2.2.2.2.2.1 ht (hb H.2.1 hd) hr, hrun, hend, _, L, rfl, ⟨by subst eT; exact hq, N⟩, ⟨_, rfl⟩, hW, hs.mono hk hn⟩
theorem k_retLong {x : Int64} (H : Cx C Z own code ml (some .long) nm E.1) (hd : decode code pc = .ok (.lreturn, 1)) (hk : k ≤ E.2.1) (hn : n ≤ E.2.2.1) (hq : E.2.2.2 (some (.long x)) h) : W l R C E h k n pc Ls (.long x :: st) := fun T L X N eT => by
  obtain ⟨fs, hr, hrun, hend, hW, hs⟩ := X.leave (v := some (.long x)) (fun z => by rw [H.2.2.2.2.2.1] at z; cases z) H.2.2.2.2.2.2.1
  exact ⟨_, _, retOut X H.1 H.2.2.2.2.2.1 rfl (Or.inr (Or.inl ⟨rfl, rfl, _, rfl⟩)) (hb H.2.1 hd) hr, hrun, hend, _, L, rfl, ⟨by subst eT; exact hq, N⟩, ⟨_, rfl⟩, hW, hs.mono hk hn⟩
theorem k_retRef {a : Addr} {t : FieldType} (ht : t.isReference = true) (hnar : narrow t (.ref a) = .ref a) (H : Cx C Z own code ml (some t) nm E.1) (hd : decode code pc = .ok (.areturn, 1)) (hk : k ≤ E.2.1) (hn : n ≤ E.2.2.1) (hq : E.2.2.2 (some (.ref a)) h) : W l R C E h k n pc Ls (.ref a :: st) := fun T L X N eT => by
  obtain ⟨fs, hr, hrun, hend, hW, hs⟩ := X.leave (v := some (.ref a)) (fun z => by rw [H.2.2.2.2.2.1] at z; cases z) H.2.2.2.2.2.2.1
  exact ⟨_, _, retOut X H.1 H.2.2.2.2.2.1 hnar (Or.inr (Or.inr (Or.inr (Or.inr ⟨rfl, ht, rfl⟩)))) (hb H.2.1 hd) hr, hrun, hend, _, L, rfl, ⟨by subst eT; exact hq, N⟩, ⟨_, rfl⟩, hW, hs.mono hk hn⟩
theorem k_retVoid (H : Cx C Z own code ml none nm E.1) (hd : decode code pc = .ok (.return_, 1)) (hk : k ≤ E.2.1) (hn : n ≤ E.2.2.1) (hq : E.2.2.2 none h) : W l R C E h k n pc Ls [] := fun T L X N eT => by
  obtain ⟨fs, hr, hrun, hend, hW, hs⟩ := X.leave (v := none) (fun _ => rfl) H.2.2.2.2.2.2.1
  exact ⟨_, _, X.returnOut H.1 H.2.2.2.2.2.1 (hb H.2.1 hd) hr, hrun, hend, _, L, rfl, ⟨by subst eT; exact hq, N⟩, ⟨_, rfl⟩, hW, hs.mono hk hn⟩
end Own
end Jvm.OwnKit
namespace Jvm.OwnKit
/-! small naturals as ints -/
theorem lt_nat {x y : Int32} {i j : Nat} (hx : x.toInt = (i : Int)) (hy : y.toInt = (j : Int)) : x < y ↔ i < j := by rw [Int32.lt_iff_toInt_lt, hx, hy]; omega
theorem eq_nat {x y : Int32} {i j : Nat} (hx : x.toInt = (i : Int)) (hy : y.toInt = (j : Int)) : x = y ↔ i = j := by rw [← Int32.toInt_inj, hx, hy]; omega
theorem add_nat {x y : Int32} {i j : Nat} (hx : x.toInt = (i : Int)) (hy : y.toInt = (j : Int)) (hb : i + j < 2147483648) : (x + y).toInt = ((i + j : Nat) : Int) := by rw [Jvm.Kit.i32_add] <;> rw [hx, hy] <;> omega
theorem sub_nat {x y : Int32} {i j : Nat} (hx : x.toInt = (i : Int)) (hy : y.toInt = (j : Int)) (hb : j ≤ i) : (x - y).toInt = ((i - j : Nat) : Int) := by have := x.toInt_lt; rw [Jvm.Kit.i32_sub] <;> rw [hx, hy] <;> omega
theorem mul_nat {x y : Int32} {i j : Nat} (hx : x.toInt = (i : Int)) (hy : y.toInt = (j : Int)) (hb : i * j < 2147483648) : (x * y).toInt = ((i * j : Nat) : Int) := by
  have e : (i : Int) * (j : Int) = ((i * j : Nat) : Int) := by simp
  rw [Jvm.Kit.i32_mul] <;> rw [hx, hy, e] <;> omega
theorem rem_nat {x y : Int32} {i j : Nat} (hx : x.toInt = (i : Int)) (hy : y.toInt = (j : Int)) : (x % y).toInt = ((i % j : Nat) : Int) := by rw [Jvm.Kit.i32_rem_nonneg (by omega), hx, hy]; simp
theorem nat_of_nonneg {x : Int32} (h : 0 ≤ x.toInt) : ∃ i : Nat, x.toInt = (i : Int) ∧ i < 2147483648 := ⟨x.toInt.toNat, by omega, by have := x.toInt_lt; omega⟩
/-- a mask of k ones: a natural below 2 ^ k -/
theorem mask_nat (x m : Int32) (k : Nat) (hk : k < 32) (hm : m.toBitVec.toNat = 2 ^ k - 1) : ∃ i : Nat, (x &&& m).toInt = (i : Int) ∧ i < 2 ^ k := by
  have e := Jvm.Kit.i32_mask x m hk hm
  have p : (0 : Int) < 2 ^ k := Int.pow_pos (by omega)
  have h1 := Int.emod_nonneg x.toInt (Int.ne_of_gt p)
  have h2 := Int.emod_lt_of_pos x.toInt p
  refine ⟨(x.toInt % 2 ^ k).toNat, by rw [e]; omega, ?_⟩
  have h3 : ((2 ^ k : Nat) : Int) = 2 ^ k := by simp
  omega
theorem mod_nat (x m y : Int32) (k j : Nat) (hk : k < 32) (hm : m.toBitVec.toNat = 2 ^ k - 1) (hy : y.toInt = (j : Int)) (hj : 0 < j) : ∃ i : Nat, ((x &&& m) % y).toInt = (i : Int) ∧ i < j := by
  obtain ⟨i, h1, h2⟩ := mask_nat x m k hk hm
  exact ⟨i % j, rem_nat h1 hy, Nat.mod_lt _ hj⟩
theorem div_nat {x y : Int32} {i j : Nat} (hx : x.toInt = (i : Int)) (hy : y.toInt = (j : Int)) : (x / y).toInt = ((i / j : Nat) : Int) := by
  rw [Jvm.Kit.i32_div (by omega), hx, hy]; rfl
theorem ushr_nat {x y : Int32} {i : Nat} (k : Nat) (hx : x.toInt = (i : Int)) (hy : (y &&& 31).toUInt32.toNat = k) (hk : k < 32) : (Jvm.Free.XT.ushr x y).toInt = ((i / 2 ^ k : Nat) : Int) := by
  unfold Jvm.Free.XT.ushr
  rw [Jvm.Kit.i32_iushr (by rw [Int32.le_iff_toInt_le, hx]; exact Int.natCast_nonneg _) hy hk, hx]; simp
theorem c16 (c : UInt16) : c.toUInt32.toInt32.toUInt32.toUInt16 = c := by simp
theorem b8 (b : Int8) : b.toInt32.toInt8 = b := by simp
/-- a local's slot of one word -/
def OneW (s : Slot) : Prop := s = .unset ∨ ∃ w, s = .val w ∧ w.category = 1
theorem OneW.unset : OneW .unset := Or.inl rfl
theorem OneW.int (x : Int32) : OneW (.val (.int x)) := Or.inr ⟨_, rfl, rfl⟩
theorem OneW.ref (x : Addr) : OneW (.val (.ref x)) := Or.inr ⟨_, rfl, rfl⟩
end Jvm.OwnKit
namespace Jvm.OwnKit
/-! ten bytes of a long, seven bits each -/
theorem low_of (u : Int64) (k : Nat) (m : Int64) (hk : k < 64) (hm : m.toBitVec.toNat = 2 ^ k - 1) : ∃ j < 2 ^ k, u &&& m = Int64.ofNat j := by
  refine ⟨(u &&& m).toBitVec.toNat, ?_, ?_⟩
  · rw [Int64.toBitVec_and, BitVec.toNat_and, hm, Nat.and_two_pow_sub_one_eq_mod]; exact Nat.mod_lt _ (Nat.pow_pos (by decide))
  · apply Int64.toBitVec_inj.mp; rw [Int64.toBitVec_ofNat']; simp
def hiB (u : Int64) : Int8 := ((128 : Int64) ||| (u &&& 127)).toInt32.toInt8
def loB (u : Int64) : Int8 := (u &&& 1).toInt32.toInt8
theorem hiB_all : ∀ j < 128, ((((128 : Int64) ||| Int64.ofNat j).toInt32.toInt8.toInt32 < 0) ∧ (((128 : Int64) ||| Int64.ofNat j).toInt32.toInt8.toInt32 &&& 127).toInt64 = Int64.ofNat j) := by decide +kernel
theorem loB_all : ∀ j < 2, (¬ (Int64.ofNat j).toInt32.toInt8.toInt32 < 0) ∧ ((Int64.ofNat j).toInt32.toInt8.toInt32 &&& 127).toInt64 = Int64.ofNat j := by decide +kernel
theorem hiB_says (u : Int64) : (hiB u).toInt32 < 0 ∧ ((hiB u).toInt32 &&& 127).toInt64 = u &&& 127 := by
  obtain ⟨j, hj, e⟩ := low_of u 7 127 (by decide) (by decide)
  unfold hiB; rw [e]; exact hiB_all j hj
theorem loB_says (u : Int64) : ¬ (loB u).toInt32 < 0 ∧ ((loB u).toInt32 &&& 127).toInt64 = u &&& 1 := by
  obtain ⟨j, hj, e⟩ := low_of u 1 1 (by decide) (by decide)
  unfold loB; rw [e]; exact loB_all j hj
theorem ushrL_0 (v : Int64) : Jvm.Free.XT.ushrL v 0 = v := by
  unfold Jvm.Free.XT.ushrL
  rw [show ((0 : Int32).toInt64.toUInt64 &&& Int64.toUInt64 63) = 0 from by decide]; simp
theorem ushrL_bits (v : Int64) (y : Int32) (s : Nat) (hy : ((y.toInt64.toUInt64 &&& Int64.toUInt64 63).toNat % 64 = s)) (j : Nat) : (Jvm.Free.XT.ushrL v y).toBitVec.getLsbD j = v.toBitVec.getLsbD (s + j) := by
  unfold Jvm.Free.XT.ushrL
  have e : ((v.toUInt64 >>> (y.toInt64.toUInt64 &&& Int64.toUInt64 63)).toInt64).toBitVec = (v.toUInt64 >>> (y.toInt64.toUInt64 &&& Int64.toUInt64 63)).toBitVec := rfl
  rw [e, UInt64.toBitVec_shiftRight]
  have e3 : ((y.toInt64.toUInt64 &&& Int64.toUInt64 63).toBitVec % 64).toNat = s := hy
  rw [BitVec.ushiftRight_eq', e3, BitVec.getLsbD_ushiftRight]; rfl
theorem shl_bits (u y : Int64) (s : Nat) (hy : (y.toBitVec.smod 64).toNat = s) (j : Nat) : (u <<< y).toBitVec.getLsbD j = (decide (j < 64) && !decide (j < s) && u.toBitVec.getLsbD (j - s)) := by
  have e : (u <<< y).toBitVec = u.toBitVec <<< (y.toBitVec.smod 64) := rfl
  rw [e, BitVec.shiftLeft_eq', hy, BitVec.getLsbD_shiftLeft]
theorem m127 : ∀ j, (127 : Int64).toBitVec.getLsbD j = decide (j < 7) := by
  intro j
  by_cases h : j < 64
  · have : ∀ j < 64, (127 : Int64).toBitVec.getLsbD j = decide (j < 7) := by decide +kernel
    exact this j h
  · rw [BitVec.getLsbD_of_ge _ _ (by omega)]; simp; omega
theorem m1 : ∀ j, (1 : Int64).toBitVec.getLsbD j = decide (j < 1) := by
  intro j
  by_cases h : j < 64
  · have : ∀ j < 64, (1 : Int64).toBitVec.getLsbD j = decide (j < 1) := by decide +kernel
    exact this j h
  · rw [BitVec.getLsbD_of_ge _ _ (by omega)]; simp; omega
theorem part_bits (v : Int64) (y : Int32) (z m : Int64) (s c : Nat) (hm : ∀ j, m.toBitVec.getLsbD j = decide (j < c)) (hy : ((y.toInt64.toUInt64 &&& Int64.toUInt64 63).toNat % 64 = s)) (hz : (z.toBitVec.smod 64).toNat = s) (j : Nat) (hj : j < 64) :
    ((Jvm.Free.XT.ushrL v y &&& m) <<< z).toBitVec.getLsbD j = (decide (s ≤ j ∧ j < s + c) && v.toBitVec.getLsbD j) := by
  rw [shl_bits _ _ s hz, Int64.toBitVec_and, BitVec.getLsbD_and, ushrL_bits _ _ s hy, hm]
  by_cases a : j < s
  · simp [a, show ¬ s ≤ j by omega]
  · by_cases b : j < s + c
    · simp [hj, a, b, show s ≤ j by omega, show j - s < c by omega, show s + (j - s) = j by omega]
    · simp [hj, a, b, show ¬ j - s < c by omega]
/-- what ten steps of the reader make of them -/
def ten (b : Nat → Int8) : Int64 :=
  ((((((((((0 ||| (((b 0).toInt32 &&& 127).toInt64 <<< ((0 : Int32).toInt64 &&& 63))) ||| (((b 1).toInt32 &&& 127).toInt64 <<< ((7 : Int32).toInt64 &&& 63))) ||| (((b 2).toInt32 &&& 127).toInt64 <<< ((14 : Int32).toInt64 &&& 63))) ||| (((b 3).toInt32 &&& 127).toInt64 <<< ((21 : Int32).toInt64 &&& 63))) ||| (((b 4).toInt32 &&& 127).toInt64 <<< ((28 : Int32).toInt64 &&& 63))) ||| (((b 5).toInt32 &&& 127).toInt64 <<< ((35 : Int32).toInt64 &&& 63))) ||| (((b 6).toInt32 &&& 127).toInt64 <<< ((42 : Int32).toInt64 &&& 63))) ||| (((b 7).toInt32 &&& 127).toInt64 <<< ((49 : Int32).toInt64 &&& 63))) ||| (((b 8).toInt32 &&& 127).toInt64 <<< ((56 : Int32).toInt64 &&& 63))) ||| (((b 9).toInt32 &&& 127).toInt64 <<< ((63 : Int32).toInt64 &&& 63)))
def tenB (v : Int64) (i : Nat) : Int8 := if i < 9 then hiB (Jvm.Free.XT.ushrL v (Int32.ofNat (7 * i))) else loB (Jvm.Free.XT.ushrL v (Int32.ofNat (7 * i)))
theorem ten_tenB (v : Int64) : ten (tenB v) = v := by
  have e : ∀ i, i < 9 → ((tenB v i).toInt32 &&& 127).toInt64 = Jvm.Free.XT.ushrL v (Int32.ofNat (7 * i)) &&& 127 := fun i h => by unfold tenB; rw [if_pos h]; exact (hiB_says _).2
  have e9 : ((tenB v 9).toInt32 &&& 127).toInt64 = Jvm.Free.XT.ushrL v (Int32.ofNat (7 * 9)) &&& 1 := by unfold tenB; rw [if_neg (by decide)]; exact (loB_says _).2
  unfold ten
  rw [e 0 (by decide), e 1 (by decide), e 2 (by decide), e 3 (by decide), e 4 (by decide), e 5 (by decide), e 6 (by decide), e 7 (by decide), e 8 (by decide), e9]
  apply Int64.toBitVec_inj.mp
  apply BitVec.eq_of_getLsbD_eq
  intro j hj
  simp only [Int64.toBitVec_or, BitVec.getLsbD_or]
  rw [part_bits v _ _ 127 0 7 m127 (by decide) (by decide) j hj, part_bits v _ _ 127 7 7 m127 (by decide) (by decide) j hj, part_bits v _ _ 127 14 7 m127 (by decide) (by decide) j hj, part_bits v _ _ 127 21 7 m127 (by decide) (by decide) j hj, part_bits v _ _ 127 28 7 m127 (by decide) (by decide) j hj, part_bits v _ _ 127 35 7 m127 (by decide) (by decide) j hj, part_bits v _ _ 127 42 7 m127 (by decide) (by decide) j hj, part_bits v _ _ 127 49 7 m127 (by decide) (by decide) j hj, part_bits v _ _ 127 56 7 m127 (by decide) (by decide) j hj, part_bits v _ _ 1 63 1 m1 (by decide) (by decide) j hj]
  have z : (0 : Int64).toBitVec.getLsbD j = false := by simp
  rw [z]
  cases v.toBitVec.getLsbD j with
  | false => simp
  | true => simp; omega
/-- a byte below 64 reads as itself -/
theorem one_all : ∀ j < 64, (¬ (Int32.ofNat j).toInt8.toInt32 < 0) ∧ ((0 : Int64) ||| (((Int32.ofNat j).toInt8.toInt32 &&& 127).toInt64 <<< ((0 : Int32).toInt64 &&& 63))).toInt32 = Int32.ofNat j := by decide +kernel
theorem one_says {x : Int32} {j : Nat} (hx : x.toInt = (j : Int)) (hj : j < 64) : (¬ x.toInt8.toInt32 < 0) ∧ ((0 : Int64) ||| ((x.toInt8.toInt32 &&& 127).toInt64 <<< ((0 : Int32).toInt64 &&& 63))).toInt32 = x := by
  have e : x = Int32.ofNat j := by apply Int32.toInt_inj.mp; rw [hx, Int32.toInt_ofNat_of_lt (by omega)]
  rw [e]; exact one_all j hj
end Jvm.OwnKit
namespace Jvm.Pilot.@@N@@
open Jvm Jvm.ClassFile Sem Op Lib Jvm.Free Jvm.Stand Jvm.LawKit Jvm.RoadKit Jvm.OwnKit Bundle Jvm.Pilot.@@N@@.Jvm.D
theorem pn_0 : plainName "mandate/RecordTakePinLaw" = true := by first | (simp [plainName, overriddenIn]; done) | decide +kernel
theorem pd_0 : parseMethodDescriptor "([BIJ)V" = some ⟨[(.array .byte), .int, .long], none⟩ := by decide +kernel
theorem pn_1 : plainName "mandate/Unpacker" = true := by first | (simp [plainName, overriddenIn]; done) | decide +kernel
theorem pd_1 : parseMethodDescriptor "()J" = some ⟨[], some .long⟩ := by decide +kernel
theorem pf_13 : plainFor (⟨"java/lang/Integer", "numberOfLeadingZeros", "(I)I"⟩ : MethodName) = true := by decide +kernel
theorem pf_12 : plainFor (⟨"java/lang/Long", "numberOfLeadingZeros", "(J)I"⟩ : MethodName) = true := by decide +kernel
theorem pd_2 : parseMethodDescriptor "(I)I" = some ⟨[.int], some .int⟩ := by decide +kernel
theorem pn_4 : plainName "mandate/Packer" = true := by first | (simp [plainName, overriddenIn]; done) | decide +kernel
theorem pd_3 : parseMethodDescriptor "(J)I" = some ⟨[.long], some .int⟩ := by decide +kernel
theorem pn_5 : plainName "mandate/Batch" = true := by first | (simp [plainName, overriddenIn]; done) | decide +kernel
theorem pn_6 : plainName "mandate/Records$Record" = true := by first | (simp [plainName, overriddenIn]; done) | decide +kernel
theorem pd_4 : parseMethodDescriptor "()V" = some ⟨[], none⟩ := by decide +kernel
theorem pd_5 : parseMethodDescriptor "([BII)Lmandate/Unpacker;" = some ⟨[(.array .byte), .int, .int], some (.object "mandate/Unpacker")⟩ := by decide +kernel
theorem pd_6 : parseMethodDescriptor "()I" = some ⟨[], some .int⟩ := by decide +kernel
theorem pd_7 : parseMethodDescriptor "(IIJI)I" = some ⟨[.int, .int, .long, .int], some .int⟩ := by decide +kernel
theorem pd_8 : parseMethodDescriptor "([BIJIII)V" = some ⟨[(.array .byte), .int, .long, .int, .int, .int], none⟩ := by decide +kernel
theorem pd_9 : parseMethodDescriptor "([BI)I" = some ⟨[(.array .byte), .int], some .int⟩ := by decide +kernel
theorem pd_10 : parseMethodDescriptor "(Lmandate/Records$Record;)V" = some ⟨[(.object "mandate/Records$Record")], none⟩ := by decide +kernel
theorem pd_11 : parseMethodDescriptor "()[B" = some ⟨[], some (.array .byte)⟩ := by decide +kernel
def own_ten (ys : List Int8) (t : Nat) (v : Int64) : Prop := ∀ i < 10, ys[t + i]? = some (tenB v i)
theorem own_lt (v : Int64) {i : Nat} (h : i < 9) : (tenB v i).toInt32 < 0 := by unfold tenB; rw [if_pos h]; exact (hiB_says _).1
theorem own_nl (v : Int64) : ¬ (tenB v 9).toInt32 < 0 := by unfold tenB; rw [if_neg (by decide)]; exact (loB_says _).1
def own_sets (xs : List Int8) (t : Nat) (b : Nat → Int8) : List Int8 := (((((((((xs.set t (b 0)).set (t + 1) (b 1)).set (t + 2) (b 2)).set (t + 3) (b 3)).set (t + 4) (b 4)).set (t + 5) (b 5)).set (t + 6) (b 6)).set (t + 7) (b 7)).set (t + 8) (b 8)).set (t + 9) (b 9)
theorem own_sets_len (xs : List Int8) (t : Nat) (b : Nat → Int8) : (own_sets xs t b).length = xs.length := by simp [own_sets]
theorem own_sets_in {xs : List Int8} {t : Nat} (b : Nat → Int8) (h : t + 10 ≤ xs.length) (i : Nat) (hi : i < 10) : (own_sets xs t b)[t + i]? = some (b i) := by
  have hc : i = 0 ∨ i = 1 ∨ i = 2 ∨ i = 3 ∨ i = 4 ∨ i = 5 ∨ i = 6 ∨ i = 7 ∨ i = 8 ∨ i = 9 := by omega
  rcases hc with rfl | rfl | rfl | rfl | rfl | rfl | rfl | rfl | rfl | rfl <;> simp [own_sets, List.getElem?_set] <;> omega
theorem own_sets_out {xs : List Int8} {t : Nat} (b : Nat → Int8) (k : Nat) (hk : k < t ∨ t + 10 ≤ k) : (own_sets xs t b)[k]? = xs[k]? := by
  unfold own_sets
  rw [List.getElem?_set_ne (by omega), List.getElem?_set_ne (by omega), List.getElem?_set_ne (by omega), List.getElem?_set_ne (by omega), List.getElem?_set_ne (by omega), List.getElem?_set_ne (by omega), List.getElem?_set_ne (by omega), List.getElem?_set_ne (by omega), List.getElem?_set_ne (by omega), List.getElem?_set_ne (by omega)]
theorem d2_0 : decode method_4_code 0 = .ok (.aload_n 0, 1) := by decide +kernel
theorem d2_1 : decode method_4_code 1 = .ok (.iload_n 1, 1) := by decide +kernel
theorem d2_2 : decode method_4_code 2 = .ok (.ldc2_w 52, 3) := by decide +kernel
theorem d2_5 : decode method_4_code 5 = .ok (.lload_n 2, 1) := by decide +kernel
theorem d2_6 : decode method_4_code 6 = .ok (.ldc2_w 54, 3) := by decide +kernel
theorem d2_9 : decode method_4_code 9 = .ok (.land, 1) := by decide +kernel
theorem d2_10 : decode method_4_code 10 = .ok (.lor, 1) := by decide +kernel
theorem d2_11 : decode method_4_code 11 = .ok (.l2i, 1) := by decide +kernel
theorem d2_12 : decode method_4_code 12 = .ok (.i2b, 1) := by decide +kernel
theorem d2_13 : decode method_4_code 13 = .ok (.bastore, 1) := by decide +kernel
theorem d2_14 : decode method_4_code 14 = .ok (.aload_n 0, 1) := by decide +kernel
theorem d2_15 : decode method_4_code 15 = .ok (.iload_n 1, 1) := by decide +kernel
theorem d2_16 : decode method_4_code 16 = .ok (.iconst 1, 1) := by decide +kernel
theorem d2_17 : decode method_4_code 17 = .ok (.iadd, 1) := by decide +kernel
theorem d2_18 : decode method_4_code 18 = .ok (.ldc2_w 52, 3) := by decide +kernel
theorem d2_21 : decode method_4_code 21 = .ok (.lload_n 2, 1) := by decide +kernel
theorem d2_22 : decode method_4_code 22 = .ok (.bipush 7, 2) := by decide +kernel
theorem d2_24 : decode method_4_code 24 = .ok (.lushr, 1) := by decide +kernel
theorem d2_25 : decode method_4_code 25 = .ok (.ldc2_w 54, 3) := by decide +kernel
theorem d2_28 : decode method_4_code 28 = .ok (.land, 1) := by decide +kernel
theorem d2_29 : decode method_4_code 29 = .ok (.lor, 1) := by decide +kernel
theorem d2_30 : decode method_4_code 30 = .ok (.l2i, 1) := by decide +kernel
theorem d2_31 : decode method_4_code 31 = .ok (.i2b, 1) := by decide +kernel
theorem d2_32 : decode method_4_code 32 = .ok (.bastore, 1) := by decide +kernel
theorem d2_33 : decode method_4_code 33 = .ok (.aload_n 0, 1) := by decide +kernel
theorem d2_34 : decode method_4_code 34 = .ok (.iload_n 1, 1) := by decide +kernel
theorem d2_35 : decode method_4_code 35 = .ok (.iconst 2, 1) := by decide +kernel
theorem d2_36 : decode method_4_code 36 = .ok (.iadd, 1) := by decide +kernel
theorem d2_37 : decode method_4_code 37 = .ok (.ldc2_w 52, 3) := by decide +kernel
theorem d2_40 : decode method_4_code 40 = .ok (.lload_n 2, 1) := by decide +kernel
theorem d2_41 : decode method_4_code 41 = .ok (.bipush 14, 2) := by decide +kernel
theorem d2_43 : decode method_4_code 43 = .ok (.lushr, 1) := by decide +kernel
theorem d2_44 : decode method_4_code 44 = .ok (.ldc2_w 54, 3) := by decide +kernel
theorem d2_47 : decode method_4_code 47 = .ok (.land, 1) := by decide +kernel
theorem d2_48 : decode method_4_code 48 = .ok (.lor, 1) := by decide +kernel
theorem d2_49 : decode method_4_code 49 = .ok (.l2i, 1) := by decide +kernel
theorem d2_50 : decode method_4_code 50 = .ok (.i2b, 1) := by decide +kernel
theorem d2_51 : decode method_4_code 51 = .ok (.bastore, 1) := by decide +kernel
theorem d2_52 : decode method_4_code 52 = .ok (.aload_n 0, 1) := by decide +kernel
theorem d2_53 : decode method_4_code 53 = .ok (.iload_n 1, 1) := by decide +kernel
theorem d2_54 : decode method_4_code 54 = .ok (.iconst 3, 1) := by decide +kernel
theorem d2_55 : decode method_4_code 55 = .ok (.iadd, 1) := by decide +kernel
theorem d2_56 : decode method_4_code 56 = .ok (.ldc2_w 52, 3) := by decide +kernel
theorem d2_59 : decode method_4_code 59 = .ok (.lload_n 2, 1) := by decide +kernel
theorem d2_60 : decode method_4_code 60 = .ok (.bipush 21, 2) := by decide +kernel
theorem d2_62 : decode method_4_code 62 = .ok (.lushr, 1) := by decide +kernel
theorem d2_63 : decode method_4_code 63 = .ok (.ldc2_w 54, 3) := by decide +kernel
theorem d2_66 : decode method_4_code 66 = .ok (.land, 1) := by decide +kernel
theorem d2_67 : decode method_4_code 67 = .ok (.lor, 1) := by decide +kernel
theorem d2_68 : decode method_4_code 68 = .ok (.l2i, 1) := by decide +kernel
theorem d2_69 : decode method_4_code 69 = .ok (.i2b, 1) := by decide +kernel
theorem d2_70 : decode method_4_code 70 = .ok (.bastore, 1) := by decide +kernel
theorem d2_71 : decode method_4_code 71 = .ok (.aload_n 0, 1) := by decide +kernel
theorem d2_72 : decode method_4_code 72 = .ok (.iload_n 1, 1) := by decide +kernel
theorem d2_73 : decode method_4_code 73 = .ok (.iconst 4, 1) := by decide +kernel
theorem d2_74 : decode method_4_code 74 = .ok (.iadd, 1) := by decide +kernel
theorem d2_75 : decode method_4_code 75 = .ok (.ldc2_w 52, 3) := by decide +kernel
theorem d2_78 : decode method_4_code 78 = .ok (.lload_n 2, 1) := by decide +kernel
theorem d2_79 : decode method_4_code 79 = .ok (.bipush 28, 2) := by decide +kernel
theorem d2_81 : decode method_4_code 81 = .ok (.lushr, 1) := by decide +kernel
theorem d2_82 : decode method_4_code 82 = .ok (.ldc2_w 54, 3) := by decide +kernel
theorem d2_85 : decode method_4_code 85 = .ok (.land, 1) := by decide +kernel
theorem d2_86 : decode method_4_code 86 = .ok (.lor, 1) := by decide +kernel
theorem d2_87 : decode method_4_code 87 = .ok (.l2i, 1) := by decide +kernel
theorem d2_88 : decode method_4_code 88 = .ok (.i2b, 1) := by decide +kernel
theorem d2_89 : decode method_4_code 89 = .ok (.bastore, 1) := by decide +kernel
theorem d2_90 : decode method_4_code 90 = .ok (.aload_n 0, 1) := by decide +kernel
theorem d2_91 : decode method_4_code 91 = .ok (.iload_n 1, 1) := by decide +kernel
theorem d2_92 : decode method_4_code 92 = .ok (.iconst 5, 1) := by decide +kernel
theorem d2_93 : decode method_4_code 93 = .ok (.iadd, 1) := by decide +kernel
theorem d2_94 : decode method_4_code 94 = .ok (.ldc2_w 52, 3) := by decide +kernel
theorem d2_97 : decode method_4_code 97 = .ok (.lload_n 2, 1) := by decide +kernel
theorem d2_98 : decode method_4_code 98 = .ok (.bipush 35, 2) := by decide +kernel
theorem d2_100 : decode method_4_code 100 = .ok (.lushr, 1) := by decide +kernel
theorem d2_101 : decode method_4_code 101 = .ok (.ldc2_w 54, 3) := by decide +kernel
theorem d2_104 : decode method_4_code 104 = .ok (.land, 1) := by decide +kernel
theorem d2_105 : decode method_4_code 105 = .ok (.lor, 1) := by decide +kernel
theorem d2_106 : decode method_4_code 106 = .ok (.l2i, 1) := by decide +kernel
theorem d2_107 : decode method_4_code 107 = .ok (.i2b, 1) := by decide +kernel
theorem d2_108 : decode method_4_code 108 = .ok (.bastore, 1) := by decide +kernel
theorem d2_109 : decode method_4_code 109 = .ok (.aload_n 0, 1) := by decide +kernel
theorem d2_110 : decode method_4_code 110 = .ok (.iload_n 1, 1) := by decide +kernel
theorem d2_111 : decode method_4_code 111 = .ok (.bipush 6, 2) := by decide +kernel
theorem d2_113 : decode method_4_code 113 = .ok (.iadd, 1) := by decide +kernel
theorem d2_114 : decode method_4_code 114 = .ok (.ldc2_w 52, 3) := by decide +kernel
theorem d2_117 : decode method_4_code 117 = .ok (.lload_n 2, 1) := by decide +kernel
theorem d2_118 : decode method_4_code 118 = .ok (.bipush 42, 2) := by decide +kernel
theorem d2_120 : decode method_4_code 120 = .ok (.lushr, 1) := by decide +kernel
theorem d2_121 : decode method_4_code 121 = .ok (.ldc2_w 54, 3) := by decide +kernel
theorem d2_124 : decode method_4_code 124 = .ok (.land, 1) := by decide +kernel
theorem d2_125 : decode method_4_code 125 = .ok (.lor, 1) := by decide +kernel
theorem d2_126 : decode method_4_code 126 = .ok (.l2i, 1) := by decide +kernel
theorem d2_127 : decode method_4_code 127 = .ok (.i2b, 1) := by decide +kernel
theorem d2_128 : decode method_4_code 128 = .ok (.bastore, 1) := by decide +kernel
theorem d2_129 : decode method_4_code 129 = .ok (.aload_n 0, 1) := by decide +kernel
theorem d2_130 : decode method_4_code 130 = .ok (.iload_n 1, 1) := by decide +kernel
theorem d2_131 : decode method_4_code 131 = .ok (.bipush 7, 2) := by decide +kernel
theorem d2_133 : decode method_4_code 133 = .ok (.iadd, 1) := by decide +kernel
theorem d2_134 : decode method_4_code 134 = .ok (.ldc2_w 52, 3) := by decide +kernel
theorem d2_137 : decode method_4_code 137 = .ok (.lload_n 2, 1) := by decide +kernel
theorem d2_138 : decode method_4_code 138 = .ok (.bipush 49, 2) := by decide +kernel
theorem d2_140 : decode method_4_code 140 = .ok (.lushr, 1) := by decide +kernel
theorem d2_141 : decode method_4_code 141 = .ok (.ldc2_w 54, 3) := by decide +kernel
theorem d2_144 : decode method_4_code 144 = .ok (.land, 1) := by decide +kernel
theorem d2_145 : decode method_4_code 145 = .ok (.lor, 1) := by decide +kernel
theorem d2_146 : decode method_4_code 146 = .ok (.l2i, 1) := by decide +kernel
theorem d2_147 : decode method_4_code 147 = .ok (.i2b, 1) := by decide +kernel
theorem d2_148 : decode method_4_code 148 = .ok (.bastore, 1) := by decide +kernel
theorem d2_149 : decode method_4_code 149 = .ok (.aload_n 0, 1) := by decide +kernel
theorem d2_150 : decode method_4_code 150 = .ok (.iload_n 1, 1) := by decide +kernel
theorem d2_151 : decode method_4_code 151 = .ok (.bipush 8, 2) := by decide +kernel
theorem d2_153 : decode method_4_code 153 = .ok (.iadd, 1) := by decide +kernel
theorem d2_154 : decode method_4_code 154 = .ok (.ldc2_w 52, 3) := by decide +kernel
theorem d2_157 : decode method_4_code 157 = .ok (.lload_n 2, 1) := by decide +kernel
theorem d2_158 : decode method_4_code 158 = .ok (.bipush 56, 2) := by decide +kernel
theorem d2_160 : decode method_4_code 160 = .ok (.lushr, 1) := by decide +kernel
theorem d2_161 : decode method_4_code 161 = .ok (.ldc2_w 54, 3) := by decide +kernel
theorem d2_164 : decode method_4_code 164 = .ok (.land, 1) := by decide +kernel
theorem d2_165 : decode method_4_code 165 = .ok (.lor, 1) := by decide +kernel
theorem d2_166 : decode method_4_code 166 = .ok (.l2i, 1) := by decide +kernel
theorem d2_167 : decode method_4_code 167 = .ok (.i2b, 1) := by decide +kernel
theorem d2_168 : decode method_4_code 168 = .ok (.bastore, 1) := by decide +kernel
theorem d2_169 : decode method_4_code 169 = .ok (.aload_n 0, 1) := by decide +kernel
theorem d2_170 : decode method_4_code 170 = .ok (.iload_n 1, 1) := by decide +kernel
theorem d2_171 : decode method_4_code 171 = .ok (.bipush 9, 2) := by decide +kernel
theorem d2_173 : decode method_4_code 173 = .ok (.iadd, 1) := by decide +kernel
theorem d2_174 : decode method_4_code 174 = .ok (.lload_n 2, 1) := by decide +kernel
theorem d2_175 : decode method_4_code 175 = .ok (.bipush 63, 2) := by decide +kernel
theorem d2_177 : decode method_4_code 177 = .ok (.lushr, 1) := by decide +kernel
theorem d2_178 : decode method_4_code 178 = .ok (.lconst 1, 1) := by decide +kernel
theorem d2_179 : decode method_4_code 179 = .ok (.land, 1) := by decide +kernel
theorem d2_180 : decode method_4_code 180 = .ok (.l2i, 1) := by decide +kernel
theorem d2_181 : decode method_4_code 181 = .ok (.i2b, 1) := by decide +kernel
theorem d2_182 : decode method_4_code 182 = .ok (.bastore, 1) := by decide +kernel
theorem d2_183 : decode method_4_code 183 = .ok (.return_, 1) := by decide +kernel
abbrev own_rm2_room : Room := { frames := 0, cells := 0, slots := 0, locals := 0 }
set_option maxRecDepth 65536 in
set_option maxHeartbeats 40000000 in
theorem rm2 (l : Launch) (Z : State) (a0 : Array Value) (hw : ∀ d ∈ tables_1, d.before a0 Z = true) (n0 : Nat) (h0 : Heap) (Z0 : n0 ≤ h0.size) (a : Addr) (xs : List Int8) (ai : Int32) (vv : Int64) (t : Nat) (ge : n0 ≤ a) (V : BA Z h0 a xs) (hat : ai.toInt = (t : Int)) (hroom : t + 10 ≤ xs.length) (hlen : xs.length < 1000) :
    Ctr l Z (⟨"mandate/RecordTakePinLaw", "packLong", "([BIJ)V"⟩ : MethodName) method_4_code 4 none own_rm2_room n0 #[(.ref a), (.int ai), (.long vv)] h0 (fun v h => v = none ∧ Keep h0 h [a] ∧ BA Z h a (own_sets xs t (tenB vv))) := by
  refine Ctr.of #[.val (.ref a), .val (.int ai), .val (.long vv), .second] (plainFor_of_name pn_0) Z0 (fun m => by first | (simp [entryFrame, mkF, argsToLocals, Value.category]; done) | rfl) ?_
  intro C H
  refine k_aloadN (pc := 0) H d2_0 rfl rfl ?_
  refine k_iloadN (pc := 1) H d2_1 rfl ?_
  refine k_ldc2J (v := (128 : Int64)) (pc := 2) H (wd hw 8 rfl) d2_2 ?_
  refine k_lloadN (pc := 5) H d2_5 rfl ?_
  refine k_ldc2J (v := (127 : Int64)) (pc := 6) H (wd hw 9 rfl) d2_6 ?_
  refine k_land (pc := 9) H d2_9 ?_
  refine k_lor (pc := 10) H d2_10 ?_
  refine k_l2i (pc := 11) H d2_11 ?_
  refine k_i2b (pc := 12) H d2_12 ?_
  refine k_bastoreT (i := t) (pc := 13) H V (hat) (by omega) ge d2_13 ?_
  intro h1 K2 V3
  have KW4 : Keep h0 h1 [a] := (Keep.refl h0 [a]).trans K2 (allS (Or.inl (List.mem_of_getElem? (i := 0) rfl)) all0)
  refine k_aloadN (pc := 14) H d2_14 rfl rfl ?_
  refine k_iloadN (pc := 15) H d2_15 rfl ?_
  refine k_iconst (1 : Int32) (pc := 16) H d2_16 rfl ?_
  refine k_iadd (pc := 17) H d2_17 ?_
  refine k_ldc2J (v := (128 : Int64)) (pc := 18) H (wd hw 8 rfl) d2_18 ?_
  refine k_lloadN (pc := 21) H d2_21 rfl ?_
  refine k_bipush (7 : Int32) (pc := 22) H d2_22 rfl ?_
  refine k_lushr (pc := 24) H d2_24 ?_
  refine k_ldc2J (v := (127 : Int64)) (pc := 25) H (wd hw 9 rfl) d2_25 ?_
  refine k_land (pc := 28) H d2_28 ?_
  refine k_lor (pc := 29) H d2_29 ?_
  refine k_l2i (pc := 30) H d2_30 ?_
  refine k_i2b (pc := 31) H d2_31 ?_
  refine k_bastoreT (i := (t + 1)) (pc := 32) H V3 (add_nat hat rfl (by omega)) (by simp only [List.length_set]; omega) ge d2_32 ?_
  intro h5 K6 V7
  have KW8 : Keep h0 h5 [a] := KW4.trans K6 (allS (Or.inl (List.mem_of_getElem? (i := 0) rfl)) all0)
  refine k_aloadN (pc := 33) H d2_33 rfl rfl ?_
  refine k_iloadN (pc := 34) H d2_34 rfl ?_
  refine k_iconst (2 : Int32) (pc := 35) H d2_35 rfl ?_
  refine k_iadd (pc := 36) H d2_36 ?_
  refine k_ldc2J (v := (128 : Int64)) (pc := 37) H (wd hw 8 rfl) d2_37 ?_
  refine k_lloadN (pc := 40) H d2_40 rfl ?_
  refine k_bipush (14 : Int32) (pc := 41) H d2_41 rfl ?_
  refine k_lushr (pc := 43) H d2_43 ?_
  refine k_ldc2J (v := (127 : Int64)) (pc := 44) H (wd hw 9 rfl) d2_44 ?_
  refine k_land (pc := 47) H d2_47 ?_
  refine k_lor (pc := 48) H d2_48 ?_
  refine k_l2i (pc := 49) H d2_49 ?_
  refine k_i2b (pc := 50) H d2_50 ?_
  refine k_bastoreT (i := (t + 2)) (pc := 51) H V7 (add_nat hat rfl (by omega)) (by simp only [List.length_set]; omega) ge d2_51 ?_
  intro h9 K10 V11
  have KW12 : Keep h0 h9 [a] := KW8.trans K10 (allS (Or.inl (List.mem_of_getElem? (i := 0) rfl)) all0)
  refine k_aloadN (pc := 52) H d2_52 rfl rfl ?_
  refine k_iloadN (pc := 53) H d2_53 rfl ?_
  refine k_iconst (3 : Int32) (pc := 54) H d2_54 rfl ?_
  refine k_iadd (pc := 55) H d2_55 ?_
  refine k_ldc2J (v := (128 : Int64)) (pc := 56) H (wd hw 8 rfl) d2_56 ?_
  refine k_lloadN (pc := 59) H d2_59 rfl ?_
  refine k_bipush (21 : Int32) (pc := 60) H d2_60 rfl ?_
  refine k_lushr (pc := 62) H d2_62 ?_
  refine k_ldc2J (v := (127 : Int64)) (pc := 63) H (wd hw 9 rfl) d2_63 ?_
  refine k_land (pc := 66) H d2_66 ?_
  refine k_lor (pc := 67) H d2_67 ?_
  refine k_l2i (pc := 68) H d2_68 ?_
  refine k_i2b (pc := 69) H d2_69 ?_
  refine k_bastoreT (i := (t + 3)) (pc := 70) H V11 (add_nat hat rfl (by omega)) (by simp only [List.length_set]; omega) ge d2_70 ?_
  intro h13 K14 V15
  have KW16 : Keep h0 h13 [a] := KW12.trans K14 (allS (Or.inl (List.mem_of_getElem? (i := 0) rfl)) all0)
  refine k_aloadN (pc := 71) H d2_71 rfl rfl ?_
  refine k_iloadN (pc := 72) H d2_72 rfl ?_
  refine k_iconst (4 : Int32) (pc := 73) H d2_73 rfl ?_
  refine k_iadd (pc := 74) H d2_74 ?_
  refine k_ldc2J (v := (128 : Int64)) (pc := 75) H (wd hw 8 rfl) d2_75 ?_
  refine k_lloadN (pc := 78) H d2_78 rfl ?_
  refine k_bipush (28 : Int32) (pc := 79) H d2_79 rfl ?_
  refine k_lushr (pc := 81) H d2_81 ?_
  refine k_ldc2J (v := (127 : Int64)) (pc := 82) H (wd hw 9 rfl) d2_82 ?_
  refine k_land (pc := 85) H d2_85 ?_
  refine k_lor (pc := 86) H d2_86 ?_
  refine k_l2i (pc := 87) H d2_87 ?_
  refine k_i2b (pc := 88) H d2_88 ?_
  refine k_bastoreT (i := (t + 4)) (pc := 89) H V15 (add_nat hat rfl (by omega)) (by simp only [List.length_set]; omega) ge d2_89 ?_
  intro h17 K18 V19
  have KW20 : Keep h0 h17 [a] := KW16.trans K18 (allS (Or.inl (List.mem_of_getElem? (i := 0) rfl)) all0)
  refine k_aloadN (pc := 90) H d2_90 rfl rfl ?_
  refine k_iloadN (pc := 91) H d2_91 rfl ?_
  refine k_iconst (5 : Int32) (pc := 92) H d2_92 rfl ?_
  refine k_iadd (pc := 93) H d2_93 ?_
  refine k_ldc2J (v := (128 : Int64)) (pc := 94) H (wd hw 8 rfl) d2_94 ?_
  refine k_lloadN (pc := 97) H d2_97 rfl ?_
  refine k_bipush (35 : Int32) (pc := 98) H d2_98 rfl ?_
  refine k_lushr (pc := 100) H d2_100 ?_
  refine k_ldc2J (v := (127 : Int64)) (pc := 101) H (wd hw 9 rfl) d2_101 ?_
  refine k_land (pc := 104) H d2_104 ?_
  refine k_lor (pc := 105) H d2_105 ?_
  refine k_l2i (pc := 106) H d2_106 ?_
  refine k_i2b (pc := 107) H d2_107 ?_
  refine k_bastoreT (i := (t + 5)) (pc := 108) H V19 (add_nat hat rfl (by omega)) (by simp only [List.length_set]; omega) ge d2_108 ?_
  intro h21 K22 V23
  have KW24 : Keep h0 h21 [a] := KW20.trans K22 (allS (Or.inl (List.mem_of_getElem? (i := 0) rfl)) all0)
  refine k_aloadN (pc := 109) H d2_109 rfl rfl ?_
  refine k_iloadN (pc := 110) H d2_110 rfl ?_
  refine k_bipush (6 : Int32) (pc := 111) H d2_111 rfl ?_
  refine k_iadd (pc := 113) H d2_113 ?_
  refine k_ldc2J (v := (128 : Int64)) (pc := 114) H (wd hw 8 rfl) d2_114 ?_
  refine k_lloadN (pc := 117) H d2_117 rfl ?_
  refine k_bipush (42 : Int32) (pc := 118) H d2_118 rfl ?_
  refine k_lushr (pc := 120) H d2_120 ?_
  refine k_ldc2J (v := (127 : Int64)) (pc := 121) H (wd hw 9 rfl) d2_121 ?_
  refine k_land (pc := 124) H d2_124 ?_
  refine k_lor (pc := 125) H d2_125 ?_
  refine k_l2i (pc := 126) H d2_126 ?_
  refine k_i2b (pc := 127) H d2_127 ?_
  refine k_bastoreT (i := (t + 6)) (pc := 128) H V23 (add_nat hat rfl (by omega)) (by simp only [List.length_set]; omega) ge d2_128 ?_
  intro h25 K26 V27
  have KW28 : Keep h0 h25 [a] := KW24.trans K26 (allS (Or.inl (List.mem_of_getElem? (i := 0) rfl)) all0)
  refine k_aloadN (pc := 129) H d2_129 rfl rfl ?_
  refine k_iloadN (pc := 130) H d2_130 rfl ?_
  refine k_bipush (7 : Int32) (pc := 131) H d2_131 rfl ?_
  refine k_iadd (pc := 133) H d2_133 ?_
  refine k_ldc2J (v := (128 : Int64)) (pc := 134) H (wd hw 8 rfl) d2_134 ?_
  refine k_lloadN (pc := 137) H d2_137 rfl ?_
  refine k_bipush (49 : Int32) (pc := 138) H d2_138 rfl ?_
  refine k_lushr (pc := 140) H d2_140 ?_
  refine k_ldc2J (v := (127 : Int64)) (pc := 141) H (wd hw 9 rfl) d2_141 ?_
  refine k_land (pc := 144) H d2_144 ?_
  refine k_lor (pc := 145) H d2_145 ?_
  refine k_l2i (pc := 146) H d2_146 ?_
  refine k_i2b (pc := 147) H d2_147 ?_
  refine k_bastoreT (i := (t + 7)) (pc := 148) H V27 (add_nat hat rfl (by omega)) (by simp only [List.length_set]; omega) ge d2_148 ?_
  intro h29 K30 V31
  have KW32 : Keep h0 h29 [a] := KW28.trans K30 (allS (Or.inl (List.mem_of_getElem? (i := 0) rfl)) all0)
  refine k_aloadN (pc := 149) H d2_149 rfl rfl ?_
  refine k_iloadN (pc := 150) H d2_150 rfl ?_
  refine k_bipush (8 : Int32) (pc := 151) H d2_151 rfl ?_
  refine k_iadd (pc := 153) H d2_153 ?_
  refine k_ldc2J (v := (128 : Int64)) (pc := 154) H (wd hw 8 rfl) d2_154 ?_
  refine k_lloadN (pc := 157) H d2_157 rfl ?_
  refine k_bipush (56 : Int32) (pc := 158) H d2_158 rfl ?_
  refine k_lushr (pc := 160) H d2_160 ?_
  refine k_ldc2J (v := (127 : Int64)) (pc := 161) H (wd hw 9 rfl) d2_161 ?_
  refine k_land (pc := 164) H d2_164 ?_
  refine k_lor (pc := 165) H d2_165 ?_
  refine k_l2i (pc := 166) H d2_166 ?_
  refine k_i2b (pc := 167) H d2_167 ?_
  refine k_bastoreT (i := (t + 8)) (pc := 168) H V31 (add_nat hat rfl (by omega)) (by simp only [List.length_set]; omega) ge d2_168 ?_
  intro h33 K34 V35
  have KW36 : Keep h0 h33 [a] := KW32.trans K34 (allS (Or.inl (List.mem_of_getElem? (i := 0) rfl)) all0)
  refine k_aloadN (pc := 169) H d2_169 rfl rfl ?_
  refine k_iloadN (pc := 170) H d2_170 rfl ?_
  refine k_bipush (9 : Int32) (pc := 171) H d2_171 rfl ?_
  refine k_iadd (pc := 173) H d2_173 ?_
  refine k_lloadN (pc := 174) H d2_174 rfl ?_
  refine k_bipush (63 : Int32) (pc := 175) H d2_175 rfl ?_
  refine k_lushr (pc := 177) H d2_177 ?_
  refine k_lconst (1 : Int64) (pc := 178) H d2_178 rfl ?_
  refine k_land (pc := 179) H d2_179 ?_
  refine k_l2i (pc := 180) H d2_180 ?_
  refine k_i2b (pc := 181) H d2_181 ?_
  refine k_bastoreT (i := (t + 9)) (pc := 182) H V35 (add_nat hat rfl (by omega)) (by simp only [List.length_set]; omega) ge d2_182 ?_
  intro h37 K38 V39
  have KW40 : Keep h0 h37 [a] := KW36.trans K38 (allS (Or.inl (List.mem_of_getElem? (i := 0) rfl)) all0)
  have e0 : ((128 : Int64) ||| (vv &&& (127 : Int64))).toInt32.toInt8.toInt32.toInt8 = tenB vv 0 := (b8 _).trans (by show hiB vv = hiB (XT.ushrL vv 0); rw [ushrL_0])
  have e1 : ((128 : Int64) ||| (XT.ushrL vv (7 : Int32) &&& (127 : Int64))).toInt32.toInt8.toInt32.toInt8 = tenB vv 1 := (b8 _).trans rfl
  have e2 : ((128 : Int64) ||| (XT.ushrL vv (14 : Int32) &&& (127 : Int64))).toInt32.toInt8.toInt32.toInt8 = tenB vv 2 := (b8 _).trans rfl
  have e3 : ((128 : Int64) ||| (XT.ushrL vv (21 : Int32) &&& (127 : Int64))).toInt32.toInt8.toInt32.toInt8 = tenB vv 3 := (b8 _).trans rfl
  have e4 : ((128 : Int64) ||| (XT.ushrL vv (28 : Int32) &&& (127 : Int64))).toInt32.toInt8.toInt32.toInt8 = tenB vv 4 := (b8 _).trans rfl
  have e5 : ((128 : Int64) ||| (XT.ushrL vv (35 : Int32) &&& (127 : Int64))).toInt32.toInt8.toInt32.toInt8 = tenB vv 5 := (b8 _).trans rfl
  have e6 : ((128 : Int64) ||| (XT.ushrL vv (42 : Int32) &&& (127 : Int64))).toInt32.toInt8.toInt32.toInt8 = tenB vv 6 := (b8 _).trans rfl
  have e7 : ((128 : Int64) ||| (XT.ushrL vv (49 : Int32) &&& (127 : Int64))).toInt32.toInt8.toInt32.toInt8 = tenB vv 7 := (b8 _).trans rfl
  have e8 : ((128 : Int64) ||| (XT.ushrL vv (56 : Int32) &&& (127 : Int64))).toInt32.toInt8.toInt32.toInt8 = tenB vv 8 := (b8 _).trans rfl
  have e9 : (XT.ushrL vv (63 : Int32) &&& (1 : Int64)).toInt32.toInt8.toInt32.toInt8 = tenB vv 9 := (b8 _).trans rfl
  rw [e0, e1, e2, e3, e4, e5, e6, e7, e8, e9] at V39
  exact k_retVoid (pc := 183) H d2_183 (by show 0 ≤ own_rm2_room.cells; decide) (by show 0 ≤ own_rm2_room.slots; decide) (⟨rfl, KW40, V39⟩)
theorem d1_0 : decode method_3_code 0 = .ok (.aload_n 0, 1) := by decide +kernel
theorem d1_1 : decode method_3_code 1 = .ok (.iload_n 1, 1) := by decide +kernel
theorem d1_2 : decode method_3_code 2 = .ok (.lload_n 2, 1) := by decide +kernel
theorem d1_3 : decode method_3_code 3 = .ok (.invokestatic 48, 3) := by decide +kernel
theorem d1_6 : decode method_3_code 6 = .ok (.aload_n 0, 1) := by decide +kernel
theorem d1_7 : decode method_3_code 7 = .ok (.iload_n 1, 1) := by decide +kernel
theorem d1_8 : decode method_3_code 8 = .ok (.bipush 10, 2) := by decide +kernel
theorem d1_10 : decode method_3_code 10 = .ok (.iadd, 1) := by decide +kernel
theorem d1_11 : decode method_3_code 11 = .ok (.iload 4, 2) := by decide +kernel
theorem d1_13 : decode method_3_code 13 = .ok (.i2l, 1) := by decide +kernel
theorem d1_14 : decode method_3_code 14 = .ok (.invokestatic 48, 3) := by decide +kernel
theorem d1_17 : decode method_3_code 17 = .ok (.aload_n 0, 1) := by decide +kernel
theorem d1_18 : decode method_3_code 18 = .ok (.iload_n 1, 1) := by decide +kernel
theorem d1_19 : decode method_3_code 19 = .ok (.bipush 20, 2) := by decide +kernel
theorem d1_21 : decode method_3_code 21 = .ok (.iadd, 1) := by decide +kernel
theorem d1_22 : decode method_3_code 22 = .ok (.iload 5, 2) := by decide +kernel
theorem d1_24 : decode method_3_code 24 = .ok (.i2b, 1) := by decide +kernel
theorem d1_25 : decode method_3_code 25 = .ok (.bastore, 1) := by decide +kernel
theorem d1_26 : decode method_3_code 26 = .ok (.aload_n 0, 1) := by decide +kernel
theorem d1_27 : decode method_3_code 27 = .ok (.iload_n 1, 1) := by decide +kernel
theorem d1_28 : decode method_3_code 28 = .ok (.bipush 21, 2) := by decide +kernel
theorem d1_30 : decode method_3_code 30 = .ok (.iadd, 1) := by decide +kernel
theorem d1_31 : decode method_3_code 31 = .ok (.iload 6, 2) := by decide +kernel
theorem d1_33 : decode method_3_code 33 = .ok (.i2b, 1) := by decide +kernel
theorem d1_34 : decode method_3_code 34 = .ok (.bastore, 1) := by decide +kernel
theorem d1_35 : decode method_3_code 35 = .ok (.return_, 1) := by decide +kernel
abbrev own_rm1_room : Room := { frames := 1, cells := 0, slots := 0, locals := 15 }
set_option maxRecDepth 65536 in
set_option maxHeartbeats 40000000 in
theorem rm1 (l : Launch) (Z : State) (a0 : Array Value) (hw : ∀ d ∈ tables_1, d.before a0 Z = true) (n0 : Nat) (h0 : Heap) (Z0 : n0 ≤ h0.size) (a : Addr) (xs : List Int8) (ai : Int32) (pp : Int64) (st kl bl : Int32) (t : Nat) (ge : n0 ≤ a) (V : BA Z h0 a xs) (hat : ai.toInt = (t : Int)) (hroom : t + 22 ≤ xs.length) (hlen : xs.length < 1000) :
    Ctr l Z (⟨"mandate/RecordTakePinLaw", "header", "([BIJIII)V"⟩ : MethodName) method_3_code 7 none own_rm1_room n0 #[(.ref a), (.int ai), (.long pp), (.int st), (.int kl), (.int bl)] h0 (fun v h => ∃ ys : List Int8, v = none ∧ Keep h0 h [a] ∧ BA Z h a ys ∧ ys.length = xs.length ∧ own_ten ys t pp ∧ own_ten ys (t + 10) st.toInt64 ∧ ys[t + 20]? = some kl.toInt8 ∧ ys[t + 21]? = some bl.toInt8) := by
  refine Ctr.of #[.val (.ref a), .val (.int ai), .val (.long pp), .second, .val (.int st), .val (.int kl), .val (.int bl)] (plainFor_of_name pn_0) Z0 (fun m => by first | (simp [entryFrame, mkF, argsToLocals, Value.category]; done) | rfl) ?_
  intro C H
  refine k_aloadN (pc := 0) H d1_0 rfl rfl ?_
  refine k_iloadN (pc := 1) H d1_1 rfl ?_
  refine k_lloadN (pc := 2) H d1_2 rfl ?_
  refine k_invS (y := (⟨"mandate/RecordTakePinLaw", "packLong", "([BIJ)V"⟩ : MethodName)) (st := []) [(.ref a), (.int ai), (.long pp)] 0 (pc := 3) H (wd hw 5 rfl) (wd hw 6 rfl) (wd hw 3 rfl) (wd hw 7 rfl) (by decide) (fun z0 => rm2 l Z a0 hw n0 h0 z0 a xs ai pp t ge V hat (by omega) hlen) (lenOf pd_0 rfl) d1_3 rfl rfl rfl (by decide) (by decide) (by decide) (by decide) ?_
  rintro v h42 ⟨rfl, K41, f43⟩
  show W l own_rm1_room C _ h42 0 0 6 #[.val (.ref a), .val (.int ai), .val (.long pp), .second, .val (.int st), .val (.int kl), .val (.int bl)] []
  have KW44 : Keep h0 h42 [a] := (Keep.refl h0 [a]).trans K41 (allS (Or.inl (List.mem_of_getElem? (i := 0) rfl)) all0)
  refine k_aloadN (pc := 6) H d1_6 rfl rfl ?_
  refine k_iloadN (pc := 7) H d1_7 rfl ?_
  refine k_bipush (10 : Int32) (pc := 8) H d1_8 rfl ?_
  refine k_iadd (pc := 10) H d1_10 ?_
  refine k_iload (pc := 11) H d1_11 rfl ?_
  refine k_i2l (pc := 13) H d1_13 ?_
  have l1 := own_sets_len xs t (tenB pp)
  obtain ⟨x1, hx1⟩ : ∃ z, z = own_sets xs t (tenB pp) := ⟨_, rfl⟩
  rw [← hx1] at l1 f43
  refine k_invS (y := (⟨"mandate/RecordTakePinLaw", "packLong", "([BIJ)V"⟩ : MethodName)) (st := []) [(.ref a), (.int (ai + (10 : Int32))), (.long st.toInt64)] 0 (pc := 14) H (wd hw 5 rfl) (wd hw 6 rfl) (wd hw 3 rfl) (wd hw 7 rfl) (by decide) (fun z0 => rm2 l Z a0 hw n0 h42 z0 a x1 (ai + (10 : Int32)) st.toInt64 (t + 10) ge f43 (add_nat hat rfl (by omega)) (by omega) (by omega)) (lenOf pd_0 rfl) d1_14 rfl rfl rfl (by decide) (by decide) (by decide) (by decide) ?_
  rintro v h46 ⟨rfl, K45, f47⟩
  show W l own_rm1_room C _ h46 0 0 17 #[.val (.ref a), .val (.int ai), .val (.long pp), .second, .val (.int st), .val (.int kl), .val (.int bl)] []
  have KW48 : Keep h0 h46 [a] := KW44.trans K45 (allS (Or.inl (List.mem_of_getElem? (i := 0) rfl)) all0)
  refine k_aloadN (pc := 17) H d1_17 rfl rfl ?_
  refine k_iloadN (pc := 18) H d1_18 rfl ?_
  refine k_bipush (20 : Int32) (pc := 19) H d1_19 rfl ?_
  refine k_iadd (pc := 21) H d1_21 ?_
  refine k_iload (pc := 22) H d1_22 rfl ?_
  refine k_i2b (pc := 24) H d1_24 ?_
  have l2 := own_sets_len x1 (t + 10) (tenB st.toInt64)
  refine k_bastoreT (i := (t + 20)) (pc := 25) H f47 (add_nat hat rfl (by omega)) (by simp only [List.length_set, own_sets_len]; omega) ge d1_25 ?_
  intro h49 K50 V51
  have KW52 : Keep h0 h49 [a] := KW48.trans K50 (allS (Or.inl (List.mem_of_getElem? (i := 0) rfl)) all0)
  refine k_aloadN (pc := 26) H d1_26 rfl rfl ?_
  refine k_iloadN (pc := 27) H d1_27 rfl ?_
  refine k_bipush (21 : Int32) (pc := 28) H d1_28 rfl ?_
  refine k_iadd (pc := 30) H d1_30 ?_
  refine k_iload (pc := 31) H d1_31 rfl ?_
  refine k_i2b (pc := 33) H d1_33 ?_
  refine k_bastoreT (i := (t + 21)) (pc := 34) H V51 (add_nat hat rfl (by omega)) (by simp only [List.length_set, own_sets_len]; omega) ge d1_34 ?_
  intro h53 K54 V55
  have KW56 : Keep h0 h53 [a] := KW52.trans K54 (allS (Or.inl (List.mem_of_getElem? (i := 0) rfl)) all0)
  exact k_retVoid (pc := 35) H d1_35 (by show 0 ≤ own_rm1_room.cells; decide) (by show 0 ≤ own_rm1_room.slots; decide) (⟨_, rfl, KW56, V55, by simp only [List.length_set]; omega, fun i hi => by rw [List.getElem?_set_ne (by omega), List.getElem?_set_ne (by omega), own_sets_out _ _ (by omega), hx1]; exact own_sets_in _ (by omega) i hi, fun i hi => by rw [List.getElem?_set_ne (by omega), List.getElem?_set_ne (by omega)]; exact own_sets_in _ (by omega) i hi, by rw [List.getElem?_set_ne (by omega), List.getElem?_set_self (by omega), b8], by rw [List.getElem?_set_self (by simp only [List.length_set]; omega), b8]⟩)
theorem d7_0 : decode prog_155_method_2_code 0 = .ok (.aload_n 0, 1) := by decide +kernel
theorem d7_1 : decode prog_155_method_2_code 1 = .ok (.aload_n 1, 1) := by decide +kernel
theorem d7_2 : decode prog_155_method_2_code 2 = .ok (.putfield 7, 3) := by decide +kernel
theorem d7_5 : decode prog_155_method_2_code 5 = .ok (.aload_n 0, 1) := by decide +kernel
theorem d7_6 : decode prog_155_method_2_code 6 = .ok (.iload_n 2, 1) := by decide +kernel
theorem d7_7 : decode prog_155_method_2_code 7 = .ok (.putfield 13, 3) := by decide +kernel
theorem d7_10 : decode prog_155_method_2_code 10 = .ok (.aload_n 0, 1) := by decide +kernel
theorem d7_11 : decode prog_155_method_2_code 11 = .ok (.iload_n 2, 1) := by decide +kernel
theorem d7_12 : decode prog_155_method_2_code 12 = .ok (.iload_n 3, 1) := by decide +kernel
theorem d7_13 : decode prog_155_method_2_code 13 = .ok (.iadd, 1) := by decide +kernel
theorem d7_14 : decode prog_155_method_2_code 14 = .ok (.putfield 17, 3) := by decide +kernel
theorem d7_17 : decode prog_155_method_2_code 17 = .ok (.aload_n 0, 1) := by decide +kernel
theorem d7_18 : decode prog_155_method_2_code 18 = .ok (.areturn, 1) := by decide +kernel
abbrev own_rm7_room : Room := { frames := 0, cells := 0, slots := 0, locals := 0 }
set_option maxRecDepth 65536 in
set_option maxHeartbeats 40000000 in
theorem rm7 (l : Launch) (Z : State) (a0 : Array Value) (hw : ∀ d ∈ tables_1, d.before a0 Z = true) (n0 : Nat) (h0 : Heap) (Z0 : n0 ≤ h0.size) (u a : Addr) (ai ln : Int32) (ge : n0 ≤ u) (X : Exa Z h0 u "mandate/Unpacker") (F0 : Fld Z h0 u "mandate/Unpacker" "bytes" "[B" .null) (F1 : Fld Z h0 u "mandate/Unpacker" "position" "I" (.int (0 : Int32))) (F2 : Fld Z h0 u "mandate/Unpacker" "end" "I" (.int (0 : Int32))) :
    Ctr l Z (⟨"mandate/Unpacker", "reset", "([BII)Lmandate/Unpacker;"⟩ : MethodName) prog_155_method_2_code 4 (some (.object "mandate/Unpacker")) own_rm7_room n0 #[(.ref u), (.ref a), (.int ai), (.int ln)] h0 (fun v h => v = some (.ref u) ∧ Keep h0 h [u] ∧ Fld Z h u "mandate/Unpacker" "bytes" "[B" (.ref a) ∧ Fld Z h u "mandate/Unpacker" "position" "I" (.int ai) ∧ Fld Z h u "mandate/Unpacker" "end" "I" (.int (ai + ln))) := by
  refine Ctr.of #[.val (.ref u), .val (.ref a), .val (.int ai), .val (.int ln)] (plainFor_of_name pn_1) Z0 (fun m => by first | (simp [entryFrame, mkF, argsToLocals, Value.category]; done) | rfl) ?_
  intro C H
  refine k_aloadN (pc := 0) H d7_0 rfl rfl ?_
  refine k_aloadN (pc := 1) H d7_1 rfl rfl ?_
  refine k_putfield (.array .byte) (pc := 2) H (wd hw 38 rfl) F0 X (Or.inl (wd hw 39 rfl)) (wd hw 20 rfl) (by decide) rfl rfl ge d7_2 ?_
  intro h57 Wr58 f59
  have KW60 : Keep h0 h57 [u] := (Keep.refl h0 [u]).wr Wr58 (Or.inl (List.mem_of_getElem? (i := 0) rfl))
  have f61 : Exa Z h57 u "mandate/Unpacker" := Jvm.RoadKit.Exa.wr Wr58 X
  have f62 : Fld Z h57 u "mandate/Unpacker" "position" "I" (.int (0 : Int32)) := Jvm.RoadKit.Fld.other Wr58 F1 (Or.inr (slot_ne (t := .int) (t' := (.array .byte)) (Or.inl (wd hw 41 rfl)) (Or.inl (wd hw 39 rfl)) (by decide) (by decide) (by decide)))
  have f63 : Fld Z h57 u "mandate/Unpacker" "end" "I" (.int (0 : Int32)) := Jvm.RoadKit.Fld.other Wr58 F2 (Or.inr (slot_ne (t := .int) (t' := (.array .byte)) (Or.inl (wd hw 43 rfl)) (Or.inl (wd hw 39 rfl)) (by decide) (by decide) (by decide)))
  refine k_aloadN (pc := 5) H d7_5 rfl rfl ?_
  refine k_iloadN (pc := 6) H d7_6 rfl ?_
  refine k_putfield .int (pc := 7) H (wd hw 40 rfl) f62 f61 (Or.inl (wd hw 41 rfl)) (wd hw 20 rfl) (by decide) rfl rfl ge d7_7 ?_
  intro h64 Wr65 f66
  have KW67 : Keep h0 h64 [u] := KW60.wr Wr65 (Or.inl (List.mem_of_getElem? (i := 0) rfl))
  have f68 : Exa Z h64 u "mandate/Unpacker" := Jvm.RoadKit.Exa.wr Wr65 f61
  have f69 : Fld Z h64 u "mandate/Unpacker" "end" "I" (.int (0 : Int32)) := Jvm.RoadKit.Fld.other Wr65 f63 (Or.inr (slot_ne (t := .int) (t' := .int) (Or.inl (wd hw 43 rfl)) (Or.inl (wd hw 41 rfl)) (by decide) (by decide) (by decide)))
  have f70 : Fld Z h64 u "mandate/Unpacker" "bytes" "[B" (.ref a) := Jvm.RoadKit.Fld.other Wr65 f59 (Or.inr (slot_ne (t := (.array .byte)) (t' := .int) (Or.inl (wd hw 39 rfl)) (Or.inl (wd hw 41 rfl)) (by decide) (by decide) (by decide)))
  refine k_aloadN (pc := 10) H d7_10 rfl rfl ?_
  refine k_iloadN (pc := 11) H d7_11 rfl ?_
  refine k_iloadN (pc := 12) H d7_12 rfl ?_
  refine k_iadd (pc := 13) H d7_13 ?_
  refine k_putfield .int (pc := 14) H (wd hw 42 rfl) f69 f68 (Or.inl (wd hw 43 rfl)) (wd hw 20 rfl) (by decide) rfl rfl ge d7_14 ?_
  intro h71 Wr72 f73
  have KW74 : Keep h0 h71 [u] := KW67.wr Wr72 (Or.inl (List.mem_of_getElem? (i := 0) rfl))
  have f75 : Exa Z h71 u "mandate/Unpacker" := Jvm.RoadKit.Exa.wr Wr72 f68
  have f76 : Fld Z h71 u "mandate/Unpacker" "bytes" "[B" (.ref a) := Jvm.RoadKit.Fld.other Wr72 f70 (Or.inr (slot_ne (t := (.array .byte)) (t' := .int) (Or.inl (wd hw 39 rfl)) (Or.inl (wd hw 43 rfl)) (by decide) (by decide) (by decide)))
  have f77 : Fld Z h71 u "mandate/Unpacker" "position" "I" (.int ai) := Jvm.RoadKit.Fld.other Wr72 f66 (Or.inr (slot_ne (t := .int) (t' := .int) (Or.inl (wd hw 41 rfl)) (Or.inl (wd hw 43 rfl)) (by decide) (by decide) (by decide)))
  refine k_aloadN (pc := 17) H d7_17 rfl rfl ?_
  exact k_retRef (t := (.object "mandate/Unpacker")) rfl rfl (pc := 18) H d7_18 (by show 0 ≤ own_rm7_room.cells; decide) (by show 0 ≤ own_rm7_room.slots; decide) (⟨rfl, KW74, f76, f77, f73⟩)
theorem d8_0 : decode prog_155_method_5_code 0 = .ok (.lconst 0, 1) := by decide +kernel
theorem d8_1 : decode prog_155_method_5_code 1 = .ok (.lstore_n 1, 1) := by decide +kernel
theorem d8_2 : decode prog_155_method_5_code 2 = .ok (.iconst 0, 1) := by decide +kernel
theorem d8_3 : decode prog_155_method_5_code 3 = .ok (.istore_n 3, 1) := by decide +kernel
theorem d8_4 : decode prog_155_method_5_code 4 = .ok (.aload_n 0, 1) := by decide +kernel
theorem d8_5 : decode prog_155_method_5_code 5 = .ok (.getfield 13, 3) := by decide +kernel
theorem d8_8 : decode prog_155_method_5_code 8 = .ok (.aload_n 0, 1) := by decide +kernel
theorem d8_9 : decode prog_155_method_5_code 9 = .ok (.getfield 17, 3) := by decide +kernel
theorem d8_12 : decode prog_155_method_5_code 12 = .ok (.if_icmp .ne 13, 3) := by decide +kernel
theorem d8_15 : decode prog_155_method_5_code 15 = .ok (.new 37, 3) := by decide +kernel
theorem d8_18 : decode prog_155_method_5_code 18 = .ok (.dup, 1) := by decide +kernel
theorem d8_19 : decode prog_155_method_5_code 19 = .ok (.ldc 39, 2) := by decide +kernel
theorem d8_21 : decode prog_155_method_5_code 21 = .ok (.invokespecial 41, 3) := by decide +kernel
theorem d8_24 : decode prog_155_method_5_code 24 = .ok (.athrow, 1) := by decide +kernel
theorem d8_25 : decode prog_155_method_5_code 25 = .ok (.aload_n 0, 1) := by decide +kernel
theorem d8_26 : decode prog_155_method_5_code 26 = .ok (.getfield 7, 3) := by decide +kernel
theorem d8_29 : decode prog_155_method_5_code 29 = .ok (.aload_n 0, 1) := by decide +kernel
theorem d8_30 : decode prog_155_method_5_code 30 = .ok (.dup, 1) := by decide +kernel
theorem d8_31 : decode prog_155_method_5_code 31 = .ok (.getfield 13, 3) := by decide +kernel
theorem d8_34 : decode prog_155_method_5_code 34 = .ok (.dup_x1, 1) := by decide +kernel
theorem d8_35 : decode prog_155_method_5_code 35 = .ok (.iconst 1, 1) := by decide +kernel
theorem d8_36 : decode prog_155_method_5_code 36 = .ok (.iadd, 1) := by decide +kernel
theorem d8_37 : decode prog_155_method_5_code 37 = .ok (.putfield 13, 3) := by decide +kernel
theorem d8_40 : decode prog_155_method_5_code 40 = .ok (.baload, 1) := by decide +kernel
theorem d8_41 : decode prog_155_method_5_code 41 = .ok (.istore 4, 2) := by decide +kernel
theorem d8_43 : decode prog_155_method_5_code 43 = .ok (.lload_n 1, 1) := by decide +kernel
theorem d8_44 : decode prog_155_method_5_code 44 = .ok (.iload 4, 2) := by decide +kernel
theorem d8_46 : decode prog_155_method_5_code 46 = .ok (.bipush 127, 2) := by decide +kernel
theorem d8_48 : decode prog_155_method_5_code 48 = .ok (.iand, 1) := by decide +kernel
theorem d8_49 : decode prog_155_method_5_code 49 = .ok (.i2l, 1) := by decide +kernel
theorem d8_50 : decode prog_155_method_5_code 50 = .ok (.iload_n 3, 1) := by decide +kernel
theorem d8_51 : decode prog_155_method_5_code 51 = .ok (.lshl, 1) := by decide +kernel
theorem d8_52 : decode prog_155_method_5_code 52 = .ok (.lor, 1) := by decide +kernel
theorem d8_53 : decode prog_155_method_5_code 53 = .ok (.lstore_n 1, 1) := by decide +kernel
theorem d8_54 : decode prog_155_method_5_code 54 = .ok (.iload 4, 2) := by decide +kernel
theorem d8_56 : decode prog_155_method_5_code 56 = .ok (.ifCond .lt 5, 3) := by decide +kernel
theorem d8_59 : decode prog_155_method_5_code 59 = .ok (.lload_n 1, 1) := by decide +kernel
theorem d8_60 : decode prog_155_method_5_code 60 = .ok (.lreturn, 1) := by decide +kernel
theorem d8_61 : decode prog_155_method_5_code 61 = .ok (.iinc 3 7, 3) := by decide +kernel
theorem d8_64 : decode prog_155_method_5_code 64 = .ok (.goto (-60), 3) := by decide +kernel
abbrev own_rlT_room : Room := { frames := 0, cells := 0, slots := 0, locals := 0 }
set_option maxRecDepth 65536 in
set_option maxHeartbeats 40000000 in
theorem rlT (l : Launch) (Z : State) (a0 : Array Value) (hw : ∀ d ∈ tables_1, d.before a0 Z = true) (n0 : Nat) (h0 : Heap) (Z0 : n0 ≤ h0.size) (u a : Addr) (xs : List Int8) (pp ee : Int32) (p e : Nat) (vv : Int64) (ge : n0 ≤ u) (nua : u ≠ a) (X : Exa Z h0 u "mandate/Unpacker") (F0 : Fld Z h0 u "mandate/Unpacker" "bytes" "[B" (.ref a)) (F1 : Fld Z h0 u "mandate/Unpacker" "position" "I" (.int pp)) (F2 : Fld Z h0 u "mandate/Unpacker" "end" "I" (.int ee)) (V : BA Z h0 a xs) (hp : pp.toInt = (p : Int)) (he : ee.toInt = (e : Int)) (hpe : p + 10 ≤ e) (he2 : e < 1000) (T : own_ten xs p vv) :
    Ctr l Z (⟨"mandate/Unpacker", "readLong", "()J"⟩ : MethodName) prog_155_method_5_code 5 (some .long) own_rlT_room n0 #[(.ref u)] h0 (fun v h => ∃ q : Int32, q.toInt = ((p + 10 : Nat) : Int) ∧ v = some (.long vv) ∧ Keep h0 h [u] ∧ Fld Z h u "mandate/Unpacker" "bytes" "[B" (.ref a) ∧ Fld Z h u "mandate/Unpacker" "position" "I" (.int q) ∧ Fld Z h u "mandate/Unpacker" "end" "I" (.int ee)) := by
  refine Ctr.of #[.val (.ref u), .unset, .unset, .unset, .unset] (plainFor_of_name pn_1) Z0 (fun m => by first | (simp [entryFrame, mkF, argsToLocals, Value.category]; done) | rfl) ?_
  intro C H
  refine k_lconst (0 : Int64) (pc := 0) H d8_0 rfl ?_
  refine k_lstoreN (pc := 1) H d8_1 (Ls' := #[.val (.ref u), .val (.long (0 : Int64)), .second, .unset, .unset]) rfl ?_
  refine k_iconst (0 : Int32) (pc := 2) H d8_2 rfl ?_
  refine k_istoreN (pc := 3) H d8_3 (Ls' := #[.val (.ref u), .val (.long (0 : Int64)), .second, .val (.int (0 : Int32)), .unset]) rfl ?_
  refine k_aloadN (pc := 4) H d8_4 rfl rfl ?_
  refine k_getfield (pc := 5) H (wd hw 40 rfl) F1 d8_5 ?_
  refine k_aloadN (pc := 8) H d8_8 rfl rfl ?_
  refine k_getfield (pc := 9) H (wd hw 42 rfl) F2 d8_9 ?_
  refine k_icmpT 25 (pc := 12) H d8_12 rfl (XT.ii_ne_t (fun z => absurd ((eq_nat hp he).mp z) (by omega))) ?_
  refine k_aloadN (pc := 25) H d8_25 rfl rfl ?_
  refine k_getfield (pc := 26) H (wd hw 38 rfl) F0 d8_26 ?_
  refine k_aloadN (pc := 29) H d8_29 rfl rfl ?_
  refine k_dup (pc := 30) H d8_30 rfl ?_
  refine k_getfield (pc := 31) H (wd hw 40 rfl) F1 d8_31 ?_
  refine k_dupX1 (pc := 34) H d8_34 rfl rfl ?_
  refine k_iconst (1 : Int32) (pc := 35) H d8_35 rfl ?_
  refine k_iadd (pc := 36) H d8_36 ?_
  refine k_putfield .int (pc := 37) H (wd hw 40 rfl) F1 X (Or.inl (wd hw 41 rfl)) (wd hw 20 rfl) (by decide) rfl rfl ge d8_37 ?_
  intro h78 Wr79 f80
  have KW81 : Keep h0 h78 [u] := (Keep.refl h0 [u]).wr Wr79 (Or.inl (List.mem_of_getElem? (i := 0) rfl))
  have f82 : Exa Z h78 u "mandate/Unpacker" := Jvm.RoadKit.Exa.wr Wr79 X
  have f83 : Fld Z h78 u "mandate/Unpacker" "bytes" "[B" (.ref a) := Jvm.RoadKit.Fld.other Wr79 F0 (Or.inr (slot_ne (t := (.array .byte)) (t' := .int) (Or.inl (wd hw 39 rfl)) (Or.inl (wd hw 41 rfl)) (by decide) (by decide) (by decide)))
  have f84 : Fld Z h78 u "mandate/Unpacker" "end" "I" (.int ee) := Jvm.RoadKit.Fld.other Wr79 F2 (Or.inr (slot_ne (t := .int) (t' := .int) (Or.inl (wd hw 43 rfl)) (Or.inl (wd hw 41 rfl)) (by decide) (by decide) (by decide)))
  have f85 : BA Z h78 a xs := V.other Wr79 (Ne.symm nua)
  refine k_baloadT (i := p) (x := (tenB vv 0)) (pc := 40) H f85 (hp) (T 0 (by decide)) d8_40 ?_
  refine k_istore (pc := 41) H d8_41 (Ls' := #[.val (.ref u), .val (.long (0 : Int64)), .second, .val (.int (0 : Int32)), .val (.int (tenB vv 0).toInt32)]) rfl ?_
  refine k_lloadN (pc := 43) H d8_43 rfl ?_
  refine k_iload (pc := 44) H d8_44 rfl ?_
  refine k_bipush (127 : Int32) (pc := 46) H d8_46 rfl ?_
  refine k_iand (pc := 48) H d8_48 ?_
  refine k_i2l (pc := 49) H d8_49 ?_
  refine k_iloadN (pc := 50) H d8_50 rfl ?_
  refine k_lshl (pc := 51) H d8_51 ?_
  refine k_lor (pc := 52) H d8_52 ?_
  refine k_lstoreN (pc := 53) H d8_53 (Ls' := #[.val (.ref u), .val (.long ((0 : Int64) ||| (((tenB vv 0).toInt32 &&& (127 : Int32)).toInt64 <<< ((0 : Int32).toInt64 &&& 63)))), .second, .val (.int (0 : Int32)), .val (.int (tenB vv 0).toInt32)]) rfl ?_
  refine k_iload (pc := 54) H d8_54 rfl ?_
  have hp1 : (pp + (1 : Int32)).toInt = ((p + 1 : Nat) : Int) := add_nat (i := p + 0) (y := 1) (j := 1) hp rfl (by omega)
  refine k_ifT 61 (pc := 56) H d8_56 rfl (XT.i0_lt_t (own_lt vv (by decide))) ?_
  refine k_iinc (7 : Int32) (pc := 61) H d8_61 rfl rfl (Ls' := #[.val (.ref u), .val (.long ((0 : Int64) ||| (((tenB vv 0).toInt32 &&& (127 : Int32)).toInt64 <<< ((0 : Int32).toInt64 &&& 63)))), .second, .val (.int ((0 : Int32) + (7 : Int32))), .val (.int (tenB vv 0).toInt32)]) rfl ?_
  rw [show ((0 : Int32) + (7 : Int32)) = (7 : Int32) from rfl]
  refine k_goto 4 (pc := 64) H d8_64 rfl ?_
  refine k_aloadN (pc := 4) H d8_4 rfl rfl ?_
  refine k_getfield (pc := 5) H (wd hw 40 rfl) f80 d8_5 ?_
  refine k_aloadN (pc := 8) H d8_8 rfl rfl ?_
  refine k_getfield (pc := 9) H (wd hw 42 rfl) f84 d8_9 ?_
  refine k_icmpT 25 (pc := 12) H d8_12 rfl (XT.ii_ne_t (fun z => absurd ((eq_nat hp1 he).mp z) (by omega))) ?_
  refine k_aloadN (pc := 25) H d8_25 rfl rfl ?_
  refine k_getfield (pc := 26) H (wd hw 38 rfl) f83 d8_26 ?_
  refine k_aloadN (pc := 29) H d8_29 rfl rfl ?_
  refine k_dup (pc := 30) H d8_30 rfl ?_
  refine k_getfield (pc := 31) H (wd hw 40 rfl) f80 d8_31 ?_
  refine k_dupX1 (pc := 34) H d8_34 rfl rfl ?_
  refine k_iconst (1 : Int32) (pc := 35) H d8_35 rfl ?_
  refine k_iadd (pc := 36) H d8_36 ?_
  refine k_putfield .int (pc := 37) H (wd hw 40 rfl) f80 f82 (Or.inl (wd hw 41 rfl)) (wd hw 20 rfl) (by decide) rfl rfl ge d8_37 ?_
  intro h86 Wr87 f88
  have KW89 : Keep h0 h86 [u] := KW81.wr Wr87 (Or.inl (List.mem_of_getElem? (i := 0) rfl))
  have f90 : Exa Z h86 u "mandate/Unpacker" := Jvm.RoadKit.Exa.wr Wr87 f82
  have f91 : Fld Z h86 u "mandate/Unpacker" "bytes" "[B" (.ref a) := Jvm.RoadKit.Fld.other Wr87 f83 (Or.inr (slot_ne (t := (.array .byte)) (t' := .int) (Or.inl (wd hw 39 rfl)) (Or.inl (wd hw 41 rfl)) (by decide) (by decide) (by decide)))
  have f92 : Fld Z h86 u "mandate/Unpacker" "end" "I" (.int ee) := Jvm.RoadKit.Fld.other Wr87 f84 (Or.inr (slot_ne (t := .int) (t' := .int) (Or.inl (wd hw 43 rfl)) (Or.inl (wd hw 41 rfl)) (by decide) (by decide) (by decide)))
  have f93 : BA Z h86 a xs := f85.other Wr87 (Ne.symm nua)
  refine k_baloadT (i := (p + 1)) (x := (tenB vv 1)) (pc := 40) H f93 (hp1) (T 1 (by decide)) d8_40 ?_
  refine k_istore (pc := 41) H d8_41 (Ls' := #[.val (.ref u), .val (.long ((0 : Int64) ||| (((tenB vv 0).toInt32 &&& (127 : Int32)).toInt64 <<< ((0 : Int32).toInt64 &&& 63)))), .second, .val (.int (7 : Int32)), .val (.int (tenB vv 1).toInt32)]) rfl ?_
  refine k_lloadN (pc := 43) H d8_43 rfl ?_
  refine k_iload (pc := 44) H d8_44 rfl ?_
  refine k_bipush (127 : Int32) (pc := 46) H d8_46 rfl ?_
  refine k_iand (pc := 48) H d8_48 ?_
  refine k_i2l (pc := 49) H d8_49 ?_
  refine k_iloadN (pc := 50) H d8_50 rfl ?_
  refine k_lshl (pc := 51) H d8_51 ?_
  refine k_lor (pc := 52) H d8_52 ?_
  refine k_lstoreN (pc := 53) H d8_53 (Ls' := #[.val (.ref u), .val (.long (((0 : Int64) ||| (((tenB vv 0).toInt32 &&& (127 : Int32)).toInt64 <<< ((0 : Int32).toInt64 &&& 63))) ||| (((tenB vv 1).toInt32 &&& (127 : Int32)).toInt64 <<< ((7 : Int32).toInt64 &&& 63)))), .second, .val (.int (7 : Int32)), .val (.int (tenB vv 1).toInt32)]) rfl ?_
  refine k_iload (pc := 54) H d8_54 rfl ?_
  have hp2 : ((pp + (1 : Int32)) + (1 : Int32)).toInt = ((p + 2 : Nat) : Int) := add_nat (i := p + 1) (y := 1) (j := 1) hp1 rfl (by omega)
  refine k_ifT 61 (pc := 56) H d8_56 rfl (XT.i0_lt_t (own_lt vv (by decide))) ?_
  refine k_iinc (7 : Int32) (pc := 61) H d8_61 rfl rfl (Ls' := #[.val (.ref u), .val (.long (((0 : Int64) ||| (((tenB vv 0).toInt32 &&& (127 : Int32)).toInt64 <<< ((0 : Int32).toInt64 &&& 63))) ||| (((tenB vv 1).toInt32 &&& (127 : Int32)).toInt64 <<< ((7 : Int32).toInt64 &&& 63)))), .second, .val (.int ((7 : Int32) + (7 : Int32))), .val (.int (tenB vv 1).toInt32)]) rfl ?_
  rw [show ((7 : Int32) + (7 : Int32)) = (14 : Int32) from rfl]
  refine k_goto 4 (pc := 64) H d8_64 rfl ?_
  refine k_aloadN (pc := 4) H d8_4 rfl rfl ?_
  refine k_getfield (pc := 5) H (wd hw 40 rfl) f88 d8_5 ?_
  refine k_aloadN (pc := 8) H d8_8 rfl rfl ?_
  refine k_getfield (pc := 9) H (wd hw 42 rfl) f92 d8_9 ?_
  refine k_icmpT 25 (pc := 12) H d8_12 rfl (XT.ii_ne_t (fun z => absurd ((eq_nat hp2 he).mp z) (by omega))) ?_
  refine k_aloadN (pc := 25) H d8_25 rfl rfl ?_
  refine k_getfield (pc := 26) H (wd hw 38 rfl) f91 d8_26 ?_
  refine k_aloadN (pc := 29) H d8_29 rfl rfl ?_
  refine k_dup (pc := 30) H d8_30 rfl ?_
  refine k_getfield (pc := 31) H (wd hw 40 rfl) f88 d8_31 ?_
  refine k_dupX1 (pc := 34) H d8_34 rfl rfl ?_
  refine k_iconst (1 : Int32) (pc := 35) H d8_35 rfl ?_
  refine k_iadd (pc := 36) H d8_36 ?_
  refine k_putfield .int (pc := 37) H (wd hw 40 rfl) f88 f90 (Or.inl (wd hw 41 rfl)) (wd hw 20 rfl) (by decide) rfl rfl ge d8_37 ?_
  intro h94 Wr95 f96
  have KW97 : Keep h0 h94 [u] := KW89.wr Wr95 (Or.inl (List.mem_of_getElem? (i := 0) rfl))
  have f98 : Exa Z h94 u "mandate/Unpacker" := Jvm.RoadKit.Exa.wr Wr95 f90
  have f99 : Fld Z h94 u "mandate/Unpacker" "bytes" "[B" (.ref a) := Jvm.RoadKit.Fld.other Wr95 f91 (Or.inr (slot_ne (t := (.array .byte)) (t' := .int) (Or.inl (wd hw 39 rfl)) (Or.inl (wd hw 41 rfl)) (by decide) (by decide) (by decide)))
  have f100 : Fld Z h94 u "mandate/Unpacker" "end" "I" (.int ee) := Jvm.RoadKit.Fld.other Wr95 f92 (Or.inr (slot_ne (t := .int) (t' := .int) (Or.inl (wd hw 43 rfl)) (Or.inl (wd hw 41 rfl)) (by decide) (by decide) (by decide)))
  have f101 : BA Z h94 a xs := f93.other Wr95 (Ne.symm nua)
  refine k_baloadT (i := (p + 2)) (x := (tenB vv 2)) (pc := 40) H f101 (hp2) (T 2 (by decide)) d8_40 ?_
  refine k_istore (pc := 41) H d8_41 (Ls' := #[.val (.ref u), .val (.long (((0 : Int64) ||| (((tenB vv 0).toInt32 &&& (127 : Int32)).toInt64 <<< ((0 : Int32).toInt64 &&& 63))) ||| (((tenB vv 1).toInt32 &&& (127 : Int32)).toInt64 <<< ((7 : Int32).toInt64 &&& 63)))), .second, .val (.int (14 : Int32)), .val (.int (tenB vv 2).toInt32)]) rfl ?_
  refine k_lloadN (pc := 43) H d8_43 rfl ?_
  refine k_iload (pc := 44) H d8_44 rfl ?_
  refine k_bipush (127 : Int32) (pc := 46) H d8_46 rfl ?_
  refine k_iand (pc := 48) H d8_48 ?_
  refine k_i2l (pc := 49) H d8_49 ?_
  refine k_iloadN (pc := 50) H d8_50 rfl ?_
  refine k_lshl (pc := 51) H d8_51 ?_
  refine k_lor (pc := 52) H d8_52 ?_
  refine k_lstoreN (pc := 53) H d8_53 (Ls' := #[.val (.ref u), .val (.long ((((0 : Int64) ||| (((tenB vv 0).toInt32 &&& (127 : Int32)).toInt64 <<< ((0 : Int32).toInt64 &&& 63))) ||| (((tenB vv 1).toInt32 &&& (127 : Int32)).toInt64 <<< ((7 : Int32).toInt64 &&& 63))) ||| (((tenB vv 2).toInt32 &&& (127 : Int32)).toInt64 <<< ((14 : Int32).toInt64 &&& 63)))), .second, .val (.int (14 : Int32)), .val (.int (tenB vv 2).toInt32)]) rfl ?_
  refine k_iload (pc := 54) H d8_54 rfl ?_
  have hp3 : (((pp + (1 : Int32)) + (1 : Int32)) + (1 : Int32)).toInt = ((p + 3 : Nat) : Int) := add_nat (i := p + 2) (y := 1) (j := 1) hp2 rfl (by omega)
  refine k_ifT 61 (pc := 56) H d8_56 rfl (XT.i0_lt_t (own_lt vv (by decide))) ?_
  refine k_iinc (7 : Int32) (pc := 61) H d8_61 rfl rfl (Ls' := #[.val (.ref u), .val (.long ((((0 : Int64) ||| (((tenB vv 0).toInt32 &&& (127 : Int32)).toInt64 <<< ((0 : Int32).toInt64 &&& 63))) ||| (((tenB vv 1).toInt32 &&& (127 : Int32)).toInt64 <<< ((7 : Int32).toInt64 &&& 63))) ||| (((tenB vv 2).toInt32 &&& (127 : Int32)).toInt64 <<< ((14 : Int32).toInt64 &&& 63)))), .second, .val (.int ((14 : Int32) + (7 : Int32))), .val (.int (tenB vv 2).toInt32)]) rfl ?_
  rw [show ((14 : Int32) + (7 : Int32)) = (21 : Int32) from rfl]
  refine k_goto 4 (pc := 64) H d8_64 rfl ?_
  refine k_aloadN (pc := 4) H d8_4 rfl rfl ?_
  refine k_getfield (pc := 5) H (wd hw 40 rfl) f96 d8_5 ?_
  refine k_aloadN (pc := 8) H d8_8 rfl rfl ?_
  refine k_getfield (pc := 9) H (wd hw 42 rfl) f100 d8_9 ?_
  refine k_icmpT 25 (pc := 12) H d8_12 rfl (XT.ii_ne_t (fun z => absurd ((eq_nat hp3 he).mp z) (by omega))) ?_
  refine k_aloadN (pc := 25) H d8_25 rfl rfl ?_
  refine k_getfield (pc := 26) H (wd hw 38 rfl) f99 d8_26 ?_
  refine k_aloadN (pc := 29) H d8_29 rfl rfl ?_
  refine k_dup (pc := 30) H d8_30 rfl ?_
  refine k_getfield (pc := 31) H (wd hw 40 rfl) f96 d8_31 ?_
  refine k_dupX1 (pc := 34) H d8_34 rfl rfl ?_
  refine k_iconst (1 : Int32) (pc := 35) H d8_35 rfl ?_
  refine k_iadd (pc := 36) H d8_36 ?_
  refine k_putfield .int (pc := 37) H (wd hw 40 rfl) f96 f98 (Or.inl (wd hw 41 rfl)) (wd hw 20 rfl) (by decide) rfl rfl ge d8_37 ?_
  intro h102 Wr103 f104
  have KW105 : Keep h0 h102 [u] := KW97.wr Wr103 (Or.inl (List.mem_of_getElem? (i := 0) rfl))
  have f106 : Exa Z h102 u "mandate/Unpacker" := Jvm.RoadKit.Exa.wr Wr103 f98
  have f107 : Fld Z h102 u "mandate/Unpacker" "bytes" "[B" (.ref a) := Jvm.RoadKit.Fld.other Wr103 f99 (Or.inr (slot_ne (t := (.array .byte)) (t' := .int) (Or.inl (wd hw 39 rfl)) (Or.inl (wd hw 41 rfl)) (by decide) (by decide) (by decide)))
  have f108 : Fld Z h102 u "mandate/Unpacker" "end" "I" (.int ee) := Jvm.RoadKit.Fld.other Wr103 f100 (Or.inr (slot_ne (t := .int) (t' := .int) (Or.inl (wd hw 43 rfl)) (Or.inl (wd hw 41 rfl)) (by decide) (by decide) (by decide)))
  have f109 : BA Z h102 a xs := f101.other Wr103 (Ne.symm nua)
  refine k_baloadT (i := (p + 3)) (x := (tenB vv 3)) (pc := 40) H f109 (hp3) (T 3 (by decide)) d8_40 ?_
  refine k_istore (pc := 41) H d8_41 (Ls' := #[.val (.ref u), .val (.long ((((0 : Int64) ||| (((tenB vv 0).toInt32 &&& (127 : Int32)).toInt64 <<< ((0 : Int32).toInt64 &&& 63))) ||| (((tenB vv 1).toInt32 &&& (127 : Int32)).toInt64 <<< ((7 : Int32).toInt64 &&& 63))) ||| (((tenB vv 2).toInt32 &&& (127 : Int32)).toInt64 <<< ((14 : Int32).toInt64 &&& 63)))), .second, .val (.int (21 : Int32)), .val (.int (tenB vv 3).toInt32)]) rfl ?_
  refine k_lloadN (pc := 43) H d8_43 rfl ?_
  refine k_iload (pc := 44) H d8_44 rfl ?_
  refine k_bipush (127 : Int32) (pc := 46) H d8_46 rfl ?_
  refine k_iand (pc := 48) H d8_48 ?_
  refine k_i2l (pc := 49) H d8_49 ?_
  refine k_iloadN (pc := 50) H d8_50 rfl ?_
  refine k_lshl (pc := 51) H d8_51 ?_
  refine k_lor (pc := 52) H d8_52 ?_
  refine k_lstoreN (pc := 53) H d8_53 (Ls' := #[.val (.ref u), .val (.long (((((0 : Int64) ||| (((tenB vv 0).toInt32 &&& (127 : Int32)).toInt64 <<< ((0 : Int32).toInt64 &&& 63))) ||| (((tenB vv 1).toInt32 &&& (127 : Int32)).toInt64 <<< ((7 : Int32).toInt64 &&& 63))) ||| (((tenB vv 2).toInt32 &&& (127 : Int32)).toInt64 <<< ((14 : Int32).toInt64 &&& 63))) ||| (((tenB vv 3).toInt32 &&& (127 : Int32)).toInt64 <<< ((21 : Int32).toInt64 &&& 63)))), .second, .val (.int (21 : Int32)), .val (.int (tenB vv 3).toInt32)]) rfl ?_
  refine k_iload (pc := 54) H d8_54 rfl ?_
  have hp4 : ((((pp + (1 : Int32)) + (1 : Int32)) + (1 : Int32)) + (1 : Int32)).toInt = ((p + 4 : Nat) : Int) := add_nat (i := p + 3) (y := 1) (j := 1) hp3 rfl (by omega)
  refine k_ifT 61 (pc := 56) H d8_56 rfl (XT.i0_lt_t (own_lt vv (by decide))) ?_
  refine k_iinc (7 : Int32) (pc := 61) H d8_61 rfl rfl (Ls' := #[.val (.ref u), .val (.long (((((0 : Int64) ||| (((tenB vv 0).toInt32 &&& (127 : Int32)).toInt64 <<< ((0 : Int32).toInt64 &&& 63))) ||| (((tenB vv 1).toInt32 &&& (127 : Int32)).toInt64 <<< ((7 : Int32).toInt64 &&& 63))) ||| (((tenB vv 2).toInt32 &&& (127 : Int32)).toInt64 <<< ((14 : Int32).toInt64 &&& 63))) ||| (((tenB vv 3).toInt32 &&& (127 : Int32)).toInt64 <<< ((21 : Int32).toInt64 &&& 63)))), .second, .val (.int ((21 : Int32) + (7 : Int32))), .val (.int (tenB vv 3).toInt32)]) rfl ?_
  rw [show ((21 : Int32) + (7 : Int32)) = (28 : Int32) from rfl]
  refine k_goto 4 (pc := 64) H d8_64 rfl ?_
  refine k_aloadN (pc := 4) H d8_4 rfl rfl ?_
  refine k_getfield (pc := 5) H (wd hw 40 rfl) f104 d8_5 ?_
  refine k_aloadN (pc := 8) H d8_8 rfl rfl ?_
  refine k_getfield (pc := 9) H (wd hw 42 rfl) f108 d8_9 ?_
  refine k_icmpT 25 (pc := 12) H d8_12 rfl (XT.ii_ne_t (fun z => absurd ((eq_nat hp4 he).mp z) (by omega))) ?_
  refine k_aloadN (pc := 25) H d8_25 rfl rfl ?_
  refine k_getfield (pc := 26) H (wd hw 38 rfl) f107 d8_26 ?_
  refine k_aloadN (pc := 29) H d8_29 rfl rfl ?_
  refine k_dup (pc := 30) H d8_30 rfl ?_
  refine k_getfield (pc := 31) H (wd hw 40 rfl) f104 d8_31 ?_
  refine k_dupX1 (pc := 34) H d8_34 rfl rfl ?_
  refine k_iconst (1 : Int32) (pc := 35) H d8_35 rfl ?_
  refine k_iadd (pc := 36) H d8_36 ?_
  refine k_putfield .int (pc := 37) H (wd hw 40 rfl) f104 f106 (Or.inl (wd hw 41 rfl)) (wd hw 20 rfl) (by decide) rfl rfl ge d8_37 ?_
  intro h110 Wr111 f112
  have KW113 : Keep h0 h110 [u] := KW105.wr Wr111 (Or.inl (List.mem_of_getElem? (i := 0) rfl))
  have f114 : Exa Z h110 u "mandate/Unpacker" := Jvm.RoadKit.Exa.wr Wr111 f106
  have f115 : Fld Z h110 u "mandate/Unpacker" "bytes" "[B" (.ref a) := Jvm.RoadKit.Fld.other Wr111 f107 (Or.inr (slot_ne (t := (.array .byte)) (t' := .int) (Or.inl (wd hw 39 rfl)) (Or.inl (wd hw 41 rfl)) (by decide) (by decide) (by decide)))
  have f116 : Fld Z h110 u "mandate/Unpacker" "end" "I" (.int ee) := Jvm.RoadKit.Fld.other Wr111 f108 (Or.inr (slot_ne (t := .int) (t' := .int) (Or.inl (wd hw 43 rfl)) (Or.inl (wd hw 41 rfl)) (by decide) (by decide) (by decide)))
  have f117 : BA Z h110 a xs := f109.other Wr111 (Ne.symm nua)
  refine k_baloadT (i := (p + 4)) (x := (tenB vv 4)) (pc := 40) H f117 (hp4) (T 4 (by decide)) d8_40 ?_
  refine k_istore (pc := 41) H d8_41 (Ls' := #[.val (.ref u), .val (.long (((((0 : Int64) ||| (((tenB vv 0).toInt32 &&& (127 : Int32)).toInt64 <<< ((0 : Int32).toInt64 &&& 63))) ||| (((tenB vv 1).toInt32 &&& (127 : Int32)).toInt64 <<< ((7 : Int32).toInt64 &&& 63))) ||| (((tenB vv 2).toInt32 &&& (127 : Int32)).toInt64 <<< ((14 : Int32).toInt64 &&& 63))) ||| (((tenB vv 3).toInt32 &&& (127 : Int32)).toInt64 <<< ((21 : Int32).toInt64 &&& 63)))), .second, .val (.int (28 : Int32)), .val (.int (tenB vv 4).toInt32)]) rfl ?_
  refine k_lloadN (pc := 43) H d8_43 rfl ?_
  refine k_iload (pc := 44) H d8_44 rfl ?_
  refine k_bipush (127 : Int32) (pc := 46) H d8_46 rfl ?_
  refine k_iand (pc := 48) H d8_48 ?_
  refine k_i2l (pc := 49) H d8_49 ?_
  refine k_iloadN (pc := 50) H d8_50 rfl ?_
  refine k_lshl (pc := 51) H d8_51 ?_
  refine k_lor (pc := 52) H d8_52 ?_
  refine k_lstoreN (pc := 53) H d8_53 (Ls' := #[.val (.ref u), .val (.long ((((((0 : Int64) ||| (((tenB vv 0).toInt32 &&& (127 : Int32)).toInt64 <<< ((0 : Int32).toInt64 &&& 63))) ||| (((tenB vv 1).toInt32 &&& (127 : Int32)).toInt64 <<< ((7 : Int32).toInt64 &&& 63))) ||| (((tenB vv 2).toInt32 &&& (127 : Int32)).toInt64 <<< ((14 : Int32).toInt64 &&& 63))) ||| (((tenB vv 3).toInt32 &&& (127 : Int32)).toInt64 <<< ((21 : Int32).toInt64 &&& 63))) ||| (((tenB vv 4).toInt32 &&& (127 : Int32)).toInt64 <<< ((28 : Int32).toInt64 &&& 63)))), .second, .val (.int (28 : Int32)), .val (.int (tenB vv 4).toInt32)]) rfl ?_
  refine k_iload (pc := 54) H d8_54 rfl ?_
  have hp5 : (((((pp + (1 : Int32)) + (1 : Int32)) + (1 : Int32)) + (1 : Int32)) + (1 : Int32)).toInt = ((p + 5 : Nat) : Int) := add_nat (i := p + 4) (y := 1) (j := 1) hp4 rfl (by omega)
  refine k_ifT 61 (pc := 56) H d8_56 rfl (XT.i0_lt_t (own_lt vv (by decide))) ?_
  refine k_iinc (7 : Int32) (pc := 61) H d8_61 rfl rfl (Ls' := #[.val (.ref u), .val (.long ((((((0 : Int64) ||| (((tenB vv 0).toInt32 &&& (127 : Int32)).toInt64 <<< ((0 : Int32).toInt64 &&& 63))) ||| (((tenB vv 1).toInt32 &&& (127 : Int32)).toInt64 <<< ((7 : Int32).toInt64 &&& 63))) ||| (((tenB vv 2).toInt32 &&& (127 : Int32)).toInt64 <<< ((14 : Int32).toInt64 &&& 63))) ||| (((tenB vv 3).toInt32 &&& (127 : Int32)).toInt64 <<< ((21 : Int32).toInt64 &&& 63))) ||| (((tenB vv 4).toInt32 &&& (127 : Int32)).toInt64 <<< ((28 : Int32).toInt64 &&& 63)))), .second, .val (.int ((28 : Int32) + (7 : Int32))), .val (.int (tenB vv 4).toInt32)]) rfl ?_
  rw [show ((28 : Int32) + (7 : Int32)) = (35 : Int32) from rfl]
  refine k_goto 4 (pc := 64) H d8_64 rfl ?_
  refine k_aloadN (pc := 4) H d8_4 rfl rfl ?_
  refine k_getfield (pc := 5) H (wd hw 40 rfl) f112 d8_5 ?_
  refine k_aloadN (pc := 8) H d8_8 rfl rfl ?_
  refine k_getfield (pc := 9) H (wd hw 42 rfl) f116 d8_9 ?_
  refine k_icmpT 25 (pc := 12) H d8_12 rfl (XT.ii_ne_t (fun z => absurd ((eq_nat hp5 he).mp z) (by omega))) ?_
  refine k_aloadN (pc := 25) H d8_25 rfl rfl ?_
  refine k_getfield (pc := 26) H (wd hw 38 rfl) f115 d8_26 ?_
  refine k_aloadN (pc := 29) H d8_29 rfl rfl ?_
  refine k_dup (pc := 30) H d8_30 rfl ?_
  refine k_getfield (pc := 31) H (wd hw 40 rfl) f112 d8_31 ?_
  refine k_dupX1 (pc := 34) H d8_34 rfl rfl ?_
  refine k_iconst (1 : Int32) (pc := 35) H d8_35 rfl ?_
  refine k_iadd (pc := 36) H d8_36 ?_
  refine k_putfield .int (pc := 37) H (wd hw 40 rfl) f112 f114 (Or.inl (wd hw 41 rfl)) (wd hw 20 rfl) (by decide) rfl rfl ge d8_37 ?_
  intro h118 Wr119 f120
  have KW121 : Keep h0 h118 [u] := KW113.wr Wr119 (Or.inl (List.mem_of_getElem? (i := 0) rfl))
  have f122 : Exa Z h118 u "mandate/Unpacker" := Jvm.RoadKit.Exa.wr Wr119 f114
  have f123 : Fld Z h118 u "mandate/Unpacker" "bytes" "[B" (.ref a) := Jvm.RoadKit.Fld.other Wr119 f115 (Or.inr (slot_ne (t := (.array .byte)) (t' := .int) (Or.inl (wd hw 39 rfl)) (Or.inl (wd hw 41 rfl)) (by decide) (by decide) (by decide)))
  have f124 : Fld Z h118 u "mandate/Unpacker" "end" "I" (.int ee) := Jvm.RoadKit.Fld.other Wr119 f116 (Or.inr (slot_ne (t := .int) (t' := .int) (Or.inl (wd hw 43 rfl)) (Or.inl (wd hw 41 rfl)) (by decide) (by decide) (by decide)))
  have f125 : BA Z h118 a xs := f117.other Wr119 (Ne.symm nua)
  refine k_baloadT (i := (p + 5)) (x := (tenB vv 5)) (pc := 40) H f125 (hp5) (T 5 (by decide)) d8_40 ?_
  refine k_istore (pc := 41) H d8_41 (Ls' := #[.val (.ref u), .val (.long ((((((0 : Int64) ||| (((tenB vv 0).toInt32 &&& (127 : Int32)).toInt64 <<< ((0 : Int32).toInt64 &&& 63))) ||| (((tenB vv 1).toInt32 &&& (127 : Int32)).toInt64 <<< ((7 : Int32).toInt64 &&& 63))) ||| (((tenB vv 2).toInt32 &&& (127 : Int32)).toInt64 <<< ((14 : Int32).toInt64 &&& 63))) ||| (((tenB vv 3).toInt32 &&& (127 : Int32)).toInt64 <<< ((21 : Int32).toInt64 &&& 63))) ||| (((tenB vv 4).toInt32 &&& (127 : Int32)).toInt64 <<< ((28 : Int32).toInt64 &&& 63)))), .second, .val (.int (35 : Int32)), .val (.int (tenB vv 5).toInt32)]) rfl ?_
  refine k_lloadN (pc := 43) H d8_43 rfl ?_
  refine k_iload (pc := 44) H d8_44 rfl ?_
  refine k_bipush (127 : Int32) (pc := 46) H d8_46 rfl ?_
  refine k_iand (pc := 48) H d8_48 ?_
  refine k_i2l (pc := 49) H d8_49 ?_
  refine k_iloadN (pc := 50) H d8_50 rfl ?_
  refine k_lshl (pc := 51) H d8_51 ?_
  refine k_lor (pc := 52) H d8_52 ?_
  refine k_lstoreN (pc := 53) H d8_53 (Ls' := #[.val (.ref u), .val (.long (((((((0 : Int64) ||| (((tenB vv 0).toInt32 &&& (127 : Int32)).toInt64 <<< ((0 : Int32).toInt64 &&& 63))) ||| (((tenB vv 1).toInt32 &&& (127 : Int32)).toInt64 <<< ((7 : Int32).toInt64 &&& 63))) ||| (((tenB vv 2).toInt32 &&& (127 : Int32)).toInt64 <<< ((14 : Int32).toInt64 &&& 63))) ||| (((tenB vv 3).toInt32 &&& (127 : Int32)).toInt64 <<< ((21 : Int32).toInt64 &&& 63))) ||| (((tenB vv 4).toInt32 &&& (127 : Int32)).toInt64 <<< ((28 : Int32).toInt64 &&& 63))) ||| (((tenB vv 5).toInt32 &&& (127 : Int32)).toInt64 <<< ((35 : Int32).toInt64 &&& 63)))), .second, .val (.int (35 : Int32)), .val (.int (tenB vv 5).toInt32)]) rfl ?_
  refine k_iload (pc := 54) H d8_54 rfl ?_
  have hp6 : ((((((pp + (1 : Int32)) + (1 : Int32)) + (1 : Int32)) + (1 : Int32)) + (1 : Int32)) + (1 : Int32)).toInt = ((p + 6 : Nat) : Int) := add_nat (i := p + 5) (y := 1) (j := 1) hp5 rfl (by omega)
  refine k_ifT 61 (pc := 56) H d8_56 rfl (XT.i0_lt_t (own_lt vv (by decide))) ?_
  refine k_iinc (7 : Int32) (pc := 61) H d8_61 rfl rfl (Ls' := #[.val (.ref u), .val (.long (((((((0 : Int64) ||| (((tenB vv 0).toInt32 &&& (127 : Int32)).toInt64 <<< ((0 : Int32).toInt64 &&& 63))) ||| (((tenB vv 1).toInt32 &&& (127 : Int32)).toInt64 <<< ((7 : Int32).toInt64 &&& 63))) ||| (((tenB vv 2).toInt32 &&& (127 : Int32)).toInt64 <<< ((14 : Int32).toInt64 &&& 63))) ||| (((tenB vv 3).toInt32 &&& (127 : Int32)).toInt64 <<< ((21 : Int32).toInt64 &&& 63))) ||| (((tenB vv 4).toInt32 &&& (127 : Int32)).toInt64 <<< ((28 : Int32).toInt64 &&& 63))) ||| (((tenB vv 5).toInt32 &&& (127 : Int32)).toInt64 <<< ((35 : Int32).toInt64 &&& 63)))), .second, .val (.int ((35 : Int32) + (7 : Int32))), .val (.int (tenB vv 5).toInt32)]) rfl ?_
  rw [show ((35 : Int32) + (7 : Int32)) = (42 : Int32) from rfl]
  refine k_goto 4 (pc := 64) H d8_64 rfl ?_
  refine k_aloadN (pc := 4) H d8_4 rfl rfl ?_
  refine k_getfield (pc := 5) H (wd hw 40 rfl) f120 d8_5 ?_
  refine k_aloadN (pc := 8) H d8_8 rfl rfl ?_
  refine k_getfield (pc := 9) H (wd hw 42 rfl) f124 d8_9 ?_
  refine k_icmpT 25 (pc := 12) H d8_12 rfl (XT.ii_ne_t (fun z => absurd ((eq_nat hp6 he).mp z) (by omega))) ?_
  refine k_aloadN (pc := 25) H d8_25 rfl rfl ?_
  refine k_getfield (pc := 26) H (wd hw 38 rfl) f123 d8_26 ?_
  refine k_aloadN (pc := 29) H d8_29 rfl rfl ?_
  refine k_dup (pc := 30) H d8_30 rfl ?_
  refine k_getfield (pc := 31) H (wd hw 40 rfl) f120 d8_31 ?_
  refine k_dupX1 (pc := 34) H d8_34 rfl rfl ?_
  refine k_iconst (1 : Int32) (pc := 35) H d8_35 rfl ?_
  refine k_iadd (pc := 36) H d8_36 ?_
  refine k_putfield .int (pc := 37) H (wd hw 40 rfl) f120 f122 (Or.inl (wd hw 41 rfl)) (wd hw 20 rfl) (by decide) rfl rfl ge d8_37 ?_
  intro h126 Wr127 f128
  have KW129 : Keep h0 h126 [u] := KW121.wr Wr127 (Or.inl (List.mem_of_getElem? (i := 0) rfl))
  have f130 : Exa Z h126 u "mandate/Unpacker" := Jvm.RoadKit.Exa.wr Wr127 f122
  have f131 : Fld Z h126 u "mandate/Unpacker" "bytes" "[B" (.ref a) := Jvm.RoadKit.Fld.other Wr127 f123 (Or.inr (slot_ne (t := (.array .byte)) (t' := .int) (Or.inl (wd hw 39 rfl)) (Or.inl (wd hw 41 rfl)) (by decide) (by decide) (by decide)))
  have f132 : Fld Z h126 u "mandate/Unpacker" "end" "I" (.int ee) := Jvm.RoadKit.Fld.other Wr127 f124 (Or.inr (slot_ne (t := .int) (t' := .int) (Or.inl (wd hw 43 rfl)) (Or.inl (wd hw 41 rfl)) (by decide) (by decide) (by decide)))
  have f133 : BA Z h126 a xs := f125.other Wr127 (Ne.symm nua)
  refine k_baloadT (i := (p + 6)) (x := (tenB vv 6)) (pc := 40) H f133 (hp6) (T 6 (by decide)) d8_40 ?_
  refine k_istore (pc := 41) H d8_41 (Ls' := #[.val (.ref u), .val (.long (((((((0 : Int64) ||| (((tenB vv 0).toInt32 &&& (127 : Int32)).toInt64 <<< ((0 : Int32).toInt64 &&& 63))) ||| (((tenB vv 1).toInt32 &&& (127 : Int32)).toInt64 <<< ((7 : Int32).toInt64 &&& 63))) ||| (((tenB vv 2).toInt32 &&& (127 : Int32)).toInt64 <<< ((14 : Int32).toInt64 &&& 63))) ||| (((tenB vv 3).toInt32 &&& (127 : Int32)).toInt64 <<< ((21 : Int32).toInt64 &&& 63))) ||| (((tenB vv 4).toInt32 &&& (127 : Int32)).toInt64 <<< ((28 : Int32).toInt64 &&& 63))) ||| (((tenB vv 5).toInt32 &&& (127 : Int32)).toInt64 <<< ((35 : Int32).toInt64 &&& 63)))), .second, .val (.int (42 : Int32)), .val (.int (tenB vv 6).toInt32)]) rfl ?_
  refine k_lloadN (pc := 43) H d8_43 rfl ?_
  refine k_iload (pc := 44) H d8_44 rfl ?_
  refine k_bipush (127 : Int32) (pc := 46) H d8_46 rfl ?_
  refine k_iand (pc := 48) H d8_48 ?_
  refine k_i2l (pc := 49) H d8_49 ?_
  refine k_iloadN (pc := 50) H d8_50 rfl ?_
  refine k_lshl (pc := 51) H d8_51 ?_
  refine k_lor (pc := 52) H d8_52 ?_
  refine k_lstoreN (pc := 53) H d8_53 (Ls' := #[.val (.ref u), .val (.long ((((((((0 : Int64) ||| (((tenB vv 0).toInt32 &&& (127 : Int32)).toInt64 <<< ((0 : Int32).toInt64 &&& 63))) ||| (((tenB vv 1).toInt32 &&& (127 : Int32)).toInt64 <<< ((7 : Int32).toInt64 &&& 63))) ||| (((tenB vv 2).toInt32 &&& (127 : Int32)).toInt64 <<< ((14 : Int32).toInt64 &&& 63))) ||| (((tenB vv 3).toInt32 &&& (127 : Int32)).toInt64 <<< ((21 : Int32).toInt64 &&& 63))) ||| (((tenB vv 4).toInt32 &&& (127 : Int32)).toInt64 <<< ((28 : Int32).toInt64 &&& 63))) ||| (((tenB vv 5).toInt32 &&& (127 : Int32)).toInt64 <<< ((35 : Int32).toInt64 &&& 63))) ||| (((tenB vv 6).toInt32 &&& (127 : Int32)).toInt64 <<< ((42 : Int32).toInt64 &&& 63)))), .second, .val (.int (42 : Int32)), .val (.int (tenB vv 6).toInt32)]) rfl ?_
  refine k_iload (pc := 54) H d8_54 rfl ?_
  have hp7 : (((((((pp + (1 : Int32)) + (1 : Int32)) + (1 : Int32)) + (1 : Int32)) + (1 : Int32)) + (1 : Int32)) + (1 : Int32)).toInt = ((p + 7 : Nat) : Int) := add_nat (i := p + 6) (y := 1) (j := 1) hp6 rfl (by omega)
  refine k_ifT 61 (pc := 56) H d8_56 rfl (XT.i0_lt_t (own_lt vv (by decide))) ?_
  refine k_iinc (7 : Int32) (pc := 61) H d8_61 rfl rfl (Ls' := #[.val (.ref u), .val (.long ((((((((0 : Int64) ||| (((tenB vv 0).toInt32 &&& (127 : Int32)).toInt64 <<< ((0 : Int32).toInt64 &&& 63))) ||| (((tenB vv 1).toInt32 &&& (127 : Int32)).toInt64 <<< ((7 : Int32).toInt64 &&& 63))) ||| (((tenB vv 2).toInt32 &&& (127 : Int32)).toInt64 <<< ((14 : Int32).toInt64 &&& 63))) ||| (((tenB vv 3).toInt32 &&& (127 : Int32)).toInt64 <<< ((21 : Int32).toInt64 &&& 63))) ||| (((tenB vv 4).toInt32 &&& (127 : Int32)).toInt64 <<< ((28 : Int32).toInt64 &&& 63))) ||| (((tenB vv 5).toInt32 &&& (127 : Int32)).toInt64 <<< ((35 : Int32).toInt64 &&& 63))) ||| (((tenB vv 6).toInt32 &&& (127 : Int32)).toInt64 <<< ((42 : Int32).toInt64 &&& 63)))), .second, .val (.int ((42 : Int32) + (7 : Int32))), .val (.int (tenB vv 6).toInt32)]) rfl ?_
  rw [show ((42 : Int32) + (7 : Int32)) = (49 : Int32) from rfl]
  refine k_goto 4 (pc := 64) H d8_64 rfl ?_
  refine k_aloadN (pc := 4) H d8_4 rfl rfl ?_
  refine k_getfield (pc := 5) H (wd hw 40 rfl) f128 d8_5 ?_
  refine k_aloadN (pc := 8) H d8_8 rfl rfl ?_
  refine k_getfield (pc := 9) H (wd hw 42 rfl) f132 d8_9 ?_
  refine k_icmpT 25 (pc := 12) H d8_12 rfl (XT.ii_ne_t (fun z => absurd ((eq_nat hp7 he).mp z) (by omega))) ?_
  refine k_aloadN (pc := 25) H d8_25 rfl rfl ?_
  refine k_getfield (pc := 26) H (wd hw 38 rfl) f131 d8_26 ?_
  refine k_aloadN (pc := 29) H d8_29 rfl rfl ?_
  refine k_dup (pc := 30) H d8_30 rfl ?_
  refine k_getfield (pc := 31) H (wd hw 40 rfl) f128 d8_31 ?_
  refine k_dupX1 (pc := 34) H d8_34 rfl rfl ?_
  refine k_iconst (1 : Int32) (pc := 35) H d8_35 rfl ?_
  refine k_iadd (pc := 36) H d8_36 ?_
  refine k_putfield .int (pc := 37) H (wd hw 40 rfl) f128 f130 (Or.inl (wd hw 41 rfl)) (wd hw 20 rfl) (by decide) rfl rfl ge d8_37 ?_
  intro h134 Wr135 f136
  have KW137 : Keep h0 h134 [u] := KW129.wr Wr135 (Or.inl (List.mem_of_getElem? (i := 0) rfl))
  have f138 : Exa Z h134 u "mandate/Unpacker" := Jvm.RoadKit.Exa.wr Wr135 f130
  have f139 : Fld Z h134 u "mandate/Unpacker" "bytes" "[B" (.ref a) := Jvm.RoadKit.Fld.other Wr135 f131 (Or.inr (slot_ne (t := (.array .byte)) (t' := .int) (Or.inl (wd hw 39 rfl)) (Or.inl (wd hw 41 rfl)) (by decide) (by decide) (by decide)))
  have f140 : Fld Z h134 u "mandate/Unpacker" "end" "I" (.int ee) := Jvm.RoadKit.Fld.other Wr135 f132 (Or.inr (slot_ne (t := .int) (t' := .int) (Or.inl (wd hw 43 rfl)) (Or.inl (wd hw 41 rfl)) (by decide) (by decide) (by decide)))
  have f141 : BA Z h134 a xs := f133.other Wr135 (Ne.symm nua)
  refine k_baloadT (i := (p + 7)) (x := (tenB vv 7)) (pc := 40) H f141 (hp7) (T 7 (by decide)) d8_40 ?_
  refine k_istore (pc := 41) H d8_41 (Ls' := #[.val (.ref u), .val (.long ((((((((0 : Int64) ||| (((tenB vv 0).toInt32 &&& (127 : Int32)).toInt64 <<< ((0 : Int32).toInt64 &&& 63))) ||| (((tenB vv 1).toInt32 &&& (127 : Int32)).toInt64 <<< ((7 : Int32).toInt64 &&& 63))) ||| (((tenB vv 2).toInt32 &&& (127 : Int32)).toInt64 <<< ((14 : Int32).toInt64 &&& 63))) ||| (((tenB vv 3).toInt32 &&& (127 : Int32)).toInt64 <<< ((21 : Int32).toInt64 &&& 63))) ||| (((tenB vv 4).toInt32 &&& (127 : Int32)).toInt64 <<< ((28 : Int32).toInt64 &&& 63))) ||| (((tenB vv 5).toInt32 &&& (127 : Int32)).toInt64 <<< ((35 : Int32).toInt64 &&& 63))) ||| (((tenB vv 6).toInt32 &&& (127 : Int32)).toInt64 <<< ((42 : Int32).toInt64 &&& 63)))), .second, .val (.int (49 : Int32)), .val (.int (tenB vv 7).toInt32)]) rfl ?_
  refine k_lloadN (pc := 43) H d8_43 rfl ?_
  refine k_iload (pc := 44) H d8_44 rfl ?_
  refine k_bipush (127 : Int32) (pc := 46) H d8_46 rfl ?_
  refine k_iand (pc := 48) H d8_48 ?_
  refine k_i2l (pc := 49) H d8_49 ?_
  refine k_iloadN (pc := 50) H d8_50 rfl ?_
  refine k_lshl (pc := 51) H d8_51 ?_
  refine k_lor (pc := 52) H d8_52 ?_
  refine k_lstoreN (pc := 53) H d8_53 (Ls' := #[.val (.ref u), .val (.long (((((((((0 : Int64) ||| (((tenB vv 0).toInt32 &&& (127 : Int32)).toInt64 <<< ((0 : Int32).toInt64 &&& 63))) ||| (((tenB vv 1).toInt32 &&& (127 : Int32)).toInt64 <<< ((7 : Int32).toInt64 &&& 63))) ||| (((tenB vv 2).toInt32 &&& (127 : Int32)).toInt64 <<< ((14 : Int32).toInt64 &&& 63))) ||| (((tenB vv 3).toInt32 &&& (127 : Int32)).toInt64 <<< ((21 : Int32).toInt64 &&& 63))) ||| (((tenB vv 4).toInt32 &&& (127 : Int32)).toInt64 <<< ((28 : Int32).toInt64 &&& 63))) ||| (((tenB vv 5).toInt32 &&& (127 : Int32)).toInt64 <<< ((35 : Int32).toInt64 &&& 63))) ||| (((tenB vv 6).toInt32 &&& (127 : Int32)).toInt64 <<< ((42 : Int32).toInt64 &&& 63))) ||| (((tenB vv 7).toInt32 &&& (127 : Int32)).toInt64 <<< ((49 : Int32).toInt64 &&& 63)))), .second, .val (.int (49 : Int32)), .val (.int (tenB vv 7).toInt32)]) rfl ?_
  refine k_iload (pc := 54) H d8_54 rfl ?_
  have hp8 : ((((((((pp + (1 : Int32)) + (1 : Int32)) + (1 : Int32)) + (1 : Int32)) + (1 : Int32)) + (1 : Int32)) + (1 : Int32)) + (1 : Int32)).toInt = ((p + 8 : Nat) : Int) := add_nat (i := p + 7) (y := 1) (j := 1) hp7 rfl (by omega)
  refine k_ifT 61 (pc := 56) H d8_56 rfl (XT.i0_lt_t (own_lt vv (by decide))) ?_
  refine k_iinc (7 : Int32) (pc := 61) H d8_61 rfl rfl (Ls' := #[.val (.ref u), .val (.long (((((((((0 : Int64) ||| (((tenB vv 0).toInt32 &&& (127 : Int32)).toInt64 <<< ((0 : Int32).toInt64 &&& 63))) ||| (((tenB vv 1).toInt32 &&& (127 : Int32)).toInt64 <<< ((7 : Int32).toInt64 &&& 63))) ||| (((tenB vv 2).toInt32 &&& (127 : Int32)).toInt64 <<< ((14 : Int32).toInt64 &&& 63))) ||| (((tenB vv 3).toInt32 &&& (127 : Int32)).toInt64 <<< ((21 : Int32).toInt64 &&& 63))) ||| (((tenB vv 4).toInt32 &&& (127 : Int32)).toInt64 <<< ((28 : Int32).toInt64 &&& 63))) ||| (((tenB vv 5).toInt32 &&& (127 : Int32)).toInt64 <<< ((35 : Int32).toInt64 &&& 63))) ||| (((tenB vv 6).toInt32 &&& (127 : Int32)).toInt64 <<< ((42 : Int32).toInt64 &&& 63))) ||| (((tenB vv 7).toInt32 &&& (127 : Int32)).toInt64 <<< ((49 : Int32).toInt64 &&& 63)))), .second, .val (.int ((49 : Int32) + (7 : Int32))), .val (.int (tenB vv 7).toInt32)]) rfl ?_
  rw [show ((49 : Int32) + (7 : Int32)) = (56 : Int32) from rfl]
  refine k_goto 4 (pc := 64) H d8_64 rfl ?_
  refine k_aloadN (pc := 4) H d8_4 rfl rfl ?_
  refine k_getfield (pc := 5) H (wd hw 40 rfl) f136 d8_5 ?_
  refine k_aloadN (pc := 8) H d8_8 rfl rfl ?_
  refine k_getfield (pc := 9) H (wd hw 42 rfl) f140 d8_9 ?_
  refine k_icmpT 25 (pc := 12) H d8_12 rfl (XT.ii_ne_t (fun z => absurd ((eq_nat hp8 he).mp z) (by omega))) ?_
  refine k_aloadN (pc := 25) H d8_25 rfl rfl ?_
  refine k_getfield (pc := 26) H (wd hw 38 rfl) f139 d8_26 ?_
  refine k_aloadN (pc := 29) H d8_29 rfl rfl ?_
  refine k_dup (pc := 30) H d8_30 rfl ?_
  refine k_getfield (pc := 31) H (wd hw 40 rfl) f136 d8_31 ?_
  refine k_dupX1 (pc := 34) H d8_34 rfl rfl ?_
  refine k_iconst (1 : Int32) (pc := 35) H d8_35 rfl ?_
  refine k_iadd (pc := 36) H d8_36 ?_
  refine k_putfield .int (pc := 37) H (wd hw 40 rfl) f136 f138 (Or.inl (wd hw 41 rfl)) (wd hw 20 rfl) (by decide) rfl rfl ge d8_37 ?_
  intro h142 Wr143 f144
  have KW145 : Keep h0 h142 [u] := KW137.wr Wr143 (Or.inl (List.mem_of_getElem? (i := 0) rfl))
  have f146 : Exa Z h142 u "mandate/Unpacker" := Jvm.RoadKit.Exa.wr Wr143 f138
  have f147 : Fld Z h142 u "mandate/Unpacker" "bytes" "[B" (.ref a) := Jvm.RoadKit.Fld.other Wr143 f139 (Or.inr (slot_ne (t := (.array .byte)) (t' := .int) (Or.inl (wd hw 39 rfl)) (Or.inl (wd hw 41 rfl)) (by decide) (by decide) (by decide)))
  have f148 : Fld Z h142 u "mandate/Unpacker" "end" "I" (.int ee) := Jvm.RoadKit.Fld.other Wr143 f140 (Or.inr (slot_ne (t := .int) (t' := .int) (Or.inl (wd hw 43 rfl)) (Or.inl (wd hw 41 rfl)) (by decide) (by decide) (by decide)))
  have f149 : BA Z h142 a xs := f141.other Wr143 (Ne.symm nua)
  refine k_baloadT (i := (p + 8)) (x := (tenB vv 8)) (pc := 40) H f149 (hp8) (T 8 (by decide)) d8_40 ?_
  refine k_istore (pc := 41) H d8_41 (Ls' := #[.val (.ref u), .val (.long (((((((((0 : Int64) ||| (((tenB vv 0).toInt32 &&& (127 : Int32)).toInt64 <<< ((0 : Int32).toInt64 &&& 63))) ||| (((tenB vv 1).toInt32 &&& (127 : Int32)).toInt64 <<< ((7 : Int32).toInt64 &&& 63))) ||| (((tenB vv 2).toInt32 &&& (127 : Int32)).toInt64 <<< ((14 : Int32).toInt64 &&& 63))) ||| (((tenB vv 3).toInt32 &&& (127 : Int32)).toInt64 <<< ((21 : Int32).toInt64 &&& 63))) ||| (((tenB vv 4).toInt32 &&& (127 : Int32)).toInt64 <<< ((28 : Int32).toInt64 &&& 63))) ||| (((tenB vv 5).toInt32 &&& (127 : Int32)).toInt64 <<< ((35 : Int32).toInt64 &&& 63))) ||| (((tenB vv 6).toInt32 &&& (127 : Int32)).toInt64 <<< ((42 : Int32).toInt64 &&& 63))) ||| (((tenB vv 7).toInt32 &&& (127 : Int32)).toInt64 <<< ((49 : Int32).toInt64 &&& 63)))), .second, .val (.int (56 : Int32)), .val (.int (tenB vv 8).toInt32)]) rfl ?_
  refine k_lloadN (pc := 43) H d8_43 rfl ?_
  refine k_iload (pc := 44) H d8_44 rfl ?_
  refine k_bipush (127 : Int32) (pc := 46) H d8_46 rfl ?_
  refine k_iand (pc := 48) H d8_48 ?_
  refine k_i2l (pc := 49) H d8_49 ?_
  refine k_iloadN (pc := 50) H d8_50 rfl ?_
  refine k_lshl (pc := 51) H d8_51 ?_
  refine k_lor (pc := 52) H d8_52 ?_
  refine k_lstoreN (pc := 53) H d8_53 (Ls' := #[.val (.ref u), .val (.long ((((((((((0 : Int64) ||| (((tenB vv 0).toInt32 &&& (127 : Int32)).toInt64 <<< ((0 : Int32).toInt64 &&& 63))) ||| (((tenB vv 1).toInt32 &&& (127 : Int32)).toInt64 <<< ((7 : Int32).toInt64 &&& 63))) ||| (((tenB vv 2).toInt32 &&& (127 : Int32)).toInt64 <<< ((14 : Int32).toInt64 &&& 63))) ||| (((tenB vv 3).toInt32 &&& (127 : Int32)).toInt64 <<< ((21 : Int32).toInt64 &&& 63))) ||| (((tenB vv 4).toInt32 &&& (127 : Int32)).toInt64 <<< ((28 : Int32).toInt64 &&& 63))) ||| (((tenB vv 5).toInt32 &&& (127 : Int32)).toInt64 <<< ((35 : Int32).toInt64 &&& 63))) ||| (((tenB vv 6).toInt32 &&& (127 : Int32)).toInt64 <<< ((42 : Int32).toInt64 &&& 63))) ||| (((tenB vv 7).toInt32 &&& (127 : Int32)).toInt64 <<< ((49 : Int32).toInt64 &&& 63))) ||| (((tenB vv 8).toInt32 &&& (127 : Int32)).toInt64 <<< ((56 : Int32).toInt64 &&& 63)))), .second, .val (.int (56 : Int32)), .val (.int (tenB vv 8).toInt32)]) rfl ?_
  refine k_iload (pc := 54) H d8_54 rfl ?_
  have hp9 : (((((((((pp + (1 : Int32)) + (1 : Int32)) + (1 : Int32)) + (1 : Int32)) + (1 : Int32)) + (1 : Int32)) + (1 : Int32)) + (1 : Int32)) + (1 : Int32)).toInt = ((p + 9 : Nat) : Int) := add_nat (i := p + 8) (y := 1) (j := 1) hp8 rfl (by omega)
  refine k_ifT 61 (pc := 56) H d8_56 rfl (XT.i0_lt_t (own_lt vv (by decide))) ?_
  refine k_iinc (7 : Int32) (pc := 61) H d8_61 rfl rfl (Ls' := #[.val (.ref u), .val (.long ((((((((((0 : Int64) ||| (((tenB vv 0).toInt32 &&& (127 : Int32)).toInt64 <<< ((0 : Int32).toInt64 &&& 63))) ||| (((tenB vv 1).toInt32 &&& (127 : Int32)).toInt64 <<< ((7 : Int32).toInt64 &&& 63))) ||| (((tenB vv 2).toInt32 &&& (127 : Int32)).toInt64 <<< ((14 : Int32).toInt64 &&& 63))) ||| (((tenB vv 3).toInt32 &&& (127 : Int32)).toInt64 <<< ((21 : Int32).toInt64 &&& 63))) ||| (((tenB vv 4).toInt32 &&& (127 : Int32)).toInt64 <<< ((28 : Int32).toInt64 &&& 63))) ||| (((tenB vv 5).toInt32 &&& (127 : Int32)).toInt64 <<< ((35 : Int32).toInt64 &&& 63))) ||| (((tenB vv 6).toInt32 &&& (127 : Int32)).toInt64 <<< ((42 : Int32).toInt64 &&& 63))) ||| (((tenB vv 7).toInt32 &&& (127 : Int32)).toInt64 <<< ((49 : Int32).toInt64 &&& 63))) ||| (((tenB vv 8).toInt32 &&& (127 : Int32)).toInt64 <<< ((56 : Int32).toInt64 &&& 63)))), .second, .val (.int ((56 : Int32) + (7 : Int32))), .val (.int (tenB vv 8).toInt32)]) rfl ?_
  rw [show ((56 : Int32) + (7 : Int32)) = (63 : Int32) from rfl]
  refine k_goto 4 (pc := 64) H d8_64 rfl ?_
  refine k_aloadN (pc := 4) H d8_4 rfl rfl ?_
  refine k_getfield (pc := 5) H (wd hw 40 rfl) f144 d8_5 ?_
  refine k_aloadN (pc := 8) H d8_8 rfl rfl ?_
  refine k_getfield (pc := 9) H (wd hw 42 rfl) f148 d8_9 ?_
  refine k_icmpT 25 (pc := 12) H d8_12 rfl (XT.ii_ne_t (fun z => absurd ((eq_nat hp9 he).mp z) (by omega))) ?_
  refine k_aloadN (pc := 25) H d8_25 rfl rfl ?_
  refine k_getfield (pc := 26) H (wd hw 38 rfl) f147 d8_26 ?_
  refine k_aloadN (pc := 29) H d8_29 rfl rfl ?_
  refine k_dup (pc := 30) H d8_30 rfl ?_
  refine k_getfield (pc := 31) H (wd hw 40 rfl) f144 d8_31 ?_
  refine k_dupX1 (pc := 34) H d8_34 rfl rfl ?_
  refine k_iconst (1 : Int32) (pc := 35) H d8_35 rfl ?_
  refine k_iadd (pc := 36) H d8_36 ?_
  refine k_putfield .int (pc := 37) H (wd hw 40 rfl) f144 f146 (Or.inl (wd hw 41 rfl)) (wd hw 20 rfl) (by decide) rfl rfl ge d8_37 ?_
  intro h150 Wr151 f152
  have KW153 : Keep h0 h150 [u] := KW145.wr Wr151 (Or.inl (List.mem_of_getElem? (i := 0) rfl))
  have f154 : Exa Z h150 u "mandate/Unpacker" := Jvm.RoadKit.Exa.wr Wr151 f146
  have f155 : Fld Z h150 u "mandate/Unpacker" "bytes" "[B" (.ref a) := Jvm.RoadKit.Fld.other Wr151 f147 (Or.inr (slot_ne (t := (.array .byte)) (t' := .int) (Or.inl (wd hw 39 rfl)) (Or.inl (wd hw 41 rfl)) (by decide) (by decide) (by decide)))
  have f156 : Fld Z h150 u "mandate/Unpacker" "end" "I" (.int ee) := Jvm.RoadKit.Fld.other Wr151 f148 (Or.inr (slot_ne (t := .int) (t' := .int) (Or.inl (wd hw 43 rfl)) (Or.inl (wd hw 41 rfl)) (by decide) (by decide) (by decide)))
  have f157 : BA Z h150 a xs := f149.other Wr151 (Ne.symm nua)
  refine k_baloadT (i := (p + 9)) (x := (tenB vv 9)) (pc := 40) H f157 (hp9) (T 9 (by decide)) d8_40 ?_
  refine k_istore (pc := 41) H d8_41 (Ls' := #[.val (.ref u), .val (.long ((((((((((0 : Int64) ||| (((tenB vv 0).toInt32 &&& (127 : Int32)).toInt64 <<< ((0 : Int32).toInt64 &&& 63))) ||| (((tenB vv 1).toInt32 &&& (127 : Int32)).toInt64 <<< ((7 : Int32).toInt64 &&& 63))) ||| (((tenB vv 2).toInt32 &&& (127 : Int32)).toInt64 <<< ((14 : Int32).toInt64 &&& 63))) ||| (((tenB vv 3).toInt32 &&& (127 : Int32)).toInt64 <<< ((21 : Int32).toInt64 &&& 63))) ||| (((tenB vv 4).toInt32 &&& (127 : Int32)).toInt64 <<< ((28 : Int32).toInt64 &&& 63))) ||| (((tenB vv 5).toInt32 &&& (127 : Int32)).toInt64 <<< ((35 : Int32).toInt64 &&& 63))) ||| (((tenB vv 6).toInt32 &&& (127 : Int32)).toInt64 <<< ((42 : Int32).toInt64 &&& 63))) ||| (((tenB vv 7).toInt32 &&& (127 : Int32)).toInt64 <<< ((49 : Int32).toInt64 &&& 63))) ||| (((tenB vv 8).toInt32 &&& (127 : Int32)).toInt64 <<< ((56 : Int32).toInt64 &&& 63)))), .second, .val (.int (63 : Int32)), .val (.int (tenB vv 9).toInt32)]) rfl ?_
  refine k_lloadN (pc := 43) H d8_43 rfl ?_
  refine k_iload (pc := 44) H d8_44 rfl ?_
  refine k_bipush (127 : Int32) (pc := 46) H d8_46 rfl ?_
  refine k_iand (pc := 48) H d8_48 ?_
  refine k_i2l (pc := 49) H d8_49 ?_
  refine k_iloadN (pc := 50) H d8_50 rfl ?_
  refine k_lshl (pc := 51) H d8_51 ?_
  refine k_lor (pc := 52) H d8_52 ?_
  refine k_lstoreN (pc := 53) H d8_53 (Ls' := #[.val (.ref u), .val (.long (((((((((((0 : Int64) ||| (((tenB vv 0).toInt32 &&& (127 : Int32)).toInt64 <<< ((0 : Int32).toInt64 &&& 63))) ||| (((tenB vv 1).toInt32 &&& (127 : Int32)).toInt64 <<< ((7 : Int32).toInt64 &&& 63))) ||| (((tenB vv 2).toInt32 &&& (127 : Int32)).toInt64 <<< ((14 : Int32).toInt64 &&& 63))) ||| (((tenB vv 3).toInt32 &&& (127 : Int32)).toInt64 <<< ((21 : Int32).toInt64 &&& 63))) ||| (((tenB vv 4).toInt32 &&& (127 : Int32)).toInt64 <<< ((28 : Int32).toInt64 &&& 63))) ||| (((tenB vv 5).toInt32 &&& (127 : Int32)).toInt64 <<< ((35 : Int32).toInt64 &&& 63))) ||| (((tenB vv 6).toInt32 &&& (127 : Int32)).toInt64 <<< ((42 : Int32).toInt64 &&& 63))) ||| (((tenB vv 7).toInt32 &&& (127 : Int32)).toInt64 <<< ((49 : Int32).toInt64 &&& 63))) ||| (((tenB vv 8).toInt32 &&& (127 : Int32)).toInt64 <<< ((56 : Int32).toInt64 &&& 63))) ||| (((tenB vv 9).toInt32 &&& (127 : Int32)).toInt64 <<< ((63 : Int32).toInt64 &&& 63)))), .second, .val (.int (63 : Int32)), .val (.int (tenB vv 9).toInt32)]) rfl ?_
  refine k_iload (pc := 54) H d8_54 rfl ?_
  have hp10 : ((((((((((pp + (1 : Int32)) + (1 : Int32)) + (1 : Int32)) + (1 : Int32)) + (1 : Int32)) + (1 : Int32)) + (1 : Int32)) + (1 : Int32)) + (1 : Int32)) + (1 : Int32)).toInt = ((p + 10 : Nat) : Int) := add_nat (i := p + 9) (y := 1) (j := 1) hp9 rfl (by omega)
  refine k_ifF (pc := 56) H d8_56 (XT.i0_lt_f (own_nl vv)) ?_
  refine k_lloadN (pc := 59) H d8_59 rfl ?_
  exact k_retLong (pc := 60) H d8_60 (by show 0 ≤ own_rlT_room.cells; decide) (by show 0 ≤ own_rlT_room.slots; decide) (⟨_, hp10, congrArg (fun z => some (Value.long z)) (ten_tenB vv), KW153, f155, f152, f156⟩)
abbrev own_rlO_room : Room := { frames := 0, cells := 0, slots := 0, locals := 0 }
set_option maxRecDepth 65536 in
set_option maxHeartbeats 40000000 in
theorem rlO (l : Launch) (Z : State) (a0 : Array Value) (hw : ∀ d ∈ tables_1, d.before a0 Z = true) (n0 : Nat) (h0 : Heap) (Z0 : n0 ≤ h0.size) (u a : Addr) (xs : List Int8) (pp ee : Int32) (p e : Nat) (b : Int8) (ge : n0 ≤ u) (nua : u ≠ a) (X : Exa Z h0 u "mandate/Unpacker") (F0 : Fld Z h0 u "mandate/Unpacker" "bytes" "[B" (.ref a)) (F1 : Fld Z h0 u "mandate/Unpacker" "position" "I" (.int pp)) (F2 : Fld Z h0 u "mandate/Unpacker" "end" "I" (.int ee)) (V : BA Z h0 a xs) (hp : pp.toInt = (p : Int)) (he : ee.toInt = (e : Int)) (hpe : p + 1 ≤ e) (he2 : e < 1000) (T : xs[p]? = some b) (hb : ¬ b.toInt32 < 0) :
    Ctr l Z (⟨"mandate/Unpacker", "readLong", "()J"⟩ : MethodName) prog_155_method_5_code 5 (some .long) own_rlO_room n0 #[(.ref u)] h0 (fun v h => ∃ q : Int32, q.toInt = ((p + 1 : Nat) : Int) ∧ v = some (.long ((0 : Int64) ||| ((b.toInt32 &&& (127 : Int32)).toInt64 <<< ((0 : Int32).toInt64 &&& 63)))) ∧ Keep h0 h [u] ∧ Fld Z h u "mandate/Unpacker" "bytes" "[B" (.ref a) ∧ Fld Z h u "mandate/Unpacker" "position" "I" (.int q) ∧ Fld Z h u "mandate/Unpacker" "end" "I" (.int ee)) := by
  refine Ctr.of #[.val (.ref u), .unset, .unset, .unset, .unset] (plainFor_of_name pn_1) Z0 (fun m => by first | (simp [entryFrame, mkF, argsToLocals, Value.category]; done) | rfl) ?_
  intro C H
  refine k_lconst (0 : Int64) (pc := 0) H d8_0 rfl ?_
  refine k_lstoreN (pc := 1) H d8_1 (Ls' := #[.val (.ref u), .val (.long (0 : Int64)), .second, .unset, .unset]) rfl ?_
  refine k_iconst (0 : Int32) (pc := 2) H d8_2 rfl ?_
  refine k_istoreN (pc := 3) H d8_3 (Ls' := #[.val (.ref u), .val (.long (0 : Int64)), .second, .val (.int (0 : Int32)), .unset]) rfl ?_
  refine k_aloadN (pc := 4) H d8_4 rfl rfl ?_
  refine k_getfield (pc := 5) H (wd hw 40 rfl) F1 d8_5 ?_
  refine k_aloadN (pc := 8) H d8_8 rfl rfl ?_
  refine k_getfield (pc := 9) H (wd hw 42 rfl) F2 d8_9 ?_
  refine k_icmpT 25 (pc := 12) H d8_12 rfl (XT.ii_ne_t (fun z => absurd ((eq_nat hp he).mp z) (by omega))) ?_
  refine k_aloadN (pc := 25) H d8_25 rfl rfl ?_
  refine k_getfield (pc := 26) H (wd hw 38 rfl) F0 d8_26 ?_
  refine k_aloadN (pc := 29) H d8_29 rfl rfl ?_
  refine k_dup (pc := 30) H d8_30 rfl ?_
  refine k_getfield (pc := 31) H (wd hw 40 rfl) F1 d8_31 ?_
  refine k_dupX1 (pc := 34) H d8_34 rfl rfl ?_
  refine k_iconst (1 : Int32) (pc := 35) H d8_35 rfl ?_
  refine k_iadd (pc := 36) H d8_36 ?_
  refine k_putfield .int (pc := 37) H (wd hw 40 rfl) F1 X (Or.inl (wd hw 41 rfl)) (wd hw 20 rfl) (by decide) rfl rfl ge d8_37 ?_
  intro h158 Wr159 f160
  have KW161 : Keep h0 h158 [u] := (Keep.refl h0 [u]).wr Wr159 (Or.inl (List.mem_of_getElem? (i := 0) rfl))
  have f162 : Exa Z h158 u "mandate/Unpacker" := Jvm.RoadKit.Exa.wr Wr159 X
  have f163 : Fld Z h158 u "mandate/Unpacker" "bytes" "[B" (.ref a) := Jvm.RoadKit.Fld.other Wr159 F0 (Or.inr (slot_ne (t := (.array .byte)) (t' := .int) (Or.inl (wd hw 39 rfl)) (Or.inl (wd hw 41 rfl)) (by decide) (by decide) (by decide)))
  have f164 : Fld Z h158 u "mandate/Unpacker" "end" "I" (.int ee) := Jvm.RoadKit.Fld.other Wr159 F2 (Or.inr (slot_ne (t := .int) (t' := .int) (Or.inl (wd hw 43 rfl)) (Or.inl (wd hw 41 rfl)) (by decide) (by decide) (by decide)))
  have f165 : BA Z h158 a xs := V.other Wr159 (Ne.symm nua)
  refine k_baloadT (i := p) (x := b) (pc := 40) H f165 (hp) (T) d8_40 ?_
  refine k_istore (pc := 41) H d8_41 (Ls' := #[.val (.ref u), .val (.long (0 : Int64)), .second, .val (.int (0 : Int32)), .val (.int b.toInt32)]) rfl ?_
  refine k_lloadN (pc := 43) H d8_43 rfl ?_
  refine k_iload (pc := 44) H d8_44 rfl ?_
  refine k_bipush (127 : Int32) (pc := 46) H d8_46 rfl ?_
  refine k_iand (pc := 48) H d8_48 ?_
  refine k_i2l (pc := 49) H d8_49 ?_
  refine k_iloadN (pc := 50) H d8_50 rfl ?_
  refine k_lshl (pc := 51) H d8_51 ?_
  refine k_lor (pc := 52) H d8_52 ?_
  refine k_lstoreN (pc := 53) H d8_53 (Ls' := #[.val (.ref u), .val (.long ((0 : Int64) ||| ((b.toInt32 &&& (127 : Int32)).toInt64 <<< ((0 : Int32).toInt64 &&& 63)))), .second, .val (.int (0 : Int32)), .val (.int b.toInt32)]) rfl ?_
  refine k_iload (pc := 54) H d8_54 rfl ?_
  have hp1 : (pp + (1 : Int32)).toInt = ((p + 1 : Nat) : Int) := add_nat (i := p + 0) (y := 1) (j := 1) hp rfl (by omega)
  refine k_ifF (pc := 56) H d8_56 (XT.i0_lt_f (hb)) ?_
  refine k_lloadN (pc := 59) H d8_59 rfl ?_
  exact k_retLong (pc := 60) H d8_60 (by show 0 ≤ own_rlO_room.cells; decide) (by show 0 ≤ own_rlO_room.slots; decide) (⟨_, hp1, rfl, KW161, f163, f160, f164⟩)
theorem d9_0 : decode prog_155_method_4_code 0 = .ok (.aload_n 0, 1) := by decide +kernel
theorem d9_1 : decode prog_155_method_4_code 1 = .ok (.invokevirtual 33, 3) := by decide +kernel
theorem d9_4 : decode prog_155_method_4_code 4 = .ok (.l2i, 1) := by decide +kernel
theorem d9_5 : decode prog_155_method_4_code 5 = .ok (.ireturn, 1) := by decide +kernel
abbrev own_riT_room : Room := { frames := 1, cells := 0, slots := 0, locals := 16 }
set_option maxRecDepth 65536 in
set_option maxHeartbeats 40000000 in
theorem riT (l : Launch) (Z : State) (a0 : Array Value) (hw : ∀ d ∈ tables_1, d.before a0 Z = true) (n0 : Nat) (h0 : Heap) (Z0 : n0 ≤ h0.size) (u a : Addr) (xs : List Int8) (pp ee : Int32) (p e : Nat) (st : Int32) (ge : n0 ≤ u) (nua : u ≠ a) (X : Exa Z h0 u "mandate/Unpacker") (F0 : Fld Z h0 u "mandate/Unpacker" "bytes" "[B" (.ref a)) (F1 : Fld Z h0 u "mandate/Unpacker" "position" "I" (.int pp)) (F2 : Fld Z h0 u "mandate/Unpacker" "end" "I" (.int ee)) (V : BA Z h0 a xs) (hp : pp.toInt = (p : Int)) (he : ee.toInt = (e : Int)) (hpe : p + 10 ≤ e) (he2 : e < 1000) (T : own_ten xs p st.toInt64) :
    Ctr l Z (⟨"mandate/Unpacker", "readInt", "()I"⟩ : MethodName) prog_155_method_4_code 1 (some .int) own_riT_room n0 #[(.ref u)] h0 (fun v h => ∃ q : Int32, q.toInt = ((p + 10 : Nat) : Int) ∧ v = some (.int st) ∧ Keep h0 h [u] ∧ Fld Z h u "mandate/Unpacker" "bytes" "[B" (.ref a) ∧ Fld Z h u "mandate/Unpacker" "position" "I" (.int q) ∧ Fld Z h u "mandate/Unpacker" "end" "I" (.int ee)) := by
  refine Ctr.of #[.val (.ref u)] (plainFor_of_name pn_1) Z0 (fun m => by first | (simp [entryFrame, mkF, argsToLocals, Value.category]; done) | rfl) ?_
  intro C H
  refine k_aloadN (pc := 0) H d9_0 rfl rfl ?_
  refine k_invV (y := (⟨"mandate/Unpacker", "readLong", "()J"⟩ : MethodName)) (st := []) (a := u) [] 0 (pc := 1) H (wd hw 56 rfl) (wd hw 45 rfl) (wd hw 47 rfl) (wd hw 46 rfl) (wd hw 21 rfl) (wd hw 48 rfl) rfl (by decide) X (fun z0 => rlT l Z a0 hw n0 h0 z0 u a xs pp ee p e st.toInt64 ge nua X F0 F1 F2 V hp he hpe he2 T) (lenOf pd_1 rfl) d9_1 rfl rfl rfl (by decide) (by decide) (by decide) (by decide) ?_
  rintro v hR ⟨q1, hq1, rfl, K1, G0, G1, G2⟩
  show W l own_riT_room C _ hR 0 0 4 #[.val (.ref u)] [(.long st.toInt64)]
  refine k_l2i (pc := 4) H d9_4 ?_
  exact k_retInt (pc := 5) H d9_5 (by show 0 ≤ own_riT_room.cells; decide) (by show 0 ≤ own_riT_room.slots; decide) (⟨q1, hq1, by simp, K1, G0, G1, G2⟩)
abbrev own_riO_room : Room := { frames := 1, cells := 0, slots := 0, locals := 16 }
set_option maxRecDepth 65536 in
set_option maxHeartbeats 40000000 in
theorem riO (l : Launch) (Z : State) (a0 : Array Value) (hw : ∀ d ∈ tables_1, d.before a0 Z = true) (n0 : Nat) (h0 : Heap) (Z0 : n0 ≤ h0.size) (u a : Addr) (xs : List Int8) (pp ee : Int32) (p e : Nat) (kl : Int32) (kn : Nat) (ge : n0 ≤ u) (nua : u ≠ a) (X : Exa Z h0 u "mandate/Unpacker") (F0 : Fld Z h0 u "mandate/Unpacker" "bytes" "[B" (.ref a)) (F1 : Fld Z h0 u "mandate/Unpacker" "position" "I" (.int pp)) (F2 : Fld Z h0 u "mandate/Unpacker" "end" "I" (.int ee)) (V : BA Z h0 a xs) (hp : pp.toInt = (p : Int)) (he : ee.toInt = (e : Int)) (hpe : p + 1 ≤ e) (he2 : e < 1000) (T : xs[p]? = some kl.toInt8) (hk : kl.toInt = (kn : Int)) (hk2 : kn < 64) :
    Ctr l Z (⟨"mandate/Unpacker", "readInt", "()I"⟩ : MethodName) prog_155_method_4_code 1 (some .int) own_riO_room n0 #[(.ref u)] h0 (fun v h => ∃ q : Int32, q.toInt = ((p + 1 : Nat) : Int) ∧ v = some (.int kl) ∧ Keep h0 h [u] ∧ Fld Z h u "mandate/Unpacker" "bytes" "[B" (.ref a) ∧ Fld Z h u "mandate/Unpacker" "position" "I" (.int q) ∧ Fld Z h u "mandate/Unpacker" "end" "I" (.int ee)) := by
  refine Ctr.of #[.val (.ref u)] (plainFor_of_name pn_1) Z0 (fun m => by first | (simp [entryFrame, mkF, argsToLocals, Value.category]; done) | rfl) ?_
  intro C H
  refine k_aloadN (pc := 0) H d9_0 rfl rfl ?_
  refine k_invV (y := (⟨"mandate/Unpacker", "readLong", "()J"⟩ : MethodName)) (st := []) (a := u) [] 0 (pc := 1) H (wd hw 56 rfl) (wd hw 45 rfl) (wd hw 47 rfl) (wd hw 46 rfl) (wd hw 21 rfl) (wd hw 48 rfl) rfl (by decide) X (fun z0 => rlO l Z a0 hw n0 h0 z0 u a xs pp ee p e kl.toInt8 ge nua X F0 F1 F2 V hp he hpe he2 T (one_says hk hk2).1) (lenOf pd_1 rfl) d9_1 rfl rfl rfl (by decide) (by decide) (by decide) (by decide) ?_
  rintro v hR ⟨q1, hq1, rfl, K1, G0, G1, G2⟩
  show W l own_riO_room C _ hR 0 0 4 #[.val (.ref u)] [(.long ((0 : Int64) ||| ((kl.toInt8.toInt32 &&& (127 : Int32)).toInt64 <<< ((0 : Int32).toInt64 &&& 63))))]
  refine k_l2i (pc := 4) H d9_4 ?_
  exact k_retInt (pc := 5) H d9_5 (by show 0 ≤ own_riO_room.cells; decide) (by show 0 ≤ own_riO_room.slots; decide) (⟨q1, hq1, congrArg (fun z => some (Value.int z)) (one_says hk hk2).2, K1, G0, G1, G2⟩)
theorem d13_0 : decode jdk_33_method_47_code 0 = .ok (.iload_n 0, 1) := by decide +kernel
theorem d13_1 : decode jdk_33_method_47_code 1 = .ok (.ifCond .gt 14, 3) := by decide +kernel
theorem d13_4 : decode jdk_33_method_47_code 4 = .ok (.iload_n 0, 1) := by decide +kernel
theorem d13_5 : decode jdk_33_method_47_code 5 = .ok (.ifCond .ne 8, 3) := by decide +kernel
theorem d13_8 : decode jdk_33_method_47_code 8 = .ok (.bipush 32, 2) := by decide +kernel
theorem d13_10 : decode jdk_33_method_47_code 10 = .ok (.goto 4, 3) := by decide +kernel
theorem d13_13 : decode jdk_33_method_47_code 13 = .ok (.iconst 0, 1) := by decide +kernel
theorem d13_14 : decode jdk_33_method_47_code 14 = .ok (.ireturn, 1) := by decide +kernel
theorem d13_15 : decode jdk_33_method_47_code 15 = .ok (.bipush 31, 2) := by decide +kernel
theorem d13_17 : decode jdk_33_method_47_code 17 = .ok (.istore_n 1, 1) := by decide +kernel
theorem d13_18 : decode jdk_33_method_47_code 18 = .ok (.iload_n 0, 1) := by decide +kernel
theorem d13_19 : decode jdk_33_method_47_code 19 = .ok (.ldc_w 264, 3) := by decide +kernel
theorem d13_22 : decode jdk_33_method_47_code 22 = .ok (.if_icmp .lt 11, 3) := by decide +kernel
theorem d13_25 : decode jdk_33_method_47_code 25 = .ok (.iinc 1 (-16), 3) := by decide +kernel
theorem d13_28 : decode jdk_33_method_47_code 28 = .ok (.iload_n 0, 1) := by decide +kernel
theorem d13_29 : decode jdk_33_method_47_code 29 = .ok (.bipush 16, 2) := by decide +kernel
theorem d13_31 : decode jdk_33_method_47_code 31 = .ok (.iushr, 1) := by decide +kernel
theorem d13_32 : decode jdk_33_method_47_code 32 = .ok (.istore_n 0, 1) := by decide +kernel
theorem d13_33 : decode jdk_33_method_47_code 33 = .ok (.iload_n 0, 1) := by decide +kernel
theorem d13_34 : decode jdk_33_method_47_code 34 = .ok (.sipush 256, 3) := by decide +kernel
theorem d13_37 : decode jdk_33_method_47_code 37 = .ok (.if_icmp .lt 11, 3) := by decide +kernel
theorem d13_40 : decode jdk_33_method_47_code 40 = .ok (.iinc 1 (-8), 3) := by decide +kernel
theorem d13_43 : decode jdk_33_method_47_code 43 = .ok (.iload_n 0, 1) := by decide +kernel
theorem d13_44 : decode jdk_33_method_47_code 44 = .ok (.bipush 8, 2) := by decide +kernel
theorem d13_46 : decode jdk_33_method_47_code 46 = .ok (.iushr, 1) := by decide +kernel
theorem d13_47 : decode jdk_33_method_47_code 47 = .ok (.istore_n 0, 1) := by decide +kernel
theorem d13_48 : decode jdk_33_method_47_code 48 = .ok (.iload_n 0, 1) := by decide +kernel
theorem d13_49 : decode jdk_33_method_47_code 49 = .ok (.bipush 16, 2) := by decide +kernel
theorem d13_51 : decode jdk_33_method_47_code 51 = .ok (.if_icmp .lt 10, 3) := by decide +kernel
theorem d13_54 : decode jdk_33_method_47_code 54 = .ok (.iinc 1 (-4), 3) := by decide +kernel
theorem d13_57 : decode jdk_33_method_47_code 57 = .ok (.iload_n 0, 1) := by decide +kernel
theorem d13_58 : decode jdk_33_method_47_code 58 = .ok (.iconst 4, 1) := by decide +kernel
theorem d13_59 : decode jdk_33_method_47_code 59 = .ok (.iushr, 1) := by decide +kernel
theorem d13_60 : decode jdk_33_method_47_code 60 = .ok (.istore_n 0, 1) := by decide +kernel
theorem d13_61 : decode jdk_33_method_47_code 61 = .ok (.iload_n 0, 1) := by decide +kernel
theorem d13_62 : decode jdk_33_method_47_code 62 = .ok (.iconst 4, 1) := by decide +kernel
theorem d13_63 : decode jdk_33_method_47_code 63 = .ok (.if_icmp .lt 10, 3) := by decide +kernel
theorem d13_66 : decode jdk_33_method_47_code 66 = .ok (.iinc 1 (-2), 3) := by decide +kernel
theorem d13_69 : decode jdk_33_method_47_code 69 = .ok (.iload_n 0, 1) := by decide +kernel
theorem d13_70 : decode jdk_33_method_47_code 70 = .ok (.iconst 2, 1) := by decide +kernel
theorem d13_71 : decode jdk_33_method_47_code 71 = .ok (.iushr, 1) := by decide +kernel
theorem d13_72 : decode jdk_33_method_47_code 72 = .ok (.istore_n 0, 1) := by decide +kernel
theorem d13_73 : decode jdk_33_method_47_code 73 = .ok (.iload_n 1, 1) := by decide +kernel
theorem d13_74 : decode jdk_33_method_47_code 74 = .ok (.iload_n 0, 1) := by decide +kernel
theorem d13_75 : decode jdk_33_method_47_code 75 = .ok (.iconst 1, 1) := by decide +kernel
theorem d13_76 : decode jdk_33_method_47_code 76 = .ok (.iushr, 1) := by decide +kernel
theorem d13_77 : decode jdk_33_method_47_code 77 = .ok (.isub, 1) := by decide +kernel
theorem d13_78 : decode jdk_33_method_47_code 78 = .ok (.ireturn, 1) := by decide +kernel
abbrev own_rm13_room : Room := { frames := 0, cells := 0, slots := 0, locals := 0 }
set_option maxRecDepth 65536 in
set_option maxHeartbeats 40000000 in
theorem rm13 (l : Launch) (Z : State) (a0 : Array Value) (hw : ∀ d ∈ tables_1, d.before a0 Z = true) (n0 : Nat) (h0 : Heap) (Z0 : n0 ≤ h0.size) (i0 : Int32)  :
    Ctr l Z (⟨"java/lang/Integer", "numberOfLeadingZeros", "(I)I"⟩ : MethodName) jdk_33_method_47_code 2 (some .int) own_rm13_room n0 #[(.int i0)] h0 (fun v h => ∃ y : Int32, v = some (.int y) ∧ h = h0) := by
  refine Ctr.of #[.val (.int i0), .unset] pf_13 Z0 (fun m => by first | (simp [entryFrame, mkF, argsToLocals, Value.category]; done) | rfl) ?_
  intro C H
  refine k_iloadN (pc := 0) H d13_0 rfl ?_
  refine k_iff0 (P := 0 < i0) 15 (pc := 1) H d13_1 rfl XT.i0_gt_t XT.i0_gt_f (fun c1 => ?_) (fun c1 => ?_)
  · refine k_bipush (31 : Int32) (pc := 15) H d13_15 rfl ?_
    refine k_istoreN (pc := 17) H d13_17 (Ls' := #[.val (.int i0), .val (.int (31 : Int32))]) rfl ?_
    refine k_iloadN (pc := 18) H d13_18 rfl ?_
    refine k_ldcWI (v := (65536 : Int32)) (pc := 19) H (wd hw 79 rfl) d13_19 ?_
    refine k_icmp (P := i0 < (65536 : Int32)) 33 (pc := 22) H d13_22 rfl XT.ii_lt_t XT.ii_lt_f (fun c22 => ?_) (fun c22 => ?_)
    · refine k_iloadN (pc := 33) H d13_33 rfl ?_
      refine k_sipush (256 : Int32) (pc := 34) H d13_34 rfl ?_
      refine k_icmp (P := i0 < (256 : Int32)) 48 (pc := 37) H d13_37 rfl XT.ii_lt_t XT.ii_lt_f (fun c37 => ?_) (fun c37 => ?_)
      · refine k_iloadN (pc := 48) H d13_48 rfl ?_
        refine k_bipush (16 : Int32) (pc := 49) H d13_49 rfl ?_
        refine k_icmp (P := i0 < (16 : Int32)) 61 (pc := 51) H d13_51 rfl XT.ii_lt_t XT.ii_lt_f (fun c51 => ?_) (fun c51 => ?_)
        · refine k_iloadN (pc := 61) H d13_61 rfl ?_
          refine k_iconst (4 : Int32) (pc := 62) H d13_62 rfl ?_
          refine k_icmp (P := i0 < (4 : Int32)) 73 (pc := 63) H d13_63 rfl XT.ii_lt_t XT.ii_lt_f (fun c63 => ?_) (fun c63 => ?_)
          · refine k_iloadN (pc := 73) H d13_73 rfl ?_
            refine k_iloadN (pc := 74) H d13_74 rfl ?_
            refine k_iconst (1 : Int32) (pc := 75) H d13_75 rfl ?_
            refine k_iushr (pc := 76) H d13_76 ?_
            refine k_isub (pc := 77) H d13_77 ?_
            exact k_retInt (pc := 78) H d13_78 (by show 0 ≤ own_rm13_room.cells; decide) (by show 0 ≤ own_rm13_room.slots; decide) (⟨_, rfl, rfl⟩)
          · refine k_iinc (-2 : Int32) (pc := 66) H d13_66 rfl rfl (Ls' := #[.val (.int i0), .val (.int ((31 : Int32) + (-2 : Int32)))]) rfl ?_
            refine k_iloadN (pc := 69) H d13_69 rfl ?_
            refine k_iconst (2 : Int32) (pc := 70) H d13_70 rfl ?_
            refine k_iushr (pc := 71) H d13_71 ?_
            refine k_istoreN (pc := 72) H d13_72 (Ls' := #[.val (.int (XT.ushr i0 (2 : Int32))), .val (.int ((31 : Int32) + (-2 : Int32)))]) rfl ?_
            refine k_iloadN (pc := 73) H d13_73 rfl ?_
            refine k_iloadN (pc := 74) H d13_74 rfl ?_
            refine k_iconst (1 : Int32) (pc := 75) H d13_75 rfl ?_
            refine k_iushr (pc := 76) H d13_76 ?_
            refine k_isub (pc := 77) H d13_77 ?_
            exact k_retInt (pc := 78) H d13_78 (by show 0 ≤ own_rm13_room.cells; decide) (by show 0 ≤ own_rm13_room.slots; decide) (⟨_, rfl, rfl⟩)
        · refine k_iinc (-4 : Int32) (pc := 54) H d13_54 rfl rfl (Ls' := #[.val (.int i0), .val (.int ((31 : Int32) + (-4 : Int32)))]) rfl ?_
          refine k_iloadN (pc := 57) H d13_57 rfl ?_
          refine k_iconst (4 : Int32) (pc := 58) H d13_58 rfl ?_
          refine k_iushr (pc := 59) H d13_59 ?_
          refine k_istoreN (pc := 60) H d13_60 (Ls' := #[.val (.int (XT.ushr i0 (4 : Int32))), .val (.int ((31 : Int32) + (-4 : Int32)))]) rfl ?_
          refine k_iloadN (pc := 61) H d13_61 rfl ?_
          refine k_iconst (4 : Int32) (pc := 62) H d13_62 rfl ?_
          refine k_icmp (P := (XT.ushr i0 (4 : Int32)) < (4 : Int32)) 73 (pc := 63) H d13_63 rfl XT.ii_lt_t XT.ii_lt_f (fun c63 => ?_) (fun c63 => ?_)
          · refine k_iloadN (pc := 73) H d13_73 rfl ?_
            refine k_iloadN (pc := 74) H d13_74 rfl ?_
            refine k_iconst (1 : Int32) (pc := 75) H d13_75 rfl ?_
            refine k_iushr (pc := 76) H d13_76 ?_
            refine k_isub (pc := 77) H d13_77 ?_
            exact k_retInt (pc := 78) H d13_78 (by show 0 ≤ own_rm13_room.cells; decide) (by show 0 ≤ own_rm13_room.slots; decide) (⟨_, rfl, rfl⟩)
          · refine k_iinc (-2 : Int32) (pc := 66) H d13_66 rfl rfl (Ls' := #[.val (.int (XT.ushr i0 (4 : Int32))), .val (.int (((31 : Int32) + (-4 : Int32)) + (-2 : Int32)))]) rfl ?_
            refine k_iloadN (pc := 69) H d13_69 rfl ?_
            refine k_iconst (2 : Int32) (pc := 70) H d13_70 rfl ?_
            refine k_iushr (pc := 71) H d13_71 ?_
            refine k_istoreN (pc := 72) H d13_72 (Ls' := #[.val (.int (XT.ushr (XT.ushr i0 (4 : Int32)) (2 : Int32))), .val (.int (((31 : Int32) + (-4 : Int32)) + (-2 : Int32)))]) rfl ?_
            refine k_iloadN (pc := 73) H d13_73 rfl ?_
            refine k_iloadN (pc := 74) H d13_74 rfl ?_
            refine k_iconst (1 : Int32) (pc := 75) H d13_75 rfl ?_
            refine k_iushr (pc := 76) H d13_76 ?_
            refine k_isub (pc := 77) H d13_77 ?_
            exact k_retInt (pc := 78) H d13_78 (by show 0 ≤ own_rm13_room.cells; decide) (by show 0 ≤ own_rm13_room.slots; decide) (⟨_, rfl, rfl⟩)
      · refine k_iinc (-8 : Int32) (pc := 40) H d13_40 rfl rfl (Ls' := #[.val (.int i0), .val (.int ((31 : Int32) + (-8 : Int32)))]) rfl ?_
        refine k_iloadN (pc := 43) H d13_43 rfl ?_
        refine k_bipush (8 : Int32) (pc := 44) H d13_44 rfl ?_
        refine k_iushr (pc := 46) H d13_46 ?_
        refine k_istoreN (pc := 47) H d13_47 (Ls' := #[.val (.int (XT.ushr i0 (8 : Int32))), .val (.int ((31 : Int32) + (-8 : Int32)))]) rfl ?_
        refine k_iloadN (pc := 48) H d13_48 rfl ?_
        refine k_bipush (16 : Int32) (pc := 49) H d13_49 rfl ?_
        refine k_icmp (P := (XT.ushr i0 (8 : Int32)) < (16 : Int32)) 61 (pc := 51) H d13_51 rfl XT.ii_lt_t XT.ii_lt_f (fun c51 => ?_) (fun c51 => ?_)
        · refine k_iloadN (pc := 61) H d13_61 rfl ?_
          refine k_iconst (4 : Int32) (pc := 62) H d13_62 rfl ?_
          refine k_icmp (P := (XT.ushr i0 (8 : Int32)) < (4 : Int32)) 73 (pc := 63) H d13_63 rfl XT.ii_lt_t XT.ii_lt_f (fun c63 => ?_) (fun c63 => ?_)
          · refine k_iloadN (pc := 73) H d13_73 rfl ?_
            refine k_iloadN (pc := 74) H d13_74 rfl ?_
            refine k_iconst (1 : Int32) (pc := 75) H d13_75 rfl ?_
            refine k_iushr (pc := 76) H d13_76 ?_
            refine k_isub (pc := 77) H d13_77 ?_
            exact k_retInt (pc := 78) H d13_78 (by show 0 ≤ own_rm13_room.cells; decide) (by show 0 ≤ own_rm13_room.slots; decide) (⟨_, rfl, rfl⟩)
          · refine k_iinc (-2 : Int32) (pc := 66) H d13_66 rfl rfl (Ls' := #[.val (.int (XT.ushr i0 (8 : Int32))), .val (.int (((31 : Int32) + (-8 : Int32)) + (-2 : Int32)))]) rfl ?_
            refine k_iloadN (pc := 69) H d13_69 rfl ?_
            refine k_iconst (2 : Int32) (pc := 70) H d13_70 rfl ?_
            refine k_iushr (pc := 71) H d13_71 ?_
            refine k_istoreN (pc := 72) H d13_72 (Ls' := #[.val (.int (XT.ushr (XT.ushr i0 (8 : Int32)) (2 : Int32))), .val (.int (((31 : Int32) + (-8 : Int32)) + (-2 : Int32)))]) rfl ?_
            refine k_iloadN (pc := 73) H d13_73 rfl ?_
            refine k_iloadN (pc := 74) H d13_74 rfl ?_
            refine k_iconst (1 : Int32) (pc := 75) H d13_75 rfl ?_
            refine k_iushr (pc := 76) H d13_76 ?_
            refine k_isub (pc := 77) H d13_77 ?_
            exact k_retInt (pc := 78) H d13_78 (by show 0 ≤ own_rm13_room.cells; decide) (by show 0 ≤ own_rm13_room.slots; decide) (⟨_, rfl, rfl⟩)
        · refine k_iinc (-4 : Int32) (pc := 54) H d13_54 rfl rfl (Ls' := #[.val (.int (XT.ushr i0 (8 : Int32))), .val (.int (((31 : Int32) + (-8 : Int32)) + (-4 : Int32)))]) rfl ?_
          refine k_iloadN (pc := 57) H d13_57 rfl ?_
          refine k_iconst (4 : Int32) (pc := 58) H d13_58 rfl ?_
          refine k_iushr (pc := 59) H d13_59 ?_
          refine k_istoreN (pc := 60) H d13_60 (Ls' := #[.val (.int (XT.ushr (XT.ushr i0 (8 : Int32)) (4 : Int32))), .val (.int (((31 : Int32) + (-8 : Int32)) + (-4 : Int32)))]) rfl ?_
          refine k_iloadN (pc := 61) H d13_61 rfl ?_
          refine k_iconst (4 : Int32) (pc := 62) H d13_62 rfl ?_
          refine k_icmp (P := (XT.ushr (XT.ushr i0 (8 : Int32)) (4 : Int32)) < (4 : Int32)) 73 (pc := 63) H d13_63 rfl XT.ii_lt_t XT.ii_lt_f (fun c63 => ?_) (fun c63 => ?_)
          · refine k_iloadN (pc := 73) H d13_73 rfl ?_
            refine k_iloadN (pc := 74) H d13_74 rfl ?_
            refine k_iconst (1 : Int32) (pc := 75) H d13_75 rfl ?_
            refine k_iushr (pc := 76) H d13_76 ?_
            refine k_isub (pc := 77) H d13_77 ?_
            exact k_retInt (pc := 78) H d13_78 (by show 0 ≤ own_rm13_room.cells; decide) (by show 0 ≤ own_rm13_room.slots; decide) (⟨_, rfl, rfl⟩)
          · refine k_iinc (-2 : Int32) (pc := 66) H d13_66 rfl rfl (Ls' := #[.val (.int (XT.ushr (XT.ushr i0 (8 : Int32)) (4 : Int32))), .val (.int ((((31 : Int32) + (-8 : Int32)) + (-4 : Int32)) + (-2 : Int32)))]) rfl ?_
            refine k_iloadN (pc := 69) H d13_69 rfl ?_
            refine k_iconst (2 : Int32) (pc := 70) H d13_70 rfl ?_
            refine k_iushr (pc := 71) H d13_71 ?_
            refine k_istoreN (pc := 72) H d13_72 (Ls' := #[.val (.int (XT.ushr (XT.ushr (XT.ushr i0 (8 : Int32)) (4 : Int32)) (2 : Int32))), .val (.int ((((31 : Int32) + (-8 : Int32)) + (-4 : Int32)) + (-2 : Int32)))]) rfl ?_
            refine k_iloadN (pc := 73) H d13_73 rfl ?_
            refine k_iloadN (pc := 74) H d13_74 rfl ?_
            refine k_iconst (1 : Int32) (pc := 75) H d13_75 rfl ?_
            refine k_iushr (pc := 76) H d13_76 ?_
            refine k_isub (pc := 77) H d13_77 ?_
            exact k_retInt (pc := 78) H d13_78 (by show 0 ≤ own_rm13_room.cells; decide) (by show 0 ≤ own_rm13_room.slots; decide) (⟨_, rfl, rfl⟩)
    · refine k_iinc (-16 : Int32) (pc := 25) H d13_25 rfl rfl (Ls' := #[.val (.int i0), .val (.int ((31 : Int32) + (-16 : Int32)))]) rfl ?_
      refine k_iloadN (pc := 28) H d13_28 rfl ?_
      refine k_bipush (16 : Int32) (pc := 29) H d13_29 rfl ?_
      refine k_iushr (pc := 31) H d13_31 ?_
      refine k_istoreN (pc := 32) H d13_32 (Ls' := #[.val (.int (XT.ushr i0 (16 : Int32))), .val (.int ((31 : Int32) + (-16 : Int32)))]) rfl ?_
      refine k_iloadN (pc := 33) H d13_33 rfl ?_
      refine k_sipush (256 : Int32) (pc := 34) H d13_34 rfl ?_
      refine k_icmp (P := (XT.ushr i0 (16 : Int32)) < (256 : Int32)) 48 (pc := 37) H d13_37 rfl XT.ii_lt_t XT.ii_lt_f (fun c37 => ?_) (fun c37 => ?_)
      · refine k_iloadN (pc := 48) H d13_48 rfl ?_
        refine k_bipush (16 : Int32) (pc := 49) H d13_49 rfl ?_
        refine k_icmp (P := (XT.ushr i0 (16 : Int32)) < (16 : Int32)) 61 (pc := 51) H d13_51 rfl XT.ii_lt_t XT.ii_lt_f (fun c51 => ?_) (fun c51 => ?_)
        · refine k_iloadN (pc := 61) H d13_61 rfl ?_
          refine k_iconst (4 : Int32) (pc := 62) H d13_62 rfl ?_
          refine k_icmp (P := (XT.ushr i0 (16 : Int32)) < (4 : Int32)) 73 (pc := 63) H d13_63 rfl XT.ii_lt_t XT.ii_lt_f (fun c63 => ?_) (fun c63 => ?_)
          · refine k_iloadN (pc := 73) H d13_73 rfl ?_
            refine k_iloadN (pc := 74) H d13_74 rfl ?_
            refine k_iconst (1 : Int32) (pc := 75) H d13_75 rfl ?_
            refine k_iushr (pc := 76) H d13_76 ?_
            refine k_isub (pc := 77) H d13_77 ?_
            exact k_retInt (pc := 78) H d13_78 (by show 0 ≤ own_rm13_room.cells; decide) (by show 0 ≤ own_rm13_room.slots; decide) (⟨_, rfl, rfl⟩)
          · refine k_iinc (-2 : Int32) (pc := 66) H d13_66 rfl rfl (Ls' := #[.val (.int (XT.ushr i0 (16 : Int32))), .val (.int (((31 : Int32) + (-16 : Int32)) + (-2 : Int32)))]) rfl ?_
            refine k_iloadN (pc := 69) H d13_69 rfl ?_
            refine k_iconst (2 : Int32) (pc := 70) H d13_70 rfl ?_
            refine k_iushr (pc := 71) H d13_71 ?_
            refine k_istoreN (pc := 72) H d13_72 (Ls' := #[.val (.int (XT.ushr (XT.ushr i0 (16 : Int32)) (2 : Int32))), .val (.int (((31 : Int32) + (-16 : Int32)) + (-2 : Int32)))]) rfl ?_
            refine k_iloadN (pc := 73) H d13_73 rfl ?_
            refine k_iloadN (pc := 74) H d13_74 rfl ?_
            refine k_iconst (1 : Int32) (pc := 75) H d13_75 rfl ?_
            refine k_iushr (pc := 76) H d13_76 ?_
            refine k_isub (pc := 77) H d13_77 ?_
            exact k_retInt (pc := 78) H d13_78 (by show 0 ≤ own_rm13_room.cells; decide) (by show 0 ≤ own_rm13_room.slots; decide) (⟨_, rfl, rfl⟩)
        · refine k_iinc (-4 : Int32) (pc := 54) H d13_54 rfl rfl (Ls' := #[.val (.int (XT.ushr i0 (16 : Int32))), .val (.int (((31 : Int32) + (-16 : Int32)) + (-4 : Int32)))]) rfl ?_
          refine k_iloadN (pc := 57) H d13_57 rfl ?_
          refine k_iconst (4 : Int32) (pc := 58) H d13_58 rfl ?_
          refine k_iushr (pc := 59) H d13_59 ?_
          refine k_istoreN (pc := 60) H d13_60 (Ls' := #[.val (.int (XT.ushr (XT.ushr i0 (16 : Int32)) (4 : Int32))), .val (.int (((31 : Int32) + (-16 : Int32)) + (-4 : Int32)))]) rfl ?_
          refine k_iloadN (pc := 61) H d13_61 rfl ?_
          refine k_iconst (4 : Int32) (pc := 62) H d13_62 rfl ?_
          refine k_icmp (P := (XT.ushr (XT.ushr i0 (16 : Int32)) (4 : Int32)) < (4 : Int32)) 73 (pc := 63) H d13_63 rfl XT.ii_lt_t XT.ii_lt_f (fun c63 => ?_) (fun c63 => ?_)
          · refine k_iloadN (pc := 73) H d13_73 rfl ?_
            refine k_iloadN (pc := 74) H d13_74 rfl ?_
            refine k_iconst (1 : Int32) (pc := 75) H d13_75 rfl ?_
            refine k_iushr (pc := 76) H d13_76 ?_
            refine k_isub (pc := 77) H d13_77 ?_
            exact k_retInt (pc := 78) H d13_78 (by show 0 ≤ own_rm13_room.cells; decide) (by show 0 ≤ own_rm13_room.slots; decide) (⟨_, rfl, rfl⟩)
          · refine k_iinc (-2 : Int32) (pc := 66) H d13_66 rfl rfl (Ls' := #[.val (.int (XT.ushr (XT.ushr i0 (16 : Int32)) (4 : Int32))), .val (.int ((((31 : Int32) + (-16 : Int32)) + (-4 : Int32)) + (-2 : Int32)))]) rfl ?_
            refine k_iloadN (pc := 69) H d13_69 rfl ?_
            refine k_iconst (2 : Int32) (pc := 70) H d13_70 rfl ?_
            refine k_iushr (pc := 71) H d13_71 ?_
            refine k_istoreN (pc := 72) H d13_72 (Ls' := #[.val (.int (XT.ushr (XT.ushr (XT.ushr i0 (16 : Int32)) (4 : Int32)) (2 : Int32))), .val (.int ((((31 : Int32) + (-16 : Int32)) + (-4 : Int32)) + (-2 : Int32)))]) rfl ?_
            refine k_iloadN (pc := 73) H d13_73 rfl ?_
            refine k_iloadN (pc := 74) H d13_74 rfl ?_
            refine k_iconst (1 : Int32) (pc := 75) H d13_75 rfl ?_
            refine k_iushr (pc := 76) H d13_76 ?_
            refine k_isub (pc := 77) H d13_77 ?_
            exact k_retInt (pc := 78) H d13_78 (by show 0 ≤ own_rm13_room.cells; decide) (by show 0 ≤ own_rm13_room.slots; decide) (⟨_, rfl, rfl⟩)
      · refine k_iinc (-8 : Int32) (pc := 40) H d13_40 rfl rfl (Ls' := #[.val (.int (XT.ushr i0 (16 : Int32))), .val (.int (((31 : Int32) + (-16 : Int32)) + (-8 : Int32)))]) rfl ?_
        refine k_iloadN (pc := 43) H d13_43 rfl ?_
        refine k_bipush (8 : Int32) (pc := 44) H d13_44 rfl ?_
        refine k_iushr (pc := 46) H d13_46 ?_
        refine k_istoreN (pc := 47) H d13_47 (Ls' := #[.val (.int (XT.ushr (XT.ushr i0 (16 : Int32)) (8 : Int32))), .val (.int (((31 : Int32) + (-16 : Int32)) + (-8 : Int32)))]) rfl ?_
        refine k_iloadN (pc := 48) H d13_48 rfl ?_
        refine k_bipush (16 : Int32) (pc := 49) H d13_49 rfl ?_
        refine k_icmp (P := (XT.ushr (XT.ushr i0 (16 : Int32)) (8 : Int32)) < (16 : Int32)) 61 (pc := 51) H d13_51 rfl XT.ii_lt_t XT.ii_lt_f (fun c51 => ?_) (fun c51 => ?_)
        · refine k_iloadN (pc := 61) H d13_61 rfl ?_
          refine k_iconst (4 : Int32) (pc := 62) H d13_62 rfl ?_
          refine k_icmp (P := (XT.ushr (XT.ushr i0 (16 : Int32)) (8 : Int32)) < (4 : Int32)) 73 (pc := 63) H d13_63 rfl XT.ii_lt_t XT.ii_lt_f (fun c63 => ?_) (fun c63 => ?_)
          · refine k_iloadN (pc := 73) H d13_73 rfl ?_
            refine k_iloadN (pc := 74) H d13_74 rfl ?_
            refine k_iconst (1 : Int32) (pc := 75) H d13_75 rfl ?_
            refine k_iushr (pc := 76) H d13_76 ?_
            refine k_isub (pc := 77) H d13_77 ?_
            exact k_retInt (pc := 78) H d13_78 (by show 0 ≤ own_rm13_room.cells; decide) (by show 0 ≤ own_rm13_room.slots; decide) (⟨_, rfl, rfl⟩)
          · refine k_iinc (-2 : Int32) (pc := 66) H d13_66 rfl rfl (Ls' := #[.val (.int (XT.ushr (XT.ushr i0 (16 : Int32)) (8 : Int32))), .val (.int ((((31 : Int32) + (-16 : Int32)) + (-8 : Int32)) + (-2 : Int32)))]) rfl ?_
            refine k_iloadN (pc := 69) H d13_69 rfl ?_
            refine k_iconst (2 : Int32) (pc := 70) H d13_70 rfl ?_
            refine k_iushr (pc := 71) H d13_71 ?_
            refine k_istoreN (pc := 72) H d13_72 (Ls' := #[.val (.int (XT.ushr (XT.ushr (XT.ushr i0 (16 : Int32)) (8 : Int32)) (2 : Int32))), .val (.int ((((31 : Int32) + (-16 : Int32)) + (-8 : Int32)) + (-2 : Int32)))]) rfl ?_
            refine k_iloadN (pc := 73) H d13_73 rfl ?_
            refine k_iloadN (pc := 74) H d13_74 rfl ?_
            refine k_iconst (1 : Int32) (pc := 75) H d13_75 rfl ?_
            refine k_iushr (pc := 76) H d13_76 ?_
            refine k_isub (pc := 77) H d13_77 ?_
            exact k_retInt (pc := 78) H d13_78 (by show 0 ≤ own_rm13_room.cells; decide) (by show 0 ≤ own_rm13_room.slots; decide) (⟨_, rfl, rfl⟩)
        · refine k_iinc (-4 : Int32) (pc := 54) H d13_54 rfl rfl (Ls' := #[.val (.int (XT.ushr (XT.ushr i0 (16 : Int32)) (8 : Int32))), .val (.int ((((31 : Int32) + (-16 : Int32)) + (-8 : Int32)) + (-4 : Int32)))]) rfl ?_
          refine k_iloadN (pc := 57) H d13_57 rfl ?_
          refine k_iconst (4 : Int32) (pc := 58) H d13_58 rfl ?_
          refine k_iushr (pc := 59) H d13_59 ?_
          refine k_istoreN (pc := 60) H d13_60 (Ls' := #[.val (.int (XT.ushr (XT.ushr (XT.ushr i0 (16 : Int32)) (8 : Int32)) (4 : Int32))), .val (.int ((((31 : Int32) + (-16 : Int32)) + (-8 : Int32)) + (-4 : Int32)))]) rfl ?_
          refine k_iloadN (pc := 61) H d13_61 rfl ?_
          refine k_iconst (4 : Int32) (pc := 62) H d13_62 rfl ?_
          refine k_icmp (P := (XT.ushr (XT.ushr (XT.ushr i0 (16 : Int32)) (8 : Int32)) (4 : Int32)) < (4 : Int32)) 73 (pc := 63) H d13_63 rfl XT.ii_lt_t XT.ii_lt_f (fun c63 => ?_) (fun c63 => ?_)
          · refine k_iloadN (pc := 73) H d13_73 rfl ?_
            refine k_iloadN (pc := 74) H d13_74 rfl ?_
            refine k_iconst (1 : Int32) (pc := 75) H d13_75 rfl ?_
            refine k_iushr (pc := 76) H d13_76 ?_
            refine k_isub (pc := 77) H d13_77 ?_
            exact k_retInt (pc := 78) H d13_78 (by show 0 ≤ own_rm13_room.cells; decide) (by show 0 ≤ own_rm13_room.slots; decide) (⟨_, rfl, rfl⟩)
          · refine k_iinc (-2 : Int32) (pc := 66) H d13_66 rfl rfl (Ls' := #[.val (.int (XT.ushr (XT.ushr (XT.ushr i0 (16 : Int32)) (8 : Int32)) (4 : Int32))), .val (.int (((((31 : Int32) + (-16 : Int32)) + (-8 : Int32)) + (-4 : Int32)) + (-2 : Int32)))]) rfl ?_
            refine k_iloadN (pc := 69) H d13_69 rfl ?_
            refine k_iconst (2 : Int32) (pc := 70) H d13_70 rfl ?_
            refine k_iushr (pc := 71) H d13_71 ?_
            refine k_istoreN (pc := 72) H d13_72 (Ls' := #[.val (.int (XT.ushr (XT.ushr (XT.ushr (XT.ushr i0 (16 : Int32)) (8 : Int32)) (4 : Int32)) (2 : Int32))), .val (.int (((((31 : Int32) + (-16 : Int32)) + (-8 : Int32)) + (-4 : Int32)) + (-2 : Int32)))]) rfl ?_
            refine k_iloadN (pc := 73) H d13_73 rfl ?_
            refine k_iloadN (pc := 74) H d13_74 rfl ?_
            refine k_iconst (1 : Int32) (pc := 75) H d13_75 rfl ?_
            refine k_iushr (pc := 76) H d13_76 ?_
            refine k_isub (pc := 77) H d13_77 ?_
            exact k_retInt (pc := 78) H d13_78 (by show 0 ≤ own_rm13_room.cells; decide) (by show 0 ≤ own_rm13_room.slots; decide) (⟨_, rfl, rfl⟩)
  · refine k_iloadN (pc := 4) H d13_4 rfl ?_
    refine k_iff0R (P := i0 = 0) 13 (pc := 5) H d13_5 rfl XT.i0_ne_t XT.i0_ne_f (fun c5 => ?_) (fun c5 => ?_)
    · refine k_iconst (0 : Int32) (pc := 13) H d13_13 rfl ?_
      exact k_retInt (pc := 14) H d13_14 (by show 0 ≤ own_rm13_room.cells; decide) (by show 0 ≤ own_rm13_room.slots; decide) (⟨_, rfl, rfl⟩)
    · refine k_bipush (32 : Int32) (pc := 8) H d13_8 rfl ?_
      refine k_goto 14 (pc := 10) H d13_10 rfl ?_
      exact k_retInt (pc := 14) H d13_14 (by show 0 ≤ own_rm13_room.cells; decide) (by show 0 ≤ own_rm13_room.slots; decide) (⟨_, rfl, rfl⟩)
theorem d12_0 : decode jdk_35_method_48_code 0 = .ok (.lload_n 0, 1) := by decide +kernel
theorem d12_1 : decode jdk_35_method_48_code 1 = .ok (.bipush 32, 2) := by decide +kernel
theorem d12_3 : decode jdk_35_method_48_code 3 = .ok (.lushr, 1) := by decide +kernel
theorem d12_4 : decode jdk_35_method_48_code 4 = .ok (.l2i, 1) := by decide +kernel
theorem d12_5 : decode jdk_35_method_48_code 5 = .ok (.istore_n 2, 1) := by decide +kernel
theorem d12_6 : decode jdk_35_method_48_code 6 = .ok (.iload_n 2, 1) := by decide +kernel
theorem d12_7 : decode jdk_35_method_48_code 7 = .ok (.ifCond .ne 14, 3) := by decide +kernel
theorem d12_10 : decode jdk_35_method_48_code 10 = .ok (.bipush 32, 2) := by decide +kernel
theorem d12_12 : decode jdk_35_method_48_code 12 = .ok (.lload_n 0, 1) := by decide +kernel
theorem d12_13 : decode jdk_35_method_48_code 13 = .ok (.l2i, 1) := by decide +kernel
theorem d12_14 : decode jdk_35_method_48_code 14 = .ok (.invokestatic 308, 3) := by decide +kernel
theorem d12_17 : decode jdk_35_method_48_code 17 = .ok (.iadd, 1) := by decide +kernel
theorem d12_18 : decode jdk_35_method_48_code 18 = .ok (.goto 7, 3) := by decide +kernel
theorem d12_21 : decode jdk_35_method_48_code 21 = .ok (.iload_n 2, 1) := by decide +kernel
theorem d12_22 : decode jdk_35_method_48_code 22 = .ok (.invokestatic 308, 3) := by decide +kernel
theorem d12_25 : decode jdk_35_method_48_code 25 = .ok (.ireturn, 1) := by decide +kernel
abbrev own_rm12_room : Room := { frames := 1, cells := 0, slots := 0, locals := 14 }
set_option maxRecDepth 65536 in
set_option maxHeartbeats 40000000 in
theorem rm12 (l : Launch) (Z : State) (a0 : Array Value) (hw : ∀ d ∈ tables_1, d.before a0 Z = true) (n0 : Nat) (h0 : Heap) (Z0 : n0 ≤ h0.size) (j0 : Int64)  :
    Ctr l Z (⟨"java/lang/Long", "numberOfLeadingZeros", "(J)I"⟩ : MethodName) jdk_35_method_48_code 3 (some .int) own_rm12_room n0 #[(.long j0)] h0 (fun v h => ∃ y : Int32, v = some (.int y) ∧ h = h0) := by
  refine Ctr.of #[.val (.long j0), .second, .unset] pf_12 Z0 (fun m => by first | (simp [entryFrame, mkF, argsToLocals, Value.category]; done) | rfl) ?_
  intro C H
  refine k_lloadN (pc := 0) H d12_0 rfl ?_
  refine k_bipush (32 : Int32) (pc := 1) H d12_1 rfl ?_
  refine k_lushr (pc := 3) H d12_3 ?_
  refine k_l2i (pc := 4) H d12_4 ?_
  refine k_istoreN (pc := 5) H d12_5 (Ls' := #[.val (.long j0), .second, .val (.int (XT.ushrL j0 (32 : Int32)).toInt32)]) rfl ?_
  refine k_iloadN (pc := 6) H d12_6 rfl ?_
  refine k_iff0R (P := (XT.ushrL j0 (32 : Int32)).toInt32 = 0) 21 (pc := 7) H d12_7 rfl XT.i0_ne_t XT.i0_ne_f (fun c7 => ?_) (fun c7 => ?_)
  · refine k_iloadN (pc := 21) H d12_21 rfl ?_
    refine k_invS (y := (⟨"java/lang/Integer", "numberOfLeadingZeros", "(I)I"⟩ : MethodName)) (st := []) [(.int (XT.ushrL j0 (32 : Int32)).toInt32)] 0 (pc := 22) H (wd hw 75 rfl) (wd hw 76 rfl) (wd hw 77 rfl) (wd hw 78 rfl) (by decide) (fun z0 => rm13 l Z a0 hw n0 h0 z0 (XT.ushrL j0 (32 : Int32)).toInt32) (lenOf pd_2 rfl) d12_22 rfl rfl rfl (by decide) (by decide) (by decide) (by decide) ?_
    rintro v hx ⟨y1, rfl, ex⟩
    rw [ex]
    clear ex hx
    show W l own_rm12_room C _ h0 0 0 25 #[.val (.long j0), .second, .val (.int (XT.ushrL j0 (32 : Int32)).toInt32)] [(.int y1)]
    exact k_retInt (pc := 25) H d12_25 (by show 0 ≤ own_rm12_room.cells; decide) (by show 0 ≤ own_rm12_room.slots; decide) (⟨_, rfl, rfl⟩)
  · refine k_bipush (32 : Int32) (pc := 10) H d12_10 rfl ?_
    refine k_lloadN (pc := 12) H d12_12 rfl ?_
    refine k_l2i (pc := 13) H d12_13 ?_
    refine k_invS (y := (⟨"java/lang/Integer", "numberOfLeadingZeros", "(I)I"⟩ : MethodName)) (st := [(.int (32 : Int32))]) [(.int j0.toInt32)] 1 (pc := 14) H (wd hw 75 rfl) (wd hw 76 rfl) (wd hw 77 rfl) (wd hw 78 rfl) (by decide) (fun z0 => rm13 l Z a0 hw n0 h0 z0 j0.toInt32) (lenOf pd_2 rfl) d12_14 rfl rfl rfl (by decide) (by decide) (by decide) (by decide) ?_
    rintro v hx ⟨y2, rfl, ex⟩
    rw [ex]
    clear ex hx
    show W l own_rm12_room C _ h0 0 0 17 #[.val (.long j0), .second, .val (.int (XT.ushrL j0 (32 : Int32)).toInt32)] [(.int y2), (.int (32 : Int32))]
    refine k_iadd (pc := 17) H d12_17 ?_
    refine k_goto 25 (pc := 18) H d12_18 rfl ?_
    exact k_retInt (pc := 25) H d12_25 (by show 0 ≤ own_rm12_room.cells; decide) (by show 0 ≤ own_rm12_room.slots; decide) (⟨_, rfl, rfl⟩)
theorem d11_0 : decode prog_101_method_15_code 0 = .ok (.bipush 63, 2) := by decide +kernel
theorem d11_2 : decode prog_101_method_15_code 2 = .ok (.lload_n 0, 1) := by decide +kernel
theorem d11_3 : decode prog_101_method_15_code 3 = .ok (.lconst 1, 1) := by decide +kernel
theorem d11_4 : decode prog_101_method_15_code 4 = .ok (.lor, 1) := by decide +kernel
theorem d11_5 : decode prog_101_method_15_code 5 = .ok (.invokestatic 86, 3) := by decide +kernel
theorem d11_8 : decode prog_101_method_15_code 8 = .ok (.isub, 1) := by decide +kernel
theorem d11_9 : decode prog_101_method_15_code 9 = .ok (.bipush 7, 2) := by decide +kernel
theorem d11_11 : decode prog_101_method_15_code 11 = .ok (.idiv, 1) := by decide +kernel
theorem d11_12 : decode prog_101_method_15_code 12 = .ok (.iconst 1, 1) := by decide +kernel
theorem d11_13 : decode prog_101_method_15_code 13 = .ok (.iadd, 1) := by decide +kernel
theorem d11_14 : decode prog_101_method_15_code 14 = .ok (.ireturn, 1) := by decide +kernel
abbrev own_rm11_room : Room := { frames := 2, cells := 0, slots := 0, locals := 29 }
set_option maxRecDepth 65536 in
set_option maxHeartbeats 40000000 in
theorem rm11 (l : Launch) (Z : State) (a0 : Array Value) (hw : ∀ d ∈ tables_1, d.before a0 Z = true) (n0 : Nat) (h0 : Heap) (Z0 : n0 ≤ h0.size) (j0 : Int64)  :
    Ctr l Z (⟨"mandate/Packer", "size", "(J)I"⟩ : MethodName) prog_101_method_15_code 2 (some .int) own_rm11_room n0 #[(.long j0)] h0 (fun v h => ∃ y : Int32, v = some (.int y) ∧ h = h0) := by
  refine Ctr.of #[.val (.long j0), .second] (plainFor_of_name pn_4) Z0 (fun m => by first | (simp [entryFrame, mkF, argsToLocals, Value.category]; done) | rfl) ?_
  intro C H
  refine k_bipush (63 : Int32) (pc := 0) H d11_0 rfl ?_
  refine k_lloadN (pc := 2) H d11_2 rfl ?_
  refine k_lconst (1 : Int64) (pc := 3) H d11_3 rfl ?_
  refine k_lor (pc := 4) H d11_4 ?_
  refine k_invS (y := (⟨"java/lang/Long", "numberOfLeadingZeros", "(J)I"⟩ : MethodName)) (st := [(.int (63 : Int32))]) [(.long (j0 ||| (1 : Int64)))] 1 (pc := 5) H (wd hw 71 rfl) (wd hw 72 rfl) (wd hw 73 rfl) (wd hw 74 rfl) (by decide) (fun z0 => rm12 l Z a0 hw n0 h0 z0 (j0 ||| (1 : Int64))) (lenOf pd_3 rfl) d11_5 rfl rfl rfl (by decide) (by decide) (by decide) (by decide) ?_
  rintro v hx ⟨y3, rfl, ex⟩
  rw [ex]
  clear ex hx
  show W l own_rm11_room C _ h0 0 0 8 #[.val (.long j0), .second] [(.int y3), (.int (63 : Int32))]
  refine k_isub (pc := 8) H d11_8 ?_
  refine k_bipush (7 : Int32) (pc := 9) H d11_9 rfl ?_
  refine k_idiv (pc := 11) H d11_11 (by decide) ?_
  refine k_iconst (1 : Int32) (pc := 12) H d11_12 rfl ?_
  refine k_iadd (pc := 13) H d11_13 ?_
  exact k_retInt (pc := 14) H d11_14 (by show 0 ≤ own_rm11_room.cells; decide) (by show 0 ≤ own_rm11_room.slots; decide) (⟨_, rfl, rfl⟩)
theorem d10_0 : decode prog_9_method_18_code 0 = .ok (.lload_n 2, 1) := by decide +kernel
theorem d10_1 : decode prog_9_method_18_code 1 = .ok (.invokestatic 164, 3) := by decide +kernel
theorem d10_4 : decode prog_9_method_18_code 4 = .ok (.iload 4, 2) := by decide +kernel
theorem d10_6 : decode prog_9_method_18_code 6 = .ok (.i2l, 1) := by decide +kernel
theorem d10_7 : decode prog_9_method_18_code 7 = .ok (.invokestatic 164, 3) := by decide +kernel
theorem d10_10 : decode prog_9_method_18_code 10 = .ok (.iadd, 1) := by decide +kernel
theorem d10_11 : decode prog_9_method_18_code 11 = .ok (.iload_n 0, 1) := by decide +kernel
theorem d10_12 : decode prog_9_method_18_code 12 = .ok (.i2l, 1) := by decide +kernel
theorem d10_13 : decode prog_9_method_18_code 13 = .ok (.invokestatic 164, 3) := by decide +kernel
theorem d10_16 : decode prog_9_method_18_code 16 = .ok (.iadd, 1) := by decide +kernel
theorem d10_17 : decode prog_9_method_18_code 17 = .ok (.iload_n 1, 1) := by decide +kernel
theorem d10_18 : decode prog_9_method_18_code 18 = .ok (.i2l, 1) := by decide +kernel
theorem d10_19 : decode prog_9_method_18_code 19 = .ok (.invokestatic 164, 3) := by decide +kernel
theorem d10_22 : decode prog_9_method_18_code 22 = .ok (.iadd, 1) := by decide +kernel
theorem d10_23 : decode prog_9_method_18_code 23 = .ok (.iload_n 0, 1) := by decide +kernel
theorem d10_24 : decode prog_9_method_18_code 24 = .ok (.iadd, 1) := by decide +kernel
theorem d10_25 : decode prog_9_method_18_code 25 = .ok (.iload_n 1, 1) := by decide +kernel
theorem d10_26 : decode prog_9_method_18_code 26 = .ok (.iadd, 1) := by decide +kernel
theorem d10_27 : decode prog_9_method_18_code 27 = .ok (.ireturn, 1) := by decide +kernel
abbrev own_rm10_room : Room := { frames := 3, cells := 0, slots := 0, locals := 43 }
set_option maxRecDepth 65536 in
set_option maxHeartbeats 40000000 in
theorem rm10 (l : Launch) (Z : State) (a0 : Array Value) (hw : ∀ d ∈ tables_1, d.before a0 Z = true) (n0 : Nat) (h0 : Heap) (Z0 : n0 ≤ h0.size) (k0 b0 : Int32) (p0 : Int64) (s0 : Int32)  :
    Ctr l Z (⟨"mandate/Batch", "size", "(IIJI)I"⟩ : MethodName) prog_9_method_18_code 5 (some .int) own_rm10_room n0 #[(.int k0), (.int b0), (.long p0), (.int s0)] h0 (fun v h => ∃ y : Int32, v = some (.int y) ∧ h = h0) := by
  refine Ctr.of #[.val (.int k0), .val (.int b0), .val (.long p0), .second, .val (.int s0)] (plainFor_of_name pn_5) Z0 (fun m => by first | (simp [entryFrame, mkF, argsToLocals, Value.category]; done) | rfl) ?_
  intro C H
  refine k_lloadN (pc := 0) H d10_0 rfl ?_
  refine k_invS (y := (⟨"mandate/Packer", "size", "(J)I"⟩ : MethodName)) (st := []) [(.long p0)] 0 (pc := 1) H (wd hw 67 rfl) (wd hw 68 rfl) (wd hw 69 rfl) (wd hw 70 rfl) (by decide) (fun z0 => rm11 l Z a0 hw n0 h0 z0 p0) (lenOf pd_3 rfl) d10_1 rfl rfl rfl (by decide) (by decide) (by decide) (by decide) ?_
  rintro v hx ⟨y4, rfl, ex⟩
  rw [ex]
  clear ex hx
  show W l own_rm10_room C _ h0 0 0 4 #[.val (.int k0), .val (.int b0), .val (.long p0), .second, .val (.int s0)] [(.int y4)]
  refine k_iload (pc := 4) H d10_4 rfl ?_
  refine k_i2l (pc := 6) H d10_6 ?_
  refine k_invS (y := (⟨"mandate/Packer", "size", "(J)I"⟩ : MethodName)) (st := [(.int y4)]) [(.long s0.toInt64)] 1 (pc := 7) H (wd hw 67 rfl) (wd hw 68 rfl) (wd hw 69 rfl) (wd hw 70 rfl) (by decide) (fun z0 => rm11 l Z a0 hw n0 h0 z0 s0.toInt64) (lenOf pd_3 rfl) d10_7 rfl rfl rfl (by decide) (by decide) (by decide) (by decide) ?_
  rintro v hx ⟨y5, rfl, ex⟩
  rw [ex]
  clear ex hx
  show W l own_rm10_room C _ h0 0 0 10 #[.val (.int k0), .val (.int b0), .val (.long p0), .second, .val (.int s0)] [(.int y5), (.int y4)]
  refine k_iadd (pc := 10) H d10_10 ?_
  refine k_iloadN (pc := 11) H d10_11 rfl ?_
  refine k_i2l (pc := 12) H d10_12 ?_
  refine k_invS (y := (⟨"mandate/Packer", "size", "(J)I"⟩ : MethodName)) (st := [(.int (y4 + y5))]) [(.long k0.toInt64)] 1 (pc := 13) H (wd hw 67 rfl) (wd hw 68 rfl) (wd hw 69 rfl) (wd hw 70 rfl) (by decide) (fun z0 => rm11 l Z a0 hw n0 h0 z0 k0.toInt64) (lenOf pd_3 rfl) d10_13 rfl rfl rfl (by decide) (by decide) (by decide) (by decide) ?_
  rintro v hx ⟨y6, rfl, ex⟩
  rw [ex]
  clear ex hx
  show W l own_rm10_room C _ h0 0 0 16 #[.val (.int k0), .val (.int b0), .val (.long p0), .second, .val (.int s0)] [(.int y6), (.int (y4 + y5))]
  refine k_iadd (pc := 16) H d10_16 ?_
  refine k_iloadN (pc := 17) H d10_17 rfl ?_
  refine k_i2l (pc := 18) H d10_18 ?_
  refine k_invS (y := (⟨"mandate/Packer", "size", "(J)I"⟩ : MethodName)) (st := [(.int ((y4 + y5) + y6))]) [(.long b0.toInt64)] 1 (pc := 19) H (wd hw 67 rfl) (wd hw 68 rfl) (wd hw 69 rfl) (wd hw 70 rfl) (by decide) (fun z0 => rm11 l Z a0 hw n0 h0 z0 b0.toInt64) (lenOf pd_3 rfl) d10_19 rfl rfl rfl (by decide) (by decide) (by decide) (by decide) ?_
  rintro v hx ⟨y7, rfl, ex⟩
  rw [ex]
  clear ex hx
  show W l own_rm10_room C _ h0 0 0 22 #[.val (.int k0), .val (.int b0), .val (.long p0), .second, .val (.int s0)] [(.int y7), (.int ((y4 + y5) + y6))]
  refine k_iadd (pc := 22) H d10_22 ?_
  refine k_iloadN (pc := 23) H d10_23 rfl ?_
  refine k_iadd (pc := 24) H d10_24 ?_
  refine k_iloadN (pc := 25) H d10_25 rfl ?_
  refine k_iadd (pc := 26) H d10_26 ?_
  exact k_retInt (pc := 27) H d10_27 (by show 0 ≤ own_rm10_room.cells; decide) (by show 0 ≤ own_rm10_room.slots; decide) (⟨_, rfl, rfl⟩)
theorem d5_0 : decode prog_155_method_1_code 0 = .ok (.aload_n 0, 1) := by decide +kernel
theorem d5_1 : decode prog_155_method_1_code 1 = .ok (.invokespecial 1, 3) := by decide +kernel
theorem d5_4 : decode prog_155_method_1_code 4 = .ok (.return_, 1) := by decide +kernel
abbrev own_rm5_room : Room := { frames := 1, cells := 0, slots := 0, locals := 12 }
set_option maxRecDepth 65536 in
set_option maxHeartbeats 40000000 in
theorem rm5 (l : Launch) (Z : State) (a0 : Array Value) (hw : ∀ d ∈ tables_1, d.before a0 Z = true) (n0 : Nat) (h0 : Heap) (Z0 : n0 ≤ h0.size) (u : Addr)  :
    Ctr l Z (⟨"mandate/Unpacker", "<init>", "()V"⟩ : MethodName) prog_155_method_1_code 1 none own_rm5_room n0 #[(.ref u)] h0 (fun v h => v = none ∧ h = h0) := by
  refine Ctr.of #[.val (.ref u)] (plainFor_of_name pn_1) Z0 (fun m => by first | (simp [entryFrame, mkF, argsToLocals, Value.category]; done) | rfl) ?_
  intro C H
  refine k_aloadN (pc := 0) H d5_0 rfl rfl ?_
  refine k_initObj (w := 0) (pc := 1) H (wd hw 25 rfl) (wd hw 17 rfl) (wd hw 18 rfl) d5_1 rfl (by decide) rfl (by decide) ?_
  exact k_retVoid (pc := 4) H d5_4 (by show 0 ≤ own_rm5_room.cells; decide) (by show 0 ≤ own_rm5_room.slots; decide) (⟨rfl, rfl⟩)
theorem d3_0 : decode prog_134_method_1_code 0 = .ok (.aload_n 0, 1) := by decide +kernel
theorem d3_1 : decode prog_134_method_1_code 1 = .ok (.invokespecial 1, 3) := by decide +kernel
theorem d3_4 : decode prog_134_method_1_code 4 = .ok (.aload_n 0, 1) := by decide +kernel
theorem d3_5 : decode prog_134_method_1_code 5 = .ok (.new 7, 3) := by decide +kernel
theorem d3_8 : decode prog_134_method_1_code 8 = .ok (.dup, 1) := by decide +kernel
theorem d3_9 : decode prog_134_method_1_code 9 = .ok (.invokespecial 9, 3) := by decide +kernel
theorem d3_12 : decode prog_134_method_1_code 12 = .ok (.putfield 10, 3) := by decide +kernel
theorem d3_15 : decode prog_134_method_1_code 15 = .ok (.return_, 1) := by decide +kernel
abbrev own_rm3_room : Room := { frames := 2, cells := 1, slots := 3, locals := 26 }
set_option maxRecDepth 65536 in
set_option maxHeartbeats 40000000 in
theorem rm3 (l : Launch) (Z : State) (a0 : Array Value) (hw : ∀ d ∈ tables_1, d.before a0 Z = true) (n0 : Nat) (h0 : Heap) (Z0 : n0 ≤ h0.size) (r : Addr) (ge : n0 ≤ r) (X : Exa Z h0 r "mandate/Records$Record") (F0 : Fld Z h0 r "mandate/Records$Record" "source" "[B" .null) (F1 : Fld Z h0 r "mandate/Records$Record" "parent" "J" (.long (0 : Int64))) (F2 : Fld Z h0 r "mandate/Records$Record" "step" "I" (.int (0 : Int32))) (F3 : Fld Z h0 r "mandate/Records$Record" "keyStart" "I" (.int (0 : Int32))) (F4 : Fld Z h0 r "mandate/Records$Record" "keyLength" "I" (.int (0 : Int32))) (F5 : Fld Z h0 r "mandate/Records$Record" "bodyStart" "I" (.int (0 : Int32))) (F6 : Fld Z h0 r "mandate/Records$Record" "bodyLength" "I" (.int (0 : Int32))) (F7 : Fld Z h0 r "mandate/Records$Record" "numbers" "Lmandate/Unpacker;" .null) :
    Ctr l Z (⟨"mandate/Records$Record", "<init>", "()V"⟩ : MethodName) prog_134_method_1_code 1 none own_rm3_room n0 #[(.ref r)] h0 (fun v h => ∃ u : Addr, v = none ∧ n0 ≤ u ∧ h0.size ≤ u ∧ Keep h0 h [r] ∧ Exa Z h u "mandate/Unpacker" ∧ Fld Z h u "mandate/Unpacker" "bytes" "[B" .null ∧ Fld Z h u "mandate/Unpacker" "position" "I" (.int (0 : Int32)) ∧ Fld Z h u "mandate/Unpacker" "end" "I" (.int (0 : Int32)) ∧ Fld Z h r "mandate/Records$Record" "source" "[B" .null ∧ Fld Z h r "mandate/Records$Record" "parent" "J" (.long (0 : Int64)) ∧ Fld Z h r "mandate/Records$Record" "step" "I" (.int (0 : Int32)) ∧ Fld Z h r "mandate/Records$Record" "keyStart" "I" (.int (0 : Int32)) ∧ Fld Z h r "mandate/Records$Record" "keyLength" "I" (.int (0 : Int32)) ∧ Fld Z h r "mandate/Records$Record" "bodyStart" "I" (.int (0 : Int32)) ∧ Fld Z h r "mandate/Records$Record" "bodyLength" "I" (.int (0 : Int32)) ∧ Fld Z h r "mandate/Records$Record" "numbers" "Lmandate/Unpacker;" (.ref u)) := by
  refine Ctr.of #[.val (.ref r)] (plainFor_of_name pn_6) Z0 (fun m => by first | (simp [entryFrame, mkF, argsToLocals, Value.category]; done) | rfl) ?_
  intro C H
  refine k_aloadN (pc := 0) H d3_0 rfl rfl ?_
  refine k_initObj (w := 0) (pc := 1) H (wd hw 16 rfl) (wd hw 17 rfl) (wd hw 18 rfl) d3_1 rfl (by decide) rfl (by decide) ?_
  refine k_aloadN (pc := 4) H d3_4 rfl rfl ?_
  refine k_newObj (pc := 5) H (wd hw 19 rfl) (wd hw 20 rfl) (wd hw 21 rfl) d3_5 (by decide) (by decide) ?_
  intro h166 u ea167 ge168 E169 X170 D171
  have fr172 : h0.size ≤ u := by rw [ea167]; exact (Keep.refl h0 [r]).1
  have ne173 : r ≠ u := Nat.ne_of_lt (by rw [ea167]; exact X.lt)
  have KW174 : Keep h0 h166 [r] := (Keep.refl h0 [r]).ext E169
  have f175 : Exa Z h166 r "mandate/Records$Record" := Jvm.RoadKit.Exa.ext E169 X
  have f176 : Fld Z h166 r "mandate/Records$Record" "source" "[B" .null := Jvm.RoadKit.Fld.ext E169 F0
  have f177 : Fld Z h166 r "mandate/Records$Record" "parent" "J" (.long (0 : Int64)) := Jvm.RoadKit.Fld.ext E169 F1
  have f178 : Fld Z h166 r "mandate/Records$Record" "step" "I" (.int (0 : Int32)) := Jvm.RoadKit.Fld.ext E169 F2
  have f179 : Fld Z h166 r "mandate/Records$Record" "keyStart" "I" (.int (0 : Int32)) := Jvm.RoadKit.Fld.ext E169 F3
  have f180 : Fld Z h166 r "mandate/Records$Record" "keyLength" "I" (.int (0 : Int32)) := Jvm.RoadKit.Fld.ext E169 F4
  have f181 : Fld Z h166 r "mandate/Records$Record" "bodyStart" "I" (.int (0 : Int32)) := Jvm.RoadKit.Fld.ext E169 F5
  have f182 : Fld Z h166 r "mandate/Records$Record" "bodyLength" "I" (.int (0 : Int32)) := Jvm.RoadKit.Fld.ext E169 F6
  have f183 : Fld Z h166 r "mandate/Records$Record" "numbers" "Lmandate/Unpacker;" .null := Jvm.RoadKit.Fld.ext E169 F7
  have f184 : Fld Z h166 u "mandate/Unpacker" "bytes" "[B" .null := D171 (Or.inl (wd hw 39 rfl)) (ty := (.array .byte)) (by decide)
  have f185 : Fld Z h166 u "mandate/Unpacker" "position" "I" (.int (0 : Int32)) := D171 (Or.inl (wd hw 41 rfl)) (ty := .int) (by decide)
  have f186 : Fld Z h166 u "mandate/Unpacker" "end" "I" (.int (0 : Int32)) := D171 (Or.inl (wd hw 43 rfl)) (ty := .int) (by decide)
  refine k_dup (pc := 8) H d3_8 rfl ?_
  refine k_invI (y := (⟨"mandate/Unpacker", "<init>", "()V"⟩ : MethodName)) (st := [(.ref u), (.ref r)]) (a := u) [] 2 (pc := 9) H rfl (wd hw 22 rfl) (wd hw 23 rfl) (wd hw 21 rfl) (wd hw 24 rfl) (by decide) (fun z0 => rm5 l Z a0 hw n0 h166 z0 u) (lenOf pd_4 rfl) d3_9 rfl rfl rfl (by decide) (by decide) (by decide) (by decide) ?_
  rintro v hx ⟨rfl, ex⟩
  rw [ex]
  clear ex hx
  show W l own_rm3_room C _ h166 1 3 12 #[.val (.ref r)] [(.ref u), (.ref r)]
  refine k_putfield (.object "mandate/Unpacker") (pc := 12) H (wd hw 26 rfl) f183 f175 (Or.inr ⟨(wd hw 27 rfl), rfl, rfl⟩) (wd hw 11 rfl) (by decide) rfl rfl ge d3_12 ?_
  intro h187 Wr188 f189
  have KW190 : Keep h0 h187 [r] := KW174.wr Wr188 (Or.inl (List.mem_of_getElem? (i := 0) rfl))
  have f191 : Exa Z h187 r "mandate/Records$Record" := Jvm.RoadKit.Exa.wr Wr188 f175
  have f192 : Fld Z h187 r "mandate/Records$Record" "source" "[B" .null := Jvm.RoadKit.Fld.other Wr188 f176 (Or.inr (slot_ne (t := (.array .byte)) (t' := (.object "mandate/Unpacker")) (Or.inl (wd hw 81 rfl)) (Or.inr (wd hw 27 rfl)) (by decide) (by decide) (by decide)))
  have f193 : Fld Z h187 r "mandate/Records$Record" "parent" "J" (.long (0 : Int64)) := Jvm.RoadKit.Fld.other Wr188 f177 (Or.inr (slot_ne (t := .long) (t' := (.object "mandate/Unpacker")) (Or.inl (wd hw 50 rfl)) (Or.inr (wd hw 27 rfl)) (by decide) (by decide) (by decide)))
  have f194 : Fld Z h187 r "mandate/Records$Record" "step" "I" (.int (0 : Int32)) := Jvm.RoadKit.Fld.other Wr188 f178 (Or.inr (slot_ne (t := .int) (t' := (.object "mandate/Unpacker")) (Or.inl (wd hw 58 rfl)) (Or.inr (wd hw 27 rfl)) (by decide) (by decide) (by decide)))
  have f195 : Fld Z h187 r "mandate/Records$Record" "keyStart" "I" (.int (0 : Int32)) := Jvm.RoadKit.Fld.other Wr188 f179 (Or.inr (slot_ne (t := .int) (t' := (.object "mandate/Unpacker")) (Or.inl (wd hw 83 rfl)) (Or.inr (wd hw 27 rfl)) (by decide) (by decide) (by decide)))
  have f196 : Fld Z h187 r "mandate/Records$Record" "keyLength" "I" (.int (0 : Int32)) := Jvm.RoadKit.Fld.other Wr188 f180 (Or.inr (slot_ne (t := .int) (t' := (.object "mandate/Unpacker")) (Or.inl (wd hw 60 rfl)) (Or.inr (wd hw 27 rfl)) (by decide) (by decide) (by decide)))
  have f197 : Fld Z h187 r "mandate/Records$Record" "bodyStart" "I" (.int (0 : Int32)) := Jvm.RoadKit.Fld.other Wr188 f181 (Or.inr (slot_ne (t := .int) (t' := (.object "mandate/Unpacker")) (Or.inl (wd hw 85 rfl)) (Or.inr (wd hw 27 rfl)) (by decide) (by decide) (by decide)))
  have f198 : Fld Z h187 r "mandate/Records$Record" "bodyLength" "I" (.int (0 : Int32)) := Jvm.RoadKit.Fld.other Wr188 f182 (Or.inr (slot_ne (t := .int) (t' := (.object "mandate/Unpacker")) (Or.inl (wd hw 62 rfl)) (Or.inr (wd hw 27 rfl)) (by decide) (by decide) (by decide)))
  have f199 : Exa Z h187 u "mandate/Unpacker" := Jvm.RoadKit.Exa.wr Wr188 X170
  have f200 : Fld Z h187 u "mandate/Unpacker" "bytes" "[B" .null := Jvm.RoadKit.Fld.other Wr188 f184 (Or.inl (Ne.symm ne173))
  have f201 : Fld Z h187 u "mandate/Unpacker" "position" "I" (.int (0 : Int32)) := Jvm.RoadKit.Fld.other Wr188 f185 (Or.inl (Ne.symm ne173))
  have f202 : Fld Z h187 u "mandate/Unpacker" "end" "I" (.int (0 : Int32)) := Jvm.RoadKit.Fld.other Wr188 f186 (Or.inl (Ne.symm ne173))
  exact k_retVoid (pc := 15) H d3_15 (by show 1 ≤ own_rm3_room.cells; decide) (by show 3 ≤ own_rm3_room.slots; decide) (⟨u, rfl, ge168, fr172, KW190, f199, f200, f201, f202, f192, f193, f194, f195, f196, f197, f198, f189⟩)
theorem d6_0 : decode prog_134_method_2_code 0 = .ok (.aload_n 0, 1) := by decide +kernel
theorem d6_1 : decode prog_134_method_2_code 1 = .ok (.getfield 10, 3) := by decide +kernel
theorem d6_4 : decode prog_134_method_2_code 4 = .ok (.aload_n 1, 1) := by decide +kernel
theorem d6_5 : decode prog_134_method_2_code 5 = .ok (.iload_n 2, 1) := by decide +kernel
theorem d6_6 : decode prog_134_method_2_code 6 = .ok (.aload_n 1, 1) := by decide +kernel
theorem d6_7 : decode prog_134_method_2_code 7 = .ok (.arraylength, 1) := by decide +kernel
theorem d6_8 : decode prog_134_method_2_code 8 = .ok (.iload_n 2, 1) := by decide +kernel
theorem d6_9 : decode prog_134_method_2_code 9 = .ok (.isub, 1) := by decide +kernel
theorem d6_10 : decode prog_134_method_2_code 10 = .ok (.invokevirtual 16, 3) := by decide +kernel
theorem d6_13 : decode prog_134_method_2_code 13 = .ok (.pop, 1) := by decide +kernel
theorem d6_14 : decode prog_134_method_2_code 14 = .ok (.aload_n 0, 1) := by decide +kernel
theorem d6_15 : decode prog_134_method_2_code 15 = .ok (.aload_n 0, 1) := by decide +kernel
theorem d6_16 : decode prog_134_method_2_code 16 = .ok (.getfield 10, 3) := by decide +kernel
theorem d6_19 : decode prog_134_method_2_code 19 = .ok (.invokevirtual 20, 3) := by decide +kernel
theorem d6_22 : decode prog_134_method_2_code 22 = .ok (.putfield 24, 3) := by decide +kernel
theorem d6_25 : decode prog_134_method_2_code 25 = .ok (.aload_n 0, 1) := by decide +kernel
theorem d6_26 : decode prog_134_method_2_code 26 = .ok (.aload_n 0, 1) := by decide +kernel
theorem d6_27 : decode prog_134_method_2_code 27 = .ok (.getfield 10, 3) := by decide +kernel
theorem d6_30 : decode prog_134_method_2_code 30 = .ok (.invokevirtual 28, 3) := by decide +kernel
theorem d6_33 : decode prog_134_method_2_code 33 = .ok (.putfield 32, 3) := by decide +kernel
theorem d6_36 : decode prog_134_method_2_code 36 = .ok (.aload_n 0, 1) := by decide +kernel
theorem d6_37 : decode prog_134_method_2_code 37 = .ok (.aload_n 0, 1) := by decide +kernel
theorem d6_38 : decode prog_134_method_2_code 38 = .ok (.getfield 10, 3) := by decide +kernel
theorem d6_41 : decode prog_134_method_2_code 41 = .ok (.invokevirtual 28, 3) := by decide +kernel
theorem d6_44 : decode prog_134_method_2_code 44 = .ok (.putfield 36, 3) := by decide +kernel
theorem d6_47 : decode prog_134_method_2_code 47 = .ok (.aload_n 0, 1) := by decide +kernel
theorem d6_48 : decode prog_134_method_2_code 48 = .ok (.aload_n 0, 1) := by decide +kernel
theorem d6_49 : decode prog_134_method_2_code 49 = .ok (.getfield 10, 3) := by decide +kernel
theorem d6_52 : decode prog_134_method_2_code 52 = .ok (.invokevirtual 28, 3) := by decide +kernel
theorem d6_55 : decode prog_134_method_2_code 55 = .ok (.putfield 39, 3) := by decide +kernel
theorem d6_58 : decode prog_134_method_2_code 58 = .ok (.aload_n 0, 1) := by decide +kernel
theorem d6_59 : decode prog_134_method_2_code 59 = .ok (.getfield 36, 3) := by decide +kernel
theorem d6_62 : decode prog_134_method_2_code 62 = .ok (.aload_n 0, 1) := by decide +kernel
theorem d6_63 : decode prog_134_method_2_code 63 = .ok (.getfield 39, 3) := by decide +kernel
theorem d6_66 : decode prog_134_method_2_code 66 = .ok (.aload_n 0, 1) := by decide +kernel
theorem d6_67 : decode prog_134_method_2_code 67 = .ok (.getfield 24, 3) := by decide +kernel
theorem d6_70 : decode prog_134_method_2_code 70 = .ok (.aload_n 0, 1) := by decide +kernel
theorem d6_71 : decode prog_134_method_2_code 71 = .ok (.getfield 32, 3) := by decide +kernel
theorem d6_74 : decode prog_134_method_2_code 74 = .ok (.invokestatic 42, 3) := by decide +kernel
theorem d6_77 : decode prog_134_method_2_code 77 = .ok (.aload_n 0, 1) := by decide +kernel
theorem d6_78 : decode prog_134_method_2_code 78 = .ok (.getfield 36, 3) := by decide +kernel
theorem d6_81 : decode prog_134_method_2_code 81 = .ok (.isub, 1) := by decide +kernel
theorem d6_82 : decode prog_134_method_2_code 82 = .ok (.aload_n 0, 1) := by decide +kernel
theorem d6_83 : decode prog_134_method_2_code 83 = .ok (.getfield 39, 3) := by decide +kernel
theorem d6_86 : decode prog_134_method_2_code 86 = .ok (.isub, 1) := by decide +kernel
theorem d6_87 : decode prog_134_method_2_code 87 = .ok (.istore_n 3, 1) := by decide +kernel
theorem d6_88 : decode prog_134_method_2_code 88 = .ok (.aload_n 0, 1) := by decide +kernel
theorem d6_89 : decode prog_134_method_2_code 89 = .ok (.aload_n 1, 1) := by decide +kernel
theorem d6_90 : decode prog_134_method_2_code 90 = .ok (.putfield 48, 3) := by decide +kernel
theorem d6_93 : decode prog_134_method_2_code 93 = .ok (.aload_n 0, 1) := by decide +kernel
theorem d6_94 : decode prog_134_method_2_code 94 = .ok (.iload_n 2, 1) := by decide +kernel
theorem d6_95 : decode prog_134_method_2_code 95 = .ok (.iload_n 3, 1) := by decide +kernel
theorem d6_96 : decode prog_134_method_2_code 96 = .ok (.iadd, 1) := by decide +kernel
theorem d6_97 : decode prog_134_method_2_code 97 = .ok (.putfield 52, 3) := by decide +kernel
theorem d6_100 : decode prog_134_method_2_code 100 = .ok (.aload_n 0, 1) := by decide +kernel
theorem d6_101 : decode prog_134_method_2_code 101 = .ok (.aload_n 0, 1) := by decide +kernel
theorem d6_102 : decode prog_134_method_2_code 102 = .ok (.getfield 52, 3) := by decide +kernel
theorem d6_105 : decode prog_134_method_2_code 105 = .ok (.aload_n 0, 1) := by decide +kernel
theorem d6_106 : decode prog_134_method_2_code 106 = .ok (.getfield 36, 3) := by decide +kernel
theorem d6_109 : decode prog_134_method_2_code 109 = .ok (.iadd, 1) := by decide +kernel
theorem d6_110 : decode prog_134_method_2_code 110 = .ok (.putfield 55, 3) := by decide +kernel
theorem d6_113 : decode prog_134_method_2_code 113 = .ok (.iload_n 3, 1) := by decide +kernel
theorem d6_114 : decode prog_134_method_2_code 114 = .ok (.aload_n 0, 1) := by decide +kernel
theorem d6_115 : decode prog_134_method_2_code 115 = .ok (.getfield 36, 3) := by decide +kernel
theorem d6_118 : decode prog_134_method_2_code 118 = .ok (.iadd, 1) := by decide +kernel
theorem d6_119 : decode prog_134_method_2_code 119 = .ok (.aload_n 0, 1) := by decide +kernel
theorem d6_120 : decode prog_134_method_2_code 120 = .ok (.getfield 39, 3) := by decide +kernel
theorem d6_123 : decode prog_134_method_2_code 123 = .ok (.iadd, 1) := by decide +kernel
theorem d6_124 : decode prog_134_method_2_code 124 = .ok (.ireturn, 1) := by decide +kernel
abbrev own_rm6_room : Room := { frames := 4, cells := 0, slots := 0, locals := 59 }
set_option maxRecDepth 65536 in
set_option maxHeartbeats 40000000 in
theorem rm6 (l : Launch) (Z : State) (a0 : Array Value) (hw : ∀ d ∈ tables_1, d.before a0 Z = true) (n0 : Nat) (h0 : Heap) (Z0 : n0 ≤ h0.size) (r u a : Addr) (xs : List Int8) (ai : Int32) (pp : Int64) (st kl bl : Int32) (t kn bn : Nat) (ge : n0 ≤ r) (geu : n0 ≤ u) (nru : r ≠ u) (nra : r ≠ a) (nua : u ≠ a) (X : Exa Z h0 r "mandate/Records$Record") (XU : Exa Z h0 u "mandate/Unpacker") (F0 : Fld Z h0 r "mandate/Records$Record" "source" "[B" .null) (F1 : Fld Z h0 r "mandate/Records$Record" "parent" "J" (.long (0 : Int64))) (F2 : Fld Z h0 r "mandate/Records$Record" "step" "I" (.int (0 : Int32))) (F3 : Fld Z h0 r "mandate/Records$Record" "keyStart" "I" (.int (0 : Int32))) (F4 : Fld Z h0 r "mandate/Records$Record" "keyLength" "I" (.int (0 : Int32))) (F5 : Fld Z h0 r "mandate/Records$Record" "bodyStart" "I" (.int (0 : Int32))) (F6 : Fld Z h0 r "mandate/Records$Record" "bodyLength" "I" (.int (0 : Int32))) (F7 : Fld Z h0 r "mandate/Records$Record" "numbers" "Lmandate/Unpacker;" (.ref u)) (G0 : Fld Z h0 u "mandate/Unpacker" "bytes" "[B" .null) (G1 : Fld Z h0 u "mandate/Unpacker" "position" "I" (.int (0 : Int32))) (G2 : Fld Z h0 u "mandate/Unpacker" "end" "I" (.int (0 : Int32))) (V : BA Z h0 a xs) (hl : xs.length = 32) (hat : ai.toInt = (t : Int)) (ht : t < 8) (hk : kl.toInt = (kn : Int)) (hk2 : kn < 64) (hb : bl.toInt = (bn : Int)) (hb2 : bn < 64) (T1 : own_ten xs t pp) (T2 : own_ten xs (t + 10) st.toInt64) (T3 : xs[t + 20]? = some kl.toInt8) (T4 : xs[t + 21]? = some bl.toInt8) :
    Ctr l Z (⟨"mandate/Records$Record", "read", "([BI)I"⟩ : MethodName) prog_134_method_2_code 4 (some .int) own_rm6_room n0 #[(.ref r), (.ref a), (.int ai)] h0 (fun v h => ∃ res ks bs : Int32, v = some (.int res) ∧ Keep h0 h [r, u] ∧ Fld Z h r "mandate/Records$Record" "source" "[B" (.ref a) ∧ Fld Z h r "mandate/Records$Record" "parent" "J" (.long pp) ∧ Fld Z h r "mandate/Records$Record" "step" "I" (.int st) ∧ Fld Z h r "mandate/Records$Record" "keyStart" "I" (.int ks) ∧ Fld Z h r "mandate/Records$Record" "keyLength" "I" (.int kl) ∧ Fld Z h r "mandate/Records$Record" "bodyStart" "I" (.int bs) ∧ Fld Z h r "mandate/Records$Record" "bodyLength" "I" (.int bl)) := by
  refine Ctr.of #[.val (.ref r), .val (.ref a), .val (.int ai), .unset] (plainFor_of_name pn_6) Z0 (fun m => by first | (simp [entryFrame, mkF, argsToLocals, Value.category]; done) | rfl) ?_
  intro C H
  refine k_aloadN (pc := 0) H d6_0 rfl rfl ?_
  refine k_getfield (pc := 1) H (wd hw 26 rfl) F7 d6_1 ?_
  refine k_aloadN (pc := 4) H d6_4 rfl rfl ?_
  refine k_iloadN (pc := 5) H d6_5 rfl ?_
  refine k_aloadN (pc := 6) H d6_6 rfl rfl ?_
  refine k_arraylength (N := (32 : Int32)) (pc := 7) H V (by simpa [hl] using (rfl : (32 : Int32).toInt = 32)) d6_7 ?_
  refine k_iloadN (pc := 8) H d6_8 rfl ?_
  refine k_isub (pc := 9) H d6_9 ?_
  refine k_invV (y := (⟨"mandate/Unpacker", "reset", "([BII)Lmandate/Unpacker;"⟩ : MethodName)) (st := []) (a := u) [(.ref a), (.int ai), (.int ((32 : Int32) - ai))] 0 (pc := 10) H (wd hw 33 rfl) (wd hw 34 rfl) (wd hw 36 rfl) (wd hw 35 rfl) (wd hw 21 rfl) (wd hw 37 rfl) rfl (by decide) XU (fun z0 => rm7 l Z a0 hw n0 h0 z0 u a ai ((32 : Int32) - ai) geu XU G0 G1 G2) (lenOf pd_5 rfl) d6_10 rfl rfl rfl (by decide) (by decide) (by decide) (by decide) ?_
  rintro v h204 ⟨rfl, K203, f205, f206, f207⟩
  show W l own_rm6_room C _ h204 0 0 13 #[.val (.ref r), .val (.ref a), .val (.int ai), .unset] [(.ref u)]
  have KW208 : Keep h0 h204 [r, u] := (Keep.refl h0 [r, u]).trans K203 (allS (Or.inl (List.mem_of_getElem? (i := 1) rfl)) all0)
  have f209 : Exa Z h204 r "mandate/Records$Record" := X.keep K203
  have f210 : Exa Z h204 u "mandate/Unpacker" := XU.keep K203
  have f211 : Fld Z h204 r "mandate/Records$Record" "source" "[B" .null := F0.keep K203 (ninS nru nin0)
  have f212 : Fld Z h204 r "mandate/Records$Record" "parent" "J" (.long (0 : Int64)) := F1.keep K203 (ninS nru nin0)
  have f213 : Fld Z h204 r "mandate/Records$Record" "step" "I" (.int (0 : Int32)) := F2.keep K203 (ninS nru nin0)
  have f214 : Fld Z h204 r "mandate/Records$Record" "keyStart" "I" (.int (0 : Int32)) := F3.keep K203 (ninS nru nin0)
  have f215 : Fld Z h204 r "mandate/Records$Record" "keyLength" "I" (.int (0 : Int32)) := F4.keep K203 (ninS nru nin0)
  have f216 : Fld Z h204 r "mandate/Records$Record" "bodyStart" "I" (.int (0 : Int32)) := F5.keep K203 (ninS nru nin0)
  have f217 : Fld Z h204 r "mandate/Records$Record" "bodyLength" "I" (.int (0 : Int32)) := F6.keep K203 (ninS nru nin0)
  have f218 : Fld Z h204 r "mandate/Records$Record" "numbers" "Lmandate/Unpacker;" (.ref u) := F7.keep K203 (ninS nru nin0)
  have f219 : BA Z h204 a xs := V.keep K203 (ninS (Ne.symm nua) nin0)
  have he : (ai + ((32 : Int32) - ai)).toInt = ((32 : Nat) : Int) := by rw [add_nat hat (sub_nat (i := 32) rfl hat (by omega)) (by omega)]; omega
  refine k_pop (pc := 13) H d6_13 rfl ?_
  refine k_aloadN (pc := 14) H d6_14 rfl rfl ?_
  refine k_aloadN (pc := 15) H d6_15 rfl rfl ?_
  refine k_getfield (pc := 16) H (wd hw 26 rfl) f218 d6_16 ?_
  refine k_invV (y := (⟨"mandate/Unpacker", "readLong", "()J"⟩ : MethodName)) (st := [(.ref r)]) (a := u) [] 1 (pc := 19) H (wd hw 44 rfl) (wd hw 45 rfl) (wd hw 47 rfl) (wd hw 46 rfl) (wd hw 21 rfl) (wd hw 48 rfl) rfl (by decide) f210 (fun z0 => rlT l Z a0 hw n0 h204 z0 u a xs ai (ai + ((32 : Int32) - ai)) (t) 32 pp geu nua f210 f205 f206 f207 f219 hat he (by omega) (by omega) T1) (lenOf pd_1 rfl) d6_19 rfl rfl rfl (by decide) (by decide) (by decide) (by decide) ?_
  rintro v h224 ⟨q0, hq0, rfl, K220, G221, G222, G223⟩
  show W l own_rm6_room C _ h224 0 0 22 #[.val (.ref r), .val (.ref a), .val (.int ai), .unset] [(.long pp), (.ref r)]
  have KW225 : Keep h0 h224 [r, u] := KW208.trans K220 (allS (Or.inl (List.mem_of_getElem? (i := 1) rfl)) all0)
  have f226 : Exa Z h224 r "mandate/Records$Record" := f209.keep K220
  have f227 : Exa Z h224 u "mandate/Unpacker" := f210.keep K220
  have f228 : Fld Z h224 r "mandate/Records$Record" "source" "[B" .null := f211.keep K220 (ninS nru nin0)
  have f229 : Fld Z h224 r "mandate/Records$Record" "parent" "J" (.long (0 : Int64)) := f212.keep K220 (ninS nru nin0)
  have f230 : Fld Z h224 r "mandate/Records$Record" "step" "I" (.int (0 : Int32)) := f213.keep K220 (ninS nru nin0)
  have f231 : Fld Z h224 r "mandate/Records$Record" "keyStart" "I" (.int (0 : Int32)) := f214.keep K220 (ninS nru nin0)
  have f232 : Fld Z h224 r "mandate/Records$Record" "keyLength" "I" (.int (0 : Int32)) := f215.keep K220 (ninS nru nin0)
  have f233 : Fld Z h224 r "mandate/Records$Record" "bodyStart" "I" (.int (0 : Int32)) := f216.keep K220 (ninS nru nin0)
  have f234 : Fld Z h224 r "mandate/Records$Record" "bodyLength" "I" (.int (0 : Int32)) := f217.keep K220 (ninS nru nin0)
  have f235 : Fld Z h224 r "mandate/Records$Record" "numbers" "Lmandate/Unpacker;" (.ref u) := f218.keep K220 (ninS nru nin0)
  have f236 : BA Z h224 a xs := f219.keep K220 (ninS (Ne.symm nua) nin0)
  refine k_putfield .long (pc := 22) H (wd hw 49 rfl) f229 f226 (Or.inl (wd hw 50 rfl)) (wd hw 11 rfl) (by decide) rfl rfl ge d6_22 ?_
  intro h237 Wr238 f239
  have KW240 : Keep h0 h237 [r, u] := KW225.wr Wr238 (Or.inl (List.mem_of_getElem? (i := 0) rfl))
  have f241 : Exa Z h237 r "mandate/Records$Record" := Jvm.RoadKit.Exa.wr Wr238 f226
  have f242 : Exa Z h237 u "mandate/Unpacker" := Jvm.RoadKit.Exa.wr Wr238 f227
  have f243 : Fld Z h237 r "mandate/Records$Record" "source" "[B" .null := Jvm.RoadKit.Fld.other Wr238 f228 (Or.inr (slot_ne (t := (.array .byte)) (t' := .long) (Or.inl (wd hw 81 rfl)) (Or.inl (wd hw 50 rfl)) (by decide) (by decide) (by decide)))
  have f244 : Fld Z h237 r "mandate/Records$Record" "step" "I" (.int (0 : Int32)) := Jvm.RoadKit.Fld.other Wr238 f230 (Or.inr (slot_ne (t := .int) (t' := .long) (Or.inl (wd hw 58 rfl)) (Or.inl (wd hw 50 rfl)) (by decide) (by decide) (by decide)))
  have f245 : Fld Z h237 r "mandate/Records$Record" "keyStart" "I" (.int (0 : Int32)) := Jvm.RoadKit.Fld.other Wr238 f231 (Or.inr (slot_ne (t := .int) (t' := .long) (Or.inl (wd hw 83 rfl)) (Or.inl (wd hw 50 rfl)) (by decide) (by decide) (by decide)))
  have f246 : Fld Z h237 r "mandate/Records$Record" "keyLength" "I" (.int (0 : Int32)) := Jvm.RoadKit.Fld.other Wr238 f232 (Or.inr (slot_ne (t := .int) (t' := .long) (Or.inl (wd hw 60 rfl)) (Or.inl (wd hw 50 rfl)) (by decide) (by decide) (by decide)))
  have f247 : Fld Z h237 r "mandate/Records$Record" "bodyStart" "I" (.int (0 : Int32)) := Jvm.RoadKit.Fld.other Wr238 f233 (Or.inr (slot_ne (t := .int) (t' := .long) (Or.inl (wd hw 85 rfl)) (Or.inl (wd hw 50 rfl)) (by decide) (by decide) (by decide)))
  have f248 : Fld Z h237 r "mandate/Records$Record" "bodyLength" "I" (.int (0 : Int32)) := Jvm.RoadKit.Fld.other Wr238 f234 (Or.inr (slot_ne (t := .int) (t' := .long) (Or.inl (wd hw 62 rfl)) (Or.inl (wd hw 50 rfl)) (by decide) (by decide) (by decide)))
  have f249 : Fld Z h237 r "mandate/Records$Record" "numbers" "Lmandate/Unpacker;" (.ref u) := Jvm.RoadKit.Fld.other Wr238 f235 (Or.inr (slot_ne (t := (.object "mandate/Unpacker")) (t' := .long) (Or.inr (wd hw 27 rfl)) (Or.inl (wd hw 50 rfl)) (by decide) (by decide) (by decide)))
  have f250 : BA Z h237 a xs := f236.other Wr238 (Ne.symm nra)
  have f251 : Fld Z h237 u "mandate/Unpacker" "bytes" "[B" (.ref a) := Jvm.RoadKit.Fld.other Wr238 G221 (Or.inl (Ne.symm nru))
  have f252 : Fld Z h237 u "mandate/Unpacker" "position" "I" (.int q0) := Jvm.RoadKit.Fld.other Wr238 G222 (Or.inl (Ne.symm nru))
  have f253 : Fld Z h237 u "mandate/Unpacker" "end" "I" (.int (ai + ((32 : Int32) - ai))) := Jvm.RoadKit.Fld.other Wr238 G223 (Or.inl (Ne.symm nru))
  refine k_aloadN (pc := 25) H d6_25 rfl rfl ?_
  refine k_aloadN (pc := 26) H d6_26 rfl rfl ?_
  have hr0 : q0.toInt = ((t + 10 : Nat) : Int) := by rw [hq0]
  refine k_getfield (pc := 27) H (wd hw 26 rfl) f249 d6_27 ?_
  refine k_invV (y := (⟨"mandate/Unpacker", "readInt", "()I"⟩ : MethodName)) (st := [(.ref r)]) (a := u) [] 1 (pc := 30) H (wd hw 51 rfl) (wd hw 52 rfl) (wd hw 54 rfl) (wd hw 53 rfl) (wd hw 21 rfl) (wd hw 55 rfl) rfl (by decide) f242 (fun z0 => riT l Z a0 hw n0 h237 z0 u a xs q0 (ai + ((32 : Int32) - ai)) (t + 10) 32 st geu nua f242 f251 f252 f253 f250 hr0 he (by omega) (by omega) T2) (lenOf pd_6 rfl) d6_30 rfl rfl rfl (by decide) (by decide) (by decide) (by decide) ?_
  rintro v h258 ⟨q1, hq1, rfl, K254, G255, G256, G257⟩
  show W l own_rm6_room C _ h258 0 0 33 #[.val (.ref r), .val (.ref a), .val (.int ai), .unset] [(.int st), (.ref r)]
  have KW259 : Keep h0 h258 [r, u] := KW240.trans K254 (allS (Or.inl (List.mem_of_getElem? (i := 1) rfl)) all0)
  have f260 : Exa Z h258 r "mandate/Records$Record" := f241.keep K254
  have f261 : Exa Z h258 u "mandate/Unpacker" := f242.keep K254
  have f262 : Fld Z h258 r "mandate/Records$Record" "source" "[B" .null := f243.keep K254 (ninS nru nin0)
  have f263 : Fld Z h258 r "mandate/Records$Record" "step" "I" (.int (0 : Int32)) := f244.keep K254 (ninS nru nin0)
  have f264 : Fld Z h258 r "mandate/Records$Record" "keyStart" "I" (.int (0 : Int32)) := f245.keep K254 (ninS nru nin0)
  have f265 : Fld Z h258 r "mandate/Records$Record" "keyLength" "I" (.int (0 : Int32)) := f246.keep K254 (ninS nru nin0)
  have f266 : Fld Z h258 r "mandate/Records$Record" "bodyStart" "I" (.int (0 : Int32)) := f247.keep K254 (ninS nru nin0)
  have f267 : Fld Z h258 r "mandate/Records$Record" "bodyLength" "I" (.int (0 : Int32)) := f248.keep K254 (ninS nru nin0)
  have f268 : Fld Z h258 r "mandate/Records$Record" "numbers" "Lmandate/Unpacker;" (.ref u) := f249.keep K254 (ninS nru nin0)
  have f269 : BA Z h258 a xs := f250.keep K254 (ninS (Ne.symm nua) nin0)
  have f270 : Fld Z h258 r "mandate/Records$Record" "parent" "J" (.long pp) := f239.keep K254 (ninS nru nin0)
  refine k_putfield .int (pc := 33) H (wd hw 57 rfl) f263 f260 (Or.inl (wd hw 58 rfl)) (wd hw 11 rfl) (by decide) rfl rfl ge d6_33 ?_
  intro h271 Wr272 f273
  have KW274 : Keep h0 h271 [r, u] := KW259.wr Wr272 (Or.inl (List.mem_of_getElem? (i := 0) rfl))
  have f275 : Exa Z h271 r "mandate/Records$Record" := Jvm.RoadKit.Exa.wr Wr272 f260
  have f276 : Exa Z h271 u "mandate/Unpacker" := Jvm.RoadKit.Exa.wr Wr272 f261
  have f277 : Fld Z h271 r "mandate/Records$Record" "source" "[B" .null := Jvm.RoadKit.Fld.other Wr272 f262 (Or.inr (slot_ne (t := (.array .byte)) (t' := .int) (Or.inl (wd hw 81 rfl)) (Or.inl (wd hw 58 rfl)) (by decide) (by decide) (by decide)))
  have f278 : Fld Z h271 r "mandate/Records$Record" "keyStart" "I" (.int (0 : Int32)) := Jvm.RoadKit.Fld.other Wr272 f264 (Or.inr (slot_ne (t := .int) (t' := .int) (Or.inl (wd hw 83 rfl)) (Or.inl (wd hw 58 rfl)) (by decide) (by decide) (by decide)))
  have f279 : Fld Z h271 r "mandate/Records$Record" "keyLength" "I" (.int (0 : Int32)) := Jvm.RoadKit.Fld.other Wr272 f265 (Or.inr (slot_ne (t := .int) (t' := .int) (Or.inl (wd hw 60 rfl)) (Or.inl (wd hw 58 rfl)) (by decide) (by decide) (by decide)))
  have f280 : Fld Z h271 r "mandate/Records$Record" "bodyStart" "I" (.int (0 : Int32)) := Jvm.RoadKit.Fld.other Wr272 f266 (Or.inr (slot_ne (t := .int) (t' := .int) (Or.inl (wd hw 85 rfl)) (Or.inl (wd hw 58 rfl)) (by decide) (by decide) (by decide)))
  have f281 : Fld Z h271 r "mandate/Records$Record" "bodyLength" "I" (.int (0 : Int32)) := Jvm.RoadKit.Fld.other Wr272 f267 (Or.inr (slot_ne (t := .int) (t' := .int) (Or.inl (wd hw 62 rfl)) (Or.inl (wd hw 58 rfl)) (by decide) (by decide) (by decide)))
  have f282 : Fld Z h271 r "mandate/Records$Record" "numbers" "Lmandate/Unpacker;" (.ref u) := Jvm.RoadKit.Fld.other Wr272 f268 (Or.inr (slot_ne (t := (.object "mandate/Unpacker")) (t' := .int) (Or.inr (wd hw 27 rfl)) (Or.inl (wd hw 58 rfl)) (by decide) (by decide) (by decide)))
  have f283 : BA Z h271 a xs := f269.other Wr272 (Ne.symm nra)
  have f284 : Fld Z h271 r "mandate/Records$Record" "parent" "J" (.long pp) := Jvm.RoadKit.Fld.other Wr272 f270 (Or.inr (slot_ne (t := .long) (t' := .int) (Or.inl (wd hw 50 rfl)) (Or.inl (wd hw 58 rfl)) (by decide) (by decide) (by decide)))
  have f285 : Fld Z h271 u "mandate/Unpacker" "bytes" "[B" (.ref a) := Jvm.RoadKit.Fld.other Wr272 G255 (Or.inl (Ne.symm nru))
  have f286 : Fld Z h271 u "mandate/Unpacker" "position" "I" (.int q1) := Jvm.RoadKit.Fld.other Wr272 G256 (Or.inl (Ne.symm nru))
  have f287 : Fld Z h271 u "mandate/Unpacker" "end" "I" (.int (ai + ((32 : Int32) - ai))) := Jvm.RoadKit.Fld.other Wr272 G257 (Or.inl (Ne.symm nru))
  refine k_aloadN (pc := 36) H d6_36 rfl rfl ?_
  refine k_aloadN (pc := 37) H d6_37 rfl rfl ?_
  have hr1 : q1.toInt = ((t + 20 : Nat) : Int) := by rw [hq1]
  refine k_getfield (pc := 38) H (wd hw 26 rfl) f282 d6_38 ?_
  refine k_invV (y := (⟨"mandate/Unpacker", "readInt", "()I"⟩ : MethodName)) (st := [(.ref r)]) (a := u) [] 1 (pc := 41) H (wd hw 51 rfl) (wd hw 52 rfl) (wd hw 54 rfl) (wd hw 53 rfl) (wd hw 21 rfl) (wd hw 55 rfl) rfl (by decide) f276 (fun z0 => riO l Z a0 hw n0 h271 z0 u a xs q1 (ai + ((32 : Int32) - ai)) (t + 20) 32 kl kn geu nua f276 f285 f286 f287 f283 hr1 he (by omega) (by omega) T3 hk hk2) (lenOf pd_6 rfl) d6_41 rfl rfl rfl (by decide) (by decide) (by decide) (by decide) ?_
  rintro v h292 ⟨q2, hq2, rfl, K288, G289, G290, G291⟩
  show W l own_rm6_room C _ h292 0 0 44 #[.val (.ref r), .val (.ref a), .val (.int ai), .unset] [(.int kl), (.ref r)]
  have KW293 : Keep h0 h292 [r, u] := KW274.trans K288 (allS (Or.inl (List.mem_of_getElem? (i := 1) rfl)) all0)
  have f294 : Exa Z h292 r "mandate/Records$Record" := f275.keep K288
  have f295 : Exa Z h292 u "mandate/Unpacker" := f276.keep K288
  have f296 : Fld Z h292 r "mandate/Records$Record" "source" "[B" .null := f277.keep K288 (ninS nru nin0)
  have f297 : Fld Z h292 r "mandate/Records$Record" "keyStart" "I" (.int (0 : Int32)) := f278.keep K288 (ninS nru nin0)
  have f298 : Fld Z h292 r "mandate/Records$Record" "keyLength" "I" (.int (0 : Int32)) := f279.keep K288 (ninS nru nin0)
  have f299 : Fld Z h292 r "mandate/Records$Record" "bodyStart" "I" (.int (0 : Int32)) := f280.keep K288 (ninS nru nin0)
  have f300 : Fld Z h292 r "mandate/Records$Record" "bodyLength" "I" (.int (0 : Int32)) := f281.keep K288 (ninS nru nin0)
  have f301 : Fld Z h292 r "mandate/Records$Record" "numbers" "Lmandate/Unpacker;" (.ref u) := f282.keep K288 (ninS nru nin0)
  have f302 : BA Z h292 a xs := f283.keep K288 (ninS (Ne.symm nua) nin0)
  have f303 : Fld Z h292 r "mandate/Records$Record" "parent" "J" (.long pp) := f284.keep K288 (ninS nru nin0)
  have f304 : Fld Z h292 r "mandate/Records$Record" "step" "I" (.int st) := f273.keep K288 (ninS nru nin0)
  refine k_putfield .int (pc := 44) H (wd hw 59 rfl) f298 f294 (Or.inl (wd hw 60 rfl)) (wd hw 11 rfl) (by decide) rfl rfl ge d6_44 ?_
  intro h305 Wr306 f307
  have KW308 : Keep h0 h305 [r, u] := KW293.wr Wr306 (Or.inl (List.mem_of_getElem? (i := 0) rfl))
  have f309 : Exa Z h305 r "mandate/Records$Record" := Jvm.RoadKit.Exa.wr Wr306 f294
  have f310 : Exa Z h305 u "mandate/Unpacker" := Jvm.RoadKit.Exa.wr Wr306 f295
  have f311 : Fld Z h305 r "mandate/Records$Record" "source" "[B" .null := Jvm.RoadKit.Fld.other Wr306 f296 (Or.inr (slot_ne (t := (.array .byte)) (t' := .int) (Or.inl (wd hw 81 rfl)) (Or.inl (wd hw 60 rfl)) (by decide) (by decide) (by decide)))
  have f312 : Fld Z h305 r "mandate/Records$Record" "keyStart" "I" (.int (0 : Int32)) := Jvm.RoadKit.Fld.other Wr306 f297 (Or.inr (slot_ne (t := .int) (t' := .int) (Or.inl (wd hw 83 rfl)) (Or.inl (wd hw 60 rfl)) (by decide) (by decide) (by decide)))
  have f313 : Fld Z h305 r "mandate/Records$Record" "bodyStart" "I" (.int (0 : Int32)) := Jvm.RoadKit.Fld.other Wr306 f299 (Or.inr (slot_ne (t := .int) (t' := .int) (Or.inl (wd hw 85 rfl)) (Or.inl (wd hw 60 rfl)) (by decide) (by decide) (by decide)))
  have f314 : Fld Z h305 r "mandate/Records$Record" "bodyLength" "I" (.int (0 : Int32)) := Jvm.RoadKit.Fld.other Wr306 f300 (Or.inr (slot_ne (t := .int) (t' := .int) (Or.inl (wd hw 62 rfl)) (Or.inl (wd hw 60 rfl)) (by decide) (by decide) (by decide)))
  have f315 : Fld Z h305 r "mandate/Records$Record" "numbers" "Lmandate/Unpacker;" (.ref u) := Jvm.RoadKit.Fld.other Wr306 f301 (Or.inr (slot_ne (t := (.object "mandate/Unpacker")) (t' := .int) (Or.inr (wd hw 27 rfl)) (Or.inl (wd hw 60 rfl)) (by decide) (by decide) (by decide)))
  have f316 : BA Z h305 a xs := f302.other Wr306 (Ne.symm nra)
  have f317 : Fld Z h305 r "mandate/Records$Record" "parent" "J" (.long pp) := Jvm.RoadKit.Fld.other Wr306 f303 (Or.inr (slot_ne (t := .long) (t' := .int) (Or.inl (wd hw 50 rfl)) (Or.inl (wd hw 60 rfl)) (by decide) (by decide) (by decide)))
  have f318 : Fld Z h305 r "mandate/Records$Record" "step" "I" (.int st) := Jvm.RoadKit.Fld.other Wr306 f304 (Or.inr (slot_ne (t := .int) (t' := .int) (Or.inl (wd hw 58 rfl)) (Or.inl (wd hw 60 rfl)) (by decide) (by decide) (by decide)))
  have f319 : Fld Z h305 u "mandate/Unpacker" "bytes" "[B" (.ref a) := Jvm.RoadKit.Fld.other Wr306 G289 (Or.inl (Ne.symm nru))
  have f320 : Fld Z h305 u "mandate/Unpacker" "position" "I" (.int q2) := Jvm.RoadKit.Fld.other Wr306 G290 (Or.inl (Ne.symm nru))
  have f321 : Fld Z h305 u "mandate/Unpacker" "end" "I" (.int (ai + ((32 : Int32) - ai))) := Jvm.RoadKit.Fld.other Wr306 G291 (Or.inl (Ne.symm nru))
  refine k_aloadN (pc := 47) H d6_47 rfl rfl ?_
  refine k_aloadN (pc := 48) H d6_48 rfl rfl ?_
  have hr2 : q2.toInt = ((t + 21 : Nat) : Int) := by rw [hq2]
  refine k_getfield (pc := 49) H (wd hw 26 rfl) f315 d6_49 ?_
  refine k_invV (y := (⟨"mandate/Unpacker", "readInt", "()I"⟩ : MethodName)) (st := [(.ref r)]) (a := u) [] 1 (pc := 52) H (wd hw 51 rfl) (wd hw 52 rfl) (wd hw 54 rfl) (wd hw 53 rfl) (wd hw 21 rfl) (wd hw 55 rfl) rfl (by decide) f310 (fun z0 => riO l Z a0 hw n0 h305 z0 u a xs q2 (ai + ((32 : Int32) - ai)) (t + 21) 32 bl bn geu nua f310 f319 f320 f321 f316 hr2 he (by omega) (by omega) T4 hb hb2) (lenOf pd_6 rfl) d6_52 rfl rfl rfl (by decide) (by decide) (by decide) (by decide) ?_
  rintro v h326 ⟨q3, hq3, rfl, K322, G323, G324, G325⟩
  show W l own_rm6_room C _ h326 0 0 55 #[.val (.ref r), .val (.ref a), .val (.int ai), .unset] [(.int bl), (.ref r)]
  have KW327 : Keep h0 h326 [r, u] := KW308.trans K322 (allS (Or.inl (List.mem_of_getElem? (i := 1) rfl)) all0)
  have f328 : Exa Z h326 r "mandate/Records$Record" := f309.keep K322
  have f329 : Exa Z h326 u "mandate/Unpacker" := f310.keep K322
  have f330 : Fld Z h326 r "mandate/Records$Record" "source" "[B" .null := f311.keep K322 (ninS nru nin0)
  have f331 : Fld Z h326 r "mandate/Records$Record" "keyStart" "I" (.int (0 : Int32)) := f312.keep K322 (ninS nru nin0)
  have f332 : Fld Z h326 r "mandate/Records$Record" "bodyStart" "I" (.int (0 : Int32)) := f313.keep K322 (ninS nru nin0)
  have f333 : Fld Z h326 r "mandate/Records$Record" "bodyLength" "I" (.int (0 : Int32)) := f314.keep K322 (ninS nru nin0)
  have f334 : Fld Z h326 r "mandate/Records$Record" "numbers" "Lmandate/Unpacker;" (.ref u) := f315.keep K322 (ninS nru nin0)
  have f335 : BA Z h326 a xs := f316.keep K322 (ninS (Ne.symm nua) nin0)
  have f336 : Fld Z h326 r "mandate/Records$Record" "parent" "J" (.long pp) := f317.keep K322 (ninS nru nin0)
  have f337 : Fld Z h326 r "mandate/Records$Record" "step" "I" (.int st) := f318.keep K322 (ninS nru nin0)
  have f338 : Fld Z h326 r "mandate/Records$Record" "keyLength" "I" (.int kl) := f307.keep K322 (ninS nru nin0)
  refine k_putfield .int (pc := 55) H (wd hw 61 rfl) f333 f328 (Or.inl (wd hw 62 rfl)) (wd hw 11 rfl) (by decide) rfl rfl ge d6_55 ?_
  intro h339 Wr340 f341
  have KW342 : Keep h0 h339 [r, u] := KW327.wr Wr340 (Or.inl (List.mem_of_getElem? (i := 0) rfl))
  have f343 : Exa Z h339 r "mandate/Records$Record" := Jvm.RoadKit.Exa.wr Wr340 f328
  have f344 : Exa Z h339 u "mandate/Unpacker" := Jvm.RoadKit.Exa.wr Wr340 f329
  have f345 : Fld Z h339 r "mandate/Records$Record" "source" "[B" .null := Jvm.RoadKit.Fld.other Wr340 f330 (Or.inr (slot_ne (t := (.array .byte)) (t' := .int) (Or.inl (wd hw 81 rfl)) (Or.inl (wd hw 62 rfl)) (by decide) (by decide) (by decide)))
  have f346 : Fld Z h339 r "mandate/Records$Record" "keyStart" "I" (.int (0 : Int32)) := Jvm.RoadKit.Fld.other Wr340 f331 (Or.inr (slot_ne (t := .int) (t' := .int) (Or.inl (wd hw 83 rfl)) (Or.inl (wd hw 62 rfl)) (by decide) (by decide) (by decide)))
  have f347 : Fld Z h339 r "mandate/Records$Record" "bodyStart" "I" (.int (0 : Int32)) := Jvm.RoadKit.Fld.other Wr340 f332 (Or.inr (slot_ne (t := .int) (t' := .int) (Or.inl (wd hw 85 rfl)) (Or.inl (wd hw 62 rfl)) (by decide) (by decide) (by decide)))
  have f348 : Fld Z h339 r "mandate/Records$Record" "numbers" "Lmandate/Unpacker;" (.ref u) := Jvm.RoadKit.Fld.other Wr340 f334 (Or.inr (slot_ne (t := (.object "mandate/Unpacker")) (t' := .int) (Or.inr (wd hw 27 rfl)) (Or.inl (wd hw 62 rfl)) (by decide) (by decide) (by decide)))
  have f349 : BA Z h339 a xs := f335.other Wr340 (Ne.symm nra)
  have f350 : Fld Z h339 r "mandate/Records$Record" "parent" "J" (.long pp) := Jvm.RoadKit.Fld.other Wr340 f336 (Or.inr (slot_ne (t := .long) (t' := .int) (Or.inl (wd hw 50 rfl)) (Or.inl (wd hw 62 rfl)) (by decide) (by decide) (by decide)))
  have f351 : Fld Z h339 r "mandate/Records$Record" "step" "I" (.int st) := Jvm.RoadKit.Fld.other Wr340 f337 (Or.inr (slot_ne (t := .int) (t' := .int) (Or.inl (wd hw 58 rfl)) (Or.inl (wd hw 62 rfl)) (by decide) (by decide) (by decide)))
  have f352 : Fld Z h339 r "mandate/Records$Record" "keyLength" "I" (.int kl) := Jvm.RoadKit.Fld.other Wr340 f338 (Or.inr (slot_ne (t := .int) (t' := .int) (Or.inl (wd hw 60 rfl)) (Or.inl (wd hw 62 rfl)) (by decide) (by decide) (by decide)))
  have f353 : Fld Z h339 u "mandate/Unpacker" "bytes" "[B" (.ref a) := Jvm.RoadKit.Fld.other Wr340 G323 (Or.inl (Ne.symm nru))
  have f354 : Fld Z h339 u "mandate/Unpacker" "position" "I" (.int q3) := Jvm.RoadKit.Fld.other Wr340 G324 (Or.inl (Ne.symm nru))
  have f355 : Fld Z h339 u "mandate/Unpacker" "end" "I" (.int (ai + ((32 : Int32) - ai))) := Jvm.RoadKit.Fld.other Wr340 G325 (Or.inl (Ne.symm nru))
  refine k_aloadN (pc := 58) H d6_58 rfl rfl ?_
  have hr3 : q3.toInt = ((t + 22 : Nat) : Int) := by rw [hq3]
  refine k_getfield (pc := 59) H (wd hw 59 rfl) f352 d6_59 ?_
  refine k_aloadN (pc := 62) H d6_62 rfl rfl ?_
  refine k_getfield (pc := 63) H (wd hw 61 rfl) f341 d6_63 ?_
  refine k_aloadN (pc := 66) H d6_66 rfl rfl ?_
  refine k_getfield (pc := 67) H (wd hw 49 rfl) f350 d6_67 ?_
  refine k_aloadN (pc := 70) H d6_70 rfl rfl ?_
  refine k_getfield (pc := 71) H (wd hw 57 rfl) f351 d6_71 ?_
  refine k_invS (y := (⟨"mandate/Batch", "size", "(IIJI)I"⟩ : MethodName)) (st := []) [(.int kl), (.int bl), (.long pp), (.int st)] 0 (pc := 74) H (wd hw 63 rfl) (wd hw 64 rfl) (wd hw 65 rfl) (wd hw 66 rfl) (by decide) (fun z0 => rm10 l Z a0 hw n0 h339 z0 kl bl pp st) (lenOf pd_7 rfl) d6_74 rfl rfl rfl (by decide) (by decide) (by decide) (by decide) ?_
  rintro v hx ⟨yb, rfl, ex⟩
  rw [ex]
  clear ex hx
  show W l own_rm6_room C _ h339 0 0 77 #[.val (.ref r), .val (.ref a), .val (.int ai), .unset] [(.int yb)]
  refine k_aloadN (pc := 77) H d6_77 rfl rfl ?_
  refine k_getfield (pc := 78) H (wd hw 59 rfl) f352 d6_78 ?_
  refine k_isub (pc := 81) H d6_81 ?_
  refine k_aloadN (pc := 82) H d6_82 rfl rfl ?_
  refine k_getfield (pc := 83) H (wd hw 61 rfl) f341 d6_83 ?_
  refine k_isub (pc := 86) H d6_86 ?_
  refine k_istoreN (pc := 87) H d6_87 (Ls' := #[.val (.ref r), .val (.ref a), .val (.int ai), .val (.int ((yb - kl) - bl))]) rfl ?_
  refine k_aloadN (pc := 88) H d6_88 rfl rfl ?_
  refine k_aloadN (pc := 89) H d6_89 rfl rfl ?_
  refine k_putfield (.array .byte) (pc := 90) H (wd hw 80 rfl) f345 f343 (Or.inl (wd hw 81 rfl)) (wd hw 11 rfl) (by decide) rfl rfl ge d6_90 ?_
  intro h356 Wr357 f358
  have KW359 : Keep h0 h356 [r, u] := KW342.wr Wr357 (Or.inl (List.mem_of_getElem? (i := 0) rfl))
  have f360 : Exa Z h356 r "mandate/Records$Record" := Jvm.RoadKit.Exa.wr Wr357 f343
  have f361 : Exa Z h356 u "mandate/Unpacker" := Jvm.RoadKit.Exa.wr Wr357 f344
  have f362 : Fld Z h356 r "mandate/Records$Record" "keyStart" "I" (.int (0 : Int32)) := Jvm.RoadKit.Fld.other Wr357 f346 (Or.inr (slot_ne (t := .int) (t' := (.array .byte)) (Or.inl (wd hw 83 rfl)) (Or.inl (wd hw 81 rfl)) (by decide) (by decide) (by decide)))
  have f363 : Fld Z h356 r "mandate/Records$Record" "bodyStart" "I" (.int (0 : Int32)) := Jvm.RoadKit.Fld.other Wr357 f347 (Or.inr (slot_ne (t := .int) (t' := (.array .byte)) (Or.inl (wd hw 85 rfl)) (Or.inl (wd hw 81 rfl)) (by decide) (by decide) (by decide)))
  have f364 : Fld Z h356 r "mandate/Records$Record" "numbers" "Lmandate/Unpacker;" (.ref u) := Jvm.RoadKit.Fld.other Wr357 f348 (Or.inr (slot_ne (t := (.object "mandate/Unpacker")) (t' := (.array .byte)) (Or.inr (wd hw 27 rfl)) (Or.inl (wd hw 81 rfl)) (by decide) (by decide) (by decide)))
  have f365 : BA Z h356 a xs := f349.other Wr357 (Ne.symm nra)
  have f366 : Fld Z h356 r "mandate/Records$Record" "parent" "J" (.long pp) := Jvm.RoadKit.Fld.other Wr357 f350 (Or.inr (slot_ne (t := .long) (t' := (.array .byte)) (Or.inl (wd hw 50 rfl)) (Or.inl (wd hw 81 rfl)) (by decide) (by decide) (by decide)))
  have f367 : Fld Z h356 r "mandate/Records$Record" "step" "I" (.int st) := Jvm.RoadKit.Fld.other Wr357 f351 (Or.inr (slot_ne (t := .int) (t' := (.array .byte)) (Or.inl (wd hw 58 rfl)) (Or.inl (wd hw 81 rfl)) (by decide) (by decide) (by decide)))
  have f368 : Fld Z h356 r "mandate/Records$Record" "keyLength" "I" (.int kl) := Jvm.RoadKit.Fld.other Wr357 f352 (Or.inr (slot_ne (t := .int) (t' := (.array .byte)) (Or.inl (wd hw 60 rfl)) (Or.inl (wd hw 81 rfl)) (by decide) (by decide) (by decide)))
  have f369 : Fld Z h356 u "mandate/Unpacker" "bytes" "[B" (.ref a) := Jvm.RoadKit.Fld.other Wr357 f353 (Or.inl (Ne.symm nru))
  have f370 : Fld Z h356 u "mandate/Unpacker" "position" "I" (.int q3) := Jvm.RoadKit.Fld.other Wr357 f354 (Or.inl (Ne.symm nru))
  have f371 : Fld Z h356 u "mandate/Unpacker" "end" "I" (.int (ai + ((32 : Int32) - ai))) := Jvm.RoadKit.Fld.other Wr357 f355 (Or.inl (Ne.symm nru))
  have f372 : Fld Z h356 r "mandate/Records$Record" "bodyLength" "I" (.int bl) := Jvm.RoadKit.Fld.other Wr357 f341 (Or.inr (slot_ne (t := .int) (t' := (.array .byte)) (Or.inl (wd hw 62 rfl)) (Or.inl (wd hw 81 rfl)) (by decide) (by decide) (by decide)))
  refine k_aloadN (pc := 93) H d6_93 rfl rfl ?_
  refine k_iloadN (pc := 94) H d6_94 rfl ?_
  refine k_iloadN (pc := 95) H d6_95 rfl ?_
  refine k_iadd (pc := 96) H d6_96 ?_
  refine k_putfield .int (pc := 97) H (wd hw 82 rfl) f362 f360 (Or.inl (wd hw 83 rfl)) (wd hw 11 rfl) (by decide) rfl rfl ge d6_97 ?_
  intro h373 Wr374 f375
  have KW376 : Keep h0 h373 [r, u] := KW359.wr Wr374 (Or.inl (List.mem_of_getElem? (i := 0) rfl))
  have f377 : Exa Z h373 r "mandate/Records$Record" := Jvm.RoadKit.Exa.wr Wr374 f360
  have f378 : Exa Z h373 u "mandate/Unpacker" := Jvm.RoadKit.Exa.wr Wr374 f361
  have f379 : Fld Z h373 r "mandate/Records$Record" "bodyStart" "I" (.int (0 : Int32)) := Jvm.RoadKit.Fld.other Wr374 f363 (Or.inr (slot_ne (t := .int) (t' := .int) (Or.inl (wd hw 85 rfl)) (Or.inl (wd hw 83 rfl)) (by decide) (by decide) (by decide)))
  have f380 : Fld Z h373 r "mandate/Records$Record" "numbers" "Lmandate/Unpacker;" (.ref u) := Jvm.RoadKit.Fld.other Wr374 f364 (Or.inr (slot_ne (t := (.object "mandate/Unpacker")) (t' := .int) (Or.inr (wd hw 27 rfl)) (Or.inl (wd hw 83 rfl)) (by decide) (by decide) (by decide)))
  have f381 : BA Z h373 a xs := f365.other Wr374 (Ne.symm nra)
  have f382 : Fld Z h373 r "mandate/Records$Record" "parent" "J" (.long pp) := Jvm.RoadKit.Fld.other Wr374 f366 (Or.inr (slot_ne (t := .long) (t' := .int) (Or.inl (wd hw 50 rfl)) (Or.inl (wd hw 83 rfl)) (by decide) (by decide) (by decide)))
  have f383 : Fld Z h373 r "mandate/Records$Record" "step" "I" (.int st) := Jvm.RoadKit.Fld.other Wr374 f367 (Or.inr (slot_ne (t := .int) (t' := .int) (Or.inl (wd hw 58 rfl)) (Or.inl (wd hw 83 rfl)) (by decide) (by decide) (by decide)))
  have f384 : Fld Z h373 r "mandate/Records$Record" "keyLength" "I" (.int kl) := Jvm.RoadKit.Fld.other Wr374 f368 (Or.inr (slot_ne (t := .int) (t' := .int) (Or.inl (wd hw 60 rfl)) (Or.inl (wd hw 83 rfl)) (by decide) (by decide) (by decide)))
  have f385 : Fld Z h373 u "mandate/Unpacker" "bytes" "[B" (.ref a) := Jvm.RoadKit.Fld.other Wr374 f369 (Or.inl (Ne.symm nru))
  have f386 : Fld Z h373 u "mandate/Unpacker" "position" "I" (.int q3) := Jvm.RoadKit.Fld.other Wr374 f370 (Or.inl (Ne.symm nru))
  have f387 : Fld Z h373 u "mandate/Unpacker" "end" "I" (.int (ai + ((32 : Int32) - ai))) := Jvm.RoadKit.Fld.other Wr374 f371 (Or.inl (Ne.symm nru))
  have f388 : Fld Z h373 r "mandate/Records$Record" "bodyLength" "I" (.int bl) := Jvm.RoadKit.Fld.other Wr374 f372 (Or.inr (slot_ne (t := .int) (t' := .int) (Or.inl (wd hw 62 rfl)) (Or.inl (wd hw 83 rfl)) (by decide) (by decide) (by decide)))
  have f389 : Fld Z h373 r "mandate/Records$Record" "source" "[B" (.ref a) := Jvm.RoadKit.Fld.other Wr374 f358 (Or.inr (slot_ne (t := (.array .byte)) (t' := .int) (Or.inl (wd hw 81 rfl)) (Or.inl (wd hw 83 rfl)) (by decide) (by decide) (by decide)))
  refine k_aloadN (pc := 100) H d6_100 rfl rfl ?_
  refine k_aloadN (pc := 101) H d6_101 rfl rfl ?_
  refine k_getfield (pc := 102) H (wd hw 82 rfl) f375 d6_102 ?_
  refine k_aloadN (pc := 105) H d6_105 rfl rfl ?_
  refine k_getfield (pc := 106) H (wd hw 59 rfl) f384 d6_106 ?_
  refine k_iadd (pc := 109) H d6_109 ?_
  refine k_putfield .int (pc := 110) H (wd hw 84 rfl) f379 f377 (Or.inl (wd hw 85 rfl)) (wd hw 11 rfl) (by decide) rfl rfl ge d6_110 ?_
  intro h390 Wr391 f392
  have KW393 : Keep h0 h390 [r, u] := KW376.wr Wr391 (Or.inl (List.mem_of_getElem? (i := 0) rfl))
  have f394 : Exa Z h390 r "mandate/Records$Record" := Jvm.RoadKit.Exa.wr Wr391 f377
  have f395 : Exa Z h390 u "mandate/Unpacker" := Jvm.RoadKit.Exa.wr Wr391 f378
  have f396 : Fld Z h390 r "mandate/Records$Record" "numbers" "Lmandate/Unpacker;" (.ref u) := Jvm.RoadKit.Fld.other Wr391 f380 (Or.inr (slot_ne (t := (.object "mandate/Unpacker")) (t' := .int) (Or.inr (wd hw 27 rfl)) (Or.inl (wd hw 85 rfl)) (by decide) (by decide) (by decide)))
  have f397 : BA Z h390 a xs := f381.other Wr391 (Ne.symm nra)
  have f398 : Fld Z h390 r "mandate/Records$Record" "parent" "J" (.long pp) := Jvm.RoadKit.Fld.other Wr391 f382 (Or.inr (slot_ne (t := .long) (t' := .int) (Or.inl (wd hw 50 rfl)) (Or.inl (wd hw 85 rfl)) (by decide) (by decide) (by decide)))
  have f399 : Fld Z h390 r "mandate/Records$Record" "step" "I" (.int st) := Jvm.RoadKit.Fld.other Wr391 f383 (Or.inr (slot_ne (t := .int) (t' := .int) (Or.inl (wd hw 58 rfl)) (Or.inl (wd hw 85 rfl)) (by decide) (by decide) (by decide)))
  have f400 : Fld Z h390 r "mandate/Records$Record" "keyLength" "I" (.int kl) := Jvm.RoadKit.Fld.other Wr391 f384 (Or.inr (slot_ne (t := .int) (t' := .int) (Or.inl (wd hw 60 rfl)) (Or.inl (wd hw 85 rfl)) (by decide) (by decide) (by decide)))
  have f401 : Fld Z h390 u "mandate/Unpacker" "bytes" "[B" (.ref a) := Jvm.RoadKit.Fld.other Wr391 f385 (Or.inl (Ne.symm nru))
  have f402 : Fld Z h390 u "mandate/Unpacker" "position" "I" (.int q3) := Jvm.RoadKit.Fld.other Wr391 f386 (Or.inl (Ne.symm nru))
  have f403 : Fld Z h390 u "mandate/Unpacker" "end" "I" (.int (ai + ((32 : Int32) - ai))) := Jvm.RoadKit.Fld.other Wr391 f387 (Or.inl (Ne.symm nru))
  have f404 : Fld Z h390 r "mandate/Records$Record" "bodyLength" "I" (.int bl) := Jvm.RoadKit.Fld.other Wr391 f388 (Or.inr (slot_ne (t := .int) (t' := .int) (Or.inl (wd hw 62 rfl)) (Or.inl (wd hw 85 rfl)) (by decide) (by decide) (by decide)))
  have f405 : Fld Z h390 r "mandate/Records$Record" "source" "[B" (.ref a) := Jvm.RoadKit.Fld.other Wr391 f389 (Or.inr (slot_ne (t := (.array .byte)) (t' := .int) (Or.inl (wd hw 81 rfl)) (Or.inl (wd hw 85 rfl)) (by decide) (by decide) (by decide)))
  have f406 : Fld Z h390 r "mandate/Records$Record" "keyStart" "I" (.int (ai + ((yb - kl) - bl))) := Jvm.RoadKit.Fld.other Wr391 f375 (Or.inr (slot_ne (t := .int) (t' := .int) (Or.inl (wd hw 83 rfl)) (Or.inl (wd hw 85 rfl)) (by decide) (by decide) (by decide)))
  refine k_iloadN (pc := 113) H d6_113 rfl ?_
  refine k_aloadN (pc := 114) H d6_114 rfl rfl ?_
  refine k_getfield (pc := 115) H (wd hw 59 rfl) f400 d6_115 ?_
  refine k_iadd (pc := 118) H d6_118 ?_
  refine k_aloadN (pc := 119) H d6_119 rfl rfl ?_
  refine k_getfield (pc := 120) H (wd hw 61 rfl) f404 d6_120 ?_
  refine k_iadd (pc := 123) H d6_123 ?_
  exact k_retInt (pc := 124) H d6_124 (by show 0 ≤ own_rm6_room.cells; decide) (by show 0 ≤ own_rm6_room.slots; decide) (⟨_, _, _, rfl, KW393, f405, f398, f399, f406, f400, f392, f404⟩)
theorem d14_0 : decode prog_134_method_10_code 0 = .ok (.aload_n 0, 1) := by decide +kernel
theorem d14_1 : decode prog_134_method_10_code 1 = .ok (.aload_n 1, 1) := by decide +kernel
theorem d14_2 : decode prog_134_method_10_code 2 = .ok (.getfield 48, 3) := by decide +kernel
theorem d14_5 : decode prog_134_method_10_code 5 = .ok (.putfield 48, 3) := by decide +kernel
theorem d14_8 : decode prog_134_method_10_code 8 = .ok (.aload_n 0, 1) := by decide +kernel
theorem d14_9 : decode prog_134_method_10_code 9 = .ok (.aload_n 1, 1) := by decide +kernel
theorem d14_10 : decode prog_134_method_10_code 10 = .ok (.getfield 24, 3) := by decide +kernel
theorem d14_13 : decode prog_134_method_10_code 13 = .ok (.putfield 24, 3) := by decide +kernel
theorem d14_16 : decode prog_134_method_10_code 16 = .ok (.aload_n 0, 1) := by decide +kernel
theorem d14_17 : decode prog_134_method_10_code 17 = .ok (.aload_n 1, 1) := by decide +kernel
theorem d14_18 : decode prog_134_method_10_code 18 = .ok (.getfield 32, 3) := by decide +kernel
theorem d14_21 : decode prog_134_method_10_code 21 = .ok (.putfield 32, 3) := by decide +kernel
theorem d14_24 : decode prog_134_method_10_code 24 = .ok (.aload_n 0, 1) := by decide +kernel
theorem d14_25 : decode prog_134_method_10_code 25 = .ok (.aload_n 1, 1) := by decide +kernel
theorem d14_26 : decode prog_134_method_10_code 26 = .ok (.getfield 52, 3) := by decide +kernel
theorem d14_29 : decode prog_134_method_10_code 29 = .ok (.putfield 52, 3) := by decide +kernel
theorem d14_32 : decode prog_134_method_10_code 32 = .ok (.aload_n 0, 1) := by decide +kernel
theorem d14_33 : decode prog_134_method_10_code 33 = .ok (.aload_n 1, 1) := by decide +kernel
theorem d14_34 : decode prog_134_method_10_code 34 = .ok (.getfield 36, 3) := by decide +kernel
theorem d14_37 : decode prog_134_method_10_code 37 = .ok (.putfield 36, 3) := by decide +kernel
theorem d14_40 : decode prog_134_method_10_code 40 = .ok (.aload_n 0, 1) := by decide +kernel
theorem d14_41 : decode prog_134_method_10_code 41 = .ok (.aload_n 1, 1) := by decide +kernel
theorem d14_42 : decode prog_134_method_10_code 42 = .ok (.getfield 55, 3) := by decide +kernel
theorem d14_45 : decode prog_134_method_10_code 45 = .ok (.putfield 55, 3) := by decide +kernel
theorem d14_48 : decode prog_134_method_10_code 48 = .ok (.aload_n 0, 1) := by decide +kernel
theorem d14_49 : decode prog_134_method_10_code 49 = .ok (.aload_n 1, 1) := by decide +kernel
theorem d14_50 : decode prog_134_method_10_code 50 = .ok (.getfield 39, 3) := by decide +kernel
theorem d14_53 : decode prog_134_method_10_code 53 = .ok (.putfield 39, 3) := by decide +kernel
theorem d14_56 : decode prog_134_method_10_code 56 = .ok (.return_, 1) := by decide +kernel
abbrev own_rm14_room : Room := { frames := 0, cells := 0, slots := 0, locals := 0 }
set_option maxRecDepth 65536 in
set_option maxHeartbeats 40000000 in
theorem rm14 (l : Launch) (Z : State) (a0 : Array Value) (hw : ∀ d ∈ tables_1, d.before a0 Z = true) (n0 : Nat) (h0 : Heap) (Z0 : n0 ≤ h0.size) (r o : Addr) (a1 a2 : Addr) (p1 p2 : Int64) (s1 ks1 kl1 bs1 bl1 s2 ks2 kl2 bs2 bl2 : Int32) (ge : n0 ≤ r) (nro : r ≠ o) (X : Exa Z h0 r "mandate/Records$Record") (F0 : Fld Z h0 r "mandate/Records$Record" "source" "[B" (.ref a1)) (F1 : Fld Z h0 r "mandate/Records$Record" "parent" "J" (.long p1)) (F2 : Fld Z h0 r "mandate/Records$Record" "step" "I" (.int s1)) (F3 : Fld Z h0 r "mandate/Records$Record" "keyStart" "I" (.int ks1)) (F4 : Fld Z h0 r "mandate/Records$Record" "keyLength" "I" (.int kl1)) (F5 : Fld Z h0 r "mandate/Records$Record" "bodyStart" "I" (.int bs1)) (F6 : Fld Z h0 r "mandate/Records$Record" "bodyLength" "I" (.int bl1)) (G0 : Fld Z h0 o "mandate/Records$Record" "source" "[B" (.ref a2)) (G1 : Fld Z h0 o "mandate/Records$Record" "parent" "J" (.long p2)) (G2 : Fld Z h0 o "mandate/Records$Record" "step" "I" (.int s2)) (G3 : Fld Z h0 o "mandate/Records$Record" "keyStart" "I" (.int ks2)) (G4 : Fld Z h0 o "mandate/Records$Record" "keyLength" "I" (.int kl2)) (G5 : Fld Z h0 o "mandate/Records$Record" "bodyStart" "I" (.int bs2)) (G6 : Fld Z h0 o "mandate/Records$Record" "bodyLength" "I" (.int bl2)) :
    Ctr l Z (⟨"mandate/Records$Record", "take", "(Lmandate/Records$Record;)V"⟩ : MethodName) prog_134_method_10_code 2 none own_rm14_room n0 #[(.ref r), (.ref o)] h0 (fun v h => v = none ∧ Keep h0 h [r] ∧ Fld Z h r "mandate/Records$Record" "source" "[B" (.ref a2) ∧ Fld Z h r "mandate/Records$Record" "parent" "J" (.long p2) ∧ Fld Z h r "mandate/Records$Record" "step" "I" (.int s2) ∧ Fld Z h r "mandate/Records$Record" "keyStart" "I" (.int ks2) ∧ Fld Z h r "mandate/Records$Record" "keyLength" "I" (.int kl2) ∧ Fld Z h r "mandate/Records$Record" "bodyStart" "I" (.int bs2) ∧ Fld Z h r "mandate/Records$Record" "bodyLength" "I" (.int bl2)) := by
  refine Ctr.of #[.val (.ref r), .val (.ref o)] (plainFor_of_name pn_6) Z0 (fun m => by first | (simp [entryFrame, mkF, argsToLocals, Value.category]; done) | rfl) ?_
  intro C H
  refine k_aloadN (pc := 0) H d14_0 rfl rfl ?_
  refine k_aloadN (pc := 1) H d14_1 rfl rfl ?_
  refine k_getfield (pc := 2) H (wd hw 80 rfl) G0 d14_2 ?_
  refine k_putfield (.array .byte) (pc := 5) H (wd hw 80 rfl) F0 X (Or.inl (wd hw 81 rfl)) (wd hw 11 rfl) (by decide) rfl rfl ge d14_5 ?_
  intro h407 Wr408 f409
  have KW410 : Keep h0 h407 [r] := (Keep.refl h0 [r]).wr Wr408 (Or.inl (List.mem_of_getElem? (i := 0) rfl))
  have f411 : Exa Z h407 r "mandate/Records$Record" := Jvm.RoadKit.Exa.wr Wr408 X
  have f412 : Fld Z h407 r "mandate/Records$Record" "parent" "J" (.long p1) := Jvm.RoadKit.Fld.other Wr408 F1 (Or.inr (slot_ne (t := .long) (t' := (.array .byte)) (Or.inl (wd hw 50 rfl)) (Or.inl (wd hw 81 rfl)) (by decide) (by decide) (by decide)))
  have f413 : Fld Z h407 r "mandate/Records$Record" "step" "I" (.int s1) := Jvm.RoadKit.Fld.other Wr408 F2 (Or.inr (slot_ne (t := .int) (t' := (.array .byte)) (Or.inl (wd hw 58 rfl)) (Or.inl (wd hw 81 rfl)) (by decide) (by decide) (by decide)))
  have f414 : Fld Z h407 r "mandate/Records$Record" "keyStart" "I" (.int ks1) := Jvm.RoadKit.Fld.other Wr408 F3 (Or.inr (slot_ne (t := .int) (t' := (.array .byte)) (Or.inl (wd hw 83 rfl)) (Or.inl (wd hw 81 rfl)) (by decide) (by decide) (by decide)))
  have f415 : Fld Z h407 r "mandate/Records$Record" "keyLength" "I" (.int kl1) := Jvm.RoadKit.Fld.other Wr408 F4 (Or.inr (slot_ne (t := .int) (t' := (.array .byte)) (Or.inl (wd hw 60 rfl)) (Or.inl (wd hw 81 rfl)) (by decide) (by decide) (by decide)))
  have f416 : Fld Z h407 r "mandate/Records$Record" "bodyStart" "I" (.int bs1) := Jvm.RoadKit.Fld.other Wr408 F5 (Or.inr (slot_ne (t := .int) (t' := (.array .byte)) (Or.inl (wd hw 85 rfl)) (Or.inl (wd hw 81 rfl)) (by decide) (by decide) (by decide)))
  have f417 : Fld Z h407 r "mandate/Records$Record" "bodyLength" "I" (.int bl1) := Jvm.RoadKit.Fld.other Wr408 F6 (Or.inr (slot_ne (t := .int) (t' := (.array .byte)) (Or.inl (wd hw 62 rfl)) (Or.inl (wd hw 81 rfl)) (by decide) (by decide) (by decide)))
  have f418 : Fld Z h407 o "mandate/Records$Record" "source" "[B" (.ref a2) := Jvm.RoadKit.Fld.other Wr408 G0 (Or.inl (Ne.symm nro))
  have f419 : Fld Z h407 o "mandate/Records$Record" "parent" "J" (.long p2) := Jvm.RoadKit.Fld.other Wr408 G1 (Or.inl (Ne.symm nro))
  have f420 : Fld Z h407 o "mandate/Records$Record" "step" "I" (.int s2) := Jvm.RoadKit.Fld.other Wr408 G2 (Or.inl (Ne.symm nro))
  have f421 : Fld Z h407 o "mandate/Records$Record" "keyStart" "I" (.int ks2) := Jvm.RoadKit.Fld.other Wr408 G3 (Or.inl (Ne.symm nro))
  have f422 : Fld Z h407 o "mandate/Records$Record" "keyLength" "I" (.int kl2) := Jvm.RoadKit.Fld.other Wr408 G4 (Or.inl (Ne.symm nro))
  have f423 : Fld Z h407 o "mandate/Records$Record" "bodyStart" "I" (.int bs2) := Jvm.RoadKit.Fld.other Wr408 G5 (Or.inl (Ne.symm nro))
  have f424 : Fld Z h407 o "mandate/Records$Record" "bodyLength" "I" (.int bl2) := Jvm.RoadKit.Fld.other Wr408 G6 (Or.inl (Ne.symm nro))
  refine k_aloadN (pc := 8) H d14_8 rfl rfl ?_
  refine k_aloadN (pc := 9) H d14_9 rfl rfl ?_
  refine k_getfield (pc := 10) H (wd hw 49 rfl) f419 d14_10 ?_
  refine k_putfield .long (pc := 13) H (wd hw 49 rfl) f412 f411 (Or.inl (wd hw 50 rfl)) (wd hw 11 rfl) (by decide) rfl rfl ge d14_13 ?_
  intro h425 Wr426 f427
  have KW428 : Keep h0 h425 [r] := KW410.wr Wr426 (Or.inl (List.mem_of_getElem? (i := 0) rfl))
  have f429 : Exa Z h425 r "mandate/Records$Record" := Jvm.RoadKit.Exa.wr Wr426 f411
  have f430 : Fld Z h425 r "mandate/Records$Record" "step" "I" (.int s1) := Jvm.RoadKit.Fld.other Wr426 f413 (Or.inr (slot_ne (t := .int) (t' := .long) (Or.inl (wd hw 58 rfl)) (Or.inl (wd hw 50 rfl)) (by decide) (by decide) (by decide)))
  have f431 : Fld Z h425 r "mandate/Records$Record" "keyStart" "I" (.int ks1) := Jvm.RoadKit.Fld.other Wr426 f414 (Or.inr (slot_ne (t := .int) (t' := .long) (Or.inl (wd hw 83 rfl)) (Or.inl (wd hw 50 rfl)) (by decide) (by decide) (by decide)))
  have f432 : Fld Z h425 r "mandate/Records$Record" "keyLength" "I" (.int kl1) := Jvm.RoadKit.Fld.other Wr426 f415 (Or.inr (slot_ne (t := .int) (t' := .long) (Or.inl (wd hw 60 rfl)) (Or.inl (wd hw 50 rfl)) (by decide) (by decide) (by decide)))
  have f433 : Fld Z h425 r "mandate/Records$Record" "bodyStart" "I" (.int bs1) := Jvm.RoadKit.Fld.other Wr426 f416 (Or.inr (slot_ne (t := .int) (t' := .long) (Or.inl (wd hw 85 rfl)) (Or.inl (wd hw 50 rfl)) (by decide) (by decide) (by decide)))
  have f434 : Fld Z h425 r "mandate/Records$Record" "bodyLength" "I" (.int bl1) := Jvm.RoadKit.Fld.other Wr426 f417 (Or.inr (slot_ne (t := .int) (t' := .long) (Or.inl (wd hw 62 rfl)) (Or.inl (wd hw 50 rfl)) (by decide) (by decide) (by decide)))
  have f435 : Fld Z h425 o "mandate/Records$Record" "source" "[B" (.ref a2) := Jvm.RoadKit.Fld.other Wr426 f418 (Or.inl (Ne.symm nro))
  have f436 : Fld Z h425 o "mandate/Records$Record" "parent" "J" (.long p2) := Jvm.RoadKit.Fld.other Wr426 f419 (Or.inl (Ne.symm nro))
  have f437 : Fld Z h425 o "mandate/Records$Record" "step" "I" (.int s2) := Jvm.RoadKit.Fld.other Wr426 f420 (Or.inl (Ne.symm nro))
  have f438 : Fld Z h425 o "mandate/Records$Record" "keyStart" "I" (.int ks2) := Jvm.RoadKit.Fld.other Wr426 f421 (Or.inl (Ne.symm nro))
  have f439 : Fld Z h425 o "mandate/Records$Record" "keyLength" "I" (.int kl2) := Jvm.RoadKit.Fld.other Wr426 f422 (Or.inl (Ne.symm nro))
  have f440 : Fld Z h425 o "mandate/Records$Record" "bodyStart" "I" (.int bs2) := Jvm.RoadKit.Fld.other Wr426 f423 (Or.inl (Ne.symm nro))
  have f441 : Fld Z h425 o "mandate/Records$Record" "bodyLength" "I" (.int bl2) := Jvm.RoadKit.Fld.other Wr426 f424 (Or.inl (Ne.symm nro))
  have f442 : Fld Z h425 r "mandate/Records$Record" "source" "[B" (.ref a2) := Jvm.RoadKit.Fld.other Wr426 f409 (Or.inr (slot_ne (t := (.array .byte)) (t' := .long) (Or.inl (wd hw 81 rfl)) (Or.inl (wd hw 50 rfl)) (by decide) (by decide) (by decide)))
  refine k_aloadN (pc := 16) H d14_16 rfl rfl ?_
  refine k_aloadN (pc := 17) H d14_17 rfl rfl ?_
  refine k_getfield (pc := 18) H (wd hw 57 rfl) f437 d14_18 ?_
  refine k_putfield .int (pc := 21) H (wd hw 57 rfl) f430 f429 (Or.inl (wd hw 58 rfl)) (wd hw 11 rfl) (by decide) rfl rfl ge d14_21 ?_
  intro h443 Wr444 f445
  have KW446 : Keep h0 h443 [r] := KW428.wr Wr444 (Or.inl (List.mem_of_getElem? (i := 0) rfl))
  have f447 : Exa Z h443 r "mandate/Records$Record" := Jvm.RoadKit.Exa.wr Wr444 f429
  have f448 : Fld Z h443 r "mandate/Records$Record" "keyStart" "I" (.int ks1) := Jvm.RoadKit.Fld.other Wr444 f431 (Or.inr (slot_ne (t := .int) (t' := .int) (Or.inl (wd hw 83 rfl)) (Or.inl (wd hw 58 rfl)) (by decide) (by decide) (by decide)))
  have f449 : Fld Z h443 r "mandate/Records$Record" "keyLength" "I" (.int kl1) := Jvm.RoadKit.Fld.other Wr444 f432 (Or.inr (slot_ne (t := .int) (t' := .int) (Or.inl (wd hw 60 rfl)) (Or.inl (wd hw 58 rfl)) (by decide) (by decide) (by decide)))
  have f450 : Fld Z h443 r "mandate/Records$Record" "bodyStart" "I" (.int bs1) := Jvm.RoadKit.Fld.other Wr444 f433 (Or.inr (slot_ne (t := .int) (t' := .int) (Or.inl (wd hw 85 rfl)) (Or.inl (wd hw 58 rfl)) (by decide) (by decide) (by decide)))
  have f451 : Fld Z h443 r "mandate/Records$Record" "bodyLength" "I" (.int bl1) := Jvm.RoadKit.Fld.other Wr444 f434 (Or.inr (slot_ne (t := .int) (t' := .int) (Or.inl (wd hw 62 rfl)) (Or.inl (wd hw 58 rfl)) (by decide) (by decide) (by decide)))
  have f452 : Fld Z h443 o "mandate/Records$Record" "source" "[B" (.ref a2) := Jvm.RoadKit.Fld.other Wr444 f435 (Or.inl (Ne.symm nro))
  have f453 : Fld Z h443 o "mandate/Records$Record" "parent" "J" (.long p2) := Jvm.RoadKit.Fld.other Wr444 f436 (Or.inl (Ne.symm nro))
  have f454 : Fld Z h443 o "mandate/Records$Record" "step" "I" (.int s2) := Jvm.RoadKit.Fld.other Wr444 f437 (Or.inl (Ne.symm nro))
  have f455 : Fld Z h443 o "mandate/Records$Record" "keyStart" "I" (.int ks2) := Jvm.RoadKit.Fld.other Wr444 f438 (Or.inl (Ne.symm nro))
  have f456 : Fld Z h443 o "mandate/Records$Record" "keyLength" "I" (.int kl2) := Jvm.RoadKit.Fld.other Wr444 f439 (Or.inl (Ne.symm nro))
  have f457 : Fld Z h443 o "mandate/Records$Record" "bodyStart" "I" (.int bs2) := Jvm.RoadKit.Fld.other Wr444 f440 (Or.inl (Ne.symm nro))
  have f458 : Fld Z h443 o "mandate/Records$Record" "bodyLength" "I" (.int bl2) := Jvm.RoadKit.Fld.other Wr444 f441 (Or.inl (Ne.symm nro))
  have f459 : Fld Z h443 r "mandate/Records$Record" "source" "[B" (.ref a2) := Jvm.RoadKit.Fld.other Wr444 f442 (Or.inr (slot_ne (t := (.array .byte)) (t' := .int) (Or.inl (wd hw 81 rfl)) (Or.inl (wd hw 58 rfl)) (by decide) (by decide) (by decide)))
  have f460 : Fld Z h443 r "mandate/Records$Record" "parent" "J" (.long p2) := Jvm.RoadKit.Fld.other Wr444 f427 (Or.inr (slot_ne (t := .long) (t' := .int) (Or.inl (wd hw 50 rfl)) (Or.inl (wd hw 58 rfl)) (by decide) (by decide) (by decide)))
  refine k_aloadN (pc := 24) H d14_24 rfl rfl ?_
  refine k_aloadN (pc := 25) H d14_25 rfl rfl ?_
  refine k_getfield (pc := 26) H (wd hw 82 rfl) f455 d14_26 ?_
  refine k_putfield .int (pc := 29) H (wd hw 82 rfl) f448 f447 (Or.inl (wd hw 83 rfl)) (wd hw 11 rfl) (by decide) rfl rfl ge d14_29 ?_
  intro h461 Wr462 f463
  have KW464 : Keep h0 h461 [r] := KW446.wr Wr462 (Or.inl (List.mem_of_getElem? (i := 0) rfl))
  have f465 : Exa Z h461 r "mandate/Records$Record" := Jvm.RoadKit.Exa.wr Wr462 f447
  have f466 : Fld Z h461 r "mandate/Records$Record" "keyLength" "I" (.int kl1) := Jvm.RoadKit.Fld.other Wr462 f449 (Or.inr (slot_ne (t := .int) (t' := .int) (Or.inl (wd hw 60 rfl)) (Or.inl (wd hw 83 rfl)) (by decide) (by decide) (by decide)))
  have f467 : Fld Z h461 r "mandate/Records$Record" "bodyStart" "I" (.int bs1) := Jvm.RoadKit.Fld.other Wr462 f450 (Or.inr (slot_ne (t := .int) (t' := .int) (Or.inl (wd hw 85 rfl)) (Or.inl (wd hw 83 rfl)) (by decide) (by decide) (by decide)))
  have f468 : Fld Z h461 r "mandate/Records$Record" "bodyLength" "I" (.int bl1) := Jvm.RoadKit.Fld.other Wr462 f451 (Or.inr (slot_ne (t := .int) (t' := .int) (Or.inl (wd hw 62 rfl)) (Or.inl (wd hw 83 rfl)) (by decide) (by decide) (by decide)))
  have f469 : Fld Z h461 o "mandate/Records$Record" "source" "[B" (.ref a2) := Jvm.RoadKit.Fld.other Wr462 f452 (Or.inl (Ne.symm nro))
  have f470 : Fld Z h461 o "mandate/Records$Record" "parent" "J" (.long p2) := Jvm.RoadKit.Fld.other Wr462 f453 (Or.inl (Ne.symm nro))
  have f471 : Fld Z h461 o "mandate/Records$Record" "step" "I" (.int s2) := Jvm.RoadKit.Fld.other Wr462 f454 (Or.inl (Ne.symm nro))
  have f472 : Fld Z h461 o "mandate/Records$Record" "keyStart" "I" (.int ks2) := Jvm.RoadKit.Fld.other Wr462 f455 (Or.inl (Ne.symm nro))
  have f473 : Fld Z h461 o "mandate/Records$Record" "keyLength" "I" (.int kl2) := Jvm.RoadKit.Fld.other Wr462 f456 (Or.inl (Ne.symm nro))
  have f474 : Fld Z h461 o "mandate/Records$Record" "bodyStart" "I" (.int bs2) := Jvm.RoadKit.Fld.other Wr462 f457 (Or.inl (Ne.symm nro))
  have f475 : Fld Z h461 o "mandate/Records$Record" "bodyLength" "I" (.int bl2) := Jvm.RoadKit.Fld.other Wr462 f458 (Or.inl (Ne.symm nro))
  have f476 : Fld Z h461 r "mandate/Records$Record" "source" "[B" (.ref a2) := Jvm.RoadKit.Fld.other Wr462 f459 (Or.inr (slot_ne (t := (.array .byte)) (t' := .int) (Or.inl (wd hw 81 rfl)) (Or.inl (wd hw 83 rfl)) (by decide) (by decide) (by decide)))
  have f477 : Fld Z h461 r "mandate/Records$Record" "parent" "J" (.long p2) := Jvm.RoadKit.Fld.other Wr462 f460 (Or.inr (slot_ne (t := .long) (t' := .int) (Or.inl (wd hw 50 rfl)) (Or.inl (wd hw 83 rfl)) (by decide) (by decide) (by decide)))
  have f478 : Fld Z h461 r "mandate/Records$Record" "step" "I" (.int s2) := Jvm.RoadKit.Fld.other Wr462 f445 (Or.inr (slot_ne (t := .int) (t' := .int) (Or.inl (wd hw 58 rfl)) (Or.inl (wd hw 83 rfl)) (by decide) (by decide) (by decide)))
  refine k_aloadN (pc := 32) H d14_32 rfl rfl ?_
  refine k_aloadN (pc := 33) H d14_33 rfl rfl ?_
  refine k_getfield (pc := 34) H (wd hw 59 rfl) f473 d14_34 ?_
  refine k_putfield .int (pc := 37) H (wd hw 59 rfl) f466 f465 (Or.inl (wd hw 60 rfl)) (wd hw 11 rfl) (by decide) rfl rfl ge d14_37 ?_
  intro h479 Wr480 f481
  have KW482 : Keep h0 h479 [r] := KW464.wr Wr480 (Or.inl (List.mem_of_getElem? (i := 0) rfl))
  have f483 : Exa Z h479 r "mandate/Records$Record" := Jvm.RoadKit.Exa.wr Wr480 f465
  have f484 : Fld Z h479 r "mandate/Records$Record" "bodyStart" "I" (.int bs1) := Jvm.RoadKit.Fld.other Wr480 f467 (Or.inr (slot_ne (t := .int) (t' := .int) (Or.inl (wd hw 85 rfl)) (Or.inl (wd hw 60 rfl)) (by decide) (by decide) (by decide)))
  have f485 : Fld Z h479 r "mandate/Records$Record" "bodyLength" "I" (.int bl1) := Jvm.RoadKit.Fld.other Wr480 f468 (Or.inr (slot_ne (t := .int) (t' := .int) (Or.inl (wd hw 62 rfl)) (Or.inl (wd hw 60 rfl)) (by decide) (by decide) (by decide)))
  have f486 : Fld Z h479 o "mandate/Records$Record" "source" "[B" (.ref a2) := Jvm.RoadKit.Fld.other Wr480 f469 (Or.inl (Ne.symm nro))
  have f487 : Fld Z h479 o "mandate/Records$Record" "parent" "J" (.long p2) := Jvm.RoadKit.Fld.other Wr480 f470 (Or.inl (Ne.symm nro))
  have f488 : Fld Z h479 o "mandate/Records$Record" "step" "I" (.int s2) := Jvm.RoadKit.Fld.other Wr480 f471 (Or.inl (Ne.symm nro))
  have f489 : Fld Z h479 o "mandate/Records$Record" "keyStart" "I" (.int ks2) := Jvm.RoadKit.Fld.other Wr480 f472 (Or.inl (Ne.symm nro))
  have f490 : Fld Z h479 o "mandate/Records$Record" "keyLength" "I" (.int kl2) := Jvm.RoadKit.Fld.other Wr480 f473 (Or.inl (Ne.symm nro))
  have f491 : Fld Z h479 o "mandate/Records$Record" "bodyStart" "I" (.int bs2) := Jvm.RoadKit.Fld.other Wr480 f474 (Or.inl (Ne.symm nro))
  have f492 : Fld Z h479 o "mandate/Records$Record" "bodyLength" "I" (.int bl2) := Jvm.RoadKit.Fld.other Wr480 f475 (Or.inl (Ne.symm nro))
  have f493 : Fld Z h479 r "mandate/Records$Record" "source" "[B" (.ref a2) := Jvm.RoadKit.Fld.other Wr480 f476 (Or.inr (slot_ne (t := (.array .byte)) (t' := .int) (Or.inl (wd hw 81 rfl)) (Or.inl (wd hw 60 rfl)) (by decide) (by decide) (by decide)))
  have f494 : Fld Z h479 r "mandate/Records$Record" "parent" "J" (.long p2) := Jvm.RoadKit.Fld.other Wr480 f477 (Or.inr (slot_ne (t := .long) (t' := .int) (Or.inl (wd hw 50 rfl)) (Or.inl (wd hw 60 rfl)) (by decide) (by decide) (by decide)))
  have f495 : Fld Z h479 r "mandate/Records$Record" "step" "I" (.int s2) := Jvm.RoadKit.Fld.other Wr480 f478 (Or.inr (slot_ne (t := .int) (t' := .int) (Or.inl (wd hw 58 rfl)) (Or.inl (wd hw 60 rfl)) (by decide) (by decide) (by decide)))
  have f496 : Fld Z h479 r "mandate/Records$Record" "keyStart" "I" (.int ks2) := Jvm.RoadKit.Fld.other Wr480 f463 (Or.inr (slot_ne (t := .int) (t' := .int) (Or.inl (wd hw 83 rfl)) (Or.inl (wd hw 60 rfl)) (by decide) (by decide) (by decide)))
  refine k_aloadN (pc := 40) H d14_40 rfl rfl ?_
  refine k_aloadN (pc := 41) H d14_41 rfl rfl ?_
  refine k_getfield (pc := 42) H (wd hw 84 rfl) f491 d14_42 ?_
  refine k_putfield .int (pc := 45) H (wd hw 84 rfl) f484 f483 (Or.inl (wd hw 85 rfl)) (wd hw 11 rfl) (by decide) rfl rfl ge d14_45 ?_
  intro h497 Wr498 f499
  have KW500 : Keep h0 h497 [r] := KW482.wr Wr498 (Or.inl (List.mem_of_getElem? (i := 0) rfl))
  have f501 : Exa Z h497 r "mandate/Records$Record" := Jvm.RoadKit.Exa.wr Wr498 f483
  have f502 : Fld Z h497 r "mandate/Records$Record" "bodyLength" "I" (.int bl1) := Jvm.RoadKit.Fld.other Wr498 f485 (Or.inr (slot_ne (t := .int) (t' := .int) (Or.inl (wd hw 62 rfl)) (Or.inl (wd hw 85 rfl)) (by decide) (by decide) (by decide)))
  have f503 : Fld Z h497 o "mandate/Records$Record" "source" "[B" (.ref a2) := Jvm.RoadKit.Fld.other Wr498 f486 (Or.inl (Ne.symm nro))
  have f504 : Fld Z h497 o "mandate/Records$Record" "parent" "J" (.long p2) := Jvm.RoadKit.Fld.other Wr498 f487 (Or.inl (Ne.symm nro))
  have f505 : Fld Z h497 o "mandate/Records$Record" "step" "I" (.int s2) := Jvm.RoadKit.Fld.other Wr498 f488 (Or.inl (Ne.symm nro))
  have f506 : Fld Z h497 o "mandate/Records$Record" "keyStart" "I" (.int ks2) := Jvm.RoadKit.Fld.other Wr498 f489 (Or.inl (Ne.symm nro))
  have f507 : Fld Z h497 o "mandate/Records$Record" "keyLength" "I" (.int kl2) := Jvm.RoadKit.Fld.other Wr498 f490 (Or.inl (Ne.symm nro))
  have f508 : Fld Z h497 o "mandate/Records$Record" "bodyStart" "I" (.int bs2) := Jvm.RoadKit.Fld.other Wr498 f491 (Or.inl (Ne.symm nro))
  have f509 : Fld Z h497 o "mandate/Records$Record" "bodyLength" "I" (.int bl2) := Jvm.RoadKit.Fld.other Wr498 f492 (Or.inl (Ne.symm nro))
  have f510 : Fld Z h497 r "mandate/Records$Record" "source" "[B" (.ref a2) := Jvm.RoadKit.Fld.other Wr498 f493 (Or.inr (slot_ne (t := (.array .byte)) (t' := .int) (Or.inl (wd hw 81 rfl)) (Or.inl (wd hw 85 rfl)) (by decide) (by decide) (by decide)))
  have f511 : Fld Z h497 r "mandate/Records$Record" "parent" "J" (.long p2) := Jvm.RoadKit.Fld.other Wr498 f494 (Or.inr (slot_ne (t := .long) (t' := .int) (Or.inl (wd hw 50 rfl)) (Or.inl (wd hw 85 rfl)) (by decide) (by decide) (by decide)))
  have f512 : Fld Z h497 r "mandate/Records$Record" "step" "I" (.int s2) := Jvm.RoadKit.Fld.other Wr498 f495 (Or.inr (slot_ne (t := .int) (t' := .int) (Or.inl (wd hw 58 rfl)) (Or.inl (wd hw 85 rfl)) (by decide) (by decide) (by decide)))
  have f513 : Fld Z h497 r "mandate/Records$Record" "keyStart" "I" (.int ks2) := Jvm.RoadKit.Fld.other Wr498 f496 (Or.inr (slot_ne (t := .int) (t' := .int) (Or.inl (wd hw 83 rfl)) (Or.inl (wd hw 85 rfl)) (by decide) (by decide) (by decide)))
  have f514 : Fld Z h497 r "mandate/Records$Record" "keyLength" "I" (.int kl2) := Jvm.RoadKit.Fld.other Wr498 f481 (Or.inr (slot_ne (t := .int) (t' := .int) (Or.inl (wd hw 60 rfl)) (Or.inl (wd hw 85 rfl)) (by decide) (by decide) (by decide)))
  refine k_aloadN (pc := 48) H d14_48 rfl rfl ?_
  refine k_aloadN (pc := 49) H d14_49 rfl rfl ?_
  refine k_getfield (pc := 50) H (wd hw 61 rfl) f509 d14_50 ?_
  refine k_putfield .int (pc := 53) H (wd hw 61 rfl) f502 f501 (Or.inl (wd hw 62 rfl)) (wd hw 11 rfl) (by decide) rfl rfl ge d14_53 ?_
  intro h515 Wr516 f517
  have KW518 : Keep h0 h515 [r] := KW500.wr Wr516 (Or.inl (List.mem_of_getElem? (i := 0) rfl))
  have f519 : Exa Z h515 r "mandate/Records$Record" := Jvm.RoadKit.Exa.wr Wr516 f501
  have f520 : Fld Z h515 o "mandate/Records$Record" "source" "[B" (.ref a2) := Jvm.RoadKit.Fld.other Wr516 f503 (Or.inl (Ne.symm nro))
  have f521 : Fld Z h515 o "mandate/Records$Record" "parent" "J" (.long p2) := Jvm.RoadKit.Fld.other Wr516 f504 (Or.inl (Ne.symm nro))
  have f522 : Fld Z h515 o "mandate/Records$Record" "step" "I" (.int s2) := Jvm.RoadKit.Fld.other Wr516 f505 (Or.inl (Ne.symm nro))
  have f523 : Fld Z h515 o "mandate/Records$Record" "keyStart" "I" (.int ks2) := Jvm.RoadKit.Fld.other Wr516 f506 (Or.inl (Ne.symm nro))
  have f524 : Fld Z h515 o "mandate/Records$Record" "keyLength" "I" (.int kl2) := Jvm.RoadKit.Fld.other Wr516 f507 (Or.inl (Ne.symm nro))
  have f525 : Fld Z h515 o "mandate/Records$Record" "bodyStart" "I" (.int bs2) := Jvm.RoadKit.Fld.other Wr516 f508 (Or.inl (Ne.symm nro))
  have f526 : Fld Z h515 o "mandate/Records$Record" "bodyLength" "I" (.int bl2) := Jvm.RoadKit.Fld.other Wr516 f509 (Or.inl (Ne.symm nro))
  have f527 : Fld Z h515 r "mandate/Records$Record" "source" "[B" (.ref a2) := Jvm.RoadKit.Fld.other Wr516 f510 (Or.inr (slot_ne (t := (.array .byte)) (t' := .int) (Or.inl (wd hw 81 rfl)) (Or.inl (wd hw 62 rfl)) (by decide) (by decide) (by decide)))
  have f528 : Fld Z h515 r "mandate/Records$Record" "parent" "J" (.long p2) := Jvm.RoadKit.Fld.other Wr516 f511 (Or.inr (slot_ne (t := .long) (t' := .int) (Or.inl (wd hw 50 rfl)) (Or.inl (wd hw 62 rfl)) (by decide) (by decide) (by decide)))
  have f529 : Fld Z h515 r "mandate/Records$Record" "step" "I" (.int s2) := Jvm.RoadKit.Fld.other Wr516 f512 (Or.inr (slot_ne (t := .int) (t' := .int) (Or.inl (wd hw 58 rfl)) (Or.inl (wd hw 62 rfl)) (by decide) (by decide) (by decide)))
  have f530 : Fld Z h515 r "mandate/Records$Record" "keyStart" "I" (.int ks2) := Jvm.RoadKit.Fld.other Wr516 f513 (Or.inr (slot_ne (t := .int) (t' := .int) (Or.inl (wd hw 83 rfl)) (Or.inl (wd hw 62 rfl)) (by decide) (by decide) (by decide)))
  have f531 : Fld Z h515 r "mandate/Records$Record" "keyLength" "I" (.int kl2) := Jvm.RoadKit.Fld.other Wr516 f514 (Or.inr (slot_ne (t := .int) (t' := .int) (Or.inl (wd hw 60 rfl)) (Or.inl (wd hw 62 rfl)) (by decide) (by decide) (by decide)))
  have f532 : Fld Z h515 r "mandate/Records$Record" "bodyStart" "I" (.int bs2) := Jvm.RoadKit.Fld.other Wr516 f499 (Or.inr (slot_ne (t := .int) (t' := .int) (Or.inl (wd hw 85 rfl)) (Or.inl (wd hw 62 rfl)) (by decide) (by decide) (by decide)))
  exact k_retVoid (pc := 56) H d14_56 (by show 0 ≤ own_rm14_room.cells; decide) (by show 0 ≤ own_rm14_room.slots; decide) (⟨rfl, KW518, f527, f528, f529, f530, f531, f532, f517⟩)
theorem d15_0 : decode prog_134_method_5_code 0 = .ok (.aload_n 0, 1) := by decide +kernel
theorem d15_1 : decode prog_134_method_5_code 1 = .ok (.getfield 48, 3) := by decide +kernel
theorem d15_4 : decode prog_134_method_5_code 4 = .ok (.areturn, 1) := by decide +kernel
abbrev own_rm15_room : Room := { frames := 0, cells := 0, slots := 0, locals := 0 }
set_option maxRecDepth 65536 in
set_option maxHeartbeats 40000000 in
theorem rm15 (l : Launch) (Z : State) (a0 : Array Value) (hw : ∀ d ∈ tables_1, d.before a0 Z = true) (n0 : Nat) (h0 : Heap) (Z0 : n0 ≤ h0.size) (r : Addr) (a1 : Addr) (F : Fld Z h0 r "mandate/Records$Record" "source" "[B" (.ref a1)) :
    Ctr l Z (⟨"mandate/Records$Record", "source", "()[B"⟩ : MethodName) prog_134_method_5_code 1 (some (.array .byte)) own_rm15_room n0 #[(.ref r)] h0 (fun v h => v = some (.ref a1) ∧ h = h0) := by
  refine Ctr.of #[.val (.ref r)] (plainFor_of_name pn_6) Z0 (fun m => by first | (simp [entryFrame, mkF, argsToLocals, Value.category]; done) | rfl) ?_
  intro C H
  refine k_aloadN (pc := 0) H d15_0 rfl rfl ?_
  refine k_getfield (pc := 1) H (wd hw 80 rfl) F d15_1 ?_
  exact k_retRef (t := (.array .byte)) rfl rfl (pc := 4) H d15_4 (by show 0 ≤ own_rm15_room.cells; decide) (by show 0 ≤ own_rm15_room.slots; decide) (⟨rfl, rfl⟩)
theorem d16_0 : decode prog_134_method_3_code 0 = .ok (.aload_n 0, 1) := by decide +kernel
theorem d16_1 : decode prog_134_method_3_code 1 = .ok (.getfield 24, 3) := by decide +kernel
theorem d16_4 : decode prog_134_method_3_code 4 = .ok (.lreturn, 1) := by decide +kernel
abbrev own_rm16_room : Room := { frames := 0, cells := 0, slots := 0, locals := 0 }
set_option maxRecDepth 65536 in
set_option maxHeartbeats 40000000 in
theorem rm16 (l : Launch) (Z : State) (a0 : Array Value) (hw : ∀ d ∈ tables_1, d.before a0 Z = true) (n0 : Nat) (h0 : Heap) (Z0 : n0 ≤ h0.size) (r : Addr) (p1 : Int64) (F : Fld Z h0 r "mandate/Records$Record" "parent" "J" (.long p1)) :
    Ctr l Z (⟨"mandate/Records$Record", "parent", "()J"⟩ : MethodName) prog_134_method_3_code 1 (some .long) own_rm16_room n0 #[(.ref r)] h0 (fun v h => v = some (.long p1) ∧ h = h0) := by
  refine Ctr.of #[.val (.ref r)] (plainFor_of_name pn_6) Z0 (fun m => by first | (simp [entryFrame, mkF, argsToLocals, Value.category]; done) | rfl) ?_
  intro C H
  refine k_aloadN (pc := 0) H d16_0 rfl rfl ?_
  refine k_getfield (pc := 1) H (wd hw 49 rfl) F d16_1 ?_
  exact k_retLong (pc := 4) H d16_4 (by show 0 ≤ own_rm16_room.cells; decide) (by show 0 ≤ own_rm16_room.slots; decide) (⟨rfl, rfl⟩)
theorem d17_0 : decode prog_134_method_4_code 0 = .ok (.aload_n 0, 1) := by decide +kernel
theorem d17_1 : decode prog_134_method_4_code 1 = .ok (.getfield 32, 3) := by decide +kernel
theorem d17_4 : decode prog_134_method_4_code 4 = .ok (.ireturn, 1) := by decide +kernel
abbrev own_rm17_room : Room := { frames := 0, cells := 0, slots := 0, locals := 0 }
set_option maxRecDepth 65536 in
set_option maxHeartbeats 40000000 in
theorem rm17 (l : Launch) (Z : State) (a0 : Array Value) (hw : ∀ d ∈ tables_1, d.before a0 Z = true) (n0 : Nat) (h0 : Heap) (Z0 : n0 ≤ h0.size) (r : Addr) (s1 : Int32) (F : Fld Z h0 r "mandate/Records$Record" "step" "I" (.int s1)) :
    Ctr l Z (⟨"mandate/Records$Record", "step", "()I"⟩ : MethodName) prog_134_method_4_code 1 (some .int) own_rm17_room n0 #[(.ref r)] h0 (fun v h => v = some (.int s1) ∧ h = h0) := by
  refine Ctr.of #[.val (.ref r)] (plainFor_of_name pn_6) Z0 (fun m => by first | (simp [entryFrame, mkF, argsToLocals, Value.category]; done) | rfl) ?_
  intro C H
  refine k_aloadN (pc := 0) H d17_0 rfl rfl ?_
  refine k_getfield (pc := 1) H (wd hw 57 rfl) F d17_1 ?_
  exact k_retInt (pc := 4) H d17_4 (by show 0 ≤ own_rm17_room.cells; decide) (by show 0 ≤ own_rm17_room.slots; decide) (⟨rfl, rfl⟩)
theorem d20_0 : decode prog_134_method_6_code 0 = .ok (.aload_n 0, 1) := by decide +kernel
theorem d20_1 : decode prog_134_method_6_code 1 = .ok (.getfield 52, 3) := by decide +kernel
theorem d20_4 : decode prog_134_method_6_code 4 = .ok (.ireturn, 1) := by decide +kernel
abbrev own_rm20_room : Room := { frames := 0, cells := 0, slots := 0, locals := 0 }
set_option maxRecDepth 65536 in
set_option maxHeartbeats 40000000 in
theorem rm20 (l : Launch) (Z : State) (a0 : Array Value) (hw : ∀ d ∈ tables_1, d.before a0 Z = true) (n0 : Nat) (h0 : Heap) (Z0 : n0 ≤ h0.size) (r : Addr) (ks1 : Int32) (F : Fld Z h0 r "mandate/Records$Record" "keyStart" "I" (.int ks1)) :
    Ctr l Z (⟨"mandate/Records$Record", "keyStart", "()I"⟩ : MethodName) prog_134_method_6_code 1 (some .int) own_rm20_room n0 #[(.ref r)] h0 (fun v h => v = some (.int ks1) ∧ h = h0) := by
  refine Ctr.of #[.val (.ref r)] (plainFor_of_name pn_6) Z0 (fun m => by first | (simp [entryFrame, mkF, argsToLocals, Value.category]; done) | rfl) ?_
  intro C H
  refine k_aloadN (pc := 0) H d20_0 rfl rfl ?_
  refine k_getfield (pc := 1) H (wd hw 82 rfl) F d20_1 ?_
  exact k_retInt (pc := 4) H d20_4 (by show 0 ≤ own_rm20_room.cells; decide) (by show 0 ≤ own_rm20_room.slots; decide) (⟨rfl, rfl⟩)
theorem d18_0 : decode prog_134_method_7_code 0 = .ok (.aload_n 0, 1) := by decide +kernel
theorem d18_1 : decode prog_134_method_7_code 1 = .ok (.getfield 36, 3) := by decide +kernel
theorem d18_4 : decode prog_134_method_7_code 4 = .ok (.ireturn, 1) := by decide +kernel
abbrev own_rm18_room : Room := { frames := 0, cells := 0, slots := 0, locals := 0 }
set_option maxRecDepth 65536 in
set_option maxHeartbeats 40000000 in
theorem rm18 (l : Launch) (Z : State) (a0 : Array Value) (hw : ∀ d ∈ tables_1, d.before a0 Z = true) (n0 : Nat) (h0 : Heap) (Z0 : n0 ≤ h0.size) (r : Addr) (kl1 : Int32) (F : Fld Z h0 r "mandate/Records$Record" "keyLength" "I" (.int kl1)) :
    Ctr l Z (⟨"mandate/Records$Record", "keyLength", "()I"⟩ : MethodName) prog_134_method_7_code 1 (some .int) own_rm18_room n0 #[(.ref r)] h0 (fun v h => v = some (.int kl1) ∧ h = h0) := by
  refine Ctr.of #[.val (.ref r)] (plainFor_of_name pn_6) Z0 (fun m => by first | (simp [entryFrame, mkF, argsToLocals, Value.category]; done) | rfl) ?_
  intro C H
  refine k_aloadN (pc := 0) H d18_0 rfl rfl ?_
  refine k_getfield (pc := 1) H (wd hw 59 rfl) F d18_1 ?_
  exact k_retInt (pc := 4) H d18_4 (by show 0 ≤ own_rm18_room.cells; decide) (by show 0 ≤ own_rm18_room.slots; decide) (⟨rfl, rfl⟩)
theorem d21_0 : decode prog_134_method_8_code 0 = .ok (.aload_n 0, 1) := by decide +kernel
theorem d21_1 : decode prog_134_method_8_code 1 = .ok (.getfield 55, 3) := by decide +kernel
theorem d21_4 : decode prog_134_method_8_code 4 = .ok (.ireturn, 1) := by decide +kernel
abbrev own_rm21_room : Room := { frames := 0, cells := 0, slots := 0, locals := 0 }
set_option maxRecDepth 65536 in
set_option maxHeartbeats 40000000 in
theorem rm21 (l : Launch) (Z : State) (a0 : Array Value) (hw : ∀ d ∈ tables_1, d.before a0 Z = true) (n0 : Nat) (h0 : Heap) (Z0 : n0 ≤ h0.size) (r : Addr) (bs1 : Int32) (F : Fld Z h0 r "mandate/Records$Record" "bodyStart" "I" (.int bs1)) :
    Ctr l Z (⟨"mandate/Records$Record", "bodyStart", "()I"⟩ : MethodName) prog_134_method_8_code 1 (some .int) own_rm21_room n0 #[(.ref r)] h0 (fun v h => v = some (.int bs1) ∧ h = h0) := by
  refine Ctr.of #[.val (.ref r)] (plainFor_of_name pn_6) Z0 (fun m => by first | (simp [entryFrame, mkF, argsToLocals, Value.category]; done) | rfl) ?_
  intro C H
  refine k_aloadN (pc := 0) H d21_0 rfl rfl ?_
  refine k_getfield (pc := 1) H (wd hw 84 rfl) F d21_1 ?_
  exact k_retInt (pc := 4) H d21_4 (by show 0 ≤ own_rm21_room.cells; decide) (by show 0 ≤ own_rm21_room.slots; decide) (⟨rfl, rfl⟩)
theorem d19_0 : decode prog_134_method_9_code 0 = .ok (.aload_n 0, 1) := by decide +kernel
theorem d19_1 : decode prog_134_method_9_code 1 = .ok (.getfield 39, 3) := by decide +kernel
theorem d19_4 : decode prog_134_method_9_code 4 = .ok (.ireturn, 1) := by decide +kernel
abbrev own_rm19_room : Room := { frames := 0, cells := 0, slots := 0, locals := 0 }
set_option maxRecDepth 65536 in
set_option maxHeartbeats 40000000 in
theorem rm19 (l : Launch) (Z : State) (a0 : Array Value) (hw : ∀ d ∈ tables_1, d.before a0 Z = true) (n0 : Nat) (h0 : Heap) (Z0 : n0 ≤ h0.size) (r : Addr) (bl1 : Int32) (F : Fld Z h0 r "mandate/Records$Record" "bodyLength" "I" (.int bl1)) :
    Ctr l Z (⟨"mandate/Records$Record", "bodyLength", "()I"⟩ : MethodName) prog_134_method_9_code 1 (some .int) own_rm19_room n0 #[(.ref r)] h0 (fun v h => v = some (.int bl1) ∧ h = h0) := by
  refine Ctr.of #[.val (.ref r)] (plainFor_of_name pn_6) Z0 (fun m => by first | (simp [entryFrame, mkF, argsToLocals, Value.category]; done) | rfl) ?_
  intro C H
  refine k_aloadN (pc := 0) H d19_0 rfl rfl ?_
  refine k_getfield (pc := 1) H (wd hw 61 rfl) F d19_1 ?_
  exact k_retInt (pc := 4) H d19_4 (by show 0 ≤ own_rm19_room.cells; decide) (by show 0 ≤ own_rm19_room.slots; decide) (⟨rfl, rfl⟩)
theorem d0_0 : decode code 0 = .ok (.iload_n 3, 1) := by decide +kernel
theorem d0_1 : decode code 1 = .ok (.bipush 63, 2) := by decide +kernel
theorem d0_3 : decode code 3 = .ok (.iand, 1) := by decide +kernel
theorem d0_4 : decode code 4 = .ok (.istore 8, 2) := by decide +kernel
theorem d0_6 : decode code 6 = .ok (.iload_n 3, 1) := by decide +kernel
theorem d0_7 : decode code 7 = .ok (.bipush 6, 2) := by decide +kernel
theorem d0_9 : decode code 9 = .ok (.iushr, 1) := by decide +kernel
theorem d0_10 : decode code 10 = .ok (.bipush 63, 2) := by decide +kernel
theorem d0_12 : decode code 12 = .ok (.iand, 1) := by decide +kernel
theorem d0_13 : decode code 13 = .ok (.istore 9, 2) := by decide +kernel
theorem d0_15 : decode code 15 = .ok (.iload_n 3, 1) := by decide +kernel
theorem d0_16 : decode code 16 = .ok (.bipush 12, 2) := by decide +kernel
theorem d0_18 : decode code 18 = .ok (.iushr, 1) := by decide +kernel
theorem d0_19 : decode code 19 = .ok (.bipush 7, 2) := by decide +kernel
theorem d0_21 : decode code 21 = .ok (.iand, 1) := by decide +kernel
theorem d0_22 : decode code 22 = .ok (.istore 10, 2) := by decide +kernel
theorem d0_24 : decode code 24 = .ok (.iload 7, 2) := by decide +kernel
theorem d0_26 : decode code 26 = .ok (.bipush 63, 2) := by decide +kernel
theorem d0_28 : decode code 28 = .ok (.iand, 1) := by decide +kernel
theorem d0_29 : decode code 29 = .ok (.istore 11, 2) := by decide +kernel
theorem d0_31 : decode code 31 = .ok (.iload 7, 2) := by decide +kernel
theorem d0_33 : decode code 33 = .ok (.bipush 6, 2) := by decide +kernel
theorem d0_35 : decode code 35 = .ok (.iushr, 1) := by decide +kernel
theorem d0_36 : decode code 36 = .ok (.bipush 63, 2) := by decide +kernel
theorem d0_38 : decode code 38 = .ok (.iand, 1) := by decide +kernel
theorem d0_39 : decode code 39 = .ok (.istore 12, 2) := by decide +kernel
theorem d0_41 : decode code 41 = .ok (.iload 7, 2) := by decide +kernel
theorem d0_43 : decode code 43 = .ok (.bipush 12, 2) := by decide +kernel
theorem d0_45 : decode code 45 = .ok (.iushr, 1) := by decide +kernel
theorem d0_46 : decode code 46 = .ok (.bipush 7, 2) := by decide +kernel
theorem d0_48 : decode code 48 = .ok (.iand, 1) := by decide +kernel
theorem d0_49 : decode code 49 = .ok (.istore 13, 2) := by decide +kernel
theorem d0_51 : decode code 51 = .ok (.bipush 32, 2) := by decide +kernel
theorem d0_53 : decode code 53 = .ok (.newarray .byte, 2) := by decide +kernel
theorem d0_55 : decode code 55 = .ok (.astore 14, 2) := by decide +kernel
theorem d0_57 : decode code 57 = .ok (.bipush 32, 2) := by decide +kernel
theorem d0_59 : decode code 59 = .ok (.newarray .byte, 2) := by decide +kernel
theorem d0_61 : decode code 61 = .ok (.astore 15, 2) := by decide +kernel
theorem d0_63 : decode code 63 = .ok (.aload 14, 2) := by decide +kernel
theorem d0_65 : decode code 65 = .ok (.iload 13, 2) := by decide +kernel
theorem d0_67 : decode code 67 = .ok (.lload 4, 2) := by decide +kernel
theorem d0_69 : decode code 69 = .ok (.iload 6, 2) := by decide +kernel
theorem d0_71 : decode code 71 = .ok (.iload 11, 2) := by decide +kernel
theorem d0_73 : decode code 73 = .ok (.iload 12, 2) := by decide +kernel
theorem d0_75 : decode code 75 = .ok (.invokestatic 7, 3) := by decide +kernel
theorem d0_78 : decode code 78 = .ok (.aload 15, 2) := by decide +kernel
theorem d0_80 : decode code 80 = .ok (.iload 10, 2) := by decide +kernel
theorem d0_82 : decode code 82 = .ok (.lload_n 0, 1) := by decide +kernel
theorem d0_83 : decode code 83 = .ok (.iload_n 2, 1) := by decide +kernel
theorem d0_84 : decode code 84 = .ok (.iload 8, 2) := by decide +kernel
theorem d0_86 : decode code 86 = .ok (.iload 9, 2) := by decide +kernel
theorem d0_88 : decode code 88 = .ok (.invokestatic 7, 3) := by decide +kernel
theorem d0_91 : decode code 91 = .ok (.new 13, 3) := by decide +kernel
theorem d0_94 : decode code 94 = .ok (.dup, 1) := by decide +kernel
theorem d0_95 : decode code 95 = .ok (.invokespecial 15, 3) := by decide +kernel
theorem d0_98 : decode code 98 = .ok (.astore 16, 2) := by decide +kernel
theorem d0_100 : decode code 100 = .ok (.new 13, 3) := by decide +kernel
theorem d0_103 : decode code 103 = .ok (.dup, 1) := by decide +kernel
theorem d0_104 : decode code 104 = .ok (.invokespecial 15, 3) := by decide +kernel
theorem d0_107 : decode code 107 = .ok (.astore 17, 2) := by decide +kernel
theorem d0_109 : decode code 109 = .ok (.aload 16, 2) := by decide +kernel
theorem d0_111 : decode code 111 = .ok (.aload 14, 2) := by decide +kernel
theorem d0_113 : decode code 113 = .ok (.iload 13, 2) := by decide +kernel
theorem d0_115 : decode code 115 = .ok (.invokevirtual 16, 3) := by decide +kernel
theorem d0_118 : decode code 118 = .ok (.pop, 1) := by decide +kernel
theorem d0_119 : decode code 119 = .ok (.aload 17, 2) := by decide +kernel
theorem d0_121 : decode code 121 = .ok (.aload 15, 2) := by decide +kernel
theorem d0_123 : decode code 123 = .ok (.iload 10, 2) := by decide +kernel
theorem d0_125 : decode code 125 = .ok (.invokevirtual 16, 3) := by decide +kernel
theorem d0_128 : decode code 128 = .ok (.pop, 1) := by decide +kernel
theorem d0_129 : decode code 129 = .ok (.aload 16, 2) := by decide +kernel
theorem d0_131 : decode code 131 = .ok (.aload 17, 2) := by decide +kernel
theorem d0_133 : decode code 133 = .ok (.invokevirtual 20, 3) := by decide +kernel
theorem d0_136 : decode code 136 = .ok (.aload 16, 2) := by decide +kernel
theorem d0_138 : decode code 138 = .ok (.invokevirtual 24, 3) := by decide +kernel
theorem d0_141 : decode code 141 = .ok (.aload 15, 2) := by decide +kernel
theorem d0_143 : decode code 143 = .ok (.if_acmp .ne 82, 3) := by decide +kernel
theorem d0_146 : decode code 146 = .ok (.aload 16, 2) := by decide +kernel
theorem d0_148 : decode code 148 = .ok (.invokevirtual 28, 3) := by decide +kernel
theorem d0_151 : decode code 151 = .ok (.lload_n 0, 1) := by decide +kernel
theorem d0_152 : decode code 152 = .ok (.lcmp, 1) := by decide +kernel
theorem d0_153 : decode code 153 = .ok (.ifCond .ne 72, 3) := by decide +kernel
theorem d0_156 : decode code 156 = .ok (.aload 16, 2) := by decide +kernel
theorem d0_158 : decode code 158 = .ok (.invokevirtual 32, 3) := by decide +kernel
theorem d0_161 : decode code 161 = .ok (.iload_n 2, 1) := by decide +kernel
theorem d0_162 : decode code 162 = .ok (.if_icmp .ne 63, 3) := by decide +kernel
theorem d0_165 : decode code 165 = .ok (.aload 16, 2) := by decide +kernel
theorem d0_167 : decode code 167 = .ok (.invokevirtual 36, 3) := by decide +kernel
theorem d0_170 : decode code 170 = .ok (.iload 8, 2) := by decide +kernel
theorem d0_172 : decode code 172 = .ok (.if_icmp .ne 53, 3) := by decide +kernel
theorem d0_175 : decode code 175 = .ok (.aload 16, 2) := by decide +kernel
theorem d0_177 : decode code 177 = .ok (.invokevirtual 39, 3) := by decide +kernel
theorem d0_180 : decode code 180 = .ok (.iload 9, 2) := by decide +kernel
theorem d0_182 : decode code 182 = .ok (.if_icmp .ne 43, 3) := by decide +kernel
theorem d0_185 : decode code 185 = .ok (.aload 16, 2) := by decide +kernel
theorem d0_187 : decode code 187 = .ok (.invokevirtual 42, 3) := by decide +kernel
theorem d0_190 : decode code 190 = .ok (.aload 17, 2) := by decide +kernel
theorem d0_192 : decode code 192 = .ok (.invokevirtual 42, 3) := by decide +kernel
theorem d0_195 : decode code 195 = .ok (.if_icmp .ne 30, 3) := by decide +kernel
theorem d0_198 : decode code 198 = .ok (.aload 16, 2) := by decide +kernel
theorem d0_200 : decode code 200 = .ok (.invokevirtual 45, 3) := by decide +kernel
theorem d0_203 : decode code 203 = .ok (.aload 17, 2) := by decide +kernel
theorem d0_205 : decode code 205 = .ok (.invokevirtual 45, 3) := by decide +kernel
theorem d0_208 : decode code 208 = .ok (.if_icmp .ne 17, 3) := by decide +kernel
theorem d0_211 : decode code 211 = .ok (.aload 17, 2) := by decide +kernel
theorem d0_213 : decode code 213 = .ok (.invokevirtual 28, 3) := by decide +kernel
theorem d0_216 : decode code 216 = .ok (.lload_n 0, 1) := by decide +kernel
theorem d0_217 : decode code 217 = .ok (.lcmp, 1) := by decide +kernel
theorem d0_218 : decode code 218 = .ok (.ifCond .ne 7, 3) := by decide +kernel
theorem d0_221 : decode code 221 = .ok (.iconst 1, 1) := by decide +kernel
theorem d0_222 : decode code 222 = .ok (.goto 4, 3) := by decide +kernel
theorem d0_225 : decode code 225 = .ok (.iconst 0, 1) := by decide +kernel
theorem d0_226 : decode code 226 = .ok (.ireturn, 1) := by decide +kernel
set_option maxRecDepth 65536 in
set_option maxHeartbeats 40000000 in
theorem rm0 (l : Launch) (Z : State) (a0 : Array Value) (hw : ∀ d ∈ tables_1, d.before a0 Z = true) (ws : List Jvm.Cond) (n0 : Nat) (h0 : Heap) (Z0 : n0 ≤ h0.size) (pp : Int64) (st : Int32) (lens : Int32) (qq : Int64) (rs : Int32) (mix : Int32) :
    MetFree l x (head1 (Jvm.Cond.code x code maxLocals ret :: ws) room_1) (fun as_ U => as_ = #[(.long pp), (.int st), (.int lens), (.long qq), (.int rs), (.int mix)] ∧ Z.Warmed39 U.vm ∧ U.heap = h0) (fun _ _ _ _ _ => True) (fun _ U o U' => ∃ v L, o = .returned v ∧ ((fun v h => v = some (.int 1)) v U'.heap ∧ Fr n0 L) ∧ FrameEnd U o U' L 24 256) := by
  refine met_of (Q := fun v h => v = some (.int 1)) #[.val (.long pp), .second, .val (.int st), .val (.int lens), .val (.long qq), .second, .val (.int rs), .val (.int mix), .unset, .unset, .unset, .unset, .unset, .unset, .unset, .unset, .unset, .unset] (plainFor_of_name pn_0) Z0 (fun m => by first | (simp [entryFrame, mkF, argsToLocals, Value.category, maxLocals]; done) | rfl) ?_
  intro C H
  refine k_iloadN (pc := 0) H d0_0 rfl ?_
  refine k_bipush (63 : Int32) (pc := 1) H d0_1 rfl ?_
  refine k_iand (pc := 3) H d0_3 ?_
  generalize hv_kl : (lens &&& (63 : Int32)) = kl
  refine k_istore (pc := 4) H d0_4 (Ls' := #[.val (.long pp), .second, .val (.int st), .val (.int lens), .val (.long qq), .second, .val (.int rs), .val (.int mix), .val (.int kl), .unset, .unset, .unset, .unset, .unset, .unset, .unset, .unset, .unset]) rfl ?_
  refine k_iloadN (pc := 6) H d0_6 rfl ?_
  refine k_bipush (6 : Int32) (pc := 7) H d0_7 rfl ?_
  refine k_iushr (pc := 9) H d0_9 ?_
  refine k_bipush (63 : Int32) (pc := 10) H d0_10 rfl ?_
  refine k_iand (pc := 12) H d0_12 ?_
  generalize hv_bl : ((XT.ushr lens (6 : Int32)) &&& (63 : Int32)) = bl
  refine k_istore (pc := 13) H d0_13 (Ls' := #[.val (.long pp), .second, .val (.int st), .val (.int lens), .val (.long qq), .second, .val (.int rs), .val (.int mix), .val (.int kl), .val (.int bl), .unset, .unset, .unset, .unset, .unset, .unset, .unset, .unset]) rfl ?_
  refine k_iloadN (pc := 15) H d0_15 rfl ?_
  refine k_bipush (12 : Int32) (pc := 16) H d0_16 rfl ?_
  refine k_iushr (pc := 18) H d0_18 ?_
  refine k_bipush (7 : Int32) (pc := 19) H d0_19 rfl ?_
  refine k_iand (pc := 21) H d0_21 ?_
  generalize hv_s2 : ((XT.ushr lens (12 : Int32)) &&& (7 : Int32)) = s2
  refine k_istore (pc := 22) H d0_22 (Ls' := #[.val (.long pp), .second, .val (.int st), .val (.int lens), .val (.long qq), .second, .val (.int rs), .val (.int mix), .val (.int kl), .val (.int bl), .val (.int s2), .unset, .unset, .unset, .unset, .unset, .unset, .unset]) rfl ?_
  refine k_iload (pc := 24) H d0_24 rfl ?_
  refine k_bipush (63 : Int32) (pc := 26) H d0_26 rfl ?_
  refine k_iand (pc := 28) H d0_28 ?_
  generalize hv_rkl : (mix &&& (63 : Int32)) = rkl
  refine k_istore (pc := 29) H d0_29 (Ls' := #[.val (.long pp), .second, .val (.int st), .val (.int lens), .val (.long qq), .second, .val (.int rs), .val (.int mix), .val (.int kl), .val (.int bl), .val (.int s2), .val (.int rkl), .unset, .unset, .unset, .unset, .unset, .unset]) rfl ?_
  refine k_iload (pc := 31) H d0_31 rfl ?_
  refine k_bipush (6 : Int32) (pc := 33) H d0_33 rfl ?_
  refine k_iushr (pc := 35) H d0_35 ?_
  refine k_bipush (63 : Int32) (pc := 36) H d0_36 rfl ?_
  refine k_iand (pc := 38) H d0_38 ?_
  generalize hv_rbl : ((XT.ushr mix (6 : Int32)) &&& (63 : Int32)) = rbl
  refine k_istore (pc := 39) H d0_39 (Ls' := #[.val (.long pp), .second, .val (.int st), .val (.int lens), .val (.long qq), .second, .val (.int rs), .val (.int mix), .val (.int kl), .val (.int bl), .val (.int s2), .val (.int rkl), .val (.int rbl), .unset, .unset, .unset, .unset, .unset]) rfl ?_
  refine k_iload (pc := 41) H d0_41 rfl ?_
  refine k_bipush (12 : Int32) (pc := 43) H d0_43 rfl ?_
  refine k_iushr (pc := 45) H d0_45 ?_
  refine k_bipush (7 : Int32) (pc := 46) H d0_46 rfl ?_
  refine k_iand (pc := 48) H d0_48 ?_
  generalize hv_s1 : ((XT.ushr mix (12 : Int32)) &&& (7 : Int32)) = s1
  refine k_istore (pc := 49) H d0_49 (Ls' := #[.val (.long pp), .second, .val (.int st), .val (.int lens), .val (.long qq), .second, .val (.int rs), .val (.int mix), .val (.int kl), .val (.int bl), .val (.int s2), .val (.int rkl), .val (.int rbl), .val (.int s1), .unset, .unset, .unset, .unset]) rfl ?_
  refine k_bipush (32 : Int32) (pc := 51) H d0_51 rfl ?_
  obtain ⟨n_kl, h_kl, l_kl⟩ := mask_nat lens 63 6 (by decide) (by decide)
  rw [hv_kl] at h_kl
  have b_kl : n_kl < 64 := l_kl
  obtain ⟨n_bl, h_bl, l_bl⟩ := mask_nat (XT.ushr lens 6) 63 6 (by decide) (by decide)
  rw [hv_bl] at h_bl
  have b_bl : n_bl < 64 := l_bl
  obtain ⟨n_s2, h_s2, l_s2⟩ := mask_nat (XT.ushr lens 12) 7 3 (by decide) (by decide)
  rw [hv_s2] at h_s2
  have b_s2 : n_s2 < 8 := l_s2
  obtain ⟨n_rkl, h_rkl, l_rkl⟩ := mask_nat mix 63 6 (by decide) (by decide)
  rw [hv_rkl] at h_rkl
  have b_rkl : n_rkl < 64 := l_rkl
  obtain ⟨n_rbl, h_rbl, l_rbl⟩ := mask_nat (XT.ushr mix 6) 63 6 (by decide) (by decide)
  rw [hv_rbl] at h_rbl
  have b_rbl : n_rbl < 64 := l_rbl
  obtain ⟨n_s1, h_s1, l_s1⟩ := mask_nat (XT.ushr mix 12) 7 3 (by decide) (by decide)
  rw [hv_s1] at h_s1
  have b_s1 : n_s1 < 8 := l_s1
  refine k_new_byte (32) 32 (pc := 53) H (wd hw 0 rfl) d0_53 (by decide) (by decide) (by decide) (by decide) (by decide) ?_
  intro h534 am ea535 ge536 E537 XA533 V538
  refine k_astore (pc := 55) H d0_55 rfl (Ls' := #[.val (.long pp), .second, .val (.int st), .val (.int lens), .val (.long qq), .second, .val (.int rs), .val (.int mix), .val (.int kl), .val (.int bl), .val (.int s2), .val (.int rkl), .val (.int rbl), .val (.int s1), .val (.ref am), .unset, .unset, .unset]) rfl ?_
  refine k_bipush (32 : Int32) (pc := 57) H d0_57 rfl ?_
  refine k_new_byte (32) 32 (pc := 59) H (wd hw 0 rfl) d0_59 (by decide) (by decide) (by decide) (by decide) (by decide) ?_
  intro h540 bm ea541 ge542 E543 XA539 V544
  have ne545 : am ≠ bm := Nat.ne_of_lt (by rw [ea541]; exact V538.lt)
  have f546 : BA Z h540 am (List.replicate (32) 0) := V538.ext E543
  refine k_astore (pc := 61) H d0_61 rfl (Ls' := #[.val (.long pp), .second, .val (.int st), .val (.int lens), .val (.long qq), .second, .val (.int rs), .val (.int mix), .val (.int kl), .val (.int bl), .val (.int s2), .val (.int rkl), .val (.int rbl), .val (.int s1), .val (.ref am), .val (.ref bm), .unset, .unset]) rfl ?_
  refine k_aload (pc := 63) H d0_63 rfl rfl ?_
  refine k_iload (pc := 65) H d0_65 rfl ?_
  refine k_lload (pc := 67) H d0_67 rfl ?_
  refine k_iload (pc := 69) H d0_69 rfl ?_
  refine k_iload (pc := 71) H d0_71 rfl ?_
  refine k_iload (pc := 73) H d0_73 rfl ?_
  refine k_invS (y := (⟨"mandate/RecordTakePinLaw", "header", "([BIJIII)V"⟩ : MethodName)) (st := []) [(.ref am), (.int s1), (.long qq), (.int rs), (.int rkl), (.int rbl)] 0 (pc := 75) H (wd hw 1 rfl) (wd hw 2 rfl) (wd hw 3 rfl) (wd hw 4 rfl) (by decide) (fun z0 => rm1 l Z a0 hw n0 h540 z0 am _ s1 qq rs rkl rbl n_s1 ge536 f546 h_s1 (by rw [List.length_replicate]; omega) (by rw [List.length_replicate]; decide)) (lenOf pd_8 rfl) d0_75 rfl rfl rfl (by decide) (by decide) (by decide) (by decide) ?_
  rintro v h549 ⟨ys0, rfl, K547, V548, ly0, ta0, tb0, tc0, td0⟩
  show W l room_1 C _ h549 2 64 78 #[.val (.long pp), .second, .val (.int st), .val (.int lens), .val (.long qq), .second, .val (.int rs), .val (.int mix), .val (.int kl), .val (.int bl), .val (.int s2), .val (.int rkl), .val (.int rbl), .val (.int s1), .val (.ref am), .val (.ref bm), .unset, .unset] []
  have f550 : BA Z h549 bm (List.replicate (32) 0) := V544.keep K547 (ninS (Ne.symm ne545) nin0)
  rw [List.length_replicate] at ly0
  refine k_aload (pc := 78) H d0_78 rfl rfl ?_
  refine k_iload (pc := 80) H d0_80 rfl ?_
  refine k_lloadN (pc := 82) H d0_82 rfl ?_
  refine k_iloadN (pc := 83) H d0_83 rfl ?_
  refine k_iload (pc := 84) H d0_84 rfl ?_
  refine k_iload (pc := 86) H d0_86 rfl ?_
  refine k_invS (y := (⟨"mandate/RecordTakePinLaw", "header", "([BIJIII)V"⟩ : MethodName)) (st := []) [(.ref bm), (.int s2), (.long pp), (.int st), (.int kl), (.int bl)] 0 (pc := 88) H (wd hw 1 rfl) (wd hw 2 rfl) (wd hw 3 rfl) (wd hw 4 rfl) (by decide) (fun z0 => rm1 l Z a0 hw n0 h549 z0 bm _ s2 pp st kl bl n_s2 ge542 f550 h_s2 (by rw [List.length_replicate]; omega) (by rw [List.length_replicate]; decide)) (lenOf pd_8 rfl) d0_88 rfl rfl rfl (by decide) (by decide) (by decide) (by decide) ?_
  rintro v h553 ⟨ys1, rfl, K551, V552, ly1, ta1, tb1, tc1, td1⟩
  show W l room_1 C _ h553 2 64 91 #[.val (.long pp), .second, .val (.int st), .val (.int lens), .val (.long qq), .second, .val (.int rs), .val (.int mix), .val (.int kl), .val (.int bl), .val (.int s2), .val (.int rkl), .val (.int rbl), .val (.int s1), .val (.ref am), .val (.ref bm), .unset, .unset] []
  have f554 : BA Z h553 am ys0 := V548.keep K551 (ninS ne545 nin0)
  rw [List.length_replicate] at ly1
  refine k_newObj (pc := 91) H (wd hw 10 rfl) (wd hw 11 rfl) (wd hw 12 rfl) d0_91 (by decide) (by decide) ?_
  intro h555 r ea556 ge557 E558 X559 D560
  have ne561 : am ≠ r := Nat.ne_of_lt (by rw [ea556]; exact f554.lt)
  have ne562 : bm ≠ r := Nat.ne_of_lt (by rw [ea556]; exact V552.lt)
  have f563 : BA Z h555 am ys0 := f554.ext E558
  have f564 : BA Z h555 bm ys1 := V552.ext E558
  have f565 : Fld Z h555 r "mandate/Records$Record" "numbers" "Lmandate/Unpacker;" .null := D560 (Or.inr (wd hw 27 rfl)) (ty := (.object "mandate/Unpacker")) (by decide)
  have f566 : Fld Z h555 r "mandate/Records$Record" "parent" "J" (.long (0 : Int64)) := D560 (Or.inl (wd hw 50 rfl)) (ty := .long) (by decide)
  have f567 : Fld Z h555 r "mandate/Records$Record" "step" "I" (.int (0 : Int32)) := D560 (Or.inl (wd hw 58 rfl)) (ty := .int) (by decide)
  have f568 : Fld Z h555 r "mandate/Records$Record" "keyLength" "I" (.int (0 : Int32)) := D560 (Or.inl (wd hw 60 rfl)) (ty := .int) (by decide)
  have f569 : Fld Z h555 r "mandate/Records$Record" "bodyLength" "I" (.int (0 : Int32)) := D560 (Or.inl (wd hw 62 rfl)) (ty := .int) (by decide)
  have f570 : Fld Z h555 r "mandate/Records$Record" "source" "[B" .null := D560 (Or.inl (wd hw 81 rfl)) (ty := (.array .byte)) (by decide)
  have f571 : Fld Z h555 r "mandate/Records$Record" "keyStart" "I" (.int (0 : Int32)) := D560 (Or.inl (wd hw 83 rfl)) (ty := .int) (by decide)
  have f572 : Fld Z h555 r "mandate/Records$Record" "bodyStart" "I" (.int (0 : Int32)) := D560 (Or.inl (wd hw 85 rfl)) (ty := .int) (by decide)
  refine k_dup (pc := 94) H d0_94 rfl ?_
  refine k_invI (y := (⟨"mandate/Records$Record", "<init>", "()V"⟩ : MethodName)) (st := [(.ref r)]) (a := r) [] 1 (pc := 95) H rfl (wd hw 13 rfl) (wd hw 14 rfl) (wd hw 12 rfl) (wd hw 15 rfl) (by decide) (fun z0 => rm3 l Z a0 hw n0 h555 z0 r ge557 X559 f570 f566 f567 f571 f568 f572 f569 f565) (lenOf pd_4 rfl) d0_95 rfl rfl rfl (by decide) (by decide) (by decide) (by decide) ?_
  rintro v h588 ⟨u, rfl, ge576, sz573, K574, X575, G577, G578, G579, F580, F581, F582, F583, F584, F585, F586, F587⟩
  show W l room_1 C _ h588 4 75 98 #[.val (.long pp), .second, .val (.int st), .val (.int lens), .val (.long qq), .second, .val (.int rs), .val (.int mix), .val (.int kl), .val (.int bl), .val (.int s2), .val (.int rkl), .val (.int rbl), .val (.int s1), .val (.ref am), .val (.ref bm), .unset, .unset] [(.ref r)]
  have ne589 : am ≠ u := Nat.ne_of_lt (Nat.lt_of_lt_of_le f563.lt sz573)
  have ne590 : bm ≠ u := Nat.ne_of_lt (Nat.lt_of_lt_of_le f564.lt sz573)
  have ne591 : r ≠ u := Nat.ne_of_lt (Nat.lt_of_lt_of_le X559.lt sz573)
  have f592 : BA Z h588 am ys0 := f563.keep K574 (ninS ne561 nin0)
  have f593 : BA Z h588 bm ys1 := f564.keep K574 (ninS ne562 nin0)
  have f594 : Exa Z h588 r "mandate/Records$Record" := X559.keep K574
  refine k_astore (pc := 98) H d0_98 rfl (Ls' := #[.val (.long pp), .second, .val (.int st), .val (.int lens), .val (.long qq), .second, .val (.int rs), .val (.int mix), .val (.int kl), .val (.int bl), .val (.int s2), .val (.int rkl), .val (.int rbl), .val (.int s1), .val (.ref am), .val (.ref bm), .val (.ref r), .unset]) rfl ?_
  refine k_newObj (pc := 100) H (wd hw 10 rfl) (wd hw 11 rfl) (wd hw 12 rfl) d0_100 (by decide) (by decide) ?_
  intro h595 o ea596 ge597 E598 X599 D600
  have ne601 : am ≠ o := Nat.ne_of_lt (by rw [ea596]; exact f592.lt)
  have ne602 : bm ≠ o := Nat.ne_of_lt (by rw [ea596]; exact f593.lt)
  have ne603 : r ≠ o := Nat.ne_of_lt (by rw [ea596]; exact f594.lt)
  have ne604 : u ≠ o := Nat.ne_of_lt (by rw [ea596]; exact X575.lt)
  have f605 : BA Z h595 am ys0 := f592.ext E598
  have f606 : BA Z h595 bm ys1 := f593.ext E598
  have f607 : Exa Z h595 r "mandate/Records$Record" := Jvm.RoadKit.Exa.ext E598 f594
  have f608 : Exa Z h595 u "mandate/Unpacker" := Jvm.RoadKit.Exa.ext E598 X575
  have f609 : Fld Z h595 u "mandate/Unpacker" "bytes" "[B" .null := Jvm.RoadKit.Fld.ext E598 G577
  have f610 : Fld Z h595 u "mandate/Unpacker" "position" "I" (.int (0 : Int32)) := Jvm.RoadKit.Fld.ext E598 G578
  have f611 : Fld Z h595 u "mandate/Unpacker" "end" "I" (.int (0 : Int32)) := Jvm.RoadKit.Fld.ext E598 G579
  have f612 : Fld Z h595 r "mandate/Records$Record" "source" "[B" .null := Jvm.RoadKit.Fld.ext E598 F580
  have f613 : Fld Z h595 r "mandate/Records$Record" "parent" "J" (.long (0 : Int64)) := Jvm.RoadKit.Fld.ext E598 F581
  have f614 : Fld Z h595 r "mandate/Records$Record" "step" "I" (.int (0 : Int32)) := Jvm.RoadKit.Fld.ext E598 F582
  have f615 : Fld Z h595 r "mandate/Records$Record" "keyStart" "I" (.int (0 : Int32)) := Jvm.RoadKit.Fld.ext E598 F583
  have f616 : Fld Z h595 r "mandate/Records$Record" "keyLength" "I" (.int (0 : Int32)) := Jvm.RoadKit.Fld.ext E598 F584
  have f617 : Fld Z h595 r "mandate/Records$Record" "bodyStart" "I" (.int (0 : Int32)) := Jvm.RoadKit.Fld.ext E598 F585
  have f618 : Fld Z h595 r "mandate/Records$Record" "bodyLength" "I" (.int (0 : Int32)) := Jvm.RoadKit.Fld.ext E598 F586
  have f619 : Fld Z h595 r "mandate/Records$Record" "numbers" "Lmandate/Unpacker;" (.ref u) := Jvm.RoadKit.Fld.ext E598 F587
  have f620 : Fld Z h595 o "mandate/Records$Record" "numbers" "Lmandate/Unpacker;" .null := D600 (Or.inr (wd hw 27 rfl)) (ty := (.object "mandate/Unpacker")) (by decide)
  have f621 : Fld Z h595 o "mandate/Records$Record" "parent" "J" (.long (0 : Int64)) := D600 (Or.inl (wd hw 50 rfl)) (ty := .long) (by decide)
  have f622 : Fld Z h595 o "mandate/Records$Record" "step" "I" (.int (0 : Int32)) := D600 (Or.inl (wd hw 58 rfl)) (ty := .int) (by decide)
  have f623 : Fld Z h595 o "mandate/Records$Record" "keyLength" "I" (.int (0 : Int32)) := D600 (Or.inl (wd hw 60 rfl)) (ty := .int) (by decide)
  have f624 : Fld Z h595 o "mandate/Records$Record" "bodyLength" "I" (.int (0 : Int32)) := D600 (Or.inl (wd hw 62 rfl)) (ty := .int) (by decide)
  have f625 : Fld Z h595 o "mandate/Records$Record" "source" "[B" .null := D600 (Or.inl (wd hw 81 rfl)) (ty := (.array .byte)) (by decide)
  have f626 : Fld Z h595 o "mandate/Records$Record" "keyStart" "I" (.int (0 : Int32)) := D600 (Or.inl (wd hw 83 rfl)) (ty := .int) (by decide)
  have f627 : Fld Z h595 o "mandate/Records$Record" "bodyStart" "I" (.int (0 : Int32)) := D600 (Or.inl (wd hw 85 rfl)) (ty := .int) (by decide)
  refine k_dup (pc := 103) H d0_103 rfl ?_
  refine k_invI (y := (⟨"mandate/Records$Record", "<init>", "()V"⟩ : MethodName)) (st := [(.ref o)]) (a := o) [] 1 (pc := 104) H rfl (wd hw 13 rfl) (wd hw 14 rfl) (wd hw 12 rfl) (wd hw 15 rfl) (by decide) (fun z0 => rm3 l Z a0 hw n0 h595 z0 o ge597 X599 f625 f621 f622 f626 f623 f627 f624 f620) (lenOf pd_4 rfl) d0_104 rfl rfl rfl (by decide) (by decide) (by decide) (by decide) ?_
  rintro v h643 ⟨uo, rfl, ge631, sz628, K629, X630, G632, G633, G634, F635, F636, F637, F638, F639, F640, F641, F642⟩
  show W l room_1 C _ h643 6 86 107 #[.val (.long pp), .second, .val (.int st), .val (.int lens), .val (.long qq), .second, .val (.int rs), .val (.int mix), .val (.int kl), .val (.int bl), .val (.int s2), .val (.int rkl), .val (.int rbl), .val (.int s1), .val (.ref am), .val (.ref bm), .val (.ref r), .unset] [(.ref o)]
  have ne644 : am ≠ uo := Nat.ne_of_lt (Nat.lt_of_lt_of_le f605.lt sz628)
  have ne645 : bm ≠ uo := Nat.ne_of_lt (Nat.lt_of_lt_of_le f606.lt sz628)
  have ne646 : r ≠ uo := Nat.ne_of_lt (Nat.lt_of_lt_of_le f607.lt sz628)
  have ne647 : u ≠ uo := Nat.ne_of_lt (Nat.lt_of_lt_of_le f608.lt sz628)
  have ne648 : o ≠ uo := Nat.ne_of_lt (Nat.lt_of_lt_of_le X599.lt sz628)
  have f649 : BA Z h643 am ys0 := f605.keep K629 (ninS ne601 nin0)
  have f650 : BA Z h643 bm ys1 := f606.keep K629 (ninS ne602 nin0)
  have f651 : Exa Z h643 r "mandate/Records$Record" := f607.keep K629
  have f652 : Exa Z h643 u "mandate/Unpacker" := f608.keep K629
  have f653 : Fld Z h643 u "mandate/Unpacker" "bytes" "[B" .null := f609.keep K629 (ninS ne604 nin0)
  have f654 : Fld Z h643 u "mandate/Unpacker" "position" "I" (.int (0 : Int32)) := f610.keep K629 (ninS ne604 nin0)
  have f655 : Fld Z h643 u "mandate/Unpacker" "end" "I" (.int (0 : Int32)) := f611.keep K629 (ninS ne604 nin0)
  have f656 : Fld Z h643 r "mandate/Records$Record" "source" "[B" .null := f612.keep K629 (ninS ne603 nin0)
  have f657 : Fld Z h643 r "mandate/Records$Record" "parent" "J" (.long (0 : Int64)) := f613.keep K629 (ninS ne603 nin0)
  have f658 : Fld Z h643 r "mandate/Records$Record" "step" "I" (.int (0 : Int32)) := f614.keep K629 (ninS ne603 nin0)
  have f659 : Fld Z h643 r "mandate/Records$Record" "keyStart" "I" (.int (0 : Int32)) := f615.keep K629 (ninS ne603 nin0)
  have f660 : Fld Z h643 r "mandate/Records$Record" "keyLength" "I" (.int (0 : Int32)) := f616.keep K629 (ninS ne603 nin0)
  have f661 : Fld Z h643 r "mandate/Records$Record" "bodyStart" "I" (.int (0 : Int32)) := f617.keep K629 (ninS ne603 nin0)
  have f662 : Fld Z h643 r "mandate/Records$Record" "bodyLength" "I" (.int (0 : Int32)) := f618.keep K629 (ninS ne603 nin0)
  have f663 : Fld Z h643 r "mandate/Records$Record" "numbers" "Lmandate/Unpacker;" (.ref u) := f619.keep K629 (ninS ne603 nin0)
  have f664 : Exa Z h643 o "mandate/Records$Record" := X599.keep K629
  refine k_astore (pc := 107) H d0_107 rfl (Ls' := #[.val (.long pp), .second, .val (.int st), .val (.int lens), .val (.long qq), .second, .val (.int rs), .val (.int mix), .val (.int kl), .val (.int bl), .val (.int s2), .val (.int rkl), .val (.int rbl), .val (.int s1), .val (.ref am), .val (.ref bm), .val (.ref r), .val (.ref o)]) rfl ?_
  refine k_aload (pc := 109) H d0_109 rfl rfl ?_
  refine k_aload (pc := 111) H d0_111 rfl rfl ?_
  refine k_iload (pc := 113) H d0_113 rfl ?_
  refine k_invV (y := (⟨"mandate/Records$Record", "read", "([BI)I"⟩ : MethodName)) (st := []) (a := r) [(.ref am), (.int s1)] 0 (pc := 115) H (wd hw 28 rfl) (wd hw 29 rfl) (wd hw 31 rfl) (wd hw 30 rfl) (wd hw 12 rfl) (wd hw 32 rfl) rfl (by decide) f651 (fun z0 => rm6 l Z a0 hw n0 h643 z0 r u am ys0 s1 qq rs rkl rbl n_s1 n_rkl n_rbl ge557 ge576 ne591 (Ne.symm ne561) (Ne.symm ne589) f651 f652 f656 f657 f658 f659 f660 f661 f662 f663 f653 f654 f655 f649 ly0 h_s1 b_s1 h_rkl b_rkl h_rbl b_rbl ta0 tb0 tc0 td0) (lenOf pd_9 rfl) d0_115 rfl rfl rfl (by decide) (by decide) (by decide) (by decide) ?_
  rintro v h673 ⟨res0, ks0, bs0, rfl, K665, F666, F667, F668, F669, F670, F671, F672⟩
  show W l room_1 C _ h673 6 86 118 #[.val (.long pp), .second, .val (.int st), .val (.int lens), .val (.long qq), .second, .val (.int rs), .val (.int mix), .val (.int kl), .val (.int bl), .val (.int s2), .val (.int rkl), .val (.int rbl), .val (.int s1), .val (.ref am), .val (.ref bm), .val (.ref r), .val (.ref o)] [(.int res0)]
  have f674 : BA Z h673 am ys0 := f649.keep K665 (ninS ne561 (ninS ne589 nin0))
  have f675 : BA Z h673 bm ys1 := f650.keep K665 (ninS ne562 (ninS ne590 nin0))
  have f676 : Exa Z h673 r "mandate/Records$Record" := f651.keep K665
  have f677 : Exa Z h673 u "mandate/Unpacker" := f652.keep K665
  have f678 : Exa Z h673 o "mandate/Records$Record" := f664.keep K665
  have f679 : Exa Z h673 uo "mandate/Unpacker" := X630.keep K665
  have f680 : Fld Z h673 uo "mandate/Unpacker" "bytes" "[B" .null := G632.keep K665 (ninS (Ne.symm ne646) (ninS (Ne.symm ne647) nin0))
  have f681 : Fld Z h673 uo "mandate/Unpacker" "position" "I" (.int (0 : Int32)) := G633.keep K665 (ninS (Ne.symm ne646) (ninS (Ne.symm ne647) nin0))
  have f682 : Fld Z h673 uo "mandate/Unpacker" "end" "I" (.int (0 : Int32)) := G634.keep K665 (ninS (Ne.symm ne646) (ninS (Ne.symm ne647) nin0))
  have f683 : Fld Z h673 o "mandate/Records$Record" "source" "[B" .null := F635.keep K665 (ninS (Ne.symm ne603) (ninS (Ne.symm ne604) nin0))
  have f684 : Fld Z h673 o "mandate/Records$Record" "parent" "J" (.long (0 : Int64)) := F636.keep K665 (ninS (Ne.symm ne603) (ninS (Ne.symm ne604) nin0))
  have f685 : Fld Z h673 o "mandate/Records$Record" "step" "I" (.int (0 : Int32)) := F637.keep K665 (ninS (Ne.symm ne603) (ninS (Ne.symm ne604) nin0))
  have f686 : Fld Z h673 o "mandate/Records$Record" "keyStart" "I" (.int (0 : Int32)) := F638.keep K665 (ninS (Ne.symm ne603) (ninS (Ne.symm ne604) nin0))
  have f687 : Fld Z h673 o "mandate/Records$Record" "keyLength" "I" (.int (0 : Int32)) := F639.keep K665 (ninS (Ne.symm ne603) (ninS (Ne.symm ne604) nin0))
  have f688 : Fld Z h673 o "mandate/Records$Record" "bodyStart" "I" (.int (0 : Int32)) := F640.keep K665 (ninS (Ne.symm ne603) (ninS (Ne.symm ne604) nin0))
  have f689 : Fld Z h673 o "mandate/Records$Record" "bodyLength" "I" (.int (0 : Int32)) := F641.keep K665 (ninS (Ne.symm ne603) (ninS (Ne.symm ne604) nin0))
  have f690 : Fld Z h673 o "mandate/Records$Record" "numbers" "Lmandate/Unpacker;" (.ref uo) := F642.keep K665 (ninS (Ne.symm ne603) (ninS (Ne.symm ne604) nin0))
  refine k_pop (pc := 118) H d0_118 rfl ?_
  refine k_aload (pc := 119) H d0_119 rfl rfl ?_
  refine k_aload (pc := 121) H d0_121 rfl rfl ?_
  refine k_iload (pc := 123) H d0_123 rfl ?_
  refine k_invV (y := (⟨"mandate/Records$Record", "read", "([BI)I"⟩ : MethodName)) (st := []) (a := o) [(.ref bm), (.int s2)] 0 (pc := 125) H (wd hw 28 rfl) (wd hw 29 rfl) (wd hw 31 rfl) (wd hw 30 rfl) (wd hw 12 rfl) (wd hw 32 rfl) rfl (by decide) f678 (fun z0 => rm6 l Z a0 hw n0 h673 z0 o uo bm ys1 s2 pp st kl bl n_s2 n_kl n_bl ge597 ge631 ne648 (Ne.symm ne602) (Ne.symm ne645) f678 f679 f683 f684 f685 f686 f687 f688 f689 f690 f680 f681 f682 f675 ly1 h_s2 b_s2 h_kl b_kl h_bl b_bl ta1 tb1 tc1 td1) (lenOf pd_9 rfl) d0_125 rfl rfl rfl (by decide) (by decide) (by decide) (by decide) ?_
  rintro v h699 ⟨res1, ks1, bs1, rfl, K691, F692, F693, F694, F695, F696, F697, F698⟩
  show W l room_1 C _ h699 6 86 128 #[.val (.long pp), .second, .val (.int st), .val (.int lens), .val (.long qq), .second, .val (.int rs), .val (.int mix), .val (.int kl), .val (.int bl), .val (.int s2), .val (.int rkl), .val (.int rbl), .val (.int s1), .val (.ref am), .val (.ref bm), .val (.ref r), .val (.ref o)] [(.int res1)]
  have f700 : BA Z h699 am ys0 := f674.keep K691 (ninS ne601 (ninS ne644 nin0))
  have f701 : BA Z h699 bm ys1 := f675.keep K691 (ninS ne602 (ninS ne645 nin0))
  have f702 : Exa Z h699 r "mandate/Records$Record" := f676.keep K691
  have f703 : Exa Z h699 u "mandate/Unpacker" := f677.keep K691
  have f704 : Exa Z h699 o "mandate/Records$Record" := f678.keep K691
  have f705 : Exa Z h699 uo "mandate/Unpacker" := f679.keep K691
  have f706 : Fld Z h699 r "mandate/Records$Record" "source" "[B" (.ref am) := F666.keep K691 (ninS ne603 (ninS ne646 nin0))
  have f707 : Fld Z h699 r "mandate/Records$Record" "parent" "J" (.long qq) := F667.keep K691 (ninS ne603 (ninS ne646 nin0))
  have f708 : Fld Z h699 r "mandate/Records$Record" "step" "I" (.int rs) := F668.keep K691 (ninS ne603 (ninS ne646 nin0))
  have f709 : Fld Z h699 r "mandate/Records$Record" "keyStart" "I" (.int ks0) := F669.keep K691 (ninS ne603 (ninS ne646 nin0))
  have f710 : Fld Z h699 r "mandate/Records$Record" "keyLength" "I" (.int rkl) := F670.keep K691 (ninS ne603 (ninS ne646 nin0))
  have f711 : Fld Z h699 r "mandate/Records$Record" "bodyStart" "I" (.int bs0) := F671.keep K691 (ninS ne603 (ninS ne646 nin0))
  have f712 : Fld Z h699 r "mandate/Records$Record" "bodyLength" "I" (.int rbl) := F672.keep K691 (ninS ne603 (ninS ne646 nin0))
  refine k_pop (pc := 128) H d0_128 rfl ?_
  refine k_aload (pc := 129) H d0_129 rfl rfl ?_
  refine k_aload (pc := 131) H d0_131 rfl rfl ?_
  refine k_invV (y := (⟨"mandate/Records$Record", "take", "(Lmandate/Records$Record;)V"⟩ : MethodName)) (st := []) (a := r) [(.ref o)] 0 (pc := 133) H (wd hw 86 rfl) (wd hw 87 rfl) (wd hw 89 rfl) (wd hw 88 rfl) (wd hw 12 rfl) (wd hw 90 rfl) rfl (by decide) f702 (fun z0 => rm14 l Z a0 hw n0 h699 z0 r o am bm qq pp rs ks0 rkl bs0 rbl st ks1 kl bs1 bl ge557 ne603 f702 f706 f707 f708 f709 f710 f711 f712 F692 F693 F694 F695 F696 F697 F698) (lenOf pd_10 rfl) d0_133 rfl rfl rfl (by decide) (by decide) (by decide) (by decide) ?_
  rintro v h714 ⟨rfl, K713, f715, f716, f717, f718, f719, f720, f721⟩
  show W l room_1 C _ h714 6 86 136 #[.val (.long pp), .second, .val (.int st), .val (.int lens), .val (.long qq), .second, .val (.int rs), .val (.int mix), .val (.int kl), .val (.int bl), .val (.int s2), .val (.int rkl), .val (.int rbl), .val (.int s1), .val (.ref am), .val (.ref bm), .val (.ref r), .val (.ref o)] []
  have f722 : BA Z h714 am ys0 := f700.keep K713 (ninS ne561 nin0)
  have f723 : BA Z h714 bm ys1 := f701.keep K713 (ninS ne562 nin0)
  have f724 : Exa Z h714 r "mandate/Records$Record" := f702.keep K713
  have f725 : Exa Z h714 u "mandate/Unpacker" := f703.keep K713
  have f726 : Exa Z h714 o "mandate/Records$Record" := f704.keep K713
  have f727 : Exa Z h714 uo "mandate/Unpacker" := f705.keep K713
  have f728 : Fld Z h714 o "mandate/Records$Record" "source" "[B" (.ref bm) := F692.keep K713 (ninS (Ne.symm ne603) nin0)
  have f729 : Fld Z h714 o "mandate/Records$Record" "parent" "J" (.long pp) := F693.keep K713 (ninS (Ne.symm ne603) nin0)
  have f730 : Fld Z h714 o "mandate/Records$Record" "step" "I" (.int st) := F694.keep K713 (ninS (Ne.symm ne603) nin0)
  have f731 : Fld Z h714 o "mandate/Records$Record" "keyStart" "I" (.int ks1) := F695.keep K713 (ninS (Ne.symm ne603) nin0)
  have f732 : Fld Z h714 o "mandate/Records$Record" "keyLength" "I" (.int kl) := F696.keep K713 (ninS (Ne.symm ne603) nin0)
  have f733 : Fld Z h714 o "mandate/Records$Record" "bodyStart" "I" (.int bs1) := F697.keep K713 (ninS (Ne.symm ne603) nin0)
  have f734 : Fld Z h714 o "mandate/Records$Record" "bodyLength" "I" (.int bl) := F698.keep K713 (ninS (Ne.symm ne603) nin0)
  refine k_aload (pc := 136) H d0_136 rfl rfl ?_
  refine k_invV (y := (⟨"mandate/Records$Record", "source", "()[B"⟩ : MethodName)) (st := []) (a := r) [] 0 (pc := 138) H (wd hw 91 rfl) (wd hw 92 rfl) (wd hw 94 rfl) (wd hw 93 rfl) (wd hw 12 rfl) (wd hw 95 rfl) rfl (by decide) f724 (fun z0 => rm15 l Z a0 hw n0 h714 z0 r bm f715) (lenOf pd_11 rfl) d0_138 rfl rfl rfl (by decide) (by decide) (by decide) (by decide) ?_
  rintro v hx ⟨rfl, ex⟩
  rw [ex]
  clear ex hx
  show W l room_1 C _ h714 6 86 141 #[.val (.long pp), .second, .val (.int st), .val (.int lens), .val (.long qq), .second, .val (.int rs), .val (.int mix), .val (.int kl), .val (.int bl), .val (.int s2), .val (.int rkl), .val (.int rbl), .val (.int s1), .val (.ref am), .val (.ref bm), .val (.ref r), .val (.ref o)] [(.ref bm)]
  refine k_aload (pc := 141) H d0_141 rfl rfl ?_
  refine k_acmpF (pc := 143) H d0_143 rfl rfl (XT.aa_ne_f (rfl)) ?_
  refine k_aload (pc := 146) H d0_146 rfl rfl ?_
  refine k_invV (y := (⟨"mandate/Records$Record", "parent", "()J"⟩ : MethodName)) (st := []) (a := r) [] 0 (pc := 148) H (wd hw 96 rfl) (wd hw 97 rfl) (wd hw 99 rfl) (wd hw 98 rfl) (wd hw 12 rfl) (wd hw 100 rfl) rfl (by decide) f724 (fun z0 => rm16 l Z a0 hw n0 h714 z0 r pp f716) (lenOf pd_1 rfl) d0_148 rfl rfl rfl (by decide) (by decide) (by decide) (by decide) ?_
  rintro v hx ⟨rfl, ex⟩
  rw [ex]
  clear ex hx
  show W l room_1 C _ h714 6 86 151 #[.val (.long pp), .second, .val (.int st), .val (.int lens), .val (.long qq), .second, .val (.int rs), .val (.int mix), .val (.int kl), .val (.int bl), .val (.int s2), .val (.int rkl), .val (.int rbl), .val (.int s1), .val (.ref am), .val (.ref bm), .val (.ref r), .val (.ref o)] [(.long pp)]
  refine k_lloadN (pc := 151) H d0_151 rfl ?_
  refine k_lcmp (pc := 152) H d0_152 ?_
  refine k_ifF (pc := 153) H d0_153 (XT.ll_ne_f (rfl)) ?_
  refine k_aload (pc := 156) H d0_156 rfl rfl ?_
  refine k_invV (y := (⟨"mandate/Records$Record", "step", "()I"⟩ : MethodName)) (st := []) (a := r) [] 0 (pc := 158) H (wd hw 101 rfl) (wd hw 102 rfl) (wd hw 104 rfl) (wd hw 103 rfl) (wd hw 12 rfl) (wd hw 105 rfl) rfl (by decide) f724 (fun z0 => rm17 l Z a0 hw n0 h714 z0 r st f717) (lenOf pd_6 rfl) d0_158 rfl rfl rfl (by decide) (by decide) (by decide) (by decide) ?_
  rintro v hx ⟨rfl, ex⟩
  rw [ex]
  clear ex hx
  show W l room_1 C _ h714 6 86 161 #[.val (.long pp), .second, .val (.int st), .val (.int lens), .val (.long qq), .second, .val (.int rs), .val (.int mix), .val (.int kl), .val (.int bl), .val (.int s2), .val (.int rkl), .val (.int rbl), .val (.int s1), .val (.ref am), .val (.ref bm), .val (.ref r), .val (.ref o)] [(.int st)]
  refine k_iloadN (pc := 161) H d0_161 rfl ?_
  refine k_icmpF (pc := 162) H d0_162 (XT.ii_ne_f (rfl)) ?_
  refine k_aload (pc := 165) H d0_165 rfl rfl ?_
  refine k_invV (y := (⟨"mandate/Records$Record", "keyLength", "()I"⟩ : MethodName)) (st := []) (a := r) [] 0 (pc := 167) H (wd hw 106 rfl) (wd hw 107 rfl) (wd hw 109 rfl) (wd hw 108 rfl) (wd hw 12 rfl) (wd hw 110 rfl) rfl (by decide) f724 (fun z0 => rm18 l Z a0 hw n0 h714 z0 r kl f719) (lenOf pd_6 rfl) d0_167 rfl rfl rfl (by decide) (by decide) (by decide) (by decide) ?_
  rintro v hx ⟨rfl, ex⟩
  rw [ex]
  clear ex hx
  show W l room_1 C _ h714 6 86 170 #[.val (.long pp), .second, .val (.int st), .val (.int lens), .val (.long qq), .second, .val (.int rs), .val (.int mix), .val (.int kl), .val (.int bl), .val (.int s2), .val (.int rkl), .val (.int rbl), .val (.int s1), .val (.ref am), .val (.ref bm), .val (.ref r), .val (.ref o)] [(.int kl)]
  refine k_iload (pc := 170) H d0_170 rfl ?_
  refine k_icmpF (pc := 172) H d0_172 (XT.ii_ne_f (rfl)) ?_
  refine k_aload (pc := 175) H d0_175 rfl rfl ?_
  refine k_invV (y := (⟨"mandate/Records$Record", "bodyLength", "()I"⟩ : MethodName)) (st := []) (a := r) [] 0 (pc := 177) H (wd hw 111 rfl) (wd hw 112 rfl) (wd hw 114 rfl) (wd hw 113 rfl) (wd hw 12 rfl) (wd hw 115 rfl) rfl (by decide) f724 (fun z0 => rm19 l Z a0 hw n0 h714 z0 r bl f721) (lenOf pd_6 rfl) d0_177 rfl rfl rfl (by decide) (by decide) (by decide) (by decide) ?_
  rintro v hx ⟨rfl, ex⟩
  rw [ex]
  clear ex hx
  show W l room_1 C _ h714 6 86 180 #[.val (.long pp), .second, .val (.int st), .val (.int lens), .val (.long qq), .second, .val (.int rs), .val (.int mix), .val (.int kl), .val (.int bl), .val (.int s2), .val (.int rkl), .val (.int rbl), .val (.int s1), .val (.ref am), .val (.ref bm), .val (.ref r), .val (.ref o)] [(.int bl)]
  refine k_iload (pc := 180) H d0_180 rfl ?_
  refine k_icmpF (pc := 182) H d0_182 (XT.ii_ne_f (rfl)) ?_
  refine k_aload (pc := 185) H d0_185 rfl rfl ?_
  refine k_invV (y := (⟨"mandate/Records$Record", "keyStart", "()I"⟩ : MethodName)) (st := []) (a := r) [] 0 (pc := 187) H (wd hw 116 rfl) (wd hw 117 rfl) (wd hw 119 rfl) (wd hw 118 rfl) (wd hw 12 rfl) (wd hw 120 rfl) rfl (by decide) f724 (fun z0 => rm20 l Z a0 hw n0 h714 z0 r ks1 f718) (lenOf pd_6 rfl) d0_187 rfl rfl rfl (by decide) (by decide) (by decide) (by decide) ?_
  rintro v hx ⟨rfl, ex⟩
  rw [ex]
  clear ex hx
  show W l room_1 C _ h714 6 86 190 #[.val (.long pp), .second, .val (.int st), .val (.int lens), .val (.long qq), .second, .val (.int rs), .val (.int mix), .val (.int kl), .val (.int bl), .val (.int s2), .val (.int rkl), .val (.int rbl), .val (.int s1), .val (.ref am), .val (.ref bm), .val (.ref r), .val (.ref o)] [(.int ks1)]
  refine k_aload (pc := 190) H d0_190 rfl rfl ?_
  refine k_invV (y := (⟨"mandate/Records$Record", "keyStart", "()I"⟩ : MethodName)) (st := [(.int ks1)]) (a := o) [] 1 (pc := 192) H (wd hw 116 rfl) (wd hw 117 rfl) (wd hw 119 rfl) (wd hw 118 rfl) (wd hw 12 rfl) (wd hw 120 rfl) rfl (by decide) f726 (fun z0 => rm20 l Z a0 hw n0 h714 z0 o ks1 f731) (lenOf pd_6 rfl) d0_192 rfl rfl rfl (by decide) (by decide) (by decide) (by decide) ?_
  rintro v hx ⟨rfl, ex⟩
  rw [ex]
  clear ex hx
  show W l room_1 C _ h714 6 86 195 #[.val (.long pp), .second, .val (.int st), .val (.int lens), .val (.long qq), .second, .val (.int rs), .val (.int mix), .val (.int kl), .val (.int bl), .val (.int s2), .val (.int rkl), .val (.int rbl), .val (.int s1), .val (.ref am), .val (.ref bm), .val (.ref r), .val (.ref o)] [(.int ks1), (.int ks1)]
  refine k_icmpF (pc := 195) H d0_195 (XT.ii_ne_f (rfl)) ?_
  refine k_aload (pc := 198) H d0_198 rfl rfl ?_
  refine k_invV (y := (⟨"mandate/Records$Record", "bodyStart", "()I"⟩ : MethodName)) (st := []) (a := r) [] 0 (pc := 200) H (wd hw 121 rfl) (wd hw 122 rfl) (wd hw 124 rfl) (wd hw 123 rfl) (wd hw 12 rfl) (wd hw 125 rfl) rfl (by decide) f724 (fun z0 => rm21 l Z a0 hw n0 h714 z0 r bs1 f720) (lenOf pd_6 rfl) d0_200 rfl rfl rfl (by decide) (by decide) (by decide) (by decide) ?_
  rintro v hx ⟨rfl, ex⟩
  rw [ex]
  clear ex hx
  show W l room_1 C _ h714 6 86 203 #[.val (.long pp), .second, .val (.int st), .val (.int lens), .val (.long qq), .second, .val (.int rs), .val (.int mix), .val (.int kl), .val (.int bl), .val (.int s2), .val (.int rkl), .val (.int rbl), .val (.int s1), .val (.ref am), .val (.ref bm), .val (.ref r), .val (.ref o)] [(.int bs1)]
  refine k_aload (pc := 203) H d0_203 rfl rfl ?_
  refine k_invV (y := (⟨"mandate/Records$Record", "bodyStart", "()I"⟩ : MethodName)) (st := [(.int bs1)]) (a := o) [] 1 (pc := 205) H (wd hw 121 rfl) (wd hw 122 rfl) (wd hw 124 rfl) (wd hw 123 rfl) (wd hw 12 rfl) (wd hw 125 rfl) rfl (by decide) f726 (fun z0 => rm21 l Z a0 hw n0 h714 z0 o bs1 f733) (lenOf pd_6 rfl) d0_205 rfl rfl rfl (by decide) (by decide) (by decide) (by decide) ?_
  rintro v hx ⟨rfl, ex⟩
  rw [ex]
  clear ex hx
  show W l room_1 C _ h714 6 86 208 #[.val (.long pp), .second, .val (.int st), .val (.int lens), .val (.long qq), .second, .val (.int rs), .val (.int mix), .val (.int kl), .val (.int bl), .val (.int s2), .val (.int rkl), .val (.int rbl), .val (.int s1), .val (.ref am), .val (.ref bm), .val (.ref r), .val (.ref o)] [(.int bs1), (.int bs1)]
  refine k_icmpF (pc := 208) H d0_208 (XT.ii_ne_f (rfl)) ?_
  refine k_aload (pc := 211) H d0_211 rfl rfl ?_
  refine k_invV (y := (⟨"mandate/Records$Record", "parent", "()J"⟩ : MethodName)) (st := []) (a := o) [] 0 (pc := 213) H (wd hw 96 rfl) (wd hw 97 rfl) (wd hw 99 rfl) (wd hw 98 rfl) (wd hw 12 rfl) (wd hw 100 rfl) rfl (by decide) f726 (fun z0 => rm16 l Z a0 hw n0 h714 z0 o pp f729) (lenOf pd_1 rfl) d0_213 rfl rfl rfl (by decide) (by decide) (by decide) (by decide) ?_
  rintro v hx ⟨rfl, ex⟩
  rw [ex]
  clear ex hx
  show W l room_1 C _ h714 6 86 216 #[.val (.long pp), .second, .val (.int st), .val (.int lens), .val (.long qq), .second, .val (.int rs), .val (.int mix), .val (.int kl), .val (.int bl), .val (.int s2), .val (.int rkl), .val (.int rbl), .val (.int s1), .val (.ref am), .val (.ref bm), .val (.ref r), .val (.ref o)] [(.long pp)]
  refine k_lloadN (pc := 216) H d0_216 rfl ?_
  refine k_lcmp (pc := 217) H d0_217 ?_
  refine k_ifF (pc := 218) H d0_218 (XT.ll_ne_f (rfl)) ?_
  refine k_iconst (1 : Int32) (pc := 221) H d0_221 rfl ?_
  refine k_goto 226 (pc := 222) H d0_222 rfl ?_
  exact k_retN' (t := .boolean) (by simp) (pc := 226) H d0_226 (by show 6 ≤ 24; decide) (by show 86 ≤ 256; decide) (rfl)
set_option maxRecDepth 65536 in
set_option maxHeartbeats 40000000 in
theorem comes_1 {Post : Tables → Env → Array Value → State → Outcome → State → Prop} (hpost : ∀ tb e args s v u, (limb_1_1.after args s (.returned v) u = true ∧ limb_1_2.after args s (.returned v) u = true ∧ True) → FrameEnd s (.returned v) u (Jvm.fieldLocs frame_1_writes args s ++ Jvm.arrayLocs frame_1_arrays args s ++ Jvm.staticLocs frame_1_statics s) 24 256 → Post tb e args s (.returned v) u) :
    ArmFor flags0 classFile x code maxLocals ret World_1 tables_1 room_1 Calls_1 rest_1 Pre_1 Post := by
  intro l hfl _ _ p e ha hc hk s m args below hf hA hF happ hP
  obtain ⟨hcalls, hrest, hpre⟩ := hP
  obtain ⟨-, -, -, hnamed, -, -, -, hat⟩ := (Spec.applies_iff hf).mp happ
  obtain ⟨hg, hn⟩ := and_e (Cond.before_iff.mp (show (Jvm.Cond.and given_1 narrow_1).before args s = true from hpre))
  obtain ⟨hcnt, g0⟩ := and_e hg
  obtain ⟨q0, g1⟩ := and_e g0
  obtain ⟨q1, g2⟩ := and_e g1
  obtain ⟨q2, g3⟩ := and_e g2
  obtain ⟨q3, g4⟩ := and_e g3
  obtain ⟨q4, g5⟩ := and_e g4
  obtain ⟨w0, w1, w2, w3, w4, w5, rfl⟩ : ∃ w0 w1 w2 w3 w4 w5 : Value, args = #[w0, w1, w2, w3, w4, w5] := by
    have hs : args.size = 6 := by simpa [Cond.value, given_1] using hcnt
    obtain ⟨L⟩ := args
    match L, hs with
    | [w0, w1, w2, w3, w4, w5], _ => exact ⟨w0, w1, w2, w3, w4, w5, rfl⟩
  have hw := fun d (hd : d ∈ tables_1) => atoms_spec (ws := Jvm.Cond.code x code maxLocals ret :: tables_1) hat d (List.mem_cons_of_mem _ hd)
  obtain ⟨i0, e0⟩ := isL_v q0
  obtain rfl : w0 = (.long i0) := Option.some.inj e0
  obtain ⟨i1, e1⟩ := is_v q1
  obtain rfl : w1 = (.int i1) := Option.some.inj e1
  obtain ⟨i2, e2⟩ := is_v q2
  obtain rfl : w2 = (.int i2) := Option.some.inj e2
  obtain ⟨i3, e3⟩ := isL_v q3
  obtain rfl : w3 = (.long i3) := Option.some.inj e3
  obtain ⟨i4, e4⟩ := is_v q4
  obtain rfl : w4 = (.int i4) := Option.some.inj e4
  obtain ⟨i5, e5⟩ := is_v g5
  obtain rfl : w5 = (.int i5) := Option.some.inj e5
  obtain ⟨n, o, h1, h2, h3, _, L, rfl, ⟨rfl, N⟩, hq⟩ := rm0 l s _ hw tables_1 s.heap.size s.heap (Nat.le_refl _) i0 i1 i2 i3 i4 i5  p e ha hc hk s m _ below hf ((Spec.applies_iff_loose hf).mp happ).1 ⟨rfl, State.Warmed39.refl s, rfl⟩ trivial
  refine ⟨n, _, h1, h2, h3, hpost _ _ _ _ _ _ ⟨Cond.after_iff.mpr rfl, Cond.after_iff.mpr (eq_i res_at (Term.int_eval (1)) rfl), trivial⟩ ⟨hq.1, hq.2.1, (hq.2.2.sift fun y hy => Or.inr (N y hy)).mono (by decide) (by decide)⟩⟩
theorem main_1_1 : Claimed_1_1 := comes_1 fun _ _ _ _ _ _ h hF => ⟨h.1, hF⟩
theorem main_1_2 : Claimed_1_2 := comes_1 fun _ _ _ _ _ _ h hF => ⟨h.2.1, hF⟩
end Jvm.Pilot.@@N@@
namespace Jvm.Pilot.@@N@@
open Jvm Jvm.ClassFile Sem Op Lib Jvm.Free Jvm.Stand Jvm.Pilot.@@N@@.Jvm.D
/-! MADE BY PROGRAM (witnessworld.py) out of the Statement's table words and the real class files: 19 classes; the members and pool entries that the words name. The judged class is class 1, her method 1. -/
namespace start1
open Jvm.ClassFile
def u (s : String) : CpInfo := .utf8 (stringToUtf16 s)
/-- a pool by its gaps: so many unusable entries, then the entry; so many at the end -/
def gap : Nat → List CpInfo → List CpInfo
  | 0, r => r
  | n + 1, r => .unusable :: gap n r
def poolList (es : List (Nat × CpInfo)) (last : Nat) : List CpInfo := es.foldr (fun e r => gap e.1 (e.2 :: r)) (gap last [])
def pool (es : List (Nat × CpInfo)) (last : Nat) : Array CpInfo := ⟨poolList es last⟩
def fileOf (pool : Array CpInfo) (this : Nat) (attrs : Array Attribute := #[]) (ms : Array MethodInfo := #[]) (fl : Nat := 33) (sup : Nat := 0) (ifs : Array Nat := #[]) (fds : Array FieldInfo := #[]) : ClassFile where
  minorVersion := 0
  majorVersion := 65
  constantPool := pool
  accessFlags := fl
  thisClass := this
  superClass := sup
  interfaces := ifs
  fields := fds
  methods := ms
  attributes := attrs
def plain (name : String) (sup : Option ClassId) : Class where
  name := name
  kind := .ordinary
  loader := none
  accessFlags := 33
  super := sup
  interfaces := #[]
  cf := none
  fields := #[]
  methods := #[]
  instanceTypes := #[]
  staticTypes := #[]
  resolved := #[]
  callSites := []
  init := .initialized
  statics := none
  mirror := none

def pool0 : Array CpInfo := pool [(5, u "<init>"), (0, u "()V"), (1, .class_ 10), (1, u "java/lang/Object")] 113

def k0c0 : Code := { maxStack := 0, maxLocals := 1, code := object_method_1_code, exceptionTable := #[], attributes := #[] }
def k0m0 : Method := { name := "<init>", desc := "()V", sig := { parameters := [], returnType := none }, accessFlags := 1, code := some k0c0 }
/-- java/lang/Object -/
def k0 : Class := { plain "java/lang/Object" none with
  accessFlags := 33
  interfaces := #[]
  cf := some (fileOf pool0 8 #[] #[{ accessFlags := 1, nameIndex := 5, descriptorIndex := 6, attributes := #[] }] 33 0 #[] #[])
  fields := #[]
  methods := #[k0m0]
  instanceTypes := #[]
  staticTypes := #[]
  resolved := Array.replicate 124 none
  statics := none }

def pool1 : Array CpInfo := pool [(2, .class_ 4), (0, .nameAndType 5 6), (0, u "java/lang/Object"), (0, u "<init>"), (0, u "()V"), (0, .methodref 8 9), (0, .class_ 10), (0, .nameAndType 11 12), (0, u "mandate/RecordTakePinLaw"), (0, u "header"), (0, u "([BIJIII)V"), (0, .class_ 14), (0, u "mandate/Records$Record"), (0, .methodref 13 3), (0, .methodref 13 17), (0, .nameAndType 18 19), (0, u "read"), (0, u "([BI)I"), (0, .methodref 13 21), (0, .nameAndType 22 23), (0, u "take"), (0, u "(Lmandate/Records$Record;)V"), (0, .methodref 13 25), (0, .nameAndType 26 27), (0, u "source"), (0, u "()[B"), (0, .methodref 13 29), (0, .nameAndType 30 31), (0, u "parent"), (0, u "()J"), (0, .methodref 13 33), (0, .nameAndType 34 35), (0, u "step"), (0, u "()I"), (0, .methodref 13 37), (0, .nameAndType 38 35), (0, u "keyLength"), (0, .methodref 13 40), (0, .nameAndType 41 35), (0, u "bodyLength"), (0, .methodref 13 43), (0, .nameAndType 44 35), (0, u "keyStart"), (0, .methodref 13 46), (0, .nameAndType 47 35), (0, u "bodyStart"), (0, .methodref 8 49), (0, .nameAndType 50 51), (0, u "packLong"), (0, u "([BIJ)V"), (0, .long 128), (1, .long 127), (3, u "law"), (0, u "(JIIJII)Z")] 9

def k1m0 : Method := { name := "<init>", desc := "()V", sig := { parameters := [], returnType := none }, accessFlags := 2, code := none }
def k1c1 : Code := { maxStack := 7, maxLocals := 18, code := code, exceptionTable := #[], attributes := #[] }
def k1m1 : Method := { name := "law", desc := "(JIIJII)Z", sig := { parameters := [.long, .int, .int, .long, .int, .int], returnType := some .boolean }, accessFlags := 9, code := some k1c1 }
def k1c2 : Code := { maxStack := 4, maxLocals := 7, code := method_3_code, exceptionTable := #[], attributes := #[] }
def k1m2 : Method := { name := "header", desc := "([BIJIII)V", sig := { parameters := [(.array .byte), .int, .long, .int, .int, .int], returnType := none }, accessFlags := 10, code := some k1c2 }
def k1c3 : Code := { maxStack := 8, maxLocals := 4, code := method_4_code, exceptionTable := #[], attributes := #[] }
def k1m3 : Method := { name := "packLong", desc := "([BIJ)V", sig := { parameters := [(.array .byte), .int, .long], returnType := none }, accessFlags := 10, code := some k1c3 }
/-- mandate/RecordTakePinLaw -/
def k1 : Class := { plain "mandate/RecordTakePinLaw" (some 0) with
  accessFlags := 49
  interfaces := #[]
  cf := some (fileOf pool1 8 #[] #[{ accessFlags := 2, nameIndex := 5, descriptorIndex := 6, attributes := #[] }, { accessFlags := 9, nameIndex := 58, descriptorIndex := 59, attributes := #[] }, { accessFlags := 10, nameIndex := 11, descriptorIndex := 12, attributes := #[] }, { accessFlags := 10, nameIndex := 50, descriptorIndex := 51, attributes := #[] }] 49 2 #[] #[])
  fields := #[]
  methods := #[k1m0, k1m1, k1m2, k1m3]
  instanceTypes := #[]
  staticTypes := #[]
  resolved := Array.replicate 69 none
  statics := none }

def pool2 : Array CpInfo := pool [(1, .methodref 2 3), (0, .class_ 4), (0, .nameAndType 5 6), (0, u "java/lang/Object"), (0, u "<init>"), (0, u "()V"), (0, .class_ 8), (0, u "mandate/Unpacker"), (0, .methodref 7 3), (0, .fieldref 11 12), (0, .class_ 13), (0, .nameAndType 14 15), (0, u "mandate/Records$Record"), (0, u "numbers"), (0, u "Lmandate/Unpacker;"), (0, .methodref 7 17), (0, .nameAndType 18 19), (0, u "reset"), (0, u "([BII)Lmandate/Unpacker;"), (0, .methodref 7 21), (0, .nameAndType 22 23), (0, u "readLong"), (0, u "()J"), (0, .fieldref 11 25), (0, .nameAndType 26 27), (0, u "parent"), (0, u "J"), (0, .methodref 7 29), (0, .nameAndType 30 31), (0, u "readInt"), (0, u "()I"), (0, .fieldref 11 33), (0, .nameAndType 34 35), (0, u "step"), (0, u "I"), (0, .fieldref 11 37), (0, .nameAndType 38 35), (0, u "keyLength"), (0, .fieldref 11 40), (0, .nameAndType 41 35), (0, u "bodyLength"), (0, .methodref 43 44), (0, .class_ 45), (0, .nameAndType 46 47), (0, u "mandate/Batch"), (0, u "size"), (0, u "(IIJI)I"), (0, .fieldref 11 49), (0, .nameAndType 50 51), (0, u "source"), (0, u "[B"), (0, .fieldref 11 53), (0, .nameAndType 54 35), (0, u "keyStart"), (0, .fieldref 11 56), (0, .nameAndType 57 35), (0, u "bodyStart"), (12, u "read"), (0, u "([BI)I"), (0, u "()[B"), (0, u "take"), (0, u "(Lmandate/Records$Record;)V"), (6, .class_ 82), (0, u "mandate/Records")] 2

def k2c0 : Code := { maxStack := 3, maxLocals := 1, code := prog_134_method_1_code, exceptionTable := #[], attributes := #[] }
def k2m0 : Method := { name := "<init>", desc := "()V", sig := { parameters := [], returnType := none }, accessFlags := 0, code := some k2c0 }
def k2c1 : Code := { maxStack := 5, maxLocals := 4, code := prog_134_method_2_code, exceptionTable := #[], attributes := #[] }
def k2m1 : Method := { name := "read", desc := "([BI)I", sig := { parameters := [(.array .byte), .int], returnType := some .int }, accessFlags := 0, code := some k2c1 }
def k2c2 : Code := { maxStack := 2, maxLocals := 1, code := prog_134_method_3_code, exceptionTable := #[], attributes := #[] }
def k2m2 : Method := { name := "parent", desc := "()J", sig := { parameters := [], returnType := some .long }, accessFlags := 0, code := some k2c2 }
def k2c3 : Code := { maxStack := 1, maxLocals := 1, code := prog_134_method_4_code, exceptionTable := #[], attributes := #[] }
def k2m3 : Method := { name := "step", desc := "()I", sig := { parameters := [], returnType := some .int }, accessFlags := 0, code := some k2c3 }
def k2c4 : Code := { maxStack := 1, maxLocals := 1, code := prog_134_method_5_code, exceptionTable := #[], attributes := #[] }
def k2m4 : Method := { name := "source", desc := "()[B", sig := { parameters := [], returnType := some (.array .byte) }, accessFlags := 0, code := some k2c4 }
def k2c5 : Code := { maxStack := 1, maxLocals := 1, code := prog_134_method_6_code, exceptionTable := #[], attributes := #[] }
def k2m5 : Method := { name := "keyStart", desc := "()I", sig := { parameters := [], returnType := some .int }, accessFlags := 0, code := some k2c5 }
def k2c6 : Code := { maxStack := 1, maxLocals := 1, code := prog_134_method_7_code, exceptionTable := #[], attributes := #[] }
def k2m6 : Method := { name := "keyLength", desc := "()I", sig := { parameters := [], returnType := some .int }, accessFlags := 0, code := some k2c6 }
def k2c7 : Code := { maxStack := 1, maxLocals := 1, code := prog_134_method_8_code, exceptionTable := #[], attributes := #[] }
def k2m7 : Method := { name := "bodyStart", desc := "()I", sig := { parameters := [], returnType := some .int }, accessFlags := 0, code := some k2c7 }
def k2c8 : Code := { maxStack := 1, maxLocals := 1, code := prog_134_method_9_code, exceptionTable := #[], attributes := #[] }
def k2m8 : Method := { name := "bodyLength", desc := "()I", sig := { parameters := [], returnType := some .int }, accessFlags := 0, code := some k2c8 }
def k2c9 : Code := { maxStack := 3, maxLocals := 2, code := prog_134_method_10_code, exceptionTable := #[], attributes := #[] }
def k2m9 : Method := { name := "take", desc := "(Lmandate/Records$Record;)V", sig := { parameters := [(.object "mandate/Records$Record")], returnType := none }, accessFlags := 0, code := some k2c9 }
/-- mandate/Records$Record -/
def k2 : Class := { plain "mandate/Records$Record" (some 0) with
  accessFlags := 48
  interfaces := #[]
  cf := some (fileOf pool2 11 #[.nestHost 81] #[{ accessFlags := 0, nameIndex := 5, descriptorIndex := 6, attributes := #[] }, { accessFlags := 0, nameIndex := 70, descriptorIndex := 71, attributes := #[] }, { accessFlags := 0, nameIndex := 26, descriptorIndex := 23, attributes := #[] }, { accessFlags := 0, nameIndex := 34, descriptorIndex := 31, attributes := #[] }, { accessFlags := 0, nameIndex := 50, descriptorIndex := 72, attributes := #[] }, { accessFlags := 0, nameIndex := 54, descriptorIndex := 31, attributes := #[] }, { accessFlags := 0, nameIndex := 38, descriptorIndex := 31, attributes := #[] }, { accessFlags := 0, nameIndex := 57, descriptorIndex := 31, attributes := #[] }, { accessFlags := 0, nameIndex := 41, descriptorIndex := 31, attributes := #[] }, { accessFlags := 0, nameIndex := 73, descriptorIndex := 74, attributes := #[] }] 48 2 #[] #[{ accessFlags := 2, nameIndex := 50, descriptorIndex := 51, attributes := #[] }, { accessFlags := 2, nameIndex := 26, descriptorIndex := 27, attributes := #[] }, { accessFlags := 2, nameIndex := 34, descriptorIndex := 35, attributes := #[] }, { accessFlags := 2, nameIndex := 54, descriptorIndex := 35, attributes := #[] }, { accessFlags := 2, nameIndex := 38, descriptorIndex := 35, attributes := #[] }, { accessFlags := 2, nameIndex := 57, descriptorIndex := 35, attributes := #[] }, { accessFlags := 2, nameIndex := 41, descriptorIndex := 35, attributes := #[] }, { accessFlags := 18, nameIndex := 14, descriptorIndex := 15, attributes := #[] }])
  fields := #[{ name := "source", type := (.array .byte), accessFlags := 2, slot := 0, constantValue := 0 }, { name := "parent", type := .long, accessFlags := 2, slot := 1, constantValue := 0 }, { name := "step", type := .int, accessFlags := 2, slot := 2, constantValue := 0 }, { name := "keyStart", type := .int, accessFlags := 2, slot := 3, constantValue := 0 }, { name := "keyLength", type := .int, accessFlags := 2, slot := 4, constantValue := 0 }, { name := "bodyStart", type := .int, accessFlags := 2, slot := 5, constantValue := 0 }, { name := "bodyLength", type := .int, accessFlags := 2, slot := 6, constantValue := 0 }, { name := "numbers", type := (.object "mandate/Unpacker"), accessFlags := 18, slot := 7, constantValue := 0 }]
  methods := #[k2m0, k2m1, k2m2, k2m3, k2m4, k2m5, k2m6, k2m7, k2m8, k2m9]
  instanceTypes := #[(.array .byte), .long, .int, .int, .int, .int, .int, (.object "mandate/Unpacker")]
  staticTypes := #[]
  resolved := Array.replicate 85 none
  statics := none }

def pool3 : Array CpInfo := pool [(1, .methodref 2 3), (0, .class_ 4), (0, .nameAndType 5 6), (0, u "java/lang/Object"), (0, u "<init>"), (0, u "()V"), (0, .fieldref 8 9), (0, .class_ 10), (0, .nameAndType 11 12), (0, u "mandate/Unpacker"), (0, u "bytes"), (0, u "[B"), (0, .fieldref 8 14), (0, .nameAndType 15 16), (0, u "position"), (0, u "I"), (0, .fieldref 8 18), (0, .nameAndType 19 16), (0, u "end"), (8, u "()I"), (2, u "reset"), (0, u "([BII)Lmandate/Unpacker;"), (0, .methodref 8 34), (0, .nameAndType 35 36), (0, u "readLong"), (0, u "()J"), (10, u "readInt")] 3

def k3c0 : Code := { maxStack := 1, maxLocals := 1, code := prog_155_method_1_code, exceptionTable := #[], attributes := #[] }
def k3m0 : Method := { name := "<init>", desc := "()V", sig := { parameters := [], returnType := none }, accessFlags := 0, code := some k3c0 }
def k3c1 : Code := { maxStack := 3, maxLocals := 4, code := prog_155_method_2_code, exceptionTable := #[], attributes := #[] }
def k3m1 : Method := { name := "reset", desc := "([BII)Lmandate/Unpacker;", sig := { parameters := [(.array .byte), .int, .int], returnType := some (.object "mandate/Unpacker") }, accessFlags := 0, code := some k3c1 }
def k3c2 : Code := { maxStack := 2, maxLocals := 1, code := prog_155_method_4_code, exceptionTable := #[], attributes := #[] }
def k3m2 : Method := { name := "readInt", desc := "()I", sig := { parameters := [], returnType := some .int }, accessFlags := 0, code := some k3c2 }
def k3c3 : Code := { maxStack := 5, maxLocals := 5, code := prog_155_method_5_code, exceptionTable := #[], attributes := #[] }
def k3m3 : Method := { name := "readLong", desc := "()J", sig := { parameters := [], returnType := some .long }, accessFlags := 0, code := some k3c3 }
/-- mandate/Unpacker -/
def k3 : Class := { plain "mandate/Unpacker" (some 0) with
  accessFlags := 48
  interfaces := #[]
  cf := some (fileOf pool3 8 #[] #[{ accessFlags := 0, nameIndex := 5, descriptorIndex := 6, attributes := #[] }, { accessFlags := 0, nameIndex := 31, descriptorIndex := 32, attributes := #[] }, { accessFlags := 0, nameIndex := 47, descriptorIndex := 28, attributes := #[] }, { accessFlags := 0, nameIndex := 35, descriptorIndex := 36, attributes := #[] }] 48 2 #[] #[{ accessFlags := 2, nameIndex := 11, descriptorIndex := 12, attributes := #[] }, { accessFlags := 2, nameIndex := 15, descriptorIndex := 16, attributes := #[] }, { accessFlags := 2, nameIndex := 19, descriptorIndex := 16, attributes := #[] }])
  fields := #[{ name := "bytes", type := (.array .byte), accessFlags := 2, slot := 0, constantValue := 0 }, { name := "position", type := .int, accessFlags := 2, slot := 1, constantValue := 0 }, { name := "end", type := .int, accessFlags := 2, slot := 2, constantValue := 0 }]
  methods := #[k3m0, k3m1, k3m2, k3m3]
  instanceTypes := #[(.array .byte), .int, .int]
  staticTypes := #[]
  resolved := Array.replicate 51 none
  statics := none }

def pool4 : Array CpInfo := pool [(2, .class_ 4), (1, u "java/lang/Object"), (6, .class_ 13), (1, u "mandate/Batch"), (0, u "held"), (0, u "Lmandate/Records$Record;"), (17, u "mostBytes"), (0, u "I"), (2, u "mostSlots"), (9, u "bytes"), (0, u "[B"), (2, u "keys"), (0, u "[J"), (2, u "starts"), (0, u "[I"), (8, u "count"), (7, u "used"), (6, .class_ 82), (1, u "mandate/Packer"), (11, u "hashed"), (0, u "Z"), (2, u "size"), (0, u "(IIJI)I"), (7, u "(J)I"), (56, .methodref 80 165), (0, .nameAndType 98 107), (23, u "warmed"), (0, u "J"), (28, u "FIRST_BYTES"), (1, u "FIRST_SLOTS"), (1, u "READ_AHEAD")] 48

def k4c0 : Code := { maxStack := 3, maxLocals := 5, code := prog_9_method_18_code, exceptionTable := #[], attributes := #[] }
def k4m0 : Method := { name := "size", desc := "(IIJI)I", sig := { parameters := [.int, .int, .long, .int], returnType := some .int }, accessFlags := 8, code := some k4c0 }
/-- mandate/Batch -/
def k4 : Class := { plain "mandate/Batch" (some 0) with
  accessFlags := 48
  interfaces := #[]
  cf := some (fileOf pool4 11 #[] #[{ accessFlags := 8, nameIndex := 98, descriptorIndex := 99, attributes := #[] }] 48 2 #[] #[{ accessFlags := 26, nameIndex := 219, descriptorIndex := 34, attributes := #[] }, { accessFlags := 26, nameIndex := 221, descriptorIndex := 34, attributes := #[] }, { accessFlags := 26, nameIndex := 223, descriptorIndex := 34, attributes := #[] }, { accessFlags := 18, nameIndex := 33, descriptorIndex := 34, attributes := #[] }, { accessFlags := 18, nameIndex := 37, descriptorIndex := 34, attributes := #[] }, { accessFlags := 2, nameIndex := 47, descriptorIndex := 48, attributes := #[] }, { accessFlags := 2, nameIndex := 73, descriptorIndex := 34, attributes := #[] }, { accessFlags := 2, nameIndex := 51, descriptorIndex := 52, attributes := #[] }, { accessFlags := 2, nameIndex := 55, descriptorIndex := 56, attributes := #[] }, { accessFlags := 2, nameIndex := 65, descriptorIndex := 34, attributes := #[] }, { accessFlags := 2, nameIndex := 94, descriptorIndex := 95, attributes := #[] }, { accessFlags := 2, nameIndex := 189, descriptorIndex := 190, attributes := #[] }, { accessFlags := 18, nameIndex := 14, descriptorIndex := 15, attributes := #[] }])
  fields := #[{ name := "FIRST_BYTES", type := .int, accessFlags := 26, slot := 0, constantValue := 0 }, { name := "FIRST_SLOTS", type := .int, accessFlags := 26, slot := 1, constantValue := 0 }, { name := "READ_AHEAD", type := .int, accessFlags := 26, slot := 2, constantValue := 0 }, { name := "mostBytes", type := .int, accessFlags := 18, slot := 0, constantValue := 0 }, { name := "mostSlots", type := .int, accessFlags := 18, slot := 1, constantValue := 0 }, { name := "bytes", type := (.array .byte), accessFlags := 2, slot := 2, constantValue := 0 }, { name := "used", type := .int, accessFlags := 2, slot := 3, constantValue := 0 }, { name := "keys", type := (.array .long), accessFlags := 2, slot := 4, constantValue := 0 }, { name := "starts", type := (.array .int), accessFlags := 2, slot := 5, constantValue := 0 }, { name := "count", type := .int, accessFlags := 2, slot := 6, constantValue := 0 }, { name := "hashed", type := .boolean, accessFlags := 2, slot := 7, constantValue := 0 }, { name := "warmed", type := .long, accessFlags := 2, slot := 8, constantValue := 0 }, { name := "held", type := (.object "mandate/Records$Record"), accessFlags := 18, slot := 9, constantValue := 0 }]
  methods := #[k4m0]
  instanceTypes := #[.int, .int, (.array .byte), .int, (.array .long), (.array .int), .int, .boolean, .long, (.object "mandate/Records$Record")]
  staticTypes := #[.int, .int, .int]
  resolved := Array.replicate 272 none
  statics := none }

def pool5 : Array CpInfo := pool [(1, .class_ 2), (0, u "java/lang/Comparable"), (0, .class_ 4), (0, u "java/lang/Object")] 7

/-- java/lang/Comparable -/
def k5 : Class := { plain "java/lang/Comparable" (some 0) with
  accessFlags := 1537
  interfaces := #[]
  cf := some (fileOf pool5 1 #[] #[] 1537 3 #[] #[])
  fields := #[]
  methods := #[]
  instanceTypes := #[]
  staticTypes := #[]
  resolved := Array.replicate 12 none
  statics := none }

def pool6 : Array CpInfo := pool [(1, .class_ 2), (0, u "mandate/PackedOutput"), (0, .class_ 4), (0, u "java/lang/Object")] 6

/-- mandate/PackedOutput -/
def k6 : Class := { plain "mandate/PackedOutput" (some 0) with
  accessFlags := 1536
  interfaces := #[]
  cf := some (fileOf pool6 1 #[] #[] 1536 3 #[] #[])
  fields := #[]
  methods := #[]
  instanceTypes := #[]
  staticTypes := #[]
  resolved := Array.replicate 11 none
  statics := none }

def pool7 : Array CpInfo := pool [(2, .class_ 4), (1, u "java/lang/Object"), (0, u "<init>"), (0, u "()V"), (1, .class_ 10), (1, u "mandate/Packer"), (0, u "bytes"), (0, u "[B"), (2, u "length"), (0, u "I"), (37, u "LONGS"), (0, u "Ljava/lang/invoke/VarHandle;"), (19, .class_ 77), (1, u "java/lang/Long"), (8, .methodref 75 87), (0, .nameAndType 88 89), (0, u "numberOfLeadingZeros"), (0, u "(J)I"), (28, .class_ 119), (0, u "java/lang/Comparable"), (0, .class_ 121), (0, u "mandate/PackedOutput"), (0, u "GOLDEN"), (0, u "J"), (11, u "size")] 7

def k7m0 : Method := { name := "<init>", desc := "()V", sig := { parameters := [], returnType := none }, accessFlags := 0, code := none }
def k7c1 : Code := { maxStack := 5, maxLocals := 2, code := prog_101_method_15_code, exceptionTable := #[], attributes := #[] }
def k7m1 : Method := { name := "size", desc := "(J)I", sig := { parameters := [.long], returnType := some .int }, accessFlags := 8, code := some k7c1 }
/-- mandate/Packer -/
def k7 : Class := { plain "mandate/Packer" (some 0) with
  accessFlags := 48
  interfaces := #[5, 6]
  cf := some (fileOf pool7 8 #[] #[{ accessFlags := 0, nameIndex := 5, descriptorIndex := 6, attributes := #[] }, { accessFlags := 8, nameIndex := 135, descriptorIndex := 89, attributes := #[] }] 48 2 #[118, 120] #[{ accessFlags := 26, nameIndex := 54, descriptorIndex := 55, attributes := #[] }, { accessFlags := 26, nameIndex := 122, descriptorIndex := 123, attributes := #[] }, { accessFlags := 2, nameIndex := 11, descriptorIndex := 12, attributes := #[] }, { accessFlags := 2, nameIndex := 15, descriptorIndex := 16, attributes := #[] }])
  fields := #[{ name := "LONGS", type := (.object "java/lang/invoke/VarHandle"), accessFlags := 26, slot := 0, constantValue := 0 }, { name := "GOLDEN", type := .long, accessFlags := 26, slot := 1, constantValue := 0 }, { name := "bytes", type := (.array .byte), accessFlags := 2, slot := 0, constantValue := 0 }, { name := "length", type := .int, accessFlags := 2, slot := 1, constantValue := 0 }]
  methods := #[k7m0, k7m1]
  instanceTypes := #[(.array .byte), .int]
  staticTypes := #[(.object "java/lang/invoke/VarHandle"), .long]
  resolved := Array.replicate 143 none
  statics := none }

def pool8 : Array CpInfo := pool [(1, .class_ 2), (0, u "java/io/Serializable"), (0, .class_ 4), (0, u "java/lang/Object")] 2

/-- java/io/Serializable -/
def k8 : Class := { plain "java/io/Serializable" (some 0) with
  accessFlags := 1537
  interfaces := #[]
  cf := some (fileOf pool8 1 #[] #[] 1537 3 #[] #[])
  fields := #[]
  methods := #[]
  instanceTypes := #[]
  staticTypes := #[]
  resolved := Array.replicate 7 none
  statics := none }

def pool9 : Array CpInfo := pool [(2, .class_ 4), (1, u "java/lang/Object"), (0, u "<init>"), (0, u "()V"), (1, .class_ 10), (1, u "java/lang/Number"), (2, .class_ 14), (0, u "java/io/Serializable"), (0, u "serialVersionUID"), (0, u "J")] 20

def k9m0 : Method := { name := "<init>", desc := "()V", sig := { parameters := [], returnType := none }, accessFlags := 1, code := none }
/-- java/lang/Number -/
def k9 : Class := { plain "java/lang/Number" (some 0) with
  accessFlags := 1057
  interfaces := #[8]
  cf := some (fileOf pool9 8 #[] #[{ accessFlags := 1, nameIndex := 5, descriptorIndex := 6, attributes := #[] }] 1057 2 #[13] #[{ accessFlags := 26, nameIndex := 15, descriptorIndex := 16, attributes := #[] }])
  fields := #[{ name := "serialVersionUID", type := .long, accessFlags := 26, slot := 0, constantValue := 0 }]
  methods := #[k9m0]
  instanceTypes := #[]
  staticTypes := #[.long]
  resolved := Array.replicate 37 none
  statics := none }

def pool10 : Array CpInfo := pool [(1, .class_ 2), (0, u "java/lang/constant/Constable"), (0, .class_ 4), (0, u "java/lang/Object")] 6

/-- java/lang/constant/Constable -/
def k10 : Class := { plain "java/lang/constant/Constable" (some 0) with
  accessFlags := 1537
  interfaces := #[]
  cf := some (fileOf pool10 1 #[] #[] 1537 3 #[] #[])
  fields := #[]
  methods := #[]
  instanceTypes := #[]
  staticTypes := #[]
  resolved := Array.replicate 11 none
  statics := none }

def pool11 : Array CpInfo := pool [(1, .class_ 2), (0, u "java/lang/constant/ConstantDesc"), (0, .class_ 4), (0, u "java/lang/Object")] 32

/-- java/lang/constant/ConstantDesc -/
def k11 : Class := { plain "java/lang/constant/ConstantDesc" (some 0) with
  accessFlags := 1537
  interfaces := #[]
  cf := some (fileOf pool11 1 #[] #[] 1537 3 #[] #[])
  fields := #[]
  methods := #[]
  instanceTypes := #[]
  staticTypes := #[]
  resolved := Array.replicate 37 none
  statics := none }

def pool12 : Array CpInfo := pool [(1, .class_ 2), (0, u "java/lang/Long"), (15, .class_ 20), (1, u "java/lang/Integer"), (79, u "numberOfLeadingZeros"), (0, u "(J)I"), (133, .class_ 237), (1, u "java/lang/Long$LongCache"), (33, .class_ 272), (0, u "java/lang/Number"), (2, u "value"), (0, u "J"), (31, .methodref 18 309), (0, .nameAndType 100 310), (0, u "(I)I"), (50, u "TYPE"), (0, u "Ljava/lang/Class;"), (0, .class_ 364), (0, u "java/lang/Comparable"), (0, .class_ 366), (0, u "java/lang/constant/Constable"), (0, .class_ 368), (0, u "java/lang/constant/ConstantDesc"), (0, u "MIN_VALUE"), (1, u "MAX_VALUE"), (4, u "SIZE"), (0, u "I"), (1, u "BYTES"), (1, u "serialVersionUID")] 142

def k12c0 : Code := { maxStack := 3, maxLocals := 3, code := jdk_35_method_48_code, exceptionTable := #[], attributes := #[] }
def k12m0 : Method := { name := "numberOfLeadingZeros", desc := "(J)I", sig := { parameters := [.long], returnType := some .int }, accessFlags := 9, code := some k12c0 }
/-- java/lang/Long -/
def k12 : Class := { plain "java/lang/Long" (some 9) with
  accessFlags := 49
  interfaces := #[5, 10, 11]
  cf := some (fileOf pool12 1 #[.nestMembers #[235]] #[{ accessFlags := 9, nameIndex := 100, descriptorIndex := 101, attributes := #[] }] 49 271 #[363, 365, 367] #[{ accessFlags := 25, nameIndex := 369, descriptorIndex := 276, attributes := #[] }, { accessFlags := 25, nameIndex := 371, descriptorIndex := 276, attributes := #[] }, { accessFlags := 25, nameIndex := 361, descriptorIndex := 362, attributes := #[] }, { accessFlags := 18, nameIndex := 275, descriptorIndex := 276, attributes := #[] }, { accessFlags := 25, nameIndex := 376, descriptorIndex := 377, attributes := #[] }, { accessFlags := 25, nameIndex := 379, descriptorIndex := 377, attributes := #[] }, { accessFlags := 26, nameIndex := 381, descriptorIndex := 276, attributes := #[] }])
  fields := #[{ name := "MIN_VALUE", type := .long, accessFlags := 25, slot := 0, constantValue := 0 }, { name := "MAX_VALUE", type := .long, accessFlags := 25, slot := 1, constantValue := 0 }, { name := "TYPE", type := (.object "java/lang/Class"), accessFlags := 25, slot := 2, constantValue := 0 }, { name := "value", type := .long, accessFlags := 18, slot := 0, constantValue := 0 }, { name := "SIZE", type := .int, accessFlags := 25, slot := 3, constantValue := 0 }, { name := "BYTES", type := .int, accessFlags := 25, slot := 4, constantValue := 0 }, { name := "serialVersionUID", type := .long, accessFlags := 26, slot := 5, constantValue := 0 }]
  methods := #[k12m0]
  instanceTypes := #[.long]
  staticTypes := #[.long, .long, (.object "java/lang/Class"), .int, .int, .long]
  resolved := Array.replicate 524 none
  statics := none }

def pool13 : Array CpInfo := pool [(1, .class_ 2), (0, u "java/lang/Integer"), (16, u "digits"), (0, u "[C"), (32, u "numberOfLeadingZeros"), (0, u "(I)I"), (30, u "DigitOnes"), (0, u "[B"), (2, u "DigitTens"), (99, .class_ 190), (0, u "java/lang/Integer$IntegerCache"), (3, u "I"), (8, .class_ 204), (0, u "java/lang/Number"), (2, u "value"), (56, .integer 65536), (37, u "TYPE"), (0, u "Ljava/lang/Class;"), (0, .class_ 305), (0, u "java/lang/Comparable"), (0, .class_ 307), (0, u "java/lang/constant/Constable"), (0, .class_ 309), (0, u "java/lang/constant/ConstantDesc"), (0, u "MIN_VALUE"), (1, u "MAX_VALUE"), (3, u "SIZE"), (1, u "BYTES"), (1, u "serialVersionUID"), (0, u "J")] 131

def k13c0 : Code := { maxStack := 3, maxLocals := 2, code := jdk_33_method_47_code, exceptionTable := #[], attributes := #[] }
def k13m0 : Method := { name := "numberOfLeadingZeros", desc := "(I)I", sig := { parameters := [.int], returnType := some .int }, accessFlags := 9, code := some k13c0 }
/-- java/lang/Integer -/
def k13 : Class := { plain "java/lang/Integer" (some 9) with
  accessFlags := 49
  interfaces := #[5, 10, 11]
  cf := some (fileOf pool13 1 #[.nestMembers #[189]] #[{ accessFlags := 9, nameIndex := 53, descriptorIndex := 54, attributes := #[] }] 49 203 #[304, 306, 308] #[{ accessFlags := 25, nameIndex := 310, descriptorIndex := 194, attributes := #[] }, { accessFlags := 25, nameIndex := 312, descriptorIndex := 194, attributes := #[] }, { accessFlags := 25, nameIndex := 302, descriptorIndex := 303, attributes := #[] }, { accessFlags := 24, nameIndex := 19, descriptorIndex := 20, attributes := #[] }, { accessFlags := 24, nameIndex := 89, descriptorIndex := 86, attributes := #[] }, { accessFlags := 24, nameIndex := 85, descriptorIndex := 86, attributes := #[] }, { accessFlags := 18, nameIndex := 207, descriptorIndex := 194, attributes := #[] }, { accessFlags := 25, nameIndex := 316, descriptorIndex := 194, attributes := #[] }, { accessFlags := 25, nameIndex := 318, descriptorIndex := 194, attributes := #[] }, { accessFlags := 26, nameIndex := 320, descriptorIndex := 321, attributes := #[] }])
  fields := #[{ name := "MIN_VALUE", type := .int, accessFlags := 25, slot := 0, constantValue := 0 }, { name := "MAX_VALUE", type := .int, accessFlags := 25, slot := 1, constantValue := 0 }, { name := "TYPE", type := (.object "java/lang/Class"), accessFlags := 25, slot := 2, constantValue := 0 }, { name := "digits", type := (.array .char), accessFlags := 24, slot := 3, constantValue := 0 }, { name := "DigitTens", type := (.array .byte), accessFlags := 24, slot := 4, constantValue := 0 }, { name := "DigitOnes", type := (.array .byte), accessFlags := 24, slot := 5, constantValue := 0 }, { name := "value", type := .int, accessFlags := 18, slot := 0, constantValue := 0 }, { name := "SIZE", type := .int, accessFlags := 25, slot := 6, constantValue := 0 }, { name := "BYTES", type := .int, accessFlags := 25, slot := 7, constantValue := 0 }, { name := "serialVersionUID", type := .long, accessFlags := 26, slot := 8, constantValue := 0 }]
  methods := #[k13m0]
  instanceTypes := #[.int]
  staticTypes := #[.int, .int, (.object "java/lang/Class"), (.array .char), (.array .byte), (.array .byte), .int, .int, .long]
  resolved := Array.replicate 453 none
  statics := none }

def pool14 : Array CpInfo := pool [(1, u "java/lang/Cloneable"), (0, .class_ 1), (0, u "java/lang/Object"), (0, .class_ 3)] 3

/-- java/lang/Cloneable -/
def k14 : Class := { plain "java/lang/Cloneable" (some 0) with
  accessFlags := 1537
  interfaces := #[]
  cf := some (fileOf pool14 2 #[] #[] 1537 4 #[] #[])
  fields := #[]
  methods := #[]
  instanceTypes := #[]
  staticTypes := #[]
  resolved := Array.replicate 8 none
  statics := none }

/-- the primitive byte -/
def k15 : Class := { plain "byte" none with kind := .primitive 'B', accessFlags := 0x411 }
/-- [B -/
def k16 : Class := { plain "[B" (some 0) with kind := .array 15 .byte, interfaces := #[14, 8], accessFlags := 1041 }

/-- the primitive int -/
def k17 : Class := { plain "int" none with kind := .primitive 'I', accessFlags := 0x411 }
/-- [I -/
def k18 : Class := { plain "[I" (some 0) with kind := .array 17 .int, interfaces := #[14, 8], accessFlags := 1041 }

def heap : Heap := #[]
def classes : Array Class := #[k0, k1, k2, k3, k4, k5, k6, k7, k8, k9, k10, k11, k12, k13, k14, k15, k16, k17, k18]
def interned : List (Array UInt16 × Addr) := []
def slotsUsed : Nat := 0
def theMethod : MethodId := ⟨1, 1⟩
def args0 : Array Value := #[.long 1, .int 2, .int 3, .long 4, .int 5, .int 6]
def aboutOver (below : List Frame) : State where
  vm := { classes := classes, interned := interned.toArray }
  heap := heap
  slotsUsed := slotsUsed
  threads := #[{ frames := .invoking theMethod args0 :: below }]
def below0 : List Frame := [.native { method := ⟨0, 0⟩, args := #[] }]
def about1 : State := aboutOver below0
def p0 : Program := .bare "" "" ""
def e0 : Env := launch0.env 0 0 0
theorem w_frames : about1.frames = Frame.invoking theMethod args0 :: below0 := rfl
set_option maxRecDepth 65536 in
theorem w_args : argsFit about1.vm theMethod args0 = true := by decide +kernel
set_option maxRecDepth 65536 in
theorem w_heap : heapFits about1 = true := by decide +kernel
set_option maxRecDepth 65536 in
theorem w_runnable : about1.curStatus? = some .runnable := by decide +kernel
set_option maxRecDepth 65536 in
theorem w_alone : about1.alone = true := by decide +kernel
set_option maxRecDepth 65536 in
theorem w_named : about1.methodNamed? x = some theMethod := by decide +kernel
set_option maxRecDepth 65536 in
theorem w_hears : about1.hears theMethod below0 = true := by decide +kernel
set_option maxRecDepth 65536 in
theorem w_ripe : about1.ripe theMethod args0 below0 = true := by decide +kernel
theorem w_running : about1.status = .running := rfl
set_option maxRecDepth 65536 in
theorem w_room : about1.hasRoom e0.platform room_1 = true :=
  launch0.hasRoom_least _ room_1 (by decide +kernel) (by decide +kernel) (by decide +kernel) (by decide +kernel) (by decide +kernel) (by decide +kernel)
theorem allAtoms_all (ts : List Jvm.Cond) (a : Array Jvm.Value) (st : Jvm.State) : (allAtoms ts).before a st = ts.all (fun c => c.before a st) := by
  induction ts with
  | nil => rfl
  | cons c t ih =>
    show (Jvm.Cond.and c (allAtoms t)).before a st = _
    rw [Jvm.Cond.before_and, ih, List.all_cons]
def words1 : List Jvm.Cond := Jvm.Cond.code x code maxLocals ret :: tables_1
/-- a 'code' word, met by the world's own term for the bytes: nothing is compared byte by byte -/
theorem code_word {y : MethodName} {bytes : ByteArray} {mx : Nat} {rt : Option FieldType} {a : Array Value} {s : State} {m : MethodId} {meth : Method} {c : Code} (h1 : s.methodNamed? y = some m) (h2 : s.vm.method? m = some meth) (h3 : meth.code = some c) (h4 : c.code = bytes)
    (h5 : (c.maxLocals == mx && c.exceptionTable.isEmpty && decide (c.maxStack ≤ mostOperands) && decide (meth.sig.returnType = rt) && !meth.locks && decide (parseMethodDescriptor y.desc = some meth.sig)) = true) : (Jvm.Cond.code y bytes mx rt).before a s = true := by
  simp only [Bool.and_eq_true, beq_iff_eq, Bool.not_eq_true', decide_eq_true_eq] at h5
  obtain ⟨⟨⟨⟨⟨g1, g2⟩, g3⟩, g4⟩, g5⟩, g6⟩ := h5
  simp [Cond.before, Cond.holds, Cond.value, h1, h2, h3, h4, g1, g2, g3, g4, g5, g6]
def isCode : Jvm.Cond → Bool
  | .code _ _ _ _ => true
  | _ => false
theorem all_split {L : List Jvm.Cond} {P : Jvm.Cond → Bool} (h1 : L.all (fun c => isCode c || P c) = true) (h2 : ∀ c ∈ L.filter isCode, P c = true) : L.all P = true := by
  refine List.all_eq_true.mpr fun c hc => ?_
  have h := List.all_eq_true.mp h1 c hc
  rcases Bool.eq_false_or_eq_true (isCode c) with hi | hi
  · exact h2 c (List.mem_filter.mpr ⟨hc, hi⟩)
  · simpa [hi] using h
set_option maxRecDepth 65536 in
theorem w_c0 : (Jvm.Cond.code x code maxLocals ret).before args0 about1 = true := code_word (m := ⟨1, 1⟩) (meth := k1m1) (c := k1c1) (by decide +kernel) rfl rfl rfl (by decide +kernel)
set_option maxRecDepth 65536 in
theorem w_c1 : (Jvm.Cond.code ({ cls := "mandate/RecordTakePinLaw", name := "header", desc := "([BIJIII)V" } : Jvm.MethodName) method_3_code (7 : Nat) (Option.none : Option Jvm.ClassFile.FieldType)).before args0 about1 = true := code_word (m := ⟨1, 2⟩) (meth := k1m2) (c := k1c2) (by decide +kernel) rfl rfl rfl (by decide +kernel)
set_option maxRecDepth 65536 in
theorem w_c2 : (Jvm.Cond.code ({ cls := "mandate/RecordTakePinLaw", name := "packLong", desc := "([BIJ)V" } : Jvm.MethodName) method_4_code (4 : Nat) (Option.none : Option Jvm.ClassFile.FieldType)).before args0 about1 = true := code_word (m := ⟨1, 3⟩) (meth := k1m3) (c := k1c3) (by decide +kernel) rfl rfl rfl (by decide +kernel)
set_option maxRecDepth 65536 in
theorem w_c3 : (Jvm.Cond.code ({ cls := "mandate/Records$Record", name := "<init>", desc := "()V" } : Jvm.MethodName) prog_134_method_1_code (1 : Nat) (Option.none : Option Jvm.ClassFile.FieldType)).before args0 about1 = true := code_word (m := ⟨2, 0⟩) (meth := k2m0) (c := k2c0) (by decide +kernel) rfl rfl rfl (by decide +kernel)
set_option maxRecDepth 65536 in
theorem w_c4 : (Jvm.Cond.code ({ cls := "java/lang/Object", name := "<init>", desc := "()V" } : Jvm.MethodName) object_method_1_code (1 : Nat) (Option.none : Option Jvm.ClassFile.FieldType)).before args0 about1 = true := code_word (m := ⟨0, 0⟩) (meth := k0m0) (c := k0c0) (by decide +kernel) rfl rfl rfl (by decide +kernel)
set_option maxRecDepth 65536 in
theorem w_c5 : (Jvm.Cond.code ({ cls := "mandate/Unpacker", name := "<init>", desc := "()V" } : Jvm.MethodName) prog_155_method_1_code (1 : Nat) (Option.none : Option Jvm.ClassFile.FieldType)).before args0 about1 = true := code_word (m := ⟨3, 0⟩) (meth := k3m0) (c := k3c0) (by decide +kernel) rfl rfl rfl (by decide +kernel)
set_option maxRecDepth 65536 in
theorem w_c6 : (Jvm.Cond.code ({ cls := "mandate/Records$Record", name := "read", desc := "([BI)I" } : Jvm.MethodName) prog_134_method_2_code (4 : Nat) (Option.some Jvm.ClassFile.FieldType.int)).before args0 about1 = true := code_word (m := ⟨2, 1⟩) (meth := k2m1) (c := k2c1) (by decide +kernel) rfl rfl rfl (by decide +kernel)
set_option maxRecDepth 65536 in
theorem w_c7 : (Jvm.Cond.code ({ cls := "mandate/Unpacker", name := "reset", desc := "([BII)Lmandate/Unpacker;" } : Jvm.MethodName) prog_155_method_2_code (4 : Nat) (Option.some (Jvm.ClassFile.FieldType.object "mandate/Unpacker"))).before args0 about1 = true := code_word (m := ⟨3, 1⟩) (meth := k3m1) (c := k3c1) (by decide +kernel) rfl rfl rfl (by decide +kernel)
set_option maxRecDepth 65536 in
theorem w_c8 : (Jvm.Cond.code ({ cls := "mandate/Unpacker", name := "readLong", desc := "()J" } : Jvm.MethodName) prog_155_method_5_code (5 : Nat) (Option.some Jvm.ClassFile.FieldType.long)).before args0 about1 = true := code_word (m := ⟨3, 3⟩) (meth := k3m3) (c := k3c3) (by decide +kernel) rfl rfl rfl (by decide +kernel)
set_option maxRecDepth 65536 in
theorem w_c9 : (Jvm.Cond.code ({ cls := "mandate/Unpacker", name := "readInt", desc := "()I" } : Jvm.MethodName) prog_155_method_4_code (1 : Nat) (Option.some Jvm.ClassFile.FieldType.int)).before args0 about1 = true := code_word (m := ⟨3, 2⟩) (meth := k3m2) (c := k3c2) (by decide +kernel) rfl rfl rfl (by decide +kernel)
set_option maxRecDepth 65536 in
theorem w_c10 : (Jvm.Cond.code ({ cls := "mandate/Batch", name := "size", desc := "(IIJI)I" } : Jvm.MethodName) prog_9_method_18_code (5 : Nat) (Option.some Jvm.ClassFile.FieldType.int)).before args0 about1 = true := code_word (m := ⟨4, 0⟩) (meth := k4m0) (c := k4c0) (by decide +kernel) rfl rfl rfl (by decide +kernel)
set_option maxRecDepth 65536 in
theorem w_c11 : (Jvm.Cond.code ({ cls := "mandate/Packer", name := "size", desc := "(J)I" } : Jvm.MethodName) prog_101_method_15_code (2 : Nat) (Option.some Jvm.ClassFile.FieldType.int)).before args0 about1 = true := code_word (m := ⟨7, 1⟩) (meth := k7m1) (c := k7c1) (by decide +kernel) rfl rfl rfl (by decide +kernel)
set_option maxRecDepth 65536 in
theorem w_c12 : (Jvm.Cond.code ({ cls := "java/lang/Long", name := "numberOfLeadingZeros", desc := "(J)I" } : Jvm.MethodName) jdk_35_method_48_code (3 : Nat) (Option.some Jvm.ClassFile.FieldType.int)).before args0 about1 = true := code_word (m := ⟨12, 0⟩) (meth := k12m0) (c := k12c0) (by decide +kernel) rfl rfl rfl (by decide +kernel)
set_option maxRecDepth 65536 in
theorem w_c13 : (Jvm.Cond.code ({ cls := "java/lang/Integer", name := "numberOfLeadingZeros", desc := "(I)I" } : Jvm.MethodName) jdk_33_method_47_code (2 : Nat) (Option.some Jvm.ClassFile.FieldType.int)).before args0 about1 = true := code_word (m := ⟨13, 0⟩) (meth := k13m0) (c := k13c0) (by decide +kernel) rfl rfl rfl (by decide +kernel)
set_option maxRecDepth 65536 in
theorem w_c14 : (Jvm.Cond.code ({ cls := "mandate/Records$Record", name := "take", desc := "(Lmandate/Records$Record;)V" } : Jvm.MethodName) prog_134_method_10_code (2 : Nat) (Option.none : Option Jvm.ClassFile.FieldType)).before args0 about1 = true := code_word (m := ⟨2, 9⟩) (meth := k2m9) (c := k2c9) (by decide +kernel) rfl rfl rfl (by decide +kernel)
set_option maxRecDepth 65536 in
theorem w_c15 : (Jvm.Cond.code ({ cls := "mandate/Records$Record", name := "source", desc := "()[B" } : Jvm.MethodName) prog_134_method_5_code (1 : Nat) (Option.some (Jvm.ClassFile.FieldType.array Jvm.ClassFile.FieldType.byte))).before args0 about1 = true := code_word (m := ⟨2, 4⟩) (meth := k2m4) (c := k2c4) (by decide +kernel) rfl rfl rfl (by decide +kernel)
set_option maxRecDepth 65536 in
theorem w_c16 : (Jvm.Cond.code ({ cls := "mandate/Records$Record", name := "parent", desc := "()J" } : Jvm.MethodName) prog_134_method_3_code (1 : Nat) (Option.some Jvm.ClassFile.FieldType.long)).before args0 about1 = true := code_word (m := ⟨2, 2⟩) (meth := k2m2) (c := k2c2) (by decide +kernel) rfl rfl rfl (by decide +kernel)
set_option maxRecDepth 65536 in
theorem w_c17 : (Jvm.Cond.code ({ cls := "mandate/Records$Record", name := "step", desc := "()I" } : Jvm.MethodName) prog_134_method_4_code (1 : Nat) (Option.some Jvm.ClassFile.FieldType.int)).before args0 about1 = true := code_word (m := ⟨2, 3⟩) (meth := k2m3) (c := k2c3) (by decide +kernel) rfl rfl rfl (by decide +kernel)
set_option maxRecDepth 65536 in
theorem w_c18 : (Jvm.Cond.code ({ cls := "mandate/Records$Record", name := "keyLength", desc := "()I" } : Jvm.MethodName) prog_134_method_7_code (1 : Nat) (Option.some Jvm.ClassFile.FieldType.int)).before args0 about1 = true := code_word (m := ⟨2, 6⟩) (meth := k2m6) (c := k2c6) (by decide +kernel) rfl rfl rfl (by decide +kernel)
set_option maxRecDepth 65536 in
theorem w_c19 : (Jvm.Cond.code ({ cls := "mandate/Records$Record", name := "bodyLength", desc := "()I" } : Jvm.MethodName) prog_134_method_9_code (1 : Nat) (Option.some Jvm.ClassFile.FieldType.int)).before args0 about1 = true := code_word (m := ⟨2, 8⟩) (meth := k2m8) (c := k2c8) (by decide +kernel) rfl rfl rfl (by decide +kernel)
set_option maxRecDepth 65536 in
theorem w_c20 : (Jvm.Cond.code ({ cls := "mandate/Records$Record", name := "keyStart", desc := "()I" } : Jvm.MethodName) prog_134_method_6_code (1 : Nat) (Option.some Jvm.ClassFile.FieldType.int)).before args0 about1 = true := code_word (m := ⟨2, 5⟩) (meth := k2m5) (c := k2c5) (by decide +kernel) rfl rfl rfl (by decide +kernel)
set_option maxRecDepth 65536 in
theorem w_c21 : (Jvm.Cond.code ({ cls := "mandate/Records$Record", name := "bodyStart", desc := "()I" } : Jvm.MethodName) prog_134_method_8_code (1 : Nat) (Option.some Jvm.ClassFile.FieldType.int)).before args0 about1 = true := code_word (m := ⟨2, 7⟩) (meth := k2m7) (c := k2c7) (by decide +kernel) rfl rfl rfl (by decide +kernel)
def codes1 : List Jvm.Cond := [Jvm.Cond.code x code maxLocals ret, Jvm.Cond.code ({ cls := "mandate/RecordTakePinLaw", name := "header", desc := "([BIJIII)V" } : Jvm.MethodName) method_3_code (7 : Nat) (Option.none : Option Jvm.ClassFile.FieldType), Jvm.Cond.code ({ cls := "mandate/RecordTakePinLaw", name := "packLong", desc := "([BIJ)V" } : Jvm.MethodName) method_4_code (4 : Nat) (Option.none : Option Jvm.ClassFile.FieldType), Jvm.Cond.code ({ cls := "mandate/Records$Record", name := "<init>", desc := "()V" } : Jvm.MethodName) prog_134_method_1_code (1 : Nat) (Option.none : Option Jvm.ClassFile.FieldType), Jvm.Cond.code ({ cls := "java/lang/Object", name := "<init>", desc := "()V" } : Jvm.MethodName) object_method_1_code (1 : Nat) (Option.none : Option Jvm.ClassFile.FieldType), Jvm.Cond.code ({ cls := "mandate/Unpacker", name := "<init>", desc := "()V" } : Jvm.MethodName) prog_155_method_1_code (1 : Nat) (Option.none : Option Jvm.ClassFile.FieldType), Jvm.Cond.code ({ cls := "mandate/Records$Record", name := "read", desc := "([BI)I" } : Jvm.MethodName) prog_134_method_2_code (4 : Nat) (Option.some Jvm.ClassFile.FieldType.int), Jvm.Cond.code ({ cls := "mandate/Unpacker", name := "reset", desc := "([BII)Lmandate/Unpacker;" } : Jvm.MethodName) prog_155_method_2_code (4 : Nat) (Option.some (Jvm.ClassFile.FieldType.object "mandate/Unpacker")), Jvm.Cond.code ({ cls := "mandate/Unpacker", name := "readLong", desc := "()J" } : Jvm.MethodName) prog_155_method_5_code (5 : Nat) (Option.some Jvm.ClassFile.FieldType.long), Jvm.Cond.code ({ cls := "mandate/Unpacker", name := "readInt", desc := "()I" } : Jvm.MethodName) prog_155_method_4_code (1 : Nat) (Option.some Jvm.ClassFile.FieldType.int), Jvm.Cond.code ({ cls := "mandate/Batch", name := "size", desc := "(IIJI)I" } : Jvm.MethodName) prog_9_method_18_code (5 : Nat) (Option.some Jvm.ClassFile.FieldType.int), Jvm.Cond.code ({ cls := "mandate/Packer", name := "size", desc := "(J)I" } : Jvm.MethodName) prog_101_method_15_code (2 : Nat) (Option.some Jvm.ClassFile.FieldType.int), Jvm.Cond.code ({ cls := "java/lang/Long", name := "numberOfLeadingZeros", desc := "(J)I" } : Jvm.MethodName) jdk_35_method_48_code (3 : Nat) (Option.some Jvm.ClassFile.FieldType.int), Jvm.Cond.code ({ cls := "java/lang/Integer", name := "numberOfLeadingZeros", desc := "(I)I" } : Jvm.MethodName) jdk_33_method_47_code (2 : Nat) (Option.some Jvm.ClassFile.FieldType.int), Jvm.Cond.code ({ cls := "mandate/Records$Record", name := "take", desc := "(Lmandate/Records$Record;)V" } : Jvm.MethodName) prog_134_method_10_code (2 : Nat) (Option.none : Option Jvm.ClassFile.FieldType), Jvm.Cond.code ({ cls := "mandate/Records$Record", name := "source", desc := "()[B" } : Jvm.MethodName) prog_134_method_5_code (1 : Nat) (Option.some (Jvm.ClassFile.FieldType.array Jvm.ClassFile.FieldType.byte)), Jvm.Cond.code ({ cls := "mandate/Records$Record", name := "parent", desc := "()J" } : Jvm.MethodName) prog_134_method_3_code (1 : Nat) (Option.some Jvm.ClassFile.FieldType.long), Jvm.Cond.code ({ cls := "mandate/Records$Record", name := "step", desc := "()I" } : Jvm.MethodName) prog_134_method_4_code (1 : Nat) (Option.some Jvm.ClassFile.FieldType.int), Jvm.Cond.code ({ cls := "mandate/Records$Record", name := "keyLength", desc := "()I" } : Jvm.MethodName) prog_134_method_7_code (1 : Nat) (Option.some Jvm.ClassFile.FieldType.int), Jvm.Cond.code ({ cls := "mandate/Records$Record", name := "bodyLength", desc := "()I" } : Jvm.MethodName) prog_134_method_9_code (1 : Nat) (Option.some Jvm.ClassFile.FieldType.int), Jvm.Cond.code ({ cls := "mandate/Records$Record", name := "keyStart", desc := "()I" } : Jvm.MethodName) prog_134_method_6_code (1 : Nat) (Option.some Jvm.ClassFile.FieldType.int), Jvm.Cond.code ({ cls := "mandate/Records$Record", name := "bodyStart", desc := "()I" } : Jvm.MethodName) prog_134_method_8_code (1 : Nat) (Option.some Jvm.ClassFile.FieldType.int)]
set_option maxRecDepth 65536 in
theorem codes_eq : words1.filter isCode = codes1 := rfl
theorem w_codes : ∀ c ∈ words1.filter isCode, c.before args0 about1 = true := by
  rw [codes_eq]
  intro c hc
  simp only [codes1, List.mem_cons, List.not_mem_nil, or_false] at hc
  rcases hc with rfl | rfl | rfl | rfl | rfl | rfl | rfl | rfl | rfl | rfl | rfl | rfl | rfl | rfl | rfl | rfl | rfl | rfl | rfl | rfl | rfl | rfl
  · exact w_c0
  · exact w_c1
  · exact w_c2
  · exact w_c3
  · exact w_c4
  · exact w_c5
  · exact w_c6
  · exact w_c7
  · exact w_c8
  · exact w_c9
  · exact w_c10
  · exact w_c11
  · exact w_c12
  · exact w_c13
  · exact w_c14
  · exact w_c15
  · exact w_c16
  · exact w_c17
  · exact w_c18
  · exact w_c19
  · exact w_c20
  · exact w_c21
set_option maxRecDepth 65536 in
theorem w_t1 : (words1.take 24).all (fun c => isCode c || c.before args0 about1) = true := by decide +kernel
set_option maxRecDepth 65536 in
theorem w_t2 : ((words1.drop 24).take 24).all (fun c => isCode c || c.before args0 about1) = true := by decide +kernel
set_option maxRecDepth 65536 in
theorem w_t3 : (((words1.drop 24).drop 24).take 24).all (fun c => isCode c || c.before args0 about1) = true := by decide +kernel
set_option maxRecDepth 65536 in
theorem w_t4 : ((((words1.drop 24).drop 24).drop 24).take 24).all (fun c => isCode c || c.before args0 about1) = true := by decide +kernel
set_option maxRecDepth 65536 in
theorem w_t5 : (((((words1.drop 24).drop 24).drop 24).drop 24).take 24).all (fun c => isCode c || c.before args0 about1) = true := by decide +kernel
set_option maxRecDepth 65536 in
theorem w_t6 : (((((words1.drop 24).drop 24).drop 24).drop 24).drop 24).all (fun c => isCode c || c.before args0 about1) = true := by decide +kernel
theorem w_tables : (allAtoms (Jvm.Cond.code x code maxLocals ret :: tables_1)).before args0 about1 = true := by
  rw [allAtoms_all]
  show words1.all (fun c => c.before args0 about1) = true
  refine all_split ?_ w_codes
  rw [← List.take_append_drop 24 words1, List.all_append, w_t1, ← List.take_append_drop 24 (words1.drop 24), List.all_append, w_t2, ← List.take_append_drop 24 ((words1.drop 24).drop 24), List.all_append, w_t3, ← List.take_append_drop 24 (((words1.drop 24).drop 24).drop 24), List.all_append, w_t4, ← List.take_append_drop 24 ((((words1.drop 24).drop 24).drop 24).drop 24), List.all_append, w_t5, w_t6]
  rfl
set_option maxRecDepth 65536 in
theorem w_case : (Jvm.Cond.and given_1 narrow_1).before args0 about1 = true := by decide +kernel
theorem w_applies : (headSpec (Jvm.Cond.code x code maxLocals ret :: tables_1) room_1).applies x e0.platform about1 = true :=
  (Spec.applies_iff w_frames).mpr ⟨w_running, w_runnable, w_alone, w_named, w_hears, w_ripe, w_room, w_tables⟩
theorem atStart : AtStart classFile x code maxLocals ret World_1 tables_1 room_1 Calls_1 rest_1 Pre_1 launch0 p0 e0 about1 theMethod args0 below0 :=
  ⟨lists_1, trivial, launch0.admits_env _ _ _, launch0.least_env, fairChoices_fair.cas, fairChoices_fair.clock, w_frames, w_args, w_heap, w_applies, trivial, trivial, w_case⟩
end start1
theorem witness_1 : WitnessClaimed_1 := ⟨start1.p0, start1.e0, start1.about1, start1.theMethod, start1.args0, start1.below0, start1.atStart⟩
end Jvm.Pilot.@@N@@

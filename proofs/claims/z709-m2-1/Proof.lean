import JvmDerived
import JvmDerived.Pilot.@@N@@Statement
import JvmDerived.Pilot.@@N@@Code
set_option linter.unusedVariables false
set_option linter.unusedSimpArgs false
@@BLOCK:NumsL.lean.txt@@
namespace Jvm.OwnKit
open Sem ClassFile Op Lib Jvm.Stand Jvm.Free Jvm.LawKit Jvm.RoadKit
/-- the surroundings of one body: program, environment, start, method, arguments, frames below, method record, code -/
abbrev Cxt := Program × Env × State × MethodId × Array Value × List Frame × Method × Code
/-- what a body owes: the first new address, cells, slots, what it leaves -/
abbrev En := Nat × Nat × Nat × (Option Value → Heap → Prop)
abbrev St (l : Launch) (R : Room) (C : Cxt) (T : State) (L : List Loc) (k n : Nat) : Prop :=
  Stand C.1 l C.2.1 R C.2.2.1 C.2.2.2.1 C.2.2.2.2.1 C.2.2.2.2.2.1 C.2.2.2.2.2.2.1 C.2.2.2.2.2.2.2 T L k n
abbrev Sp (C : Cxt) (a b : State) : Prop := Steps C.1.tables C.2.1 C.2.2.2.2.2.1 a b
def Goes (C : Cxt) (E : En) (a : State) : Prop :=
  ∃ t o, Sp C a t ∧ t.status = .running ∧ Ended t C.2.2.2.2.2.1 o ∧ ∃ v L, o = .returned v ∧ (E.2.2.2 v t.heap ∧ Fr E.1 L) ∧ FrameEnd C.2.2.1 o t L E.2.1 E.2.2.1
/-- from this place of the code, with this heap, these locals and this stack, and so many cells and slots made, the body comes to its end as owed -/
def W (l : Launch) (R : Room) (C : Cxt) (E : En) (h : Heap) (k n pc : Nat) (Ls : Array Slot) (st : List Value) : Prop :=
  ∀ T L, St l R C T L k n → Fr E.1 L → T.heap = h → Goes C E (T.setTop (mkF C.2.2.2.1 pc Ls st))
def Cx (C : Cxt) (Z : State) (own : String) (code : ByteArray) (ml : Nat) (ret : Option FieldType) (nm : String) (n0 : Nat) : Prop :=
  C.1.tables.exec = Jvm.exec ∧ C.2.2.2.2.2.2.2.code = code ∧ C.2.2.2.2.2.2.2.maxLocals = ml ∧ C.2.2.1.vm.findClass own = some C.2.2.2.1.cls ∧ Z.Warmed39 C.2.2.1.vm ∧ C.2.2.2.2.2.2.1.sig.returnType = ret ∧ C.2.2.2.2.2.2.1.locks = false ∧ C.2.2.2.2.2.2.1.name = nm ∧ n0 ≤ C.2.2.1.heap.size
/-- a contract of one call: these arguments, this heap -/
def Ctr (l : Launch) (Z : State) (y : MethodName) (bytes : ByteArray) (maxL : Nat) (ret : Option FieldType) (rm : Room) (n0 : Nat) (as' : Array Value) (h : Heap) (Q : Option Value → Heap → Prop) : Prop :=
  MetFree l y (head1 [Cond.code y bytes maxL ret] rm) (fun a U => a = as' ∧ Z.Warmed39 U.vm ∧ U.heap = h) (fun _ _ _ _ _ => True) (fun _ U o U' => ∃ v L, o = .returned v ∧ (Q v U'.heap ∧ Fr n0 L) ∧ FrameEnd U o U' L rm.cells rm.slots)
section Own
variable {l : Launch} {R : Room} {C : Cxt} {E : En} {h h' : Heap} {k n pc : Nat} {Ls : Array Slot} {st : List Value} {Z : State} {own nm : String} {code : ByteArray} {ml : Nat} {ret : Option FieldType} {a0 : Array Value}
theorem wd {ts : List Jvm.Cond} (hw : ∀ d ∈ ts, d.before a0 Z = true) (i : Nat) {d : Jvm.Cond} (hi : ts[i]? = some d) : d.before a0 Z = true := hw _ (List.mem_of_getElem? hi)
theorem W.via {pc' : Nat} {Ls' : Array Slot} {st' : List Value} (f : ∀ T t L, St l R C T L k n → T.heap = h → Sp C (T.setTop (mkF C.2.2.2.1 pc' Ls' st')) t → Sp C (T.setTop (mkF C.2.2.2.1 pc Ls st)) t)
    (hr : W l R C E h k n pc' Ls' st') : W l R C E h k n pc Ls st := fun T L X N eT => by
  obtain ⟨t, o, h1, h2⟩ := hr T L X N eT
  exact ⟨t, o, f T t L X eT h1, h2⟩
theorem W.more {k' n' : Nat} (hk : k ≤ k') (hn : n ≤ n') (hr : W l R C E h k' n' pc Ls st) : W l R C E h k n pc Ls st := fun T L X N eT => hr T L (X.more hk hn) N eT
/-- a step that moves the tables alone -/
theorem W.viaT {pc' : Nat} {Ls' : Array Slot} {st' : List Value} (f : ∀ T L, St l R C T L k n → T.heap = h → ∃ T', St l R C T' L k n ∧ T'.heap = h ∧ ∀ t, Sp C (T'.setTop (mkF C.2.2.2.1 pc' Ls' st')) t → Sp C (T.setTop (mkF C.2.2.2.1 pc Ls st)) t)
    (hr : W l R C E h k n pc' Ls' st') : W l R C E h k n pc Ls st := fun T L X N eT => by
  obtain ⟨T', X', e', q⟩ := f T L X eT
  obtain ⟨t, o, h1, h2⟩ := hr T' L X' N e'
  exact ⟨t, o, q t h1, h2⟩
theorem size_ge {n0 : Nat} (H : Cx C Z own code ml ret nm n0) {T : State} {L : List Loc} (X : St l R C T L k n) : n0 ≤ T.heap.size := Nat.le_trans H.2.2.2.2.2.2.2.2 X.same.2.1
/-! plain steps -/
section Plain
theorem k_iloadN {i : Fin 4} {x : Int32} (H : Cx C Z own code ml ret nm E.1) (hd : decode code pc = .ok (.iload_n i, 1)) (hl : Ls[i.val]? = some (.val (.int x))) (hr : W l R C E h k n (pc + 1) Ls (.int x :: st)) : W l R C E h k n pc Ls st := .via (fun T t L X _ r => XS.iloadN X.here H.1 rfl (hb H.2.1 hd) hl r) hr
theorem k_iload {i : Nat} {x : Int32} (H : Cx C Z own code ml ret nm E.1) (hd : decode code pc = .ok (.iload i, 2)) (hl : Ls[i]? = some (.val (.int x))) (hr : W l R C E h k n (pc + 2) Ls (.int x :: st)) : W l R C E h k n pc Ls st := .via (fun T t L X _ r => XS.iload X.here H.1 rfl (hb H.2.1 hd) hl r) hr
theorem k_lloadN {i : Fin 4} {x : Int64} (H : Cx C Z own code ml ret nm E.1) (hd : decode code pc = .ok (.lload_n i, 1)) (hl : Ls[i.val]? = some (.val (.long x))) (hr : W l R C E h k n (pc + 1) Ls (.long x :: st)) : W l R C E h k n pc Ls st := .via (fun T t L X _ r => XT.lloadN X.here H.1 rfl (hb H.2.1 hd) hl r) hr
theorem k_lload {i : Nat} {x : Int64} (H : Cx C Z own code ml ret nm E.1) (hd : decode code pc = .ok (.lload i, 2)) (hl : Ls[i]? = some (.val (.long x))) (hr : W l R C E h k n (pc + 2) Ls (.long x :: st)) : W l R C E h k n pc Ls st := .via (fun T t L X _ r => XT.lload X.here H.1 rfl (hb H.2.1 hd) hl r) hr
theorem k_aloadN {i : Fin 4} {v : Value} (H : Cx C Z own code ml ret nm E.1) (hd : decode code pc = .ok (.aload_n i, 1)) (hl : Ls[i.val]? = some (.val v)) (hv : v.isRef = true) (hr : W l R C E h k n (pc + 1) Ls (v :: st)) : W l R C E h k n pc Ls st := .via (fun T t L X _ r => XS.aloadN X.here H.1 rfl (hb H.2.1 hd) hl hv r) hr
theorem k_aload {i : Nat} {v : Value} (H : Cx C Z own code ml ret nm E.1) (hd : decode code pc = .ok (.aload i, 2)) (hl : Ls[i]? = some (.val v)) (hv : v.isRef = true) (hr : W l R C E h k n (pc + 2) Ls (v :: st)) : W l R C E h k n pc Ls st := .via (fun T t L X _ r => XS.aload X.here H.1 rfl (hb H.2.1 hd) hl hv r) hr
theorem k_istoreN {i : Fin 4} {x : Int32} {Ls' : Array Slot} (H : Cx C Z own code ml ret nm E.1) (hd : decode code pc = .ok (.istore_n i, 1)) (hl : storeLocals Ls i.val (.int x) = some Ls') (hr : W l R C E h k n (pc + 1) Ls' st) : W l R C E h k n pc Ls (.int x :: st) := .via (fun T t L X _ r => XS.istoreN X.here H.1 rfl (hb H.2.1 hd) rfl hl r) hr
theorem k_istore {i : Nat} {x : Int32} {Ls' : Array Slot} (H : Cx C Z own code ml ret nm E.1) (hd : decode code pc = .ok (.istore i, 2)) (hl : storeLocals Ls i (.int x) = some Ls') (hr : W l R C E h k n (pc + 2) Ls' st) : W l R C E h k n pc Ls (.int x :: st) := .via (fun T t L X _ r => XS.istore X.here H.1 rfl (hb H.2.1 hd) rfl hl r) hr
theorem k_lstoreN {i : Fin 4} {x : Int64} {Ls' : Array Slot} (H : Cx C Z own code ml ret nm E.1) (hd : decode code pc = .ok (.lstore_n i, 1)) (hl : storeLocals Ls i.val (.long x) = some Ls') (hr : W l R C E h k n (pc + 1) Ls' st) : W l R C E h k n pc Ls (.long x :: st) := .via (fun T t L X _ r => XT.lstoreN X.here H.1 rfl (hb H.2.1 hd) rfl hl r) hr
theorem k_lstore {i : Nat} {x : Int64} {Ls' : Array Slot} (H : Cx C Z own code ml ret nm E.1) (hd : decode code pc = .ok (.lstore i, 2)) (hl : storeLocals Ls i (.long x) = some Ls') (hr : W l R C E h k n (pc + 2) Ls' st) : W l R C E h k n pc Ls (.long x :: st) := .via (fun T t L X _ r => XT.lstore X.here H.1 rfl (hb H.2.1 hd) rfl hl r) hr
theorem k_astoreN {i : Fin 4} {x : Value} {Ls' : Array Slot} (H : Cx C Z own code ml ret nm E.1) (hd : decode code pc = .ok (.astore_n i, 1)) (hv : x.isRef = true) (hl : storeLocals Ls i.val x = some Ls') (hr : W l R C E h k n (pc + 1) Ls' st) : W l R C E h k n pc Ls (x :: st) := .via (fun T t L X _ r => XS.astoreN X.here H.1 rfl (hb H.2.1 hd) rfl hv hl r) hr
theorem k_astore {i : Nat} {x : Value} {Ls' : Array Slot} (H : Cx C Z own code ml ret nm E.1) (hd : decode code pc = .ok (.astore i, 2)) (hv : x.isRef = true) (hl : storeLocals Ls i x = some Ls') (hr : W l R C E h k n (pc + 2) Ls' st) : W l R C E h k n pc Ls (x :: st) := .via (fun T t L X _ r => XS.astore X.here H.1 rfl (hb H.2.1 hd) rfl hv hl r) hr
theorem k_iconst {i : Int} (v : Int32) (H : Cx C Z own code ml ret nm E.1) (hd : decode code pc = .ok (.iconst i, 1)) (hv : Int32.ofInt i = v) (hr : W l R C E h k n (pc + 1) Ls (.int v :: st)) : W l R C E h k n pc Ls st := .via (fun T t L X _ r => XT.iconstV X.here H.1 rfl v (hb H.2.1 hd) hv r) hr
theorem k_bipush {i : Int} (v : Int32) (H : Cx C Z own code ml ret nm E.1) (hd : decode code pc = .ok (.bipush i, 2)) (hv : (Int8.ofInt i).toInt32 = v) (hr : W l R C E h k n (pc + 2) Ls (.int v :: st)) : W l R C E h k n pc Ls st := .via (fun T t L X _ r => XT.bipushV X.here H.1 rfl v (hb H.2.1 hd) hv r) hr
theorem k_sipush {i : Int} (v : Int32) (H : Cx C Z own code ml ret nm E.1) (hd : decode code pc = .ok (.sipush i, 3)) (hv : (Int16.ofInt i).toInt32 = v) (hr : W l R C E h k n (pc + 3) Ls (.int v :: st)) : W l R C E h k n pc Ls st := .via (fun T t L X _ r => XT.sipushV X.here H.1 rfl v (hb H.2.1 hd) hv r) hr
theorem k_lconst {i : Fin 2} (v : Int64) (H : Cx C Z own code ml ret nm E.1) (hd : decode code pc = .ok (.lconst i, 1)) (hv : Int64.ofNat i = v) (hr : W l R C E h k n (pc + 1) Ls (.long v :: st)) : W l R C E h k n pc Ls st := .via (fun T t L X _ r => XT.lconstV X.here H.1 rfl v (hb H.2.1 hd) hv r) hr
theorem k_aconstNull (H : Cx C Z own code ml ret nm E.1) (hd : decode code pc = .ok (.aconst_null, 1)) (hr : W l R C E h k n (pc + 1) Ls (.null :: st)) : W l R C E h k n pc Ls st := .via (fun T t L X _ r => XS.aconstNull X.here H.1 rfl (hb H.2.1 hd) r) hr
theorem k_ldcI {i : Nat} {v : Int32} (H : Cx C Z own code ml ret nm E.1) (hc : (Cond.constant own i v).before a0 Z = true) (hd : decode code pc = .ok (.ldc i, 2)) (hr : W l R C E h k n (pc + 2) Ls (.int v :: st)) : W l R C E h k n pc Ls st := .via (fun T t L X _ r => X.ldcI H.1 H.2.2.2.1 (mv H.2.2.2.2.1 hc) rfl (hb H.2.1 hd) r) hr
theorem k_ldcWI {i : Nat} {v : Int32} (H : Cx C Z own code ml ret nm E.1) (hc : (Cond.constant own i v).before a0 Z = true) (hd : decode code pc = .ok (.ldc_w i, 3)) (hr : W l R C E h k n (pc + 3) Ls (.int v :: st)) : W l R C E h k n pc Ls st := .via (fun T t L X _ r => X.ldcWI H.1 H.2.2.2.1 (mv H.2.2.2.2.1 hc) rfl (hb H.2.1 hd) r) hr
theorem k_ldc2J {i : Nat} {v : Int64} (H : Cx C Z own code ml ret nm E.1) (hc : (Cond.constantLong own i v).before a0 Z = true) (hd : decode code pc = .ok (.ldc2_w i, 3)) (hr : W l R C E h k n (pc + 3) Ls (.long v :: st)) : W l R C E h k n pc Ls st := .via (fun T t L X _ r => X.ldc2J H.1 H.2.2.2.1 (mv H.2.2.2.2.1 hc) rfl (hb H.2.1 hd) r) hr
theorem k_iinc {i : Nat} {c : Int} (v : Int32) {x : Int32} {Ls' : Array Slot} (H : Cx C Z own code ml ret nm E.1) (hd : decode code pc = .ok (.iinc i c, 3)) (hv : Int32.ofInt c = v) (hl : Ls[i]? = some (.val (.int x))) (hl' : storeLocals Ls i (.int (x + v)) = some Ls') (hr : W l R C E h k n (pc + 3) Ls' st) : W l R C E h k n pc Ls st := .via (fun T t L X _ r => XT.iincV X.here H.1 rfl v (hb H.2.1 hd) hv hl hl' r) hr
theorem k_iadd {x y : Int32} (H : Cx C Z own code ml ret nm E.1) (hd : decode code pc = .ok (.iadd, 1)) (hr : W l R C E h k n (pc + 1) Ls (.int (x + y) :: st)) : W l R C E h k n pc Ls (.int y :: .int x :: st) := .via (fun T t L X _ r => XS.iadd X.here H.1 rfl (hb H.2.1 hd) rfl r) hr
theorem k_isub {x y : Int32} (H : Cx C Z own code ml ret nm E.1) (hd : decode code pc = .ok (.isub, 1)) (hr : W l R C E h k n (pc + 1) Ls (.int (x - y) :: st)) : W l R C E h k n pc Ls (.int y :: .int x :: st) := .via (fun T t L X _ r => XS.isub X.here H.1 rfl (hb H.2.1 hd) rfl r) hr
theorem k_imul {x y : Int32} (H : Cx C Z own code ml ret nm E.1) (hd : decode code pc = .ok (.imul, 1)) (hr : W l R C E h k n (pc + 1) Ls (.int (x * y) :: st)) : W l R C E h k n pc Ls (.int y :: .int x :: st) := .via (fun T t L X _ r => XS.imul X.here H.1 rfl (hb H.2.1 hd) rfl r) hr
theorem k_idiv {x y : Int32} (H : Cx C Z own code ml ret nm E.1) (hd : decode code pc = .ok (.idiv, 1)) (hy : y ≠ 0) (hr : W l R C E h k n (pc + 1) Ls (.int (x / y) :: st)) : W l R C E h k n pc Ls (.int y :: .int x :: st) := .via (fun T t L X _ r => XS.idiv X.here H.1 rfl (hb H.2.1 hd) rfl hy r) hr
theorem k_irem {x y : Int32} (H : Cx C Z own code ml ret nm E.1) (hd : decode code pc = .ok (.irem, 1)) (hy : y ≠ 0) (hr : W l R C E h k n (pc + 1) Ls (.int (x % y) :: st)) : W l R C E h k n pc Ls (.int y :: .int x :: st) := .via (fun T t L X _ r => iremM X H.1 rfl (hb H.2.1 hd) rfl hy r) hr
theorem k_iand {x y : Int32} (H : Cx C Z own code ml ret nm E.1) (hd : decode code pc = .ok (.iand, 1)) (hr : W l R C E h k n (pc + 1) Ls (.int (x &&& y) :: st)) : W l R C E h k n pc Ls (.int y :: .int x :: st) := .via (fun T t L X _ r => XS.iand X.here H.1 rfl (hb H.2.1 hd) rfl r) hr
theorem k_ior {x y : Int32} (H : Cx C Z own code ml ret nm E.1) (hd : decode code pc = .ok (.ior, 1)) (hr : W l R C E h k n (pc + 1) Ls (.int (x ||| y) :: st)) : W l R C E h k n pc Ls (.int y :: .int x :: st) := .via (fun T t L X _ r => XT.ior X.here H.1 rfl (hb H.2.1 hd) rfl r) hr
theorem k_ixor {x y : Int32} (H : Cx C Z own code ml ret nm E.1) (hd : decode code pc = .ok (.ixor, 1)) (hr : W l R C E h k n (pc + 1) Ls (.int (x ^^^ y) :: st)) : W l R C E h k n pc Ls (.int y :: .int x :: st) := .via (fun T t L X _ r => XT.ixor X.here H.1 rfl (hb H.2.1 hd) rfl r) hr
theorem k_ishl {x y : Int32} (H : Cx C Z own code ml ret nm E.1) (hd : decode code pc = .ok (.ishl, 1)) (hr : W l R C E h k n (pc + 1) Ls (.int (x <<< (y &&& 31)) :: st)) : W l R C E h k n pc Ls (.int y :: .int x :: st) := .via (fun T t L X _ r => XT.ishl X.here H.1 rfl (hb H.2.1 hd) rfl r) hr
theorem k_ishr {x y : Int32} (H : Cx C Z own code ml ret nm E.1) (hd : decode code pc = .ok (.ishr, 1)) (hr : W l R C E h k n (pc + 1) Ls (.int (x >>> (y &&& 31)) :: st)) : W l R C E h k n pc Ls (.int y :: .int x :: st) := .via (fun T t L X _ r => XT.ishr X.here H.1 rfl (hb H.2.1 hd) rfl r) hr
theorem k_iushr {x y : Int32} (H : Cx C Z own code ml ret nm E.1) (hd : decode code pc = .ok (.iushr, 1)) (hr : W l R C E h k n (pc + 1) Ls (.int (XT.ushr x y) :: st)) : W l R C E h k n pc Ls (.int y :: .int x :: st) := .via (fun T t L X _ r => XT.iushr X.here H.1 rfl (hb H.2.1 hd) rfl r) hr
theorem k_ineg {x : Int32} (H : Cx C Z own code ml ret nm E.1) (hd : decode code pc = .ok (.ineg, 1)) (hr : W l R C E h k n (pc + 1) Ls (.int (-x) :: st)) : W l R C E h k n pc Ls (.int x :: st) := .via (fun T t L X _ r => XS.ineg X.here H.1 rfl (hb H.2.1 hd) rfl r) hr
theorem k_ladd {x y : Int64} (H : Cx C Z own code ml ret nm E.1) (hd : decode code pc = .ok (.ladd, 1)) (hr : W l R C E h k n (pc + 1) Ls (.long (x + y) :: st)) : W l R C E h k n pc Ls (.long y :: .long x :: st) := .via (fun T t L X _ r => XT.ladd X.here H.1 rfl (hb H.2.1 hd) rfl r) hr
theorem k_lsub {x y : Int64} (H : Cx C Z own code ml ret nm E.1) (hd : decode code pc = .ok (.lsub, 1)) (hr : W l R C E h k n (pc + 1) Ls (.long (x - y) :: st)) : W l R C E h k n pc Ls (.long y :: .long x :: st) := .via (fun T t L X _ r => XT.lsub X.here H.1 rfl (hb H.2.1 hd) rfl r) hr
theorem k_land {x y : Int64} (H : Cx C Z own code ml ret nm E.1) (hd : decode code pc = .ok (.land, 1)) (hr : W l R C E h k n (pc + 1) Ls (.long (x &&& y) :: st)) : W l R C E h k n pc Ls (.long y :: .long x :: st) := .via (fun T t L X _ r => XT.land X.here H.1 rfl (hb H.2.1 hd) rfl r) hr
theorem k_lor {x y : Int64} (H : Cx C Z own code ml ret nm E.1) (hd : decode code pc = .ok (.lor, 1)) (hr : W l R C E h k n (pc + 1) Ls (.long (x ||| y) :: st)) : W l R C E h k n pc Ls (.long y :: .long x :: st) := .via (fun T t L X _ r => XT.lor X.here H.1 rfl (hb H.2.1 hd) rfl r) hr
theorem k_lxor {x y : Int64} (H : Cx C Z own code ml ret nm E.1) (hd : decode code pc = .ok (.lxor, 1)) (hr : W l R C E h k n (pc + 1) Ls (.long (x ^^^ y) :: st)) : W l R C E h k n pc Ls (.long y :: .long x :: st) := .via (fun T t L X _ r => XT.lxor X.here H.1 rfl (hb H.2.1 hd) rfl r) hr
theorem k_lshl {x : Int64} {y : Int32} (H : Cx C Z own code ml ret nm E.1) (hd : decode code pc = .ok (.lshl, 1)) (hr : W l R C E h k n (pc + 1) Ls (.long (x <<< (y.toInt64 &&& 63)) :: st)) : W l R C E h k n pc Ls (.int y :: .long x :: st) := .via (fun T t L X _ r => XT.lshl X.here H.1 rfl (hb H.2.1 hd) rfl r) hr
theorem k_lushr {x : Int64} {y : Int32} (H : Cx C Z own code ml ret nm E.1) (hd : decode code pc = .ok (.lushr, 1)) (hr : W l R C E h k n (pc + 1) Ls (.long (XT.ushrL x y) :: st)) : W l R C E h k n pc Ls (.int y :: .long x :: st) := .via (fun T t L X _ r => XT.lushr X.here H.1 rfl (hb H.2.1 hd) rfl r) hr
theorem k_i2l {x : Int32} (H : Cx C Z own code ml ret nm E.1) (hd : decode code pc = .ok (.i2l, 1)) (hr : W l R C E h k n (pc + 1) Ls (.long x.toInt64 :: st)) : W l R C E h k n pc Ls (.int x :: st) := .via (fun T t L X _ r => XT.i2l X.here H.1 rfl (hb H.2.1 hd) rfl r) hr
theorem k_l2i {x : Int64} (H : Cx C Z own code ml ret nm E.1) (hd : decode code pc = .ok (.l2i, 1)) (hr : W l R C E h k n (pc + 1) Ls (.int x.toInt32 :: st)) : W l R C E h k n pc Ls (.long x :: st) := .via (fun T t L X _ r => XT.l2i X.here H.1 rfl (hb H.2.1 hd) rfl r) hr
theorem k_i2b {x : Int32} (H : Cx C Z own code ml ret nm E.1) (hd : decode code pc = .ok (.i2b, 1)) (hr : W l R C E h k n (pc + 1) Ls (.int x.toInt8.toInt32 :: st)) : W l R C E h k n pc Ls (.int x :: st) := .via (fun T t L X _ r => XT.i2b X.here H.1 rfl (hb H.2.1 hd) rfl r) hr
theorem k_i2c {x : Int32} (H : Cx C Z own code ml ret nm E.1) (hd : decode code pc = .ok (.i2c, 1)) (hr : W l R C E h k n (pc + 1) Ls (.int x.toUInt32.toUInt16.toUInt32.toInt32 :: st)) : W l R C E h k n pc Ls (.int x :: st) := .via (fun T t L X _ r => XT.i2c X.here H.1 rfl (hb H.2.1 hd) rfl r) hr
theorem k_lcmp {x y : Int64} (H : Cx C Z own code ml ret nm E.1) (hd : decode code pc = .ok (.lcmp, 1)) (hr : W l R C E h k n (pc + 1) Ls (.int (XT.cmpL x y) :: st)) : W l R C E h k n pc Ls (.long y :: .long x :: st) := .via (fun T t L X _ r => XT.lcmp X.here H.1 rfl (hb H.2.1 hd) rfl r) hr
theorem k_dup {v : Value} (H : Cx C Z own code ml ret nm E.1) (hd : decode code pc = .ok (.dup, 1)) (hc : v.category = 1) (hr : W l R C E h k n (pc + 1) Ls (v :: v :: st)) : W l R C E h k n pc Ls (v :: st) := .via (fun T t L X _ r => XS.dup X.here H.1 rfl (hb H.2.1 hd) rfl hc r) hr
theorem k_pop {v : Value} (H : Cx C Z own code ml ret nm E.1) (hd : decode code pc = .ok (.pop, 1)) (hc : v.category = 1) (hr : W l R C E h k n (pc + 1) Ls st) : W l R C E h k n pc Ls (v :: st) := .via (fun T t L X _ r => XT.pop X.here H.1 rfl (hb H.2.1 hd) rfl hc r) hr
theorem k_dupX1 {v w : Value} (H : Cx C Z own code ml ret nm E.1) (hd : decode code pc = .ok (.dup_x1, 1)) (hc : v.category = 1) (hc' : w.category = 1) (hr : W l R C E h k n (pc + 1) Ls (v :: w :: v :: st)) : W l R C E h k n pc Ls (v :: w :: st) := .via (fun T t L X _ r => XT.dupX1 X.here H.1 rfl (hb H.2.1 hd) rfl hc hc' r) hr
theorem k_dup2 {v w : Value} (H : Cx C Z own code ml ret nm E.1) (hd : decode code pc = .ok (.dup2, 1)) (hc : v.category = 1) (hc' : w.category = 1) (hr : W l R C E h k n (pc + 1) Ls (v :: w :: v :: w :: st)) : W l R C E h k n pc Ls (v :: w :: st) := .via (fun T t L X _ r => XT.dup2 X.here H.1 rfl (hb H.2.1 hd) rfl hc hc' r) hr
theorem k_goto {o : Int} (pc' : Nat) (H : Cx C Z own code ml ret nm E.1) (hd : decode code pc = .ok (.goto o, 3)) (hp : (pc : Int) + o = (pc' : Int)) (hr : W l R C E h k n pc' Ls st) : W l R C E h k n pc Ls st := .via (fun T t L X _ r => XS.goto X.here H.1 rfl rfl (hb H.2.1 hd) (by rw [hp]; exact Int.natCast_nonneg _) (by rw [hp]; rfl) r) hr
theorem k_icmpT {cd : ClassFile.Cond} {o : Int} {x y : Int32} (pc' : Nat) (H : Cx C Z own code ml ret nm E.1) (hd : decode code pc = .ok (.if_icmp cd o, 3)) (hp : (pc : Int) + o = (pc' : Int)) (hc : if_icmp.holds cd x y = true) (hr : W l R C E h k n pc' Ls st) : W l R C E h k n pc Ls (.int y :: .int x :: st) :=
  .via (fun T t L X _ r => XS.icmpYes X.here H.1 rfl rfl (hb H.2.1 hd) rfl hc (by rw [hp]; exact Int.natCast_nonneg _) (by rw [hp]; rfl) r) hr
theorem k_icmpF {cd : ClassFile.Cond} {o : Int} {x y : Int32} (H : Cx C Z own code ml ret nm E.1) (hd : decode code pc = .ok (.if_icmp cd o, 3)) (hc : if_icmp.holds cd x y = false) (hr : W l R C E h k n (pc + 3) Ls st) : W l R C E h k n pc Ls (.int y :: .int x :: st) :=
  .via (fun T t L X _ r => XS.icmpNo X.here H.1 rfl (hb H.2.1 hd) rfl hc r) hr
theorem k_ifT {cd : ClassFile.Cond} {o : Int} {x : Int32} (pc' : Nat) (H : Cx C Z own code ml ret nm E.1) (hd : decode code pc = .ok (.ifCond cd o, 3)) (hp : (pc : Int) + o = (pc' : Int)) (hc : ifCond.holds cd x = true) (hr : W l R C E h k n pc' Ls st) : W l R C E h k n pc Ls (.int x :: st) :=
  .via (fun T t L X _ r => XS.ifYes X.here H.1 rfl rfl (hb H.2.1 hd) rfl hc (by rw [hp]; exact Int.natCast_nonneg _) (by rw [hp]; rfl) r) hr
theorem k_ifF {cd : ClassFile.Cond} {o : Int} {x : Int32} (H : Cx C Z own code ml ret nm E.1) (hd : decode code pc = .ok (.ifCond cd o, 3)) (hc : ifCond.holds cd x = false) (hr : W l R C E h k n (pc + 3) Ls st) : W l R C E h k n pc Ls (.int x :: st) :=
  .via (fun T t L X _ r => XS.ifNo X.here H.1 rfl (hb H.2.1 hd) rfl hc r) hr
theorem k_acmpT {cd : ClassFile.ACond} {o : Int} {x y : Value} (pc' : Nat) (H : Cx C Z own code ml ret nm E.1) (hd : decode code pc = .ok (.if_acmp cd o, 3)) (hp : (pc : Int) + o = (pc' : Int)) (hx : x.isRef = true) (hy : y.isRef = true) (hc : XT.acmp cd x y = true) (hr : W l R C E h k n pc' Ls st) : W l R C E h k n pc Ls (y :: x :: st) :=
  .via (fun T t L X _ r => XT.acmpYes X.here H.1 rfl rfl (hb H.2.1 hd) rfl hx hy hc (by rw [hp]; exact Int.natCast_nonneg _) (by rw [hp]; rfl) r) hr
theorem k_acmpF {cd : ClassFile.ACond} {o : Int} {x y : Value} (H : Cx C Z own code ml ret nm E.1) (hd : decode code pc = .ok (.if_acmp cd o, 3)) (hx : x.isRef = true) (hy : y.isRef = true) (hc : XT.acmp cd x y = false) (hr : W l R C E h k n (pc + 3) Ls st) : W l R C E h k n pc Ls (y :: x :: st) :=
  .via (fun T t L X _ r => XT.acmpNo X.here H.1 rfl (hb H.2.1 hd) rfl hx hy hc r) hr
theorem k_nonnullT {o : Int} {b : Addr} (pc' : Nat) (H : Cx C Z own code ml ret nm E.1) (hd : decode code pc = .ok (.ifnonnull o, 3)) (hp : (pc : Int) + o = (pc' : Int)) (hr : W l R C E h k n pc' Ls st) : W l R C E h k n pc Ls (.ref b :: st) :=
  .via (fun T t L X _ r => XT.ifnonnullYes X.here H.1 rfl rfl (hb H.2.1 hd) rfl (by rw [hp]; exact Int.natCast_nonneg _) (by rw [hp]; rfl) r) hr
theorem k_tsw {dflt low high o : Int} {offs : Array Int} {len : Nat} {i : Int32} (pc' : Nat) (H : Cx C Z own code ml ret nm E.1) (hd : decode code pc = .ok (.tableswitch dflt low high offs, len)) (hin : ¬ (i.toInt < low ∨ i.toInt > high)) (hoff : offs[(i.toInt - low).toNat]? = some o) (hp : (pc : Int) + o = (pc' : Int)) (hr : W l R C E h k n pc' Ls st) : W l R C E h k n pc Ls (.int i :: st) :=
  .via (fun T t L X _ r => XS.tswIn X.here H.1 rfl rfl (hb H.2.1 hd) rfl hin hoff (by rw [hp]; exact Int.natCast_nonneg _) (by rw [hp]; rfl) r) hr
theorem lsw {tb : Tables} [Ours tb] {e : Env} {below : List Frame} {T target : State} {m : MethodId} {c : Code} {g : JFrame} (h : At T m c below) (hx : tb.exec = Jvm.exec) (hg : g.method = m) {dflt : Int} {pairs : Array (Int × Int)} {len : Nat} {pc0 pc' : Nat} (hpc : g.pc = pc0) (hd : decode c.code g.pc = .ok (.lookupswitch dflt pairs, len)) {i : Int32} {rest : List Value} (hs : g.stack = .int i :: rest)
    (ho : 0 ≤ (pc0 : Int) + lookupswitch.offset pairs.toList dflt i.toInt) (hp : ((pc0 : Int) + lookupswitch.offset pairs.toList dflt i.toInt).toNat = pc') (hsort : ∀ (a b c d : Int), ((a, b), c, d) ∈ pairs.toList.zip pairs.toList.tail → a < c) (hr : Steps tb e below (T.setTop { g with pc := pc', stack := rest }) target) : Steps tb e below (T.setTop g) target := by
  subst hg hpc hp
  jvm_step h [h.top, hx, hd, hs, ho, lookupswitch.wp_chain]
  exact ⟨hsort, hr⟩
theorem k_lsw {dflt : Int} {pairs : Array (Int × Int)} {len : Nat} {i : Int32} (pc' : Nat) (H : Cx C Z own code ml ret nm E.1) (hd : decode code pc = .ok (.lookupswitch dflt pairs, len)) (hsort : ∀ (a b c d : Int), ((a, b), c, d) ∈ pairs.toList.zip pairs.toList.tail → a < c) (hp : (pc : Int) + lookupswitch.offset pairs.toList dflt i.toInt = (pc' : Int)) (hr : W l R C E h k n pc' Ls st) : W l R C E h k n pc Ls (.int i :: st) :=
  .via (fun T t L X _ r => lsw X.here H.1 rfl rfl (hb H.2.1 hd) rfl (by rw [hp]; exact Int.natCast_nonneg _) (by rw [hp]; rfl) hsort r) hr
end Plain
/-! branches, both ways -/
theorem k_icmp {cd : ClassFile.Cond} {o : Int} {x y : Int32} {P : Prop} [Decidable P] (pc' : Nat) (H : Cx C Z own code ml ret nm E.1) (hd : decode code pc = .ok (.if_icmp cd o, 3)) (hp : (pc : Int) + o = (pc' : Int)) (hT : P → if_icmp.holds cd x y = true) (hF : ¬ P → if_icmp.holds cd x y = false)
    (h1 : P → W l R C E h k n pc' Ls st) (h2 : ¬ P → W l R C E h k n (pc + 3) Ls st) : W l R C E h k n pc Ls (.int y :: .int x :: st) := by
  by_cases q : P
  · exact k_icmpT pc' H hd hp (hT q) (h1 q)
  · exact k_icmpF H hd (hF q) (h2 q)
theorem k_iff0 {cd : ClassFile.Cond} {o : Int} {x : Int32} {P : Prop} [Decidable P] (pc' : Nat) (H : Cx C Z own code ml ret nm E.1) (hd : decode code pc = .ok (.ifCond cd o, 3)) (hp : (pc : Int) + o = (pc' : Int)) (hT : P → ifCond.holds cd x = true) (hF : ¬ P → ifCond.holds cd x = false)
    (h1 : P → W l R C E h k n pc' Ls st) (h2 : ¬ P → W l R C E h k n (pc + 3) Ls st) : W l R C E h k n pc Ls (.int x :: st) := by
  by_cases q : P
  · exact k_ifT pc' H hd hp (hT q) (h1 q)
  · exact k_ifF H hd (hF q) (h2 q)
theorem k_icmpR {cd : ClassFile.Cond} {o : Int} {x y : Int32} {P : Prop} [Decidable P] (pc' : Nat) (H : Cx C Z own code ml ret nm E.1) (hd : decode code pc = .ok (.if_icmp cd o, 3)) (hp : (pc : Int) + o = (pc' : Int)) (hT : ¬ P → if_icmp.holds cd x y = true) (hF : P → if_icmp.holds cd x y = false)
    (h1 : ¬ P → W l R C E h k n pc' Ls st) (h2 : P → W l R C E h k n (pc + 3) Ls st) : W l R C E h k n pc Ls (.int y :: .int x :: st) := by
  by_cases q : P
  · exact k_icmpF H hd (hF q) (h2 q)
  · exact k_icmpT pc' H hd hp (hT q) (h1 q)
theorem k_iff0R {cd : ClassFile.Cond} {o : Int} {x : Int32} {P : Prop} [Decidable P] (pc' : Nat) (H : Cx C Z own code ml ret nm E.1) (hd : decode code pc = .ok (.ifCond cd o, 3)) (hp : (pc : Int) + o = (pc' : Int)) (hT : ¬ P → ifCond.holds cd x = true) (hF : P → ifCond.holds cd x = false)
    (h1 : ¬ P → W l R C E h k n pc' Ls st) (h2 : P → W l R C E h k n (pc + 3) Ls st) : W l R C E h k n pc Ls (.int x :: st) := by
  by_cases q : P
  · exact k_ifF H hd (hF q) (h2 q)
  · exact k_ifT pc' H hd hp (hT q) (h1 q)
theorem k_acmp {cd : ClassFile.ACond} {o : Int} {x y : Value} {P : Prop} [Decidable P] (pc' : Nat) (H : Cx C Z own code ml ret nm E.1) (hd : decode code pc = .ok (.if_acmp cd o, 3)) (hp : (pc : Int) + o = (pc' : Int)) (hx : x.isRef = true) (hy : y.isRef = true) (hT : P → XT.acmp cd x y = true) (hF : ¬ P → XT.acmp cd x y = false)
    (h1 : P → W l R C E h k n pc' Ls st) (h2 : ¬ P → W l R C E h k n (pc + 3) Ls st) : W l R C E h k n pc Ls (y :: x :: st) := by
  by_cases q : P
  · exact k_acmpT pc' H hd hp hx hy (hT q) (h1 q)
  · exact k_acmpF H hd hx hy (hF q) (h2 q)
/-! heap steps -/
/-- an array: its kind and all that it holds -/
def Vec (Z : State) (h : Heap) (a : Addr) (ty : FieldType) (vs : List Value) : Prop := ∃ c : Cell, Arr Z h a c ty ∧ c.slots = vs.toArray ∧ vs.length < 2 ^ 31
abbrev IA (Z : State) (h : Heap) (a : Addr) (xs : List Int32) : Prop := Vec Z h a .int (xs.map Value.int)
abbrev JA (Z : State) (h : Heap) (a : Addr) (xs : List Int64) : Prop := Vec Z h a .long (xs.map Value.long)
abbrev BA (Z : State) (h : Heap) (a : Addr) (xs : List Int8) : Prop := Vec Z h a .byte (xs.map fun b => Value.int b.toInt32)
abbrev CA (Z : State) (h : Heap) (a : Addr) (xs : List UInt16) : Prop := Vec Z h a .char (xs.map fun b => Value.int b.toUInt32.toInt32)
theorem Vec.lt {a : Addr} {ty : FieldType} {vs : List Value} (F : Vec Z h a ty vs) : a < h.size := by obtain ⟨c, A, -⟩ := F; exact A.lt
theorem Vec.ext {a : Addr} {ty : FieldType} {vs : List Value} (F : Vec Z h a ty vs) (X : Ext h h') : Vec Z h' a ty vs := by obtain ⟨c, A, r⟩ := F; exact ⟨c, A.ext X, r⟩
theorem Vec.keep {a : Addr} {ty : FieldType} {vs : List Value} {ws : List Addr} (F : Vec Z h a ty vs) (K : Keep h h' ws) (q : a ∉ ws) : Vec Z h' a ty vs := by obtain ⟨c, A, r⟩ := F; exact ⟨c, ⟨K.2.1 a c A.1 q, A.2⟩, r⟩
theorem Vec.other {a b : Addr} {ty : FieldType} {vs : List Value} {sl : Nat} {v : Value} (F : Vec Z h b ty vs) (X : Wr h h' a sl v) (q : b ≠ a) : Vec Z h' b ty vs := by obtain ⟨c, A, r⟩ := F; exact ⟨c, A.other X q, r⟩
theorem Vec.set {a : Addr} {ty : FieldType} {vs : List Value} {sl : Nat} {v : Value} (F : Vec Z h a ty vs) (X : Wr h h' a sl v) : Vec Z h' a ty (vs.set sl v) := by
  obtain ⟨c, A, e, r⟩ := F
  refine ⟨_, A.same X, ?_, by simpa using r⟩
  simp [Cell.setSlot, e]
theorem Vec.ne {a b : Addr} {ty ty' : FieldType} {vs vs' : List Value} (F : Vec Z h a ty vs) (G : Vec Z h b ty' vs') (q : ty ≠ ty') : a ≠ b := fun e => by
  subst e
  obtain ⟨c, A, -⟩ := F
  obtain ⟨c', A', -⟩ := G
  cases A.1.symm.trans A'.1
  obtain ⟨-, k, h1, comp, h2⟩ := A.2.1
  obtain ⟨-, k', h1', comp', h2'⟩ := A'.2.1
  cases h1.symm.trans h1'
  rw [h2] at h2'; cases h2'; exact q rfl
theorem Vec.neX {a b : Addr} {ty : FieldType} {vs : List Value} {cls : String} {kk : Nat} (G : Vec Z h b ty vs) (F : Exa Z h a cls) (wi : (Cond.instantiable cls kk).before a0 Z = true) : a ≠ b := by obtain ⟨c, A, -⟩ := G; exact ne_arr F wi A
theorem Keep.ofExt (X : Ext h h') : Keep h h' [] := (Keep.refl h []).ext X
theorem idx_ok {j : Int32} {i : Nat} (hj : j.toInt = (i : Int)) : ¬ j < 0 ∧ j.toNatClampNeg = i := by
  have e0 : (0 : Int32).toInt = 0 := rfl
  constructor
  · rw [Int32.lt_iff_toInt_lt]; omega
  · simp only [Int32.toNatClampNeg, hj]; rfl
theorem len_ok {c : Cell} {vs : List Value} (e : c.slots = vs.toArray) (hl : vs.length < 2 ^ 31) : c.slots.size.toInt32.toInt = (vs.length : Int) := by
  rw [e]; exact len_toInt hl
section Arrs
variable {a : Addr} {j : Int32} {i : Nat} {v : Value} {vs : List Value}
theorem in_ok {c : Cell} (e : c.slots = vs.toArray) (hj : j.toInt = (i : Int)) (hv : vs[i]? = some v) : ¬ (j < 0 ∨ c.slots.size ≤ j.toNatClampNeg) ∧ c.slots[j.toNatClampNeg]? = some v := by
  obtain ⟨q1, q2⟩ := idx_ok hj
  rw [q2, e]
  have hlt : i < vs.length := (List.getElem?_eq_some_iff.mp hv).1
  exact ⟨fun z => z.elim q1 (fun z => absurd hlt (Nat.not_lt.mpr (by simpa using z))), by simpa using hv⟩
theorem k_arraylength {ty : FieldType} {N : Int32} (H : Cx C Z own code ml ret nm E.1) (A : Vec Z h a ty vs) (hN : N.toInt = (vs.length : Int)) (hd : decode code pc = .ok (.arraylength, 1)) (hr : W l R C E h k n (pc + 1) Ls (.int N :: st)) : W l R C E h k n pc Ls (.ref a :: st) := by
  obtain ⟨c, A, e, hl⟩ := A
  have q : c.slots.size.toInt32 = N := Int32.toInt_inj.mp ((len_ok e hl).trans hN.symm)
  subst q
  exact .via (fun T t L X eT r => X.arraylength H.1 (by rw [eT]; exact A.1) (State.isArrayOf_alike H.2.2.2.2.1.alike A.2.1) (g := mkF C.2.2.2.1 pc Ls (.ref a :: st)) rfl rfl (hb H.2.1 hd) _ r) hr
theorem k_iaload (H : Cx C Z own code ml ret nm E.1) (A : Vec Z h a .int vs) (hj : j.toInt = (i : Int)) (hv : vs[i]? = some v) (hd : decode code pc = .ok (.iaload, 1)) (hr : W l R C E h k n (pc + 1) Ls (v :: st)) : W l R C E h k n pc Ls (.int j :: .ref a :: st) := by
  obtain ⟨c, A, e, hl⟩ := A
  obtain ⟨q1, q2⟩ := in_ok e hj hv
  exact .via (fun T t L X eT r => X.iaload H.1 (by rw [eT]; exact A.1) (State.isArrayOf_alike H.2.2.2.2.1.alike A.2.1) A.2.2 q1 q2 (g := mkF C.2.2.2.1 pc Ls (.int j :: .ref a :: st)) rfl rfl (hb H.2.1 hd) _ r) hr
theorem k_laload (H : Cx C Z own code ml ret nm E.1) (A : Vec Z h a .long vs) (hj : j.toInt = (i : Int)) (hv : vs[i]? = some v) (hd : decode code pc = .ok (.laload, 1)) (hr : W l R C E h k n (pc + 1) Ls (v :: st)) : W l R C E h k n pc Ls (.int j :: .ref a :: st) := by
  obtain ⟨c, A, e, hl⟩ := A
  obtain ⟨q1, q2⟩ := in_ok e hj hv
  exact .via (fun T t L X eT r => X.laload H.1 (by rw [eT]; exact A.1) (State.isArrayOf_alike H.2.2.2.2.1.alike A.2.1) A.2.2 q1 q2 (g := mkF C.2.2.2.1 pc Ls (.int j :: .ref a :: st)) rfl rfl (hb H.2.1 hd) _ r) hr
theorem k_caload (H : Cx C Z own code ml ret nm E.1) (A : Vec Z h a .char vs) (hj : j.toInt = (i : Int)) (hv : vs[i]? = some v) (hd : decode code pc = .ok (.caload, 1)) (hr : W l R C E h k n (pc + 1) Ls (v :: st)) : W l R C E h k n pc Ls (.int j :: .ref a :: st) := by
  obtain ⟨c, A, e, hl⟩ := A
  obtain ⟨q1, q2⟩ := in_ok e hj hv
  exact .via (fun T t L X eT r => X.caload H.1 (by rw [eT]; exact A.1) (State.isArrayOf_alike H.2.2.2.2.1.alike A.2.1) A.2.2 q1 q2 (g := mkF C.2.2.2.1 pc Ls (.int j :: .ref a :: st)) rfl rfl (hb H.2.1 hd) _ r) hr
theorem k_baload (H : Cx C Z own code ml ret nm E.1) (A : Vec Z h a .byte vs) (hj : j.toInt = (i : Int)) (hv : vs[i]? = some v) (hd : decode code pc = .ok (.baload, 1)) (hr : W l R C E h k n (pc + 1) Ls (v :: st)) : W l R C E h k n pc Ls (.int j :: .ref a :: st) := by
  obtain ⟨c, A, e, hl⟩ := A
  obtain ⟨q1, q2⟩ := in_ok e hj hv
  exact .via (fun T t L X eT r => X.baloadBytes H.1 (by rw [eT]; exact A.1) (State.isArrayOf_alike H.2.2.2.2.1.alike A.2.1) A.2.2 q1 q2 (g := mkF C.2.2.2.1 pc Ls (.int j :: .ref a :: st)) rfl rfl (hb H.2.1 hd) _ r) hr
theorem out_ok {c : Cell} (e : c.slots = vs.toArray) (hj : j.toInt = (i : Int)) (hi : i < vs.length) : ¬ (j < 0 ∨ c.slots.size ≤ j.toNatClampNeg) := by
  obtain ⟨q1, q2⟩ := idx_ok hj
  rw [q2, e]
  exact fun z => z.elim q1 (fun z => absurd hi (Nat.not_lt.mpr (by simpa using z)))
theorem Goes.step {T T' : State} {g g' : JFrame} (q : ∀ t, Sp C (T'.setTop g') t → Sp C (T.setTop g) t) (r : Goes C E (T'.setTop g')) : Goes C E (T.setTop g) := by
  obtain ⟨t, o, h1, h2⟩ := r; exact ⟨t, o, q t h1, h2⟩
theorem k_iastore {x : Int32} (H : Cx C Z own code ml ret nm E.1) (A : Vec Z h a .int vs) (hj : j.toInt = (i : Int)) (hi : i < vs.length) (ge : E.1 ≤ a) (hd : decode code pc = .ok (.iastore, 1))
    (hr : ∀ h', Keep h h' [a] → Vec Z h' a .int (vs.set i (.int x)) → W l R C E h' k n (pc + 1) Ls st) : W l R C E h k n pc Ls (.int x :: .int j :: .ref a :: st) := fun T L X N eT => by
  have A' := A
  obtain ⟨c, A, e, hl⟩ := A
  obtain ⟨T', h', X', e', Wx, q⟩ := stI X H.1 H.2.2.2.2.1 eT A (out_ok e hj hi) (g := mkF C.2.2.2.1 pc Ls (.int x :: .int j :: .ref a :: st)) rfl rfl (hb H.2.1 hd)
  refine .step q (hr h' (Keep.of_wr Wx) ?_ T' _ X' (Fr.snoc X' N ge) e')
  rw [(idx_ok hj).2] at Wx; exact A'.set Wx
theorem k_lastore {x : Int64} (H : Cx C Z own code ml ret nm E.1) (A : Vec Z h a .long vs) (hj : j.toInt = (i : Int)) (hi : i < vs.length) (ge : E.1 ≤ a) (hd : decode code pc = .ok (.lastore, 1))
    (hr : ∀ h', Keep h h' [a] → Vec Z h' a .long (vs.set i (.long x)) → W l R C E h' k n (pc + 1) Ls st) : W l R C E h k n pc Ls (.long x :: .int j :: .ref a :: st) := fun T L X N eT => by
  have A' := A
  obtain ⟨c, A, e, hl⟩ := A
  obtain ⟨T', h', X', e', Wx, q⟩ := stJ X H.1 H.2.2.2.2.1 eT A (out_ok e hj hi) (g := mkF C.2.2.2.1 pc Ls (.long x :: .int j :: .ref a :: st)) rfl rfl (hb H.2.1 hd)
  refine .step q (hr h' (Keep.of_wr Wx) ?_ T' _ X' (Fr.snoc X' N ge) e')
  rw [(idx_ok hj).2] at Wx; exact A'.set Wx
theorem k_bastore {x : Int32} (H : Cx C Z own code ml ret nm E.1) (A : Vec Z h a .byte vs) (hj : j.toInt = (i : Int)) (hi : i < vs.length) (ge : E.1 ≤ a) (hd : decode code pc = .ok (.bastore, 1))
    (hr : ∀ h', Keep h h' [a] → Vec Z h' a .byte (vs.set i (.int x.toInt8.toInt32)) → W l R C E h' k n (pc + 1) Ls st) : W l R C E h k n pc Ls (.int x :: .int j :: .ref a :: st) := fun T L X N eT => by
  have A' := A
  obtain ⟨c, A, e, hl⟩ := A
  obtain ⟨T', h', X', e', Wx, q⟩ := stB X H.1 H.2.2.2.2.1 eT A (out_ok e hj hi) (g := mkF C.2.2.2.1 pc Ls (.int x :: .int j :: .ref a :: st)) rfl rfl (hb H.2.1 hd)
  refine .step q (hr h' (Keep.of_wr Wx) ?_ T' _ X' (Fr.snoc X' N ge) e')
  rw [(idx_ok hj).2] at Wx; exact A'.set Wx
theorem k_castore {x : Int32} (H : Cx C Z own code ml ret nm E.1) (A : Vec Z h a .char vs) (hj : j.toInt = (i : Int)) (hi : i < vs.length) (ge : E.1 ≤ a) (hd : decode code pc = .ok (.castore, 1))
    (hr : ∀ h', Keep h h' [a] → Vec Z h' a .char (vs.set i (.int x.toUInt32.toUInt16.toUInt32.toInt32)) → W l R C E h' k n (pc + 1) Ls st) : W l R C E h k n pc Ls (.int x :: .int j :: .ref a :: st) := fun T L X N eT => by
  have A' := A
  obtain ⟨c, A, e, hl⟩ := A
  obtain ⟨T', h', X', e', Wx, q⟩ := stC X H.1 H.2.2.2.2.1 eT A (out_ok e hj hi) (g := mkF C.2.2.2.1 pc Ls (.int x :: .int j :: .ref a :: st)) rfl rfl (hb H.2.1 hd)
  refine .step q (hr h' (Keep.of_wr Wx) ?_ T' _ X' (Fr.snoc X' N ge) e')
  rw [(idx_ok hj).2] at Wx; exact A'.set Wx
end Arrs
/-- newarray of a plain kind, at most cap long -/
theorem k_newarray {aty : ArrayType} {ty : FieldType} {len : Int32} (m cap : Nat) (H : Cx C Z own code ml ret nm E.1) (w : (Cond.arrayClass ty).before a0 Z = true) (hty : newarray.typeOf aty = ty) (hd : decode code pc = .ok (.newarray aty, 2)) (hm : len.toInt = (m : Int)) (hcap : m ≤ cap) (hB : cap * 8 ≤ 536870912) (hC : k + 1 ≤ R.cells) (hS : n + cap ≤ R.slots)
    (hr : ∀ h' a, a = h.size → E.1 ≤ a → Ext h h' → Exa Z h' a ("[" ++ ty.toString) → Vec Z h' a ty (List.replicate m (defaultValue ty)) → W l R C E h' (k + 1) (n + cap) (pc + 2) Ls (.ref a :: st)) : W l R C E h k n pc Ls (.int len :: st) := fun T L X N eT => by
  subst hty
  obtain ⟨q1, q2⟩ := idx_ok hm
  obtain ⟨T', h', cA, X', e', Ex, A, XA, q⟩ := newPE X H.1 H.2.2.2.2.1 w eT (g := mkF C.2.2.2.1 pc Ls (.int len :: st)) rfl (hb H.2.1 hd) rfl q1 (cap := cap) (by rw [q2]; exact hcap) hB hC hS rfl
  have hlt : m < 2 ^ 31 := by have := len.toInt_lt; omega
  refine .step q (hr h' h.size rfl (by rw [← eT]; exact size_ge H X) Ex XA ⟨_, A, ?_, by simpa using hlt⟩ T' _ X' N e')
  simp [newA, q2]
theorem k_newObj {idx ns : Nat} {cls : String} (H : Cx C Z own code ml ret nm E.1) (w : (Cond.classLink own idx cls).before a0 Z = true) (wi : (Cond.instantiable cls ns).before a0 Z = true) (wz : (Cond.initialized cls).before a0 Z = true) (hd : decode code pc = .ok (.new idx, 3)) (hC : k + 1 ≤ R.cells) (hS : n + ns ≤ R.slots)
    (hr : ∀ h' a, a = h.size → E.1 ≤ a → Ext h h' → Exa Z h' a cls → (∀ {O nf d : String} {ty : FieldType}, Laid Z a0 cls O nf d → parseFieldDescriptor d = some ty → Fld Z h' a O nf d (defaultValue ty)) → W l R C E h' (k + 1) (n + ns) (pc + 3) Ls (.ref a :: st)) : W l R C E h k n pc Ls st := fun T L X N eT => by
  obtain ⟨T', h', X', e', Ex, A, D, -, q⟩ := newO X H.1 H.2.2.2.2.1 H.2.2.2.1 w wi wz eT (g := mkF C.2.2.2.1 pc Ls st) rfl (hb H.2.1 hd) hC hS
  exact .step q (hr h' h.size rfl (by rw [← eT]; exact size_ge H X) Ex A D T' _ X' N e')
theorem k_initObj {idx w : Nat} {a : Addr} (H : Cx C Z own code ml ret nm E.1) (w1 : (Cond.methodLink own idx Lib.objectInit).before a0 Z = true) (w2 : (Cond.instanceMethod Lib.objectInit).before a0 Z = true) (w3 : (Cond.code Lib.objectInit ⟨#[0xb1]⟩ 1 none).before a0 Z = true) (hd : decode code pc = .ok (.invokespecial idx, 3)) (hsz : Ls.size = ml) (hF : 1 ≤ R.frames)
    (hw : (st.map fun v => v.category).sum = w) (hL : w + 12 ≤ R.locals) (hr : W l R C E h k n (pc + 3) Ls st) : W l R C E h k n pc Ls (.ref a :: st) :=
  .viaT (fun T L X eT => initO X H.1 H.2.2.2.2.1 H.2.2.2.1 w1 w2 w3 eT (g := mkF C.2.2.2.1 pc Ls (.ref a :: st)) rfl (by show Ls.size = _; rw [H.2.2.1]; exact hsz) rfl (hb H.2.1 hd) hF (W := w) (by show 2 * 0 + _ ≤ _; rw [hw]; omega) hL) hr
theorem k_getfield {idx : Nat} {O nf d : String} {a : Addr} {v : Value} (H : Cx C Z own code ml ret nm E.1) (w : (Cond.fieldLink own idx O nf d).before a0 Z = true) (F : Fld Z h a O nf d v) (hd : decode code pc = .ok (.getfield idx, 3)) (hr : W l R C E h k n (pc + 3) Ls (v :: st)) : W l R C E h k n pc Ls (.ref a :: st) :=
  .viaT (fun T L X eT => getF X H.1 H.2.2.2.2.1 H.2.2.2.1 (host := "") (Or.inl w) Via.refl eT F (g := mkF C.2.2.2.1 pc Ls (.ref a :: st)) rfl rfl (hb H.2.1 hd)) hr
theorem k_putfield {idx kk : Nat} {O nf d cls : String} {a : Addr} {v old : Value} (ty : FieldType) (H : Cx C Z own code ml ret nm E.1) (w : (Cond.fieldLink own idx O nf d).before a0 Z = true) (F : Fld Z h a O nf d old) (X0 : Exa Z h a cls) (La : (Cond.lays cls O nf d).before a0 Z = true ∨ ((Cond.laysFinal cls O nf d).before a0 Z = true ∧ own = O ∧ nm = "<init>"))
    (wi : (Cond.instantiable cls kk).before a0 Z = true) (hty : parseFieldDescriptor d = some ty) (hn : narrow ty v = v) (hf : fits ty v = true) (ge : E.1 ≤ a) (hd : decode code pc = .ok (.putfield idx, 3))
    (hr : ∀ h', Wr h h' a (Jvm.RoadKit.slotOf Z O nf d) v → Fld Z h' a O nf d v → W l R C E h' k n (pc + 3) Ls st) : W l R C E h k n pc Ls (v :: .ref a :: st) := fun T L X N eT => by
  obtain ⟨T', h', X', e', Wx, q⟩ := putF X H.1 H.2.2.2.2.1 H.2.2.2.1 (host := "") (Or.inl w) Via.refl eT F X0 (La.imp id fun z => ⟨z.1, z.2.1, H.2.2.2.2.2.2.2.1.trans z.2.2⟩) wi hty hn hf (g := mkF C.2.2.2.1 pc Ls (v :: .ref a :: st)) rfl rfl (hb H.2.1 hd)
  exact .step q (hr h' Wx (F.same Wx) T' _ X' (Fr.snoc X' N ge) e')
/-! arrays by the kind of what they hold -/
section Typed
variable {a : Addr} {j : Int32} {i : Nat}
theorem map_at {α : Type} {f : α → Value} {xs : List α} {x : α} (hv : xs[i]? = some x) : (xs.map f)[i]? = some (f x) := by rw [List.getElem?_map, hv]; rfl
theorem k_ialoadT {xs : List Int32} {x : Int32} (H : Cx C Z own code ml ret nm E.1) (A : IA Z h a xs) (hj : j.toInt = (i : Int)) (hv : xs[i]? = some x) (hd : decode code pc = .ok (.iaload, 1)) (hr : W l R C E h k n (pc + 1) Ls ((.int x) :: st)) : W l R C E h k n pc Ls (.int j :: .ref a :: st) := k_iaload H A hj (map_at hv) hd hr
theorem k_iastoreT {xs : List Int32} {x : Int32} (H : Cx C Z own code ml ret nm E.1) (A : IA Z h a xs) (hj : j.toInt = (i : Int)) (hi : i < xs.length) (ge : E.1 ≤ a) (hd : decode code pc = .ok (.iastore, 1))
    (hr : ∀ h', Keep h h' [a] → IA Z h' a (xs.set i x) → W l R C E h' k n (pc + 1) Ls st) : W l R C E h k n pc Ls ((.int x) :: .int j :: .ref a :: st) := k_iastore H A hj (by simpa using hi) ge hd (fun h' K V => hr h' K (by rw [IA, List.map_set]; exact V))
theorem k_new_int {len : Int32} (m cap : Nat) (H : Cx C Z own code ml ret nm E.1) (w : (Cond.arrayClass .int).before a0 Z = true) (hd : decode code pc = .ok (.newarray .int, 2)) (hm : len.toInt = (m : Int)) (hcap : m ≤ cap) (hB : cap * 8 ≤ 536870912) (hC : k + 1 ≤ R.cells) (hS : n + cap ≤ R.slots)
    (hr : ∀ h' a, a = h.size → E.1 ≤ a → Ext h h' → Exa Z h' a "[I" → IA Z h' a (List.replicate m 0) → W l R C E h' (k + 1) (n + cap) (pc + 2) Ls (.ref a :: st)) : W l R C E h k n pc Ls (.int len :: st) := k_newarray m cap H w rfl hd hm hcap hB hC hS (fun h' a e g X XA V => hr h' a e g X XA (by rw [IA, List.map_replicate]; exact V))
theorem k_laloadT {xs : List Int64} {x : Int64} (H : Cx C Z own code ml ret nm E.1) (A : JA Z h a xs) (hj : j.toInt = (i : Int)) (hv : xs[i]? = some x) (hd : decode code pc = .ok (.laload, 1)) (hr : W l R C E h k n (pc + 1) Ls ((.long x) :: st)) : W l R C E h k n pc Ls (.int j :: .ref a :: st) := k_laload H A hj (map_at hv) hd hr
theorem k_lastoreT {xs : List Int64} {x : Int64} (H : Cx C Z own code ml ret nm E.1) (A : JA Z h a xs) (hj : j.toInt = (i : Int)) (hi : i < xs.length) (ge : E.1 ≤ a) (hd : decode code pc = .ok (.lastore, 1))
    (hr : ∀ h', Keep h h' [a] → JA Z h' a (xs.set i x) → W l R C E h' k n (pc + 1) Ls st) : W l R C E h k n pc Ls ((.long x) :: .int j :: .ref a :: st) := k_lastore H A hj (by simpa using hi) ge hd (fun h' K V => hr h' K (by rw [JA, List.map_set]; exact V))
theorem k_new_long {len : Int32} (m cap : Nat) (H : Cx C Z own code ml ret nm E.1) (w : (Cond.arrayClass .long).before a0 Z = true) (hd : decode code pc = .ok (.newarray .long, 2)) (hm : len.toInt = (m : Int)) (hcap : m ≤ cap) (hB : cap * 8 ≤ 536870912) (hC : k + 1 ≤ R.cells) (hS : n + cap ≤ R.slots)
    (hr : ∀ h' a, a = h.size → E.1 ≤ a → Ext h h' → Exa Z h' a "[J" → JA Z h' a (List.replicate m 0) → W l R C E h' (k + 1) (n + cap) (pc + 2) Ls (.ref a :: st)) : W l R C E h k n pc Ls (.int len :: st) := k_newarray m cap H w rfl hd hm hcap hB hC hS (fun h' a e g X XA V => hr h' a e g X XA (by rw [JA, List.map_replicate]; exact V))
theorem k_baloadT {xs : List Int8} {x : Int8} (H : Cx C Z own code ml ret nm E.1) (A : BA Z h a xs) (hj : j.toInt = (i : Int)) (hv : xs[i]? = some x) (hd : decode code pc = .ok (.baload, 1)) (hr : W l R C E h k n (pc + 1) Ls ((.int x.toInt32) :: st)) : W l R C E h k n pc Ls (.int j :: .ref a :: st) := k_baload H A hj (map_at hv) hd hr
theorem k_bastoreT {xs : List Int8} {x : Int32} (H : Cx C Z own code ml ret nm E.1) (A : BA Z h a xs) (hj : j.toInt = (i : Int)) (hi : i < xs.length) (ge : E.1 ≤ a) (hd : decode code pc = .ok (.bastore, 1))
    (hr : ∀ h', Keep h h' [a] → BA Z h' a (xs.set i x.toInt8) → W l R C E h' k n (pc + 1) Ls st) : W l R C E h k n pc Ls ((.int x) :: .int j :: .ref a :: st) := k_bastore H A hj (by simpa using hi) ge hd (fun h' K V => hr h' K (by rw [BA, List.map_set]; exact V))
theorem k_new_byte {len : Int32} (m cap : Nat) (H : Cx C Z own code ml ret nm E.1) (w : (Cond.arrayClass .byte).before a0 Z = true) (hd : decode code pc = .ok (.newarray .byte, 2)) (hm : len.toInt = (m : Int)) (hcap : m ≤ cap) (hB : cap * 8 ≤ 536870912) (hC : k + 1 ≤ R.cells) (hS : n + cap ≤ R.slots)
    (hr : ∀ h' a, a = h.size → E.1 ≤ a → Ext h h' → Exa Z h' a "[B" → BA Z h' a (List.replicate m 0) → W l R C E h' (k + 1) (n + cap) (pc + 2) Ls (.ref a :: st)) : W l R C E h k n pc Ls (.int len :: st) := k_newarray m cap H w rfl hd hm hcap hB hC hS (fun h' a e g X XA V => hr h' a e g X XA (by rw [BA, List.map_replicate]; exact V))
theorem k_caloadT {xs : List UInt16} {x : UInt16} (H : Cx C Z own code ml ret nm E.1) (A : CA Z h a xs) (hj : j.toInt = (i : Int)) (hv : xs[i]? = some x) (hd : decode code pc = .ok (.caload, 1)) (hr : W l R C E h k n (pc + 1) Ls ((.int x.toUInt32.toInt32) :: st)) : W l R C E h k n pc Ls (.int j :: .ref a :: st) := k_caload H A hj (map_at hv) hd hr
theorem k_castoreT {xs : List UInt16} {x : Int32} (H : Cx C Z own code ml ret nm E.1) (A : CA Z h a xs) (hj : j.toInt = (i : Int)) (hi : i < xs.length) (ge : E.1 ≤ a) (hd : decode code pc = .ok (.castore, 1))
    (hr : ∀ h', Keep h h' [a] → CA Z h' a (xs.set i x.toUInt32.toUInt16) → W l R C E h' k n (pc + 1) Ls st) : W l R C E h k n pc Ls ((.int x) :: .int j :: .ref a :: st) := k_castore H A hj (by simpa using hi) ge hd (fun h' K V => hr h' K (by rw [CA, List.map_set]; exact V))
theorem k_new_char {len : Int32} (m cap : Nat) (H : Cx C Z own code ml ret nm E.1) (w : (Cond.arrayClass .char).before a0 Z = true) (hd : decode code pc = .ok (.newarray .char, 2)) (hm : len.toInt = (m : Int)) (hcap : m ≤ cap) (hB : cap * 8 ≤ 536870912) (hC : k + 1 ≤ R.cells) (hS : n + cap ≤ R.slots)
    (hr : ∀ h' a, a = h.size → E.1 ≤ a → Ext h h' → Exa Z h' a "[C" → CA Z h' a (List.replicate m 0) → W l R C E h' (k + 1) (n + cap) (pc + 2) Ls (.ref a :: st)) : W l R C E h k n pc Ls (.int len :: st) := k_newarray m cap H w rfl hd hm hcap hB hC hS (fun h' a e g X XA V => hr h' a e g X XA (by rw [CA, List.map_replicate]; exact V))
theorem fits_of {ty : FieldType} {vs : List Value} {c : Cell} (A : Arr Z h a c ty) (e : c.slots = vs.toArray) (hf : ∀ v ∈ vs, fits ty v = true) : FitC Z c := fitC_of A fun i hi v hv => hf v (by rw [e] at hv; simp at hv; exact List.mem_of_getElem? hv)
theorem k_clone {idx w cap : Nat} {ty : FieldType} {ad : String} {vs : List Value} (H : Cx C Z own code ml ret nm E.1)
    (w1 : (Cond.methodLink own idx ⟨ad, "clone", "()Ljava/lang/Object;"⟩).before a0 Z = true) (w2 : (Cond.sameMethod ad "java/lang/Object" "clone" "()Ljava/lang/Object;").before a0 Z = true) (w3 : (Cond.native ⟨"java/lang/Object", "clone", "()Ljava/lang/Object;"⟩).before a0 Z = true)
    (w4 : (Cond.instanceMethod ⟨"java/lang/Object", "clone", "()Ljava/lang/Object;"⟩).before a0 Z = true) (w5 : (Cond.selects ad ⟨ad, "clone", "()Ljava/lang/Object;"⟩ ⟨"java/lang/Object", "clone", "()Ljava/lang/Object;"⟩).before a0 Z = true) (w6 : (Cond.castable ad "java/lang/Cloneable").before a0 Z = true)
    (V : Vec Z h a ty vs) (hf : ∀ v ∈ vs, fits ty v = true) (X0 : Exa Z h a ad) (hd : decode code pc = .ok (.invokevirtual idx, 3)) (hsz : Ls.size = ml) (hF : 1 ≤ R.frames) (hw : (st.map fun v => v.category).sum = w) (hL : w + 14 ≤ R.locals) (hcap : vs.length ≤ cap) (hC : k + 1 ≤ R.cells) (hS : n + cap ≤ R.slots)
    (hr : ∀ h' b, b = h.size → E.1 ≤ b → Ext h h' → Exa Z h' b ad → Vec Z h' b ty vs → W l R C E h' (k + 1) (n + cap) (pc + 3) Ls (.ref b :: st)) : W l R C E h k n pc Ls (.ref a :: st) := fun T L X N eT => by
  obtain ⟨c, A, e, hl⟩ := V
  obtain ⟨T', h', X', e', Ex, A', XA, q⟩ := cloneA X H.1 H.2.2.2.2.1 H.2.2.2.1 w1 w2 w3 w4 w5 w6 eT A X0 (fits_of A e hf) (g := mkF C.2.2.2.1 pc Ls (.ref a :: st)) rfl (by show Ls.size = _; rw [H.2.2.1]; exact hsz) rfl (hb H.2.1 hd) hF (W := w) (cap := cap) (by show 2 * 0 + _ ≤ _; rw [hw]; omega) hL (by rw [e]; simpa using hcap) hC hS
  exact .step q (hr h' h.size rfl (by rw [← eT]; exact size_ge H X) Ex XA ⟨_, A', e, hl⟩ T' _ X' N e')
theorem k_castY {idx : Nat} {K ad : String} (H : Cx C Z own code ml ret nm E.1) (w : (Cond.classLink own idx K).before a0 Z = true) (wc : (Cond.castable ad K).before a0 Z = true) (X0 : Exa Z h a ad) (hd : decode code pc = .ok (.checkcast idx, 3)) (hr : W l R C E h k n (pc + 3) Ls (.ref a :: st)) : W l R C E h k n pc Ls (.ref a :: st) :=
  .viaT (fun T L X eT => castY X H.1 H.2.2.2.2.1 H.2.2.2.1 w eT (Ins.of_exa X0 wc) (g := mkF C.2.2.2.1 pc Ls (.ref a :: st)) rfl rfl (hb H.2.1 hd)) hr
end Typed
/-! calls -/
section Calls
variable {y : MethodName} {bytes : ByteArray} {maxL : Nat} {rt : Option FieldType} {rm : Room} {Q : Option Value → Heap → Prop} {S : List Value}
theorem Goes.trans {T T' : State} {g g' : JFrame} (q : Sp C (T.setTop g) (T'.setTop g')) (r : Goes C E (T'.setTop g')) : Goes C E (T.setTop g) := by
  obtain ⟨t, o, h1, h2⟩ := r; exact ⟨t, o, q.trans h1, h2⟩
theorem payOf {s : State} {p : Program} {e : Env} {below : List Frame} {args : Array Value} {w n0 : Nat} {as' : Array Value} (hc : Ctr l Z y bytes maxL rt rm n0 as' h Q) (hZ : Z.Warmed39 s.vm) (w4 : (Cond.code y bytes maxL rt).before a0 Z = true) (w3 : (Cond.initialized y.cls).before a0 Z = true) (hF : rm.frames + 1 ≤ R.frames) (hL : w + (maxL + 11) + rm.locals ≤ R.locals) :
    Back l R p e below s args y 3 w (fun A a => a = as' ∧ A.U.heap = h ∧ A.cells + rm.cells ≤ R.cells ∧ A.slots + rm.slots ≤ R.slots)
      (fun A _ v B => ∃ L, (Q v B.U.heap ∧ Fr n0 L) ∧ B.locs = A.locs ++ L ∧ B.cells = A.cells + rm.cells ∧ B.slots = A.slots + rm.slots) :=
  backOf (Q := fun v h L => Q v h ∧ Fr n0 L) hc hZ w4 w3 hF hL
theorem k_invS {idx : Nat} (argsL : List Value) (w : Nat) (H : Cx C Z own code ml ret nm E.1) (w1 : (Cond.methodLink own idx y).before a0 Z = true) (w2 : (Cond.static y).before a0 Z = true) (w3 : (Cond.initialized y.cls).before a0 Z = true) (w4 : (Cond.code y bytes maxL rt).before a0 Z = true)
    (hy : y.cls ≠ "java/lang/invoke/MethodHandle" ∧ y.cls ≠ "java/lang/invoke/VarHandle") (hc : E.1 ≤ h.size → Ctr l Z y bytes maxL rt rm E.1 argsL.toArray h Q) (hlen : ∀ sig, parseMethodDescriptor y.desc = some sig → argsL.length = sig.parameters.length)
    (hd : decode code pc = .ok (.invokestatic idx, 3)) (hS : S = argsL.reverse ++ st) (hsz : Ls.size = ml) (hw : (st.map fun v => v.category).sum = w) (hF : rm.frames + 1 ≤ R.frames) (hL : w + (maxL + 11) + rm.locals ≤ R.locals) (hk : k + rm.cells ≤ R.cells) (hn : n + rm.slots ≤ R.slots)
    (hr : ∀ v h', Q v h' → W l R C E h' (k + rm.cells) (n + rm.slots) (pc + 3) Ls (v.toList ++ st)) : W l R C E h k n pc Ls S := fun T L X N eT => by
  obtain ⟨v, _, ⟨T', L', k', n'⟩, -, X', ⟨Lc, ⟨hQ, hN⟩, l', y', z'⟩, q⟩ := Jvm.LawKit.callS X H.1 (y := y) H.2.2.2.1 (mvT H.2.2.2.2.1 w1) (mvT H.2.2.2.2.1 w2) (mvT H.2.2.2.2.1 w3) (mvT H.2.2.2.2.1 w4) hy (payOf (w := w) (hc (by rw [← eT]; exact size_ge H X)) H.2.2.2.2.1 w4 w3 hF hL)
    (g := mkF C.2.2.2.1 pc Ls S) rfl (by show Ls.size = _; rw [H.2.2.1]; exact hsz) (argsL := argsL) (rest := st) hlen hS (by show 2 * 0 + _ ≤ _; rw [hw]; omega) (hb H.2.1 hd) (fun _ _ => ⟨rfl, eT, hk, hn⟩)
  dsimp only [Pt.U, Pt.locs, Pt.cells, Pt.slots] at X' l' y' z' q hQ
  subst l' y' z'
  exact .step q (hr v _ hQ T' _ X' (N.app hN) rfl)
theorem k_invI {idx : Nat} {a : Addr} (argsL : List Value) (w : Nat) (H : Cx C Z own code ml ret nm E.1) (hy1 : y.name = "<init>") (w1 : (Cond.methodLink own idx y).before a0 Z = true) (w2 : (Cond.instanceMethod y).before a0 Z = true) (w3 : (Cond.initialized y.cls).before a0 Z = true) (w4 : (Cond.code y bytes maxL none).before a0 Z = true)
    (hy : y.cls ≠ "java/lang/invoke/MethodHandle" ∧ y.cls ≠ "java/lang/invoke/VarHandle") (hc : E.1 ≤ h.size → Ctr l Z y bytes maxL none rm E.1 (.ref a :: argsL).toArray h Q) (hlen : ∀ sig, parseMethodDescriptor y.desc = some sig → argsL.length = sig.parameters.length)
    (hd : decode code pc = .ok (.invokespecial idx, 3)) (hS : S = argsL.reverse ++ .ref a :: st) (hsz : Ls.size = ml) (hw : (st.map fun v => v.category).sum = w) (hF : rm.frames + 1 ≤ R.frames) (hL : w + (maxL + 11) + rm.locals ≤ R.locals) (hk : k + rm.cells ≤ R.cells) (hn : n + rm.slots ≤ R.slots)
    (hr : ∀ v h', Q v h' → W l R C E h' (k + rm.cells) (n + rm.slots) (pc + 3) Ls (v.toList ++ st)) : W l R C E h k n pc Ls S := fun T L X N eT => by
  obtain ⟨v, _, ⟨T', L', k', n'⟩, -, X', ⟨Lc, ⟨hQ, hN⟩, l', y', z'⟩, q⟩ := X.specialBack H.1 (y := y) hy1 H.2.2.2.1 (mvT H.2.2.2.2.1 w1) (mvT H.2.2.2.2.1 w2) (mvT H.2.2.2.2.1 w4) hy (payOf (w := w) (hc (by rw [← eT]; exact size_ge H X)) H.2.2.2.2.1 w4 w3 hF hL)
    (g := mkF C.2.2.2.1 pc Ls S) rfl (by show Ls.size = _; rw [H.2.2.1]; exact hsz) (Steps.refl _) (a := a) (argsL := argsL) (rest := st) hlen hS (by show 2 * 0 + _ ≤ _; rw [hw]; omega) (hb H.2.1 hd) (fun _ _ => ⟨rfl, eT, hk, hn⟩)
  dsimp only [Pt.U, Pt.locs, Pt.cells, Pt.slots] at X' l' y' z' q hQ
  subst l' y' z'
  exact .trans q (hr v _ hQ T' _ X' (N.app hN) rfl)
theorem k_invV {idx : Nat} {a : Addr} {cls : String} (argsL : List Value) (w : Nat) (H : Cx C Z own code ml ret nm E.1) (w1 : (Cond.methodLink own idx y).before a0 Z = true) (w2 : (Cond.declares y).before a0 Z = true) (w5 : (Cond.selects cls y y).before a0 Z = true) (w6 : (Cond.instanceMethod y).before a0 Z = true) (w3 : (Cond.initialized y.cls).before a0 Z = true) (w4 : (Cond.code y bytes maxL rt).before a0 Z = true)
    (hcl : y.cls = cls) (hy : y.cls ≠ "java/lang/invoke/MethodHandle" ∧ y.cls ≠ "java/lang/invoke/VarHandle") (X0 : Exa Z h a cls) (hc : E.1 ≤ h.size → Ctr l Z y bytes maxL rt rm E.1 (.ref a :: argsL).toArray h Q) (hlen : ∀ sig, parseMethodDescriptor y.desc = some sig → argsL.length = sig.parameters.length)
    (hd : decode code pc = .ok (.invokevirtual idx, 3)) (hS : S = argsL.reverse ++ .ref a :: st) (hsz : Ls.size = ml) (hw : (st.map fun v => v.category).sum = w) (hF : rm.frames + 1 ≤ R.frames) (hL : w + (maxL + 11) + rm.locals ≤ R.locals) (hk : k + rm.cells ≤ R.cells) (hn : n + rm.slots ≤ R.slots)
    (hr : ∀ v h', Q v h' → W l R C E h' (k + rm.cells) (n + rm.slots) (pc + 3) Ls (v.toList ++ st)) : W l R C E h k n pc Ls S := fun T L X N eT => by
  subst hcl
  obtain ⟨cq, kq, qa, qb, qc⟩ := isOf H.2.2.2.2.1 eT X0
  obtain ⟨v, _, ⟨T', L', k', n'⟩, -, X', ⟨Lc, ⟨hQ, hN⟩, l', y', z'⟩, q⟩ := X.virtualBack H.1 (y := y) (z := y) H.2.2.2.1 (mvT H.2.2.2.2.1 w1) (mvT H.2.2.2.2.1 w2) (notFace_of_selects (args := #[]) (mvT H.2.2.2.2.1 w5)) (mvT H.2.2.2.2.1 w5) (mvT H.2.2.2.2.1 w6) hy (payOf (w := w) (hc (by rw [← eT]; exact size_ge H X)) H.2.2.2.2.1 w4 w3 hF hL) qa qc
    (g := mkF C.2.2.2.1 pc Ls S) rfl (by show Ls.size = _; rw [H.2.2.1]; exact hsz) (Steps.refl _) (argsL := argsL) (rest := st) hlen hS (by show 2 * 0 + _ ≤ _; rw [hw]; omega) (hb H.2.1 hd) (fun _ _ => ⟨rfl, eT, hk, hn⟩)
  dsimp only [Pt.U, Pt.locs, Pt.cells, Pt.slots] at X' l' y' z' q hQ
  subst l' y' z'
  exact .trans q (hr v _ hQ T' _ X' (N.app hN) rfl)
theorem Ctr.of {n0 : Nat} {as' : Array Value} (Ls : Array Slot) (hp : plainFor y = true) (hn0 : n0 ≤ h.size) (hef : ∀ m, entryFrame m as' maxL = mkF m 0 Ls []) (hW : ∀ C : Cxt, Cx C Z y.cls bytes maxL rt y.name n0 → W l rm C (n0, rm.cells, rm.slots, Q) h 0 0 0 Ls []) : Ctr l Z y bytes maxL rt rm n0 as' h Q := by
  refine MetFree.of_bodySF hp hisR ?_
  intro p e s m args below meth c s₁ Bd hml0 hP hK
  obtain ⟨rfl, hZ, hh⟩ := hP
  have hnm := (name_of_methodNamed Bd.named Bd.method).1
  have X0 : Stand p l e rm s m args below meth c s₁ [] 0 0 := Stand.of_body Bd
  have e0 : s₁.heap = h := by rw [← hh, Bd.state]; rfl
  obtain ⟨t, o, h1, h2, h3, v, L, h4, h5, h6⟩ := hW (p, e, s, m, args, below, meth, c) ⟨Bd.exec, Bd.bytes, hml0, findClass_of_methodNamed Bd.named, hZ, Bd.returns, Bd.notSynchronized, hnm, by rw [hh]; exact hn0⟩ s₁ [] X0 (Fr.nil n0) e0
  exact ⟨t, o, castTop (hef m) h1, h2, h3, v, L, h4, h5, h6⟩
/-- the judged body itself -/
theorem met_of {n0 K N : Nat} {ws : List Jvm.Cond} {as' : Array Value} (Ls : Array Slot) (hp : plainFor y = true) (hn0 : n0 ≤ h.size) (hef : ∀ m, entryFrame m as' maxL = mkF m 0 Ls []) (hW : ∀ C : Cxt, Cx C Z y.cls bytes maxL rt y.name n0 → W l rm C (n0, K, N, Q) h 0 0 0 Ls []) :
    MetFree l y (head1 (Cond.code y bytes maxL rt :: ws) rm) (fun a U => a = as' ∧ Z.Warmed39 U.vm ∧ U.heap = h) (fun _ _ _ _ _ => True) (fun _ U o U' => ∃ v L, o = .returned v ∧ (Q v U'.heap ∧ Fr n0 L) ∧ FrameEnd U o U' L K N) := by
  refine MetFree.of_bodySF hp hisR ?_
  intro p e s m args below meth c s₁ Bd hml0 hP hK
  obtain ⟨rfl, hZ, hh⟩ := hP
  have hnm := (name_of_methodNamed Bd.named Bd.method).1
  have X0 : Stand p l e rm s m args below meth c s₁ [] 0 0 := Stand.of_body Bd
  have e0 : s₁.heap = h := by rw [← hh, Bd.state]; rfl
  obtain ⟨t, o, h1, h2, h3, v, L, h4, h5, h6⟩ := hW (p, e, s, m, args, below, meth, c) ⟨Bd.exec, Bd.bytes, hml0, findClass_of_methodNamed Bd.named, hZ, Bd.returns, Bd.notSynchronized, hnm, by rw [hh]; exact hn0⟩ s₁ [] X0 (Fr.nil n0) e0
  exact ⟨t, o, castTop (hef m) h1, h2, h3, v, L, h4, h5, h6⟩
end Calls
/-! ends -/
theorem k_retInt {x : Int32} (H : Cx C Z own code ml (some .int) nm E.1) (hd : decode code pc = .ok (.ireturn, 1)) (hk : k ≤ E.2.1) (hn : n ≤ E.2.2.1) (hq : E.2.2.2 (some (.int x)) h) : W l R C E h k n pc Ls (.int x :: st) := fun T L X N eT => by
  obtain ⟨fs, hr, hrun, hend, hW, hs⟩ := X.leave (v := some (.int x)) (fun z => by rw [H.2.2.2.2.2.1] at z; cases z) H.2.2.2.2.2.2.1
  exact ⟨_, _, retOut X H.1 H.2.2.2.2.2.1 rfl (Or.inl ⟨rfl, Or.inl rfl, _, rfl⟩) (hb H.2.1 hd) hr, hrun, hend, _, L, rfl, ⟨by subst eT; exact hq, N⟩, ⟨_, rfl⟩, hW, hs.mono hk hn⟩
theorem k_retN' {x : Int32} {t : FieldType} (ht : t = .boolean ∨ t = .byte ∨ t = .char ∨ t = .short) (H : Cx C Z own code ml (some t) nm E.1) (hd : decode code pc = .ok (.ireturn, 1)) (hk : k ≤ E.2.1) (hn : n ≤ E.2.2.1) (hq : E.2.2.2 (some (.int (nar t x))) h) : W l R C E h k n pc Ls (.int x :: st) := fun T L X N eT => by
  obtain ⟨fs, hr, hrun, hend, hW, hs⟩ := X.leave (v := some (.int (nar t x))) (fun z => by rw [H.2.2.2.2.2.1] at z; cases z) H.2.2.2.2.2.2.1
  exact ⟨_, _, retN X H.1 H.2.2.2.2.2.1 ht (hb H.2.1 hd) hr, hrun, hend, _, L, rfl, ⟨by subst eT; exact hq, N⟩, ⟨_, rfl⟩, hW, hs.mono hk hn⟩
theorem k_retLong {x : Int64} (H : Cx C Z own code ml (some .long) nm E.1) (hd : decode code pc = .ok (.lreturn, 1)) (hk : k ≤ E.2.1) (hn : n ≤ E.2.2.1) (hq : E.2.2.2 (some (.long x)) h) : W l R C E h k n pc Ls (.long x :: st) := fun T L X N eT => by
  obtain ⟨fs, hr, hrun, hend, hW, hs⟩ := X.leave (v := some (.long x)) (fun z => by rw [H.2.2.2.2.2.1] at z; cases z) H.2.2.2.2.2.2.1
  exact ⟨_, _, retOut X H.1 H.2.2.2.2.2.1 rfl (Or.inr (Or.inl ⟨rfl, rfl, _, rfl⟩)) (hb H.2.1 hd) hr, hrun, hend, _, L, rfl, ⟨by subst eT; exact hq, N⟩, ⟨_, rfl⟩, hW, hs.mono hk hn⟩
theorem k_retRef {a : Addr} {t : FieldType} (ht : t.isReference = true) (hnar : narrow t (.ref a) = .ref a) (H : Cx C Z own code ml (some t) nm E.1) (hd : decode code pc = .ok (.areturn, 1)) (hk : k ≤ E.2.1) (hn : n ≤ E.2.2.1) (hq : E.2.2.2 (some (.ref a)) h) : W l R C E h k n pc Ls (.ref a :: st) := fun T L X N eT => by
  obtain ⟨fs, hr, hrun, hend, hW, hs⟩ := X.leave (v := some (.ref a)) (fun z => by rw [H.2.2.2.2.2.1] at z; cases z) H.2.2.2.2.2.2.1
  exact ⟨_, _, retOut X H.1 H.2.2.2.2.2.1 hnar (Or.inr (Or.inr (Or.inr (Or.inr ⟨rfl, ht, rfl⟩)))) (hb H.2.1 hd) hr, hrun, hend, _, L, rfl, ⟨by subst eT; exact hq, N⟩, ⟨_, rfl⟩, hW, hs.mono hk hn⟩
theorem k_retVoid (H : Cx C Z own code ml none nm E.1) (hd : decode code pc = .ok (.return_, 1)) (hk : k ≤ E.2.1) (hn : n ≤ E.2.2.1) (hq : E.2.2.2 none h) : W l R C E h k n pc Ls [] := fun T L X N eT => by
  obtain ⟨fs, hr, hrun, hend, hW, hs⟩ := X.leave (v := none) (fun _ => rfl) H.2.2.2.2.2.2.1
  exact ⟨_, _, X.returnOut H.1 H.2.2.2.2.2.1 (hb H.2.1 hd) hr, hrun, hend, _, L, rfl, ⟨by subst eT; exact hq, N⟩, ⟨_, rfl⟩, hW, hs.mono hk hn⟩
end Own
end Jvm.OwnKit
namespace Jvm.OwnKit
/-! small naturals as ints -/
theorem lt_nat {x y : Int32} {i j : Nat} (hx : x.toInt = (i : Int)) (hy : y.toInt = (j : Int)) : x < y ↔ i < j := by rw [Int32.lt_iff_toInt_lt, hx, hy]; omega
theorem eq_nat {x y : Int32} {i j : Nat} (hx : x.toInt = (i : Int)) (hy : y.toInt = (j : Int)) : x = y ↔ i = j := by rw [← Int32.toInt_inj, hx, hy]; omega
theorem add_nat {x y : Int32} {i j : Nat} (hx : x.toInt = (i : Int)) (hy : y.toInt = (j : Int)) (hb : i + j < 2147483648) : (x + y).toInt = ((i + j : Nat) : Int) := by rw [Jvm.Kit.i32_add] <;> rw [hx, hy] <;> omega
theorem sub_nat {x y : Int32} {i j : Nat} (hx : x.toInt = (i : Int)) (hy : y.toInt = (j : Int)) (hb : j ≤ i) : (x - y).toInt = ((i - j : Nat) : Int) := by have := x.toInt_lt; rw [Jvm.Kit.i32_sub] <;> rw [hx, hy] <;> omega
theorem mul_nat {x y : Int32} {i j : Nat} (hx : x.toInt = (i : Int)) (hy : y.toInt = (j : Int)) (hb : i * j < 2147483648) : (x * y).toInt = ((i * j : Nat) : Int) := by
  have e : (i : Int) * (j : Int) = ((i * j : Nat) : Int) := by simp
  rw [Jvm.Kit.i32_mul] <;> rw [hx, hy, e] <;> omega
theorem rem_nat {x y : Int32} {i j : Nat} (hx : x.toInt = (i : Int)) (hy : y.toInt = (j : Int)) : (x % y).toInt = ((i % j : Nat) : Int) := by rw [Jvm.Kit.i32_rem_nonneg (by omega), hx, hy]; simp
theorem nat_of_nonneg {x : Int32} (h : 0 ≤ x.toInt) : ∃ i : Nat, x.toInt = (i : Int) ∧ i < 2147483648 := ⟨x.toInt.toNat, by omega, by have := x.toInt_lt; omega⟩
/-- a mask of k ones: a natural below 2 ^ k -/
theorem mask_nat (x m : Int32) (k : Nat) (hk : k < 32) (hm : m.toBitVec.toNat = 2 ^ k - 1) : ∃ i : Nat, (x &&& m).toInt = (i : Int) ∧ i < 2 ^ k := by
  have e := Jvm.Kit.i32_mask x m hk hm
  have p : (0 : Int) < 2 ^ k := Int.pow_pos (by omega)
  have h1 := Int.emod_nonneg x.toInt (Int.ne_of_gt p)
  have h2 := Int.emod_lt_of_pos x.toInt p
  refine ⟨(x.toInt % 2 ^ k).toNat, by rw [e]; omega, ?_⟩
  have h3 : ((2 ^ k : Nat) : Int) = 2 ^ k := by simp
  omega
theorem mod_nat (x m y : Int32) (k j : Nat) (hk : k < 32) (hm : m.toBitVec.toNat = 2 ^ k - 1) (hy : y.toInt = (j : Int)) (hj : 0 < j) : ∃ i : Nat, ((x &&& m) % y).toInt = (i : Int) ∧ i < j := by
  obtain ⟨i, h1, h2⟩ := mask_nat x m k hk hm
  exact ⟨i % j, rem_nat h1 hy, Nat.mod_lt _ hj⟩
theorem div_nat {x y : Int32} {i j : Nat} (hx : x.toInt = (i : Int)) (hy : y.toInt = (j : Int)) : (x / y).toInt = ((i / j : Nat) : Int) := by
  rw [Jvm.Kit.i32_div (by omega), hx, hy]; rfl
theorem ushr_nat {x y : Int32} {i : Nat} (k : Nat) (hx : x.toInt = (i : Int)) (hy : (y &&& 31).toUInt32.toNat = k) (hk : k < 32) : (Jvm.Free.XT.ushr x y).toInt = ((i / 2 ^ k : Nat) : Int) := by
  unfold Jvm.Free.XT.ushr
  rw [Jvm.Kit.i32_iushr (by rw [Int32.le_iff_toInt_le, hx]; exact Int.natCast_nonneg _) hy hk, hx]; simp
theorem c16 (c : UInt16) : c.toUInt32.toInt32.toUInt32.toUInt16 = c := by simp
theorem b8 (b : Int8) : b.toInt32.toInt8 = b := by simp
/-- a local's slot of one word -/
def OneW (s : Slot) : Prop := s = .unset ∨ ∃ w, s = .val w ∧ w.category = 1
theorem OneW.unset : OneW .unset := Or.inl rfl
theorem OneW.int (x : Int32) : OneW (.val (.int x)) := Or.inr ⟨_, rfl, rfl⟩
theorem OneW.ref (x : Addr) : OneW (.val (.ref x)) := Or.inr ⟨_, rfl, rfl⟩
end Jvm.OwnKit
namespace Jvm.OwnKit
/-! a long that is a natural: its shifts and its low bytes -/
theorem long_nat {v : Int64} {V : Nat} (h : v.toInt = (V : Int)) : v.toBitVec.toNat = V ∧ V < 2 ^ 63 := by
  have h1 := v.toInt_lt
  have h2 : v.toBitVec.toInt = (V : Int) := h
  rw [BitVec.toInt_eq_toNat_cond] at h2
  have h3 : v.toBitVec.toNat < 2 ^ 64 := v.toBitVec.isLt
  split at h2 <;> omega
theorem shift_nat {y : Int32} {j : Nat} (hy : y.toInt = (j : Int)) (hj : j < 64) : (y.toInt64.toUInt64 &&& Int64.toUInt64 63).toNat = j := by
  have h1 : y.toInt64.toInt = (j : Int) := by rw [Int32.toInt_toInt64]; exact hy
  have h2 := (long_nat h1).1
  have h3 : y.toInt64.toUInt64.toNat = j := h2
  have h4 : (Int64.toUInt64 63).toNat = 2 ^ 6 - 1 := by decide
  rw [UInt64.toNat_and, h3, h4, Nat.and_two_pow_sub_one_eq_mod]
  exact Nat.mod_eq_of_lt hj
theorem ushrL_nat {x : Int64} {y : Int32} {i j : Nat} (hx : x.toInt = (i : Int)) (hy : y.toInt = (j : Int)) (hj : j < 64) : (Jvm.Free.XT.ushrL x y).toInt = ((i / 2 ^ j : Nat) : Int) := by
  unfold Jvm.Free.XT.ushrL
  rw [Jvm.Kit.i64_lushr (by rw [Int64.le_iff_toInt_le, hx]; exact Int.natCast_nonneg _) (shift_nat hy hj) hj, hx]; simp
def byHi (m : Nat) : Int8 := Int8.ofNat (m % 128 + 128)
def byLo (m : Nat) : Int8 := Int8.ofNat (m % 128)
theorem or128 (m : Nat) : (m ||| 128) % 256 = m % 128 + 128 := by
  have h : ∀ k < 256, (k ||| 128) % 256 = k % 128 + 128 := by decide +kernel
  have e : (m ||| 128) % 2 ^ 8 = ((m % 2 ^ 8) ||| (128 % 2 ^ 8)) := Nat.or_mod_two_pow
  have e2 := h (m % 256) (Nat.mod_lt _ (by decide))
  have e3 : (128 % 2 ^ 8) = 128 := by decide
  rw [e3] at e
  have e4 : ((m % 256) ||| 128) % 256 = ((m % 256) ||| 128) := by rw [← e]; exact Nat.mod_mod _ _
  rw [e4] at e2
  show (m ||| 128) % 2 ^ 8 = _
  rw [e, e2]; omega
theorem byHi_l {v : Int64} {V : Nat} (h : v.toInt = (V : Int)) : (v ||| 128).toInt32.toInt8 = byHi V := by
  have hv := (long_nat h).1
  apply Int8.toBitVec_inj.mp
  apply BitVec.eq_of_toNat_eq
  have e128 : (128 : Int64).toBitVec.toNat = 128 := by decide
  simp only [byHi, Int64.toInt8_toInt32, Int64.toBitVec_toInt8, BitVec.signExtend_eq_setWidth_of_le _ (show 8 ≤ 64 by decide), Int64.toBitVec_or, BitVec.toNat_setWidth, BitVec.toNat_or, hv, e128, Int8.toBitVec_ofNat', BitVec.toNat_ofNat]
  have := or128 V
  omega
theorem byLo_l {v : Int64} {V : Nat} (h : v.toInt = (V : Int)) (hV : V < 128) : v.toInt32.toInt8 = byLo V := by
  have hv := (long_nat h).1
  apply Int8.toBitVec_inj.mp
  apply BitVec.eq_of_toNat_eq
  simp only [byLo, Int64.toInt8_toInt32, Int64.toBitVec_toInt8, BitVec.signExtend_eq_setWidth_of_le _ (show 8 ≤ 64 by decide), BitVec.toNat_setWidth, hv, Int8.toBitVec_ofNat', BitVec.toNat_ofNat]
  omega
theorem mask127 {u : Int64} {V : Nat} (h : u.toInt = (V : Int)) : (u &&& 127).toInt32.toInt = ((V % 128 : Nat) : Int) := by
  have e := Jvm.Kit.i64_mask u 127 (k := 7) (by decide) (by decide)
  rw [h] at e
  have e2 : (u &&& 127).toInt = ((V % 128 : Nat) : Int) := by rw [e]; simp
  have h128 : V % 128 < 128 := Nat.mod_lt _ (by decide)
  rw [Jvm.Kit.i32_of_i64 (by rw [e2]; omega) (by rw [e2]; omega), e2]
theorem int_nat {v : Int32} {V : Nat} (h : v.toInt = (V : Int)) : v.toBitVec.toNat = V := by
  have h1 := v.toInt_lt
  have h2 : v.toBitVec.toInt = (V : Int) := h
  rw [BitVec.toInt_eq_toNat_cond] at h2
  have h3 : v.toBitVec.toNat < 2 ^ 32 := v.toBitVec.isLt
  split at h2 <;> omega
theorem byHi_i {u : Int64} {V : Nat} (h : u.toInt = (V : Int)) : ((u &&& 127).toInt32 ||| 128).toInt8 = byHi V := by
  have hv := int_nat (mask127 h)
  apply Int8.toBitVec_inj.mp
  apply BitVec.eq_of_toNat_eq
  have e128 : (128 : Int32).toBitVec.toNat = 128 := by decide
  simp only [byHi, Int32.toBitVec_toInt8, BitVec.signExtend_eq_setWidth_of_le _ (show 8 ≤ 32 by decide), Int32.toBitVec_or, BitVec.toNat_setWidth, BitVec.toNat_or, hv, e128, Int8.toBitVec_ofNat', BitVec.toNat_ofNat]
  have := or128 (V % 128)
  omega
theorem byLo_i {u : Int64} {V : Nat} (h : u.toInt = (V : Int)) : (u &&& 127).toInt32.toInt8 = byLo V := by
  have hv := int_nat (mask127 h)
  apply Int8.toBitVec_inj.mp
  apply BitVec.eq_of_toNat_eq
  simp only [byLo, Int32.toBitVec_toInt8, BitVec.signExtend_eq_setWidth_of_le _ (show 8 ≤ 32 by decide), BitVec.toNat_setWidth, hv, Int8.toBitVec_ofNat', BitVec.toNat_ofNat]
theorem high_zero {v : Int64} {V : Nat} (h : v.toInt = (V : Int)) : (v &&& -128 = 0) ↔ V < 128 := by
  obtain ⟨hv, hb⟩ := long_nat h
  have e : (v &&& -128).toBitVec.toNat = V / 128 * 128 := by
    have e1 : (-128 : Int64).toBitVec = BitVec.ofNat 64 (2 ^ 64 - 128) := by decide
    have e2 : (v &&& -128).toBitVec = v.toBitVec >>> 7 <<< 7 := by
      rw [Int64.toBitVec_and, e1]
      ext i hi
      have hc : ∀ i < 64, (BitVec.ofNat 64 (2 ^ 64 - 128))[i]! = decide (7 ≤ i) := by decide
      have hci := hc i hi
      rw [getElem!_pos _ i hi] at hci
      rw [BitVec.getElem_and, hci]
      by_cases q : 7 ≤ i
      · simp [q, BitVec.getElem_shiftLeft, show ¬ i < 7 by omega, show 7 + (i - 7) = i by omega, BitVec.getLsbD_eq_getElem hi]
      · simp [q, BitVec.getElem_shiftLeft, show i < 7 by omega]
    rw [e2, BitVec.toNat_shiftLeft, BitVec.toNat_ushiftRight, hv, Nat.shiftRight_eq_div_pow, Nat.shiftLeft_eq]
    omega
  constructor
  · intro q
    rw [q] at e
    have : (0 : Int64).toBitVec.toNat = 0 := by decide
    omega
  · intro q
    apply Int64.toBitVec_inj.mp
    apply BitVec.eq_of_toNat_eq
    rw [e]
    have : (0 : Int64).toBitVec.toNat = 0 := by decide
    omega
end Jvm.OwnKit
namespace Jvm.Pilot.@@N@@
open Jvm Jvm.ClassFile Sem Op Lib Jvm.Free Jvm.Stand Jvm.LawKit Jvm.RoadKit Jvm.OwnKit Bundle Jvm.Pilot.@@N@@.Jvm.D
theorem pn_0 : plainName "mandate/PackerPutPinLaw" = true := by first | (simp [plainName, overriddenIn]; done) | decide +kernel
theorem pn_1 : plainName "mandate/Packer" = true := by first | (simp [plainName, overriddenIn]; done) | decide +kernel
theorem pd_0 : parseMethodDescriptor "(J)I" = some ⟨[.long], some .int⟩ := by decide +kernel
theorem pd_1 : parseMethodDescriptor "([BIJ)I" = some ⟨[(.array .byte), .int, .long], some .int⟩ := by decide +kernel
theorem pd_2 : parseMethodDescriptor "([BIIIJB)Z" = some ⟨[(.array .byte), .int, .int, .int, .long, .byte], some .boolean⟩ := by decide +kernel
theorem own_uniq_lt {V i j : Nat} (h1 : V / 128 ^ i < 128) (h2 : j = 0 ∨ 1 ≤ V / 128 ^ j) (q : i < j) : False := by
  have e : V / 128 ^ j = V / 128 ^ i / 128 ^ (j - i) := by rw [Nat.div_div_eq_div_mul, ← Nat.pow_add]; congr 2; omega
  have e2 : 128 ^ 1 ≤ 128 ^ (j - i) := Nat.pow_le_pow_right (by decide) (by omega)
  rw [Nat.div_eq_of_lt (show V / 128 ^ i < 128 ^ (j - i) by omega)] at e
  omega
theorem own_uniq {V i j : Nat} (h1 : V / 128 ^ i < 128) (h1' : i = 0 ∨ 1 ≤ V / 128 ^ i) (h2 : V / 128 ^ j < 128) (h2' : j = 0 ∨ 1 ≤ V / 128 ^ j) : i = j := by
  by_cases a : i < j
  · exact (own_uniq_lt h1 h2' a).elim
  · by_cases b : j < i
    · exact (own_uniq_lt h2 h1' b).elim
    · omega
theorem own_next (m i : Nat) : m / 128 ^ i / 2 ^ 7 = m / 128 ^ (i + 1) := by rw [Nat.div_div_eq_div_mul, Nat.pow_succ (n := 128)]
theorem own_step {xs ys : List Int8} {t i m : Nat} {b : Int8} (h4 : ∀ k, ys[k]? = if k < t ∨ t + i ≤ k then xs[k]? else some (byHi (m / 128 ^ (k - t)))) (hl : t + i < ys.length) (hb : b = byHi (m / 128 ^ i)) (k : Nat) :
    (ys.set (t + i) b)[k]? = if k < t ∨ t + (i + 1) ≤ k then xs[k]? else some (byHi (m / 128 ^ (k - t))) := by
  by_cases e : k = t + i
  · subst e
    rw [List.getElem?_set_self hl, if_neg (by omega), hb, show t + i - t = i by omega]
  · rw [List.getElem?_set_ne (Ne.symm e), h4]
    by_cases c : k < t ∨ t + i ≤ k
    · rw [if_pos c, if_pos (by omega)]
    · rw [if_neg c, if_neg (by omega)]
theorem own_last {xs ys : List Int8} {t i m : Nat} {b : Int8} (h4 : ∀ k, ys[k]? = if k < t ∨ t + i ≤ k then xs[k]? else some (byHi (m / 128 ^ (k - t)))) (hl : t + i < ys.length) (hb : b = byLo (m / 128 ^ i)) (k : Nat) :
    (ys.set (t + i) b)[k]? = if k < t ∨ t + i + 1 ≤ k then xs[k]? else some (if k < t + i then byHi (m / 128 ^ (k - t)) else byLo (m / 128 ^ (k - t))) := by
  by_cases e : k = t + i
  · subst e
    rw [List.getElem?_set_self hl, if_neg (by omega), if_neg (by omega), hb, show t + i - t = i by omega]
  · rw [List.getElem?_set_ne (Ne.symm e), h4]
    by_cases c : k < t ∨ t + i ≤ k
    · rw [if_pos c, if_pos (by omega)]
    · rw [if_neg c, if_neg (by omega), if_pos (by omega)]
theorem own_hx {ys : List Int8} {t i m : Nat} {fi : Int8} (h4 : ∀ k, ys[k]? = if k < t ∨ t + i + 1 ≤ k then (List.replicate 16 fi)[k]? else some (if k < t + i then byHi (m / 128 ^ (k - t)) else byLo (m / 128 ^ (k - t)))) (k : Nat) (hk : k < 16) :
    ys[k]? = some (if k < t ∨ t + i + 1 ≤ k then fi else if k < t + i then byHi (m / 128 ^ (k - t)) else byLo (m / 128 ^ (k - t))) := by
  rw [h4, List.getElem?_replicate, if_pos hk]
  by_cases c : k < t ∨ t + i + 1 ≤ k
  · rw [if_pos c, if_pos c]
  · rw [if_neg c, if_neg c]
theorem d1_0 : decode method_3_code 0 = .ok (.lload_n 0, 1) := by decide +kernel
theorem d1_1 : decode method_3_code 1 = .ok (.ldc2_w 27, 3) := by decide +kernel
theorem d1_4 : decode method_3_code 4 = .ok (.lcmp, 1) := by decide +kernel
theorem d1_5 : decode method_3_code 5 = .ok (.ifCond .ge 5, 3) := by decide +kernel
theorem d1_8 : decode method_3_code 8 = .ok (.iconst 1, 1) := by decide +kernel
theorem d1_9 : decode method_3_code 9 = .ok (.ireturn, 1) := by decide +kernel
theorem d1_10 : decode method_3_code 10 = .ok (.lload_n 0, 1) := by decide +kernel
theorem d1_11 : decode method_3_code 11 = .ok (.ldc2_w 29, 3) := by decide +kernel
theorem d1_14 : decode method_3_code 14 = .ok (.lcmp, 1) := by decide +kernel
theorem d1_15 : decode method_3_code 15 = .ok (.ifCond .ge 5, 3) := by decide +kernel
theorem d1_18 : decode method_3_code 18 = .ok (.iconst 2, 1) := by decide +kernel
theorem d1_19 : decode method_3_code 19 = .ok (.ireturn, 1) := by decide +kernel
theorem d1_20 : decode method_3_code 20 = .ok (.lload_n 0, 1) := by decide +kernel
theorem d1_21 : decode method_3_code 21 = .ok (.ldc2_w 31, 3) := by decide +kernel
theorem d1_24 : decode method_3_code 24 = .ok (.lcmp, 1) := by decide +kernel
theorem d1_25 : decode method_3_code 25 = .ok (.ifCond .ge 5, 3) := by decide +kernel
theorem d1_28 : decode method_3_code 28 = .ok (.iconst 3, 1) := by decide +kernel
theorem d1_29 : decode method_3_code 29 = .ok (.ireturn, 1) := by decide +kernel
theorem d1_30 : decode method_3_code 30 = .ok (.lload_n 0, 1) := by decide +kernel
theorem d1_31 : decode method_3_code 31 = .ok (.ldc2_w 33, 3) := by decide +kernel
theorem d1_34 : decode method_3_code 34 = .ok (.lcmp, 1) := by decide +kernel
theorem d1_35 : decode method_3_code 35 = .ok (.ifCond .ge 5, 3) := by decide +kernel
theorem d1_38 : decode method_3_code 38 = .ok (.iconst 4, 1) := by decide +kernel
theorem d1_39 : decode method_3_code 39 = .ok (.ireturn, 1) := by decide +kernel
theorem d1_40 : decode method_3_code 40 = .ok (.lload_n 0, 1) := by decide +kernel
theorem d1_41 : decode method_3_code 41 = .ok (.ldc2_w 35, 3) := by decide +kernel
theorem d1_44 : decode method_3_code 44 = .ok (.lcmp, 1) := by decide +kernel
theorem d1_45 : decode method_3_code 45 = .ok (.ifCond .ge 5, 3) := by decide +kernel
theorem d1_48 : decode method_3_code 48 = .ok (.iconst 5, 1) := by decide +kernel
theorem d1_49 : decode method_3_code 49 = .ok (.ireturn, 1) := by decide +kernel
theorem d1_50 : decode method_3_code 50 = .ok (.lload_n 0, 1) := by decide +kernel
theorem d1_51 : decode method_3_code 51 = .ok (.ldc2_w 37, 3) := by decide +kernel
theorem d1_54 : decode method_3_code 54 = .ok (.lcmp, 1) := by decide +kernel
theorem d1_55 : decode method_3_code 55 = .ok (.ifCond .ge 6, 3) := by decide +kernel
theorem d1_58 : decode method_3_code 58 = .ok (.bipush 6, 2) := by decide +kernel
theorem d1_60 : decode method_3_code 60 = .ok (.ireturn, 1) := by decide +kernel
theorem d1_61 : decode method_3_code 61 = .ok (.lload_n 0, 1) := by decide +kernel
theorem d1_62 : decode method_3_code 62 = .ok (.ldc2_w 39, 3) := by decide +kernel
theorem d1_65 : decode method_3_code 65 = .ok (.lcmp, 1) := by decide +kernel
theorem d1_66 : decode method_3_code 66 = .ok (.ifCond .ge 6, 3) := by decide +kernel
theorem d1_69 : decode method_3_code 69 = .ok (.bipush 7, 2) := by decide +kernel
theorem d1_71 : decode method_3_code 71 = .ok (.ireturn, 1) := by decide +kernel
theorem d1_72 : decode method_3_code 72 = .ok (.lload_n 0, 1) := by decide +kernel
theorem d1_73 : decode method_3_code 73 = .ok (.ldc2_w 41, 3) := by decide +kernel
theorem d1_76 : decode method_3_code 76 = .ok (.lcmp, 1) := by decide +kernel
theorem d1_77 : decode method_3_code 77 = .ok (.ifCond .ge 6, 3) := by decide +kernel
theorem d1_80 : decode method_3_code 80 = .ok (.bipush 8, 2) := by decide +kernel
theorem d1_82 : decode method_3_code 82 = .ok (.ireturn, 1) := by decide +kernel
theorem d1_83 : decode method_3_code 83 = .ok (.bipush 9, 2) := by decide +kernel
theorem d1_85 : decode method_3_code 85 = .ok (.ireturn, 1) := by decide +kernel
abbrev own_rm1_room : Room := { frames := 0, cells := 0, slots := 0, locals := 0 }
set_option maxRecDepth 65536 in
set_option maxHeartbeats 40000000 in
theorem rm1 (l : Launch) (Z : State) (a0 : Array Value) (hw : ∀ d ∈ tables_1, d.before a0 Z = true) (n0 : Nat) (h0 : Heap) (Z0 : n0 ≤ h0.size) (vv : Int64) (m : Nat) (hv : vv.toInt = (m : Int)) :
    Ctr l Z (⟨"mandate/PackerPutPinLaw", "count", "(J)I"⟩ : MethodName) method_3_code 2 (some .int) own_rm1_room n0 #[(.long vv)] h0 (fun v h => ∃ (i : Nat) (r : Int32), r.toInt = ((i + 1 : Nat) : Int) ∧ i < 9 ∧ m / 128 ^ i < 128 ∧ (i = 0 ∨ 1 ≤ m / 128 ^ i) ∧ v = some (.int r) ∧ h = h0) := by
  refine Ctr.of #[.val (.long vv), .second] (plainFor_of_name pn_0) Z0 (fun m => by first | (simp [entryFrame, mkF, argsToLocals, Value.category]; done) | rfl) ?_
  intro C H
  have hb := (long_nat hv).2
  have q0 : vv < (128 : Int64) ↔ m < 128 := by rw [Int64.lt_iff_toInt_lt, hv, show ((128 : Int64)).toInt = 128 from rfl]; omega
  have q1 : vv < (16384 : Int64) ↔ m < 16384 := by rw [Int64.lt_iff_toInt_lt, hv, show ((16384 : Int64)).toInt = 16384 from rfl]; omega
  have q2 : vv < (2097152 : Int64) ↔ m < 2097152 := by rw [Int64.lt_iff_toInt_lt, hv, show ((2097152 : Int64)).toInt = 2097152 from rfl]; omega
  have q3 : vv < (268435456 : Int64) ↔ m < 268435456 := by rw [Int64.lt_iff_toInt_lt, hv, show ((268435456 : Int64)).toInt = 268435456 from rfl]; omega
  have q4 : vv < (34359738368 : Int64) ↔ m < 34359738368 := by rw [Int64.lt_iff_toInt_lt, hv, show ((34359738368 : Int64)).toInt = 34359738368 from rfl]; omega
  have q5 : vv < (4398046511104 : Int64) ↔ m < 4398046511104 := by rw [Int64.lt_iff_toInt_lt, hv, show ((4398046511104 : Int64)).toInt = 4398046511104 from rfl]; omega
  have q6 : vv < (562949953421312 : Int64) ↔ m < 562949953421312 := by rw [Int64.lt_iff_toInt_lt, hv, show ((562949953421312 : Int64)).toInt = 562949953421312 from rfl]; omega
  have q7 : vv < (72057594037927936 : Int64) ↔ m < 72057594037927936 := by rw [Int64.lt_iff_toInt_lt, hv, show ((72057594037927936 : Int64)).toInt = 72057594037927936 from rfl]; omega
  refine k_lloadN (pc := 0) H d1_0 rfl ?_
  refine k_ldc2J (v := (128 : Int64)) (pc := 1) H (wd hw 6 rfl) d1_1 ?_
  refine k_lcmp (pc := 4) H d1_4 ?_
  refine k_iff0R (P := vv < (128 : Int64)) 10 (pc := 5) H d1_5 rfl XT.ll_ge_t XT.ll_ge_f (fun c0 => ?_) (fun c0 => ?_)
  · rw [q0] at c0
    refine k_lloadN (pc := 10) H d1_10 rfl ?_
    refine k_ldc2J (v := (16384 : Int64)) (pc := 11) H (wd hw 16 rfl) d1_11 ?_
    refine k_lcmp (pc := 14) H d1_14 ?_
    refine k_iff0R (P := vv < (16384 : Int64)) 20 (pc := 15) H d1_15 rfl XT.ll_ge_t XT.ll_ge_f (fun c1 => ?_) (fun c1 => ?_)
    · rw [q1] at c1
      refine k_lloadN (pc := 20) H d1_20 rfl ?_
      refine k_ldc2J (v := (2097152 : Int64)) (pc := 21) H (wd hw 17 rfl) d1_21 ?_
      refine k_lcmp (pc := 24) H d1_24 ?_
      refine k_iff0R (P := vv < (2097152 : Int64)) 30 (pc := 25) H d1_25 rfl XT.ll_ge_t XT.ll_ge_f (fun c2 => ?_) (fun c2 => ?_)
      · rw [q2] at c2
        refine k_lloadN (pc := 30) H d1_30 rfl ?_
        refine k_ldc2J (v := (268435456 : Int64)) (pc := 31) H (wd hw 18 rfl) d1_31 ?_
        refine k_lcmp (pc := 34) H d1_34 ?_
        refine k_iff0R (P := vv < (268435456 : Int64)) 40 (pc := 35) H d1_35 rfl XT.ll_ge_t XT.ll_ge_f (fun c3 => ?_) (fun c3 => ?_)
        · rw [q3] at c3
          refine k_lloadN (pc := 40) H d1_40 rfl ?_
          refine k_ldc2J (v := (34359738368 : Int64)) (pc := 41) H (wd hw 19 rfl) d1_41 ?_
          refine k_lcmp (pc := 44) H d1_44 ?_
          refine k_iff0R (P := vv < (34359738368 : Int64)) 50 (pc := 45) H d1_45 rfl XT.ll_ge_t XT.ll_ge_f (fun c4 => ?_) (fun c4 => ?_)
          · rw [q4] at c4
            refine k_lloadN (pc := 50) H d1_50 rfl ?_
            refine k_ldc2J (v := (4398046511104 : Int64)) (pc := 51) H (wd hw 21 rfl) d1_51 ?_
            refine k_lcmp (pc := 54) H d1_54 ?_
            refine k_iff0R (P := vv < (4398046511104 : Int64)) 61 (pc := 55) H d1_55 rfl XT.ll_ge_t XT.ll_ge_f (fun c5 => ?_) (fun c5 => ?_)
            · rw [q5] at c5
              refine k_lloadN (pc := 61) H d1_61 rfl ?_
              refine k_ldc2J (v := (562949953421312 : Int64)) (pc := 62) H (wd hw 22 rfl) d1_62 ?_
              refine k_lcmp (pc := 65) H d1_65 ?_
              refine k_iff0R (P := vv < (562949953421312 : Int64)) 72 (pc := 66) H d1_66 rfl XT.ll_ge_t XT.ll_ge_f (fun c6 => ?_) (fun c6 => ?_)
              · rw [q6] at c6
                refine k_lloadN (pc := 72) H d1_72 rfl ?_
                refine k_ldc2J (v := (72057594037927936 : Int64)) (pc := 73) H (wd hw 23 rfl) d1_73 ?_
                refine k_lcmp (pc := 76) H d1_76 ?_
                refine k_iff0R (P := vv < (72057594037927936 : Int64)) 83 (pc := 77) H d1_77 rfl XT.ll_ge_t XT.ll_ge_f (fun c7 => ?_) (fun c7 => ?_)
                · rw [q7] at c7
                  refine k_bipush (9 : Int32) (pc := 83) H d1_83 rfl ?_
                  exact k_retInt (pc := 85) H d1_85 (by show 0 ≤ own_rm1_room.cells; decide) (by show 0 ≤ own_rm1_room.slots; decide) (⟨8, _, rfl, by decide, by show m / 72057594037927936 < 128; omega, Or.inr (by show 1 ≤ m / 72057594037927936; omega), rfl, rfl⟩)
                · rw [q7] at c7
                  refine k_bipush (8 : Int32) (pc := 80) H d1_80 rfl ?_
                  exact k_retInt (pc := 82) H d1_82 (by show 0 ≤ own_rm1_room.cells; decide) (by show 0 ≤ own_rm1_room.slots; decide) (⟨7, _, rfl, by decide, by show m / 562949953421312 < 128; omega, Or.inr (by show 1 ≤ m / 562949953421312; omega), rfl, rfl⟩)
              · rw [q6] at c6
                refine k_bipush (7 : Int32) (pc := 69) H d1_69 rfl ?_
                exact k_retInt (pc := 71) H d1_71 (by show 0 ≤ own_rm1_room.cells; decide) (by show 0 ≤ own_rm1_room.slots; decide) (⟨6, _, rfl, by decide, by show m / 4398046511104 < 128; omega, Or.inr (by show 1 ≤ m / 4398046511104; omega), rfl, rfl⟩)
            · rw [q5] at c5
              refine k_bipush (6 : Int32) (pc := 58) H d1_58 rfl ?_
              exact k_retInt (pc := 60) H d1_60 (by show 0 ≤ own_rm1_room.cells; decide) (by show 0 ≤ own_rm1_room.slots; decide) (⟨5, _, rfl, by decide, by show m / 34359738368 < 128; omega, Or.inr (by show 1 ≤ m / 34359738368; omega), rfl, rfl⟩)
          · rw [q4] at c4
            refine k_iconst (5 : Int32) (pc := 48) H d1_48 rfl ?_
            exact k_retInt (pc := 49) H d1_49 (by show 0 ≤ own_rm1_room.cells; decide) (by show 0 ≤ own_rm1_room.slots; decide) (⟨4, _, rfl, by decide, by show m / 268435456 < 128; omega, Or.inr (by show 1 ≤ m / 268435456; omega), rfl, rfl⟩)
        · rw [q3] at c3
          refine k_iconst (4 : Int32) (pc := 38) H d1_38 rfl ?_
          exact k_retInt (pc := 39) H d1_39 (by show 0 ≤ own_rm1_room.cells; decide) (by show 0 ≤ own_rm1_room.slots; decide) (⟨3, _, rfl, by decide, by show m / 2097152 < 128; omega, Or.inr (by show 1 ≤ m / 2097152; omega), rfl, rfl⟩)
      · rw [q2] at c2
        refine k_iconst (3 : Int32) (pc := 28) H d1_28 rfl ?_
        exact k_retInt (pc := 29) H d1_29 (by show 0 ≤ own_rm1_room.cells; decide) (by show 0 ≤ own_rm1_room.slots; decide) (⟨2, _, rfl, by decide, by show m / 16384 < 128; omega, Or.inr (by show 1 ≤ m / 16384; omega), rfl, rfl⟩)
    · rw [q1] at c1
      refine k_iconst (2 : Int32) (pc := 18) H d1_18 rfl ?_
      exact k_retInt (pc := 19) H d1_19 (by show 0 ≤ own_rm1_room.cells; decide) (by show 0 ≤ own_rm1_room.slots; decide) (⟨1, _, rfl, by decide, by show m / 128 < 128; omega, Or.inr (by show 1 ≤ m / 128; omega), rfl, rfl⟩)
  · rw [q0] at c0
    refine k_iconst (1 : Int32) (pc := 8) H d1_8 rfl ?_
    exact k_retInt (pc := 9) H d1_9 (by show 0 ≤ own_rm1_room.cells; decide) (by show 0 ≤ own_rm1_room.slots; decide) (⟨0, _, rfl, by decide, by show m / 1 < 128; omega, Or.inl rfl, rfl, rfl⟩)
theorem d2_0 : decode prog_101_method_6_code 0 = .ok (.lload_n 2, 1) := by decide +kernel
theorem d2_1 : decode prog_101_method_6_code 1 = .ok (.ldc2_w 29, 3) := by decide +kernel
theorem d2_4 : decode prog_101_method_6_code 4 = .ok (.land, 1) := by decide +kernel
theorem d2_5 : decode prog_101_method_6_code 5 = .ok (.lconst 0, 1) := by decide +kernel
theorem d2_6 : decode prog_101_method_6_code 6 = .ok (.lcmp, 1) := by decide +kernel
theorem d2_7 : decode prog_101_method_6_code 7 = .ok (.ifCond .eq 24, 3) := by decide +kernel
theorem d2_10 : decode prog_101_method_6_code 10 = .ok (.aload_n 0, 1) := by decide +kernel
theorem d2_11 : decode prog_101_method_6_code 11 = .ok (.iload_n 1, 1) := by decide +kernel
theorem d2_12 : decode prog_101_method_6_code 12 = .ok (.iinc 1 1, 3) := by decide +kernel
theorem d2_15 : decode prog_101_method_6_code 15 = .ok (.lload_n 2, 1) := by decide +kernel
theorem d2_16 : decode prog_101_method_6_code 16 = .ok (.ldc2_w 31, 3) := by decide +kernel
theorem d2_19 : decode prog_101_method_6_code 19 = .ok (.lor, 1) := by decide +kernel
theorem d2_20 : decode prog_101_method_6_code 20 = .ok (.l2i, 1) := by decide +kernel
theorem d2_21 : decode prog_101_method_6_code 21 = .ok (.i2b, 1) := by decide +kernel
theorem d2_22 : decode prog_101_method_6_code 22 = .ok (.bastore, 1) := by decide +kernel
theorem d2_23 : decode prog_101_method_6_code 23 = .ok (.lload_n 2, 1) := by decide +kernel
theorem d2_24 : decode prog_101_method_6_code 24 = .ok (.bipush 7, 2) := by decide +kernel
theorem d2_26 : decode prog_101_method_6_code 26 = .ok (.lushr, 1) := by decide +kernel
theorem d2_27 : decode prog_101_method_6_code 27 = .ok (.lstore_n 2, 1) := by decide +kernel
theorem d2_28 : decode prog_101_method_6_code 28 = .ok (.goto (-28), 3) := by decide +kernel
theorem d2_31 : decode prog_101_method_6_code 31 = .ok (.aload_n 0, 1) := by decide +kernel
theorem d2_32 : decode prog_101_method_6_code 32 = .ok (.iload_n 1, 1) := by decide +kernel
theorem d2_33 : decode prog_101_method_6_code 33 = .ok (.iinc 1 1, 3) := by decide +kernel
theorem d2_36 : decode prog_101_method_6_code 36 = .ok (.lload_n 2, 1) := by decide +kernel
theorem d2_37 : decode prog_101_method_6_code 37 = .ok (.l2i, 1) := by decide +kernel
theorem d2_38 : decode prog_101_method_6_code 38 = .ok (.i2b, 1) := by decide +kernel
theorem d2_39 : decode prog_101_method_6_code 39 = .ok (.bastore, 1) := by decide +kernel
theorem d2_40 : decode prog_101_method_6_code 40 = .ok (.iload_n 1, 1) := by decide +kernel
theorem d2_41 : decode prog_101_method_6_code 41 = .ok (.ireturn, 1) := by decide +kernel
abbrev own_rm2_room : Room := { frames := 0, cells := 0, slots := 0, locals := 0 }
set_option maxRecDepth 65536 in
set_option maxHeartbeats 40000000 in
theorem rm2 (l : Launch) (Z : State) (a0 : Array Value) (hw : ∀ d ∈ tables_1, d.before a0 Z = true) (n0 : Nat) (h0 : Heap) (Z0 : n0 ≤ h0.size) (a : Addr) (xs : List Int8) (ai : Int32) (vv : Int64) (t m : Nat) (ge : n0 ≤ a) (V : BA Z h0 a xs) (hat : ai.toInt = (t : Int)) (hv : vv.toInt = (m : Int)) (hroom : t + 9 ≤ xs.length) (hlen : xs.length < 1000) :
    Ctr l Z (⟨"mandate/Packer", "put", "([BIJ)I"⟩ : MethodName) prog_101_method_6_code 4 (some .int) own_rm2_room n0 #[(.ref a), (.int ai), (.long vv)] h0 (fun v h => ∃ (i : Nat) (r : Int32) (ys : List Int8), r.toInt = ((t + i + 1 : Nat) : Int) ∧ m / 128 ^ i < 128 ∧ (i = 0 ∨ 1 ≤ m / 128 ^ i) ∧ (∀ k : Nat, ys[k]? = if k < t ∨ t + i + 1 ≤ k then xs[k]? else some (if k < t + i then byHi (m / 128 ^ (k - t)) else byLo (m / 128 ^ (k - t)))) ∧ v = some (.int r) ∧ Keep h0 h [a] ∧ BA Z h a ys) := by
  refine Ctr.of #[.val (.ref a), .val (.int ai), .val (.long vv), .second] (plainFor_of_name pn_1) Z0 (fun m => by first | (simp [entryFrame, mkF, argsToLocals, Value.category]; done) | rfl) ?_
  intro C H
  have hb := (long_nat hv).2
  have L : ∀ (f i : Nat) (ii : Int32) (vi : Int64) (hh : Heap) (ys : List Int8) (K : Keep h0 hh [a]) (B : BA Z hh a ys) (g1' : ii.toInt = ((t + i : Nat) : Int)) (g2' : vi.toInt = ((m / 128 ^ i : Nat) : Int)) (g3' : ys.length = xs.length) (g4' : ∀ k : Nat, ys[k]? = if k < t ∨ t + i ≤ k then xs[k]? else some (byHi (m / 128 ^ (k - t)))) (g5' : i = 0 ∨ 1 ≤ m / 128 ^ i) (g6' : i + f = 8), W l own_rm2_room C (n0, own_rm2_room.cells, own_rm2_room.slots, fun v h => ∃ (i : Nat) (r : Int32) (ys : List Int8), r.toInt = ((t + i + 1 : Nat) : Int) ∧ m / 128 ^ i < 128 ∧ (i = 0 ∨ 1 ≤ m / 128 ^ i) ∧ (∀ k : Nat, ys[k]? = if k < t ∨ t + i + 1 ≤ k then xs[k]? else some (if k < t + i then byHi (m / 128 ^ (k - t)) else byLo (m / 128 ^ (k - t)))) ∧ v = some (.int r) ∧ Keep h0 h [a] ∧ BA Z h a ys) hh 0 0 0 #[.val (.ref a), .val (.int ii), .val (.long vi), .second] [] := by
    intro f
    induction f with
    | zero =>
      intro i ii vi hh ys K B g1' g2' g3' g4' g5' g6'
      obtain rfl : i = 8 := by omega
      have lt : m / 128 ^ 8 < 128 := by show m / 72057594037927936 < 128; omega
      refine k_lloadN (pc := 0) H d2_0 rfl ?_
      refine k_ldc2J (v := (-128 : Int64)) (pc := 1) H (wd hw 11 rfl) d2_1 ?_
      refine k_land (pc := 4) H d2_4 ?_
      refine k_lconst (0 : Int64) (pc := 5) H d2_5 rfl ?_
      refine k_lcmp (pc := 6) H d2_6 ?_
      refine k_ifT 31 (pc := 7) H d2_7 rfl (XT.ll_eq_t ((high_zero g2').mpr lt)) ?_
      refine k_aloadN (pc := 31) H d2_31 rfl rfl ?_
      refine k_iloadN (pc := 32) H d2_32 rfl ?_
      refine k_iinc (1 : Int32) (pc := 33) H d2_33 rfl rfl (Ls' := #[.val (.ref a), .val (.int (ii + (1 : Int32))), .val (.long vi), .second]) rfl ?_
      refine k_lloadN (pc := 36) H d2_36 rfl ?_
      refine k_l2i (pc := 37) H d2_37 ?_
      refine k_i2b (pc := 38) H d2_38 ?_
      refine k_bastoreT (i := (t + 8)) (pc := 39) H B (g1') (by omega) ge d2_39 ?_
      intro h1 K2 V3
      have KW4 : Keep h0 h1 [a] := K.trans K2 (allS (Or.inl (List.mem_of_getElem? (i := 0) rfl)) all0)
      refine k_iloadN (pc := 40) H d2_40 rfl ?_
      exact k_retInt (pc := 41) H d2_41 (by show 0 ≤ own_rm2_room.cells; decide) (by show 0 ≤ own_rm2_room.slots; decide) (⟨8, _, _, add_nat g1' rfl (by omega), lt, g5', own_last g4' (by omega) ((b8 _).trans (byLo_l g2' lt)), rfl, KW4, V3⟩)
    | succ f ih =>
      intro i ii vi hh ys K B g1' g2' g3' g4' g5' g6'
      refine k_lloadN (pc := 0) H d2_0 rfl ?_
      refine k_ldc2J (v := (-128 : Int64)) (pc := 1) H (wd hw 11 rfl) d2_1 ?_
      refine k_land (pc := 4) H d2_4 ?_
      refine k_lconst (0 : Int64) (pc := 5) H d2_5 rfl ?_
      refine k_lcmp (pc := 6) H d2_6 ?_
      refine k_iff0 (P := (vi &&& (-128 : Int64)) = (0 : Int64)) 31 (pc := 7) H d2_7 rfl XT.ll_eq_t XT.ll_eq_f (fun c0 => ?_) (fun c0 => ?_)
      · have lt := (high_zero g2').mp c0
        refine k_aloadN (pc := 31) H d2_31 rfl rfl ?_
        refine k_iloadN (pc := 32) H d2_32 rfl ?_
        refine k_iinc (1 : Int32) (pc := 33) H d2_33 rfl rfl (Ls' := #[.val (.ref a), .val (.int (ii + (1 : Int32))), .val (.long vi), .second]) rfl ?_
        refine k_lloadN (pc := 36) H d2_36 rfl ?_
        refine k_l2i (pc := 37) H d2_37 ?_
        refine k_i2b (pc := 38) H d2_38 ?_
        refine k_bastoreT (i := (t + i)) (pc := 39) H B (g1') (by omega) ge d2_39 ?_
        intro h5 K6 V7
        have KW8 : Keep h0 h5 [a] := K.trans K6 (allS (Or.inl (List.mem_of_getElem? (i := 0) rfl)) all0)
        refine k_iloadN (pc := 40) H d2_40 rfl ?_
        exact k_retInt (pc := 41) H d2_41 (by show 0 ≤ own_rm2_room.cells; decide) (by show 0 ≤ own_rm2_room.slots; decide) (⟨i, _, _, add_nat g1' rfl (by omega), lt, g5', own_last g4' (by omega) ((b8 _).trans (byLo_l g2' lt)), rfl, KW8, V7⟩)
      · have ge2 : ¬ m / 128 ^ i < 128 := fun q => c0 ((high_zero g2').mpr q)
        refine k_aloadN (pc := 10) H d2_10 rfl rfl ?_
        refine k_iloadN (pc := 11) H d2_11 rfl ?_
        refine k_iinc (1 : Int32) (pc := 12) H d2_12 rfl rfl (Ls' := #[.val (.ref a), .val (.int (ii + (1 : Int32))), .val (.long vi), .second]) rfl ?_
        refine k_lloadN (pc := 15) H d2_15 rfl ?_
        refine k_ldc2J (v := (128 : Int64)) (pc := 16) H (wd hw 20 rfl) d2_16 ?_
        refine k_lor (pc := 19) H d2_19 ?_
        refine k_l2i (pc := 20) H d2_20 ?_
        refine k_i2b (pc := 21) H d2_21 ?_
        refine k_bastoreT (i := (t + i)) (pc := 22) H B (g1') (by omega) ge d2_22 ?_
        intro h9 K10 V11
        have KW12 : Keep h0 h9 [a] := K.trans K10 (allS (Or.inl (List.mem_of_getElem? (i := 0) rfl)) all0)
        refine k_lloadN (pc := 23) H d2_23 rfl ?_
        refine k_bipush (7 : Int32) (pc := 24) H d2_24 rfl ?_
        refine k_lushr (pc := 26) H d2_26 ?_
        refine k_lstoreN (pc := 27) H d2_27 (Ls' := #[.val (.ref a), .val (.int (ii + (1 : Int32))), .val (.long (XT.ushrL vi (7 : Int32))), .second]) rfl ?_
        refine k_goto 0 (pc := 28) H d2_28 rfl ?_
        exact ih (i + 1) _ _ _ _ KW12 V11 (by have := add_nat (y := 1) (j := 1) g1' rfl (by omega); rw [this]; rfl) (by rw [ushrL_nat (y := 7) (j := 7) g2' rfl (by decide), own_next]) (by rw [List.length_set]; exact g3') (own_step g4' (by omega) ((b8 _).trans (byHi_l g2'))) (Or.inr (by rw [← own_next]; omega)) (by omega)
  exact L 8 0 _ _ _ xs (Keep.refl h0 [a]) V (by rw [hat]; rfl) (by rw [hv]; simp) rfl (fun k => (if_pos (by omega)).symm) (Or.inl rfl) rfl
theorem d3_0 : decode method_4_code 0 = .ok (.iload_n 1, 1) := by decide +kernel
theorem d3_1 : decode method_4_code 1 = .ok (.iload_n 2, 1) := by decide +kernel
theorem d3_2 : decode method_4_code 2 = .ok (.if_icmp .lt 10, 3) := by decide +kernel
theorem d3_5 : decode method_4_code 5 = .ok (.iload_n 1, 1) := by decide +kernel
theorem d3_6 : decode method_4_code 6 = .ok (.iload_n 2, 1) := by decide +kernel
theorem d3_7 : decode method_4_code 7 = .ok (.iload_n 3, 1) := by decide +kernel
theorem d3_8 : decode method_4_code 8 = .ok (.iadd, 1) := by decide +kernel
theorem d3_9 : decode method_4_code 9 = .ok (.if_icmp .lt 10, 3) := by decide +kernel
theorem d3_12 : decode method_4_code 12 = .ok (.iload 6, 2) := by decide +kernel
theorem d3_14 : decode method_4_code 14 = .ok (.istore 7, 2) := by decide +kernel
theorem d3_16 : decode method_4_code 16 = .ok (.goto 48, 3) := by decide +kernel
theorem d3_19 : decode method_4_code 19 = .ok (.iload_n 1, 1) := by decide +kernel
theorem d3_20 : decode method_4_code 20 = .ok (.iload_n 2, 1) := by decide +kernel
theorem d3_21 : decode method_4_code 21 = .ok (.isub, 1) := by decide +kernel
theorem d3_22 : decode method_4_code 22 = .ok (.istore 8, 2) := by decide +kernel
theorem d3_24 : decode method_4_code 24 = .ok (.lload 4, 2) := by decide +kernel
theorem d3_26 : decode method_4_code 26 = .ok (.bipush 7, 2) := by decide +kernel
theorem d3_28 : decode method_4_code 28 = .ok (.iload 8, 2) := by decide +kernel
theorem d3_30 : decode method_4_code 30 = .ok (.imul, 1) := by decide +kernel
theorem d3_31 : decode method_4_code 31 = .ok (.lushr, 1) := by decide +kernel
theorem d3_32 : decode method_4_code 32 = .ok (.ldc2_w 43, 3) := by decide +kernel
theorem d3_35 : decode method_4_code 35 = .ok (.land, 1) := by decide +kernel
theorem d3_36 : decode method_4_code 36 = .ok (.l2i, 1) := by decide +kernel
theorem d3_37 : decode method_4_code 37 = .ok (.istore 9, 2) := by decide +kernel
theorem d3_39 : decode method_4_code 39 = .ok (.iload 8, 2) := by decide +kernel
theorem d3_41 : decode method_4_code 41 = .ok (.iload_n 3, 1) := by decide +kernel
theorem d3_42 : decode method_4_code 42 = .ok (.iconst 1, 1) := by decide +kernel
theorem d3_43 : decode method_4_code 43 = .ok (.isub, 1) := by decide +kernel
theorem d3_44 : decode method_4_code 44 = .ok (.if_icmp .ge 15, 3) := by decide +kernel
theorem d3_47 : decode method_4_code 47 = .ok (.iload 9, 2) := by decide +kernel
theorem d3_49 : decode method_4_code 49 = .ok (.sipush 128, 3) := by decide +kernel
theorem d3_52 : decode method_4_code 52 = .ok (.ior, 1) := by decide +kernel
theorem d3_53 : decode method_4_code 53 = .ok (.i2b, 1) := by decide +kernel
theorem d3_54 : decode method_4_code 54 = .ok (.istore 7, 2) := by decide +kernel
theorem d3_56 : decode method_4_code 56 = .ok (.goto 8, 3) := by decide +kernel
theorem d3_59 : decode method_4_code 59 = .ok (.iload 9, 2) := by decide +kernel
theorem d3_61 : decode method_4_code 61 = .ok (.i2b, 1) := by decide +kernel
theorem d3_62 : decode method_4_code 62 = .ok (.istore 7, 2) := by decide +kernel
theorem d3_64 : decode method_4_code 64 = .ok (.aload_n 0, 1) := by decide +kernel
theorem d3_65 : decode method_4_code 65 = .ok (.iload_n 1, 1) := by decide +kernel
theorem d3_66 : decode method_4_code 66 = .ok (.baload, 1) := by decide +kernel
theorem d3_67 : decode method_4_code 67 = .ok (.iload 7, 2) := by decide +kernel
theorem d3_69 : decode method_4_code 69 = .ok (.if_icmp .ne 7, 3) := by decide +kernel
theorem d3_72 : decode method_4_code 72 = .ok (.iconst 1, 1) := by decide +kernel
theorem d3_73 : decode method_4_code 73 = .ok (.goto 4, 3) := by decide +kernel
theorem d3_76 : decode method_4_code 76 = .ok (.iconst 0, 1) := by decide +kernel
theorem d3_77 : decode method_4_code 77 = .ok (.ireturn, 1) := by decide +kernel
abbrev own_rm3_room : Room := { frames := 0, cells := 0, slots := 0, locals := 0 }
set_option maxRecDepth 65536 in
set_option maxHeartbeats 40000000 in
theorem rm3 (l : Launch) (Z : State) (a0 : Array Value) (hw : ∀ d ∈ tables_1, d.before a0 Z = true) (n0 : Nat) (h0 : Heap) (Z0 : n0 ≤ h0.size) (a : Addr) (xs : List Int8) (kk ai nn : Int32) (vv : Int64) (fi : Int8) (k t i m : Nat) (V : BA Z h0 a xs) (hk : kk.toInt = (k : Int)) (hat : ai.toInt = (t : Int)) (hn : nn.toInt = ((i + 1 : Nat) : Int)) (hv : vv.toInt = (m : Int)) (hi : i < 9) (ht : t < 8) (hk16 : k < 16) (hx : xs[k]? = some (if k < t ∨ t + i + 1 ≤ k then fi else if k < t + i then byHi (m / 128 ^ (k - t)) else byLo (m / 128 ^ (k - t)))) :
    Ctr l Z (⟨"mandate/PackerPutPinLaw", "byteOk", "([BIIIJB)Z"⟩ : MethodName) method_4_code 10 (some .boolean) own_rm3_room n0 #[(.ref a), (.int kk), (.int ai), (.int nn), (.long vv), (.int fi.toInt32)] h0 (fun v h => v = some (.int 1) ∧ h = h0) := by
  refine Ctr.of #[.val (.ref a), .val (.int kk), .val (.int ai), .val (.int nn), .val (.long vv), .second, .val (.int fi.toInt32), .unset, .unset, .unset] (plainFor_of_name pn_0) Z0 (fun m => by first | (simp [entryFrame, mkF, argsToLocals, Value.category]; done) | rfl) ?_
  intro C H
  have q1 := lt_nat hk hat
  have q2 := lt_nat hk (add_nat hat hn (by omega))
  refine k_iloadN (pc := 0) H d3_0 rfl ?_
  refine k_iloadN (pc := 1) H d3_1 rfl ?_
  refine k_icmp (P := kk < ai) 12 (pc := 2) H d3_2 rfl XT.ii_lt_t XT.ii_lt_f (fun c1 => ?_) (fun c1 => ?_)
  · rw [if_pos (Or.inl (q1.mp c1))] at hx
    refine k_iload (pc := 12) H d3_12 rfl ?_
    refine k_istore (pc := 14) H d3_14 (Ls' := #[.val (.ref a), .val (.int kk), .val (.int ai), .val (.int nn), .val (.long vv), .second, .val (.int fi.toInt32), .val (.int fi.toInt32), .unset, .unset]) rfl ?_
    refine k_goto 64 (pc := 16) H d3_16 rfl ?_
    refine k_aloadN (pc := 64) H d3_64 rfl rfl ?_
    refine k_iloadN (pc := 65) H d3_65 rfl ?_
    refine k_baloadT (i := k) (x := fi) (pc := 66) H V (hk) (hx) d3_66 ?_
    refine k_iload (pc := 67) H d3_67 rfl ?_
    refine k_icmpF (pc := 69) H d3_69 (XT.ii_ne_f (rfl)) ?_
    refine k_iconst (1 : Int32) (pc := 72) H d3_72 rfl ?_
    refine k_goto 77 (pc := 73) H d3_73 rfl ?_
    exact k_retN' (t := .boolean) (by simp) (pc := 77) H d3_77 (by show 0 ≤ own_rm3_room.cells; decide) (by show 0 ≤ own_rm3_room.slots; decide) (⟨rfl, rfl⟩)
  · refine k_iloadN (pc := 5) H d3_5 rfl ?_
    refine k_iloadN (pc := 6) H d3_6 rfl ?_
    refine k_iloadN (pc := 7) H d3_7 rfl ?_
    refine k_iadd (pc := 8) H d3_8 ?_
    refine k_icmp (P := kk < (ai + nn)) 19 (pc := 9) H d3_9 rfl XT.ii_lt_t XT.ii_lt_f (fun c2 => ?_) (fun c2 => ?_)
    · have g1 : ¬ k < t := fun z => c1 (q1.mpr z)
      have g2 := q2.mp c2
      rw [if_neg (by omega)] at hx
      refine k_iloadN (pc := 19) H d3_19 rfl ?_
      refine k_iloadN (pc := 20) H d3_20 rfl ?_
      refine k_isub (pc := 21) H d3_21 ?_
      generalize hv_ii : (kk - ai) = ii
      refine k_istore (pc := 22) H d3_22 (Ls' := #[.val (.ref a), .val (.int kk), .val (.int ai), .val (.int nn), .val (.long vv), .second, .val (.int fi.toInt32), .unset, .val (.int ii), .unset]) rfl ?_
      have hii : ii.toInt = ((k - t : Nat) : Int) := by rw [← hv_ii]; exact sub_nat hk hat (by omega)
      refine k_lload (pc := 24) H d3_24 rfl ?_
      refine k_bipush (7 : Int32) (pc := 26) H d3_26 rfl ?_
      refine k_iload (pc := 28) H d3_28 rfl ?_
      refine k_imul (pc := 30) H d3_30 ?_
      refine k_lushr (pc := 31) H d3_31 ?_
      generalize hv_uu : (XT.ushrL vv ((7 : Int32) * ii)) = uu
      have hu : uu.toInt = ((m / 128 ^ (k - t) : Nat) : Int) := by rw [← hv_uu, ushrL_nat hv (mul_nat (x := 7) (i := 7) rfl hii (by omega)) (by omega), Nat.pow_mul]
      have q3 := lt_nat hii (sub_nat (y := 1) (j := 1) hn rfl (by omega))
      refine k_ldc2J (v := (127 : Int64)) (pc := 32) H (wd hw 15 rfl) d3_32 ?_
      refine k_land (pc := 35) H d3_35 ?_
      refine k_l2i (pc := 36) H d3_36 ?_
      refine k_istore (pc := 37) H d3_37 (Ls' := #[.val (.ref a), .val (.int kk), .val (.int ai), .val (.int nn), .val (.long vv), .second, .val (.int fi.toInt32), .unset, .val (.int ii), .val (.int (uu &&& (127 : Int64)).toInt32)]) rfl ?_
      refine k_iload (pc := 39) H d3_39 rfl ?_
      refine k_iloadN (pc := 41) H d3_41 rfl ?_
      refine k_iconst (1 : Int32) (pc := 42) H d3_42 rfl ?_
      refine k_isub (pc := 43) H d3_43 ?_
      refine k_icmpR (P := ii < (nn - (1 : Int32))) 59 (pc := 44) H d3_44 rfl XT.ii_ge_t XT.ii_ge_f (fun c3 => ?_) (fun c3 => ?_)
      · rw [if_neg (by have : ¬ k - t < i + 1 - 1 := fun z => c3 (q3.mpr z); omega)] at hx
        refine k_iload (pc := 59) H d3_59 rfl ?_
        refine k_i2b (pc := 61) H d3_61 ?_
        refine k_istore (pc := 62) H d3_62 (Ls' := #[.val (.ref a), .val (.int kk), .val (.int ai), .val (.int nn), .val (.long vv), .second, .val (.int fi.toInt32), .val (.int (uu &&& (127 : Int64)).toInt32.toInt8.toInt32), .val (.int ii), .val (.int (uu &&& (127 : Int64)).toInt32)]) rfl ?_
        refine k_aloadN (pc := 64) H d3_64 rfl rfl ?_
        refine k_iloadN (pc := 65) H d3_65 rfl ?_
        refine k_baloadT (i := k) (x := (byLo (m / 128 ^ (k - t)))) (pc := 66) H V (hk) (hx) d3_66 ?_
        refine k_iload (pc := 67) H d3_67 rfl ?_
        refine k_icmpF (pc := 69) H d3_69 (XT.ii_ne_f (by rw [byLo_i hu])) ?_
        refine k_iconst (1 : Int32) (pc := 72) H d3_72 rfl ?_
        refine k_goto 77 (pc := 73) H d3_73 rfl ?_
        exact k_retN' (t := .boolean) (by simp) (pc := 77) H d3_77 (by show 0 ≤ own_rm3_room.cells; decide) (by show 0 ≤ own_rm3_room.slots; decide) (⟨rfl, rfl⟩)
      · rw [if_pos (by have := q3.mp c3; omega)] at hx
        refine k_iload (pc := 47) H d3_47 rfl ?_
        refine k_sipush (128 : Int32) (pc := 49) H d3_49 rfl ?_
        refine k_ior (pc := 52) H d3_52 ?_
        refine k_i2b (pc := 53) H d3_53 ?_
        refine k_istore (pc := 54) H d3_54 (Ls' := #[.val (.ref a), .val (.int kk), .val (.int ai), .val (.int nn), .val (.long vv), .second, .val (.int fi.toInt32), .val (.int ((uu &&& (127 : Int64)).toInt32 ||| (128 : Int32)).toInt8.toInt32), .val (.int ii), .val (.int (uu &&& (127 : Int64)).toInt32)]) rfl ?_
        refine k_goto 64 (pc := 56) H d3_56 rfl ?_
        refine k_aloadN (pc := 64) H d3_64 rfl rfl ?_
        refine k_iloadN (pc := 65) H d3_65 rfl ?_
        refine k_baloadT (i := k) (x := (byHi (m / 128 ^ (k - t)))) (pc := 66) H V (hk) (hx) d3_66 ?_
        refine k_iload (pc := 67) H d3_67 rfl ?_
        refine k_icmpF (pc := 69) H d3_69 (XT.ii_ne_f (by rw [byHi_i hu])) ?_
        refine k_iconst (1 : Int32) (pc := 72) H d3_72 rfl ?_
        refine k_goto 77 (pc := 73) H d3_73 rfl ?_
        exact k_retN' (t := .boolean) (by simp) (pc := 77) H d3_77 (by show 0 ≤ own_rm3_room.cells; decide) (by show 0 ≤ own_rm3_room.slots; decide) (⟨rfl, rfl⟩)
    · rw [if_pos (by have : ¬ k < t + (i + 1) := fun z => c2 (q2.mpr z); omega)] at hx
      refine k_iload (pc := 12) H d3_12 rfl ?_
      refine k_istore (pc := 14) H d3_14 (Ls' := #[.val (.ref a), .val (.int kk), .val (.int ai), .val (.int nn), .val (.long vv), .second, .val (.int fi.toInt32), .val (.int fi.toInt32), .unset, .unset]) rfl ?_
      refine k_goto 64 (pc := 16) H d3_16 rfl ?_
      refine k_aloadN (pc := 64) H d3_64 rfl rfl ?_
      refine k_iloadN (pc := 65) H d3_65 rfl ?_
      refine k_baloadT (i := k) (x := fi) (pc := 66) H V (hk) (hx) d3_66 ?_
      refine k_iload (pc := 67) H d3_67 rfl ?_
      refine k_icmpF (pc := 69) H d3_69 (XT.ii_ne_f (rfl)) ?_
      refine k_iconst (1 : Int32) (pc := 72) H d3_72 rfl ?_
      refine k_goto 77 (pc := 73) H d3_73 rfl ?_
      exact k_retN' (t := .boolean) (by simp) (pc := 77) H d3_77 (by show 0 ≤ own_rm3_room.cells; decide) (by show 0 ≤ own_rm3_room.slots; decide) (⟨rfl, rfl⟩)
theorem d0_0 : decode code 0 = .ok (.lload_n 0, 1) := by decide +kernel
theorem d0_1 : decode code 1 = .ok (.ldc2_w 9, 3) := by decide +kernel
theorem d0_4 : decode code 4 = .ok (.land, 1) := by decide +kernel
theorem d0_5 : decode code 5 = .ok (.iload_n 2, 1) := by decide +kernel
theorem d0_6 : decode code 6 = .ok (.bipush 63, 2) := by decide +kernel
theorem d0_8 : decode code 8 = .ok (.iand, 1) := by decide +kernel
theorem d0_9 : decode code 9 = .ok (.lushr, 1) := by decide +kernel
theorem d0_10 : decode code 10 = .ok (.lstore 5, 2) := by decide +kernel
theorem d0_12 : decode code 12 = .ok (.iload_n 3, 1) := by decide +kernel
theorem d0_13 : decode code 13 = .ok (.bipush 7, 2) := by decide +kernel
theorem d0_15 : decode code 15 = .ok (.iand, 1) := by decide +kernel
theorem d0_16 : decode code 16 = .ok (.istore 7, 2) := by decide +kernel
theorem d0_18 : decode code 18 = .ok (.iload 4, 2) := by decide +kernel
theorem d0_20 : decode code 20 = .ok (.i2b, 1) := by decide +kernel
theorem d0_21 : decode code 21 = .ok (.istore 8, 2) := by decide +kernel
theorem d0_23 : decode code 23 = .ok (.bipush 16, 2) := by decide +kernel
theorem d0_25 : decode code 25 = .ok (.newarray .byte, 2) := by decide +kernel
theorem d0_27 : decode code 27 = .ok (.dup, 1) := by decide +kernel
theorem d0_28 : decode code 28 = .ok (.iconst 0, 1) := by decide +kernel
theorem d0_29 : decode code 29 = .ok (.iload 8, 2) := by decide +kernel
theorem d0_31 : decode code 31 = .ok (.bastore, 1) := by decide +kernel
theorem d0_32 : decode code 32 = .ok (.dup, 1) := by decide +kernel
theorem d0_33 : decode code 33 = .ok (.iconst 1, 1) := by decide +kernel
theorem d0_34 : decode code 34 = .ok (.iload 8, 2) := by decide +kernel
theorem d0_36 : decode code 36 = .ok (.bastore, 1) := by decide +kernel
theorem d0_37 : decode code 37 = .ok (.dup, 1) := by decide +kernel
theorem d0_38 : decode code 38 = .ok (.iconst 2, 1) := by decide +kernel
theorem d0_39 : decode code 39 = .ok (.iload 8, 2) := by decide +kernel
theorem d0_41 : decode code 41 = .ok (.bastore, 1) := by decide +kernel
theorem d0_42 : decode code 42 = .ok (.dup, 1) := by decide +kernel
theorem d0_43 : decode code 43 = .ok (.iconst 3, 1) := by decide +kernel
theorem d0_44 : decode code 44 = .ok (.iload 8, 2) := by decide +kernel
theorem d0_46 : decode code 46 = .ok (.bastore, 1) := by decide +kernel
theorem d0_47 : decode code 47 = .ok (.dup, 1) := by decide +kernel
theorem d0_48 : decode code 48 = .ok (.iconst 4, 1) := by decide +kernel
theorem d0_49 : decode code 49 = .ok (.iload 8, 2) := by decide +kernel
theorem d0_51 : decode code 51 = .ok (.bastore, 1) := by decide +kernel
theorem d0_52 : decode code 52 = .ok (.dup, 1) := by decide +kernel
theorem d0_53 : decode code 53 = .ok (.iconst 5, 1) := by decide +kernel
theorem d0_54 : decode code 54 = .ok (.iload 8, 2) := by decide +kernel
theorem d0_56 : decode code 56 = .ok (.bastore, 1) := by decide +kernel
theorem d0_57 : decode code 57 = .ok (.dup, 1) := by decide +kernel
theorem d0_58 : decode code 58 = .ok (.bipush 6, 2) := by decide +kernel
theorem d0_60 : decode code 60 = .ok (.iload 8, 2) := by decide +kernel
theorem d0_62 : decode code 62 = .ok (.bastore, 1) := by decide +kernel
theorem d0_63 : decode code 63 = .ok (.dup, 1) := by decide +kernel
theorem d0_64 : decode code 64 = .ok (.bipush 7, 2) := by decide +kernel
theorem d0_66 : decode code 66 = .ok (.iload 8, 2) := by decide +kernel
theorem d0_68 : decode code 68 = .ok (.bastore, 1) := by decide +kernel
theorem d0_69 : decode code 69 = .ok (.dup, 1) := by decide +kernel
theorem d0_70 : decode code 70 = .ok (.bipush 8, 2) := by decide +kernel
theorem d0_72 : decode code 72 = .ok (.iload 8, 2) := by decide +kernel
theorem d0_74 : decode code 74 = .ok (.bastore, 1) := by decide +kernel
theorem d0_75 : decode code 75 = .ok (.dup, 1) := by decide +kernel
theorem d0_76 : decode code 76 = .ok (.bipush 9, 2) := by decide +kernel
theorem d0_78 : decode code 78 = .ok (.iload 8, 2) := by decide +kernel
theorem d0_80 : decode code 80 = .ok (.bastore, 1) := by decide +kernel
theorem d0_81 : decode code 81 = .ok (.dup, 1) := by decide +kernel
theorem d0_82 : decode code 82 = .ok (.bipush 10, 2) := by decide +kernel
theorem d0_84 : decode code 84 = .ok (.iload 8, 2) := by decide +kernel
theorem d0_86 : decode code 86 = .ok (.bastore, 1) := by decide +kernel
theorem d0_87 : decode code 87 = .ok (.dup, 1) := by decide +kernel
theorem d0_88 : decode code 88 = .ok (.bipush 11, 2) := by decide +kernel
theorem d0_90 : decode code 90 = .ok (.iload 8, 2) := by decide +kernel
theorem d0_92 : decode code 92 = .ok (.bastore, 1) := by decide +kernel
theorem d0_93 : decode code 93 = .ok (.dup, 1) := by decide +kernel
theorem d0_94 : decode code 94 = .ok (.bipush 12, 2) := by decide +kernel
theorem d0_96 : decode code 96 = .ok (.iload 8, 2) := by decide +kernel
theorem d0_98 : decode code 98 = .ok (.bastore, 1) := by decide +kernel
theorem d0_99 : decode code 99 = .ok (.dup, 1) := by decide +kernel
theorem d0_100 : decode code 100 = .ok (.bipush 13, 2) := by decide +kernel
theorem d0_102 : decode code 102 = .ok (.iload 8, 2) := by decide +kernel
theorem d0_104 : decode code 104 = .ok (.bastore, 1) := by decide +kernel
theorem d0_105 : decode code 105 = .ok (.dup, 1) := by decide +kernel
theorem d0_106 : decode code 106 = .ok (.bipush 14, 2) := by decide +kernel
theorem d0_108 : decode code 108 = .ok (.iload 8, 2) := by decide +kernel
theorem d0_110 : decode code 110 = .ok (.bastore, 1) := by decide +kernel
theorem d0_111 : decode code 111 = .ok (.dup, 1) := by decide +kernel
theorem d0_112 : decode code 112 = .ok (.bipush 15, 2) := by decide +kernel
theorem d0_114 : decode code 114 = .ok (.iload 8, 2) := by decide +kernel
theorem d0_116 : decode code 116 = .ok (.bastore, 1) := by decide +kernel
theorem d0_117 : decode code 117 = .ok (.astore 9, 2) := by decide +kernel
theorem d0_119 : decode code 119 = .ok (.lload 5, 2) := by decide +kernel
theorem d0_121 : decode code 121 = .ok (.invokestatic 11, 3) := by decide +kernel
theorem d0_124 : decode code 124 = .ok (.istore 10, 2) := by decide +kernel
theorem d0_126 : decode code 126 = .ok (.aload 9, 2) := by decide +kernel
theorem d0_128 : decode code 128 = .ok (.iload 7, 2) := by decide +kernel
theorem d0_130 : decode code 130 = .ok (.lload 5, 2) := by decide +kernel
theorem d0_132 : decode code 132 = .ok (.invokestatic 17, 3) := by decide +kernel
theorem d0_135 : decode code 135 = .ok (.istore 11, 2) := by decide +kernel
theorem d0_137 : decode code 137 = .ok (.iload 11, 2) := by decide +kernel
theorem d0_139 : decode code 139 = .ok (.iload 7, 2) := by decide +kernel
theorem d0_141 : decode code 141 = .ok (.iload 10, 2) := by decide +kernel
theorem d0_143 : decode code 143 = .ok (.iadd, 1) := by decide +kernel
theorem d0_144 : decode code 144 = .ok (.if_icmp .eq 5, 3) := by decide +kernel
theorem d0_147 : decode code 147 = .ok (.iconst 0, 1) := by decide +kernel
theorem d0_148 : decode code 148 = .ok (.ireturn, 1) := by decide +kernel
theorem d0_149 : decode code 149 = .ok (.aload 9, 2) := by decide +kernel
theorem d0_151 : decode code 151 = .ok (.iconst 0, 1) := by decide +kernel
theorem d0_152 : decode code 152 = .ok (.iload 7, 2) := by decide +kernel
theorem d0_154 : decode code 154 = .ok (.iload 10, 2) := by decide +kernel
theorem d0_156 : decode code 156 = .ok (.lload 5, 2) := by decide +kernel
theorem d0_158 : decode code 158 = .ok (.iload 8, 2) := by decide +kernel
theorem d0_160 : decode code 160 = .ok (.invokestatic 23, 3) := by decide +kernel
theorem d0_163 : decode code 163 = .ok (.ifCond .eq 272, 3) := by decide +kernel
theorem d0_166 : decode code 166 = .ok (.aload 9, 2) := by decide +kernel
theorem d0_168 : decode code 168 = .ok (.iconst 1, 1) := by decide +kernel
theorem d0_169 : decode code 169 = .ok (.iload 7, 2) := by decide +kernel
theorem d0_171 : decode code 171 = .ok (.iload 10, 2) := by decide +kernel
theorem d0_173 : decode code 173 = .ok (.lload 5, 2) := by decide +kernel
theorem d0_175 : decode code 175 = .ok (.iload 8, 2) := by decide +kernel
theorem d0_177 : decode code 177 = .ok (.invokestatic 23, 3) := by decide +kernel
theorem d0_180 : decode code 180 = .ok (.ifCond .eq 255, 3) := by decide +kernel
theorem d0_183 : decode code 183 = .ok (.aload 9, 2) := by decide +kernel
theorem d0_185 : decode code 185 = .ok (.iconst 2, 1) := by decide +kernel
theorem d0_186 : decode code 186 = .ok (.iload 7, 2) := by decide +kernel
theorem d0_188 : decode code 188 = .ok (.iload 10, 2) := by decide +kernel
theorem d0_190 : decode code 190 = .ok (.lload 5, 2) := by decide +kernel
theorem d0_192 : decode code 192 = .ok (.iload 8, 2) := by decide +kernel
theorem d0_194 : decode code 194 = .ok (.invokestatic 23, 3) := by decide +kernel
theorem d0_197 : decode code 197 = .ok (.ifCond .eq 238, 3) := by decide +kernel
theorem d0_200 : decode code 200 = .ok (.aload 9, 2) := by decide +kernel
theorem d0_202 : decode code 202 = .ok (.iconst 3, 1) := by decide +kernel
theorem d0_203 : decode code 203 = .ok (.iload 7, 2) := by decide +kernel
theorem d0_205 : decode code 205 = .ok (.iload 10, 2) := by decide +kernel
theorem d0_207 : decode code 207 = .ok (.lload 5, 2) := by decide +kernel
theorem d0_209 : decode code 209 = .ok (.iload 8, 2) := by decide +kernel
theorem d0_211 : decode code 211 = .ok (.invokestatic 23, 3) := by decide +kernel
theorem d0_214 : decode code 214 = .ok (.ifCond .eq 221, 3) := by decide +kernel
theorem d0_217 : decode code 217 = .ok (.aload 9, 2) := by decide +kernel
theorem d0_219 : decode code 219 = .ok (.iconst 4, 1) := by decide +kernel
theorem d0_220 : decode code 220 = .ok (.iload 7, 2) := by decide +kernel
theorem d0_222 : decode code 222 = .ok (.iload 10, 2) := by decide +kernel
theorem d0_224 : decode code 224 = .ok (.lload 5, 2) := by decide +kernel
theorem d0_226 : decode code 226 = .ok (.iload 8, 2) := by decide +kernel
theorem d0_228 : decode code 228 = .ok (.invokestatic 23, 3) := by decide +kernel
theorem d0_231 : decode code 231 = .ok (.ifCond .eq 204, 3) := by decide +kernel
theorem d0_234 : decode code 234 = .ok (.aload 9, 2) := by decide +kernel
theorem d0_236 : decode code 236 = .ok (.iconst 5, 1) := by decide +kernel
theorem d0_237 : decode code 237 = .ok (.iload 7, 2) := by decide +kernel
theorem d0_239 : decode code 239 = .ok (.iload 10, 2) := by decide +kernel
theorem d0_241 : decode code 241 = .ok (.lload 5, 2) := by decide +kernel
theorem d0_243 : decode code 243 = .ok (.iload 8, 2) := by decide +kernel
theorem d0_245 : decode code 245 = .ok (.invokestatic 23, 3) := by decide +kernel
theorem d0_248 : decode code 248 = .ok (.ifCond .eq 187, 3) := by decide +kernel
theorem d0_251 : decode code 251 = .ok (.aload 9, 2) := by decide +kernel
theorem d0_253 : decode code 253 = .ok (.bipush 6, 2) := by decide +kernel
theorem d0_255 : decode code 255 = .ok (.iload 7, 2) := by decide +kernel
theorem d0_257 : decode code 257 = .ok (.iload 10, 2) := by decide +kernel
theorem d0_259 : decode code 259 = .ok (.lload 5, 2) := by decide +kernel
theorem d0_261 : decode code 261 = .ok (.iload 8, 2) := by decide +kernel
theorem d0_263 : decode code 263 = .ok (.invokestatic 23, 3) := by decide +kernel
theorem d0_266 : decode code 266 = .ok (.ifCond .eq 169, 3) := by decide +kernel
theorem d0_269 : decode code 269 = .ok (.aload 9, 2) := by decide +kernel
theorem d0_271 : decode code 271 = .ok (.bipush 7, 2) := by decide +kernel
theorem d0_273 : decode code 273 = .ok (.iload 7, 2) := by decide +kernel
theorem d0_275 : decode code 275 = .ok (.iload 10, 2) := by decide +kernel
theorem d0_277 : decode code 277 = .ok (.lload 5, 2) := by decide +kernel
theorem d0_279 : decode code 279 = .ok (.iload 8, 2) := by decide +kernel
theorem d0_281 : decode code 281 = .ok (.invokestatic 23, 3) := by decide +kernel
theorem d0_284 : decode code 284 = .ok (.ifCond .eq 151, 3) := by decide +kernel
theorem d0_287 : decode code 287 = .ok (.aload 9, 2) := by decide +kernel
theorem d0_289 : decode code 289 = .ok (.bipush 8, 2) := by decide +kernel
theorem d0_291 : decode code 291 = .ok (.iload 7, 2) := by decide +kernel
theorem d0_293 : decode code 293 = .ok (.iload 10, 2) := by decide +kernel
theorem d0_295 : decode code 295 = .ok (.lload 5, 2) := by decide +kernel
theorem d0_297 : decode code 297 = .ok (.iload 8, 2) := by decide +kernel
theorem d0_299 : decode code 299 = .ok (.invokestatic 23, 3) := by decide +kernel
theorem d0_302 : decode code 302 = .ok (.ifCond .eq 133, 3) := by decide +kernel
theorem d0_305 : decode code 305 = .ok (.aload 9, 2) := by decide +kernel
theorem d0_307 : decode code 307 = .ok (.bipush 9, 2) := by decide +kernel
theorem d0_309 : decode code 309 = .ok (.iload 7, 2) := by decide +kernel
theorem d0_311 : decode code 311 = .ok (.iload 10, 2) := by decide +kernel
theorem d0_313 : decode code 313 = .ok (.lload 5, 2) := by decide +kernel
theorem d0_315 : decode code 315 = .ok (.iload 8, 2) := by decide +kernel
theorem d0_317 : decode code 317 = .ok (.invokestatic 23, 3) := by decide +kernel
theorem d0_320 : decode code 320 = .ok (.ifCond .eq 115, 3) := by decide +kernel
theorem d0_323 : decode code 323 = .ok (.aload 9, 2) := by decide +kernel
theorem d0_325 : decode code 325 = .ok (.bipush 10, 2) := by decide +kernel
theorem d0_327 : decode code 327 = .ok (.iload 7, 2) := by decide +kernel
theorem d0_329 : decode code 329 = .ok (.iload 10, 2) := by decide +kernel
theorem d0_331 : decode code 331 = .ok (.lload 5, 2) := by decide +kernel
theorem d0_333 : decode code 333 = .ok (.iload 8, 2) := by decide +kernel
theorem d0_335 : decode code 335 = .ok (.invokestatic 23, 3) := by decide +kernel
theorem d0_338 : decode code 338 = .ok (.ifCond .eq 97, 3) := by decide +kernel
theorem d0_341 : decode code 341 = .ok (.aload 9, 2) := by decide +kernel
theorem d0_343 : decode code 343 = .ok (.bipush 11, 2) := by decide +kernel
theorem d0_345 : decode code 345 = .ok (.iload 7, 2) := by decide +kernel
theorem d0_347 : decode code 347 = .ok (.iload 10, 2) := by decide +kernel
theorem d0_349 : decode code 349 = .ok (.lload 5, 2) := by decide +kernel
theorem d0_351 : decode code 351 = .ok (.iload 8, 2) := by decide +kernel
theorem d0_353 : decode code 353 = .ok (.invokestatic 23, 3) := by decide +kernel
theorem d0_356 : decode code 356 = .ok (.ifCond .eq 79, 3) := by decide +kernel
theorem d0_359 : decode code 359 = .ok (.aload 9, 2) := by decide +kernel
theorem d0_361 : decode code 361 = .ok (.bipush 12, 2) := by decide +kernel
theorem d0_363 : decode code 363 = .ok (.iload 7, 2) := by decide +kernel
theorem d0_365 : decode code 365 = .ok (.iload 10, 2) := by decide +kernel
theorem d0_367 : decode code 367 = .ok (.lload 5, 2) := by decide +kernel
theorem d0_369 : decode code 369 = .ok (.iload 8, 2) := by decide +kernel
theorem d0_371 : decode code 371 = .ok (.invokestatic 23, 3) := by decide +kernel
theorem d0_374 : decode code 374 = .ok (.ifCond .eq 61, 3) := by decide +kernel
theorem d0_377 : decode code 377 = .ok (.aload 9, 2) := by decide +kernel
theorem d0_379 : decode code 379 = .ok (.bipush 13, 2) := by decide +kernel
theorem d0_381 : decode code 381 = .ok (.iload 7, 2) := by decide +kernel
theorem d0_383 : decode code 383 = .ok (.iload 10, 2) := by decide +kernel
theorem d0_385 : decode code 385 = .ok (.lload 5, 2) := by decide +kernel
theorem d0_387 : decode code 387 = .ok (.iload 8, 2) := by decide +kernel
theorem d0_389 : decode code 389 = .ok (.invokestatic 23, 3) := by decide +kernel
theorem d0_392 : decode code 392 = .ok (.ifCond .eq 43, 3) := by decide +kernel
theorem d0_395 : decode code 395 = .ok (.aload 9, 2) := by decide +kernel
theorem d0_397 : decode code 397 = .ok (.bipush 14, 2) := by decide +kernel
theorem d0_399 : decode code 399 = .ok (.iload 7, 2) := by decide +kernel
theorem d0_401 : decode code 401 = .ok (.iload 10, 2) := by decide +kernel
theorem d0_403 : decode code 403 = .ok (.lload 5, 2) := by decide +kernel
theorem d0_405 : decode code 405 = .ok (.iload 8, 2) := by decide +kernel
theorem d0_407 : decode code 407 = .ok (.invokestatic 23, 3) := by decide +kernel
theorem d0_410 : decode code 410 = .ok (.ifCond .eq 25, 3) := by decide +kernel
theorem d0_413 : decode code 413 = .ok (.aload 9, 2) := by decide +kernel
theorem d0_415 : decode code 415 = .ok (.bipush 15, 2) := by decide +kernel
theorem d0_417 : decode code 417 = .ok (.iload 7, 2) := by decide +kernel
theorem d0_419 : decode code 419 = .ok (.iload 10, 2) := by decide +kernel
theorem d0_421 : decode code 421 = .ok (.lload 5, 2) := by decide +kernel
theorem d0_423 : decode code 423 = .ok (.iload 8, 2) := by decide +kernel
theorem d0_425 : decode code 425 = .ok (.invokestatic 23, 3) := by decide +kernel
theorem d0_428 : decode code 428 = .ok (.ifCond .eq 7, 3) := by decide +kernel
theorem d0_431 : decode code 431 = .ok (.iconst 1, 1) := by decide +kernel
theorem d0_432 : decode code 432 = .ok (.goto 4, 3) := by decide +kernel
theorem d0_435 : decode code 435 = .ok (.iconst 0, 1) := by decide +kernel
theorem d0_436 : decode code 436 = .ok (.ireturn, 1) := by decide +kernel
set_option maxRecDepth 65536 in
set_option maxHeartbeats 40000000 in
theorem rm0 (l : Launch) (Z : State) (a0 : Array Value) (hw : ∀ d ∈ tables_1, d.before a0 Z = true) (ws : List Jvm.Cond) (n0 : Nat) (h0 : Heap) (Z0 : n0 ≤ h0.size) (xx : Int64) (ss : Int32) (aa : Int32) (ff : Int32) :
    MetFree l x (head1 (Jvm.Cond.code x code maxLocals ret :: ws) room_1) (fun as_ U => as_ = #[(.long xx), (.int ss), (.int aa), (.int ff)] ∧ Z.Warmed39 U.vm ∧ U.heap = h0) (fun _ _ _ _ _ => True) (fun _ U o U' => ∃ v L, o = .returned v ∧ ((fun v h => v = some (.int 1)) v U'.heap ∧ Fr n0 L) ∧ FrameEnd U o U' L 16 128) := by
  refine met_of (Q := fun v h => v = some (.int 1)) #[.val (.long xx), .second, .val (.int ss), .val (.int aa), .val (.int ff), .unset, .unset, .unset, .unset, .unset, .unset, .unset] (plainFor_of_name pn_0) Z0 (fun m => by first | (simp [entryFrame, mkF, argsToLocals, Value.category, maxLocals]; done) | rfl) ?_
  intro C H
  refine k_lloadN (pc := 0) H d0_0 rfl ?_
  refine k_ldc2J (v := (9223372036854775807 : Int64)) (pc := 1) H (wd hw 0 rfl) d0_1 ?_
  refine k_land (pc := 4) H d0_4 ?_
  refine k_iloadN (pc := 5) H d0_5 rfl ?_
  refine k_bipush (63 : Int32) (pc := 6) H d0_6 rfl ?_
  refine k_iand (pc := 8) H d0_8 ?_
  refine k_lushr (pc := 9) H d0_9 ?_
  generalize hv_vv : (XT.ushrL (xx &&& (9223372036854775807 : Int64)) (ss &&& (63 : Int32))) = vv
  refine k_lstore (pc := 10) H d0_10 (Ls' := #[.val (.long xx), .second, .val (.int ss), .val (.int aa), .val (.int ff), .val (.long vv), .second, .unset, .unset, .unset, .unset, .unset]) rfl ?_
  refine k_iloadN (pc := 12) H d0_12 rfl ?_
  refine k_bipush (7 : Int32) (pc := 13) H d0_13 rfl ?_
  refine k_iand (pc := 15) H d0_15 ?_
  generalize hv_ai : (aa &&& (7 : Int32)) = ai
  refine k_istore (pc := 16) H d0_16 (Ls' := #[.val (.long xx), .second, .val (.int ss), .val (.int aa), .val (.int ff), .val (.long vv), .second, .val (.int ai), .unset, .unset, .unset, .unset]) rfl ?_
  refine k_iload (pc := 18) H d0_18 rfl ?_
  refine k_i2b (pc := 20) H d0_20 ?_
  refine k_istore (pc := 21) H d0_21 (Ls' := #[.val (.long xx), .second, .val (.int ss), .val (.int aa), .val (.int ff), .val (.long vv), .second, .val (.int ai), .val (.int ff.toInt8.toInt32), .unset, .unset, .unset]) rfl ?_
  refine k_bipush (16 : Int32) (pc := 23) H d0_23 rfl ?_
  obtain ⟨m, hv⟩ : ∃ m : Nat, vv.toInt = (m : Int) := by
    obtain ⟨j, hj, lj⟩ := mask_nat ss 63 6 (by decide) (by decide)
    have e1 := Jvm.Kit.i64_mask xx 9223372036854775807 (k := 63) (by decide) (by decide)
    have e2 : (xx &&& (9223372036854775807 : Int64)).toInt = ((xx.toInt % 2 ^ 63).toNat : Int) := by rw [e1]; omega
    exact ⟨_, by rw [← hv_vv]; exact ushrL_nat e2 hj (by omega)⟩
  obtain ⟨t, hat, lt⟩ := mask_nat aa 7 3 (by decide) (by decide)
  rw [hv_ai] at hat
  have lt8 : t < 8 := lt
  refine k_new_byte (16) 16 (pc := 25) H (wd hw 1 rfl) d0_25 (by decide) (by decide) (by decide) (by decide) (by decide) ?_
  intro h14 a ea15 ge16 E17 XA13 V18
  refine k_dup (pc := 27) H d0_27 rfl ?_
  refine k_iconst (0 : Int32) (pc := 28) H d0_28 rfl ?_
  refine k_iload (pc := 29) H d0_29 rfl ?_
  refine k_bastoreT (i := 0) (pc := 31) H V18 (by decide) (by simp) ge16 d0_31 ?_
  intro h19 K20 V21
  refine k_dup (pc := 32) H d0_32 rfl ?_
  refine k_iconst (1 : Int32) (pc := 33) H d0_33 rfl ?_
  refine k_iload (pc := 34) H d0_34 rfl ?_
  refine k_bastoreT (i := 1) (pc := 36) H V21 (by decide) (by simp) ge16 d0_36 ?_
  intro h22 K23 V24
  refine k_dup (pc := 37) H d0_37 rfl ?_
  refine k_iconst (2 : Int32) (pc := 38) H d0_38 rfl ?_
  refine k_iload (pc := 39) H d0_39 rfl ?_
  refine k_bastoreT (i := 2) (pc := 41) H V24 (by decide) (by simp) ge16 d0_41 ?_
  intro h25 K26 V27
  refine k_dup (pc := 42) H d0_42 rfl ?_
  refine k_iconst (3 : Int32) (pc := 43) H d0_43 rfl ?_
  refine k_iload (pc := 44) H d0_44 rfl ?_
  refine k_bastoreT (i := 3) (pc := 46) H V27 (by decide) (by simp) ge16 d0_46 ?_
  intro h28 K29 V30
  refine k_dup (pc := 47) H d0_47 rfl ?_
  refine k_iconst (4 : Int32) (pc := 48) H d0_48 rfl ?_
  refine k_iload (pc := 49) H d0_49 rfl ?_
  refine k_bastoreT (i := 4) (pc := 51) H V30 (by decide) (by simp) ge16 d0_51 ?_
  intro h31 K32 V33
  refine k_dup (pc := 52) H d0_52 rfl ?_
  refine k_iconst (5 : Int32) (pc := 53) H d0_53 rfl ?_
  refine k_iload (pc := 54) H d0_54 rfl ?_
  refine k_bastoreT (i := 5) (pc := 56) H V33 (by decide) (by simp) ge16 d0_56 ?_
  intro h34 K35 V36
  refine k_dup (pc := 57) H d0_57 rfl ?_
  refine k_bipush (6 : Int32) (pc := 58) H d0_58 rfl ?_
  refine k_iload (pc := 60) H d0_60 rfl ?_
  refine k_bastoreT (i := 6) (pc := 62) H V36 (by decide) (by simp) ge16 d0_62 ?_
  intro h37 K38 V39
  refine k_dup (pc := 63) H d0_63 rfl ?_
  refine k_bipush (7 : Int32) (pc := 64) H d0_64 rfl ?_
  refine k_iload (pc := 66) H d0_66 rfl ?_
  refine k_bastoreT (i := 7) (pc := 68) H V39 (by decide) (by simp) ge16 d0_68 ?_
  intro h40 K41 V42
  refine k_dup (pc := 69) H d0_69 rfl ?_
  refine k_bipush (8 : Int32) (pc := 70) H d0_70 rfl ?_
  refine k_iload (pc := 72) H d0_72 rfl ?_
  refine k_bastoreT (i := 8) (pc := 74) H V42 (by decide) (by simp) ge16 d0_74 ?_
  intro h43 K44 V45
  refine k_dup (pc := 75) H d0_75 rfl ?_
  refine k_bipush (9 : Int32) (pc := 76) H d0_76 rfl ?_
  refine k_iload (pc := 78) H d0_78 rfl ?_
  refine k_bastoreT (i := 9) (pc := 80) H V45 (by decide) (by simp) ge16 d0_80 ?_
  intro h46 K47 V48
  refine k_dup (pc := 81) H d0_81 rfl ?_
  refine k_bipush (10 : Int32) (pc := 82) H d0_82 rfl ?_
  refine k_iload (pc := 84) H d0_84 rfl ?_
  refine k_bastoreT (i := 10) (pc := 86) H V48 (by decide) (by simp) ge16 d0_86 ?_
  intro h49 K50 V51
  refine k_dup (pc := 87) H d0_87 rfl ?_
  refine k_bipush (11 : Int32) (pc := 88) H d0_88 rfl ?_
  refine k_iload (pc := 90) H d0_90 rfl ?_
  refine k_bastoreT (i := 11) (pc := 92) H V51 (by decide) (by simp) ge16 d0_92 ?_
  intro h52 K53 V54
  refine k_dup (pc := 93) H d0_93 rfl ?_
  refine k_bipush (12 : Int32) (pc := 94) H d0_94 rfl ?_
  refine k_iload (pc := 96) H d0_96 rfl ?_
  refine k_bastoreT (i := 12) (pc := 98) H V54 (by decide) (by simp) ge16 d0_98 ?_
  intro h55 K56 V57
  refine k_dup (pc := 99) H d0_99 rfl ?_
  refine k_bipush (13 : Int32) (pc := 100) H d0_100 rfl ?_
  refine k_iload (pc := 102) H d0_102 rfl ?_
  refine k_bastoreT (i := 13) (pc := 104) H V57 (by decide) (by simp) ge16 d0_104 ?_
  intro h58 K59 V60
  refine k_dup (pc := 105) H d0_105 rfl ?_
  refine k_bipush (14 : Int32) (pc := 106) H d0_106 rfl ?_
  refine k_iload (pc := 108) H d0_108 rfl ?_
  refine k_bastoreT (i := 14) (pc := 110) H V60 (by decide) (by simp) ge16 d0_110 ?_
  intro h61 K62 V63
  refine k_dup (pc := 111) H d0_111 rfl ?_
  refine k_bipush (15 : Int32) (pc := 112) H d0_112 rfl ?_
  refine k_iload (pc := 114) H d0_114 rfl ?_
  refine k_bastoreT (i := 15) (pc := 116) H V63 (by decide) (by simp) ge16 d0_116 ?_
  intro h64 K65 V66
  refine k_astore (pc := 117) H d0_117 rfl (Ls' := #[.val (.long xx), .second, .val (.int ss), .val (.int aa), .val (.int ff), .val (.long vv), .second, .val (.int ai), .val (.int ff.toInt8.toInt32), .val (.ref a), .unset, .unset]) rfl ?_
  refine k_lload (pc := 119) H d0_119 rfl ?_
  obtain ⟨fi, hfi⟩ : ∃ z, z = ff.toInt8 := ⟨_, rfl⟩
  have VA : BA Z h64 a (List.replicate 16 fi) := by rw [hfi]; simpa [List.replicate] using V66
  rw [← hfi]
  refine k_invS (y := (⟨"mandate/PackerPutPinLaw", "count", "(J)I"⟩ : MethodName)) (st := []) [(.long vv)] 0 (pc := 121) H (wd hw 2 rfl) (wd hw 3 rfl) (wd hw 4 rfl) (wd hw 5 rfl) (by decide) (fun z0 => rm1 l Z a0 hw n0 h64 z0 vv m hv) (lenOf pd_0 rfl) d0_121 rfl rfl rfl (by decide) (by decide) (by decide) (by decide) ?_
  rintro v hx ⟨i, r, hr, li, hi1, hi2, rfl, ex⟩
  rw [ex]
  clear ex hx
  show W l room_1 C _ h64 1 16 124 #[.val (.long xx), .second, .val (.int ss), .val (.int aa), .val (.int ff), .val (.long vv), .second, .val (.int ai), .val (.int fi.toInt32), .val (.ref a), .unset, .unset] [(.int r)]
  refine k_istore (pc := 124) H d0_124 (Ls' := #[.val (.long xx), .second, .val (.int ss), .val (.int aa), .val (.int ff), .val (.long vv), .second, .val (.int ai), .val (.int fi.toInt32), .val (.ref a), .val (.int r), .unset]) rfl ?_
  refine k_aload (pc := 126) H d0_126 rfl rfl ?_
  refine k_iload (pc := 128) H d0_128 rfl ?_
  refine k_lload (pc := 130) H d0_130 rfl ?_
  refine k_invS (y := (⟨"mandate/Packer", "put", "([BIJ)I"⟩ : MethodName)) (st := []) [(.ref a), (.int ai), (.long vv)] 0 (pc := 132) H (wd hw 7 rfl) (wd hw 8 rfl) (wd hw 9 rfl) (wd hw 10 rfl) (by decide) (fun z0 => rm2 l Z a0 hw n0 h64 z0 a (List.replicate 16 fi) ai vv t m ge16 VA hat hv (by rw [List.length_replicate]; omega) (by rw [List.length_replicate]; decide)) (lenOf pd_1 rfl) d0_132 rfl rfl rfl (by decide) (by decide) (by decide) (by decide) ?_
  rintro v hP ⟨i', r', ys, hr', hi1', hi2', h4, rfl, K, VB⟩
  show W l room_1 C _ hP 1 16 135 #[.val (.long xx), .second, .val (.int ss), .val (.int aa), .val (.int ff), .val (.long vv), .second, .val (.int ai), .val (.int fi.toInt32), .val (.ref a), .val (.int r), .unset] [(.int r')]
  refine k_istore (pc := 135) H d0_135 (Ls' := #[.val (.long xx), .second, .val (.int ss), .val (.int aa), .val (.int ff), .val (.long vv), .second, .val (.int ai), .val (.int fi.toInt32), .val (.ref a), .val (.int r), .val (.int r')]) rfl ?_
  refine k_iload (pc := 137) H d0_137 rfl ?_
  refine k_iload (pc := 139) H d0_139 rfl ?_
  refine k_iload (pc := 141) H d0_141 rfl ?_
  refine k_iadd (pc := 143) H d0_143 ?_
  obtain rfl : i' = i := own_uniq hi1' hi2' hi1 hi2
  refine k_icmpT 149 (pc := 144) H d0_144 rfl (XT.ii_eq_t ((eq_nat hr' (add_nat hat hr (by omega))).mpr (by omega))) ?_
  refine k_aload (pc := 149) H d0_149 rfl rfl ?_
  refine k_iconst (0 : Int32) (pc := 151) H d0_151 rfl ?_
  refine k_iload (pc := 152) H d0_152 rfl ?_
  refine k_iload (pc := 154) H d0_154 rfl ?_
  refine k_lload (pc := 156) H d0_156 rfl ?_
  refine k_iload (pc := 158) H d0_158 rfl ?_
  refine k_invS (y := (⟨"mandate/PackerPutPinLaw", "byteOk", "([BIIIJB)Z"⟩ : MethodName)) (st := []) [(.ref a), (.int (0 : Int32)), (.int ai), (.int r), (.long vv), (.int fi.toInt32)] 0 (pc := 160) H (wd hw 12 rfl) (wd hw 13 rfl) (wd hw 4 rfl) (wd hw 14 rfl) (by decide) (fun z0 => rm3 l Z a0 hw n0 hP z0 a ys (0 : Int32) ai r vv fi 0 t i' m VB rfl hat hr hv li lt8 (by decide) (own_hx h4 0 (by decide))) (lenOf pd_2 rfl) d0_160 rfl rfl rfl (by decide) (by decide) (by decide) (by decide) ?_
  rintro v hx ⟨rfl, ex⟩
  rw [ex]
  clear ex hx
  show W l room_1 C _ hP 1 16 163 #[.val (.long xx), .second, .val (.int ss), .val (.int aa), .val (.int ff), .val (.long vv), .second, .val (.int ai), .val (.int fi.toInt32), .val (.ref a), .val (.int r), .val (.int r')] [(.int (1 : Int32))]
  refine k_ifF (pc := 163) H d0_163 (XT.i0_eq_f (by decide)) ?_
  refine k_aload (pc := 166) H d0_166 rfl rfl ?_
  refine k_iconst (1 : Int32) (pc := 168) H d0_168 rfl ?_
  refine k_iload (pc := 169) H d0_169 rfl ?_
  refine k_iload (pc := 171) H d0_171 rfl ?_
  refine k_lload (pc := 173) H d0_173 rfl ?_
  refine k_iload (pc := 175) H d0_175 rfl ?_
  refine k_invS (y := (⟨"mandate/PackerPutPinLaw", "byteOk", "([BIIIJB)Z"⟩ : MethodName)) (st := []) [(.ref a), (.int (1 : Int32)), (.int ai), (.int r), (.long vv), (.int fi.toInt32)] 0 (pc := 177) H (wd hw 12 rfl) (wd hw 13 rfl) (wd hw 4 rfl) (wd hw 14 rfl) (by decide) (fun z0 => rm3 l Z a0 hw n0 hP z0 a ys (1 : Int32) ai r vv fi 1 t i' m VB rfl hat hr hv li lt8 (by decide) (own_hx h4 1 (by decide))) (lenOf pd_2 rfl) d0_177 rfl rfl rfl (by decide) (by decide) (by decide) (by decide) ?_
  rintro v hx ⟨rfl, ex⟩
  rw [ex]
  clear ex hx
  show W l room_1 C _ hP 1 16 180 #[.val (.long xx), .second, .val (.int ss), .val (.int aa), .val (.int ff), .val (.long vv), .second, .val (.int ai), .val (.int fi.toInt32), .val (.ref a), .val (.int r), .val (.int r')] [(.int (1 : Int32))]
  refine k_ifF (pc := 180) H d0_180 (XT.i0_eq_f (by decide)) ?_
  refine k_aload (pc := 183) H d0_183 rfl rfl ?_
  refine k_iconst (2 : Int32) (pc := 185) H d0_185 rfl ?_
  refine k_iload (pc := 186) H d0_186 rfl ?_
  refine k_iload (pc := 188) H d0_188 rfl ?_
  refine k_lload (pc := 190) H d0_190 rfl ?_
  refine k_iload (pc := 192) H d0_192 rfl ?_
  refine k_invS (y := (⟨"mandate/PackerPutPinLaw", "byteOk", "([BIIIJB)Z"⟩ : MethodName)) (st := []) [(.ref a), (.int (2 : Int32)), (.int ai), (.int r), (.long vv), (.int fi.toInt32)] 0 (pc := 194) H (wd hw 12 rfl) (wd hw 13 rfl) (wd hw 4 rfl) (wd hw 14 rfl) (by decide) (fun z0 => rm3 l Z a0 hw n0 hP z0 a ys (2 : Int32) ai r vv fi 2 t i' m VB rfl hat hr hv li lt8 (by decide) (own_hx h4 2 (by decide))) (lenOf pd_2 rfl) d0_194 rfl rfl rfl (by decide) (by decide) (by decide) (by decide) ?_
  rintro v hx ⟨rfl, ex⟩
  rw [ex]
  clear ex hx
  show W l room_1 C _ hP 1 16 197 #[.val (.long xx), .second, .val (.int ss), .val (.int aa), .val (.int ff), .val (.long vv), .second, .val (.int ai), .val (.int fi.toInt32), .val (.ref a), .val (.int r), .val (.int r')] [(.int (1 : Int32))]
  refine k_ifF (pc := 197) H d0_197 (XT.i0_eq_f (by decide)) ?_
  refine k_aload (pc := 200) H d0_200 rfl rfl ?_
  refine k_iconst (3 : Int32) (pc := 202) H d0_202 rfl ?_
  refine k_iload (pc := 203) H d0_203 rfl ?_
  refine k_iload (pc := 205) H d0_205 rfl ?_
  refine k_lload (pc := 207) H d0_207 rfl ?_
  refine k_iload (pc := 209) H d0_209 rfl ?_
  refine k_invS (y := (⟨"mandate/PackerPutPinLaw", "byteOk", "([BIIIJB)Z"⟩ : MethodName)) (st := []) [(.ref a), (.int (3 : Int32)), (.int ai), (.int r), (.long vv), (.int fi.toInt32)] 0 (pc := 211) H (wd hw 12 rfl) (wd hw 13 rfl) (wd hw 4 rfl) (wd hw 14 rfl) (by decide) (fun z0 => rm3 l Z a0 hw n0 hP z0 a ys (3 : Int32) ai r vv fi 3 t i' m VB rfl hat hr hv li lt8 (by decide) (own_hx h4 3 (by decide))) (lenOf pd_2 rfl) d0_211 rfl rfl rfl (by decide) (by decide) (by decide) (by decide) ?_
  rintro v hx ⟨rfl, ex⟩
  rw [ex]
  clear ex hx
  show W l room_1 C _ hP 1 16 214 #[.val (.long xx), .second, .val (.int ss), .val (.int aa), .val (.int ff), .val (.long vv), .second, .val (.int ai), .val (.int fi.toInt32), .val (.ref a), .val (.int r), .val (.int r')] [(.int (1 : Int32))]
  refine k_ifF (pc := 214) H d0_214 (XT.i0_eq_f (by decide)) ?_
  refine k_aload (pc := 217) H d0_217 rfl rfl ?_
  refine k_iconst (4 : Int32) (pc := 219) H d0_219 rfl ?_
  refine k_iload (pc := 220) H d0_220 rfl ?_
  refine k_iload (pc := 222) H d0_222 rfl ?_
  refine k_lload (pc := 224) H d0_224 rfl ?_
  refine k_iload (pc := 226) H d0_226 rfl ?_
  refine k_invS (y := (⟨"mandate/PackerPutPinLaw", "byteOk", "([BIIIJB)Z"⟩ : MethodName)) (st := []) [(.ref a), (.int (4 : Int32)), (.int ai), (.int r), (.long vv), (.int fi.toInt32)] 0 (pc := 228) H (wd hw 12 rfl) (wd hw 13 rfl) (wd hw 4 rfl) (wd hw 14 rfl) (by decide) (fun z0 => rm3 l Z a0 hw n0 hP z0 a ys (4 : Int32) ai r vv fi 4 t i' m VB rfl hat hr hv li lt8 (by decide) (own_hx h4 4 (by decide))) (lenOf pd_2 rfl) d0_228 rfl rfl rfl (by decide) (by decide) (by decide) (by decide) ?_
  rintro v hx ⟨rfl, ex⟩
  rw [ex]
  clear ex hx
  show W l room_1 C _ hP 1 16 231 #[.val (.long xx), .second, .val (.int ss), .val (.int aa), .val (.int ff), .val (.long vv), .second, .val (.int ai), .val (.int fi.toInt32), .val (.ref a), .val (.int r), .val (.int r')] [(.int (1 : Int32))]
  refine k_ifF (pc := 231) H d0_231 (XT.i0_eq_f (by decide)) ?_
  refine k_aload (pc := 234) H d0_234 rfl rfl ?_
  refine k_iconst (5 : Int32) (pc := 236) H d0_236 rfl ?_
  refine k_iload (pc := 237) H d0_237 rfl ?_
  refine k_iload (pc := 239) H d0_239 rfl ?_
  refine k_lload (pc := 241) H d0_241 rfl ?_
  refine k_iload (pc := 243) H d0_243 rfl ?_
  refine k_invS (y := (⟨"mandate/PackerPutPinLaw", "byteOk", "([BIIIJB)Z"⟩ : MethodName)) (st := []) [(.ref a), (.int (5 : Int32)), (.int ai), (.int r), (.long vv), (.int fi.toInt32)] 0 (pc := 245) H (wd hw 12 rfl) (wd hw 13 rfl) (wd hw 4 rfl) (wd hw 14 rfl) (by decide) (fun z0 => rm3 l Z a0 hw n0 hP z0 a ys (5 : Int32) ai r vv fi 5 t i' m VB rfl hat hr hv li lt8 (by decide) (own_hx h4 5 (by decide))) (lenOf pd_2 rfl) d0_245 rfl rfl rfl (by decide) (by decide) (by decide) (by decide) ?_
  rintro v hx ⟨rfl, ex⟩
  rw [ex]
  clear ex hx
  show W l room_1 C _ hP 1 16 248 #[.val (.long xx), .second, .val (.int ss), .val (.int aa), .val (.int ff), .val (.long vv), .second, .val (.int ai), .val (.int fi.toInt32), .val (.ref a), .val (.int r), .val (.int r')] [(.int (1 : Int32))]
  refine k_ifF (pc := 248) H d0_248 (XT.i0_eq_f (by decide)) ?_
  refine k_aload (pc := 251) H d0_251 rfl rfl ?_
  refine k_bipush (6 : Int32) (pc := 253) H d0_253 rfl ?_
  refine k_iload (pc := 255) H d0_255 rfl ?_
  refine k_iload (pc := 257) H d0_257 rfl ?_
  refine k_lload (pc := 259) H d0_259 rfl ?_
  refine k_iload (pc := 261) H d0_261 rfl ?_
  refine k_invS (y := (⟨"mandate/PackerPutPinLaw", "byteOk", "([BIIIJB)Z"⟩ : MethodName)) (st := []) [(.ref a), (.int (6 : Int32)), (.int ai), (.int r), (.long vv), (.int fi.toInt32)] 0 (pc := 263) H (wd hw 12 rfl) (wd hw 13 rfl) (wd hw 4 rfl) (wd hw 14 rfl) (by decide) (fun z0 => rm3 l Z a0 hw n0 hP z0 a ys (6 : Int32) ai r vv fi 6 t i' m VB rfl hat hr hv li lt8 (by decide) (own_hx h4 6 (by decide))) (lenOf pd_2 rfl) d0_263 rfl rfl rfl (by decide) (by decide) (by decide) (by decide) ?_
  rintro v hx ⟨rfl, ex⟩
  rw [ex]
  clear ex hx
  show W l room_1 C _ hP 1 16 266 #[.val (.long xx), .second, .val (.int ss), .val (.int aa), .val (.int ff), .val (.long vv), .second, .val (.int ai), .val (.int fi.toInt32), .val (.ref a), .val (.int r), .val (.int r')] [(.int (1 : Int32))]
  refine k_ifF (pc := 266) H d0_266 (XT.i0_eq_f (by decide)) ?_
  refine k_aload (pc := 269) H d0_269 rfl rfl ?_
  refine k_bipush (7 : Int32) (pc := 271) H d0_271 rfl ?_
  refine k_iload (pc := 273) H d0_273 rfl ?_
  refine k_iload (pc := 275) H d0_275 rfl ?_
  refine k_lload (pc := 277) H d0_277 rfl ?_
  refine k_iload (pc := 279) H d0_279 rfl ?_
  refine k_invS (y := (⟨"mandate/PackerPutPinLaw", "byteOk", "([BIIIJB)Z"⟩ : MethodName)) (st := []) [(.ref a), (.int (7 : Int32)), (.int ai), (.int r), (.long vv), (.int fi.toInt32)] 0 (pc := 281) H (wd hw 12 rfl) (wd hw 13 rfl) (wd hw 4 rfl) (wd hw 14 rfl) (by decide) (fun z0 => rm3 l Z a0 hw n0 hP z0 a ys (7 : Int32) ai r vv fi 7 t i' m VB rfl hat hr hv li lt8 (by decide) (own_hx h4 7 (by decide))) (lenOf pd_2 rfl) d0_281 rfl rfl rfl (by decide) (by decide) (by decide) (by decide) ?_
  rintro v hx ⟨rfl, ex⟩
  rw [ex]
  clear ex hx
  show W l room_1 C _ hP 1 16 284 #[.val (.long xx), .second, .val (.int ss), .val (.int aa), .val (.int ff), .val (.long vv), .second, .val (.int ai), .val (.int fi.toInt32), .val (.ref a), .val (.int r), .val (.int r')] [(.int (1 : Int32))]
  refine k_ifF (pc := 284) H d0_284 (XT.i0_eq_f (by decide)) ?_
  refine k_aload (pc := 287) H d0_287 rfl rfl ?_
  refine k_bipush (8 : Int32) (pc := 289) H d0_289 rfl ?_
  refine k_iload (pc := 291) H d0_291 rfl ?_
  refine k_iload (pc := 293) H d0_293 rfl ?_
  refine k_lload (pc := 295) H d0_295 rfl ?_
  refine k_iload (pc := 297) H d0_297 rfl ?_
  refine k_invS (y := (⟨"mandate/PackerPutPinLaw", "byteOk", "([BIIIJB)Z"⟩ : MethodName)) (st := []) [(.ref a), (.int (8 : Int32)), (.int ai), (.int r), (.long vv), (.int fi.toInt32)] 0 (pc := 299) H (wd hw 12 rfl) (wd hw 13 rfl) (wd hw 4 rfl) (wd hw 14 rfl) (by decide) (fun z0 => rm3 l Z a0 hw n0 hP z0 a ys (8 : Int32) ai r vv fi 8 t i' m VB rfl hat hr hv li lt8 (by decide) (own_hx h4 8 (by decide))) (lenOf pd_2 rfl) d0_299 rfl rfl rfl (by decide) (by decide) (by decide) (by decide) ?_
  rintro v hx ⟨rfl, ex⟩
  rw [ex]
  clear ex hx
  show W l room_1 C _ hP 1 16 302 #[.val (.long xx), .second, .val (.int ss), .val (.int aa), .val (.int ff), .val (.long vv), .second, .val (.int ai), .val (.int fi.toInt32), .val (.ref a), .val (.int r), .val (.int r')] [(.int (1 : Int32))]
  refine k_ifF (pc := 302) H d0_302 (XT.i0_eq_f (by decide)) ?_
  refine k_aload (pc := 305) H d0_305 rfl rfl ?_
  refine k_bipush (9 : Int32) (pc := 307) H d0_307 rfl ?_
  refine k_iload (pc := 309) H d0_309 rfl ?_
  refine k_iload (pc := 311) H d0_311 rfl ?_
  refine k_lload (pc := 313) H d0_313 rfl ?_
  refine k_iload (pc := 315) H d0_315 rfl ?_
  refine k_invS (y := (⟨"mandate/PackerPutPinLaw", "byteOk", "([BIIIJB)Z"⟩ : MethodName)) (st := []) [(.ref a), (.int (9 : Int32)), (.int ai), (.int r), (.long vv), (.int fi.toInt32)] 0 (pc := 317) H (wd hw 12 rfl) (wd hw 13 rfl) (wd hw 4 rfl) (wd hw 14 rfl) (by decide) (fun z0 => rm3 l Z a0 hw n0 hP z0 a ys (9 : Int32) ai r vv fi 9 t i' m VB rfl hat hr hv li lt8 (by decide) (own_hx h4 9 (by decide))) (lenOf pd_2 rfl) d0_317 rfl rfl rfl (by decide) (by decide) (by decide) (by decide) ?_
  rintro v hx ⟨rfl, ex⟩
  rw [ex]
  clear ex hx
  show W l room_1 C _ hP 1 16 320 #[.val (.long xx), .second, .val (.int ss), .val (.int aa), .val (.int ff), .val (.long vv), .second, .val (.int ai), .val (.int fi.toInt32), .val (.ref a), .val (.int r), .val (.int r')] [(.int (1 : Int32))]
  refine k_ifF (pc := 320) H d0_320 (XT.i0_eq_f (by decide)) ?_
  refine k_aload (pc := 323) H d0_323 rfl rfl ?_
  refine k_bipush (10 : Int32) (pc := 325) H d0_325 rfl ?_
  refine k_iload (pc := 327) H d0_327 rfl ?_
  refine k_iload (pc := 329) H d0_329 rfl ?_
  refine k_lload (pc := 331) H d0_331 rfl ?_
  refine k_iload (pc := 333) H d0_333 rfl ?_
  refine k_invS (y := (⟨"mandate/PackerPutPinLaw", "byteOk", "([BIIIJB)Z"⟩ : MethodName)) (st := []) [(.ref a), (.int (10 : Int32)), (.int ai), (.int r), (.long vv), (.int fi.toInt32)] 0 (pc := 335) H (wd hw 12 rfl) (wd hw 13 rfl) (wd hw 4 rfl) (wd hw 14 rfl) (by decide) (fun z0 => rm3 l Z a0 hw n0 hP z0 a ys (10 : Int32) ai r vv fi 10 t i' m VB rfl hat hr hv li lt8 (by decide) (own_hx h4 10 (by decide))) (lenOf pd_2 rfl) d0_335 rfl rfl rfl (by decide) (by decide) (by decide) (by decide) ?_
  rintro v hx ⟨rfl, ex⟩
  rw [ex]
  clear ex hx
  show W l room_1 C _ hP 1 16 338 #[.val (.long xx), .second, .val (.int ss), .val (.int aa), .val (.int ff), .val (.long vv), .second, .val (.int ai), .val (.int fi.toInt32), .val (.ref a), .val (.int r), .val (.int r')] [(.int (1 : Int32))]
  refine k_ifF (pc := 338) H d0_338 (XT.i0_eq_f (by decide)) ?_
  refine k_aload (pc := 341) H d0_341 rfl rfl ?_
  refine k_bipush (11 : Int32) (pc := 343) H d0_343 rfl ?_
  refine k_iload (pc := 345) H d0_345 rfl ?_
  refine k_iload (pc := 347) H d0_347 rfl ?_
  refine k_lload (pc := 349) H d0_349 rfl ?_
  refine k_iload (pc := 351) H d0_351 rfl ?_
  refine k_invS (y := (⟨"mandate/PackerPutPinLaw", "byteOk", "([BIIIJB)Z"⟩ : MethodName)) (st := []) [(.ref a), (.int (11 : Int32)), (.int ai), (.int r), (.long vv), (.int fi.toInt32)] 0 (pc := 353) H (wd hw 12 rfl) (wd hw 13 rfl) (wd hw 4 rfl) (wd hw 14 rfl) (by decide) (fun z0 => rm3 l Z a0 hw n0 hP z0 a ys (11 : Int32) ai r vv fi 11 t i' m VB rfl hat hr hv li lt8 (by decide) (own_hx h4 11 (by decide))) (lenOf pd_2 rfl) d0_353 rfl rfl rfl (by decide) (by decide) (by decide) (by decide) ?_
  rintro v hx ⟨rfl, ex⟩
  rw [ex]
  clear ex hx
  show W l room_1 C _ hP 1 16 356 #[.val (.long xx), .second, .val (.int ss), .val (.int aa), .val (.int ff), .val (.long vv), .second, .val (.int ai), .val (.int fi.toInt32), .val (.ref a), .val (.int r), .val (.int r')] [(.int (1 : Int32))]
  refine k_ifF (pc := 356) H d0_356 (XT.i0_eq_f (by decide)) ?_
  refine k_aload (pc := 359) H d0_359 rfl rfl ?_
  refine k_bipush (12 : Int32) (pc := 361) H d0_361 rfl ?_
  refine k_iload (pc := 363) H d0_363 rfl ?_
  refine k_iload (pc := 365) H d0_365 rfl ?_
  refine k_lload (pc := 367) H d0_367 rfl ?_
  refine k_iload (pc := 369) H d0_369 rfl ?_
  refine k_invS (y := (⟨"mandate/PackerPutPinLaw", "byteOk", "([BIIIJB)Z"⟩ : MethodName)) (st := []) [(.ref a), (.int (12 : Int32)), (.int ai), (.int r), (.long vv), (.int fi.toInt32)] 0 (pc := 371) H (wd hw 12 rfl) (wd hw 13 rfl) (wd hw 4 rfl) (wd hw 14 rfl) (by decide) (fun z0 => rm3 l Z a0 hw n0 hP z0 a ys (12 : Int32) ai r vv fi 12 t i' m VB rfl hat hr hv li lt8 (by decide) (own_hx h4 12 (by decide))) (lenOf pd_2 rfl) d0_371 rfl rfl rfl (by decide) (by decide) (by decide) (by decide) ?_
  rintro v hx ⟨rfl, ex⟩
  rw [ex]
  clear ex hx
  show W l room_1 C _ hP 1 16 374 #[.val (.long xx), .second, .val (.int ss), .val (.int aa), .val (.int ff), .val (.long vv), .second, .val (.int ai), .val (.int fi.toInt32), .val (.ref a), .val (.int r), .val (.int r')] [(.int (1 : Int32))]
  refine k_ifF (pc := 374) H d0_374 (XT.i0_eq_f (by decide)) ?_
  refine k_aload (pc := 377) H d0_377 rfl rfl ?_
  refine k_bipush (13 : Int32) (pc := 379) H d0_379 rfl ?_
  refine k_iload (pc := 381) H d0_381 rfl ?_
  refine k_iload (pc := 383) H d0_383 rfl ?_
  refine k_lload (pc := 385) H d0_385 rfl ?_
  refine k_iload (pc := 387) H d0_387 rfl ?_
  refine k_invS (y := (⟨"mandate/PackerPutPinLaw", "byteOk", "([BIIIJB)Z"⟩ : MethodName)) (st := []) [(.ref a), (.int (13 : Int32)), (.int ai), (.int r), (.long vv), (.int fi.toInt32)] 0 (pc := 389) H (wd hw 12 rfl) (wd hw 13 rfl) (wd hw 4 rfl) (wd hw 14 rfl) (by decide) (fun z0 => rm3 l Z a0 hw n0 hP z0 a ys (13 : Int32) ai r vv fi 13 t i' m VB rfl hat hr hv li lt8 (by decide) (own_hx h4 13 (by decide))) (lenOf pd_2 rfl) d0_389 rfl rfl rfl (by decide) (by decide) (by decide) (by decide) ?_
  rintro v hx ⟨rfl, ex⟩
  rw [ex]
  clear ex hx
  show W l room_1 C _ hP 1 16 392 #[.val (.long xx), .second, .val (.int ss), .val (.int aa), .val (.int ff), .val (.long vv), .second, .val (.int ai), .val (.int fi.toInt32), .val (.ref a), .val (.int r), .val (.int r')] [(.int (1 : Int32))]
  refine k_ifF (pc := 392) H d0_392 (XT.i0_eq_f (by decide)) ?_
  refine k_aload (pc := 395) H d0_395 rfl rfl ?_
  refine k_bipush (14 : Int32) (pc := 397) H d0_397 rfl ?_
  refine k_iload (pc := 399) H d0_399 rfl ?_
  refine k_iload (pc := 401) H d0_401 rfl ?_
  refine k_lload (pc := 403) H d0_403 rfl ?_
  refine k_iload (pc := 405) H d0_405 rfl ?_
  refine k_invS (y := (⟨"mandate/PackerPutPinLaw", "byteOk", "([BIIIJB)Z"⟩ : MethodName)) (st := []) [(.ref a), (.int (14 : Int32)), (.int ai), (.int r), (.long vv), (.int fi.toInt32)] 0 (pc := 407) H (wd hw 12 rfl) (wd hw 13 rfl) (wd hw 4 rfl) (wd hw 14 rfl) (by decide) (fun z0 => rm3 l Z a0 hw n0 hP z0 a ys (14 : Int32) ai r vv fi 14 t i' m VB rfl hat hr hv li lt8 (by decide) (own_hx h4 14 (by decide))) (lenOf pd_2 rfl) d0_407 rfl rfl rfl (by decide) (by decide) (by decide) (by decide) ?_
  rintro v hx ⟨rfl, ex⟩
  rw [ex]
  clear ex hx
  show W l room_1 C _ hP 1 16 410 #[.val (.long xx), .second, .val (.int ss), .val (.int aa), .val (.int ff), .val (.long vv), .second, .val (.int ai), .val (.int fi.toInt32), .val (.ref a), .val (.int r), .val (.int r')] [(.int (1 : Int32))]
  refine k_ifF (pc := 410) H d0_410 (XT.i0_eq_f (by decide)) ?_
  refine k_aload (pc := 413) H d0_413 rfl rfl ?_
  refine k_bipush (15 : Int32) (pc := 415) H d0_415 rfl ?_
  refine k_iload (pc := 417) H d0_417 rfl ?_
  refine k_iload (pc := 419) H d0_419 rfl ?_
  refine k_lload (pc := 421) H d0_421 rfl ?_
  refine k_iload (pc := 423) H d0_423 rfl ?_
  refine k_invS (y := (⟨"mandate/PackerPutPinLaw", "byteOk", "([BIIIJB)Z"⟩ : MethodName)) (st := []) [(.ref a), (.int (15 : Int32)), (.int ai), (.int r), (.long vv), (.int fi.toInt32)] 0 (pc := 425) H (wd hw 12 rfl) (wd hw 13 rfl) (wd hw 4 rfl) (wd hw 14 rfl) (by decide) (fun z0 => rm3 l Z a0 hw n0 hP z0 a ys (15 : Int32) ai r vv fi 15 t i' m VB rfl hat hr hv li lt8 (by decide) (own_hx h4 15 (by decide))) (lenOf pd_2 rfl) d0_425 rfl rfl rfl (by decide) (by decide) (by decide) (by decide) ?_
  rintro v hx ⟨rfl, ex⟩
  rw [ex]
  clear ex hx
  show W l room_1 C _ hP 1 16 428 #[.val (.long xx), .second, .val (.int ss), .val (.int aa), .val (.int ff), .val (.long vv), .second, .val (.int ai), .val (.int fi.toInt32), .val (.ref a), .val (.int r), .val (.int r')] [(.int (1 : Int32))]
  refine k_ifF (pc := 428) H d0_428 (XT.i0_eq_f (by decide)) ?_
  refine k_iconst (1 : Int32) (pc := 431) H d0_431 rfl ?_
  refine k_goto 436 (pc := 432) H d0_432 rfl ?_
  exact k_retN' (t := .boolean) (by simp) (pc := 436) H d0_436 (by show 1 ≤ 16; decide) (by show 16 ≤ 128; decide) (rfl)
set_option maxRecDepth 65536 in
set_option maxHeartbeats 40000000 in
theorem comes_1 {Post : Tables → Env → Array Value → State → Outcome → State → Prop} (hpost : ∀ tb e args s v u, (limb_1_1.after args s (.returned v) u = true ∧ limb_1_2.after args s (.returned v) u = true ∧ True) → FrameEnd s (.returned v) u (Jvm.fieldLocs frame_1_writes args s ++ Jvm.arrayLocs frame_1_arrays args s ++ Jvm.staticLocs frame_1_statics s) 16 128 → Post tb e args s (.returned v) u) :
    ArmFor flags0 classFile x code maxLocals ret World_1 tables_1 room_1 Calls_1 rest_1 Pre_1 Post := by
  intro l hfl _ _ p e ha hc hk s m args below hf hA hF happ hP
  obtain ⟨hcalls, hrest, hpre⟩ := hP
  obtain ⟨-, -, -, hnamed, -, -, -, hat⟩ := (Spec.applies_iff hf).mp happ
  obtain ⟨hg, hn⟩ := and_e (Cond.before_iff.mp (show (Jvm.Cond.and given_1 narrow_1).before args s = true from hpre))
  obtain ⟨hcnt, g0⟩ := and_e hg
  obtain ⟨q0, g1⟩ := and_e g0
  obtain ⟨q1, g2⟩ := and_e g1
  obtain ⟨q2, g3⟩ := and_e g2
  obtain ⟨w0, w1, w2, w3, rfl⟩ : ∃ w0 w1 w2 w3 : Value, args = #[w0, w1, w2, w3] := by
    have hs : args.size = 4 := by simpa [Cond.value, given_1] using hcnt
    obtain ⟨L⟩ := args
    match L, hs with
    | [w0, w1, w2, w3], _ => exact ⟨w0, w1, w2, w3, rfl⟩
  have hw := fun d (hd : d ∈ tables_1) => atoms_spec (ws := Jvm.Cond.code x code maxLocals ret :: tables_1) hat d (List.mem_cons_of_mem _ hd)
  obtain ⟨i0, e0⟩ := isL_v q0
  obtain rfl : w0 = (.long i0) := Option.some.inj e0
  obtain ⟨i1, e1⟩ := is_v q1
  obtain rfl : w1 = (.int i1) := Option.some.inj e1
  obtain ⟨i2, e2⟩ := is_v q2
  obtain rfl : w2 = (.int i2) := Option.some.inj e2
  obtain ⟨i3, e3⟩ := is_v g3
  obtain rfl : w3 = (.int i3) := Option.some.inj e3
  obtain ⟨n, o, h1, h2, h3, _, L, rfl, ⟨rfl, N⟩, hq⟩ := rm0 l s _ hw tables_1 s.heap.size s.heap (Nat.le_refl _) i0 i1 i2 i3  p e ha hc hk s m _ below hf ((Spec.applies_iff_loose hf).mp happ).1 ⟨rfl, State.Warmed39.refl s, rfl⟩ trivial
  refine ⟨n, _, h1, h2, h3, hpost _ _ _ _ _ _ ⟨Cond.after_iff.mpr rfl, Cond.after_iff.mpr (eq_i res_at (Term.int_eval (1)) rfl), trivial⟩ ⟨hq.1, hq.2.1, (hq.2.2.sift fun y hy => Or.inr (N y hy)).mono (by decide) (by decide)⟩⟩
theorem main_1_1 : Claimed_1_1 := comes_1 fun _ _ _ _ _ _ h hF => ⟨h.1, hF⟩
theorem main_1_2 : Claimed_1_2 := comes_1 fun _ _ _ _ _ _ h hF => ⟨h.2.1, hF⟩
end Jvm.Pilot.@@N@@
namespace Jvm.Pilot.@@N@@
open Jvm Jvm.ClassFile Sem Op Lib Jvm.Free Jvm.Stand Jvm.Pilot.@@N@@.Jvm.D
/-! MADE BY PROGRAM (witnessworld.py) out of the Statement's table words and the real class files: 11 classes; the members and pool entries that the words name. The judged class is class 1, her method 1. -/
namespace start1
open Jvm.ClassFile
def u (s : String) : CpInfo := .utf8 (stringToUtf16 s)
/-- a pool by its gaps: so many unusable entries, then the entry; so many at the end -/
def gap : Nat → List CpInfo → List CpInfo
  | 0, r => r
  | n + 1, r => .unusable :: gap n r
def poolList (es : List (Nat × CpInfo)) (last : Nat) : List CpInfo := es.foldr (fun e r => gap e.1 (e.2 :: r)) (gap last [])
def pool (es : List (Nat × CpInfo)) (last : Nat) : Array CpInfo := ⟨poolList es last⟩
def fileOf (pool : Array CpInfo) (this : Nat) (attrs : Array Attribute := #[]) (ms : Array MethodInfo := #[]) (fl : Nat := 33) (sup : Nat := 0) (ifs : Array Nat := #[]) (fds : Array FieldInfo := #[]) : ClassFile where
  minorVersion := 0
  majorVersion := 65
  constantPool := pool
  accessFlags := fl
  thisClass := this
  superClass := sup
  interfaces := ifs
  fields := fds
  methods := ms
  attributes := attrs
def plain (name : String) (sup : Option ClassId) : Class where
  name := name
  kind := .ordinary
  loader := none
  accessFlags := 33
  super := sup
  interfaces := #[]
  cf := none
  fields := #[]
  methods := #[]
  instanceTypes := #[]
  staticTypes := #[]
  resolved := #[]
  callSites := []
  init := .initialized
  statics := none
  mirror := none

def pool0 : Array CpInfo := pool [(5, u "<init>"), (0, u "()V"), (1, .class_ 10), (1, u "java/lang/Object")] 113

def k0m0 : Method := { name := "<init>", desc := "()V", sig := { parameters := [], returnType := none }, accessFlags := 1, code := none }
/-- java/lang/Object -/
def k0 : Class := { plain "java/lang/Object" none with
  accessFlags := 33
  interfaces := #[]
  cf := some (fileOf pool0 8 #[] #[{ accessFlags := 1, nameIndex := 5, descriptorIndex := 6, attributes := #[] }] 33 0 #[] #[])
  fields := #[]
  methods := #[k0m0]
  instanceTypes := #[]
  staticTypes := #[]
  resolved := Array.replicate 124 none
  statics := none }

def pool1 : Array CpInfo := pool [(2, .class_ 4), (1, u "java/lang/Object"), (0, u "<init>"), (0, u "()V"), (2, .long 9223372036854775807), (1, .methodref 12 13), (0, .class_ 14), (0, .nameAndType 15 16), (0, u "mandate/PackerPutPinLaw"), (0, u "count"), (0, u "(J)I"), (0, .methodref 18 19), (0, .class_ 20), (0, .nameAndType 21 22), (0, u "mandate/Packer"), (0, u "put"), (0, u "([BIJ)I"), (0, .methodref 12 24), (0, .nameAndType 25 26), (0, u "byteOk"), (0, u "([BIIIJB)Z"), (0, .long 128), (1, .long 16384), (1, .long 2097152), (1, .long 268435456), (1, .long 34359738368), (1, .long 4398046511104), (1, .long 562949953421312), (1, .long 72057594037927936), (1, .long 127), (3, u "law"), (0, u "(JIII)Z")] 5

def k1m0 : Method := { name := "<init>", desc := "()V", sig := { parameters := [], returnType := none }, accessFlags := 1, code := none }
def k1c1 : Code := { maxStack := 7, maxLocals := 12, code := code, exceptionTable := #[], attributes := #[] }
def k1m1 : Method := { name := "law", desc := "(JIII)Z", sig := { parameters := [.long, .int, .int, .int], returnType := some .boolean }, accessFlags := 9, code := some k1c1 }
def k1c2 : Code := { maxStack := 4, maxLocals := 2, code := method_3_code, exceptionTable := #[], attributes := #[] }
def k1m2 : Method := { name := "count", desc := "(J)I", sig := { parameters := [.long], returnType := some .int }, accessFlags := 10, code := some k1c2 }
def k1c3 : Code := { maxStack := 4, maxLocals := 10, code := method_4_code, exceptionTable := #[], attributes := #[] }
def k1m3 : Method := { name := "byteOk", desc := "([BIIIJB)Z", sig := { parameters := [(.array .byte), .int, .int, .int, .long, .byte], returnType := some .boolean }, accessFlags := 10, code := some k1c3 }
/-- mandate/PackerPutPinLaw -/
def k1 : Class := { plain "mandate/PackerPutPinLaw" (some 0) with
  accessFlags := 49
  interfaces := #[]
  cf := some (fileOf pool1 12 #[] #[{ accessFlags := 1, nameIndex := 5, descriptorIndex := 6, attributes := #[] }, { accessFlags := 9, nameIndex := 47, descriptorIndex := 48, attributes := #[] }, { accessFlags := 10, nameIndex := 15, descriptorIndex := 16, attributes := #[] }, { accessFlags := 10, nameIndex := 25, descriptorIndex := 26, attributes := #[] }] 49 2 #[] #[])
  fields := #[]
  methods := #[k1m0, k1m1, k1m2, k1m3]
  instanceTypes := #[]
  staticTypes := #[]
  resolved := Array.replicate 54 none
  statics := none }

def pool2 : Array CpInfo := pool [(1, .class_ 2), (0, u "java/lang/Comparable"), (0, .class_ 4), (0, u "java/lang/Object")] 7

/-- java/lang/Comparable -/
def k2 : Class := { plain "java/lang/Comparable" (some 0) with
  accessFlags := 1537
  interfaces := #[]
  cf := some (fileOf pool2 1 #[] #[] 1537 3 #[] #[])
  fields := #[]
  methods := #[]
  instanceTypes := #[]
  staticTypes := #[]
  resolved := Array.replicate 12 none
  statics := none }

def pool3 : Array CpInfo := pool [(1, .class_ 2), (0, u "mandate/PackedOutput"), (0, .class_ 4), (0, u "java/lang/Object")] 6

/-- mandate/PackedOutput -/
def k3 : Class := { plain "mandate/PackedOutput" (some 0) with
  accessFlags := 1536
  interfaces := #[]
  cf := some (fileOf pool3 1 #[] #[] 1536 3 #[] #[])
  fields := #[]
  methods := #[]
  instanceTypes := #[]
  staticTypes := #[]
  resolved := Array.replicate 11 none
  statics := none }

def pool4 : Array CpInfo := pool [(2, .class_ 4), (1, u "java/lang/Object"), (0, u "<init>"), (0, u "()V"), (1, .class_ 10), (1, u "mandate/Packer"), (0, u "bytes"), (0, u "[B"), (2, u "length"), (0, u "I"), (10, u "put"), (0, u "([BIJ)I"), (0, .long 18446744073709551488), (1, .long 128), (22, u "LONGS"), (0, u "Ljava/lang/invoke/VarHandle;"), (62, .class_ 119), (0, u "java/lang/Comparable"), (0, .class_ 121), (0, u "mandate/PackedOutput"), (0, u "GOLDEN"), (0, u "J")] 19

def k4m0 : Method := { name := "<init>", desc := "()V", sig := { parameters := [], returnType := none }, accessFlags := 0, code := none }
def k4c1 : Code := { maxStack := 6, maxLocals := 4, code := prog_101_method_6_code, exceptionTable := #[], attributes := #[] }
def k4m1 : Method := { name := "put", desc := "([BIJ)I", sig := { parameters := [(.array .byte), .int, .long], returnType := some .int }, accessFlags := 8, code := some k4c1 }
/-- mandate/Packer -/
def k4 : Class := { plain "mandate/Packer" (some 0) with
  accessFlags := 48
  interfaces := #[2, 3]
  cf := some (fileOf pool4 8 #[] #[{ accessFlags := 0, nameIndex := 5, descriptorIndex := 6, attributes := #[] }, { accessFlags := 8, nameIndex := 27, descriptorIndex := 28, attributes := #[] }] 48 2 #[118, 120] #[{ accessFlags := 26, nameIndex := 54, descriptorIndex := 55, attributes := #[] }, { accessFlags := 26, nameIndex := 122, descriptorIndex := 123, attributes := #[] }, { accessFlags := 2, nameIndex := 11, descriptorIndex := 12, attributes := #[] }, { accessFlags := 2, nameIndex := 15, descriptorIndex := 16, attributes := #[] }])
  fields := #[{ name := "LONGS", type := (.object "java/lang/invoke/VarHandle"), accessFlags := 26, slot := 0, constantValue := 0 }, { name := "GOLDEN", type := .long, accessFlags := 26, slot := 1, constantValue := 0 }, { name := "bytes", type := (.array .byte), accessFlags := 2, slot := 0, constantValue := 0 }, { name := "length", type := .int, accessFlags := 2, slot := 1, constantValue := 0 }]
  methods := #[k4m0, k4m1]
  instanceTypes := #[(.array .byte), .int]
  staticTypes := #[(.object "java/lang/invoke/VarHandle"), .long]
  resolved := Array.replicate 143 none
  statics := none }

def pool5 : Array CpInfo := pool [(1, u "java/lang/Cloneable"), (0, .class_ 1), (0, u "java/lang/Object"), (0, .class_ 3)] 3

/-- java/lang/Cloneable -/
def k5 : Class := { plain "java/lang/Cloneable" (some 0) with
  accessFlags := 1537
  interfaces := #[]
  cf := some (fileOf pool5 2 #[] #[] 1537 4 #[] #[])
  fields := #[]
  methods := #[]
  instanceTypes := #[]
  staticTypes := #[]
  resolved := Array.replicate 8 none
  statics := none }

def pool6 : Array CpInfo := pool [(1, u "java/io/Serializable"), (0, .class_ 1), (0, u "java/lang/Object"), (0, .class_ 3)] 3

/-- java/io/Serializable -/
def k6 : Class := { plain "java/io/Serializable" (some 0) with
  accessFlags := 1537
  interfaces := #[]
  cf := some (fileOf pool6 2 #[] #[] 1537 4 #[] #[])
  fields := #[]
  methods := #[]
  instanceTypes := #[]
  staticTypes := #[]
  resolved := Array.replicate 8 none
  statics := none }

/-- the primitive byte -/
def k7 : Class := { plain "byte" none with kind := .primitive 'B', accessFlags := 0x411 }
/-- [B -/
def k8 : Class := { plain "[B" (some 0) with kind := .array 7 .byte, interfaces := #[5, 6], accessFlags := 1041 }

/-- the primitive int -/
def k9 : Class := { plain "int" none with kind := .primitive 'I', accessFlags := 0x411 }
/-- [I -/
def k10 : Class := { plain "[I" (some 0) with kind := .array 9 .int, interfaces := #[5, 6], accessFlags := 1041 }

def heap : Heap := #[]
def classes : Array Class := #[k0, k1, k2, k3, k4, k5, k6, k7, k8, k9, k10]
def interned : List (Array UInt16 × Addr) := []
def slotsUsed : Nat := 0
def theMethod : MethodId := ⟨1, 1⟩
def args0 : Array Value := #[.long 1, .int 2, .int 3, .int 4]
def aboutOver (below : List Frame) : State where
  vm := { classes := classes, interned := interned.toArray }
  heap := heap
  slotsUsed := slotsUsed
  threads := #[{ frames := .invoking theMethod args0 :: below }]
def below0 : List Frame := [.native { method := ⟨0, 0⟩, args := #[] }]
def about1 : State := aboutOver below0
def p0 : Program := .bare "" "" ""
def e0 : Env := launch0.env 0 0 0
theorem w_frames : about1.frames = Frame.invoking theMethod args0 :: below0 := rfl
set_option maxRecDepth 65536 in
theorem w_args : argsFit about1.vm theMethod args0 = true := by decide +kernel
set_option maxRecDepth 65536 in
theorem w_heap : heapFits about1 = true := by decide +kernel
set_option maxRecDepth 65536 in
theorem w_runnable : about1.curStatus? = some .runnable := by decide +kernel
set_option maxRecDepth 65536 in
theorem w_alone : about1.alone = true := by decide +kernel
set_option maxRecDepth 65536 in
theorem w_named : about1.methodNamed? x = some theMethod := by decide +kernel
set_option maxRecDepth 65536 in
theorem w_hears : about1.hears theMethod below0 = true := by decide +kernel
set_option maxRecDepth 65536 in
theorem w_ripe : about1.ripe theMethod args0 below0 = true := by decide +kernel
theorem w_running : about1.status = .running := rfl
set_option maxRecDepth 65536 in
theorem w_room : about1.hasRoom e0.platform room_1 = true :=
  launch0.hasRoom_least _ room_1 (by decide +kernel) (by decide +kernel) (by decide +kernel) (by decide +kernel) (by decide +kernel) (by decide +kernel)
theorem allAtoms_all (ts : List Jvm.Cond) (a : Array Jvm.Value) (st : Jvm.State) : (allAtoms ts).before a st = ts.all (fun c => c.before a st) := by
  induction ts with
  | nil => rfl
  | cons c t ih =>
    show (Jvm.Cond.and c (allAtoms t)).before a st = _
    rw [Jvm.Cond.before_and, ih, List.all_cons]
def words1 : List Jvm.Cond := Jvm.Cond.code x code maxLocals ret :: tables_1
/-- a 'code' word, met by the world's own term for the bytes: nothing is compared byte by byte -/
theorem code_word {y : MethodName} {bytes : ByteArray} {mx : Nat} {rt : Option FieldType} {a : Array Value} {s : State} {m : MethodId} {meth : Method} {c : Code} (h1 : s.methodNamed? y = some m) (h2 : s.vm.method? m = some meth) (h3 : meth.code = some c) (h4 : c.code = bytes)
    (h5 : (c.maxLocals == mx && c.exceptionTable.isEmpty && decide (c.maxStack ≤ mostOperands) && decide (meth.sig.returnType = rt) && !meth.locks && decide (parseMethodDescriptor y.desc = some meth.sig)) = true) : (Jvm.Cond.code y bytes mx rt).before a s = true := by
  simp only [Bool.and_eq_true, beq_iff_eq, Bool.not_eq_true', decide_eq_true_eq] at h5
  obtain ⟨⟨⟨⟨⟨g1, g2⟩, g3⟩, g4⟩, g5⟩, g6⟩ := h5
  simp [Cond.before, Cond.holds, Cond.value, h1, h2, h3, h4, g1, g2, g3, g4, g5, g6]
def isCode : Jvm.Cond → Bool
  | .code _ _ _ _ => true
  | _ => false
theorem all_split {L : List Jvm.Cond} {P : Jvm.Cond → Bool} (h1 : L.all (fun c => isCode c || P c) = true) (h2 : ∀ c ∈ L.filter isCode, P c = true) : L.all P = true := by
  refine List.all_eq_true.mpr fun c hc => ?_
  have h := List.all_eq_true.mp h1 c hc
  rcases Bool.eq_false_or_eq_true (isCode c) with hi | hi
  · exact h2 c (List.mem_filter.mpr ⟨hc, hi⟩)
  · simpa [hi] using h
set_option maxRecDepth 65536 in
theorem w_c0 : (Jvm.Cond.code x code maxLocals ret).before args0 about1 = true := code_word (m := ⟨1, 1⟩) (meth := k1m1) (c := k1c1) (by decide +kernel) rfl rfl rfl (by decide +kernel)
set_option maxRecDepth 65536 in
theorem w_c1 : (Jvm.Cond.code ({ cls := "mandate/PackerPutPinLaw", name := "count", desc := "(J)I" } : Jvm.MethodName) method_3_code (2 : Nat) (Option.some Jvm.ClassFile.FieldType.int)).before args0 about1 = true := code_word (m := ⟨1, 2⟩) (meth := k1m2) (c := k1c2) (by decide +kernel) rfl rfl rfl (by decide +kernel)
set_option maxRecDepth 65536 in
theorem w_c2 : (Jvm.Cond.code ({ cls := "mandate/Packer", name := "put", desc := "([BIJ)I" } : Jvm.MethodName) prog_101_method_6_code (4 : Nat) (Option.some Jvm.ClassFile.FieldType.int)).before args0 about1 = true := code_word (m := ⟨4, 1⟩) (meth := k4m1) (c := k4c1) (by decide +kernel) rfl rfl rfl (by decide +kernel)
set_option maxRecDepth 65536 in
theorem w_c3 : (Jvm.Cond.code ({ cls := "mandate/PackerPutPinLaw", name := "byteOk", desc := "([BIIIJB)Z" } : Jvm.MethodName) method_4_code (10 : Nat) (Option.some Jvm.ClassFile.FieldType.boolean)).before args0 about1 = true := code_word (m := ⟨1, 3⟩) (meth := k1m3) (c := k1c3) (by decide +kernel) rfl rfl rfl (by decide +kernel)
def codes1 : List Jvm.Cond := [Jvm.Cond.code x code maxLocals ret, Jvm.Cond.code ({ cls := "mandate/PackerPutPinLaw", name := "count", desc := "(J)I" } : Jvm.MethodName) method_3_code (2 : Nat) (Option.some Jvm.ClassFile.FieldType.int), Jvm.Cond.code ({ cls := "mandate/Packer", name := "put", desc := "([BIJ)I" } : Jvm.MethodName) prog_101_method_6_code (4 : Nat) (Option.some Jvm.ClassFile.FieldType.int), Jvm.Cond.code ({ cls := "mandate/PackerPutPinLaw", name := "byteOk", desc := "([BIIIJB)Z" } : Jvm.MethodName) method_4_code (10 : Nat) (Option.some Jvm.ClassFile.FieldType.boolean)]
set_option maxRecDepth 65536 in
theorem codes_eq : words1.filter isCode = codes1 := rfl
theorem w_codes : ∀ c ∈ words1.filter isCode, c.before args0 about1 = true := by
  rw [codes_eq]
  intro c hc
  simp only [codes1, List.mem_cons, List.not_mem_nil, or_false] at hc
  rcases hc with rfl | rfl | rfl | rfl
  · exact w_c0
  · exact w_c1
  · exact w_c2
  · exact w_c3
set_option maxRecDepth 65536 in
theorem w_t1 : (words1.take 24).all (fun c => isCode c || c.before args0 about1) = true := by decide +kernel
set_option maxRecDepth 65536 in
theorem w_t2 : (words1.drop 24).all (fun c => isCode c || c.before args0 about1) = true := by decide +kernel
theorem w_tables : (allAtoms (Jvm.Cond.code x code maxLocals ret :: tables_1)).before args0 about1 = true := by
  rw [allAtoms_all]
  show words1.all (fun c => c.before args0 about1) = true
  refine all_split ?_ w_codes
  rw [← List.take_append_drop 24 words1, List.all_append, w_t1, w_t2]
  rfl
set_option maxRecDepth 65536 in
theorem w_case : (Jvm.Cond.and given_1 narrow_1).before args0 about1 = true := by decide +kernel
theorem w_applies : (headSpec (Jvm.Cond.code x code maxLocals ret :: tables_1) room_1).applies x e0.platform about1 = true :=
  (Spec.applies_iff w_frames).mpr ⟨w_running, w_runnable, w_alone, w_named, w_hears, w_ripe, w_room, w_tables⟩
theorem atStart : AtStart classFile x code maxLocals ret World_1 tables_1 room_1 Calls_1 rest_1 Pre_1 launch0 p0 e0 about1 theMethod args0 below0 :=
  ⟨lists_1, trivial, launch0.admits_env _ _ _, launch0.least_env, fairChoices_fair.cas, fairChoices_fair.clock, w_frames, w_args, w_heap, w_applies, trivial, trivial, w_case⟩
end start1
theorem witness_1 : WitnessClaimed_1 := ⟨start1.p0, start1.e0, start1.about1, start1.theMethod, start1.args0, start1.below0, start1.atStart⟩
end Jvm.Pilot.@@N@@

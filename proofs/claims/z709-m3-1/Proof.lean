import JvmDerived
import JvmDerived.Pilot.@@N@@Statement
import JvmDerived.Pilot.@@N@@Code
set_option linter.unusedVariables false
set_option linter.unusedSimpArgs false
@@BLOCK:NumsL.lean.txt@@
namespace Jvm.OwnKit
open Sem ClassFile Op Lib Jvm.Stand Jvm.Free Jvm.LawKit Jvm.RoadKit
/-- the surroundings of one body: program, environment, start, method, arguments, frames below, method record, code -/
abbrev Cxt := Program × Env × State × MethodId × Array Value × List Frame × Method × Code
/-- what a body owes: the first new address, cells, slots, what it leaves -/
abbrev En := Nat × Nat × Nat × (Option Value → Heap → Prop)
abbrev St (l : Launch) (R : Room) (C : Cxt) (T : State) (L : List Loc) (k n : Nat) : Prop :=
  Stand C.1 l C.2.1 R C.2.2.1 C.2.2.2.1 C.2.2.2.2.1 C.2.2.2.2.2.1 C.2.2.2.2.2.2.1 C.2.2.2.2.2.2.2 T L k n
abbrev Sp (C : Cxt) (a b : State) : Prop := Steps C.1.tables C.2.1 C.2.2.2.2.2.1 a b
def Goes (C : Cxt) (E : En) (a : State) : Prop :=
  ∃ t o, Sp C a t ∧ t.status = .running ∧ Ended t C.2.2.2.2.2.1 o ∧ ∃ v L, o = .returned v ∧ (E.2.2.2 v t.heap ∧ Fr E.1 L) ∧ FrameEnd C.2.2.1 o t L E.2.1 E.2.2.1
/-- from this place of the code, with this heap, these locals and this stack, and so many cells and slots made, the body comes to its end as owed -/
def W (l : Launch) (R : Room) (C : Cxt) (E : En) (h : Heap) (k n pc : Nat) (Ls : Array Slot) (st : List Value) : Prop :=
  ∀ T L, St l R C T L k n → Fr E.1 L → T.heap = h → Goes C E (T.setTop (mkF C.2.2.2.1 pc Ls st))
def Cx (C : Cxt) (Z : State) (own : String) (code : ByteArray) (ml : Nat) (ret : Option FieldType) (nm : String) (n0 : Nat) : Prop :=
  C.1.tables.exec = Jvm.exec ∧ C.2.2.2.2.2.2.2.code = code ∧ C.2.2.2.2.2.2.2.maxLocals = ml ∧ C.2.2.1.vm.findClass own = some C.2.2.2.1.cls ∧ Z.Warmed39 C.2.2.1.vm ∧ C.2.2.2.2.2.2.1.sig.returnType = ret ∧ C.2.2.2.2.2.2.1.locks = false ∧ C.2.2.2.2.2.2.1.name = nm ∧ n0 ≤ C.2.2.1.heap.size
/-- a contract of one call: these arguments, this heap -/
def Ctr (l : Launch) (Z : State) (y : MethodName) (bytes : ByteArray) (maxL : Nat) (ret : Option FieldType) (rm : Room) (n0 : Nat) (as' : Array Value) (h : Heap) (Q : Option Value → Heap → Prop) : Prop :=
  MetFree l y (head1 [Cond.code y bytes maxL ret] rm) (fun a U => a = as' ∧ Z.Warmed39 U.vm ∧ U.heap = h) (fun _ _ _ _ _ => True) (fun _ U o U' => ∃ v L, o = .returned v ∧ (Q v U'.heap ∧ Fr n0 L) ∧ FrameEnd U o U' L rm.cells rm.slots)
section Own
variable {l : Launch} {R : Room} {C : Cxt} {E : En} {h h' : Heap} {k n pc : Nat} {Ls : Array Slot} {st : List Value} {Z : State} {own nm : String} {code : ByteArray} {ml : Nat} {ret : Option FieldType} {a0 : Array Value}
theorem wd {ts : List Jvm.Cond} (hw : ∀ d ∈ ts, d.before a0 Z = true) (i : Nat) {d : Jvm.Cond} (hi : ts[i]? = some d) : d.before a0 Z = true := hw _ (List.mem_of_getElem? hi)
theorem W.via {pc' : Nat} {Ls' : Array Slot} {st' : List Value} (f : ∀ T t L, St l R C T L k n → T.heap = h → Sp C (T.setTop (mkF C.2.2.2.1 pc' Ls' st')) t → Sp C (T.setTop (mkF C.2.2.2.1 pc Ls st)) t)
    (hr : W l R C E h k n pc' Ls' st') : W l R C E h k n pc Ls st := fun T L X N eT => by
  obtain ⟨t, o, h1, h2⟩ := hr T L X N eT
  exact ⟨t, o, f T t L X eT h1, h2⟩
theorem W.more {k' n' : Nat} (hk : k ≤ k') (hn : n ≤ n') (hr : W l R C E h k' n' pc Ls st) : W l R C E h k n pc Ls st := fun T L X N eT => hr T L (X.more hk hn) N eT
/-- a step that moves the tables alone -/
theorem W.viaT {pc' : Nat} {Ls' : Array Slot} {st' : List Value} (f : ∀ T L, St l R C T L k n → T.heap = h → ∃ T', St l R C T' L k n ∧ T'.heap = h ∧ ∀ t, Sp C (T'.setTop (mkF C.2.2.2.1 pc' Ls' st')) t → Sp C (T.setTop (mkF C.2.2.2.1 pc Ls st)) t)
    (hr : W l R C E h k n pc' Ls' st') : W l R C E h k n pc Ls st := fun T L X N eT => by
  obtain ⟨T', X', e', q⟩ := f T L X eT
  obtain ⟨t, o, h1, h2⟩ := hr T' L X' N e'
  exact ⟨t, o, q t h1, h2⟩
theorem size_ge {n0 : Nat} (H : Cx C Z own code ml ret nm n0) {T : State} {L : List Loc} (X : St l R C T L k n) : n0 ≤ T.heap.size := Nat.le_trans H.2.2.2.2.2.2.2.2 X.same.2.1
/-! plain steps -/
section Plain
theorem k_iloadN {i : Fin 4} {x : Int32} (H : Cx C Z own code ml ret nm E.1) (hd : decode code pc = .ok (.iload_n i, 1)) (hl : Ls[i.val]? = some (.val (.int x))) (hr : W l R C E h k n (pc + 1) Ls (.int x :: st)) : W l R C E h k n pc Ls st := .via (fun T t L X _ r => XS.iloadN X.here H.1 rfl (hb H.2.1 hd) hl r) hr
theorem k_iload {i : Nat} {x : Int32} (H : Cx C Z own code ml ret nm E.1) (hd : decode code pc = .ok (.iload i, 2)) (hl : Ls[i]? = some (.val (.int x))) (hr : W l R C E h k n (pc + 2) Ls (.int x :: st)) : W l R C E h k n pc Ls st := .via (fun T t L X _ r => XS.iload X.here H.1 rfl (hb H.2.1 hd) hl r) hr
theorem k_lloadN {i : Fin 4} {x : Int64} (H : Cx C Z own code ml ret nm E.1) (hd : decode code pc = .ok (.lload_n i, 1)) (hl : Ls[i.val]? = some (.val (.long x))) (hr : W l R C E h k n (pc + 1) Ls (.long x :: st)) : W l R C E h k n pc Ls st := .via (fun T t L X _ r => XT.lloadN X.here H.1 rfl (hb H.2.1 hd) hl r) hr
theorem k_lload {i : Nat} {x : Int64} (H : Cx C Z own code ml ret nm E.1) (hd : decode code pc = .ok (.lload i, 2)) (hl : Ls[i]? = some (.val (.long x))) (hr : W l R C E h k n (pc + 2) Ls (.long x :: st)) : W l R C E h k n pc Ls st := .via (fun T t L X _ r => XT.lload X.here H.1 rfl (hb H.2.1 hd) hl r) hr
theorem k_aloadN {i : Fin 4} {v : Value} (H : Cx C Z own code ml ret nm E.1) (hd : decode code pc = .ok (.aload_n i, 1)) (hl : Ls[i.val]? = some (.val v)) (hv : v.isRef = true) (hr : W l R C E h k n (pc + 1) Ls (v :: st)) : W l R C E h k n pc Ls st := .via (fun T t L X _ r => XS.aloadN X.here H.1 rfl (hb H.2.1 hd) hl hv r) hr
theorem k_aload {i : Nat} {v : Value} (H : Cx C Z own code ml ret nm E.1) (hd : decode code pc = .ok (.aload i, 2)) (hl : Ls[i]? = some (.val v)) (hv : v.isRef = true) (hr : W l R C E h k n (pc + 2) Ls (v :: st)) : W l R C E h k n pc Ls st := .via (fun T t L X _ r => XS.aload X.here H.1 rfl (hb H.2.1 hd) hl hv r) hr
theorem k_istoreN {i : Fin 4} {x : Int32} {Ls' : Array Slot} (H : Cx C Z own code ml ret nm E.1) (hd : decode code pc = .ok (.istore_n i, 1)) (hl : storeLocals Ls i.val (.int x) = some Ls') (hr : W l R C E h k n (pc + 1) Ls' st) : W l R C E h k n pc Ls (.int x :: st) := .via (fun T t L X _ r => XS.istoreN X.here H.1 rfl (hb H.2.1 hd) rfl hl r) hr
theorem k_istore {i : Nat} {x : Int32} {Ls' : Array Slot} (H : Cx C Z own code ml ret nm E.1) (hd : decode code pc = .ok (.istore i, 2)) (hl : storeLocals Ls i (.int x) = some Ls') (hr : W l R C E h k n (pc + 2) Ls' st) : W l R C E h k n pc Ls (.int x :: st) := .via (fun T t L X _ r => XS.istore X.here H.1 rfl (hb H.2.1 hd) rfl hl r) hr
theorem k_lstoreN {i : Fin 4} {x : Int64} {Ls' : Array Slot} (H : Cx C Z own code ml ret nm E.1) (hd : decode code pc = .ok (.lstore_n i, 1)) (hl : storeLocals Ls i.val (.long x) = some Ls') (hr : W l R C E h k n (pc + 1) Ls' st) : W l R C E h k n pc Ls (.long x :: st) := .via (fun T t L X _ r => XT.lstoreN X.here H.1 rfl (hb H.2.1 hd) rfl hl r) hr
theorem k_lstore {i : Nat} {x : Int64} {Ls' : Array Slot} (H : Cx C Z own code ml ret nm E.1) (hd : decode code pc = .ok (.lstore i, 2)) (hl : storeLocals Ls i (.long x) = some Ls') (hr : W l R C E h k n (pc + 2) Ls' st) : W l R C E h k n pc Ls (.long x :: st) := .via (fun T t L X _ r => XT.lstore X.here H.1 rfl (hb H.2.1 hd) rfl hl r) hr
theorem k_astoreN {i : Fin 4} {x : Value} {Ls' : Array Slot} (H : Cx C Z own code ml ret nm E.1) (hd : decode code pc = .ok (.astore_n i, 1)) (hv : x.isRef = true) (hl : storeLocals Ls i.val x = some Ls') (hr : W l R C E h k n (pc + 1) Ls' st) : W l R C E h k n pc Ls (x :: st) := .via (fun T t L X _ r => XS.astoreN X.here H.1 rfl (hb H.2.1 hd) rfl hv hl r) hr
theorem k_astore {i : Nat} {x : Value} {Ls' : Array Slot} (H : Cx C Z own code ml ret nm E.1) (hd : decode code pc = .ok (.astore i, 2)) (hv : x.isRef = true) (hl : storeLocals Ls i x = some Ls') (hr : W l R C E h k n (pc + 2) Ls' st) : W l R C E h k n pc Ls (x :: st) := .via (fun T t L X _ r => XS.astore X.here H.1 rfl (hb H.2.1 hd) rfl hv hl r) hr
theorem k_iconst {i : Int} (v : Int32) (H : Cx C Z own code ml ret nm E.1) (hd : decode code pc = .ok (.iconst i, 1)) (hv : Int32.ofInt i = v) (hr : W l R C E h k n (pc + 1) Ls (.int v :: st)) : W l R C E h k n pc Ls st := .via (fun T t L X _ r => XT.iconstV X.here H.1 rfl v (hb H.2.1 hd) hv r) hr
theorem k_bipush {i : Int} (v : Int32) (H : Cx C Z own code ml ret nm E.1) (hd : decode code pc = .ok (.bipush i, 2)) (hv : (Int8.ofInt i).toInt32 = v) (hr : W l R C E h k n (pc + 2) Ls (.int v :: st)) : W l R C E h k n pc Ls st := .via (fun T t L X _ r => XT.bipushV X.here H.1 rfl v (hb H.2.1 hd) hv r) hr
theorem k_sipush {i : Int} (v : Int32) (H : Cx C Z own code ml ret nm E.1) (hd : decode code pc = .ok (.sipush i, 3)) (hv : (Int16.ofInt i).toInt32 = v) (hr : W l R C E h k n (pc + 3) Ls (.int v :: st)) : W l R C E h k n pc Ls st := .via (fun T t L X _ r => XT.sipushV X.here H.1 rfl v (hb H.2.1 hd) hv r) hr
theorem k_lconst {i : Fin 2} (v : Int64) (H : Cx C Z own code ml ret nm E.1) (hd : decode code pc = .ok (.lconst i, 1)) (hv : Int64.ofNat i = v) (hr : W l R C E h k n (pc + 1) Ls (.long v :: st)) : W l R C E h k n pc Ls st := .via (fun T t L X _ r => XT.lconstV X.here H.1 rfl v (hb H.2.1 hd) hv r) hr
theorem k_aconstNull (H : Cx C Z own code ml ret nm E.1) (hd : decode code pc = .ok (.aconst_null, 1)) (hr : W l R C E h k n (pc + 1) Ls (.null :: st)) : W l R C E h k n pc Ls st := .via (fun T t L X _ r => XS.aconstNull X.here H.1 rfl (hb H.2.1 hd) r) hr
theorem k_ldcI {i : Nat} {v : Int32} (H : Cx C Z own code ml ret nm E.1) (hc : (Cond.constant own i v).before a0 Z = true) (hd : decode code pc = .ok (.ldc i, 2)) (hr : W l R C E h k n (pc + 2) Ls (.int v :: st)) : W l R C E h k n pc Ls st := .via (fun T t L X _ r => X.ldcI H.1 H.2.2.2.1 (mv H.2.2.2.2.1 hc) rfl (hb H.2.1 hd) r) hr
theorem k_ldcWI {i : Nat} {v : Int32} (H : Cx C Z own code ml ret nm E.1) (hc : (Cond.constant own i v).before a0 Z = true) (hd : decode code pc = .ok (.ldc_w i, 3)) (hr : W l R C E h k n (pc + 3) Ls (.int v :: st)) : W l R C E h k n pc Ls st := .via (fun T t L X _ r => X.ldcWI H.1 H.2.2.2.1 (mv H.2.2.2.2.1 hc) rfl (hb H.2.1 hd) r) hr
theorem k_ldc2J {i : Nat} {v : Int64} (H : Cx C Z own code ml ret nm E.1) (hc : (Cond.constantLong own i v).before a0 Z = true) (hd : decode code pc = .ok (.ldc2_w i, 3)) (hr : W l R C E h k n (pc + 3) Ls (.long v :: st)) : W l R C E h k n pc Ls st := .via (fun T t L X _ r => X.ldc2J H.1 H.2.2.2.1 (mv H.2.2.2.2.1 hc) rfl (hb H.2.1 hd) r) hr
theorem k_iinc {i : Nat} {c : Int} (v : Int32) {x : Int32} {Ls' : Array Slot} (H : Cx C Z own code ml ret nm E.1) (hd : decode code pc = .ok (.iinc i c, 3)) (hv : Int32.ofInt c = v) (hl : Ls[i]? = some (.val (.int x))) (hl' : storeLocals Ls i (.int (x + v)) = some Ls') (hr : W l R C E h k n (pc + 3) Ls' st) : W l R C E h k n pc Ls st := .via (fun T t L X _ r => XT.iincV X.here H.1 rfl v (hb H.2.1 hd) hv hl hl' r) hr
theorem k_iadd {x y : Int32} (H : Cx C Z own code ml ret nm E.1) (hd : decode code pc = .ok (.iadd, 1)) (hr : W l R C E h k n (pc + 1) Ls (.int (x + y) :: st)) : W l R C E h k n pc Ls (.int y :: .int x :: st) := .via (fun T t L X _ r => XS.iadd X.here H.1 rfl (hb H.2.1 hd) rfl r) hr
theorem k_isub {x y : Int32} (H : Cx C Z own code ml ret nm E.1) (hd : decode code pc = .ok (.isub, 1)) (hr : W l R C E h k n (pc + 1) Ls (.int (x - y) :: st)) : W l R C E h k n pc Ls (.int y :: .int x :: st) := .via (fun T t L X _ r => XS.isub X.here H.1 rfl (hb H.2.1 hd) rfl r) hr
theorem k_imul {x y : Int32} (H : Cx C Z own code ml ret nm E.1) (hd : decode code pc = .ok (.imul, 1)) (hr : W l R C E h k n (pc + 1) Ls (.int (x * y) :: st)) : W l R C E h k n pc Ls (.int y :: .int x :: st) := .via (fun T t L X _ r => XS.imul X.here H.1 rfl (hb H.2.1 hd) rfl r) hr
theorem k_idiv {x y : Int32} (H : Cx C Z own code ml ret nm E.1) (hd : decode code pc = .ok (.idiv, 1)) (hy : y ≠ 0) (hr : W l R C E h k n (pc + 1) Ls (.int (x / y) :: st)) : W l R C E h k n pc Ls (.int y :: .int x :: st) := .via (fun T t L X _ r => XS.idiv X.here H.1 rfl (hb H.2.1 hd) rfl hy r) hr
theorem k_irem {x y : Int32} (H : Cx C Z own code ml ret nm E.1) (hd : decode code pc = .ok (.irem, 1)) (hy : y ≠ 0) (hr : W l R C E h k n (pc + 1) Ls (.int (x % y) :: st)) : W l R C E h k n pc Ls (.int y :: .int x :: st) := .via (fun T t L X _ r => iremM X H.1 rfl (hb H.2.1 hd) rfl hy r) hr
theorem k_iand {x y : Int32} (H : Cx C Z own code ml ret nm E.1) (hd : decode code pc = .ok (.iand, 1)) (hr : W l R C E h k n (pc + 1) Ls (.int (x &&& y) :: st)) : W l R C E h k n pc Ls (.int y :: .int x :: st) := .via (fun T t L X _ r => XS.iand X.here H.1 rfl (hb H.2.1 hd) rfl r) hr
theorem k_ior {x y : Int32} (H : Cx C Z own code ml ret nm E.1) (hd : decode code pc = .ok (.ior, 1)) (hr : W l R C E h k n (pc + 1) Ls (.int (x ||| y) :: st)) : W l R C E h k n pc Ls (.int y :: .int x :: st) := .via (fun T t L X _ r => XT.ior X.here H.1 rfl (hb H.2.1 hd) rfl r) hr
theorem k_ixor {x y : Int32} (H : Cx C Z own code ml ret nm E.1) (hd : decode code pc = .ok (.ixor, 1)) (hr : W l R C E h k n (pc + 1) Ls (.int (x ^^^ y) :: st)) : W l R C E h k n pc Ls (.int y :: .int x :: st) := .via (fun T t L X _ r => XT.ixor X.here H.1 rfl (hb H.2.1 hd) rfl r) hr
theorem k_ishl {x y : Int32} (H : Cx C Z own code ml ret nm E.1) (hd : decode code pc = .ok (.ishl, 1)) (hr : W l R C E h k n (pc + 1) Ls (.int (x <<< (y &&& 31)) :: st)) : W l R C E h k n pc Ls (.int y :: .int x :: st) := .via (fun T t L X _ r => XT.ishl X.here H.1 rfl (hb H.2.1 hd) rfl r) hr
theorem k_ishr {x y : Int32} (H : Cx C Z own code ml ret nm E.1) (hd : decode code pc = .ok (.ishr, 1)) (hr : W l R C E h k n (pc + 1) Ls (.int (x >>> (y &&& 31)) :: st)) : W l R C E h k n pc Ls (.int y :: .int x :: st) := .via (fun T t L X _ r => XT.ishr X.here H.1 rfl (hb H.2.1 hd) rfl r) hr
theorem k_iushr {x y : Int32} (H : Cx C Z own code ml ret nm E.1) (hd : decode code pc = .ok (.iushr, 1)) (hr : W l R C E h k n (pc + 1) Ls (.int (XT.ushr x y) :: st)) : W l R C E h k n pc Ls (.int y :: .int x :: st) := .via (fun T t L X _ r => XT.iushr X.here H.1 rfl (hb H.2.1 hd) rfl r) hr
theorem k_ineg {x : Int32} (H : Cx C Z own code ml ret nm E.1) (hd : decode code pc = .ok (.ineg, 1)) (hr : W l R C E h k n (pc + 1) Ls (.int (-x) :: st)) : W l R C E h k n pc Ls (.int x :: st) := .via (fun T t L X _ r => XS.ineg X.here H.1 rfl (hb H.2.1 hd) rfl r) hr
theorem k_ladd {x y : Int64} (H : Cx C Z own code ml ret nm E.1) (hd : decode code pc = .ok (.ladd, 1)) (hr : W l R C E h k n (pc + 1) Ls (.long (x + y) :: st)) : W l R C E h k n pc Ls (.long y :: .long x :: st) := .via (fun T t L X _ r => XT.ladd X.here H.1 rfl (hb H.2.1 hd) rfl r) hr
theorem k_lsub {x y : Int64} (H : Cx C Z own code ml ret nm E.1) (hd : decode code pc = .ok (.lsub, 1)) (hr : W l R C E h k n (pc + 1) Ls (.long (x - y) :: st)) : W l R C E h k n pc Ls (.long y :: .long x :: st) := .via (fun T t L X _ r => XT.lsub X.here H.1 rfl (hb H.2.1 hd) rfl r) hr
theorem k_land {x y : Int64} (H : Cx C Z own code ml ret nm E.1) (hd : decode code pc = .ok (.land, 1)) (hr : W l R C E h k n (pc + 1) Ls (.long (x &&& y) :: st)) : W l R C E h k n pc Ls (.long y :: .long x :: st) := .via (fun T t L X _ r => XT.land X.here H.1 rfl (hb H.2.1 hd) rfl r) hr
theorem k_lor {x y : Int64} (H : Cx C Z own code ml ret nm E.1) (hd : decode code pc = .ok (.lor, 1)) (hr : W l R C E h k n (pc + 1) Ls (.long (x ||| y) :: st)) : W l R C E h k n pc Ls (.long y :: .long x :: st) := .via (fun T t L X _ r => XT.lor X.here H.1 rfl (hb H.2.1 hd) rfl r) hr
theorem k_lxor {x y : Int64} (H : Cx C Z own code ml ret nm E.1) (hd : decode code pc = .ok (.lxor, 1)) (hr : W l R C E h k n (pc + 1) Ls (.long (x ^^^ y) :: st)) : W l R C E h k n pc Ls (.long y :: .long x :: st) := .via (fun T t L X _ r => XT.lxor X.here H.1 rfl (hb H.2.1 hd) rfl r) hr
theorem k_lshl {x : Int64} {y : Int32} (H : Cx C Z own code ml ret nm E.1) (hd : decode code pc = .ok (.lshl, 1)) (hr : W l R C E h k n (pc + 1) Ls (.long (x <<< (y.toInt64 &&& 63)) :: st)) : W l R C E h k n pc Ls (.int y :: .long x :: st) := .via (fun T t L X _ r => XT.lshl X.here H.1 rfl (hb H.2.1 hd) rfl r) hr
theorem k_lushr {x : Int64} {y : Int32} (H : Cx C Z own code ml ret nm E.1) (hd : decode code pc = .ok (.lushr, 1)) (hr : W l R C E h k n (pc + 1) Ls (.long (XT.ushrL x y) :: st)) : W l R C E h k n pc Ls (.int y :: .long x :: st) := .via (fun T t L X _ r => XT.lushr X.here H.1 rfl (hb H.2.1 hd) rfl r) hr
theorem k_i2l {x : Int32} (H : Cx C Z own code ml ret nm E.1) (hd : decode code pc = .ok (.i2l, 1)) (hr : W l R C E h k n (pc + 1) Ls (.long x.toInt64 :: st)) : W l R C E h k n pc Ls (.int x :: st) := .via (fun T t L X _ r => XT.i2l X.here H.1 rfl (hb H.2.1 hd) rfl r) hr
theorem k_l2i {x : Int64} (H : Cx C Z own code ml ret nm E.1) (hd : decode code pc = .ok (.l2i, 1)) (hr : W l R C E h k n (pc + 1) Ls (.int x.toInt32 :: st)) : W l R C E h k n pc Ls (.long x :: st) := .via (fun T t L X _ r => XT.l2i X.here H.1 rfl (hb H.2.1 hd) rfl r) hr
theorem k_i2b {x : Int32} (H : Cx C Z own code ml ret nm E.1) (hd : decode code pc = .ok (.i2b, 1)) (hr : W l R C E h k n (pc + 1) Ls (.int x.toInt8.toInt32 :: st)) : W l R C E h k n pc Ls (.int x :: st) := .via (fun T t L X _ r => XT.i2b X.here H.1 rfl (hb H.2.1 hd) rfl r) hr
theorem k_i2c {x : Int32} (H : Cx C Z own code ml ret nm E.1) (hd : decode code pc = .ok (.i2c, 1)) (hr : W l R C E h k n (pc + 1) Ls (.int x.toUInt32.toUInt16.toUInt32.toInt32 :: st)) : W l R C E h k n pc Ls (.int x :: st) := .via (fun T t L X _ r => XT.i2c X.here H.1 rfl (hb H.2.1 hd) rfl r) hr
theorem k_lcmp {x y : Int64} (H : Cx C Z own code ml ret nm E.1) (hd : decode code pc = .ok (.lcmp, 1)) (hr : W l R C E h k n (pc + 1) Ls (.int (XT.cmpL x y) :: st)) : W l R C E h k n pc Ls (.long y :: .long x :: st) := .via (fun T t L X _ r => XT.lcmp X.here H.1 rfl (hb H.2.1 hd) rfl r) hr
theorem k_dup {v : Value} (H : Cx C Z own code ml ret nm E.1) (hd : decode code pc = .ok (.dup, 1)) (hc : v.category = 1) (hr : W l R C E h k n (pc + 1) Ls (v :: v :: st)) : W l R C E h k n pc Ls (v :: st) := .via (fun T t L X _ r => XS.dup X.here H.1 rfl (hb H.2.1 hd) rfl hc r) hr
theorem k_pop {v : Value} (H : Cx C Z own code ml ret nm E.1) (hd : decode code pc = .ok (.pop, 1)) (hc : v.category = 1) (hr : W l R C E h k n (pc + 1) Ls st) : W l R C E h k n pc Ls (v :: st) := .via (fun T t L X _ r => XT.pop X.here H.1 rfl (hb H.2.1 hd) rfl hc r) hr
theorem k_dupX1 {v w : Value} (H : Cx C Z own code ml ret nm E.1) (hd : decode code pc = .ok (.dup_x1, 1)) (hc : v.category = 1) (hc' : w.category = 1) (hr : W l R C E h k n (pc + 1) Ls (v :: w :: v :: st)) : W l R C E h k n pc Ls (v :: w :: st) := .via (fun T t L X _ r => XT.dupX1 X.here H.1 rfl (hb H.2.1 hd) rfl hc hc' r) hr
theorem k_dup2 {v w : Value} (H : Cx C Z own code ml ret nm E.1) (hd : decode code pc = .ok (.dup2, 1)) (hc : v.category = 1) (hc' : w.category = 1) (hr : W l R C E h k n (pc + 1) Ls (v :: w :: v :: w :: st)) : W l R C E h k n pc Ls (v :: w :: st) := .via (fun T t L X _ r => XT.dup2 X.here H.1 rfl (hb H.2.1 hd) rfl hc hc' r) hr
theorem k_goto {o : Int} (pc' : Nat) (H : Cx C Z own code ml ret nm E.1) (hd : decode code pc = .ok (.goto o, 3)) (hp : (pc : Int) + o = (pc' : Int)) (hr : W l R C E h k n pc' Ls st) : W l R C E h k n pc Ls st := .via (fun T t L X _ r => XS.goto X.here H.1 rfl rfl (hb H.2.1 hd) (by rw [hp]; exact Int.natCast_nonneg _) (by rw [hp]; rfl) r) hr
theorem k_icmpT {cd : ClassFile.Cond} {o : Int} {x y : Int32} (pc' : Nat) (H : Cx C Z own code ml ret nm E.1) (hd : decode code pc = .ok (.if_icmp cd o, 3)) (hp : (pc : Int) + o = (pc' : Int)) (hc : if_icmp.holds cd x y = true) (hr : W l R C E h k n pc' Ls st) : W l R C E h k n pc Ls (.int y :: .int x :: st) :=
  .via (fun T t L X _ r => XS.icmpYes X.here H.1 rfl rfl (hb H.2.1 hd) rfl hc (by rw [hp]; exact Int.natCast_nonneg _) (by rw [hp]; rfl) r) hr
theorem k_icmpF {cd : ClassFile.Cond} {o : Int} {x y : Int32} (H : Cx C Z own code ml ret nm E.1) (hd : decode code pc = .ok (.if_icmp cd o, 3)) (hc : if_icmp.holds cd x y = false) (hr : W l R C E h k n (pc + 3) Ls st) : W l R C E h k n pc Ls (.int y :: .int x :: st) :=
  .via (fun T t L X _ r => XS.icmpNo X.here H.1 rfl (hb H.2.1 hd) rfl hc r) hr
theorem k_ifT {cd : ClassFile.Cond} {o : Int} {x : Int32} (pc' : Nat) (H : Cx C Z own code ml ret nm E.1) (hd : decode code pc = .ok (.ifCond cd o, 3)) (hp : (pc : Int) + o = (pc' : Int)) (hc : ifCond.holds cd x = true) (hr : W l R C E h k n pc' Ls st) : W l R C E h k n pc Ls (.int x :: st) :=
  .via (fun T t L X _ r => XS.ifYes X.here H.1 rfl rfl (hb H.2.1 hd) rfl hc (by rw [hp]; exact Int.natCast_nonneg _) (by rw [hp]; rfl) r) hr
theorem k_ifF {cd : ClassFile.Cond} {o : Int} {x : Int32} (H : Cx C Z own code ml ret nm E.1) (hd : decode code pc = .ok (.ifCond cd o, 3)) (hc : ifCond.holds cd x = false) (hr : W l R C E h k n (pc + 3) Ls st) : W l R C E h k n pc Ls (.int x :: st) :=
  .via (fun T t L X _ r => XS.ifNo X.here H.1 rfl (hb H.2.1 hd) rfl hc r) hr
theorem k_acmpT {cd : ClassFile.ACond} {o : Int} {x y : Value} (pc' : Nat) (H : Cx C Z own code ml ret nm E.1) (hd : decode code pc = .ok (.if_acmp cd o, 3)) (hp : (pc : Int) + o = (pc' : Int)) (hx : x.isRef = true) (hy : y.isRef = true) (hc : XT.acmp cd x y = true) (hr : W l R C E h k n pc' Ls st) : W l R C E h k n pc Ls (y :: x :: st) :=
  .via (fun T t L X _ r => XT.acmpYes X.here H.1 rfl rfl (hb H.2.1 hd) rfl hx hy hc (by rw [hp]; exact Int.natCast_nonneg _) (by rw [hp]; rfl) r) hr
theorem k_acmpF {cd : ClassFile.ACond} {o : Int} {x y : Value} (H : Cx C Z own code ml ret nm E.1) (hd : decode code pc = .ok (.if_acmp cd o, 3)) (hx : x.isRef = true) (hy : y.isRef = true) (hc : XT.acmp cd x y = false) (hr : W l R C E h k n (pc + 3) Ls st) : W l R C E h k n pc Ls (y :: x :: st) :=
  .via (fun T t L X _ r => XT.acmpNo X.here H.1 rfl (hb H.2.1 hd) rfl hx hy hc r) hr
theorem k_nonnullT {o : Int} {b : Addr} (pc' : Nat) (H : Cx C Z own code ml ret nm E.1) (hd : decode code pc = .ok (.ifnonnull o, 3)) (hp : (pc : Int) + o = (pc' : Int)) (hr : W l R C E h k n pc' Ls st) : W l R C E h k n pc Ls (.ref b :: st) :=
  .via (fun T t L X _ r => XT.ifnonnullYes X.here H.1 rfl rfl (hb H.2.1 hd) rfl (by rw [hp]; exact Int.natCast_nonneg _) (by rw [hp]; rfl) r) hr
theorem k_tsw {dflt low high o : Int} {offs : Array Int} {len : Nat} {i : Int32} (pc' : Nat) (H : Cx C Z own code ml ret nm E.1) (hd : decode code pc = .ok (.tableswitch dflt low high offs, len)) (hin : ¬ (i.toInt < low ∨ i.toInt > high)) (hoff : offs[(i.toInt - low).toNat]? = some o) (hp : (pc : Int) + o = (pc' : Int)) (hr : W l R C E h k n pc' Ls st) : W l R C E h k n pc Ls (.int i :: st) :=
  .via (fun T t L X _ r => XS.tswIn X.here H.1 rfl rfl (hb H.2.1 hd) rfl hin hoff (by rw [hp]; exact Int.natCast_nonneg _) (by rw [hp]; rfl) r) hr
theorem lsw {tb : Tables} [Ours tb] {e : Env} {below : List Frame} {T target : State} {m : MethodId} {c : Code} {g : JFrame} (h : At T m c below) (hx : tb.exec = Jvm.exec) (hg : g.method = m) {dflt : Int} {pairs : Array (Int × Int)} {len : Nat} {pc0 pc' : Nat} (hpc : g.pc = pc0) (hd : decode c.code g.pc = .ok (.lookupswitch dflt pairs, len)) {i : Int32} {rest : List Value} (hs : g.stack = .int i :: rest)
    (ho : 0 ≤ (pc0 : Int) + lookupswitch.offset pairs.toList dflt i.toInt) (hp : ((pc0 : Int) + lookupswitch.offset pairs.toList dflt i.toInt).toNat = pc') (hsort : ∀ (a b c d : Int), ((a, b), c, d) ∈ pairs.toList.zip pairs.toList.tail → a < c) (hr : Steps tb e below (T.setTop { g with pc := pc', stack := rest }) target) : Steps tb e below (T.setTop g) target := by
  subst hg hpc hp
  jvm_step h [h.top, hx, hd, hs, ho, lookupswitch.wp_chain]
  exact ⟨hsort, hr⟩
theorem k_lsw {dflt : Int} {pairs : Array (Int × Int)} {len : Nat} {i : Int32} (pc' : Nat) (H : Cx C Z own code ml ret nm E.1) (hd : decode code pc = .ok (.lookupswitch dflt pairs, len)) (hsort : ∀ (a b c d : Int), ((a, b), c, d) ∈ pairs.toList.zip pairs.toList.tail → a < c) (hp : (pc : Int) + lookupswitch.offset pairs.toList dflt i.toInt = (pc' : Int)) (hr : W l R C E h k n pc' Ls st) : W l R C E h k n pc Ls (.int i :: st) :=
  .via (fun T t L X _ r => lsw X.here H.1 rfl rfl (hb H.2.1 hd) rfl (by rw [hp]; exact Int.natCast_nonneg _) (by rw [hp]; rfl) hsort r) hr
end Plain
/-! branches, both ways -/
theorem k_icmp {cd : ClassFile.Cond} {o : Int} {x y : Int32} {P : Prop} [Decidable P] (pc' : Nat) (H : Cx C Z own code ml ret nm E.1) (hd : decode code pc = .ok (.if_icmp cd o, 3)) (hp : (pc : Int) + o = (pc' : Int)) (hT : P → if_icmp.holds cd x y = true) (hF : ¬ P → if_icmp.holds cd x y = false)
    (h1 : P → W l R C E h k n pc' Ls st) (h2 : ¬ P → W l R C E h k n (pc + 3) Ls st) : W l R C E h k n pc Ls (.int y :: .int x :: st) := by
  by_cases q : P
  · exact k_icmpT pc' H hd hp (hT q) (h1 q)
  · exact k_icmpF H hd (hF q) (h2 q)
theorem k_iff0 {cd : ClassFile.Cond} {o : Int} {x : Int32} {P : Prop} [Decidable P] (pc' : Nat) (H : Cx C Z own code ml ret nm E.1) (hd : decode code pc = .ok (.ifCond cd o, 3)) (hp : (pc : Int) + o = (pc' : Int)) (hT : P → ifCond.holds cd x = true) (hF : ¬ P → ifCond.holds cd x = false)
    (h1 : P → W l R C E h k n pc' Ls st) (h2 : ¬ P → W l R C E h k n (pc + 3) Ls st) : W l R C E h k n pc Ls (.int x :: st) := by
  by_cases q : P
  · exact k_ifT pc' H hd hp (hT q) (h1 q)
  · exact k_ifF H hd (hF q) (h2 q)
theorem k_icmpR {cd : ClassFile.Cond} {o : Int} {x y : Int32} {P : Prop} [Decidable P] (pc' : Nat) (H : Cx C Z own code ml ret nm E.1) (hd : decode code pc = .ok (.if_icmp cd o, 3)) (hp : (pc : Int) + o = (pc' : Int)) (hT : ¬ P → if_icmp.holds cd x y = true) (hF : P → if_icmp.holds cd x y = false)
    (h1 : ¬ P → W l R C E h k n pc' Ls st) (h2 : P → W l R C E h k n (pc + 3) Ls st) : W l R C E h k n pc Ls (.int y :: .int x :: st) := by
  by_cases q : P
  · exact k_icmpF H hd (hF q) (h2 q)
  · exact k_icmpT pc' H hd hp (hT q) (h1 q)
theorem k_iff0R {cd : ClassFile.Cond} {o : Int} {x : Int32} {P : Prop} [Decidable P] (pc' : Nat) (H : Cx C Z own code ml ret nm E.1) (hd : decode code pc = .ok (.ifCond cd o, 3)) (hp : (pc : Int) + o = (pc' : Int)) (hT : ¬ P → ifCond.holds cd x = true) (hF : P → ifCond.holds cd x = false)
    (h1 : ¬ P → W l R C E h k n pc' Ls st) (h2 : P → W l R C E h k n (pc + 3) Ls st) : W l R C E h k n pc Ls (.int x :: st) := by
  by_cases q : P
  · exact k_ifF H hd (hF q) (h2 q)
  · exact k_ifT pc' H hd hp (hT q) (h1 q)
theorem k_acmp {cd : ClassFile.ACond} {o : Int} {x y : Value} {P : Prop} [Decidable P] (pc' : Nat) (H : Cx C Z own code ml ret nm E.1) (hd : decode code pc = .ok (.if_acmp cd o, 3)) (hp : (pc : Int) + o = (pc' : Int)) (hx : x.isRef = true) (hy : y.isRef = true) (hT : P → XT.acmp cd x y = true) (hF : ¬ P → XT.acmp cd x y = false)
    (h1 : P → W l R C E h k n pc' Ls st) (h2 : ¬ P → W l R C E h k n (pc + 3) Ls st) : W l R C E h k n pc Ls (y :: x :: st) := by
  by_cases q : P
  · exact k_acmpT pc' H hd hp hx hy (hT q) (h1 q)
  · exact k_acmpF H hd hx hy (hF q) (h2 q)
/-! heap steps -/
/-- an array: its kind and all that it holds -/
def Vec (Z : State) (h : Heap) (a : Addr) (ty : FieldType) (vs : List Value) : Prop := ∃ c : Cell, Arr Z h a c ty ∧ c.slots = vs.toArray ∧ vs.length < 2 ^ 31
abbrev IA (Z : State) (h : Heap) (a : Addr) (xs : List Int32) : Prop := Vec Z h a .int (xs.map Value.int)
abbrev JA (Z : State) (h : Heap) (a : Addr) (xs : List Int64) : Prop := Vec Z h a .long (xs.map Value.long)
abbrev BA (Z : State) (h : Heap) (a : Addr) (xs : List Int8) : Prop := Vec Z h a .byte (xs.map fun b => Value.int b.toInt32)
abbrev CA (Z : State) (h : Heap) (a : Addr) (xs : List UInt16) : Prop := Vec Z h a .char (xs.map fun b => Value.int b.toUInt32.toInt32)
theorem Vec.lt {a : Addr} {ty : FieldType} {vs : List Value} (F : Vec Z h a ty vs) : a < h.size := by obtain ⟨c, A, -⟩ := F; exact A.lt
theorem Vec.ext {a : Addr} {ty : FieldType} {vs : List Value} (F : Vec Z h a ty vs) (X : Ext h h') : Vec Z h' a ty vs := by obtain ⟨c, A, r⟩ := F; exact ⟨c, A.ext X, r⟩
theorem Vec.keep {a : Addr} {ty : FieldType} {vs : List Value} {ws : List Addr} (F : Vec Z h a ty vs) (K : Keep h h' ws) (q : a ∉ ws) : Vec Z h' a ty vs := by obtain ⟨c, A, r⟩ := F; exact ⟨c, ⟨K.2.1 a c A.1 q, A.2⟩, r⟩
theorem Vec.other {a b : Addr} {ty : FieldType} {vs : List Value} {sl : Nat} {v : Value} (F : Vec Z h b ty vs) (X : Wr h h' a sl v) (q : b ≠ a) : Vec Z h' b ty vs := by obtain ⟨c, A, r⟩ := F; exact ⟨c, A.other X q, r⟩
theorem Vec.set {a : Addr} {ty : FieldType} {vs : List Value} {sl : Nat} {v : Value} (F : Vec Z h a ty vs) (X : Wr h h' a sl v) : Vec Z h' a ty (vs.set sl v) := by
  obtain ⟨c, A, e, r⟩ := F
  refine ⟨_, A.same X, ?_, by simpa using r⟩
  simp [Cell.setSlot, e]
theorem Vec.ne {a b : Addr} {ty ty' : FieldType} {vs vs' : List Value} (F : Vec Z h a ty vs) (G : Vec Z h b ty' vs') (q : ty ≠ ty') : a ≠ b := fun e => by
  subst e
  obtain ⟨c, A, -⟩ := F
  obtain ⟨c', A', -⟩ := G
  cases A.1.symm.trans A'.1
  obtain ⟨-, k, h1, comp, h2⟩ := A.2.1
  obtain ⟨-, k', h1', comp', h2'⟩ := A'.2.1
  cases h1.symm.trans h1'
  rw [h2] at h2'; cases h2'; exact q rfl
theorem Vec.neX {a b : Addr} {ty : FieldType} {vs : List Value} {cls : String} {kk : Nat} (G : Vec Z h b ty vs) (F : Exa Z h a cls) (wi : (Cond.instantiable cls kk).before a0 Z = true) : a ≠ b := by obtain ⟨c, A, -⟩ := G; exact ne_arr F wi A
theorem Keep.ofExt (X : Ext h h') : Keep h h' [] := (Keep.refl h []).ext X
theorem idx_ok {j : Int32} {i : Nat} (hj : j.toInt = (i : Int)) : ¬ j < 0 ∧ j.toNatClampNeg = i := by
  have e0 : (0 : Int32).toInt = 0 := rfl
  constructor
  · rw [Int32.lt_iff_toInt_lt]; omega
  · simp only [Int32.toNatClampNeg, hj]; rfl
theorem len_ok {c : Cell} {vs : List Value} (e : c.slots = vs.toArray) (hl : vs.length < 2 ^ 31) : c.slots.size.toInt32.toInt = (vs.length : Int) := by
  rw [e]; exact len_toInt hl
section Arrs
variable {a : Addr} {j : Int32} {i : Nat} {v : Value} {vs : List Value}
theorem in_ok {c : Cell} (e : c.slots = vs.toArray) (hj : j.toInt = (i : Int)) (hv : vs[i]? = some v) : ¬ (j < 0 ∨ c.slots.size ≤ j.toNatClampNeg) ∧ c.slots[j.toNatClampNeg]? = some v := by
  obtain ⟨q1, q2⟩ := idx_ok hj
  rw [q2, e]
  have hlt : i < vs.length := (List.getElem?_eq_some_iff.mp hv).1
  exact ⟨fun z => z.elim q1 (fun z => absurd hlt (Nat.not_lt.mpr (by simpa using z))), by simpa using hv⟩
theorem k_arraylength {ty : FieldType} {N : Int32} (H : Cx C Z own code ml ret nm E.1) (A : Vec Z h a ty vs) (hN : N.toInt = (vs.length : Int)) (hd : decode code pc = .ok (.arraylength, 1)) (hr : W l R C E h k n (pc + 1) Ls (.int N :: st)) : W l R C E h k n pc Ls (.ref a :: st) := by
  obtain ⟨c, A, e, hl⟩ := A
  have q : c.slots.size.toInt32 = N := Int32.toInt_inj.mp ((len_ok e hl).trans hN.symm)
  subst q
  exact .via (fun T t L X eT r => X.arraylength H.1 (by rw [eT]; exact A.1) (State.isArrayOf_alike H.2.2.2.2.1.alike A.2.1) (g := mkF C.2.2.2.1 pc Ls (.ref a :: st)) rfl rfl (hb H.2.1 hd) _ r) hr
theorem k_iaload (H : Cx C Z own code ml ret nm E.1) (A : Vec Z h a .int vs) (hj : j.toInt = (i : Int)) (hv : vs[i]? = some v) (hd : decode code pc = .ok (.iaload, 1)) (hr : W l R C E h k n (pc + 1) Ls (v :: st)) : W l R C E h k n pc Ls (.int j :: .ref a :: st) := by
  obtain ⟨c, A, e, hl⟩ := A
  obtain ⟨q1, q2⟩ := in_ok e hj hv
  exact .via (fun T t L X eT r => X.iaload H.1 (by rw [eT]; exact A.1) (State.isArrayOf_alike H.2.2.2.2.1.alike A.2.1) A.2.2 q1 q2 (g := mkF C.2.2.2.1 pc Ls (.int j :: .ref a :: st)) rfl rfl (hb H.2.1 hd) _ r) hr
theorem k_laload (H : Cx C Z own code ml ret nm E.1) (A : Vec Z h a .long vs) (hj : j.toInt = (i : Int)) (hv : vs[i]? = some v) (hd : decode code pc = .ok (.laload, 1)) (hr : W l R C E h k n (pc + 1) Ls (v :: st)) : W l R C E h k n pc Ls (.int j :: .ref a :: st) := by
  obtain ⟨c, A, e, hl⟩ := A
  obtain ⟨q1, q2⟩ := in_ok e hj hv
  exact .via (fun T t L X eT r => X.laload H.1 (by rw [eT]; exact A.1) (State.isArrayOf_alike H.2.2.2.2.1.alike A.2.1) A.2.2 q1 q2 (g := mkF C.2.2.2.1 pc Ls (.int j :: .ref a :: st)) rfl rfl (hb H.2.1 hd) _ r) hr
theorem k_caload (H : Cx C Z own code ml ret nm E.1) (A : Vec Z h a .char vs) (hj : j.toInt = (i : Int)) (hv : vs[i]? = some v) (hd : decode code pc = .ok (.caload, 1)) (hr : W l R C E h k n (pc + 1) Ls (v :: st)) : W l R C E h k n pc Ls (.int j :: .ref a :: st) := by
  obtain ⟨c, A, e, hl⟩ := A
  obtain ⟨q1, q2⟩ := in_ok e hj hv
  exact .via (fun T t L X eT r => X.caload H.1 (by rw [eT]; exact A.1) (State.isArrayOf_alike H.2.2.2.2.1.alike A.2.1) A.2.2 q1 q2 (g := mkF C.2.2.2.1 pc Ls (.int j :: .ref a :: st)) rfl rfl (hb H.2.1 hd) _ r) hr
theorem k_baload (H : Cx C Z own code ml ret nm E.1) (A : Vec Z h a .byte vs) (hj : j.toInt = (i : Int)) (hv : vs[i]? = some v) (hd : decode code pc = .ok (.baload, 1)) (hr : W l R C E h k n (pc + 1) Ls (v :: st)) : W l R C E h k n pc Ls (.int j :: .ref a :: st) := by
  obtain ⟨c, A, e, hl⟩ := A
  obtain ⟨q1, q2⟩ := in_ok e hj hv
  exact .via (fun T t L X eT r => X.baloadBytes H.1 (by rw [eT]; exact A.1) (State.isArrayOf_alike H.2.2.2.2.1.alike A.2.1) A.2.2 q1 q2 (g := mkF C.2.2.2.1 pc Ls (.int j :: .ref a :: st)) rfl rfl (hb H.2.1 hd) _ r) hr
theorem out_ok {c : Cell} (e : c.slots = vs.toArray) (hj : j.toInt = (i : Int)) (hi : i < vs.length) : ¬ (j < 0 ∨ c.slots.size ≤ j.toNatClampNeg) := by
  obtain ⟨q1, q2⟩ := idx_ok hj
  rw [q2, e]
  exact fun z => z.elim q1 (fun z => absurd hi (Nat.not_lt.mpr (by simpa using z)))
theorem Goes.step {T T' : State} {g g' : JFrame} (q : ∀ t, Sp C (T'.setTop g') t → Sp C (T.setTop g) t) (r : Goes C E (T'.setTop g')) : Goes C E (T.setTop g) := by
  obtain ⟨t, o, h1, h2⟩ := r; exact ⟨t, o, q t h1, h2⟩
theorem k_iastore {x : Int32} (H : Cx C Z own code ml ret nm E.1) (A : Vec Z h a .int vs) (hj : j.toInt = (i : Int)) (hi : i < vs.length) (ge : E.1 ≤ a) (hd : decode code pc = .ok (.iastore, 1))
    (hr : ∀ h', Keep h h' [a] → Vec Z h' a .int (vs.set i (.int x)) → W l R C E h' k n (pc + 1) Ls st) : W l R C E h k n pc Ls (.int x :: .int j :: .ref a :: st) := fun T L X N eT => by
  have A' := A
  obtain ⟨c, A, e, hl⟩ := A
  obtain ⟨T', h', X', e', Wx, q⟩ := stI X H.1 H.2.2.2.2.1 eT A (out_ok e hj hi) (g := mkF C.2.2.2.1 pc Ls (.int x :: .int j :: .ref a :: st)) rfl rfl (hb H.2.1 hd)
  refine .step q (hr h' (Keep.of_wr Wx) ?_ T' _ X' (Fr.snoc X' N ge) e')
  rw [(idx_ok hj).2] at Wx; exact A'.set Wx
theorem k_lastore {x : Int64} (H : Cx C Z own code ml ret nm E.1) (A : Vec Z h a .long vs) (hj : j.toInt = (i : Int)) (hi : i < vs.length) (ge : E.1 ≤ a) (hd : decode code pc = .ok (.lastore, 1))
    (hr : ∀ h', Keep h h' [a] → Vec Z h' a .long (vs.set i (.long x)) → W l R C E h' k n (pc + 1) Ls st) : W l R C E h k n pc Ls (.long x :: .int j :: .ref a :: st) := fun T L X N eT => by
  have A' := A
  obtain ⟨c, A, e, hl⟩ := A
  obtain ⟨T', h', X', e', Wx, q⟩ := stJ X H.1 H.2.2.2.2.1 eT A (out_ok e hj hi) (g := mkF C.2.2.2.1 pc Ls (.long x :: .int j :: .ref a :: st)) rfl rfl (hb H.2.1 hd)
  refine .step q (hr h' (Keep.of_wr Wx) ?_ T' _ X' (Fr.snoc X' N ge) e')
  rw [(idx_ok hj).2] at Wx; exact A'.set Wx
theorem k_bastore {x : Int32} (H : Cx C Z own code ml ret nm E.1) (A : Vec Z h a .byte vs) (hj : j.toInt = (i : Int)) (hi : i < vs.length) (ge : E.1 ≤ a) (hd : decode code pc = .ok (.bastore, 1))
    (hr : ∀ h', Keep h h' [a] → Vec Z h' a .byte (vs.set i (.int x.toInt8.toInt32)) → W l R C E h' k n (pc + 1) Ls st) : W l R C E h k n pc Ls (.int x :: .int j :: .ref a :: st) := fun T L X N eT => by
  have A' := A
  obtain ⟨c, A, e, hl⟩ := A
  obtain ⟨T', h', X', e', Wx, q⟩ := stB X H.1 H.2.2.2.2.1 eT A (out_ok e hj hi) (g := mkF C.2.2.2.1 pc Ls (.int x :: .int j :: .ref a :: st)) rfl rfl (hb H.2.1 hd)
  refine .step q (hr h' (Keep.of_wr Wx) ?_ T' _ X' (Fr.snoc X' N ge) e')
  rw [(idx_ok hj).2] at Wx; exact A'.set Wx
theorem k_castore {x : Int32} (H : Cx C Z own code ml ret nm E.1) (A : Vec Z h a .char vs) (hj : j.toInt = (i : Int)) (hi : i < vs.length) (ge : E.1 ≤ a) (hd : decode code pc = .ok (.castore, 1))
    (hr : ∀ h', Keep h h' [a] → Vec Z h' a .char (vs.set i (.int x.toUInt32.toUInt16.toUInt32.toInt32)) → W l R C E h' k n (pc + 1) Ls st) : W l R C E h k n pc Ls (.int x :: .int j :: .ref a :: st) := fun T L X N eT => by
  have A' := A
  obtain ⟨c, A, e, hl⟩ := A
  obtain ⟨T', h', X', e', Wx, q⟩ := stC X H.1 H.2.2.2.2.1 eT A (out_ok e hj hi) (g := mkF C.2.2.2.1 pc Ls (.int x :: .int j :: .ref a :: st)) rfl rfl (hb H.2.1 hd)
  refine .step q (hr h' (Keep.of_wr Wx) ?_ T' _ X' (Fr.snoc X' N ge) e')
  rw [(idx_ok hj).2] at Wx; exact A'.set Wx
end Arrs
/-- newarray of a plain kind, at most cap long -/
theorem k_newarray {aty : ArrayType} {ty : FieldType} {len : Int32} (m cap : Nat) (H : Cx C Z own code ml ret nm E.1) (w : (Cond.arrayClass ty).before a0 Z = true) (hty : newarray.typeOf aty = ty) (hd : decode code pc = .ok (.newarray aty, 2)) (hm : len.toInt = (m : Int)) (hcap : m ≤ cap) (hB : cap * 8 ≤ 536870912) (hC : k + 1 ≤ R.cells) (hS : n + cap ≤ R.slots)
    (hr : ∀ h' a, a = h.size → E.1 ≤ a → Ext h h' → Exa Z h' a ("[" ++ ty.toString) → Vec Z h' a ty (List.replicate m (defaultValue ty)) → W l R C E h' (k + 1) (n + cap) (pc + 2) Ls (.ref a :: st)) : W l R C E h k n pc Ls (.int len :: st) := fun T L X N eT => by
  subst hty
  obtain ⟨q1, q2⟩ := idx_ok hm
  obtain ⟨T', h', cA, X', e', Ex, A, XA, q⟩ := newPE X H.1 H.2.2.2.2.1 w eT (g := mkF C.2.2.2.1 pc Ls (.int len :: st)) rfl (hb H.2.1 hd) rfl q1 (cap := cap) (by rw [q2]; exact hcap) hB hC hS rfl
  have hlt : m < 2 ^ 31 := by have := len.toInt_lt; omega
  refine .step q (hr h' h.size rfl (by rw [← eT]; exact size_ge H X) Ex XA ⟨_, A, ?_, by simpa using hlt⟩ T' _ X' N e')
  simp [newA, q2]
theorem k_newObj {idx ns : Nat} {cls : String} (H : Cx C Z own code ml ret nm E.1) (w : (Cond.classLink own idx cls).before a0 Z = true) (wi : (Cond.instantiable cls ns).before a0 Z = true) (wz : (Cond.initialized cls).before a0 Z = true) (hd : decode code pc = .ok (.new idx, 3)) (hC : k + 1 ≤ R.cells) (hS : n + ns ≤ R.slots)
    (hr : ∀ h' a, a = h.size → E.1 ≤ a → Ext h h' → Exa Z h' a cls → (∀ {O nf d : String} {ty : FieldType}, Laid Z a0 cls O nf d → parseFieldDescriptor d = some ty → Fld Z h' a O nf d (defaultValue ty)) → W l R C E h' (k + 1) (n + ns) (pc + 3) Ls (.ref a :: st)) : W l R C E h k n pc Ls st := fun T L X N eT => by
  obtain ⟨T', h', X', e', Ex, A, D, -, q⟩ := newO X H.1 H.2.2.2.2.1 H.2.2.2.1 w wi wz eT (g := mkF C.2.2.2.1 pc Ls st) rfl (hb H.2.1 hd) hC hS
  exact .step q (hr h' h.size rfl (by rw [← eT]; exact size_ge H X) Ex A D T' _ X' N e')
theorem k_initObj {idx w : Nat} {a : Addr} (H : Cx C Z own code ml ret nm E.1) (w1 : (Cond.methodLink own idx Lib.objectInit).before a0 Z = true) (w2 : (Cond.instanceMethod Lib.objectInit).before a0 Z = true) (w3 : (Cond.code Lib.objectInit ⟨#[0xb1]⟩ 1 none).before a0 Z = true) (hd : decode code pc = .ok (.invokespecial idx, 3)) (hsz : Ls.size = ml) (hF : 1 ≤ R.frames)
    (hw : (st.map fun v => v.category).sum = w) (hL : w + 12 ≤ R.locals) (hr : W l R C E h k n (pc + 3) Ls st) : W l R C E h k n pc Ls (.ref a :: st) :=
  .viaT (fun T L X eT => initO X H.1 H.2.2.2.2.1 H.2.2.2.1 w1 w2 w3 eT (g := mkF C.2.2.2.1 pc Ls (.ref a :: st)) rfl (by show Ls.size = _; rw [H.2.2.1]; exact hsz) rfl (hb H.2.1 hd) hF (W := w) (by show 2 * 0 + _ ≤ _; rw [hw]; omega) hL) hr
theorem k_getfield {idx : Nat} {O nf d : String} {a : Addr} {v : Value} (H : Cx C Z own code ml ret nm E.1) (w : (Cond.fieldLink own idx O nf d).before a0 Z = true) (F : Fld Z h a O nf d v) (hd : decode code pc = .ok (.getfield idx, 3)) (hr : W l R C E h k n (pc + 3) Ls (v :: st)) : W l R C E h k n pc Ls (.ref a :: st) :=
  .viaT (fun T L X eT => getF X H.1 H.2.2.2.2.1 H.2.2.2.1 (host := "") (Or.inl w) Via.refl eT F (g := mkF C.2.2.2.1 pc Ls (.ref a :: st)) rfl rfl (hb H.2.1 hd)) hr
theorem k_putfield {idx kk : Nat} {O nf d cls : String} {a : Addr} {v old : Value} (ty : FieldType) (H : Cx C Z own code ml ret nm E.1) (w : (Cond.fieldLink own idx O nf d).before a0 Z = true) (F : Fld Z h a O nf d old) (X0 : Exa Z h a cls) (La : (Cond.lays cls O nf d).before a0 Z = true ∨ ((Cond.laysFinal cls O nf d).before a0 Z = true ∧ own = O ∧ nm = "<init>"))
    (wi : (Cond.instantiable cls kk).before a0 Z = true) (hty : parseFieldDescriptor d = some ty) (hn : narrow ty v = v) (hf : fits ty v = true) (ge : E.1 ≤ a) (hd : decode code pc = .ok (.putfield idx, 3))
    (hr : ∀ h', Wr h h' a (Jvm.RoadKit.slotOf Z O nf d) v → Fld Z h' a O nf d v → W l R C E h' k n (pc + 3) Ls st) : W l R C E h k n pc Ls (v :: .ref a :: st) := fun T L X N eT => by
  obtain ⟨T', h', X', e', Wx, q⟩ := putF X H.1 H.2.2.2.2.1 H.2.2.2.1 (host := "") (Or.inl w) Via.refl eT F X0 (La.imp id fun z => ⟨z.1, z.2.1, H.2.2.2.2.2.2.2.1.trans z.2.2⟩) wi hty hn hf (g := mkF C.2.2.2.1 pc Ls (v :: .ref a :: st)) rfl rfl (hb H.2.1 hd)
  exact .step q (hr h' Wx (F.same Wx) T' _ X' (Fr.snoc X' N ge) e')
/-! arrays by the kind of what they hold -/
section Typed
variable {a : Addr} {j : Int32} {i : Nat}
theorem map_at {α : Type} {f : α → Value} {xs : List α} {x : α} (hv : xs[i]? = some x) : (xs.map f)[i]? = some (f x) := by rw [List.getElem?_map, hv]; rfl
theorem k_ialoadT {xs : List Int32} {x : Int32} (H : Cx C Z own code ml ret nm E.1) (A : IA Z h a xs) (hj : j.toInt = (i : Int)) (hv : xs[i]? = some x) (hd : decode code pc = .ok (.iaload, 1)) (hr : W l R C E h k n (pc + 1) Ls ((.int x) :: st)) : W l R C E h k n pc Ls (.int j :: .ref a :: st) := k_iaload H A hj (map_at hv) hd hr
theorem k_iastoreT {xs : List Int32} {x : Int32} (H : Cx C Z own code ml ret nm E.1) (A : IA Z h a xs) (hj : j.toInt = (i : Int)) (hi : i < xs.length) (ge : E.1 ≤ a) (hd : decode code pc = .ok (.iastore, 1))
    (hr : ∀ h', Keep h h' [a] → IA Z h' a (xs.set i x) → W l R C E h' k n (pc + 1) Ls st) : W l R C E h k n pc Ls ((.int x) :: .int j :: .ref a :: st) := k_iastore H A hj (by simpa using hi) ge hd (fun h' K V => hr h' K (by rw [IA, List.map_set]; exact V))
theorem k_new_int {len : Int32} (m cap : Nat) (H : Cx C Z own code ml ret nm E.1) (w : (Cond.arrayClass .int).before a0 Z = true) (hd : decode code pc = .ok (.newarray .int, 2)) (hm : len.toInt = (m : Int)) (hcap : m ≤ cap) (hB : cap * 8 ≤ 536870912) (hC : k + 1 ≤ R.cells) (hS : n + cap ≤ R.slots)
    (hr : ∀ h' a, a = h.size → E.1 ≤ a → Ext h h' → Exa Z h' a "[I" → IA Z h' a (List.replicate m 0) → W l R C E h' (k + 1) (n + cap) (pc + 2) Ls (.ref a :: st)) : W l R C E h k n pc Ls (.int len :: st) := k_newarray m cap H w rfl hd hm hcap hB hC hS (fun h' a e g X XA V => hr h' a e g X XA (by rw [IA, List.map_replicate]; exact V))
theorem k_laloadT {xs : List Int64} {x : Int64} (H : Cx C Z own code ml ret nm E.1) (A : JA Z h a xs) (hj : j.toInt = (i : Int)) (hv : xs[i]? = some x) (hd : decode code pc = .ok (.laload, 1)) (hr : W l R C E h k n (pc + 1) Ls ((.long x) :: st)) : W l R C E h k n pc Ls (.int j :: .ref a :: st) := k_laload H A hj (map_at hv) hd hr
theorem k_lastoreT {xs : List Int64} {x : Int64} (H : Cx C Z own code ml ret nm E.1) (A : JA Z h a xs) (hj : j.toInt = (i : Int)) (hi : i < xs.length) (ge : E.1 ≤ a) (hd : decode code pc = .ok (.lastore, 1))
    (hr : ∀ h', Keep h h' [a] → JA Z h' a (xs.set i x) → W l R C E h' k n (pc + 1) Ls st) : W l R C E h k n pc Ls ((.long x) :: .int j :: .ref a :: st) := k_lastore H A hj (by simpa using hi) ge hd (fun h' K V => hr h' K (by rw [JA, List.map_set]; exact V))
theorem k_new_long {len : Int32} (m cap : Nat) (H : Cx C Z own code ml ret nm E.1) (w : (Cond.arrayClass .long).before a0 Z = true) (hd : decode code pc = .ok (.newarray .long, 2)) (hm : len.toInt = (m : Int)) (hcap : m ≤ cap) (hB : cap * 8 ≤ 536870912) (hC : k + 1 ≤ R.cells) (hS : n + cap ≤ R.slots)
    (hr : ∀ h' a, a = h.size → E.1 ≤ a → Ext h h' → Exa Z h' a "[J" → JA Z h' a (List.replicate m 0) → W l R C E h' (k + 1) (n + cap) (pc + 2) Ls (.ref a :: st)) : W l R C E h k n pc Ls (.int len :: st) := k_newarray m cap H w rfl hd hm hcap hB hC hS (fun h' a e g X XA V => hr h' a e g X XA (by rw [JA, List.map_replicate]; exact V))
theorem k_baloadT {xs : List Int8} {x : Int8} (H : Cx C Z own code ml ret nm E.1) (A : BA Z h a xs) (hj : j.toInt = (i : Int)) (hv : xs[i]? = some x) (hd : decode code pc = .ok (.baload, 1)) (hr : W l R C E h k n (pc + 1) Ls ((.int x.toInt32) :: st)) : W l R C E h k n pc Ls (.int j :: .ref a :: st) := k_baload H A hj (map_at hv) hd hr
theorem k_bastoreT {xs : List Int8} {x : Int32} (H : Cx C Z own code ml ret nm E.1) (A : BA Z h a xs) (hj : j.toInt = (i : Int)) (hi : i < xs.length) (ge : E.1 ≤ a) (hd : decode code pc = .ok (.bastore, 1))
    (hr : ∀ h', Keep h h' [a] → BA Z h' a (xs.set i x.toInt8) → W l R C E h' k n (pc + 1) Ls st) : W l R C E h k n pc Ls ((.int x) :: .int j :: .ref a :: st) := k_bastore H A hj (by simpa using hi) ge hd (fun h' K V => hr h' K (by rw [BA, List.map_set]; exact V))
theorem k_new_byte {len : Int32} (m cap : Nat) (H : Cx C Z own code ml ret nm E.1) (w : (Cond.arrayClass .byte).before a0 Z = true) (hd : decode code pc = .ok (.newarray .byte, 2)) (hm : len.toInt = (m : Int)) (hcap : m ≤ cap) (hB : cap * 8 ≤ 536870912) (hC : k + 1 ≤ R.cells) (hS : n + cap ≤ R.slots)
    (hr : ∀ h' a, a = h.size → E.1 ≤ a → Ext h h' → Exa Z h' a "[B" → BA Z h' a (List.replicate m 0) → W l R C E h' (k + 1) (n + cap) (pc + 2) Ls (.ref a :: st)) : W l R C E h k n pc Ls (.int len :: st) := k_newarray m cap H w rfl hd hm hcap hB hC hS (fun h' a e g X XA V => hr h' a e g X XA (by rw [BA, List.map_replicate]; exact V))
theorem k_caloadT {xs : List UInt16} {x : UInt16} (H : Cx C Z own code ml ret nm E.1) (A : CA Z h a xs) (hj : j.toInt = (i : Int)) (hv : xs[i]? = some x) (hd : decode code pc = .ok (.caload, 1)) (hr : W l R C E h k n (pc + 1) Ls ((.int x.toUInt32.toInt32) :: st)) : W l R C E h k n pc Ls (.int j :: .ref a :: st) := k_caload H A hj (map_at hv) hd hr
theorem k_castoreT {xs : List UInt16} {x : Int32} (H : Cx C Z own code ml ret nm E.1) (A : CA Z h a xs) (hj : j.toInt = (i : Int)) (hi : i < xs.length) (ge : E.1 ≤ a) (hd : decode code pc = .ok (.castore, 1))
    (hr : ∀ h', Keep h h' [a] → CA Z h' a (xs.set i x.toUInt32.toUInt16) → W l R C E h' k n (pc + 1) Ls st) : W l R C E h k n pc Ls ((.int x) :: .int j :: .ref a :: st) := k_castore H A hj (by simpa using hi) ge hd (fun h' K V => hr h' K (by rw [CA, List.map_set]; exact V))
theorem k_new_char {len : Int32} (m cap : Nat) (H : Cx C Z own code ml ret nm E.1) (w : (Cond.arrayClass .char).before a0 Z = true) (hd : decode code pc = .ok (.newarray .char, 2)) (hm : len.toInt = (m : Int)) (hcap : m ≤ cap) (hB : cap * 8 ≤ 536870912) (hC : k + 1 ≤ R.cells) (hS : n + cap ≤ R.slots)
    (hr : ∀ h' a, a = h.size → E.1 ≤ a → Ext h h' → Exa Z h' a "[C" → CA Z h' a (List.replicate m 0) → W l R C E h' (k + 1) (n + cap) (pc + 2) Ls (.ref a :: st)) : W l R C E h k n pc Ls (.int len :: st) := k_newarray m cap H w rfl hd hm hcap hB hC hS (fun h' a e g X XA V => hr h' a e g X XA (by rw [CA, List.map_replicate]; exact V))
theorem fits_of {ty : FieldType} {vs : List Value} {c : Cell} (A : Arr Z h a c ty) (e : c.slots = vs.toArray) (hf : ∀ v ∈ vs, fits ty v = true) : FitC Z c := fitC_of A fun i hi v hv => hf v (by rw [e] at hv; simp at hv; exact List.mem_of_getElem? hv)
theorem k_clone {idx w cap : Nat} {ty : FieldType} {ad : String} {vs : List Value} (H : Cx C Z own code ml ret nm E.1)
    (w1 : (Cond.methodLink own idx ⟨ad, "clone", "()Ljava/lang/Object;"⟩).before a0 Z = true) (w2 : (Cond.sameMethod ad "java/lang/Object" "clone" "()Ljava/lang/Object;").before a0 Z = true) (w3 : (Cond.native ⟨"java/lang/Object", "clone", "()Ljava/lang/Object;"⟩).before a0 Z = true)
    (w4 : (Cond.instanceMethod ⟨"java/lang/Object", "clone", "()Ljava/lang/Object;"⟩).before a0 Z = true) (w5 : (Cond.selects ad ⟨ad, "clone", "()Ljava/lang/Object;"⟩ ⟨"java/lang/Object", "clone", "()Ljava/lang/Object;"⟩).before a0 Z = true) (w6 : (Cond.castable ad "java/lang/Cloneable").before a0 Z = true)
    (V : Vec Z h a ty vs) (hf : ∀ v ∈ vs, fits ty v = true) (X0 : Exa Z h a ad) (hd : decode code pc = .ok (.invokevirtual idx, 3)) (hsz : Ls.size = ml) (hF : 1 ≤ R.frames) (hw : (st.map fun v => v.category).sum = w) (hL : w + 14 ≤ R.locals) (hcap : vs.length ≤ cap) (hC : k + 1 ≤ R.cells) (hS : n + cap ≤ R.slots)
    (hr : ∀ h' b, b = h.size → E.1 ≤ b → Ext h h' → Exa Z h' b ad → Vec Z h' b ty vs → W l R C E h' (k + 1) (n + cap) (pc + 3) Ls (.ref b :: st)) : W l R C E h k n pc Ls (.ref a :: st) := fun T L X N eT => by
  obtain ⟨c, A, e, hl⟩ := V
  obtain ⟨T', h', X', e', Ex, A', XA, q⟩ := cloneA X H.1 H.2.2.2.2.1 H.2.2.2.1 w1 w2 w3 w4 w5 w6 eT A X0 (fits_of A e hf) (g := mkF C.2.2.2.1 pc Ls (.ref a :: st)) rfl (by show Ls.size = _; rw [H.2.2.1]; exact hsz) rfl (hb H.2.1 hd) hF (W := w) (cap := cap) (by show 2 * 0 + _ ≤ _; rw [hw]; omega) hL (by rw [e]; simpa using hcap) hC hS
  exact .step q (hr h' h.size rfl (by rw [← eT]; exact size_ge H X) Ex XA ⟨_, A', e, hl⟩ T' _ X' N e')
theorem k_castY {idx : Nat} {K ad : String} (H : Cx C Z own code ml ret nm E.1) (w : (Cond.classLink own idx K).before a0 Z = true) (wc : (Cond.castable ad K).before a0 Z = true) (X0 : Exa Z h a ad) (hd : decode code pc = .ok (.checkcast idx, 3)) (hr : W l R C E h k n (pc + 3) Ls (.ref a :: st)) : W l R C E h k n pc Ls (.ref a :: st) :=
  .viaT (fun T L X eT => castY X H.1 H.2.2.2.2.1 H.2.2.2.1 w eT (Ins.of_exa X0 wc) (g := mkF C.2.2.2.1 pc Ls (.ref a :: st)) rfl rfl (hb H.2.1 hd)) hr
end Typed
/-! calls -/
section Calls
variable {y : MethodName} {bytes : ByteArray} {maxL : Nat} {rt : Option FieldType} {rm : Room} {Q : Option Value → Heap → Prop} {S : List Value}
theorem Goes.trans {T T' : State} {g g' : JFrame} (q : Sp C (T.setTop g) (T'.setTop g')) (r : Goes C E (T'.setTop g')) : Goes C E (T.setTop g) := by
  obtain ⟨t, o, h1, h2⟩ := r; exact ⟨t, o, q.trans h1, h2⟩
theorem payOf {s : State} {p : Program} {e : Env} {below : List Frame} {args : Array Value} {w n0 : Nat} {as' : Array Value} (hc : Ctr l Z y bytes maxL rt rm n0 as' h Q) (hZ : Z.Warmed39 s.vm) (w4 : (Cond.code y bytes maxL rt).before a0 Z = true) (w3 : (Cond.initialized y.cls).before a0 Z = true) (hF : rm.frames + 1 ≤ R.frames) (hL : w + (maxL + 11) + rm.locals ≤ R.locals) :
    Back l R p e below s args y 3 w (fun A a => a = as' ∧ A.U.heap = h ∧ A.cells + rm.cells ≤ R.cells ∧ A.slots + rm.slots ≤ R.slots)
      (fun A _ v B => ∃ L, (Q v B.U.heap ∧ Fr n0 L) ∧ B.locs = A.locs ++ L ∧ B.cells = A.cells + rm.cells ∧ B.slots = A.slots + rm.slots) :=
  backOf (Q := fun v h L => Q v h ∧ Fr n0 L) hc hZ w4 w3 hF hL
theorem k_invS {idx : Nat} (argsL : List Value) (w : Nat) (H : Cx C Z own code ml ret nm E.1) (w1 : (Cond.methodLink own idx y).before a0 Z = true) (w2 : (Cond.static y).before a0 Z = true) (w3 : (Cond.initialized y.cls).before a0 Z = true) (w4 : (Cond.code y bytes maxL rt).before a0 Z = true)
    (hy : y.cls ≠ "java/lang/invoke/MethodHandle" ∧ y.cls ≠ "java/lang/invoke/VarHandle") (hc : E.1 ≤ h.size → Ctr l Z y bytes maxL rt rm E.1 argsL.toArray h Q) (hlen : ∀ sig, parseMethodDescriptor y.desc = some sig → argsL.length = sig.parameters.length)
    (hd : decode code pc = .ok (.invokestatic idx, 3)) (hS : S = argsL.reverse ++ st) (hsz : Ls.size = ml) (hw : (st.map fun v => v.category).sum = w) (hF : rm.frames + 1 ≤ R.frames) (hL : w + (maxL + 11) + rm.locals ≤ R.locals) (hk : k + rm.cells ≤ R.cells) (hn : n + rm.slots ≤ R.slots)
    (hr : ∀ v h', Q v h' → W l R C E h' (k + rm.cells) (n + rm.slots) (pc + 3) Ls (v.toList ++ st)) : W l R C E h k n pc Ls S := fun T L X N eT => by
  obtain ⟨v, _, ⟨T', L', k', n'⟩, -, X', ⟨Lc, ⟨hQ, hN⟩, l', y', z'⟩, q⟩ := Jvm.LawKit.callS X H.1 (y := y) H.2.2.2.1 (mvT H.2.2.2.2.1 w1) (mvT H.2.2.2.2.1 w2) (mvT H.2.2.2.2.1 w3) (mvT H.2.2.2.2.1 w4) hy (payOf (w := w) (hc (by rw [← eT]; exact size_ge H X)) H.2.2.2.2.1 w4 w3 hF hL)
    (g := mkF C.2.2.2.1 pc Ls S) rfl (by show Ls.size = _; rw [H.2.2.1]; exact hsz) (argsL := argsL) (rest := st) hlen hS (by show 2 * 0 + _ ≤ _; rw [hw]; omega) (hb H.2.1 hd) (fun _ _ => ⟨rfl, eT, hk, hn⟩)
  dsimp only [Pt.U, Pt.locs, Pt.cells, Pt.slots] at X' l' y' z' q hQ
  subst l' y' z'
  exact .step q (hr v _ hQ T' _ X' (N.app hN) rfl)
theorem k_invI {idx : Nat} {a : Addr} (argsL : List Value) (w : Nat) (H : Cx C Z own code ml ret nm E.1) (hy1 : y.name = "<init>") (w1 : (Cond.methodLink own idx y).before a0 Z = true) (w2 : (Cond.instanceMethod y).before a0 Z = true) (w3 : (Cond.initialized y.cls).before a0 Z = true) (w4 : (Cond.code y bytes maxL none).before a0 Z = true)
    (hy : y.cls ≠ "java/lang/invoke/MethodHandle" ∧ y.cls ≠ "java/lang/invoke/VarHandle") (hc : E.1 ≤ h.size → Ctr l Z y bytes maxL none rm E.1 (.ref a :: argsL).toArray h Q) (hlen : ∀ sig, parseMethodDescriptor y.desc = some sig → argsL.length = sig.parameters.length)
    (hd : decode code pc = .ok (.invokespecial idx, 3)) (hS : S = argsL.reverse ++ .ref a :: st) (hsz : Ls.size = ml) (hw : (st.map fun v => v.category).sum = w) (hF : rm.frames + 1 ≤ R.frames) (hL : w + (maxL + 11) + rm.locals ≤ R.locals) (hk : k + rm.cells ≤ R.cells) (hn : n + rm.slots ≤ R.slots)
    (hr : ∀ v h', Q v h' → W l R C E h' (k + rm.cells) (n + rm.slots) (pc + 3) Ls (v.toList ++ st)) : W l R C E h k n pc Ls S := fun T L X N eT => by
  obtain ⟨v, _, ⟨T', L', k', n'⟩, -, X', ⟨Lc, ⟨hQ, hN⟩, l', y', z'⟩, q⟩ := X.specialBack H.1 (y := y) hy1 H.2.2.2.1 (mvT H.2.2.2.2.1 w1) (mvT H.2.2.2.2.1 w2) (mvT H.2.2.2.2.1 w4) hy (payOf (w := w) (hc (by rw [← eT]; exact size_ge H X)) H.2.2.2.2.1 w4 w3 hF hL)
    (g := mkF C.2.2.2.1 pc Ls S) rfl (by show Ls.size = _; rw [H.2.2.1]; exact hsz) (Steps.refl _) (a := a) (argsL := argsL) (rest := st) hlen hS (by show 2 * 0 + _ ≤ _; rw [hw]; omega) (hb H.2.1 hd) (fun _ _ => ⟨rfl, eT, hk, hn⟩)
  dsimp only [Pt.U, Pt.locs, Pt.cells, Pt.slots] at X' l' y' z' q hQ
  subst l' y' z'
  exact .trans q (hr v _ hQ T' _ X' (N.app hN) rfl)
theorem k_invV {idx : Nat} {a : Addr} {cls : String} (argsL : List Value) (w : Nat) (H : Cx C Z own code ml ret nm E.1) (w1 : (Cond.methodLink own idx y).before a0 Z = true) (w2 : (Cond.declares y).before a0 Z = true) (w5 : (Cond.selects cls y y).before a0 Z = true) (w6 : (Cond.instanceMethod y).before a0 Z = true) (w3 : (Cond.initialized y.cls).before a0 Z = true) (w4 : (Cond.code y bytes maxL rt).before a0 Z = true)
    (hcl : y.cls = cls) (hy : y.cls ≠ "java/lang/invoke/MethodHandle" ∧ y.cls ≠ "java/lang/invoke/VarHandle") (X0 : Exa Z h a cls) (hc : E.1 ≤ h.size → Ctr l Z y bytes maxL rt rm E.1 (.ref a :: argsL).toArray h Q) (hlen : ∀ sig, parseMethodDescriptor y.desc = some sig → argsL.length = sig.parameters.length)
    (hd : decode code pc = .ok (.invokevirtual idx, 3)) (hS : S = argsL.reverse ++ .ref a :: st) (hsz : Ls.size = ml) (hw : (st.map fun v => v.category).sum = w) (hF : rm.frames + 1 ≤ R.frames) (hL : w + (maxL + 11) + rm.locals ≤ R.locals) (hk : k + rm.cells ≤ R.cells) (hn : n + rm.slots ≤ R.slots)
    (hr : ∀ v h', Q v h' → W l R C E h' (k + rm.cells) (n + rm.slots) (pc + 3) Ls (v.toList ++ st)) : W l R C E h k n pc Ls S := fun T L X N eT => by
  subst hcl
  obtain ⟨cq, kq, qa, qb, qc⟩ := isOf H.2.2.2.2.1 eT X0
  obtain ⟨v, _, ⟨T', L', k', n'⟩, -, X', ⟨Lc, ⟨hQ, hN⟩, l', y', z'⟩, q⟩ := X.virtualBack H.1 (y := y) (z := y) H.2.2.2.1 (mvT H.2.2.2.2.1 w1) (mvT H.2.2.2.2.1 w2) (notFace_of_selects (args := #[]) (mvT H.2.2.2.2.1 w5)) (mvT H.2.2.2.2.1 w5) (mvT H.2.2.2.2.1 w6) hy (payOf (w := w) (hc (by rw [← eT]; exact size_ge H X)) H.2.2.2.2.1 w4 w3 hF hL) qa qc
    (g := mkF C.2.2.2.1 pc Ls S) rfl (by show Ls.size = _; rw [H.2.2.1]; exact hsz) (Steps.refl _) (argsL := argsL) (rest := st) hlen hS (by show 2 * 0 + _ ≤ _; rw [hw]; omega) (hb H.2.1 hd) (fun _ _ => ⟨rfl, eT, hk, hn⟩)
  dsimp only [Pt.U, Pt.locs, Pt.cells, Pt.slots] at X' l' y' z' q hQ
  subst l' y' z'
  exact .trans q (hr v _ hQ T' _ X' (N.app hN) rfl)
theorem Ctr.of {n0 : Nat} {as' : Array Value} (Ls : Array Slot) (hp : plainName y.cls = true) (hn0 : n0 ≤ h.size) (hef : ∀ m, entryFrame m as' maxL = mkF m 0 Ls []) (hW : ∀ C : Cxt, Cx C Z y.cls bytes maxL rt y.name n0 → W l rm C (n0, rm.cells, rm.slots, Q) h 0 0 0 Ls []) : Ctr l Z y bytes maxL rt rm n0 as' h Q := by
  refine MetFree.of_bodySF (plainFor_of_name hp) hisR ?_
  intro p e s m args below meth c s₁ Bd hml0 hP hK
  obtain ⟨rfl, hZ, hh⟩ := hP
  have hnm := (name_of_methodNamed Bd.named Bd.method).1
  have X0 : Stand p l e rm s m args below meth c s₁ [] 0 0 := Stand.of_body Bd
  have e0 : s₁.heap = h := by rw [← hh, Bd.state]; rfl
  obtain ⟨t, o, h1, h2, h3, v, L, h4, h5, h6⟩ := hW (p, e, s, m, args, below, meth, c) ⟨Bd.exec, Bd.bytes, hml0, findClass_of_methodNamed Bd.named, hZ, Bd.returns, Bd.notSynchronized, hnm, by rw [hh]; exact hn0⟩ s₁ [] X0 (Fr.nil n0) e0
  exact ⟨t, o, castTop (hef m) h1, h2, h3, v, L, h4, h5, h6⟩
/-- the judged body itself -/
theorem met_of {n0 K N : Nat} {ws : List Jvm.Cond} {as' : Array Value} (Ls : Array Slot) (hp : plainName y.cls = true) (hn0 : n0 ≤ h.size) (hef : ∀ m, entryFrame m as' maxL = mkF m 0 Ls []) (hW : ∀ C : Cxt, Cx C Z y.cls bytes maxL rt y.name n0 → W l rm C (n0, K, N, Q) h 0 0 0 Ls []) :
    MetFree l y (head1 (Cond.code y bytes maxL rt :: ws) rm) (fun a U => a = as' ∧ Z.Warmed39 U.vm ∧ U.heap = h) (fun _ _ _ _ _ => True) (fun _ U o U' => ∃ v L, o = .returned v ∧ (Q v U'.heap ∧ Fr n0 L) ∧ FrameEnd U o U' L K N) := by
  refine MetFree.of_bodySF (plainFor_of_name hp) hisR ?_
  intro p e s m args below meth c s₁ Bd hml0 hP hK
  obtain ⟨rfl, hZ, hh⟩ := hP
  have hnm := (name_of_methodNamed Bd.named Bd.method).1
  have X0 : Stand p l e rm s m args below meth c s₁ [] 0 0 := Stand.of_body Bd
  have e0 : s₁.heap = h := by rw [← hh, Bd.state]; rfl
  obtain ⟨t, o, h1, h2, h3, v, L, h4, h5, h6⟩ := hW (p, e, s, m, args, below, meth, c) ⟨Bd.exec, Bd.bytes, hml0, findClass_of_methodNamed Bd.named, hZ, Bd.returns, Bd.notSynchronized, hnm, by rw [hh]; exact hn0⟩ s₁ [] X0 (Fr.nil n0) e0
  exact ⟨t, o, castTop (hef m) h1, h2, h3, v, L, h4, h5, h6⟩
end Calls
/-! ends -/
theorem k_retInt {x : Int32} (H : Cx C Z own code ml (some .int) nm E.1) (hd : decode code pc = .ok (.ireturn, 1)) (hk : k ≤ E.2.1) (hn : n ≤ E.2.2.1) (hq : E.2.2.2 (some (.int x)) h) : W l R C E h k n pc Ls (.int x :: st) := fun T L X N eT => by
  obtain ⟨fs, hr, hrun, hend, hW, hs⟩ := X.leave (v := some (.int x)) (fun z => by rw [H.2.2.2.2.2.1] at z; cases z) H.2.2.2.2.2.2.1
  exact ⟨_, _, retOut X H.1 H.2.2.2.2.2.1 rfl (Or.inl ⟨rfl, Or.inl rfl, _, rfl⟩) (hb H.2.1 hd) hr, hrun, hend, _, L, rfl, ⟨by subst eT; exact hq, N⟩, ⟨_, rfl⟩, hW, hs.mono hk hn⟩
theorem k_retN' {x : Int32} {t : FieldType} (ht : t = .boolean ∨ t = .byte ∨ t = .char ∨ t = .short) (H : Cx C Z own code ml (some t) nm E.1) (hd : decode code pc = .ok (.ireturn, 1)) (hk : k ≤ E.2.1) (hn : n ≤ E.2.2.1) (hq : E.2.2.2 (some (.int (nar t x))) h) : W l R C E h k n pc Ls (.int x :: st) := fun T L X N eT => by
  obtain ⟨fs, hr, hrun, hend, hW, hs⟩ := X.leave (v := some (.int (nar t x))) (fun z => by rw [H.2.2.2.2.2.1] at z; cases z) H.2.2.2.2.2.2.1
  exact ⟨_, _, retN X H.1 H.2.2.2.2.2.1 ht (hb H.2.1 hd) hr, hrun, hend, _, L, rfl, ⟨by subst eT; exact hq, N⟩, ⟨_, rfl⟩, hW, hs.mono hk hn⟩
theorem k_retLong {x : Int64} (H : Cx C Z own code ml (some .long) nm E.1) (hd : decode code pc = .ok (.lreturn, 1)) (hk : k ≤ E.2.1) (hn : n ≤ E.2.2.1) (hq : E.2.2.2 (some (.long x)) h) : W l R C E h k n pc Ls (.long x :: st) := fun T L X N eT => by
  obtain ⟨fs, hr, hrun, hend, hW, hs⟩ := X.leave (v := some (.long x)) (fun z => by rw [H.2.2.2.2.2.1] at z; cases z) H.2.2.2.2.2.2.1
  exact ⟨_, _, retOut X H.1 H.2.2.2.2.2.1 rfl (Or.inr (Or.inl ⟨rfl, rfl, _, rfl⟩)) (hb H.2.1 hd) hr, hrun, hend, _, L, rfl, ⟨by subst eT; exact hq, N⟩, ⟨_, rfl⟩, hW, hs.mono hk hn⟩
theorem k_retRef {a : Addr} {t : FieldType} (ht : t.isReference = true) (hnar : narrow t (.ref a) = .ref a) (H : Cx C Z own code ml (some t) nm E.1) (hd : decode code pc = .ok (.areturn, 1)) (hk : k ≤ E.2.1) (hn : n ≤ E.2.2.1) (hq : E.2.2.2 (some (.ref a)) h) : W l R C E h k n pc Ls (.ref a :: st) := fun T L X N eT => by
  obtain ⟨fs, hr, hrun, hend, hW, hs⟩ := X.leave (v := some (.ref a)) (fun z => by rw [H.2.2.2.2.2.1] at z; cases z) H.2.2.2.2.2.2.1
  exact ⟨_, _, retOut X H.1 H.2.2.2.2.2.1 hnar (Or.inr (Or.inr (Or.inr (Or.inr ⟨rfl, ht, rfl⟩)))) (hb H.2.1 hd) hr, hrun, hend, _, L, rfl, ⟨by subst eT; exact hq, N⟩, ⟨_, rfl⟩, hW, hs.mono hk hn⟩
theorem k_retVoid (H : Cx C Z own code ml none nm E.1) (hd : decode code pc = .ok (.return_, 1)) (hk : k ≤ E.2.1) (hn : n ≤ E.2.2.1) (hq : E.2.2.2 none h) : W l R C E h k n pc Ls [] := fun T L X N eT => by
  obtain ⟨fs, hr, hrun, hend, hW, hs⟩ := X.leave (v := none) (fun _ => rfl) H.2.2.2.2.2.2.1
  exact ⟨_, _, X.returnOut H.1 H.2.2.2.2.2.1 (hb H.2.1 hd) hr, hrun, hend, _, L, rfl, ⟨by subst eT; exact hq, N⟩, ⟨_, rfl⟩, hW, hs.mono hk hn⟩
end Own
end Jvm.OwnKit
namespace Jvm.OwnKit
/-! small naturals as ints -/
theorem lt_nat {x y : Int32} {i j : Nat} (hx : x.toInt = (i : Int)) (hy : y.toInt = (j : Int)) : x < y ↔ i < j := by rw [Int32.lt_iff_toInt_lt, hx, hy]; omega
theorem eq_nat {x y : Int32} {i j : Nat} (hx : x.toInt = (i : Int)) (hy : y.toInt = (j : Int)) : x = y ↔ i = j := by rw [← Int32.toInt_inj, hx, hy]; omega
theorem add_nat {x y : Int32} {i j : Nat} (hx : x.toInt = (i : Int)) (hy : y.toInt = (j : Int)) (hb : i + j < 2147483648) : (x + y).toInt = ((i + j : Nat) : Int) := by rw [Jvm.Kit.i32_add] <;> rw [hx, hy] <;> omega
theorem sub_nat {x y : Int32} {i j : Nat} (hx : x.toInt = (i : Int)) (hy : y.toInt = (j : Int)) (hb : j ≤ i) : (x - y).toInt = ((i - j : Nat) : Int) := by have := x.toInt_lt; rw [Jvm.Kit.i32_sub] <;> rw [hx, hy] <;> omega
theorem mul_nat {x y : Int32} {i j : Nat} (hx : x.toInt = (i : Int)) (hy : y.toInt = (j : Int)) (hb : i * j < 2147483648) : (x * y).toInt = ((i * j : Nat) : Int) := by
  have e : (i : Int) * (j : Int) = ((i * j : Nat) : Int) := by simp
  rw [Jvm.Kit.i32_mul] <;> rw [hx, hy, e] <;> omega
theorem rem_nat {x y : Int32} {i j : Nat} (hx : x.toInt = (i : Int)) (hy : y.toInt = (j : Int)) : (x % y).toInt = ((i % j : Nat) : Int) := by rw [Jvm.Kit.i32_rem_nonneg (by omega), hx, hy]; simp
theorem nat_of_nonneg {x : Int32} (h : 0 ≤ x.toInt) : ∃ i : Nat, x.toInt = (i : Int) ∧ i < 2147483648 := ⟨x.toInt.toNat, by omega, by have := x.toInt_lt; omega⟩
/-- a mask of k ones: a natural below 2 ^ k -/
theorem mask_nat (x m : Int32) (k : Nat) (hk : k < 32) (hm : m.toBitVec.toNat = 2 ^ k - 1) : ∃ i : Nat, (x &&& m).toInt = (i : Int) ∧ i < 2 ^ k := by
  have e := Jvm.Kit.i32_mask x m hk hm
  have p : (0 : Int) < 2 ^ k := Int.pow_pos (by omega)
  have h1 := Int.emod_nonneg x.toInt (Int.ne_of_gt p)
  have h2 := Int.emod_lt_of_pos x.toInt p
  refine ⟨(x.toInt % 2 ^ k).toNat, by rw [e]; omega, ?_⟩
  have h3 : ((2 ^ k : Nat) : Int) = 2 ^ k := by simp
  omega
theorem mod_nat (x m y : Int32) (k j : Nat) (hk : k < 32) (hm : m.toBitVec.toNat = 2 ^ k - 1) (hy : y.toInt = (j : Int)) (hj : 0 < j) : ∃ i : Nat, ((x &&& m) % y).toInt = (i : Int) ∧ i < j := by
  obtain ⟨i, h1, h2⟩ := mask_nat x m k hk hm
  exact ⟨i % j, rem_nat h1 hy, Nat.mod_lt _ hj⟩
theorem div_nat {x y : Int32} {i j : Nat} (hx : x.toInt = (i : Int)) (hy : y.toInt = (j : Int)) : (x / y).toInt = ((i / j : Nat) : Int) := by
  rw [Jvm.Kit.i32_div (by omega), hx, hy]; rfl
theorem ushr_nat {x y : Int32} {i : Nat} (k : Nat) (hx : x.toInt = (i : Int)) (hy : (y &&& 31).toUInt32.toNat = k) (hk : k < 32) : (Jvm.Free.XT.ushr x y).toInt = ((i / 2 ^ k : Nat) : Int) := by
  unfold Jvm.Free.XT.ushr
  rw [Jvm.Kit.i32_iushr (by rw [Int32.le_iff_toInt_le, hx]; exact Int.natCast_nonneg _) hy hk, hx]; simp
theorem c16 (c : UInt16) : c.toUInt32.toInt32.toUInt32.toUInt16 = c := by simp
theorem b8 (b : Int8) : b.toInt32.toInt8 = b := by simp
/-- a local's slot of one word -/
def OneW (s : Slot) : Prop := s = .unset ∨ ∃ w, s = .val w ∧ w.category = 1
theorem OneW.unset : OneW .unset := Or.inl rfl
theorem OneW.int (x : Int32) : OneW (.val (.int x)) := Or.inr ⟨_, rfl, rfl⟩
theorem OneW.ref (x : Addr) : OneW (.val (.ref x)) := Or.inr ⟨_, rfl, rfl⟩
end Jvm.OwnKit
namespace Jvm.Pilot.@@N@@
open Jvm Jvm.ClassFile Sem Op Lib Jvm.Free Jvm.Stand Jvm.LawKit Jvm.RoadKit Jvm.OwnKit Bundle Jvm.Pilot.@@N@@.Jvm.D
theorem pn_0 : plainName "jdk/internal/util/ArraysSupport" = true := by first | (simp [plainName, overriddenIn]; done) | decide +kernel
theorem pd_0 : parseMethodDescriptor "(I[III)I" = some ⟨[.int, (.array .int), .int, .int], some .int⟩ := by decide +kernel
theorem pn_1 : plainName "java/util/Arrays" = true := by first | (simp [plainName, overriddenIn]; done) | decide +kernel
theorem pd_1 : parseMethodDescriptor "(Ljava/lang/Object;IIII)I" = some ⟨[(.object "java/lang/Object"), .int, .int, .int, .int], some .int⟩ := by decide +kernel
theorem pn_2 : plainName "mandate/Counters$State" = true := by first | (simp [plainName, overriddenIn]; done) | decide +kernel
theorem pd_2 : parseMethodDescriptor "([I)I" = some ⟨[(.array .int)], some .int⟩ := by decide +kernel
theorem pn_3 : plainName "mandate/StateSumPinLaw" = true := by first | (simp [plainName, overriddenIn]; done) | decide +kernel
theorem pd_3 : parseMethodDescriptor "([I)V" = some ⟨[(.array .int)], none⟩ := by decide +kernel
theorem pd_4 : parseMethodDescriptor "()J" = some ⟨[], some .long⟩ := by decide +kernel
def own_sm (xs : List Int32) : Nat → Nat → Int64 → Int64
  | _, 0, s => s
  | i, k + 1, s => own_sm xs (i + 1) k (s + (xs.getD i 0).toInt64)
theorem own_get {α : Type} {xs : List α} {i : Nat} (d : α) (h : i < xs.length) : xs[i]? = some (xs.getD i d) := by simp [List.getD_eq_getElem?_getD, h]
theorem own_sorted : ∀ (a b c d : Int), ((a, b), c, d) ∈ (#[(0, 28), (1, 32)] : Array (Int × Int)).toList.zip (#[(0, 28), (1, 32)] : Array (Int × Int)).toList.tail → a < c := by intro a b c d h; simp at h; omega
theorem d6_0 : decode jdk_48_method_9_code 0 = .ok (.iload_n 2, 1) := by decide +kernel
theorem d6_1 : decode jdk_48_method_9_code 1 = .ok (.iload_n 3, 1) := by decide +kernel
theorem d6_2 : decode jdk_48_method_9_code 2 = .ok (.iadd, 1) := by decide +kernel
theorem d6_3 : decode jdk_48_method_9_code 3 = .ok (.istore 4, 2) := by decide +kernel
theorem d6_5 : decode jdk_48_method_9_code 5 = .ok (.iload_n 2, 1) := by decide +kernel
theorem d6_6 : decode jdk_48_method_9_code 6 = .ok (.istore 5, 2) := by decide +kernel
theorem d6_8 : decode jdk_48_method_9_code 8 = .ok (.iload 5, 2) := by decide +kernel
theorem d6_10 : decode jdk_48_method_9_code 10 = .ok (.iload 4, 2) := by decide +kernel
theorem d6_12 : decode jdk_48_method_9_code 12 = .ok (.if_icmp .ge 19, 3) := by decide +kernel
theorem d6_15 : decode jdk_48_method_9_code 15 = .ok (.bipush 31, 2) := by decide +kernel
theorem d6_17 : decode jdk_48_method_9_code 17 = .ok (.iload_n 0, 1) := by decide +kernel
theorem d6_18 : decode jdk_48_method_9_code 18 = .ok (.imul, 1) := by decide +kernel
theorem d6_19 : decode jdk_48_method_9_code 19 = .ok (.aload_n 1, 1) := by decide +kernel
theorem d6_20 : decode jdk_48_method_9_code 20 = .ok (.iload 5, 2) := by decide +kernel
theorem d6_22 : decode jdk_48_method_9_code 22 = .ok (.iaload, 1) := by decide +kernel
theorem d6_23 : decode jdk_48_method_9_code 23 = .ok (.iadd, 1) := by decide +kernel
theorem d6_24 : decode jdk_48_method_9_code 24 = .ok (.istore_n 0, 1) := by decide +kernel
theorem d6_25 : decode jdk_48_method_9_code 25 = .ok (.iinc 5 1, 3) := by decide +kernel
theorem d6_28 : decode jdk_48_method_9_code 28 = .ok (.goto (-20), 3) := by decide +kernel
theorem d6_31 : decode jdk_48_method_9_code 31 = .ok (.iload_n 0, 1) := by decide +kernel
theorem d6_32 : decode jdk_48_method_9_code 32 = .ok (.ireturn, 1) := by decide +kernel
abbrev own_rm6_room : Room := { frames := 0, cells := 0, slots := 0, locals := 0 }
set_option maxRecDepth 65536 in
set_option maxHeartbeats 40000000 in
theorem rm6 (l : Launch) (Z : State) (a0 : Array Value) (hw : ∀ d ∈ tables_1, d.before a0 Z = true) (n0 : Nat) (h0 : Heap) (Z0 : n0 ≤ h0.size) (r0 : Int32) (a : Addr) (xs : List Int32) (bi ei : Int32) (b e : Nat) (V : IA Z h0 a xs) (hb : bi.toInt = (b : Int)) (he : ei.toInt = (e : Int)) (hl : b + e ≤ xs.length) (hx : xs.length < 1000) :
    Ctr l Z (⟨"jdk/internal/util/ArraysSupport", "hashCode", "(I[III)I"⟩ : MethodName) jdk_48_method_9_code 6 (some .int) own_rm6_room n0 #[(.int r0), (.ref a), (.int bi), (.int ei)] h0 (fun v h => ∃ x : Int32, v = some (.int x) ∧ h = h0) := by
  refine Ctr.of #[.val (.int r0), .val (.ref a), .val (.int bi), .val (.int ei), .unset, .unset] pn_0 Z0 (fun m => by first | (simp [entryFrame, mkF, argsToLocals, Value.category]; done) | rfl) ?_
  intro C H
  have hN : (bi + ei).toInt = ((b + e : Nat) : Int) := add_nat hb he (by omega)
  refine k_iloadN (pc := 0) H d6_0 rfl ?_
  refine k_iloadN (pc := 1) H d6_1 rfl ?_
  refine k_iadd (pc := 2) H d6_2 ?_
  refine k_istore (pc := 3) H d6_3 (Ls' := #[.val (.int r0), .val (.ref a), .val (.int bi), .val (.int ei), .val (.int (bi + ei)), .unset]) rfl ?_
  refine k_iloadN (pc := 5) H d6_5 rfl ?_
  refine k_istore (pc := 6) H d6_6 (Ls' := #[.val (.int r0), .val (.ref a), .val (.int bi), .val (.int ei), .val (.int (bi + ei)), .val (.int bi)]) rfl ?_
  have L : ∀ (m i : Nat) (ii r : Int32) (hi : ii.toInt = (i : Int)) (hm : i + m = b + e), W l own_rm6_room C (n0, own_rm6_room.cells, own_rm6_room.slots, fun v h => ∃ x : Int32, v = some (.int x) ∧ h = h0) h0 0 0 8 #[.val (.int r), .val (.ref a), .val (.int bi), .val (.int ei), .val (.int (bi + ei)), .val (.int ii)] [] := by
    intro m
    induction m with
    | zero =>
      intro i ii r hi hm
      refine k_iload (pc := 8) H d6_8 rfl ?_
      refine k_iload (pc := 10) H d6_10 rfl ?_
      refine k_icmpT 31 (pc := 12) H d6_12 rfl (XT.ii_ge_t (fun q => by have := (lt_nat hi hN).mp q; omega)) ?_
      refine k_iloadN (pc := 31) H d6_31 rfl ?_
      exact k_retInt (pc := 32) H d6_32 (by show 0 ≤ own_rm6_room.cells; decide) (by show 0 ≤ own_rm6_room.slots; decide) (⟨_, rfl, rfl⟩)
    | succ m ih =>
      intro i ii r hi hm
      refine k_iload (pc := 8) H d6_8 rfl ?_
      refine k_iload (pc := 10) H d6_10 rfl ?_
      refine k_icmpF (pc := 12) H d6_12 (XT.ii_ge_f ((lt_nat hi hN).mpr (by omega))) ?_
      refine k_bipush (31 : Int32) (pc := 15) H d6_15 rfl ?_
      refine k_iloadN (pc := 17) H d6_17 rfl ?_
      refine k_imul (pc := 18) H d6_18 ?_
      refine k_aloadN (pc := 19) H d6_19 rfl rfl ?_
      refine k_iload (pc := 20) H d6_20 rfl ?_
      refine k_ialoadT (i := i) (x := (xs.getD i 0)) (pc := 22) H V (hi) (own_get 0 (by omega)) d6_22 ?_
      refine k_iadd (pc := 23) H d6_23 ?_
      refine k_istoreN (pc := 24) H d6_24 (Ls' := #[.val (.int (((31 : Int32) * r) + (xs.getD i 0))), .val (.ref a), .val (.int bi), .val (.int ei), .val (.int (bi + ei)), .val (.int ii)]) rfl ?_
      refine k_iinc (1 : Int32) (pc := 25) H d6_25 rfl rfl (Ls' := #[.val (.int (((31 : Int32) * r) + (xs.getD i 0))), .val (.ref a), .val (.int bi), .val (.int ei), .val (.int (bi + ei)), .val (.int (ii + (1 : Int32)))]) rfl ?_
      refine k_goto 8 (pc := 28) H d6_28 rfl ?_
      exact ih (i + 1) _ _ (add_nat hi rfl (by omega)) (by omega)
  exact L e b _ _ hb rfl
theorem d5_0 : decode jdk_48_method_4_code 0 = .ok (.iload 4, 2) := by decide +kernel
theorem d5_2 : decode jdk_48_method_4_code 2 = .ok (.tableswitch 127 4 10 #[42, 55, 127, 127, 88, 101, 114], 42) := by decide +kernel
theorem d5_44 : decode jdk_48_method_4_code 44 = .ok (.iload_n 3, 1) := by decide +kernel
theorem d5_45 : decode jdk_48_method_4_code 45 = .ok (.aload_n 0, 1) := by decide +kernel
theorem d5_46 : decode jdk_48_method_4_code 46 = .ok (.checkcast 60, 3) := by decide +kernel
theorem d5_49 : decode jdk_48_method_4_code 49 = .ok (.iload_n 1, 1) := by decide +kernel
theorem d5_50 : decode jdk_48_method_4_code 50 = .ok (.iload_n 2, 1) := by decide +kernel
theorem d5_51 : decode jdk_48_method_4_code 51 = .ok (.invokestatic 62, 3) := by decide +kernel
theorem d5_54 : decode jdk_48_method_4_code 54 = .ok (.goto 103, 3) := by decide +kernel
theorem d5_57 : decode jdk_48_method_4_code 57 = .ok (.aload_n 0, 1) := by decide +kernel
theorem d5_58 : decode jdk_48_method_4_code 58 = .ok (.instanceof 60, 3) := by decide +kernel
theorem d5_61 : decode jdk_48_method_4_code 61 = .ok (.ifCond .eq 16, 3) := by decide +kernel
theorem d5_64 : decode jdk_48_method_4_code 64 = .ok (.iload_n 3, 1) := by decide +kernel
theorem d5_65 : decode jdk_48_method_4_code 65 = .ok (.aload_n 0, 1) := by decide +kernel
theorem d5_66 : decode jdk_48_method_4_code 66 = .ok (.checkcast 60, 3) := by decide +kernel
theorem d5_69 : decode jdk_48_method_4_code 69 = .ok (.iload_n 1, 1) := by decide +kernel
theorem d5_70 : decode jdk_48_method_4_code 70 = .ok (.iload_n 2, 1) := by decide +kernel
theorem d5_71 : decode jdk_48_method_4_code 71 = .ok (.invokestatic 66, 3) := by decide +kernel
theorem d5_74 : decode jdk_48_method_4_code 74 = .ok (.goto 83, 3) := by decide +kernel
theorem d5_77 : decode jdk_48_method_4_code 77 = .ok (.iload_n 3, 1) := by decide +kernel
theorem d5_78 : decode jdk_48_method_4_code 78 = .ok (.aload_n 0, 1) := by decide +kernel
theorem d5_79 : decode jdk_48_method_4_code 79 = .ok (.checkcast 69, 3) := by decide +kernel
theorem d5_82 : decode jdk_48_method_4_code 82 = .ok (.iload_n 1, 1) := by decide +kernel
theorem d5_83 : decode jdk_48_method_4_code 83 = .ok (.iload_n 2, 1) := by decide +kernel
theorem d5_84 : decode jdk_48_method_4_code 84 = .ok (.invokestatic 71, 3) := by decide +kernel
theorem d5_87 : decode jdk_48_method_4_code 87 = .ok (.goto 70, 3) := by decide +kernel
theorem d5_90 : decode jdk_48_method_4_code 90 = .ok (.iload_n 3, 1) := by decide +kernel
theorem d5_91 : decode jdk_48_method_4_code 91 = .ok (.aload_n 0, 1) := by decide +kernel
theorem d5_92 : decode jdk_48_method_4_code 92 = .ok (.checkcast 60, 3) := by decide +kernel
theorem d5_95 : decode jdk_48_method_4_code 95 = .ok (.iload_n 1, 1) := by decide +kernel
theorem d5_96 : decode jdk_48_method_4_code 96 = .ok (.iload_n 2, 1) := by decide +kernel
theorem d5_97 : decode jdk_48_method_4_code 97 = .ok (.invokestatic 75, 3) := by decide +kernel
theorem d5_100 : decode jdk_48_method_4_code 100 = .ok (.goto 57, 3) := by decide +kernel
theorem d5_103 : decode jdk_48_method_4_code 103 = .ok (.iload_n 3, 1) := by decide +kernel
theorem d5_104 : decode jdk_48_method_4_code 104 = .ok (.aload_n 0, 1) := by decide +kernel
theorem d5_105 : decode jdk_48_method_4_code 105 = .ok (.checkcast 77, 3) := by decide +kernel
theorem d5_108 : decode jdk_48_method_4_code 108 = .ok (.iload_n 1, 1) := by decide +kernel
theorem d5_109 : decode jdk_48_method_4_code 109 = .ok (.iload_n 2, 1) := by decide +kernel
theorem d5_110 : decode jdk_48_method_4_code 110 = .ok (.invokestatic 79, 3) := by decide +kernel
theorem d5_113 : decode jdk_48_method_4_code 113 = .ok (.goto 44, 3) := by decide +kernel
theorem d5_116 : decode jdk_48_method_4_code 116 = .ok (.iload_n 3, 1) := by decide +kernel
theorem d5_117 : decode jdk_48_method_4_code 117 = .ok (.aload_n 0, 1) := by decide +kernel
theorem d5_118 : decode jdk_48_method_4_code 118 = .ok (.checkcast 82, 3) := by decide +kernel
theorem d5_121 : decode jdk_48_method_4_code 121 = .ok (.iload_n 1, 1) := by decide +kernel
theorem d5_122 : decode jdk_48_method_4_code 122 = .ok (.iload_n 2, 1) := by decide +kernel
theorem d5_123 : decode jdk_48_method_4_code 123 = .ok (.invokestatic 84, 3) := by decide +kernel
theorem d5_126 : decode jdk_48_method_4_code 126 = .ok (.goto 31, 3) := by decide +kernel
theorem d5_129 : decode jdk_48_method_4_code 129 = .ok (.new 87, 3) := by decide +kernel
theorem d5_132 : decode jdk_48_method_4_code 132 = .ok (.dup, 1) := by decide +kernel
theorem d5_133 : decode jdk_48_method_4_code 133 = .ok (.new 89, 3) := by decide +kernel
theorem d5_136 : decode jdk_48_method_4_code 136 = .ok (.dup, 1) := by decide +kernel
theorem d5_137 : decode jdk_48_method_4_code 137 = .ok (.invokespecial 91, 3) := by decide +kernel
theorem d5_140 : decode jdk_48_method_4_code 140 = .ok (.ldc 92, 2) := by decide +kernel
theorem d5_142 : decode jdk_48_method_4_code 142 = .ok (.invokevirtual 94, 3) := by decide +kernel
theorem d5_145 : decode jdk_48_method_4_code 145 = .ok (.iload 4, 2) := by decide +kernel
theorem d5_147 : decode jdk_48_method_4_code 147 = .ok (.invokevirtual 98, 3) := by decide +kernel
theorem d5_150 : decode jdk_48_method_4_code 150 = .ok (.invokevirtual 101, 3) := by decide +kernel
theorem d5_153 : decode jdk_48_method_4_code 153 = .ok (.invokespecial 105, 3) := by decide +kernel
theorem d5_156 : decode jdk_48_method_4_code 156 = .ok (.athrow, 1) := by decide +kernel
theorem d5_157 : decode jdk_48_method_4_code 157 = .ok (.ireturn, 1) := by decide +kernel
abbrev own_rm5_room : Room := { frames := 1, cells := 0, slots := 0, locals := 17 }
set_option maxRecDepth 65536 in
set_option maxHeartbeats 40000000 in
theorem rm5 (l : Launch) (Z : State) (a0 : Array Value) (hw : ∀ d ∈ tables_1, d.before a0 Z = true) (n0 : Nat) (h0 : Heap) (Z0 : n0 ≤ h0.size) (a : Addr) (xs : List Int32) (bi ei r0 : Int32) (b e : Nat) (V : IA Z h0 a xs) (X : Exa Z h0 a "[I") (hb : bi.toInt = (b : Int)) (he : ei.toInt = (e : Int)) (hl : b + e ≤ xs.length) (hx : xs.length < 1000) :
    Ctr l Z (⟨"jdk/internal/util/ArraysSupport", "vectorizedHashCode", "(Ljava/lang/Object;IIII)I"⟩ : MethodName) jdk_48_method_4_code 5 (some .int) own_rm5_room n0 #[(.ref a), (.int bi), (.int ei), (.int r0), (.int (10 : Int32))] h0 (fun v h => ∃ x : Int32, v = some (.int x) ∧ h = h0) := by
  refine Ctr.of #[.val (.ref a), .val (.int bi), .val (.int ei), .val (.int r0), .val (.int (10 : Int32))] pn_0 Z0 (fun m => by first | (simp [entryFrame, mkF, argsToLocals, Value.category]; done) | rfl) ?_
  intro C H
  refine k_iload (pc := 0) H d5_0 rfl ?_
  refine k_tsw 116 (pc := 2) H d5_2 (by decide) (o := 114) (by decide) rfl ?_
  refine k_iloadN (pc := 116) H d5_116 rfl ?_
  refine k_aloadN (pc := 117) H d5_117 rfl rfl ?_
  refine k_castY (pc := 118) H (wd hw 27 rfl) (wd hw 28 rfl) X d5_118 ?_
  refine k_iloadN (pc := 121) H d5_121 rfl ?_
  refine k_iloadN (pc := 122) H d5_122 rfl ?_
  refine k_invS (y := (⟨"jdk/internal/util/ArraysSupport", "hashCode", "(I[III)I"⟩ : MethodName)) (st := []) [(.int r0), (.ref a), (.int bi), (.int ei)] 0 (pc := 123) H (wd hw 29 rfl) (wd hw 30 rfl) (wd hw 25 rfl) (wd hw 31 rfl) (by decide) (fun z0 => rm6 l Z a0 hw n0 h0 z0 r0 a xs bi ei b e V hb he hl hx) (lenOf pd_0 rfl) d5_123 rfl rfl rfl (by decide) (by decide) (by decide) (by decide) ?_
  rintro v hx ⟨x, rfl, ex⟩
  rw [ex]
  clear ex hx
  show W l own_rm5_room C _ h0 0 0 126 #[.val (.ref a), .val (.int bi), .val (.int ei), .val (.int r0), .val (.int (10 : Int32))] [(.int x)]
  refine k_goto 157 (pc := 126) H d5_126 rfl ?_
  exact k_retInt (pc := 157) H d5_157 (by show 0 ≤ own_rm5_room.cells; decide) (by show 0 ≤ own_rm5_room.slots; decide) (⟨_, rfl, rfl⟩)
theorem d3_0 : decode jdk_65_method_150_code 0 = .ok (.aload_n 0, 1) := by decide +kernel
theorem d3_1 : decode jdk_65_method_150_code 1 = .ok (.ifnonnull 5, 3) := by decide +kernel
theorem d3_4 : decode jdk_65_method_150_code 4 = .ok (.iconst 0, 1) := by decide +kernel
theorem d3_5 : decode jdk_65_method_150_code 5 = .ok (.ireturn, 1) := by decide +kernel
theorem d3_6 : decode jdk_65_method_150_code 6 = .ok (.aload_n 0, 1) := by decide +kernel
theorem d3_7 : decode jdk_65_method_150_code 7 = .ok (.arraylength, 1) := by decide +kernel
theorem d3_8 : decode jdk_65_method_150_code 8 = .ok (.lookupswitch 41 #[(0, 28), (1, 32)], 28) := by decide +kernel
theorem d3_36 : decode jdk_65_method_150_code 36 = .ok (.iconst 1, 1) := by decide +kernel
theorem d3_37 : decode jdk_65_method_150_code 37 = .ok (.goto 22, 3) := by decide +kernel
theorem d3_40 : decode jdk_65_method_150_code 40 = .ok (.bipush 31, 2) := by decide +kernel
theorem d3_42 : decode jdk_65_method_150_code 42 = .ok (.aload_n 0, 1) := by decide +kernel
theorem d3_43 : decode jdk_65_method_150_code 43 = .ok (.iconst 0, 1) := by decide +kernel
theorem d3_44 : decode jdk_65_method_150_code 44 = .ok (.iaload, 1) := by decide +kernel
theorem d3_45 : decode jdk_65_method_150_code 45 = .ok (.iadd, 1) := by decide +kernel
theorem d3_46 : decode jdk_65_method_150_code 46 = .ok (.goto 13, 3) := by decide +kernel
theorem d3_49 : decode jdk_65_method_150_code 49 = .ok (.aload_n 0, 1) := by decide +kernel
theorem d3_50 : decode jdk_65_method_150_code 50 = .ok (.iconst 0, 1) := by decide +kernel
theorem d3_51 : decode jdk_65_method_150_code 51 = .ok (.aload_n 0, 1) := by decide +kernel
theorem d3_52 : decode jdk_65_method_150_code 52 = .ok (.arraylength, 1) := by decide +kernel
theorem d3_53 : decode jdk_65_method_150_code 53 = .ok (.iconst 1, 1) := by decide +kernel
theorem d3_54 : decode jdk_65_method_150_code 54 = .ok (.bipush 10, 2) := by decide +kernel
theorem d3_56 : decode jdk_65_method_150_code 56 = .ok (.invokestatic 379, 3) := by decide +kernel
theorem d3_59 : decode jdk_65_method_150_code 59 = .ok (.ireturn, 1) := by decide +kernel
abbrev own_rm3_room : Room := { frames := 2, cells := 0, slots := 0, locals := 33 }
set_option maxRecDepth 65536 in
set_option maxHeartbeats 40000000 in
theorem rm3 (l : Launch) (Z : State) (a0 : Array Value) (hw : ∀ d ∈ tables_1, d.before a0 Z = true) (n0 : Nat) (h0 : Heap) (Z0 : n0 ≤ h0.size) (a : Addr) (xs : List Int32) (V : IA Z h0 a xs) (X : Exa Z h0 a "[I") (hx : xs.length < 1000) :
    Ctr l Z (⟨"java/util/Arrays", "hashCode", "([I)I"⟩ : MethodName) jdk_65_method_150_code 1 (some .int) own_rm3_room n0 #[(.ref a)] h0 (fun v h => ∃ x : Int32, v = some (.int x) ∧ h = h0) := by
  refine Ctr.of #[.val (.ref a)] pn_1 Z0 (fun m => by first | (simp [entryFrame, mkF, argsToLocals, Value.category]; done) | rfl) ?_
  intro C H
  refine k_aloadN (pc := 0) H d3_0 rfl rfl ?_
  refine k_nonnullT 6 (pc := 1) H d3_1 rfl ?_
  refine k_aloadN (pc := 6) H d3_6 rfl rfl ?_
  obtain ⟨N, hN⟩ : ∃ N : Int32, N.toInt = (xs.length : Int) := ⟨xs.length.toInt32, len_toInt (by omega)⟩
  refine k_arraylength (N := N) (pc := 7) H V (by simpa using hN) d3_7 ?_
  by_cases c0 : xs.length = 0
  · refine k_lsw 36 (pc := 8) H d3_8 own_sorted (by rw [hN, c0]; rfl) ?_
    refine k_iconst (1 : Int32) (pc := 36) H d3_36 rfl ?_
    refine k_goto 59 (pc := 37) H d3_37 rfl ?_
    exact k_retInt (pc := 59) H d3_59 (by show 0 ≤ own_rm3_room.cells; decide) (by show 0 ≤ own_rm3_room.slots; decide) (⟨_, rfl, rfl⟩)
  · by_cases c1 : xs.length = 1
    · refine k_lsw 40 (pc := 8) H d3_8 own_sorted (by rw [hN, c1]; rfl) ?_
      refine k_bipush (31 : Int32) (pc := 40) H d3_40 rfl ?_
      refine k_aloadN (pc := 42) H d3_42 rfl rfl ?_
      refine k_iconst (0 : Int32) (pc := 43) H d3_43 rfl ?_
      refine k_ialoadT (i := 0) (x := (xs.getD 0 0)) (pc := 44) H V (rfl) (own_get 0 (by omega)) d3_44 ?_
      refine k_iadd (pc := 45) H d3_45 ?_
      refine k_goto 59 (pc := 46) H d3_46 rfl ?_
      exact k_retInt (pc := 59) H d3_59 (by show 0 ≤ own_rm3_room.cells; decide) (by show 0 ≤ own_rm3_room.slots; decide) (⟨_, rfl, rfl⟩)
    · have q0 : ¬ (0 : Int) = (xs.length : Int) := by omega
      have q1 : ¬ (1 : Int) = (xs.length : Int) := by omega
      refine k_lsw 49 (pc := 8) H d3_8 own_sorted (by rw [hN]; simp [lookupswitch.offset, q0, q1]) ?_
      refine k_aloadN (pc := 49) H d3_49 rfl rfl ?_
      refine k_iconst (0 : Int32) (pc := 50) H d3_50 rfl ?_
      refine k_aloadN (pc := 51) H d3_51 rfl rfl ?_
      refine k_arraylength (N := N) (pc := 52) H V (by simpa using hN) d3_52 ?_
      refine k_iconst (1 : Int32) (pc := 53) H d3_53 rfl ?_
      refine k_bipush (10 : Int32) (pc := 54) H d3_54 rfl ?_
      refine k_invS (y := (⟨"jdk/internal/util/ArraysSupport", "vectorizedHashCode", "(Ljava/lang/Object;IIII)I"⟩ : MethodName)) (st := []) [(.ref a), (.int (0 : Int32)), (.int N), (.int (1 : Int32)), (.int (10 : Int32))] 0 (pc := 56) H (wd hw 23 rfl) (wd hw 24 rfl) (wd hw 25 rfl) (wd hw 26 rfl) (by decide) (fun z0 => rm5 l Z a0 hw n0 h0 z0 a xs (0 : Int32) N (1 : Int32) 0 xs.length V X rfl hN (by omega) hx) (lenOf pd_1 rfl) d3_56 rfl rfl rfl (by decide) (by decide) (by decide) (by decide) ?_
      rintro v hx ⟨x, rfl, ex⟩
      rw [ex]
      clear ex hx
      show W l own_rm3_room C _ h0 0 0 59 #[.val (.ref a)] [(.int x)]
      exact k_retInt (pc := 59) H d3_59 (by show 0 ≤ own_rm3_room.cells; decide) (by show 0 ≤ own_rm3_room.slots; decide) (⟨_, rfl, rfl⟩)
theorem d1_0 : decode prog_35_method_1_code 0 = .ok (.aload_n 0, 1) := by decide +kernel
theorem d1_1 : decode prog_35_method_1_code 1 = .ok (.invokespecial 1, 3) := by decide +kernel
theorem d1_4 : decode prog_35_method_1_code 4 = .ok (.aload_n 0, 1) := by decide +kernel
theorem d1_5 : decode prog_35_method_1_code 5 = .ok (.aload_n 1, 1) := by decide +kernel
theorem d1_6 : decode prog_35_method_1_code 6 = .ok (.putfield 7, 3) := by decide +kernel
theorem d1_9 : decode prog_35_method_1_code 9 = .ok (.aload_n 0, 1) := by decide +kernel
theorem d1_10 : decode prog_35_method_1_code 10 = .ok (.aload_n 1, 1) := by decide +kernel
theorem d1_11 : decode prog_35_method_1_code 11 = .ok (.invokestatic 13, 3) := by decide +kernel
theorem d1_14 : decode prog_35_method_1_code 14 = .ok (.putfield 19, 3) := by decide +kernel
theorem d1_17 : decode prog_35_method_1_code 17 = .ok (.return_, 1) := by decide +kernel
abbrev own_rm1_room : Room := { frames := 3, cells := 0, slots := 0, locals := 46 }
set_option maxRecDepth 65536 in
set_option maxHeartbeats 40000000 in
theorem rm1 (l : Launch) (Z : State) (a0 : Array Value) (hw : ∀ d ∈ tables_1, d.before a0 Z = true) (n0 : Nat) (h0 : Heap) (Z0 : n0 ≤ h0.size) (s a : Addr) (xs : List Int32) (ge : n0 ≤ s) (ne : s ≠ a) (E : Exa Z h0 s "mandate/Counters$State") (F1 : Fld Z h0 s "mandate/Counters$State" "counters" "[I" .null) (F2 : Fld Z h0 s "mandate/Counters$State" "hash" "I" (.int 0)) (V : IA Z h0 a xs) (X : Exa Z h0 a "[I") (hx : xs.length < 1000) :
    Ctr l Z (⟨"mandate/Counters$State", "<init>", "([I)V"⟩ : MethodName) prog_35_method_1_code 2 none own_rm1_room n0 #[(.ref s), (.ref a)] h0 (fun v h => v = none ∧ Keep h0 h [s] ∧ Exa Z h s "mandate/Counters$State" ∧ Fld Z h s "mandate/Counters$State" "counters" "[I" (.ref a) ∧ IA Z h a xs) := by
  refine Ctr.of #[.val (.ref s), .val (.ref a)] pn_2 Z0 (fun m => by first | (simp [entryFrame, mkF, argsToLocals, Value.category]; done) | rfl) ?_
  intro C H
  refine k_aloadN (pc := 0) H d1_0 rfl rfl ?_
  refine k_initObj (w := 0) (pc := 1) H (wd hw 7 rfl) (wd hw 8 rfl) (wd hw 9 rfl) d1_1 rfl (by decide) rfl (by decide) ?_
  refine k_aloadN (pc := 4) H d1_4 rfl rfl ?_
  refine k_aloadN (pc := 5) H d1_5 rfl rfl ?_
  refine k_putfield (.array .int) (pc := 6) H (wd hw 10 rfl) F1 E (Or.inr ⟨(wd hw 11 rfl), rfl, rfl⟩) (wd hw 2 rfl) (by decide) rfl rfl ge d1_6 ?_
  intro h1 Wr2 f3
  have KW4 : Keep h0 h1 [s] := (Keep.refl h0 [s]).wr Wr2 (Or.inl (List.mem_of_getElem? (i := 0) rfl))
  have f5 : Exa Z h1 s "mandate/Counters$State" := Jvm.RoadKit.Exa.wr Wr2 E
  have f6 : Fld Z h1 s "mandate/Counters$State" "hash" "I" (.int 0) := Jvm.RoadKit.Fld.other Wr2 F2 (Or.inr (slot_ne (t := .int) (t' := (.array .int)) (Or.inr (wd hw 17 rfl)) (Or.inr (wd hw 11 rfl)) (by decide) (by decide) (by decide)))
  have f7 : IA Z h1 a xs := V.other Wr2 (Ne.symm ne)
  have f8 : Exa Z h1 a "[I" := Jvm.RoadKit.Exa.wr Wr2 X
  refine k_aloadN (pc := 9) H d1_9 rfl rfl ?_
  refine k_aloadN (pc := 10) H d1_10 rfl rfl ?_
  refine k_invS (y := (⟨"java/util/Arrays", "hashCode", "([I)I"⟩ : MethodName)) (st := [(.ref s)]) [(.ref a)] 1 (pc := 11) H (wd hw 12 rfl) (wd hw 13 rfl) (wd hw 14 rfl) (wd hw 15 rfl) (by decide) (fun z0 => rm3 l Z a0 hw n0 h1 z0 a xs f7 f8 hx) (lenOf pd_2 rfl) d1_11 rfl rfl rfl (by decide) (by decide) (by decide) (by decide) ?_
  rintro v hx ⟨x, rfl, ex⟩
  rw [ex]
  clear ex hx
  show W l own_rm1_room C _ h1 0 0 14 #[.val (.ref s), .val (.ref a)] [(.int x), (.ref s)]
  refine k_putfield .int (pc := 14) H (wd hw 16 rfl) f6 f5 (Or.inr ⟨(wd hw 17 rfl), rfl, rfl⟩) (wd hw 2 rfl) (by decide) rfl rfl ge d1_14 ?_
  intro h9 Wr10 f11
  have KW12 : Keep h0 h9 [s] := KW4.wr Wr10 (Or.inl (List.mem_of_getElem? (i := 0) rfl))
  have f13 : Exa Z h9 s "mandate/Counters$State" := Jvm.RoadKit.Exa.wr Wr10 f5
  have f14 : IA Z h9 a xs := f7.other Wr10 (Ne.symm ne)
  have f15 : Exa Z h9 a "[I" := Jvm.RoadKit.Exa.wr Wr10 f8
  have f16 : Fld Z h9 s "mandate/Counters$State" "counters" "[I" (.ref a) := Jvm.RoadKit.Fld.other Wr10 f3 (Or.inr (slot_ne (t := (.array .int)) (t' := .int) (Or.inr (wd hw 11 rfl)) (Or.inr (wd hw 17 rfl)) (by decide) (by decide) (by decide)))
  exact k_retVoid (pc := 17) H d1_17 (by show 0 ≤ own_rm1_room.cells; decide) (by show 0 ≤ own_rm1_room.slots; decide) (⟨rfl, KW12, f13, f16, f14⟩)
theorem d4_0 : decode prog_35_method_3_code 0 = .ok (.lconst 0, 1) := by decide +kernel
theorem d4_1 : decode prog_35_method_3_code 1 = .ok (.lstore_n 1, 1) := by decide +kernel
theorem d4_2 : decode prog_35_method_3_code 2 = .ok (.aload_n 0, 1) := by decide +kernel
theorem d4_3 : decode prog_35_method_3_code 3 = .ok (.getfield 7, 3) := by decide +kernel
theorem d4_6 : decode prog_35_method_3_code 6 = .ok (.astore_n 3, 1) := by decide +kernel
theorem d4_7 : decode prog_35_method_3_code 7 = .ok (.aload_n 3, 1) := by decide +kernel
theorem d4_8 : decode prog_35_method_3_code 8 = .ok (.arraylength, 1) := by decide +kernel
theorem d4_9 : decode prog_35_method_3_code 9 = .ok (.istore 4, 2) := by decide +kernel
theorem d4_11 : decode prog_35_method_3_code 11 = .ok (.iconst 0, 1) := by decide +kernel
theorem d4_12 : decode prog_35_method_3_code 12 = .ok (.istore 5, 2) := by decide +kernel
theorem d4_14 : decode prog_35_method_3_code 14 = .ok (.iload 5, 2) := by decide +kernel
theorem d4_16 : decode prog_35_method_3_code 16 = .ok (.iload 4, 2) := by decide +kernel
theorem d4_18 : decode prog_35_method_3_code 18 = .ok (.if_icmp .ge 21, 3) := by decide +kernel
theorem d4_21 : decode prog_35_method_3_code 21 = .ok (.aload_n 3, 1) := by decide +kernel
theorem d4_22 : decode prog_35_method_3_code 22 = .ok (.iload 5, 2) := by decide +kernel
theorem d4_24 : decode prog_35_method_3_code 24 = .ok (.iaload, 1) := by decide +kernel
theorem d4_25 : decode prog_35_method_3_code 25 = .ok (.istore 6, 2) := by decide +kernel
theorem d4_27 : decode prog_35_method_3_code 27 = .ok (.lload_n 1, 1) := by decide +kernel
theorem d4_28 : decode prog_35_method_3_code 28 = .ok (.iload 6, 2) := by decide +kernel
theorem d4_30 : decode prog_35_method_3_code 30 = .ok (.i2l, 1) := by decide +kernel
theorem d4_31 : decode prog_35_method_3_code 31 = .ok (.ladd, 1) := by decide +kernel
theorem d4_32 : decode prog_35_method_3_code 32 = .ok (.lstore_n 1, 1) := by decide +kernel
theorem d4_33 : decode prog_35_method_3_code 33 = .ok (.iinc 5 1, 3) := by decide +kernel
theorem d4_36 : decode prog_35_method_3_code 36 = .ok (.goto (-22), 3) := by decide +kernel
theorem d4_39 : decode prog_35_method_3_code 39 = .ok (.lload_n 1, 1) := by decide +kernel
theorem d4_40 : decode prog_35_method_3_code 40 = .ok (.lreturn, 1) := by decide +kernel
abbrev own_rm4_room : Room := { frames := 0, cells := 0, slots := 0, locals := 0 }
set_option maxRecDepth 65536 in
set_option maxHeartbeats 40000000 in
theorem rm4 (l : Launch) (Z : State) (a0 : Array Value) (hw : ∀ d ∈ tables_1, d.before a0 Z = true) (n0 : Nat) (h0 : Heap) (Z0 : n0 ≤ h0.size) (s a : Addr) (xs : List Int32) (F1 : Fld Z h0 s "mandate/Counters$State" "counters" "[I" (.ref a)) (V : IA Z h0 a xs) (hx : xs.length < 1000) :
    Ctr l Z (⟨"mandate/Counters$State", "sum", "()J"⟩ : MethodName) prog_35_method_3_code 7 (some .long) own_rm4_room n0 #[(.ref s)] h0 (fun v h => v = some (.long (own_sm xs 0 xs.length 0)) ∧ h = h0) := by
  refine Ctr.of #[.val (.ref s), .unset, .unset, .unset, .unset, .unset, .unset] pn_2 Z0 (fun m => by first | (simp [entryFrame, mkF, argsToLocals, Value.category]; done) | rfl) ?_
  intro C H
  refine k_lconst (0 : Int64) (pc := 0) H d4_0 rfl ?_
  refine k_lstoreN (pc := 1) H d4_1 (Ls' := #[.val (.ref s), .val (.long (0 : Int64)), .second, .unset, .unset, .unset, .unset]) rfl ?_
  refine k_aloadN (pc := 2) H d4_2 rfl rfl ?_
  refine k_getfield (pc := 3) H (wd hw 10 rfl) F1 d4_3 ?_
  refine k_astoreN (pc := 6) H d4_6 rfl (Ls' := #[.val (.ref s), .val (.long (0 : Int64)), .second, .val (.ref a), .unset, .unset, .unset]) rfl ?_
  refine k_aloadN (pc := 7) H d4_7 rfl rfl ?_
  obtain ⟨N, hN⟩ : ∃ N : Int32, N.toInt = (xs.length : Int) := ⟨xs.length.toInt32, len_toInt (by omega)⟩
  refine k_arraylength (N := N) (pc := 8) H V (by simpa using hN) d4_8 ?_
  refine k_istore (pc := 9) H d4_9 (Ls' := #[.val (.ref s), .val (.long (0 : Int64)), .second, .val (.ref a), .val (.int N), .unset, .unset]) rfl ?_
  refine k_iconst (0 : Int32) (pc := 11) H d4_11 rfl ?_
  refine k_istore (pc := 12) H d4_12 (Ls' := #[.val (.ref s), .val (.long (0 : Int64)), .second, .val (.ref a), .val (.int N), .val (.int (0 : Int32)), .unset]) rfl ?_
  have L : ∀ (m i : Nat) (ii : Int32) (t : Int64) (s6 : Slot) (hs : OneW s6) (hi : ii.toInt = (i : Int)) (hm : i + m = xs.length) (hv : own_sm xs 0 xs.length 0 = own_sm xs i m t), W l own_rm4_room C (n0, own_rm4_room.cells, own_rm4_room.slots, fun v h => v = some (.long (own_sm xs 0 xs.length 0)) ∧ h = h0) h0 0 0 14 #[.val (.ref s), .val (.long t), .second, .val (.ref a), .val (.int N), .val (.int ii), s6] [] := by
    intro m
    induction m with
    | zero =>
      intro i ii t s6 hs hi hm hv
      refine k_iload (pc := 14) H d4_14 rfl ?_
      refine k_iload (pc := 16) H d4_16 rfl ?_
      refine k_icmpT 39 (pc := 18) H d4_18 rfl (XT.ii_ge_t (fun q => by have := (lt_nat hi hN).mp q; omega)) ?_
      refine k_lloadN (pc := 39) H d4_39 rfl ?_
      exact k_retLong (pc := 40) H d4_40 (by show 0 ≤ own_rm4_room.cells; decide) (by show 0 ≤ own_rm4_room.slots; decide) (⟨by rw [hv]; rfl, rfl⟩)
    | succ m ih =>
      intro i ii t s6 hs hi hm hv
      refine k_iload (pc := 14) H d4_14 rfl ?_
      refine k_iload (pc := 16) H d4_16 rfl ?_
      refine k_icmpF (pc := 18) H d4_18 (XT.ii_ge_f ((lt_nat hi hN).mpr (by omega))) ?_
      refine k_aloadN (pc := 21) H d4_21 rfl rfl ?_
      refine k_iload (pc := 22) H d4_22 rfl ?_
      refine k_ialoadT (i := i) (x := (xs.getD i 0)) (pc := 24) H V (hi) (own_get 0 (by omega)) d4_24 ?_
      refine k_istore (pc := 25) H d4_25 (Ls' := #[.val (.ref s), .val (.long t), .second, .val (.ref a), .val (.int N), .val (.int ii), .val (.int (xs.getD i 0))]) (XS.store1 rfl hs rfl) ?_
      refine k_lloadN (pc := 27) H d4_27 rfl ?_
      refine k_iload (pc := 28) H d4_28 rfl ?_
      refine k_i2l (pc := 30) H d4_30 ?_
      refine k_ladd (pc := 31) H d4_31 ?_
      refine k_lstoreN (pc := 32) H d4_32 (Ls' := #[.val (.ref s), .val (.long (t + (xs.getD i 0).toInt64)), .second, .val (.ref a), .val (.int N), .val (.int ii), .val (.int (xs.getD i 0))]) rfl ?_
      refine k_iinc (1 : Int32) (pc := 33) H d4_33 rfl rfl (Ls' := #[.val (.ref s), .val (.long (t + (xs.getD i 0).toInt64)), .second, .val (.ref a), .val (.int N), .val (.int (ii + (1 : Int32))), .val (.int (xs.getD i 0))]) rfl ?_
      refine k_goto 14 (pc := 36) H d4_36 rfl ?_
      exact ih (i + 1) _ _ _ (OneW.int _) (add_nat hi rfl (by omega)) (by omega) (by rw [hv]; rfl)
  exact L _ 0 _ _ _ OneW.unset rfl (by omega) rfl
theorem d0_0 : decode code 0 = .ok (.iload_n 0, 1) := by decide +kernel
theorem d0_1 : decode code 1 = .ok (.iconst 3, 1) := by decide +kernel
theorem d0_2 : decode code 2 = .ok (.iand, 1) := by decide +kernel
theorem d0_3 : decode code 3 = .ok (.istore 4, 2) := by decide +kernel
theorem d0_5 : decode code 5 = .ok (.iload 4, 2) := by decide +kernel
theorem d0_7 : decode code 7 = .ok (.newarray .int, 2) := by decide +kernel
theorem d0_9 : decode code 9 = .ok (.astore 5, 2) := by decide +kernel
theorem d0_11 : decode code 11 = .ok (.iload 4, 2) := by decide +kernel
theorem d0_13 : decode code 13 = .ok (.ifCond .le 8, 3) := by decide +kernel
theorem d0_16 : decode code 16 = .ok (.aload 5, 2) := by decide +kernel
theorem d0_18 : decode code 18 = .ok (.iconst 0, 1) := by decide +kernel
theorem d0_19 : decode code 19 = .ok (.iload_n 1, 1) := by decide +kernel
theorem d0_20 : decode code 20 = .ok (.iastore, 1) := by decide +kernel
theorem d0_21 : decode code 21 = .ok (.iload 4, 2) := by decide +kernel
theorem d0_23 : decode code 23 = .ok (.iconst 1, 1) := by decide +kernel
theorem d0_24 : decode code 24 = .ok (.if_icmp .le 8, 3) := by decide +kernel
theorem d0_27 : decode code 27 = .ok (.aload 5, 2) := by decide +kernel
theorem d0_29 : decode code 29 = .ok (.iconst 1, 1) := by decide +kernel
theorem d0_30 : decode code 30 = .ok (.iload_n 2, 1) := by decide +kernel
theorem d0_31 : decode code 31 = .ok (.iastore, 1) := by decide +kernel
theorem d0_32 : decode code 32 = .ok (.iload 4, 2) := by decide +kernel
theorem d0_34 : decode code 34 = .ok (.iconst 2, 1) := by decide +kernel
theorem d0_35 : decode code 35 = .ok (.if_icmp .le 8, 3) := by decide +kernel
theorem d0_38 : decode code 38 = .ok (.aload 5, 2) := by decide +kernel
theorem d0_40 : decode code 40 = .ok (.iconst 2, 1) := by decide +kernel
theorem d0_41 : decode code 41 = .ok (.iload_n 3, 1) := by decide +kernel
theorem d0_42 : decode code 42 = .ok (.iastore, 1) := by decide +kernel
theorem d0_43 : decode code 43 = .ok (.lconst 0, 1) := by decide +kernel
theorem d0_44 : decode code 44 = .ok (.lstore 6, 2) := by decide +kernel
theorem d0_46 : decode code 46 = .ok (.iload 4, 2) := by decide +kernel
theorem d0_48 : decode code 48 = .ok (.ifCond .le 10, 3) := by decide +kernel
theorem d0_51 : decode code 51 = .ok (.lload 6, 2) := by decide +kernel
theorem d0_53 : decode code 53 = .ok (.iload_n 1, 1) := by decide +kernel
theorem d0_54 : decode code 54 = .ok (.i2l, 1) := by decide +kernel
theorem d0_55 : decode code 55 = .ok (.ladd, 1) := by decide +kernel
theorem d0_56 : decode code 56 = .ok (.lstore 6, 2) := by decide +kernel
theorem d0_58 : decode code 58 = .ok (.iload 4, 2) := by decide +kernel
theorem d0_60 : decode code 60 = .ok (.iconst 1, 1) := by decide +kernel
theorem d0_61 : decode code 61 = .ok (.if_icmp .le 10, 3) := by decide +kernel
theorem d0_64 : decode code 64 = .ok (.lload 6, 2) := by decide +kernel
theorem d0_66 : decode code 66 = .ok (.iload_n 2, 1) := by decide +kernel
theorem d0_67 : decode code 67 = .ok (.i2l, 1) := by decide +kernel
theorem d0_68 : decode code 68 = .ok (.ladd, 1) := by decide +kernel
theorem d0_69 : decode code 69 = .ok (.lstore 6, 2) := by decide +kernel
theorem d0_71 : decode code 71 = .ok (.iload 4, 2) := by decide +kernel
theorem d0_73 : decode code 73 = .ok (.iconst 2, 1) := by decide +kernel
theorem d0_74 : decode code 74 = .ok (.if_icmp .le 10, 3) := by decide +kernel
theorem d0_77 : decode code 77 = .ok (.lload 6, 2) := by decide +kernel
theorem d0_79 : decode code 79 = .ok (.iload_n 3, 1) := by decide +kernel
theorem d0_80 : decode code 80 = .ok (.i2l, 1) := by decide +kernel
theorem d0_81 : decode code 81 = .ok (.ladd, 1) := by decide +kernel
theorem d0_82 : decode code 82 = .ok (.lstore 6, 2) := by decide +kernel
theorem d0_84 : decode code 84 = .ok (.new 7, 3) := by decide +kernel
theorem d0_87 : decode code 87 = .ok (.dup, 1) := by decide +kernel
theorem d0_88 : decode code 88 = .ok (.aload 5, 2) := by decide +kernel
theorem d0_90 : decode code 90 = .ok (.invokespecial 9, 3) := by decide +kernel
theorem d0_93 : decode code 93 = .ok (.astore 8, 2) := by decide +kernel
theorem d0_95 : decode code 95 = .ok (.aload 8, 2) := by decide +kernel
theorem d0_97 : decode code 97 = .ok (.invokevirtual 12, 3) := by decide +kernel
theorem d0_100 : decode code 100 = .ok (.lload 6, 2) := by decide +kernel
theorem d0_102 : decode code 102 = .ok (.lcmp, 1) := by decide +kernel
theorem d0_103 : decode code 103 = .ok (.ifCond .ne 7, 3) := by decide +kernel
theorem d0_106 : decode code 106 = .ok (.iconst 1, 1) := by decide +kernel
theorem d0_107 : decode code 107 = .ok (.goto 4, 3) := by decide +kernel
theorem d0_110 : decode code 110 = .ok (.iconst 0, 1) := by decide +kernel
theorem d0_111 : decode code 111 = .ok (.ireturn, 1) := by decide +kernel
set_option maxRecDepth 65536 in
set_option maxHeartbeats 40000000 in
theorem rm0 (l : Launch) (Z : State) (a0 : Array Value) (hw : ∀ d ∈ tables_1, d.before a0 Z = true) (ws : List Jvm.Cond) (n0 : Nat) (h0 : Heap) (Z0 : n0 ≤ h0.size) (n : Int32) (a : Int32) (b : Int32) (c : Int32) :
    MetFree l x (head1 (Jvm.Cond.code x code maxLocals ret :: ws) room_1) (fun as_ U => as_ = #[(.int n), (.int a), (.int b), (.int c)] ∧ Z.Warmed39 U.vm ∧ U.heap = h0) (fun _ _ _ _ _ => True) (fun _ U o U' => ∃ v L, o = .returned v ∧ ((fun v h => v = some (.int 1)) v U'.heap ∧ Fr n0 L) ∧ FrameEnd U o U' L 16 128) := by
  refine met_of (Q := fun v h => v = some (.int 1)) #[.val (.int n), .val (.int a), .val (.int b), .val (.int c), .unset, .unset, .unset, .unset, .unset] pn_3 Z0 (fun m => by first | (simp [entryFrame, mkF, argsToLocals, Value.category, maxLocals]; done) | rfl) ?_
  intro C H
  refine k_iloadN (pc := 0) H d0_0 rfl ?_
  refine k_iconst (3 : Int32) (pc := 1) H d0_1 rfl ?_
  refine k_iand (pc := 2) H d0_2 ?_
  generalize hv_sz : (n &&& (3 : Int32)) = sz
  refine k_istore (pc := 3) H d0_3 (Ls' := #[.val (.int n), .val (.int a), .val (.int b), .val (.int c), .val (.int sz), .unset, .unset, .unset, .unset]) rfl ?_
  refine k_iload (pc := 5) H d0_5 rfl ?_
  obtain ⟨m, hm, hm4⟩ := mask_nat n 3 2 (by decide) (by decide)
  rw [hv_sz] at hm
  have hm' : m = 0 ∨ m = 1 ∨ m = 2 ∨ m = 3 := by omega
  rcases hm' with rfl | rfl | rfl | rfl
  · refine k_new_int (0) 0 (pc := 7) H (wd hw 0 rfl) d0_7 (hm) (by decide) (by decide) (by decide) (by decide) ?_
    intro h18 xs ea19 ge20 E21 XA17 V22
    refine k_astore (pc := 9) H d0_9 rfl (Ls' := #[.val (.int n), .val (.int a), .val (.int b), .val (.int c), .val (.int sz), .val (.ref xs), .unset, .unset, .unset]) rfl ?_
    refine k_iload (pc := 11) H d0_11 rfl ?_
    refine k_ifT 21 (pc := 13) H d0_13 rfl (XT.i0_le_t (by rw [Int32.lt_iff_toInt_lt, hm]; decide)) ?_
    refine k_iload (pc := 21) H d0_21 rfl ?_
    refine k_iconst (1 : Int32) (pc := 23) H d0_23 rfl ?_
    refine k_icmpT 32 (pc := 24) H d0_24 rfl (XT.ii_le_t (by rw [Int32.lt_iff_toInt_lt, hm]; decide)) ?_
    refine k_iload (pc := 32) H d0_32 rfl ?_
    refine k_iconst (2 : Int32) (pc := 34) H d0_34 rfl ?_
    refine k_icmpT 43 (pc := 35) H d0_35 rfl (XT.ii_le_t (by rw [Int32.lt_iff_toInt_lt, hm]; decide)) ?_
    refine k_lconst (0 : Int64) (pc := 43) H d0_43 rfl ?_
    refine k_lstore (pc := 44) H d0_44 (Ls' := #[.val (.int n), .val (.int a), .val (.int b), .val (.int c), .val (.int sz), .val (.ref xs), .val (.long (0 : Int64)), .second, .unset]) rfl ?_
    refine k_iload (pc := 46) H d0_46 rfl ?_
    refine k_ifT 58 (pc := 48) H d0_48 rfl (XT.i0_le_t (by rw [Int32.lt_iff_toInt_lt, hm]; decide)) ?_
    refine k_iload (pc := 58) H d0_58 rfl ?_
    refine k_iconst (1 : Int32) (pc := 60) H d0_60 rfl ?_
    refine k_icmpT 71 (pc := 61) H d0_61 rfl (XT.ii_le_t (by rw [Int32.lt_iff_toInt_lt, hm]; decide)) ?_
    refine k_iload (pc := 71) H d0_71 rfl ?_
    refine k_iconst (2 : Int32) (pc := 73) H d0_73 rfl ?_
    refine k_icmpT 84 (pc := 74) H d0_74 rfl (XT.ii_le_t (by rw [Int32.lt_iff_toInt_lt, hm]; decide)) ?_
    refine k_newObj (pc := 84) H (wd hw 1 rfl) (wd hw 2 rfl) (wd hw 3 rfl) d0_84 (by decide) (by decide) ?_
    intro h23 s ea24 ge25 E26 X27 D28
    have ne29 : xs ≠ s := Nat.ne_of_lt (by rw [ea24]; exact XA17.lt)
    have f30 : Exa Z h23 xs "[I" := Jvm.RoadKit.Exa.ext E26 XA17
    have f31 : IA Z h23 xs (List.replicate (0) 0) := V22.ext E26
    have f32 : Fld Z h23 s "mandate/Counters$State" "counters" "[I" .null := D28 (Or.inr (wd hw 11 rfl)) (ty := (.array .int)) (by decide)
    have f33 : Fld Z h23 s "mandate/Counters$State" "hash" "I" (.int (0 : Int32)) := D28 (Or.inr (wd hw 17 rfl)) (ty := .int) (by decide)
    refine k_dup (pc := 87) H d0_87 rfl ?_
    refine k_aload (pc := 88) H d0_88 rfl rfl ?_
    refine k_invI (y := (⟨"mandate/Counters$State", "<init>", "([I)V"⟩ : MethodName)) (st := [(.ref s)]) (a := s) [(.ref xs)] 1 (pc := 90) H rfl (wd hw 4 rfl) (wd hw 5 rfl) (wd hw 3 rfl) (wd hw 6 rfl) (by decide) (fun z0 => rm1 l Z a0 hw n0 h23 z0 s xs _ ge25 (Ne.symm ne29) X27 f32 f33 f31 f30 (by simp)) (lenOf pd_3 rfl) d0_90 rfl rfl rfl (by decide) (by decide) (by decide) (by decide) ?_
    rintro v hA ⟨rfl, K, E1, G1, V1⟩
    show W l room_1 C _ hA 2 2 93 #[.val (.int n), .val (.int a), .val (.int b), .val (.int c), .val (.int sz), .val (.ref xs), .val (.long (0 : Int64)), .second, .unset] [(.ref s)]
    refine k_astore (pc := 93) H d0_93 rfl (Ls' := #[.val (.int n), .val (.int a), .val (.int b), .val (.int c), .val (.int sz), .val (.ref xs), .val (.long (0 : Int64)), .second, .val (.ref s)]) rfl ?_
    refine k_aload (pc := 95) H d0_95 rfl rfl ?_
    refine k_invV (y := (⟨"mandate/Counters$State", "sum", "()J"⟩ : MethodName)) (st := []) (a := s) [] 0 (pc := 97) H (wd hw 18 rfl) (wd hw 19 rfl) (wd hw 21 rfl) (wd hw 20 rfl) (wd hw 3 rfl) (wd hw 22 rfl) rfl (by decide) E1 (fun z0 => rm4 l Z a0 hw n0 hA z0 s xs _ G1 V1 (by simp)) (lenOf pd_4 rfl) d0_97 rfl rfl rfl (by decide) (by decide) (by decide) (by decide) ?_
    rintro v hx ⟨rfl, ex⟩
    rw [ex]
    clear ex hx
    show W l room_1 C _ hA 2 2 100 #[.val (.int n), .val (.int a), .val (.int b), .val (.int c), .val (.int sz), .val (.ref xs), .val (.long (0 : Int64)), .second, .val (.ref s)] [(.long (own_sm (List.replicate (0) 0) 0 (List.replicate (0) 0).length 0))]
    refine k_lload (pc := 100) H d0_100 rfl ?_
    refine k_lcmp (pc := 102) H d0_102 ?_
    refine k_ifF (pc := 103) H d0_103 (XT.ll_ne_f (by simp [own_sm, List.replicate])) ?_
    refine k_iconst (1 : Int32) (pc := 106) H d0_106 rfl ?_
    refine k_goto 111 (pc := 107) H d0_107 rfl ?_
    exact k_retN' (t := .boolean) (by simp) (pc := 111) H d0_111 (by show 2 ≤ 16; decide) (by show 2 ≤ 128; decide) (rfl)
  · refine k_new_int (1) 1 (pc := 7) H (wd hw 0 rfl) d0_7 (hm) (by decide) (by decide) (by decide) (by decide) ?_
    intro h35 xs ea36 ge37 E38 XA34 V39
    refine k_astore (pc := 9) H d0_9 rfl (Ls' := #[.val (.int n), .val (.int a), .val (.int b), .val (.int c), .val (.int sz), .val (.ref xs), .unset, .unset, .unset]) rfl ?_
    refine k_iload (pc := 11) H d0_11 rfl ?_
    refine k_ifF (pc := 13) H d0_13 (XT.i0_le_f (by rw [Int32.lt_iff_toInt_lt, hm]; decide)) ?_
    refine k_aload (pc := 16) H d0_16 rfl rfl ?_
    refine k_iconst (0 : Int32) (pc := 18) H d0_18 rfl ?_
    refine k_iloadN (pc := 19) H d0_19 rfl ?_
    refine k_iastoreT (i := 0) (pc := 20) H V39 (by decide) (by simp) ge37 d0_20 ?_
    intro h40 K41 V42
    have f43 : Exa Z h40 xs "[I" := XA34.keep K41
    refine k_iload (pc := 21) H d0_21 rfl ?_
    refine k_iconst (1 : Int32) (pc := 23) H d0_23 rfl ?_
    refine k_icmpT 32 (pc := 24) H d0_24 rfl (XT.ii_le_t (by rw [Int32.lt_iff_toInt_lt, hm]; decide)) ?_
    refine k_iload (pc := 32) H d0_32 rfl ?_
    refine k_iconst (2 : Int32) (pc := 34) H d0_34 rfl ?_
    refine k_icmpT 43 (pc := 35) H d0_35 rfl (XT.ii_le_t (by rw [Int32.lt_iff_toInt_lt, hm]; decide)) ?_
    refine k_lconst (0 : Int64) (pc := 43) H d0_43 rfl ?_
    refine k_lstore (pc := 44) H d0_44 (Ls' := #[.val (.int n), .val (.int a), .val (.int b), .val (.int c), .val (.int sz), .val (.ref xs), .val (.long (0 : Int64)), .second, .unset]) rfl ?_
    refine k_iload (pc := 46) H d0_46 rfl ?_
    refine k_ifF (pc := 48) H d0_48 (XT.i0_le_f (by rw [Int32.lt_iff_toInt_lt, hm]; decide)) ?_
    refine k_lload (pc := 51) H d0_51 rfl ?_
    refine k_iloadN (pc := 53) H d0_53 rfl ?_
    refine k_i2l (pc := 54) H d0_54 ?_
    refine k_ladd (pc := 55) H d0_55 ?_
    refine k_lstore (pc := 56) H d0_56 (Ls' := #[.val (.int n), .val (.int a), .val (.int b), .val (.int c), .val (.int sz), .val (.ref xs), .val (.long ((0 : Int64) + a.toInt64)), .second, .unset]) rfl ?_
    refine k_iload (pc := 58) H d0_58 rfl ?_
    refine k_iconst (1 : Int32) (pc := 60) H d0_60 rfl ?_
    refine k_icmpT 71 (pc := 61) H d0_61 rfl (XT.ii_le_t (by rw [Int32.lt_iff_toInt_lt, hm]; decide)) ?_
    refine k_iload (pc := 71) H d0_71 rfl ?_
    refine k_iconst (2 : Int32) (pc := 73) H d0_73 rfl ?_
    refine k_icmpT 84 (pc := 74) H d0_74 rfl (XT.ii_le_t (by rw [Int32.lt_iff_toInt_lt, hm]; decide)) ?_
    refine k_newObj (pc := 84) H (wd hw 1 rfl) (wd hw 2 rfl) (wd hw 3 rfl) d0_84 (by decide) (by decide) ?_
    intro h44 s ea45 ge46 E47 X48 D49
    have ne50 : xs ≠ s := Nat.ne_of_lt (by rw [ea45]; exact f43.lt)
    have f51 : Exa Z h44 xs "[I" := Jvm.RoadKit.Exa.ext E47 f43
    have f52 : IA Z h44 xs ((List.replicate (1) 0).set 0 a) := V42.ext E47
    have f53 : Fld Z h44 s "mandate/Counters$State" "counters" "[I" .null := D49 (Or.inr (wd hw 11 rfl)) (ty := (.array .int)) (by decide)
    have f54 : Fld Z h44 s "mandate/Counters$State" "hash" "I" (.int (0 : Int32)) := D49 (Or.inr (wd hw 17 rfl)) (ty := .int) (by decide)
    refine k_dup (pc := 87) H d0_87 rfl ?_
    refine k_aload (pc := 88) H d0_88 rfl rfl ?_
    refine k_invI (y := (⟨"mandate/Counters$State", "<init>", "([I)V"⟩ : MethodName)) (st := [(.ref s)]) (a := s) [(.ref xs)] 1 (pc := 90) H rfl (wd hw 4 rfl) (wd hw 5 rfl) (wd hw 3 rfl) (wd hw 6 rfl) (by decide) (fun z0 => rm1 l Z a0 hw n0 h44 z0 s xs _ ge46 (Ne.symm ne50) X48 f53 f54 f52 f51 (by simp)) (lenOf pd_3 rfl) d0_90 rfl rfl rfl (by decide) (by decide) (by decide) (by decide) ?_
    rintro v hA ⟨rfl, K, E1, G1, V1⟩
    show W l room_1 C _ hA 2 3 93 #[.val (.int n), .val (.int a), .val (.int b), .val (.int c), .val (.int sz), .val (.ref xs), .val (.long ((0 : Int64) + a.toInt64)), .second, .unset] [(.ref s)]
    refine k_astore (pc := 93) H d0_93 rfl (Ls' := #[.val (.int n), .val (.int a), .val (.int b), .val (.int c), .val (.int sz), .val (.ref xs), .val (.long ((0 : Int64) + a.toInt64)), .second, .val (.ref s)]) rfl ?_
    refine k_aload (pc := 95) H d0_95 rfl rfl ?_
    refine k_invV (y := (⟨"mandate/Counters$State", "sum", "()J"⟩ : MethodName)) (st := []) (a := s) [] 0 (pc := 97) H (wd hw 18 rfl) (wd hw 19 rfl) (wd hw 21 rfl) (wd hw 20 rfl) (wd hw 3 rfl) (wd hw 22 rfl) rfl (by decide) E1 (fun z0 => rm4 l Z a0 hw n0 hA z0 s xs _ G1 V1 (by simp)) (lenOf pd_4 rfl) d0_97 rfl rfl rfl (by decide) (by decide) (by decide) (by decide) ?_
    rintro v hx ⟨rfl, ex⟩
    rw [ex]
    clear ex hx
    show W l room_1 C _ hA 2 3 100 #[.val (.int n), .val (.int a), .val (.int b), .val (.int c), .val (.int sz), .val (.ref xs), .val (.long ((0 : Int64) + a.toInt64)), .second, .val (.ref s)] [(.long (own_sm ((List.replicate (1) 0).set 0 a) 0 ((List.replicate (1) 0).set 0 a).length 0))]
    refine k_lload (pc := 100) H d0_100 rfl ?_
    refine k_lcmp (pc := 102) H d0_102 ?_
    refine k_ifF (pc := 103) H d0_103 (XT.ll_ne_f (by simp [own_sm, List.replicate])) ?_
    refine k_iconst (1 : Int32) (pc := 106) H d0_106 rfl ?_
    refine k_goto 111 (pc := 107) H d0_107 rfl ?_
    exact k_retN' (t := .boolean) (by simp) (pc := 111) H d0_111 (by show 2 ≤ 16; decide) (by show 3 ≤ 128; decide) (rfl)
  · refine k_new_int (2) 2 (pc := 7) H (wd hw 0 rfl) d0_7 (hm) (by decide) (by decide) (by decide) (by decide) ?_
    intro h56 xs ea57 ge58 E59 XA55 V60
    refine k_astore (pc := 9) H d0_9 rfl (Ls' := #[.val (.int n), .val (.int a), .val (.int b), .val (.int c), .val (.int sz), .val (.ref xs), .unset, .unset, .unset]) rfl ?_
    refine k_iload (pc := 11) H d0_11 rfl ?_
    refine k_ifF (pc := 13) H d0_13 (XT.i0_le_f (by rw [Int32.lt_iff_toInt_lt, hm]; decide)) ?_
    refine k_aload (pc := 16) H d0_16 rfl rfl ?_
    refine k_iconst (0 : Int32) (pc := 18) H d0_18 rfl ?_
    refine k_iloadN (pc := 19) H d0_19 rfl ?_
    refine k_iastoreT (i := 0) (pc := 20) H V60 (by decide) (by simp) ge58 d0_20 ?_
    intro h61 K62 V63
    have f64 : Exa Z h61 xs "[I" := XA55.keep K62
    refine k_iload (pc := 21) H d0_21 rfl ?_
    refine k_iconst (1 : Int32) (pc := 23) H d0_23 rfl ?_
    refine k_icmpF (pc := 24) H d0_24 (XT.ii_le_f (by rw [Int32.lt_iff_toInt_lt, hm]; decide)) ?_
    refine k_aload (pc := 27) H d0_27 rfl rfl ?_
    refine k_iconst (1 : Int32) (pc := 29) H d0_29 rfl ?_
    refine k_iloadN (pc := 30) H d0_30 rfl ?_
    refine k_iastoreT (i := 1) (pc := 31) H V63 (by decide) (by simp) ge58 d0_31 ?_
    intro h65 K66 V67
    have f68 : Exa Z h65 xs "[I" := f64.keep K66
    refine k_iload (pc := 32) H d0_32 rfl ?_
    refine k_iconst (2 : Int32) (pc := 34) H d0_34 rfl ?_
    refine k_icmpT 43 (pc := 35) H d0_35 rfl (XT.ii_le_t (by rw [Int32.lt_iff_toInt_lt, hm]; decide)) ?_
    refine k_lconst (0 : Int64) (pc := 43) H d0_43 rfl ?_
    refine k_lstore (pc := 44) H d0_44 (Ls' := #[.val (.int n), .val (.int a), .val (.int b), .val (.int c), .val (.int sz), .val (.ref xs), .val (.long (0 : Int64)), .second, .unset]) rfl ?_
    refine k_iload (pc := 46) H d0_46 rfl ?_
    refine k_ifF (pc := 48) H d0_48 (XT.i0_le_f (by rw [Int32.lt_iff_toInt_lt, hm]; decide)) ?_
    refine k_lload (pc := 51) H d0_51 rfl ?_
    refine k_iloadN (pc := 53) H d0_53 rfl ?_
    refine k_i2l (pc := 54) H d0_54 ?_
    refine k_ladd (pc := 55) H d0_55 ?_
    refine k_lstore (pc := 56) H d0_56 (Ls' := #[.val (.int n), .val (.int a), .val (.int b), .val (.int c), .val (.int sz), .val (.ref xs), .val (.long ((0 : Int64) + a.toInt64)), .second, .unset]) rfl ?_
    refine k_iload (pc := 58) H d0_58 rfl ?_
    refine k_iconst (1 : Int32) (pc := 60) H d0_60 rfl ?_
    refine k_icmpF (pc := 61) H d0_61 (XT.ii_le_f (by rw [Int32.lt_iff_toInt_lt, hm]; decide)) ?_
    refine k_lload (pc := 64) H d0_64 rfl ?_
    refine k_iloadN (pc := 66) H d0_66 rfl ?_
    refine k_i2l (pc := 67) H d0_67 ?_
    refine k_ladd (pc := 68) H d0_68 ?_
    refine k_lstore (pc := 69) H d0_69 (Ls' := #[.val (.int n), .val (.int a), .val (.int b), .val (.int c), .val (.int sz), .val (.ref xs), .val (.long (((0 : Int64) + a.toInt64) + b.toInt64)), .second, .unset]) rfl ?_
    refine k_iload (pc := 71) H d0_71 rfl ?_
    refine k_iconst (2 : Int32) (pc := 73) H d0_73 rfl ?_
    refine k_icmpT 84 (pc := 74) H d0_74 rfl (XT.ii_le_t (by rw [Int32.lt_iff_toInt_lt, hm]; decide)) ?_
    refine k_newObj (pc := 84) H (wd hw 1 rfl) (wd hw 2 rfl) (wd hw 3 rfl) d0_84 (by decide) (by decide) ?_
    intro h69 s ea70 ge71 E72 X73 D74
    have ne75 : xs ≠ s := Nat.ne_of_lt (by rw [ea70]; exact f68.lt)
    have f76 : Exa Z h69 xs "[I" := Jvm.RoadKit.Exa.ext E72 f68
    have f77 : IA Z h69 xs (((List.replicate (2) 0).set 0 a).set 1 b) := V67.ext E72
    have f78 : Fld Z h69 s "mandate/Counters$State" "counters" "[I" .null := D74 (Or.inr (wd hw 11 rfl)) (ty := (.array .int)) (by decide)
    have f79 : Fld Z h69 s "mandate/Counters$State" "hash" "I" (.int (0 : Int32)) := D74 (Or.inr (wd hw 17 rfl)) (ty := .int) (by decide)
    refine k_dup (pc := 87) H d0_87 rfl ?_
    refine k_aload (pc := 88) H d0_88 rfl rfl ?_
    refine k_invI (y := (⟨"mandate/Counters$State", "<init>", "([I)V"⟩ : MethodName)) (st := [(.ref s)]) (a := s) [(.ref xs)] 1 (pc := 90) H rfl (wd hw 4 rfl) (wd hw 5 rfl) (wd hw 3 rfl) (wd hw 6 rfl) (by decide) (fun z0 => rm1 l Z a0 hw n0 h69 z0 s xs _ ge71 (Ne.symm ne75) X73 f78 f79 f77 f76 (by simp)) (lenOf pd_3 rfl) d0_90 rfl rfl rfl (by decide) (by decide) (by decide) (by decide) ?_
    rintro v hA ⟨rfl, K, E1, G1, V1⟩
    show W l room_1 C _ hA 2 4 93 #[.val (.int n), .val (.int a), .val (.int b), .val (.int c), .val (.int sz), .val (.ref xs), .val (.long (((0 : Int64) + a.toInt64) + b.toInt64)), .second, .unset] [(.ref s)]
    refine k_astore (pc := 93) H d0_93 rfl (Ls' := #[.val (.int n), .val (.int a), .val (.int b), .val (.int c), .val (.int sz), .val (.ref xs), .val (.long (((0 : Int64) + a.toInt64) + b.toInt64)), .second, .val (.ref s)]) rfl ?_
    refine k_aload (pc := 95) H d0_95 rfl rfl ?_
    refine k_invV (y := (⟨"mandate/Counters$State", "sum", "()J"⟩ : MethodName)) (st := []) (a := s) [] 0 (pc := 97) H (wd hw 18 rfl) (wd hw 19 rfl) (wd hw 21 rfl) (wd hw 20 rfl) (wd hw 3 rfl) (wd hw 22 rfl) rfl (by decide) E1 (fun z0 => rm4 l Z a0 hw n0 hA z0 s xs _ G1 V1 (by simp)) (lenOf pd_4 rfl) d0_97 rfl rfl rfl (by decide) (by decide) (by decide) (by decide) ?_
    rintro v hx ⟨rfl, ex⟩
    rw [ex]
    clear ex hx
    show W l room_1 C _ hA 2 4 100 #[.val (.int n), .val (.int a), .val (.int b), .val (.int c), .val (.int sz), .val (.ref xs), .val (.long (((0 : Int64) + a.toInt64) + b.toInt64)), .second, .val (.ref s)] [(.long (own_sm (((List.replicate (2) 0).set 0 a).set 1 b) 0 (((List.replicate (2) 0).set 0 a).set 1 b).length 0))]
    refine k_lload (pc := 100) H d0_100 rfl ?_
    refine k_lcmp (pc := 102) H d0_102 ?_
    refine k_ifF (pc := 103) H d0_103 (XT.ll_ne_f (by simp [own_sm, List.replicate])) ?_
    refine k_iconst (1 : Int32) (pc := 106) H d0_106 rfl ?_
    refine k_goto 111 (pc := 107) H d0_107 rfl ?_
    exact k_retN' (t := .boolean) (by simp) (pc := 111) H d0_111 (by show 2 ≤ 16; decide) (by show 4 ≤ 128; decide) (rfl)
  · refine k_new_int (3) 3 (pc := 7) H (wd hw 0 rfl) d0_7 (hm) (by decide) (by decide) (by decide) (by decide) ?_
    intro h81 xs ea82 ge83 E84 XA80 V85
    refine k_astore (pc := 9) H d0_9 rfl (Ls' := #[.val (.int n), .val (.int a), .val (.int b), .val (.int c), .val (.int sz), .val (.ref xs), .unset, .unset, .unset]) rfl ?_
    refine k_iload (pc := 11) H d0_11 rfl ?_
    refine k_ifF (pc := 13) H d0_13 (XT.i0_le_f (by rw [Int32.lt_iff_toInt_lt, hm]; decide)) ?_
    refine k_aload (pc := 16) H d0_16 rfl rfl ?_
    refine k_iconst (0 : Int32) (pc := 18) H d0_18 rfl ?_
    refine k_iloadN (pc := 19) H d0_19 rfl ?_
    refine k_iastoreT (i := 0) (pc := 20) H V85 (by decide) (by simp) ge83 d0_20 ?_
    intro h86 K87 V88
    have f89 : Exa Z h86 xs "[I" := XA80.keep K87
    refine k_iload (pc := 21) H d0_21 rfl ?_
    refine k_iconst (1 : Int32) (pc := 23) H d0_23 rfl ?_
    refine k_icmpF (pc := 24) H d0_24 (XT.ii_le_f (by rw [Int32.lt_iff_toInt_lt, hm]; decide)) ?_
    refine k_aload (pc := 27) H d0_27 rfl rfl ?_
    refine k_iconst (1 : Int32) (pc := 29) H d0_29 rfl ?_
    refine k_iloadN (pc := 30) H d0_30 rfl ?_
    refine k_iastoreT (i := 1) (pc := 31) H V88 (by decide) (by simp) ge83 d0_31 ?_
    intro h90 K91 V92
    have f93 : Exa Z h90 xs "[I" := f89.keep K91
    refine k_iload (pc := 32) H d0_32 rfl ?_
    refine k_iconst (2 : Int32) (pc := 34) H d0_34 rfl ?_
    refine k_icmpF (pc := 35) H d0_35 (XT.ii_le_f (by rw [Int32.lt_iff_toInt_lt, hm]; decide)) ?_
    refine k_aload (pc := 38) H d0_38 rfl rfl ?_
    refine k_iconst (2 : Int32) (pc := 40) H d0_40 rfl ?_
    refine k_iloadN (pc := 41) H d0_41 rfl ?_
    refine k_iastoreT (i := 2) (pc := 42) H V92 (by decide) (by simp) ge83 d0_42 ?_
    intro h94 K95 V96
    have f97 : Exa Z h94 xs "[I" := f93.keep K95
    refine k_lconst (0 : Int64) (pc := 43) H d0_43 rfl ?_
    refine k_lstore (pc := 44) H d0_44 (Ls' := #[.val (.int n), .val (.int a), .val (.int b), .val (.int c), .val (.int sz), .val (.ref xs), .val (.long (0 : Int64)), .second, .unset]) rfl ?_
    refine k_iload (pc := 46) H d0_46 rfl ?_
    refine k_ifF (pc := 48) H d0_48 (XT.i0_le_f (by rw [Int32.lt_iff_toInt_lt, hm]; decide)) ?_
    refine k_lload (pc := 51) H d0_51 rfl ?_
    refine k_iloadN (pc := 53) H d0_53 rfl ?_
    refine k_i2l (pc := 54) H d0_54 ?_
    refine k_ladd (pc := 55) H d0_55 ?_
    refine k_lstore (pc := 56) H d0_56 (Ls' := #[.val (.int n), .val (.int a), .val (.int b), .val (.int c), .val (.int sz), .val (.ref xs), .val (.long ((0 : Int64) + a.toInt64)), .second, .unset]) rfl ?_
    refine k_iload (pc := 58) H d0_58 rfl ?_
    refine k_iconst (1 : Int32) (pc := 60) H d0_60 rfl ?_
    refine k_icmpF (pc := 61) H d0_61 (XT.ii_le_f (by rw [Int32.lt_iff_toInt_lt, hm]; decide)) ?_
    refine k_lload (pc := 64) H d0_64 rfl ?_
    refine k_iloadN (pc := 66) H d0_66 rfl ?_
    refine k_i2l (pc := 67) H d0_67 ?_
    refine k_ladd (pc := 68) H d0_68 ?_
    refine k_lstore (pc := 69) H d0_69 (Ls' := #[.val (.int n), .val (.int a), .val (.int b), .val (.int c), .val (.int sz), .val (.ref xs), .val (.long (((0 : Int64) + a.toInt64) + b.toInt64)), .second, .unset]) rfl ?_
    refine k_iload (pc := 71) H d0_71 rfl ?_
    refine k_iconst (2 : Int32) (pc := 73) H d0_73 rfl ?_
    refine k_icmpF (pc := 74) H d0_74 (XT.ii_le_f (by rw [Int32.lt_iff_toInt_lt, hm]; decide)) ?_
    refine k_lload (pc := 77) H d0_77 rfl ?_
    refine k_iloadN (pc := 79) H d0_79 rfl ?_
    refine k_i2l (pc := 80) H d0_80 ?_
    refine k_ladd (pc := 81) H d0_81 ?_
    refine k_lstore (pc := 82) H d0_82 (Ls' := #[.val (.int n), .val (.int a), .val (.int b), .val (.int c), .val (.int sz), .val (.ref xs), .val (.long ((((0 : Int64) + a.toInt64) + b.toInt64) + c.toInt64)), .second, .unset]) rfl ?_
    refine k_newObj (pc := 84) H (wd hw 1 rfl) (wd hw 2 rfl) (wd hw 3 rfl) d0_84 (by decide) (by decide) ?_
    intro h98 s ea99 ge100 E101 X102 D103
    have ne104 : xs ≠ s := Nat.ne_of_lt (by rw [ea99]; exact f97.lt)
    have f105 : Exa Z h98 xs "[I" := Jvm.RoadKit.Exa.ext E101 f97
    have f106 : IA Z h98 xs ((((List.replicate (3) 0).set 0 a).set 1 b).set 2 c) := V96.ext E101
    have f107 : Fld Z h98 s "mandate/Counters$State" "counters" "[I" .null := D103 (Or.inr (wd hw 11 rfl)) (ty := (.array .int)) (by decide)
    have f108 : Fld Z h98 s "mandate/Counters$State" "hash" "I" (.int (0 : Int32)) := D103 (Or.inr (wd hw 17 rfl)) (ty := .int) (by decide)
    refine k_dup (pc := 87) H d0_87 rfl ?_
    refine k_aload (pc := 88) H d0_88 rfl rfl ?_
    refine k_invI (y := (⟨"mandate/Counters$State", "<init>", "([I)V"⟩ : MethodName)) (st := [(.ref s)]) (a := s) [(.ref xs)] 1 (pc := 90) H rfl (wd hw 4 rfl) (wd hw 5 rfl) (wd hw 3 rfl) (wd hw 6 rfl) (by decide) (fun z0 => rm1 l Z a0 hw n0 h98 z0 s xs _ ge100 (Ne.symm ne104) X102 f107 f108 f106 f105 (by simp)) (lenOf pd_3 rfl) d0_90 rfl rfl rfl (by decide) (by decide) (by decide) (by decide) ?_
    rintro v hA ⟨rfl, K, E1, G1, V1⟩
    show W l room_1 C _ hA 2 5 93 #[.val (.int n), .val (.int a), .val (.int b), .val (.int c), .val (.int sz), .val (.ref xs), .val (.long ((((0 : Int64) + a.toInt64) + b.toInt64) + c.toInt64)), .second, .unset] [(.ref s)]
    refine k_astore (pc := 93) H d0_93 rfl (Ls' := #[.val (.int n), .val (.int a), .val (.int b), .val (.int c), .val (.int sz), .val (.ref xs), .val (.long ((((0 : Int64) + a.toInt64) + b.toInt64) + c.toInt64)), .second, .val (.ref s)]) rfl ?_
    refine k_aload (pc := 95) H d0_95 rfl rfl ?_
    refine k_invV (y := (⟨"mandate/Counters$State", "sum", "()J"⟩ : MethodName)) (st := []) (a := s) [] 0 (pc := 97) H (wd hw 18 rfl) (wd hw 19 rfl) (wd hw 21 rfl) (wd hw 20 rfl) (wd hw 3 rfl) (wd hw 22 rfl) rfl (by decide) E1 (fun z0 => rm4 l Z a0 hw n0 hA z0 s xs _ G1 V1 (by simp)) (lenOf pd_4 rfl) d0_97 rfl rfl rfl (by decide) (by decide) (by decide) (by decide) ?_
    rintro v hx ⟨rfl, ex⟩
    rw [ex]
    clear ex hx
    show W l room_1 C _ hA 2 5 100 #[.val (.int n), .val (.int a), .val (.int b), .val (.int c), .val (.int sz), .val (.ref xs), .val (.long ((((0 : Int64) + a.toInt64) + b.toInt64) + c.toInt64)), .second, .val (.ref s)] [(.long (own_sm ((((List.replicate (3) 0).set 0 a).set 1 b).set 2 c) 0 ((((List.replicate (3) 0).set 0 a).set 1 b).set 2 c).length 0))]
    refine k_lload (pc := 100) H d0_100 rfl ?_
    refine k_lcmp (pc := 102) H d0_102 ?_
    refine k_ifF (pc := 103) H d0_103 (XT.ll_ne_f (by simp [own_sm, List.replicate])) ?_
    refine k_iconst (1 : Int32) (pc := 106) H d0_106 rfl ?_
    refine k_goto 111 (pc := 107) H d0_107 rfl ?_
    exact k_retN' (t := .boolean) (by simp) (pc := 111) H d0_111 (by show 2 ≤ 16; decide) (by show 5 ≤ 128; decide) (rfl)
set_option maxRecDepth 65536 in
set_option maxHeartbeats 40000000 in
theorem comes_1 {Post : Tables → Env → Array Value → State → Outcome → State → Prop} (hpost : ∀ tb e args s v u, (limb_1_1.after args s (.returned v) u = true ∧ limb_1_2.after args s (.returned v) u = true ∧ True) → FrameEnd s (.returned v) u (Jvm.fieldLocs frame_1_writes args s ++ Jvm.arrayLocs frame_1_arrays args s ++ Jvm.staticLocs frame_1_statics s) 16 128 → Post tb e args s (.returned v) u) :
    ArmFor flags0 classFile x code maxLocals ret World_1 tables_1 room_1 Calls_1 rest_1 Pre_1 Post := by
  intro l hfl _ _ p e ha hc hk s m args below hf hA hF happ hP
  obtain ⟨hcalls, hrest, hpre⟩ := hP
  obtain ⟨-, -, -, hnamed, -, -, -, hat⟩ := (Spec.applies_iff hf).mp happ
  obtain ⟨hg, hn⟩ := and_e (Cond.before_iff.mp (show (Jvm.Cond.and given_1 narrow_1).before args s = true from hpre))
  obtain ⟨hcnt, g0⟩ := and_e hg
  obtain ⟨q0, g1⟩ := and_e g0
  obtain ⟨q1, g2⟩ := and_e g1
  obtain ⟨q2, g3⟩ := and_e g2
  obtain ⟨w0, w1, w2, w3, rfl⟩ : ∃ w0 w1 w2 w3 : Value, args = #[w0, w1, w2, w3] := by
    have hs : args.size = 4 := by simpa [Cond.value, given_1] using hcnt
    obtain ⟨L⟩ := args
    match L, hs with
    | [w0, w1, w2, w3], _ => exact ⟨w0, w1, w2, w3, rfl⟩
  have hw := fun d (hd : d ∈ tables_1) => atoms_spec (ws := Jvm.Cond.code x code maxLocals ret :: tables_1) hat d (List.mem_cons_of_mem _ hd)
  obtain ⟨i0, e0⟩ := is_v q0
  obtain rfl : w0 = (.int i0) := Option.some.inj e0
  obtain ⟨i1, e1⟩ := is_v q1
  obtain rfl : w1 = (.int i1) := Option.some.inj e1
  obtain ⟨i2, e2⟩ := is_v q2
  obtain rfl : w2 = (.int i2) := Option.some.inj e2
  obtain ⟨i3, e3⟩ := is_v g3
  obtain rfl : w3 = (.int i3) := Option.some.inj e3
  obtain ⟨n, o, h1, h2, h3, _, L, rfl, ⟨rfl, N⟩, hq⟩ := rm0 l s _ hw tables_1 s.heap.size s.heap (Nat.le_refl _) i0 i1 i2 i3  p e ha hc hk s m _ below hf ((Spec.applies_iff_loose hf).mp happ).1 ⟨rfl, State.Warmed39.refl s, rfl⟩ trivial
  refine ⟨n, _, h1, h2, h3, hpost _ _ _ _ _ _ ⟨Cond.after_iff.mpr rfl, Cond.after_iff.mpr (eq_i res_at (Term.int_eval (1)) rfl), trivial⟩ ⟨hq.1, hq.2.1, (hq.2.2.sift fun y hy => Or.inr (N y hy)).mono (by decide) (by decide)⟩⟩
theorem main_1_1 : Claimed_1_1 := comes_1 fun _ _ _ _ _ _ h hF => ⟨h.1, hF⟩
theorem main_1_2 : Claimed_1_2 := comes_1 fun _ _ _ _ _ _ h hF => ⟨h.2.1, hF⟩
end Jvm.Pilot.@@N@@
namespace Jvm.Pilot.@@N@@
open Jvm Jvm.ClassFile Sem Op Lib Jvm.Free Jvm.Stand Jvm.Pilot.@@N@@.Jvm.D
/-! MADE BY PROGRAM (witnessworld.py) out of the Statement's table words and the real class files: 11 classes; the members and pool entries that the words name. The judged class is class 1, her method 1. -/
namespace start1
open Jvm.ClassFile
def u (s : String) : CpInfo := .utf8 (stringToUtf16 s)
/-- a pool by its gaps: so many unusable entries, then the entry; so many at the end -/
def gap : Nat → List CpInfo → List CpInfo
  | 0, r => r
  | n + 1, r => .unusable :: gap n r
def poolList (es : List (Nat × CpInfo)) (last : Nat) : List CpInfo := es.foldr (fun e r => gap e.1 (e.2 :: r)) (gap last [])
def pool (es : List (Nat × CpInfo)) (last : Nat) : Array CpInfo := ⟨poolList es last⟩
def fileOf (pool : Array CpInfo) (this : Nat) (attrs : Array Attribute := #[]) (ms : Array MethodInfo := #[]) (fl : Nat := 33) (sup : Nat := 0) (ifs : Array Nat := #[]) (fds : Array FieldInfo := #[]) : ClassFile where
  minorVersion := 0
  majorVersion := 65
  constantPool := pool
  accessFlags := fl
  thisClass := this
  superClass := sup
  interfaces := ifs
  fields := fds
  methods := ms
  attributes := attrs
def plain (name : String) (sup : Option ClassId) : Class where
  name := name
  kind := .ordinary
  loader := none
  accessFlags := 33
  super := sup
  interfaces := #[]
  cf := none
  fields := #[]
  methods := #[]
  instanceTypes := #[]
  staticTypes := #[]
  resolved := #[]
  callSites := []
  init := .initialized
  statics := none
  mirror := none

def pool0 : Array CpInfo := pool [(5, u "<init>"), (0, u "()V"), (1, .class_ 10), (1, u "java/lang/Object")] 113

def k0c0 : Code := { maxStack := 0, maxLocals := 1, code := object_method_1_code, exceptionTable := #[], attributes := #[] }
def k0m0 : Method := { name := "<init>", desc := "()V", sig := { parameters := [], returnType := none }, accessFlags := 1, code := some k0c0 }
/-- java/lang/Object -/
def k0 : Class := { plain "java/lang/Object" none with
  accessFlags := 33
  interfaces := #[]
  cf := some (fileOf pool0 8 #[] #[{ accessFlags := 1, nameIndex := 5, descriptorIndex := 6, attributes := #[] }] 33 0 #[] #[])
  fields := #[]
  methods := #[k0m0]
  instanceTypes := #[]
  staticTypes := #[]
  resolved := Array.replicate 124 none
  statics := none }

def pool1 : Array CpInfo := pool [(2, .class_ 4), (1, u "java/lang/Object"), (0, u "<init>"), (0, u "()V"), (0, .class_ 8), (0, u "mandate/Counters$State"), (0, .methodref 7 10), (0, .nameAndType 5 11), (0, u "([I)V"), (0, .methodref 7 13), (0, .nameAndType 14 15), (0, u "sum"), (0, u "()J"), (0, .class_ 17), (0, u "mandate/StateSumPinLaw"), (2, u "law"), (0, u "(IIII)Z")] 9

def k1m0 : Method := { name := "<init>", desc := "()V", sig := { parameters := [], returnType := none }, accessFlags := 1, code := none }
def k1c1 : Code := { maxStack := 4, maxLocals := 9, code := code, exceptionTable := #[], attributes := #[] }
def k1m1 : Method := { name := "law", desc := "(IIII)Z", sig := { parameters := [.int, .int, .int, .int], returnType := some .boolean }, accessFlags := 9, code := some k1c1 }
/-- mandate/StateSumPinLaw -/
def k1 : Class := { plain "mandate/StateSumPinLaw" (some 0) with
  accessFlags := 49
  interfaces := #[]
  cf := some (fileOf pool1 16 #[] #[{ accessFlags := 1, nameIndex := 5, descriptorIndex := 6, attributes := #[] }, { accessFlags := 9, nameIndex := 20, descriptorIndex := 21, attributes := #[] }] 49 2 #[] #[])
  fields := #[]
  methods := #[k1m0, k1m1]
  instanceTypes := #[]
  staticTypes := #[]
  resolved := Array.replicate 31 none
  statics := none }

def pool2 : Array CpInfo := pool [(1, .methodref 2 3), (0, .class_ 4), (0, .nameAndType 5 6), (0, u "java/lang/Object"), (0, u "<init>"), (0, u "()V"), (0, .fieldref 8 9), (0, .class_ 10), (0, .nameAndType 11 12), (0, u "mandate/Counters$State"), (0, u "counters"), (0, u "[I"), (0, .methodref 14 15), (0, .class_ 16), (0, .nameAndType 17 18), (0, u "java/util/Arrays"), (0, u "hashCode"), (0, u "([I)I"), (0, .fieldref 8 20), (0, .nameAndType 21 22), (0, u "hash"), (0, u "I"), (8, u "([I)V"), (6, u "sum"), (0, u "()J"), (6, .class_ 47), (0, u "mandate/Counters")] 2

def k2c0 : Code := { maxStack := 2, maxLocals := 2, code := prog_35_method_1_code, exceptionTable := #[], attributes := #[] }
def k2m0 : Method := { name := "<init>", desc := "([I)V", sig := { parameters := [(.array .int)], returnType := none }, accessFlags := 0, code := some k2c0 }
def k2c1 : Code := { maxStack := 4, maxLocals := 7, code := prog_35_method_3_code, exceptionTable := #[], attributes := #[] }
def k2m1 : Method := { name := "sum", desc := "()J", sig := { parameters := [], returnType := some .long }, accessFlags := 0, code := some k2c1 }
/-- mandate/Counters$State -/
def k2 : Class := { plain "mandate/Counters$State" (some 0) with
  accessFlags := 48
  interfaces := #[]
  cf := some (fileOf pool2 8 #[.nestHost 46] #[{ accessFlags := 0, nameIndex := 5, descriptorIndex := 31, attributes := #[] }, { accessFlags := 0, nameIndex := 38, descriptorIndex := 39, attributes := #[] }] 48 2 #[] #[{ accessFlags := 18, nameIndex := 11, descriptorIndex := 12, attributes := #[] }, { accessFlags := 18, nameIndex := 21, descriptorIndex := 22, attributes := #[] }])
  fields := #[{ name := "counters", type := (.array .int), accessFlags := 18, slot := 0, constantValue := 0 }, { name := "hash", type := .int, accessFlags := 18, slot := 1, constantValue := 0 }]
  methods := #[k2m0, k2m1]
  instanceTypes := #[(.array .int), .int]
  staticTypes := #[]
  resolved := Array.replicate 50 none
  statics := none }

def pool3 : Array CpInfo := pool [(2, .class_ 4), (1, u "java/lang/Object"), (0, u "<init>"), (0, u "()V"), (7, .class_ 16), (1, u "java/util/Arrays"), (57, .class_ 76), (1, u "java/util/Arrays$NaturalOrder"), (36, .class_ 115), (1, u "java/util/Arrays$LegacyMergeSort"), (1, u "Z"), (128, .class_ 248), (1, u "jdk/internal/util/ArraysSupport"), (126, .class_ 376), (0, u "java/util/Arrays$ArrayList"), (2, .methodref 246 380), (0, .nameAndType 381 382), (0, u "vectorizedHashCode"), (0, u "(Ljava/lang/Object;IIII)I"), (2, u "hashCode"), (22, u "([I)I"), (36, u "$assertionsDisabled"), (269, u "MIN_ARRAY_SORT_GRAN"), (0, u "I"), (2, u "INSERTIONSORT_THRESHOLD"), (255, .class_ 976), (0, u "java/util/Arrays$ArrayItr")] 52

def k3m0 : Method := { name := "<init>", desc := "()V", sig := { parameters := [], returnType := none }, accessFlags := 2, code := none }
def k3c1 : Code := { maxStack := 5, maxLocals := 1, code := jdk_65_method_150_code, exceptionTable := #[], attributes := #[] }
def k3m1 : Method := { name := "hashCode", desc := "([I)I", sig := { parameters := [(.array .int)], returnType := some .int }, accessFlags := 9, code := some k3c1 }
/-- java/util/Arrays -/
def k3 : Class := { plain "java/util/Arrays" (some 0) with
  accessFlags := 49
  interfaces := #[]
  cf := some (fileOf pool3 14 #[.nestMembers #[975, 375, 113, 74]] #[{ accessFlags := 2, nameIndex := 5, descriptorIndex := 6, attributes := #[] }, { accessFlags := 9, nameIndex := 385, descriptorIndex := 408, attributes := #[] }] 49 2 #[] #[{ accessFlags := 26, nameIndex := 715, descriptorIndex := 716, attributes := #[] }, { accessFlags := 26, nameIndex := 719, descriptorIndex := 716, attributes := #[] }, { accessFlags := 4120, nameIndex := 445, descriptorIndex := 117, attributes := #[] }])
  fields := #[{ name := "MIN_ARRAY_SORT_GRAN", type := .int, accessFlags := 26, slot := 0, constantValue := 0 }, { name := "INSERTIONSORT_THRESHOLD", type := .int, accessFlags := 26, slot := 1, constantValue := 0 }, { name := "$assertionsDisabled", type := .boolean, accessFlags := 4120, slot := 2, constantValue := 0 }]
  methods := #[k3m0, k3m1]
  instanceTypes := #[]
  staticTypes := #[.int, .int, .boolean]
  resolved := Array.replicate 1029 none
  statics := none }

def pool4 : Array CpInfo := pool [(9, u "<init>"), (6, .class_ 18), (1, u "java/lang/Object"), (0, u "()V"), (1, .class_ 23), (1, u "jdk/internal/util/ArraysSupport"), (0, u "LOG2_ARRAY_LONG_INDEX_SCALE"), (0, u "I"), (2, u "U"), (0, u "Ljdk/internal/misc/Unsafe;"), (8, u "BIG_ENDIAN"), (0, u "Z"), (8, u "LOG2_BYTE_BIT_SIZE"), (4, u "LOG2_ARRAY_INT_INDEX_SCALE"), (19, u "hashCode"), (8, .class_ 83), (0, u "[I"), (0, .methodref 21 85), (0, .nameAndType 73 86), (0, u "(I[III)I"), (21, u "JLA"), (0, u "Ljdk/internal/access/JavaLangAccess;"), (11, u "LOG2_ARRAY_BOOLEAN_INDEX_SCALE"), (9, u "LOG2_ARRAY_BYTE_INDEX_SCALE"), (5, u "LOG2_ARRAY_CHAR_INDEX_SCALE"), (5, u "LOG2_ARRAY_SHORT_INDEX_SCALE"), (18, u "LOG2_ARRAY_FLOAT_INDEX_SCALE"), (24, u "LOG2_ARRAY_DOUBLE_INDEX_SCALE"), (89, u "T_BOOLEAN"), (2, u "T_CHAR"), (1, u "T_FLOAT"), (1, u "T_DOUBLE"), (1, u "T_BYTE"), (1, u "T_SHORT"), (1, u "T_INT"), (1, u "T_LONG"), (1, u "SOFT_MAX_ARRAY_LENGTH"), (26, u "vectorizedHashCode"), (0, u "(Ljava/lang/Object;IIII)I")] 55

def k4m0 : Method := { name := "<init>", desc := "()V", sig := { parameters := [], returnType := none }, accessFlags := 2, code := none }
def k4c1 : Code := { maxStack := 4, maxLocals := 5, code := jdk_48_method_4_code, exceptionTable := #[], attributes := #[] }
def k4m1 : Method := { name := "vectorizedHashCode", desc := "(Ljava/lang/Object;IIII)I", sig := { parameters := [(.object "java/lang/Object"), .int, .int, .int, .int], returnType := some .int }, accessFlags := 9, code := some k4c1 }
def k4c2 : Code := { maxStack := 3, maxLocals := 6, code := jdk_48_method_9_code, exceptionTable := #[], attributes := #[] }
def k4m2 : Method := { name := "hashCode", desc := "(I[III)I", sig := { parameters := [.int, (.array .int), .int, .int], returnType := some .int }, accessFlags := 10, code := some k4c2 }
/-- jdk/internal/util/ArraysSupport -/
def k4 : Class := { plain "jdk/internal/util/ArraysSupport" (some 0) with
  accessFlags := 33
  interfaces := #[]
  cf := some (fileOf pool4 21 #[] #[{ accessFlags := 2, nameIndex := 9, descriptorIndex := 19, attributes := #[] }, { accessFlags := 9, nameIndex := 321, descriptorIndex := 322, attributes := #[] }, { accessFlags := 10, nameIndex := 73, descriptorIndex := 86, attributes := #[] }] 33 16 #[] #[{ accessFlags := 24, nameIndex := 28, descriptorIndex := 29, attributes := #[] }, { accessFlags := 26, nameIndex := 38, descriptorIndex := 39, attributes := #[] }, { accessFlags := 25, nameIndex := 121, descriptorIndex := 25, attributes := #[] }, { accessFlags := 25, nameIndex := 131, descriptorIndex := 25, attributes := #[] }, { accessFlags := 25, nameIndex := 137, descriptorIndex := 25, attributes := #[] }, { accessFlags := 25, nameIndex := 143, descriptorIndex := 25, attributes := #[] }, { accessFlags := 25, nameIndex := 53, descriptorIndex := 25, attributes := #[] }, { accessFlags := 25, nameIndex := 24, descriptorIndex := 25, attributes := #[] }, { accessFlags := 25, nameIndex := 162, descriptorIndex := 25, attributes := #[] }, { accessFlags := 25, nameIndex := 187, descriptorIndex := 25, attributes := #[] }, { accessFlags := 26, nameIndex := 48, descriptorIndex := 25, attributes := #[] }, { accessFlags := 25, nameIndex := 277, descriptorIndex := 25, attributes := #[] }, { accessFlags := 25, nameIndex := 280, descriptorIndex := 25, attributes := #[] }, { accessFlags := 25, nameIndex := 282, descriptorIndex := 25, attributes := #[] }, { accessFlags := 25, nameIndex := 284, descriptorIndex := 25, attributes := #[] }, { accessFlags := 25, nameIndex := 286, descriptorIndex := 25, attributes := #[] }, { accessFlags := 25, nameIndex := 288, descriptorIndex := 25, attributes := #[] }, { accessFlags := 25, nameIndex := 290, descriptorIndex := 25, attributes := #[] }, { accessFlags := 25, nameIndex := 292, descriptorIndex := 25, attributes := #[] }, { accessFlags := 26, nameIndex := 108, descriptorIndex := 109, attributes := #[] }, { accessFlags := 25, nameIndex := 294, descriptorIndex := 25, attributes := #[] }])
  fields := #[{ name := "U", type := (.object "jdk/internal/misc/Unsafe"), accessFlags := 24, slot := 0, constantValue := 0 }, { name := "BIG_ENDIAN", type := .boolean, accessFlags := 26, slot := 1, constantValue := 0 }, { name := "LOG2_ARRAY_BOOLEAN_INDEX_SCALE", type := .int, accessFlags := 25, slot := 2, constantValue := 0 }, { name := "LOG2_ARRAY_BYTE_INDEX_SCALE", type := .int, accessFlags := 25, slot := 3, constantValue := 0 }, { name := "LOG2_ARRAY_CHAR_INDEX_SCALE", type := .int, accessFlags := 25, slot := 4, constantValue := 0 }, { name := "LOG2_ARRAY_SHORT_INDEX_SCALE", type := .int, accessFlags := 25, slot := 5, constantValue := 0 }, { name := "LOG2_ARRAY_INT_INDEX_SCALE", type := .int, accessFlags := 25, slot := 6, constantValue := 0 }, { name := "LOG2_ARRAY_LONG_INDEX_SCALE", type := .int, accessFlags := 25, slot := 7, constantValue := 0 }, { name := "LOG2_ARRAY_FLOAT_INDEX_SCALE", type := .int, accessFlags := 25, slot := 8, constantValue := 0 }, { name := "LOG2_ARRAY_DOUBLE_INDEX_SCALE", type := .int, accessFlags := 25, slot := 9, constantValue := 0 }, { name := "LOG2_BYTE_BIT_SIZE", type := .int, accessFlags := 26, slot := 10, constantValue := 0 }, { name := "T_BOOLEAN", type := .int, accessFlags := 25, slot := 11, constantValue := 0 }, { name := "T_CHAR", type := .int, accessFlags := 25, slot := 12, constantValue := 0 }, { name := "T_FLOAT", type := .int, accessFlags := 25, slot := 13, constantValue := 0 }, { name := "T_DOUBLE", type := .int, accessFlags := 25, slot := 14, constantValue := 0 }, { name := "T_BYTE", type := .int, accessFlags := 25, slot := 15, constantValue := 0 }, { name := "T_SHORT", type := .int, accessFlags := 25, slot := 16, constantValue := 0 }, { name := "T_INT", type := .int, accessFlags := 25, slot := 17, constantValue := 0 }, { name := "T_LONG", type := .int, accessFlags := 25, slot := 18, constantValue := 0 }, { name := "JLA", type := (.object "jdk/internal/access/JavaLangAccess"), accessFlags := 26, slot := 19, constantValue := 0 }, { name := "SOFT_MAX_ARRAY_LENGTH", type := .int, accessFlags := 25, slot := 20, constantValue := 0 }]
  methods := #[k4m0, k4m1, k4m2]
  instanceTypes := #[]
  staticTypes := #[(.object "jdk/internal/misc/Unsafe"), .boolean, .int, .int, .int, .int, .int, .int, .int, .int, .int, .int, .int, .int, .int, .int, .int, .int, .int, (.object "jdk/internal/access/JavaLangAccess"), .int]
  resolved := Array.replicate 378 none
  statics := none }

def pool5 : Array CpInfo := pool [(1, u "java/lang/Cloneable"), (0, .class_ 1), (0, u "java/lang/Object"), (0, .class_ 3)] 3

/-- java/lang/Cloneable -/
def k5 : Class := { plain "java/lang/Cloneable" (some 0) with
  accessFlags := 1537
  interfaces := #[]
  cf := some (fileOf pool5 2 #[] #[] 1537 4 #[] #[])
  fields := #[]
  methods := #[]
  instanceTypes := #[]
  staticTypes := #[]
  resolved := Array.replicate 8 none
  statics := none }

def pool6 : Array CpInfo := pool [(1, u "java/io/Serializable"), (0, .class_ 1), (0, u "java/lang/Object"), (0, .class_ 3)] 3

/-- java/io/Serializable -/
def k6 : Class := { plain "java/io/Serializable" (some 0) with
  accessFlags := 1537
  interfaces := #[]
  cf := some (fileOf pool6 2 #[] #[] 1537 4 #[] #[])
  fields := #[]
  methods := #[]
  instanceTypes := #[]
  staticTypes := #[]
  resolved := Array.replicate 8 none
  statics := none }

/-- the primitive byte -/
def k7 : Class := { plain "byte" none with kind := .primitive 'B', accessFlags := 0x411 }
/-- [B -/
def k8 : Class := { plain "[B" (some 0) with kind := .array 7 .byte, interfaces := #[5, 6], accessFlags := 1041 }

/-- the primitive int -/
def k9 : Class := { plain "int" none with kind := .primitive 'I', accessFlags := 0x411 }
/-- [I -/
def k10 : Class := { plain "[I" (some 0) with kind := .array 9 .int, interfaces := #[5, 6], accessFlags := 1041 }

def heap : Heap := #[]
def classes : Array Class := #[k0, k1, k2, k3, k4, k5, k6, k7, k8, k9, k10]
def interned : List (Array UInt16 × Addr) := []
def slotsUsed : Nat := 0
def theMethod : MethodId := ⟨1, 1⟩
def args0 : Array Value := #[.int 3, .int 1, .int 2, .int 4]
def aboutOver (below : List Frame) : State where
  vm := { classes := classes, interned := interned.toArray }
  heap := heap
  slotsUsed := slotsUsed
  threads := #[{ frames := .invoking theMethod args0 :: below }]
def below0 : List Frame := [.native { method := ⟨0, 0⟩, args := #[] }]
def about1 : State := aboutOver below0
def p0 : Program := .bare "" "" ""
def e0 : Env := launch0.env 0 0 0
theorem w_frames : about1.frames = Frame.invoking theMethod args0 :: below0 := rfl
set_option maxRecDepth 65536 in
theorem w_args : argsFit about1.vm theMethod args0 = true := by decide +kernel
set_option maxRecDepth 65536 in
theorem w_heap : heapFits about1 = true := by decide +kernel
set_option maxRecDepth 65536 in
theorem w_runnable : about1.curStatus? = some .runnable := by decide +kernel
set_option maxRecDepth 65536 in
theorem w_alone : about1.alone = true := by decide +kernel
set_option maxRecDepth 65536 in
theorem w_named : about1.methodNamed? x = some theMethod := by decide +kernel
set_option maxRecDepth 65536 in
theorem w_hears : about1.hears theMethod below0 = true := by decide +kernel
set_option maxRecDepth 65536 in
theorem w_ripe : about1.ripe theMethod args0 below0 = true := by decide +kernel
theorem w_running : about1.status = .running := rfl
set_option maxRecDepth 65536 in
theorem w_room : about1.hasRoom e0.platform room_1 = true :=
  launch0.hasRoom_least _ room_1 (by decide +kernel) (by decide +kernel) (by decide +kernel) (by decide +kernel) (by decide +kernel) (by decide +kernel)
theorem allAtoms_all (ts : List Jvm.Cond) (a : Array Jvm.Value) (st : Jvm.State) : (allAtoms ts).before a st = ts.all (fun c => c.before a st) := by
  induction ts with
  | nil => rfl
  | cons c t ih =>
    show (Jvm.Cond.and c (allAtoms t)).before a st = _
    rw [Jvm.Cond.before_and, ih, List.all_cons]
def words1 : List Jvm.Cond := Jvm.Cond.code x code maxLocals ret :: tables_1
/-- a 'code' word, met by the world's own term for the bytes: nothing is compared byte by byte -/
theorem code_word {y : MethodName} {bytes : ByteArray} {mx : Nat} {rt : Option FieldType} {a : Array Value} {s : State} {m : MethodId} {meth : Method} {c : Code} (h1 : s.methodNamed? y = some m) (h2 : s.vm.method? m = some meth) (h3 : meth.code = some c) (h4 : c.code = bytes)
    (h5 : (c.maxLocals == mx && c.exceptionTable.isEmpty && decide (c.maxStack ≤ mostOperands) && decide (meth.sig.returnType = rt) && !meth.locks && decide (parseMethodDescriptor y.desc = some meth.sig)) = true) : (Jvm.Cond.code y bytes mx rt).before a s = true := by
  simp only [Bool.and_eq_true, beq_iff_eq, Bool.not_eq_true', decide_eq_true_eq] at h5
  obtain ⟨⟨⟨⟨⟨g1, g2⟩, g3⟩, g4⟩, g5⟩, g6⟩ := h5
  simp [Cond.before, Cond.holds, Cond.value, h1, h2, h3, h4, g1, g2, g3, g4, g5, g6]
def isCode : Jvm.Cond → Bool
  | .code _ _ _ _ => true
  | _ => false
theorem all_split {L : List Jvm.Cond} {P : Jvm.Cond → Bool} (h1 : L.all (fun c => isCode c || P c) = true) (h2 : ∀ c ∈ L.filter isCode, P c = true) : L.all P = true := by
  refine List.all_eq_true.mpr fun c hc => ?_
  have h := List.all_eq_true.mp h1 c hc
  rcases Bool.eq_false_or_eq_true (isCode c) with hi | hi
  · exact h2 c (List.mem_filter.mpr ⟨hc, hi⟩)
  · simpa [hi] using h
set_option maxRecDepth 65536 in
theorem w_c0 : (Jvm.Cond.code x code maxLocals ret).before args0 about1 = true := code_word (m := ⟨1, 1⟩) (meth := k1m1) (c := k1c1) (by decide +kernel) rfl rfl rfl (by decide +kernel)
set_option maxRecDepth 65536 in
theorem w_c1 : (Jvm.Cond.code ({ cls := "mandate/Counters$State", name := "<init>", desc := "([I)V" } : Jvm.MethodName) prog_35_method_1_code (2 : Nat) (Option.none : Option Jvm.ClassFile.FieldType)).before args0 about1 = true := code_word (m := ⟨2, 0⟩) (meth := k2m0) (c := k2c0) (by decide +kernel) rfl rfl rfl (by decide +kernel)
set_option maxRecDepth 65536 in
theorem w_c2 : (Jvm.Cond.code ({ cls := "java/lang/Object", name := "<init>", desc := "()V" } : Jvm.MethodName) object_method_1_code (1 : Nat) (Option.none : Option Jvm.ClassFile.FieldType)).before args0 about1 = true := code_word (m := ⟨0, 0⟩) (meth := k0m0) (c := k0c0) (by decide +kernel) rfl rfl rfl (by decide +kernel)
set_option maxRecDepth 65536 in
theorem w_c3 : (Jvm.Cond.code ({ cls := "java/util/Arrays", name := "hashCode", desc := "([I)I" } : Jvm.MethodName) jdk_65_method_150_code (1 : Nat) (Option.some Jvm.ClassFile.FieldType.int)).before args0 about1 = true := code_word (m := ⟨3, 1⟩) (meth := k3m1) (c := k3c1) (by decide +kernel) rfl rfl rfl (by decide +kernel)
set_option maxRecDepth 65536 in
theorem w_c4 : (Jvm.Cond.code ({ cls := "mandate/Counters$State", name := "sum", desc := "()J" } : Jvm.MethodName) prog_35_method_3_code (7 : Nat) (Option.some Jvm.ClassFile.FieldType.long)).before args0 about1 = true := code_word (m := ⟨2, 1⟩) (meth := k2m1) (c := k2c1) (by decide +kernel) rfl rfl rfl (by decide +kernel)
set_option maxRecDepth 65536 in
theorem w_c5 : (Jvm.Cond.code ({ cls := "jdk/internal/util/ArraysSupport", name := "vectorizedHashCode", desc := "(Ljava/lang/Object;IIII)I" } : Jvm.MethodName) jdk_48_method_4_code (5 : Nat) (Option.some Jvm.ClassFile.FieldType.int)).before args0 about1 = true := code_word (m := ⟨4, 1⟩) (meth := k4m1) (c := k4c1) (by decide +kernel) rfl rfl rfl (by decide +kernel)
set_option maxRecDepth 65536 in
theorem w_c6 : (Jvm.Cond.code ({ cls := "jdk/internal/util/ArraysSupport", name := "hashCode", desc := "(I[III)I" } : Jvm.MethodName) jdk_48_method_9_code (6 : Nat) (Option.some Jvm.ClassFile.FieldType.int)).before args0 about1 = true := code_word (m := ⟨4, 2⟩) (meth := k4m2) (c := k4c2) (by decide +kernel) rfl rfl rfl (by decide +kernel)
def codes1 : List Jvm.Cond := [Jvm.Cond.code x code maxLocals ret, Jvm.Cond.code ({ cls := "mandate/Counters$State", name := "<init>", desc := "([I)V" } : Jvm.MethodName) prog_35_method_1_code (2 : Nat) (Option.none : Option Jvm.ClassFile.FieldType), Jvm.Cond.code ({ cls := "java/lang/Object", name := "<init>", desc := "()V" } : Jvm.MethodName) object_method_1_code (1 : Nat) (Option.none : Option Jvm.ClassFile.FieldType), Jvm.Cond.code ({ cls := "java/util/Arrays", name := "hashCode", desc := "([I)I" } : Jvm.MethodName) jdk_65_method_150_code (1 : Nat) (Option.some Jvm.ClassFile.FieldType.int), Jvm.Cond.code ({ cls := "mandate/Counters$State", name := "sum", desc := "()J" } : Jvm.MethodName) prog_35_method_3_code (7 : Nat) (Option.some Jvm.ClassFile.FieldType.long), Jvm.Cond.code ({ cls := "jdk/internal/util/ArraysSupport", name := "vectorizedHashCode", desc := "(Ljava/lang/Object;IIII)I" } : Jvm.MethodName) jdk_48_method_4_code (5 : Nat) (Option.some Jvm.ClassFile.FieldType.int), Jvm.Cond.code ({ cls := "jdk/internal/util/ArraysSupport", name := "hashCode", desc := "(I[III)I" } : Jvm.MethodName) jdk_48_method_9_code (6 : Nat) (Option.some Jvm.ClassFile.FieldType.int)]
set_option maxRecDepth 65536 in
theorem codes_eq : words1.filter isCode = codes1 := rfl
theorem w_codes : ∀ c ∈ words1.filter isCode, c.before args0 about1 = true := by
  rw [codes_eq]
  intro c hc
  simp only [codes1, List.mem_cons, List.not_mem_nil, or_false] at hc
  rcases hc with rfl | rfl | rfl | rfl | rfl | rfl | rfl
  · exact w_c0
  · exact w_c1
  · exact w_c2
  · exact w_c3
  · exact w_c4
  · exact w_c5
  · exact w_c6
set_option maxRecDepth 65536 in
theorem w_t1 : (words1.take 24).all (fun c => isCode c || c.before args0 about1) = true := by decide +kernel
set_option maxRecDepth 65536 in
theorem w_t2 : (words1.drop 24).all (fun c => isCode c || c.before args0 about1) = true := by decide +kernel
theorem w_tables : (allAtoms (Jvm.Cond.code x code maxLocals ret :: tables_1)).before args0 about1 = true := by
  rw [allAtoms_all]
  show words1.all (fun c => c.before args0 about1) = true
  refine all_split ?_ w_codes
  rw [← List.take_append_drop 24 words1, List.all_append, w_t1, w_t2]
  rfl
set_option maxRecDepth 65536 in
theorem w_case : (Jvm.Cond.and given_1 narrow_1).before args0 about1 = true := by decide +kernel
theorem w_applies : (headSpec (Jvm.Cond.code x code maxLocals ret :: tables_1) room_1).applies x e0.platform about1 = true :=
  (Spec.applies_iff w_frames).mpr ⟨w_running, w_runnable, w_alone, w_named, w_hears, w_ripe, w_room, w_tables⟩
theorem atStart : AtStart classFile x code maxLocals ret World_1 tables_1 room_1 Calls_1 rest_1 Pre_1 launch0 p0 e0 about1 theMethod args0 below0 :=
  ⟨lists_1, trivial, launch0.admits_env _ _ _, launch0.least_env, fairChoices_fair.cas, fairChoices_fair.clock, w_frames, w_args, w_heap, w_applies, trivial, trivial, w_case⟩
end start1
theorem witness_1 : WitnessClaimed_1 := ⟨start1.p0, start1.e0, start1.about1, start1.theMethod, start1.args0, start1.below0, start1.atStart⟩
end Jvm.Pilot.@@N@@

import JvmDerived
import JvmDerived.Pilot.@@N@@Statement
import JvmDerived.Pilot.@@N@@Code
set_option linter.unusedVariables false
set_option linter.unusedSimpArgs false
@@BLOCK:NumsL.lean.txt@@
@@BLOCK:Masks.lean.txt@@
namespace Jvm.OwnKit
open Sem ClassFile Op Lib Jvm.Stand Jvm.Free Jvm.LawKit Jvm.RoadKit
/-- the surroundings of one body: program, environment, start, method, arguments, frames below, method record, code -/
abbrev Cxt := Program × Env × State × MethodId × Array Value × List Frame × Method × Code
/-- what a body owes: the first new address, cells, slots, what it leaves -/
abbrev En := Nat × Nat × Nat × (Option Value → Heap → Prop)
abbrev St (l : Launch) (R : Room) (C : Cxt) (T : State) (L : List Loc) (k n : Nat) : Prop :=
  Stand C.1 l C.2.1 R C.2.2.1 C.2.2.2.1 C.2.2.2.2.1 C.2.2.2.2.2.1 C.2.2.2.2.2.2.1 C.2.2.2.2.2.2.2 T L k n
abbrev Sp (C : Cxt) (a b : State) : Prop := Steps C.1.tables C.2.1 C.2.2.2.2.2.1 a b
def Goes (C : Cxt) (E : En) (a : State) : Prop :=
  ∃ t o, Sp C a t ∧ t.status = .running ∧ Ended t C.2.2.2.2.2.1 o ∧ ∃ v L, o = .returned v ∧ (E.2.2.2 v t.heap ∧ Fr E.1 L) ∧ FrameEnd C.2.2.1 o t L E.2.1 E.2.2.1
/-- from this place of the code, with this heap, these locals and this stack, and so many cells and slots made, the body comes to its end as owed -/
def W (l : Launch) (R : Room) (C : Cxt) (E : En) (h : Heap) (k n pc : Nat) (Ls : Array Slot) (st : List Value) : Prop :=
  ∀ T L, St l R C T L k n → Fr E.1 L → T.heap = h → Goes C E (T.setTop (mkF C.2.2.2.1 pc Ls st))
def Cx (C : Cxt) (Z : State) (own : String) (code : ByteArray) (ml : Nat) (ret : Option FieldType) (nm : String) (n0 : Nat) : Prop :=
  C.1.tables.exec = Jvm.exec ∧ C.2.2.2.2.2.2.2.code = code ∧ C.2.2.2.2.2.2.2.maxLocals = ml ∧ C.2.2.1.vm.findClass own = some C.2.2.2.1.cls ∧ Z.Warmed39 C.2.2.1.vm ∧ C.2.2.2.2.2.2.1.sig.returnType = ret ∧ C.2.2.2.2.2.2.1.locks = false ∧ C.2.2.2.2.2.2.1.name = nm ∧ n0 ≤ C.2.2.1.heap.size
/-- a contract of one call: these arguments, this heap -/
def Ctr (l : Launch) (Z : State) (y : MethodName) (bytes : ByteArray) (maxL : Nat) (ret : Option FieldType) (rm : Room) (n0 : Nat) (as' : Array Value) (h : Heap) (Q : Option Value → Heap → Prop) : Prop :=
  MetFree l y (head1 [Cond.code y bytes maxL ret] rm) (fun a U => a = as' ∧ Z.Warmed39 U.vm ∧ U.heap = h) (fun _ _ _ _ _ => True) (fun _ U o U' => ∃ v L, o = .returned v ∧ (Q v U'.heap ∧ Fr n0 L) ∧ FrameEnd U o U' L rm.cells rm.slots)
section Own
variable {l : Launch} {R : Room} {C : Cxt} {E : En} {h h' : Heap} {k n pc : Nat} {Ls : Array Slot} {st : List Value} {Z : State} {own nm : String} {code : ByteArray} {ml : Nat} {ret : Option FieldType} {a0 : Array Value}
theorem wd {ts : List Jvm.Cond} (hw : ∀ d ∈ ts, d.before a0 Z = true) (i : Nat) {d : Jvm.Cond} (hi : ts[i]? = some d) : d.before a0 Z = true := hw _ (List.mem_of_getElem? hi)
theorem W.via {pc' : Nat} {Ls' : Array Slot} {st' : List Value} (f : ∀ T t L, St l R C T L k n → T.heap = h → Sp C (T.setTop (mkF C.2.2.2.1 pc' Ls' st')) t → Sp C (T.setTop (mkF C.2.2.2.1 pc Ls st)) t)
    (hr : W l R C E h k n pc' Ls' st') : W l R C E h k n pc Ls st := fun T L X N eT => by
  obtain ⟨t, o, h1, h2⟩ := hr T L X N eT
  exact ⟨t, o, f T t L X eT h1, h2⟩
theorem W.more {k' n' : Nat} (hk : k ≤ k') (hn : n ≤ n') (hr : W l R C E h k' n' pc Ls st) : W l R C E h k n pc Ls st := fun T L X N eT => hr T L (X.more hk hn) N eT
/-- a step that moves the tables alone -/
theorem W.viaT {pc' : Nat} {Ls' : Array Slot} {st' : List Value} (f : ∀ T L, St l R C T L k n → T.heap = h → ∃ T', St l R C T' L k n ∧ T'.heap = h ∧ ∀ t, Sp C (T'.setTop (mkF C.2.2.2.1 pc' Ls' st')) t → Sp C (T.setTop (mkF C.2.2.2.1 pc Ls st)) t)
    (hr : W l R C E h k n pc' Ls' st') : W l R C E h k n pc Ls st := fun T L X N eT => by
  obtain ⟨T', X', e', q⟩ := f T L X eT
  obtain ⟨t, o, h1, h2⟩ := hr T' L X' N e'
  exact ⟨t, o, q t h1, h2⟩
theorem size_ge {n0 : Nat} (H : Cx C Z own code ml ret nm n0) {T : State} {L : List Loc} (X : St l R C T L k n) : n0 ≤ T.heap.size := Nat.le_trans H.2.2.2.2.2.2.2.2 X.same.2.1
/-! plain steps -/
section Plain
theorem k_iloadN {i : Fin 4} {x : Int32} (H : Cx C Z own code ml ret nm E.1) (hd : decode code pc = .ok (.iload_n i, 1)) (hl : Ls[i.val]? = some (.val (.int x))) (hr : W l R C E h k n (pc + 1) Ls (.int x :: st)) : W l R C E h k n pc Ls st := .via (fun T t L X _ r => XS.iloadN X.here H.1 rfl (hb H.2.1 hd) hl r) hr
theorem k_iload {i : Nat} {x : Int32} (H : Cx C Z own code ml ret nm E.1) (hd : decode code pc = .ok (.iload i, 2)) (hl : Ls[i]? = some (.val (.int x))) (hr : W l R C E h k n (pc + 2) Ls (.int x :: st)) : W l R C E h k n pc Ls st := .via (fun T t L X _ r => XS.iload X.here H.1 rfl (hb H.2.1 hd) hl r) hr
theorem k_lloadN {i : Fin 4} {x : Int64} (H : Cx C Z own code ml ret nm E.1) (hd : decode code pc = .ok (.lload_n i, 1)) (hl : Ls[i.val]? = some (.val (.long x))) (hr : W l R C E h k n (pc + 1) Ls (.long x :: st)) : W l R C E h k n pc Ls st := .via (fun T t L X _ r => XT.lloadN X.here H.1 rfl (hb H.2.1 hd) hl r) hr
theorem k_lload {i : Nat} {x : Int64} (H : Cx C Z own code ml ret nm E.1) (hd : decode code pc = .ok (.lload i, 2)) (hl : Ls[i]? = some (.val (.long x))) (hr : W l R C E h k n (pc + 2) Ls (.long x :: st)) : W l R C E h k n pc Ls st := .via (fun T t L X _ r => XT.lload X.here H.1 rfl (hb H.2.1 hd) hl r) hr
theorem k_aloadN {i : Fin 4} {v : Value} (H : Cx C Z own code ml ret nm E.1) (hd : decode code pc = .ok (.aload_n i, 1)) (hl : Ls[i.val]? = some (.val v)) (hv : v.isRef = true) (hr : W l R C E h k n (pc + 1) Ls (v :: st)) : W l R C E h k n pc Ls st := .via (fun T t L X _ r => XS.aloadN X.here H.1 rfl (hb H.2.1 hd) hl hv r) hr
theorem k_aload {i : Nat} {v : Value} (H : Cx C Z own code ml ret nm E.1) (hd : decode code pc = .ok (.aload i, 2)) (hl : Ls[i]? = some (.val v)) (hv : v.isRef = true) (hr : W l R C E h k n (pc + 2) Ls (v :: st)) : W l R C E h k n pc Ls st := .via (fun T t L X _ r => XS.aload X.here H.1 rfl (hb H.2.1 hd) hl hv r) hr
theorem k_istoreN {i : Fin 4} {x : Int32} {Ls' : Array Slot} (H : Cx C Z own code ml ret nm E.1) (hd : decode code pc = .ok (.istore_n i, 1)) (hl : storeLocals Ls i.val (.int x) = some Ls') (hr : W l R C E h k n (pc + 1) Ls' st) : W l R C E h k n pc Ls (.int x :: st) := .via (fun T t L X _ r => XS.istoreN X.here H.1 rfl (hb H.2.1 hd) rfl hl r) hr
theorem k_istore {i : Nat} {x : Int32} {Ls' : Array Slot} (H : Cx C Z own code ml ret nm E.1) (hd : decode code pc = .ok (.istore i, 2)) (hl : storeLocals Ls i (.int x) = some Ls') (hr : W l R C E h k n (pc + 2) Ls' st) : W l R C E h k n pc Ls (.int x :: st) := .via (fun T t L X _ r => XS.istore X.here H.1 rfl (hb H.2.1 hd) rfl hl r) hr
theorem k_lstoreN {i : Fin 4} {x : Int64} {Ls' : Array Slot} (H : Cx C Z own code ml ret nm E.1) (hd : decode code pc = .ok (.lstore_n i, 1)) (hl : storeLocals Ls i.val (.long x) = some Ls') (hr : W l R C E h k n (pc + 1) Ls' st) : W l R C E h k n pc Ls (.long x :: st) := .via (fun T t L X _ r => XT.lstoreN X.here H.1 rfl (hb H.2.1 hd) rfl hl r) hr
theorem k_lstore {i : Nat} {x : Int64} {Ls' : Array Slot} (H : Cx C Z own code ml ret nm E.1) (hd : decode code pc = .ok (.lstore i, 2)) (hl : storeLocals Ls i (.long x) = some Ls') (hr : W l R C E h k n (pc + 2) Ls' st) : W l R C E h k n pc Ls (.long x :: st) := .via (fun T t L X _ r => XT.lstore X.here H.1 rfl (hb H.2.1 hd) rfl hl r) hr
theorem k_astoreN {i : Fin 4} {x : Value} {Ls' : Array Slot} (H : Cx C Z own code ml ret nm E.1) (hd : decode code pc = .ok (.astore_n i, 1)) (hv : x.isRef = true) (hl : storeLocals Ls i.val x = some Ls') (hr : W l R C E h k n (pc + 1) Ls' st) : W l R C E h k n pc Ls (x :: st) := .via (fun T t L X _ r => XS.astoreN X.here H.1 rfl (hb H.2.1 hd) rfl hv hl r) hr
theorem k_astore {i : Nat} {x : Value} {Ls' : Array Slot} (H : Cx C Z own code ml ret nm E.1) (hd : decode code pc = .ok (.astore i, 2)) (hv : x.isRef = true) (hl : storeLocals Ls i x = some Ls') (hr : W l R C E h k n (pc + 2) Ls' st) : W l R C E h k n pc Ls (x :: st) := .via (fun T t L X _ r => XS.astore X.here H.1 rfl (hb H.2.1 hd) rfl hv hl r) hr
theorem k_iconst {i : Int} (v : Int32) (H : Cx C Z own code ml ret nm E.1) (hd : decode code pc = .ok (.iconst i, 1)) (hv : Int32.ofInt i = v) (hr : W l R C E h k n (pc + 1) Ls (.int v :: st)) : W l R C E h k n pc Ls st := .via (fun T t L X _ r => XT.iconstV X.here H.1 rfl v (hb H.2.1 hd) hv r) hr
theorem k_bipush {i : Int} (v : Int32) (H : Cx C Z own code ml ret nm E.1) (hd : decode code pc = .ok (.bipush i, 2)) (hv : (Int8.ofInt i).toInt32 = v) (hr : W l R C E h k n (pc + 2) Ls (.int v :: st)) : W l R C E h k n pc Ls st := .via (fun T t L X _ r => XT.bipushV X.here H.1 rfl v (hb H.2.1 hd) hv r) hr
theorem k_sipush {i : Int} (v : Int32) (H : Cx C Z own code ml ret nm E.1) (hd : decode code pc = .ok (.sipush i, 3)) (hv : (Int16.ofInt i).toInt32 = v) (hr : W l R C E h k n (pc + 3) Ls (.int v :: st)) : W l R C E h k n pc Ls st := .via (fun T t L X _ r => XT.sipushV X.here H.1 rfl v (hb H.2.1 hd) hv r) hr
theorem k_lconst {i : Fin 2} (v : Int64) (H : Cx C Z own code ml ret nm E.1) (hd : decode code pc = .ok (.lconst i, 1)) (hv : Int64.ofNat i = v) (hr : W l R C E h k n (pc + 1) Ls (.long v :: st)) : W l R C E h k n pc Ls st := .via (fun T t L X _ r => XT.lconstV X.here H.1 rfl v (hb H.2.1 hd) hv r) hr
theorem k_aconstNull (H : Cx C Z own code ml ret nm E.1) (hd : decode code pc = .ok (.aconst_null, 1)) (hr : W l R C E h k n (pc + 1) Ls (.null :: st)) : W l R C E h k n pc Ls st := .via (fun T t L X _ r => XS.aconstNull X.here H.1 rfl (hb H.2.1 hd) r) hr
theorem k_ldcI {i : Nat} {v : Int32} (H : Cx C Z own code ml ret nm E.1) (hc : (Cond.constant own i v).before a0 Z = true) (hd : decode code pc = .ok (.ldc i, 2)) (hr : W l R C E h k n (pc + 2) Ls (.int v :: st)) : W l R C E h k n pc Ls st := .via (fun T t L X _ r => X.ldcI H.1 H.2.2.2.1 (mv H.2.2.2.2.1 hc) rfl (hb H.2.1 hd) r) hr
theorem k_ldcWI {i : Nat} {v : Int32} (H : Cx C Z own code ml ret nm E.1) (hc : (Cond.constant own i v).before a0 Z = true) (hd : decode code pc = .ok (.ldc_w i, 3)) (hr : W l R C E h k n (pc + 3) Ls (.int v :: st)) : W l R C E h k n pc Ls st := .via (fun T t L X _ r => X.ldcWI H.1 H.2.2.2.1 (mv H.2.2.2.2.1 hc) rfl (hb H.2.1 hd) r) hr
theorem k_ldc2J {i : Nat} {v : Int64} (H : Cx C Z own code ml ret nm E.1) (hc : (Cond.constantLong own i v).before a0 Z = true) (hd : decode code pc = .ok (.ldc2_w i, 3)) (hr : W l R C E h k n (pc + 3) Ls (.long v :: st)) : W l R C E h k n pc Ls st := .via (fun T t L X _ r => X.ldc2J H.1 H.2.2.2.1 (mv H.2.2.2.2.1 hc) rfl (hb H.2.1 hd) r) hr
theorem k_iinc {i : Nat} {c : Int} (v : Int32) {x : Int32} {Ls' : Array Slot} (H : Cx C Z own code ml ret nm E.1) (hd : decode code pc = .ok (.iinc i c, 3)) (hv : Int32.ofInt c = v) (hl : Ls[i]? = some (.val (.int x))) (hl' : storeLocals Ls i (.int (x + v)) = some Ls') (hr : W l R C E h k n (pc + 3) Ls' st) : W l R C E h k n pc Ls st := .via (fun T t L X _ r => XT.iincV X.here H.1 rfl v (hb H.2.1 hd) hv hl hl' r) hr
theorem k_iadd {x y : Int32} (H : Cx C Z own code ml ret nm E.1) (hd : decode code pc = .ok (.iadd, 1)) (hr : W l R C E h k n (pc + 1) Ls (.int (x + y) :: st)) : W l R C E h k n pc Ls (.int y :: .int x :: st) := .via (fun T t L X _ r => XS.iadd X.here H.1 rfl (hb H.2.1 hd) rfl r) hr
theorem k_isub {x y : Int32} (H : Cx C Z own code ml ret nm E.1) (hd : decode code pc = .ok (.isub, 1)) (hr : W l R C E h k n (pc + 1) Ls (.int (x - y) :: st)) : W l R C E h k n pc Ls (.int y :: .int x :: st) := .via (fun T t L X _ r => XS.isub X.here H.1 rfl (hb H.2.1 hd) rfl r) hr
theorem k_imul {x y : Int32} (H : Cx C Z own code ml ret nm E.1) (hd : decode code pc = .ok (.imul, 1)) (hr : W l R C E h k n (pc + 1) Ls (.int (x * y) :: st)) : W l R C E h k n pc Ls (.int y :: .int x :: st) := .via (fun T t L X _ r => XS.imul X.here H.1 rfl (hb H.2.1 hd) rfl r) hr
theorem k_idiv {x y : Int32} (H : Cx C Z own code ml ret nm E.1) (hd : decode code pc = .ok (.idiv, 1)) (hy : y ≠ 0) (hr : W l R C E h k n (pc + 1) Ls (.int (x / y) :: st)) : W l R C E h k n pc Ls (.int y :: .int x :: st) := .via (fun T t L X _ r => XS.idiv X.here H.1 rfl (hb H.2.1 hd) rfl hy r) hr
theorem k_irem {x y : Int32} (H : Cx C Z own code ml ret nm E.1) (hd : decode code pc = .ok (.irem, 1)) (hy : y ≠ 0) (hr : W l R C E h k n (pc + 1) Ls (.int (x % y) :: st)) : W l R C E h k n pc Ls (.int y :: .int x :: st) := .via (fun T t L X _ r => iremM X H.1 rfl (hb H.2.1 hd) rfl hy r) hr
theorem k_iand {x y : Int32} (H : Cx C Z own code ml ret nm E.1) (hd : decode code pc = .ok (.iand, 1)) (hr : W l R C E h k n (pc + 1) Ls (.int (x &&& y) :: st)) : W l R C E h k n pc Ls (.int y :: .int x :: st) := .via (fun T t L X _ r => XS.iand X.here H.1 rfl (hb H.2.1 hd) rfl r) hr
theorem k_ior {x y : Int32} (H : Cx C Z own code ml ret nm E.1) (hd : decode code pc = .ok (.ior, 1)) (hr : W l R C E h k n (pc + 1) Ls (.int (x ||| y) :: st)) : W l R C E h k n pc Ls (.int y :: .int x :: st) := .via (fun T t L X _ r => XT.ior X.here H.1 rfl (hb H.2.1 hd) rfl r) hr
theorem k_ixor {x y : Int32} (H : Cx C Z own code ml ret nm E.1) (hd : decode code pc = .ok (.ixor, 1)) (hr : W l R C E h k n (pc + 1) Ls (.int (x ^^^ y) :: st)) : W l R C E h k n pc Ls (.int y :: .int x :: st) := .via (fun T t L X _ r => XT.ixor X.here H.1 rfl (hb H.2.1 hd) rfl r) hr
theorem k_ishl {x y : Int32} (H : Cx C Z own code ml ret nm E.1) (hd : decode code pc = .ok (.ishl, 1)) (hr : W l R C E h k n (pc + 1) Ls (.int (x <<< (y &&& 31)) :: st)) : W l R C E h k n pc Ls (.int y :: .int x :: st) := .via (fun T t L X _ r => XT.ishl X.here H.1 rfl (hb H.2.1 hd) rfl r) hr
theorem k_ishr {x y : Int32} (H : Cx C Z own code ml ret nm E.1) (hd : decode code pc = .ok (.ishr, 1)) (hr : W l R C E h k n (pc + 1) Ls (.int (x >>> (y &&& 31)) :: st)) : W l R C E h k n pc Ls (.int y :: .int x :: st) := .via (fun T t L X _ r => XT.ishr X.here H.1 rfl (hb H.2.1 hd) rfl r) hr
theorem k_iushr {x y : Int32} (H : Cx C Z own code ml ret nm E.1) (hd : decode code pc = .ok (.iushr, 1)) (hr : W l R C E h k n (pc + 1) Ls (.int (XT.ushr x y) :: st)) : W l R C E h k n pc Ls (.int y :: .int x :: st) := .via (fun T t L X _ r => XT.iushr X.here H.1 rfl (hb H.2.1 hd) rfl r) hr
theorem k_ineg {x : Int32} (H : Cx C Z own code ml ret nm E.1) (hd : decode code pc = .ok (.ineg, 1)) (hr : W l R C E h k n (pc + 1) Ls (.int (-x) :: st)) : W l R C E h k n pc Ls (.int x :: st) := .via (fun T t L X _ r => XS.ineg X.here H.1 rfl (hb H.2.1 hd) rfl r) hr
theorem k_ladd {x y : Int64} (H : Cx C Z own code ml ret nm E.1) (hd : decode code pc = .ok (.ladd, 1)) (hr : W l R C E h k n (pc + 1) Ls (.long (x + y) :: st)) : W l R C E h k n pc Ls (.long y :: .long x :: st) := .via (fun T t L X _ r => XT.ladd X.here H.1 rfl (hb H.2.1 hd) rfl r) hr
theorem k_lsub {x y : Int64} (H : Cx C Z own code ml ret nm E.1) (hd : decode code pc = .ok (.lsub, 1)) (hr : W l R C E h k n (pc + 1) Ls (.long (x - y) :: st)) : W l R C E h k n pc Ls (.long y :: .long x :: st) := .via (fun T t L X _ r => XT.lsub X.here H.1 rfl (hb H.2.1 hd) rfl r) hr
theorem k_land {x y : Int64} (H : Cx C Z own code ml ret nm E.1) (hd : decode code pc = .ok (.land, 1)) (hr : W l R C E h k n (pc + 1) Ls (.long (x &&& y) :: st)) : W l R C E h k n pc Ls (.long y :: .long x :: st) := .via (fun T t L X _ r => XT.land X.here H.1 rfl (hb H.2.1 hd) rfl r) hr
theorem k_lor {x y : Int64} (H : Cx C Z own code ml ret nm E.1) (hd : decode code pc = .ok (.lor, 1)) (hr : W l R C E h k n (pc + 1) Ls (.long (x ||| y) :: st)) : W l R C E h k n pc Ls (.long y :: .long x :: st) := .via (fun T t L X _ r => XT.lor X.here H.1 rfl (hb H.2.1 hd) rfl r) hr
theorem k_lxor {x y : Int64} (H : Cx C Z own code ml ret nm E.1) (hd : decode code pc = .ok (.lxor, 1)) (hr : W l R C E h k n (pc + 1) Ls (.long (x ^^^ y) :: st)) : W l R C E h k n pc Ls (.long y :: .long x :: st) := .via (fun T t L X _ r => XT.lxor X.here H.1 rfl (hb H.2.1 hd) rfl r) hr
theorem k_lshl {x : Int64} {y : Int32} (H : Cx C Z own code ml ret nm E.1) (hd : decode code pc = .ok (.lshl, 1)) (hr : W l R C E h k n (pc + 1) Ls (.long (x <<< (y.toInt64 &&& 63)) :: st)) : W l R C E h k n pc Ls (.int y :: .long x :: st) := .via (fun T t L X _ r => XT.lshl X.here H.1 rfl (hb H.2.1 hd) rfl r) hr
theorem k_lushr {x : Int64} {y : Int32} (H : Cx C Z own code ml ret nm E.1) (hd : decode code pc = .ok (.lushr, 1)) (hr : W l R C E h k n (pc + 1) Ls (.long (XT.ushrL x y) :: st)) : W l R C E h k n pc Ls (.int y :: .long x :: st) := .via (fun T t L X _ r => XT.lushr X.here H.1 rfl (hb H.2.1 hd) rfl r) hr
theorem k_i2l {x : Int32} (H : Cx C Z own code ml ret nm E.1) (hd : decode code pc = .ok (.i2l, 1)) (hr : W l R C E h k n (pc + 1) Ls (.long x.toInt64 :: st)) : W l R C E h k n pc Ls (.int x :: st) := .via (fun T t L X _ r => XT.i2l X.here H.1 rfl (hb H.2.1 hd) rfl r) hr
theorem k_l2i {x : Int64} (H : Cx C Z own code ml ret nm E.1) (hd : decode code pc = .ok (.l2i, 1)) (hr : W l R C E h k n (pc + 1) Ls (.int x.toInt32 :: st)) : W l R C E h k n pc Ls (.long x :: st) := .via (fun T t L X _ r => XT.l2i X.here H.1 rfl (hb H.2.1 hd) rfl r) hr
theorem k_i2b {x : Int32} (H : Cx C Z own code ml ret nm E.1) (hd : decode code pc = .ok (.i2b, 1)) (hr : W l R C E h k n (pc + 1) Ls (.int x.toInt8.toInt32 :: st)) : W l R C E h k n pc Ls (.int x :: st) := .via (fun T t L X _ r => XT.i2b X.here H.1 rfl (hb H.2.1 hd) rfl r) hr
theorem k_i2c {x : Int32} (H : Cx C Z own code ml ret nm E.1) (hd : decode code pc = .ok (.i2c, 1)) (hr : W l R C E h k n (pc + 1) Ls (.int x.toUInt32.toUInt16.toUInt32.toInt32 :: st)) : W l R C E h k n pc Ls (.int x :: st) := .via (fun T t L X _ r => XT.i2c X.here H.1 rfl (hb H.2.1 hd) rfl r) hr
theorem k_lcmp {x y : Int64} (H : Cx C Z own code ml ret nm E.1) (hd : decode code pc = .ok (.lcmp, 1)) (hr : W l R C E h k n (pc + 1) Ls (.int (XT.cmpL x y) :: st)) : W l R C E h k n pc Ls (.long y :: .long x :: st) := .via (fun T t L X _ r => XT.lcmp X.here H.1 rfl (hb H.2.1 hd) rfl r) hr
theorem k_dup {v : Value} (H : Cx C Z own code ml ret nm E.1) (hd : decode code pc = .ok (.dup, 1)) (hc : v.category = 1) (hr : W l R C E h k n (pc + 1) Ls (v :: v :: st)) : W l R C E h k n pc Ls (v :: st) := .via (fun T t L X _ r => XS.dup X.here H.1 rfl (hb H.2.1 hd) rfl hc r) hr
theorem k_pop {v : Value} (H : Cx C Z own code ml ret nm E.1) (hd : decode code pc = .ok (.pop, 1)) (hc : v.category = 1) (hr : W l R C E h k n (pc + 1) Ls st) : W l R C E h k n pc Ls (v :: st) := .via (fun T t L X _ r => XT.pop X.here H.1 rfl (hb H.2.1 hd) rfl hc r) hr
theorem k_dupX1 {v w : Value} (H : Cx C Z own code ml ret nm E.1) (hd : decode code pc = .ok (.dup_x1, 1)) (hc : v.category = 1) (hc' : w.category = 1) (hr : W l R C E h k n (pc + 1) Ls (v :: w :: v :: st)) : W l R C E h k n pc Ls (v :: w :: st) := .via (fun T t L X _ r => XT.dupX1 X.here H.1 rfl (hb H.2.1 hd) rfl hc hc' r) hr
theorem k_dup2 {v w : Value} (H : Cx C Z own code ml ret nm E.1) (hd : decode code pc = .ok (.dup2, 1)) (hc : v.category = 1) (hc' : w.category = 1) (hr : W l R C E h k n (pc + 1) Ls (v :: w :: v :: w :: st)) : W l R C E h k n pc Ls (v :: w :: st) := .via (fun T t L X _ r => XT.dup2 X.here H.1 rfl (hb H.2.1 hd) rfl hc hc' r) hr
theorem k_goto {o : Int} (pc' : Nat) (H : Cx C Z own code ml ret nm E.1) (hd : decode code pc = .ok (.goto o, 3)) (hp : (pc : Int) + o = (pc' : Int)) (hr : W l R C E h k n pc' Ls st) : W l R C E h k n pc Ls st := .via (fun T t L X _ r => XS.goto X.here H.1 rfl rfl (hb H.2.1 hd) (by rw [hp]; exact Int.natCast_nonneg _) (by rw [hp]; rfl) r) hr
theorem k_icmpT {cd : ClassFile.Cond} {o : Int} {x y : Int32} (pc' : Nat) (H : Cx C Z own code ml ret nm E.1) (hd : decode code pc = .ok (.if_icmp cd o, 3)) (hp : (pc : Int) + o = (pc' : Int)) (hc : if_icmp.holds cd x y = true) (hr : W l R C E h k n pc' Ls st) : W l R C E h k n pc Ls (.int y :: .int x :: st) :=
  .via (fun T t L X _ r => XS.icmpYes X.here H.1 rfl rfl (hb H.2.1 hd) rfl hc (by rw [hp]; exact Int.natCast_nonneg _) (by rw [hp]; rfl) r) hr
theorem k_icmpF {cd : ClassFile.Cond} {o : Int} {x y : Int32} (H : Cx C Z own code ml ret nm E.1) (hd : decode code pc = .ok (.if_icmp cd o, 3)) (hc : if_icmp.holds cd x y = false) (hr : W l R C E h k n (pc + 3) Ls st) : W l R C E h k n pc Ls (.int y :: .int x :: st) :=
  .via (fun T t L X _ r => XS.icmpNo X.here H.1 rfl (hb H.2.1 hd) rfl hc r) hr
theorem k_ifT {cd : ClassFile.Cond} {o : Int} {x : Int32} (pc' : Nat) (H : Cx C Z own code ml ret nm E.1) (hd : decode code pc = .ok (.ifCond cd o, 3)) (hp : (pc : Int) + o = (pc' : Int)) (hc : ifCond.holds cd x = true) (hr : W l R C E h k n pc' Ls st) : W l R C E h k n pc Ls (.int x :: st) :=
  .via (fun T t L X _ r => XS.ifYes X.here H.1 rfl rfl (hb H.2.1 hd) rfl hc (by rw [hp]; exact Int.natCast_nonneg _) (by rw [hp]; rfl) r) hr
theorem k_ifF {cd : ClassFile.Cond} {o : Int} {x : Int32} (H : Cx C Z own code ml ret nm E.1) (hd : decode code pc = .ok (.ifCond cd o, 3)) (hc : ifCond.holds cd x = false) (hr : W l R C E h k n (pc + 3) Ls st) : W l R C E h k n pc Ls (.int x :: st) :=
  .via (fun T t L X _ r => XS.ifNo X.here H.1 rfl (hb H.2.1 hd) rfl hc r) hr
theorem k_acmpT {cd : ClassFile.ACond} {o : Int} {x y : Value} (pc' : Nat) (H : Cx C Z own code ml ret nm E.1) (hd : decode code pc = .ok (.if_acmp cd o, 3)) (hp : (pc : Int) + o = (pc' : Int)) (hx : x.isRef = true) (hy : y.isRef = true) (hc : XT.acmp cd x y = true) (hr : W l R C E h k n pc' Ls st) : W l R C E h k n pc Ls (y :: x :: st) :=
  .via (fun T t L X _ r => XT.acmpYes X.here H.1 rfl rfl (hb H.2.1 hd) rfl hx hy hc (by rw [hp]; exact Int.natCast_nonneg _) (by rw [hp]; rfl) r) hr
theorem k_acmpF {cd : ClassFile.ACond} {o : Int} {x y : Value} (H : Cx C Z own code ml ret nm E.1) (hd : decode code pc = .ok (.if_acmp cd o, 3)) (hx : x.isRef = true) (hy : y.isRef = true) (hc : XT.acmp cd x y = false) (hr : W l R C E h k n (pc + 3) Ls st) : W l R C E h k n pc Ls (y :: x :: st) :=
  .via (fun T t L X _ r => XT.acmpNo X.here H.1 rfl (hb H.2.1 hd) rfl hx hy hc r) hr
theorem k_nonnullT {o : Int} {b : Addr} (pc' : Nat) (H : Cx C Z own code ml ret nm E.1) (hd : decode code pc = .ok (.ifnonnull o, 3)) (hp : (pc : Int) + o = (pc' : Int)) (hr : W l R C E h k n pc' Ls st) : W l R C E h k n pc Ls (.ref b :: st) :=
  .via (fun T t L X _ r => XT.ifnonnullYes X.here H.1 rfl rfl (hb H.2.1 hd) rfl (by rw [hp]; exact Int.natCast_nonneg _) (by rw [hp]; rfl) r) hr
theorem k_tsw {dflt low high o : Int} {offs : Array Int} {len : Nat} {i : Int32} (pc' : Nat) (H : Cx C Z own code ml ret nm E.1) (hd : decode code pc = .ok (.tableswitch dflt low high offs, len)) (hin : ¬ (i.toInt < low ∨ i.toInt > high)) (hoff : offs[(i.toInt - low).toNat]? = some o) (hp : (pc : Int) + o = (pc' : Int)) (hr : W l R C E h k n pc' Ls st) : W l R C E h k n pc Ls (.int i :: st) :=
  .via (fun T t L X _ r => XS.tswIn X.here H.1 rfl rfl (hb H.2.1 hd) rfl hin hoff (by rw [hp]; exact Int.natCast_nonneg _) (by rw [hp]; rfl) r) hr
theorem lsw {tb : Tables} [Ours tb] {e : Env} {below : List Frame} {T target : State} {m : MethodId} {c : Code} {g : JFrame} (h : At T m c below) (hx : tb.exec = Jvm.exec) (hg : g.method = m) {dflt : Int} {pairs : Array (Int × Int)} {len : Nat} {pc0 pc' : Nat} (hpc : g.pc = pc0) (hd : decode c.code g.pc = .ok (.lookupswitch dflt pairs, len)) {i : Int32} {rest : List Value} (hs : g.stack = .int i :: rest)
    (ho : 0 ≤ (pc0 : Int) + lookupswitch.offset pairs.toList dflt i.toInt) (hp : ((pc0 : Int) + lookupswitch.offset pairs.toList dflt i.toInt).toNat = pc') (hsort : ∀ (a b c d : Int), ((a, b), c, d) ∈ pairs.toList.zip pairs.toList.tail → a < c) (hr : Steps tb e below (T.setTop { g with pc := pc', stack := rest }) target) : Steps tb e below (T.setTop g) target := by
  subst hg hpc hp
  jvm_step h [h.top, hx, hd, hs, ho, lookupswitch.wp_chain]
  exact ⟨hsort, hr⟩
theorem k_lsw {dflt : Int} {pairs : Array (Int × Int)} {len : Nat} {i : Int32} (pc' : Nat) (H : Cx C Z own code ml ret nm E.1) (hd : decode code pc = .ok (.lookupswitch dflt pairs, len)) (hsort : ∀ (a b c d : Int), ((a, b), c, d) ∈ pairs.toList.zip pairs.toList.tail → a < c) (hp : (pc : Int) + lookupswitch.offset pairs.toList dflt i.toInt = (pc' : Int)) (hr : W l R C E h k n pc' Ls st) : W l R C E h k n pc Ls (.int i :: st) :=
  .via (fun T t L X _ r => lsw X.here H.1 rfl rfl (hb H.2.1 hd) rfl (by rw [hp]; exact Int.natCast_nonneg _) (by rw [hp]; rfl) hsort r) hr
end Plain
/-! branches, both ways -/
theorem k_icmp {cd : ClassFile.Cond} {o : Int} {x y : Int32} {P : Prop} [Decidable P] (pc' : Nat) (H : Cx C Z own code ml ret nm E.1) (hd : decode code pc = .ok (.if_icmp cd o, 3)) (hp : (pc : Int) + o = (pc' : Int)) (hT : P → if_icmp.holds cd x y = true) (hF : ¬ P → if_icmp.holds cd x y = false)
    (h1 : P → W l R C E h k n pc' Ls st) (h2 : ¬ P → W l R C E h k n (pc + 3) Ls st) : W l R C E h k n pc Ls (.int y :: .int x :: st) := by
  by_cases q : P
  · exact k_icmpT pc' H hd hp (hT q) (h1 q)
  · exact k_icmpF H hd (hF q) (h2 q)
theorem k_iff0 {cd : ClassFile.Cond} {o : Int} {x : Int32} {P : Prop} [Decidable P] (pc' : Nat) (H : Cx C Z own code ml ret nm E.1) (hd : decode code pc = .ok (.ifCond cd o, 3)) (hp : (pc : Int) + o = (pc' : Int)) (hT : P → ifCond.holds cd x = true) (hF : ¬ P → ifCond.holds cd x = false)
    (h1 : P → W l R C E h k n pc' Ls st) (h2 : ¬ P → W l R C E h k n (pc + 3) Ls st) : W l R C E h k n pc Ls (.int x :: st) := by
  by_cases q : P
  · exact k_ifT pc' H hd hp (hT q) (h1 q)
  · exact k_ifF H hd (hF q) (h2 q)
theorem k_icmpR {cd : ClassFile.Cond} {o : Int} {x y : Int32} {P : Prop} [Decidable P] (pc' : Nat) (H : Cx C Z own code ml ret nm E.1) (hd : decode code pc = .ok (.if_icmp cd o, 3)) (hp : (pc : Int) + o = (pc' : Int)) (hT : ¬ P → if_icmp.holds cd x y = true) (hF : P → if_icmp.holds cd x y = false)
    (h1 : ¬ P → W l R C E h k n pc' Ls st) (h2 : P → W l R C E h k n (pc + 3) Ls st) : W l R C E h k n pc Ls (.int y :: .int x :: st) := by
  by_cases q : P
  · exact k_icmpF H hd (hF q) (h2 q)
  · exact k_icmpT pc' H hd hp (hT q) (h1 q)
theorem k_iff0R {cd : ClassFile.Cond} {o : Int} {x : Int32} {P : Prop} [Decidable P] (pc' : Nat) (H : Cx C Z own code ml ret nm E.1) (hd : decode code pc = .ok (.ifCond cd o, 3)) (hp : (pc : Int) + o = (pc' : Int)) (hT : ¬ P → ifCond.holds cd x = true) (hF : P → ifCond.holds cd x = false)
    (h1 : ¬ P → W l R C E h k n pc' Ls st) (h2 : P → W l R C E h k n (pc + 3) Ls st) : W l R C E h k n pc Ls (.int x :: st) := by
  by_cases q : P
  · exact k_ifF H hd (hF q) (h2 q)
  · exact k_ifT pc' H hd hp (hT q) (h1 q)
theorem k_acmp {cd : ClassFile.ACond} {o : Int} {x y : Value} {P : Prop} [Decidable P] (pc' : Nat) (H : Cx C Z own code ml ret nm E.1) (hd : decode code pc = .ok (.if_acmp cd o, 3)) (hp : (pc : Int) + o = (pc' : Int)) (hx : x.isRef = true) (hy : y.isRef = true) (hT : P → XT.acmp cd x y = true) (hF : ¬ P → XT.acmp cd x y = false)
    (h1 : P → W l R C E h k n pc' Ls st) (h2 : ¬ P → W l R C E h k n (pc + 3) Ls st) : W l R C E h k n pc Ls (y :: x :: st) := by
  by_cases q : P
  · exact k_acmpT pc' H hd hp hx hy (hT q) (h1 q)
  · exact k_acmpF H hd hx hy (hF q) (h2 q)
/-! heap steps -/
/-- an array: its kind and all that it holds -/
def Vec (Z : State) (h : Heap) (a : Addr) (ty : FieldType) (vs : List Value) : Prop := ∃ c : Cell, Arr Z h a c ty ∧ c.slots = vs.toArray ∧ vs.length < 2 ^ 31
abbrev IA (Z : State) (h : Heap) (a : Addr) (xs : List Int32) : Prop := Vec Z h a .int (xs.map Value.int)
abbrev JA (Z : State) (h : Heap) (a : Addr) (xs : List Int64) : Prop := Vec Z h a .long (xs.map Value.long)
abbrev BA (Z : State) (h : Heap) (a : Addr) (xs : List Int8) : Prop := Vec Z h a .byte (xs.map fun b => Value.int b.toInt32)
abbrev CA (Z : State) (h : Heap) (a : Addr) (xs : List UInt16) : Prop := Vec Z h a .char (xs.map fun b => Value.int b.toUInt32.toInt32)
theorem Vec.lt {a : Addr} {ty : FieldType} {vs : List Value} (F : Vec Z h a ty vs) : a < h.size := by obtain ⟨c, A, -⟩ := F; exact A.lt
theorem Vec.ext {a : Addr} {ty : FieldType} {vs : List Value} (F : Vec Z h a ty vs) (X : Ext h h') : Vec Z h' a ty vs := by obtain ⟨c, A, r⟩ := F; exact ⟨c, A.ext X, r⟩
theorem Vec.keep {a : Addr} {ty : FieldType} {vs : List Value} {ws : List Addr} (F : Vec Z h a ty vs) (K : Keep h h' ws) (q : a ∉ ws) : Vec Z h' a ty vs := by obtain ⟨c, A, r⟩ := F; exact ⟨c, ⟨K.2.1 a c A.1 q, A.2⟩, r⟩
theorem Vec.other {a b : Addr} {ty : FieldType} {vs : List Value} {sl : Nat} {v : Value} (F : Vec Z h b ty vs) (X : Wr h h' a sl v) (q : b ≠ a) : Vec Z h' b ty vs := by obtain ⟨c, A, r⟩ := F; exact ⟨c, A.other X q, r⟩
theorem Vec.set {a : Addr} {ty : FieldType} {vs : List Value} {sl : Nat} {v : Value} (F : Vec Z h a ty vs) (X : Wr h h' a sl v) : Vec Z h' a ty (vs.set sl v) := by
  obtain ⟨c, A, e, r⟩ := F
  refine ⟨_, A.same X, ?_, by simpa using r⟩
  simp [Cell.setSlot, e]
theorem Vec.ne {a b : Addr} {ty ty' : FieldType} {vs vs' : List Value} (F : Vec Z h a ty vs) (G : Vec Z h b ty' vs') (q : ty ≠ ty') : a ≠ b := fun e => by
  subst e
  obtain ⟨c, A, -⟩ := F
  obtain ⟨c', A', -⟩ := G
  cases A.1.symm.trans A'.1
  obtain ⟨-, k, h1, comp, h2⟩ := A.2.1
  obtain ⟨-, k', h1', comp', h2'⟩ := A'.2.1
  cases h1.symm.trans h1'
  rw [h2] at h2'; cases h2'; exact q rfl
theorem Vec.neX {a b : Addr} {ty : FieldType} {vs : List Value} {cls : String} {kk : Nat} (G : Vec Z h b ty vs) (F : Exa Z h a cls) (wi : (Cond.instantiable cls kk).before a0 Z = true) : a ≠ b := by obtain ⟨c, A, -⟩ := G; exact ne_arr F wi A
theorem Keep.ofExt (X : Ext h h') : Keep h h' [] := (Keep.refl h []).ext X
theorem idx_ok {j : Int32} {i : Nat} (hj : j.toInt = (i : Int)) : ¬ j < 0 ∧ j.toNatClampNeg = i := by
  have e0 : (0 : Int32).toInt = 0 := rfl
  constructor
  · rw [Int32.lt_iff_toInt_lt]; omega
  · simp only [Int32.toNatClampNeg, hj]; rfl
theorem len_ok {c : Cell} {vs : List Value} (e : c.slots = vs.toArray) (hl : vs.length < 2 ^ 31) : c.slots.size.toInt32.toInt = (vs.length : Int) := by
  rw [e]; exact len_toInt hl
section Arrs
variable {a : Addr} {j : Int32} {i : Nat} {v : Value} {vs : List Value}
theorem in_ok {c : Cell} (e : c.slots = vs.toArray) (hj : j.toInt = (i : Int)) (hv : vs[i]? = some v) : ¬ (j < 0 ∨ c.slots.size ≤ j.toNatClampNeg) ∧ c.slots[j.toNatClampNeg]? = some v := by
  obtain ⟨q1, q2⟩ := idx_ok hj
  rw [q2, e]
  have hlt : i < vs.length := (List.getElem?_eq_some_iff.mp hv).1
  exact ⟨fun z => z.elim q1 (fun z => absurd hlt (Nat.not_lt.mpr (by simpa using z))), by simpa using hv⟩
theorem k_arraylength {ty : FieldType} {N : Int32} (H : Cx C Z own code ml ret nm E.1) (A : Vec Z h a ty vs) (hN : N.toInt = (vs.length : Int)) (hd : decode code pc = .ok (.arraylength, 1)) (hr : W l R C E h k n (pc + 1) Ls (.int N :: st)) : W l R C E h k n pc Ls (.ref a :: st) := by
  obtain ⟨c, A, e, hl⟩ := A
  have q : c.slots.size.toInt32 = N := Int32.toInt_inj.mp ((len_ok e hl).trans hN.symm)
  subst q
  exact .via (fun T t L X eT r => X.arraylength H.1 (by rw [eT]; exact A.1) (State.isArrayOf_alike H.2.2.2.2.1.alike A.2.1) (g := mkF C.2.2.2.1 pc Ls (.ref a :: st)) rfl rfl (hb H.2.1 hd) _ r) hr
theorem k_iaload (H : Cx C Z own code ml ret nm E.1) (A : Vec Z h a .int vs) (hj : j.toInt = (i : Int)) (hv : vs[i]? = some v) (hd : decode code pc = .ok (.iaload, 1)) (hr : W l R C E h k n (pc + 1) Ls (v :: st)) : W l R C E h k n pc Ls (.int j :: .ref a :: st) := by
  obtain ⟨c, A, e, hl⟩ := A
  obtain ⟨q1, q2⟩ := in_ok e hj hv
  exact .via (fun T t L X eT r => X.iaload H.1 (by rw [eT]; exact A.1) (State.isArrayOf_alike H.2.2.2.2.1.alike A.2.1) A.2.2 q1 q2 (g := mkF C.2.2.2.1 pc Ls (.int j :: .ref a :: st)) rfl rfl (hb H.2.1 hd) _ r) hr
theorem k_laload (H : Cx C Z own code ml ret nm E.1) (A : Vec Z h a .long vs) (hj : j.toInt = (i : Int)) (hv : vs[i]? = some v) (hd : decode code pc = .ok (.laload, 1)) (hr : W l R C E h k n (pc + 1) Ls (v :: st)) : W l R C E h k n pc Ls (.int j :: .ref a :: st) := by
  obtain ⟨c, A, e, hl⟩ := A
  obtain ⟨q1, q2⟩ := in_ok e hj hv
  exact .via (fun T t L X eT r => X.laload H.1 (by rw [eT]; exact A.1) (State.isArrayOf_alike H.2.2.2.2.1.alike A.2.1) A.2.2 q1 q2 (g := mkF C.2.2.2.1 pc Ls (.int j :: .ref a :: st)) rfl rfl (hb H.2.1 hd) _ r) hr
theorem k_caload (H : Cx C Z own code ml ret nm E.1) (A : Vec Z h a .char vs) (hj : j.toInt = (i : Int)) (hv : vs[i]? = some v) (hd : decode code pc = .ok (.caload, 1)) (hr : W l R C E h k n (pc + 1) Ls (v :: st)) : W l R C E h k n pc Ls (.int j :: .ref a :: st) := by
  obtain ⟨c, A, e, hl⟩ := A
  obtain ⟨q1, q2⟩ := in_ok e hj hv
  exact .via (fun T t L X eT r => X.caload H.1 (by rw [eT]; exact A.1) (State.isArrayOf_alike H.2.2.2.2.1.alike A.2.1) A.2.2 q1 q2 (g := mkF C.2.2.2.1 pc Ls (.int j :: .ref a :: st)) rfl rfl (hb H.2.1 hd) _ r) hr
theorem k_baload (H : Cx C Z own code ml ret nm E.1) (A : Vec Z h a .byte vs) (hj : j.toInt = (i : Int)) (hv : vs[i]? = some v) (hd : decode code pc = .ok (.baload, 1)) (hr : W l R C E h k n (pc + 1) Ls (v :: st)) : W l R C E h k n pc Ls (.int j :: .ref a :: st) := by
  obtain ⟨c, A, e, hl⟩ := A
  obtain ⟨q1, q2⟩ := in_ok e hj hv
  exact .via (fun T t L X eT r => X.baloadBytes H.1 (by rw [eT]; exact A.1) (State.isArrayOf_alike H.2.2.2.2.1.alike A.2.1) A.2.2 q1 q2 (g := mkF C.2.2.2.1 pc Ls (.int j :: .ref a :: st)) rfl rfl (hb H.2.1 hd) _ r) hr
theorem out_ok {c : Cell} (e : c.slots = vs.toArray) (hj : j.toInt = (i : Int)) (hi : i < vs.length) : ¬ (j < 0 ∨ c.slots.size ≤ j.toNatClampNeg) := by
  obtain ⟨q1, q2⟩ := idx_ok hj
  rw [q2, e]
  exact fun z => z.elim q1 (fun z => absurd hi (Nat.not_lt.mpr (by simpa using z)))
theorem Goes.step {T T' : State} {g g' : JFrame} (q : ∀ t, Sp C (T'.setTop g') t → Sp C (T.setTop g) t) (r : Goes C E (T'.setTop g')) : Goes C E (T.setTop g) := by
  obtain ⟨t, o, h1, h2⟩ := r; exact ⟨t, o, q t h1, h2⟩
theorem k_iastore {x : Int32} (H : Cx C Z own code ml ret nm E.1) (A : Vec Z h a .int vs) (hj : j.toInt = (i : Int)) (hi : i < vs.length) (ge : E.1 ≤ a) (hd : decode code pc = .ok (.iastore, 1))
    (hr : ∀ h', Keep h h' [a] → Vec Z h' a .int (vs.set i (.int x)) → W l R C E h' k n (pc + 1) Ls st) : W l R C E h k n pc Ls (.int x :: .int j :: .ref a :: st) := fun T L X N eT => by
  have A' := A
  obtain ⟨c, A, e, hl⟩ := A
  obtain ⟨T', h', X', e', Wx, q⟩ := stI X H.1 H.2.2.2.2.1 eT A (out_ok e hj hi) (g := mkF C.2.2.2.1 pc Ls (.int x :: .int j :: .ref a :: st)) rfl rfl (hb H.2.1 hd)
  refine .step q (hr h' (Keep.of_wr Wx) ?_ T' _ X' (Fr.snoc X' N ge) e')
  rw [(idx_ok hj).2] at Wx; exact A'.set Wx
theorem k_lastore {x : Int64} (H : Cx C Z own code ml ret nm E.1) (A : Vec Z h a .long vs) (hj : j.toInt = (i : Int)) (hi : i < vs.length) (ge : E.1 ≤ a) (hd : decode code pc = .ok (.lastore, 1))
    (hr : ∀ h', Keep h h' [a] → Vec Z h' a .long (vs.set i (.long x)) → W l R C E h' k n (pc + 1) Ls st) : W l R C E h k n pc Ls (.long x :: .int j :: .ref a :: st) := fun T L X N eT => by
  have A' := A
  obtain ⟨c, A, e, hl⟩ := A
  obtain ⟨T', h', X', e', Wx, q⟩ := stJ X H.1 H.2.2.2.2.1 eT A (out_ok e hj hi) (g := mkF C.2.2.2.1 pc Ls (.long x :: .int j :: .ref a :: st)) rfl rfl (hb H.2.1 hd)
  refine .step q (hr h' (Keep.of_wr Wx) ?_ T' _ X' (Fr.snoc X' N ge) e')
  rw [(idx_ok hj).2] at Wx; exact A'.set Wx
theorem k_bastore {x : Int32} (H : Cx C Z own code ml ret nm E.1) (A : Vec Z h a .byte vs) (hj : j.toInt = (i : Int)) (hi : i < vs.length) (ge : E.1 ≤ a) (hd : decode code pc = .ok (.bastore, 1))
    (hr : ∀ h', Keep h h' [a] → Vec Z h' a .byte (vs.set i (.int x.toInt8.toInt32)) → W l R C E h' k n (pc + 1) Ls st) : W l R C E h k n pc Ls (.int x :: .int j :: .ref a :: st) := fun T L X N eT => by
  have A' := A
  obtain ⟨c, A, e, hl⟩ := A
  obtain ⟨T', h', X', e', Wx, q⟩ := stB X H.1 H.2.2.2.2.1 eT A (out_ok e hj hi) (g := mkF C.2.2.2.1 pc Ls (.int x :: .int j :: .ref a :: st)) rfl rfl (hb H.2.1 hd)
  refine .step q (hr h' (Keep.of_wr Wx) ?_ T' _ X' (Fr.snoc X' N ge) e')
  rw [(idx_ok hj).2] at Wx; exact A'.set Wx
theorem k_castore {x : Int32} (H : Cx C Z own code ml ret nm E.1) (A : Vec Z h a .char vs) (hj : j.toInt = (i : Int)) (hi : i < vs.length) (ge : E.1 ≤ a) (hd : decode code pc = .ok (.castore, 1))
    (hr : ∀ h', Keep h h' [a] → Vec Z h' a .char (vs.set i (.int x.toUInt32.toUInt16.toUInt32.toInt32)) → W l R C E h' k n (pc + 1) Ls st) : W l R C E h k n pc Ls (.int x :: .int j :: .ref a :: st) := fun T L X N eT => by
  have A' := A
  obtain ⟨c, A, e, hl⟩ := A
  obtain ⟨T', h', X', e', Wx, q⟩ := stC X H.1 H.2.2.2.2.1 eT A (out_ok e hj hi) (g := mkF C.2.2.2.1 pc Ls (.int x :: .int j :: .ref a :: st)) rfl rfl (hb H.2.1 hd)
  refine .step q (hr h' (Keep.of_wr Wx) ?_ T' _ X' (Fr.snoc X' N ge) e')
  rw [(idx_ok hj).2] at Wx; exact A'.set Wx
end Arrs
/-- newarray of a plain kind, at most cap long -/
theorem k_newarray {aty : ArrayType} {ty : FieldType} {len : Int32} (m cap : Nat) (H : Cx C Z own code ml ret nm E.1) (w : (Cond.arrayClass ty).before a0 Z = true) (hty : newarray.typeOf aty = ty) (hd : decode code pc = .ok (.newarray aty, 2)) (hm : len.toInt = (m : Int)) (hcap : m ≤ cap) (hB : cap * 8 ≤ 536870912) (hC : k + 1 ≤ R.cells) (hS : n + cap ≤ R.slots)
    (hr : ∀ h' a, a = h.size → E.1 ≤ a → Ext h h' → Exa Z h' a ("[" ++ ty.toString) → Vec Z h' a ty (List.replicate m (defaultValue ty)) → W l R C E h' (k + 1) (n + cap) (pc + 2) Ls (.ref a :: st)) : W l R C E h k n pc Ls (.int len :: st) := fun T L X N eT => by
  subst hty
  obtain ⟨q1, q2⟩ := idx_ok hm
  obtain ⟨T', h', cA, X', e', Ex, A, XA, q⟩ := newPE X H.1 H.2.2.2.2.1 w eT (g := mkF C.2.2.2.1 pc Ls (.int len :: st)) rfl (hb H.2.1 hd) rfl q1 (cap := cap) (by rw [q2]; exact hcap) hB hC hS rfl
  have hlt : m < 2 ^ 31 := by have := len.toInt_lt; omega
  refine .step q (hr h' h.size rfl (by rw [← eT]; exact size_ge H X) Ex XA ⟨_, A, ?_, by simpa using hlt⟩ T' _ X' N e')
  simp [newA, q2]
theorem k_newObj {idx ns : Nat} {cls : String} (H : Cx C Z own code ml ret nm E.1) (w : (Cond.classLink own idx cls).before a0 Z = true) (wi : (Cond.instantiable cls ns).before a0 Z = true) (wz : (Cond.initialized cls).before a0 Z = true) (hd : decode code pc = .ok (.new idx, 3)) (hC : k + 1 ≤ R.cells) (hS : n + ns ≤ R.slots)
    (hr : ∀ h' a, a = h.size → E.1 ≤ a → Ext h h' → Exa Z h' a cls → (∀ {O nf d : String} {ty : FieldType}, Laid Z a0 cls O nf d → parseFieldDescriptor d = some ty → Fld Z h' a O nf d (defaultValue ty)) → W l R C E h' (k + 1) (n + ns) (pc + 3) Ls (.ref a :: st)) : W l R C E h k n pc Ls st := fun T L X N eT => by
  obtain ⟨T', h', X', e', Ex, A, D, -, q⟩ := newO X H.1 H.2.2.2.2.1 H.2.2.2.1 w wi wz eT (g := mkF C.2.2.2.1 pc Ls st) rfl (hb H.2.1 hd) hC hS
  exact .step q (hr h' h.size rfl (by rw [← eT]; exact size_ge H X) Ex A D T' _ X' N e')
theorem k_initObj {idx w : Nat} {a : Addr} (H : Cx C Z own code ml ret nm E.1) (w1 : (Cond.methodLink own idx Lib.objectInit).before a0 Z = true) (w2 : (Cond.instanceMethod Lib.objectInit).before a0 Z = true) (w3 : (Cond.code Lib.objectInit ⟨#[0xb1]⟩ 1 none).before a0 Z = true) (hd : decode code pc = .ok (.invokespecial idx, 3)) (hsz : Ls.size = ml) (hF : 1 ≤ R.frames)
    (hw : (st.map fun v => v.category).sum = w) (hL : w + 12 ≤ R.locals) (hr : W l R C E h k n (pc + 3) Ls st) : W l R C E h k n pc Ls (.ref a :: st) :=
  .viaT (fun T L X eT => initO X H.1 H.2.2.2.2.1 H.2.2.2.1 w1 w2 w3 eT (g := mkF C.2.2.2.1 pc Ls (.ref a :: st)) rfl (by show Ls.size = _; rw [H.2.2.1]; exact hsz) rfl (hb H.2.1 hd) hF (W := w) (by show 2 * 0 + _ ≤ _; rw [hw]; omega) hL) hr
theorem k_getfield {idx : Nat} {O nf d : String} {a : Addr} {v : Value} (H : Cx C Z own code ml ret nm E.1) (w : (Cond.fieldLink own idx O nf d).before a0 Z = true) (F : Fld Z h a O nf d v) (hd : decode code pc = .ok (.getfield idx, 3)) (hr : W l R C E h k n (pc + 3) Ls (v :: st)) : W l R C E h k n pc Ls (.ref a :: st) :=
  .viaT (fun T L X eT => getF X H.1 H.2.2.2.2.1 H.2.2.2.1 (host := "") (Or.inl w) Via.refl eT F (g := mkF C.2.2.2.1 pc Ls (.ref a :: st)) rfl rfl (hb H.2.1 hd)) hr
theorem k_putfield {idx kk : Nat} {O nf d cls : String} {a : Addr} {v old : Value} (ty : FieldType) (H : Cx C Z own code ml ret nm E.1) (w : (Cond.fieldLink own idx O nf d).before a0 Z = true) (F : Fld Z h a O nf d old) (X0 : Exa Z h a cls) (La : (Cond.lays cls O nf d).before a0 Z = true ∨ ((Cond.laysFinal cls O nf d).before a0 Z = true ∧ own = O ∧ nm = "<init>"))
    (wi : (Cond.instantiable cls kk).before a0 Z = true) (hty : parseFieldDescriptor d = some ty) (hn : narrow ty v = v) (hf : fits ty v = true) (ge : E.1 ≤ a) (hd : decode code pc = .ok (.putfield idx, 3))
    (hr : ∀ h', Wr h h' a (Jvm.RoadKit.slotOf Z O nf d) v → Fld Z h' a O nf d v → W l R C E h' k n (pc + 3) Ls st) : W l R C E h k n pc Ls (v :: .ref a :: st) := fun T L X N eT => by
  obtain ⟨T', h', X', e', Wx, q⟩ := putF X H.1 H.2.2.2.2.1 H.2.2.2.1 (host := "") (Or.inl w) Via.refl eT F X0 (La.imp id fun z => ⟨z.1, z.2.1, H.2.2.2.2.2.2.2.1.trans z.2.2⟩) wi hty hn hf (g := mkF C.2.2.2.1 pc Ls (v :: .ref a :: st)) rfl rfl (hb H.2.1 hd)
  exact .step q (hr h' Wx (F.same Wx) T' _ X' (Fr.snoc X' N ge) e')
/-! arrays by the kind of what they hold -/
section Typed
variable {a : Addr} {j : Int32} {i : Nat}
theorem map_at {α : Type} {f : α → Value} {xs : List α} {x : α} (hv : xs[i]? = some x) : (xs.map f)[i]? = some (f x) := by rw [List.getElem?_map, hv]; rfl
theorem k_ialoadT {xs : List Int32} {x : Int32} (H : Cx C Z own code ml ret nm E.1) (A : IA Z h a xs) (hj : j.toInt = (i : Int)) (hv : xs[i]? = some x) (hd : decode code pc = .ok (.iaload, 1)) (hr : W l R C E h k n (pc + 1) Ls ((.int x) :: st)) : W l R C E h k n pc Ls (.int j :: .ref a :: st) := k_iaload H A hj (map_at hv) hd hr
theorem k_iastoreT {xs : List Int32} {x : Int32} (H : Cx C Z own code ml ret nm E.1) (A : IA Z h a xs) (hj : j.toInt = (i : Int)) (hi : i < xs.length) (ge : E.1 ≤ a) (hd : decode code pc = .ok (.iastore, 1))
    (hr : ∀ h', Keep h h' [a] → IA Z h' a (xs.set i x) → W l R C E h' k n (pc + 1) Ls st) : W l R C E h k n pc Ls ((.int x) :: .int j :: .ref a :: st) := k_iastore H A hj (by simpa using hi) ge hd (fun h' K V => hr h' K (by rw [IA, List.map_set]; exact V))
theorem k_new_int {len : Int32} (m cap : Nat) (H : Cx C Z own code ml ret nm E.1) (w : (Cond.arrayClass .int).before a0 Z = true) (hd : decode code pc = .ok (.newarray .int, 2)) (hm : len.toInt = (m : Int)) (hcap : m ≤ cap) (hB : cap * 8 ≤ 536870912) (hC : k + 1 ≤ R.cells) (hS : n + cap ≤ R.slots)
    (hr : ∀ h' a, a = h.size → E.1 ≤ a → Ext h h' → Exa Z h' a "[I" → IA Z h' a (List.replicate m 0) → W l R C E h' (k + 1) (n + cap) (pc + 2) Ls (.ref a :: st)) : W l R C E h k n pc Ls (.int len :: st) := k_newarray m cap H w rfl hd hm hcap hB hC hS (fun h' a e g X XA V => hr h' a e g X XA (by rw [IA, List.map_replicate]; exact V))
theorem k_laloadT {xs : List Int64} {x : Int64} (H : Cx C Z own code ml ret nm E.1) (A : JA Z h a xs) (hj : j.toInt = (i : Int)) (hv : xs[i]? = some x) (hd : decode code pc = .ok (.laload, 1)) (hr : W l R C E h k n (pc + 1) Ls ((.long x) :: st)) : W l R C E h k n pc Ls (.int j :: .ref a :: st) := k_laload H A hj (map_at hv) hd hr
theorem k_lastoreT {xs : List Int64} {x : Int64} (H : Cx C Z own code ml ret nm E.1) (A : JA Z h a xs) (hj : j.toInt = (i : Int)) (hi : i < xs.length) (ge : E.1 ≤ a) (hd : decode code pc = .ok (.lastore, 1))
    (hr : ∀ h', Keep h h' [a] → JA Z h' a (xs.set i x) → W l R C E h' k n (pc + 1) Ls st) : W l R C E h k n pc Ls ((.long x) :: .int j :: .ref a :: st) := k_lastore H A hj (by simpa using hi) ge hd (fun h' K V => hr h' K (by rw [JA, List.map_set]; exact V))
theorem k_new_long {len : Int32} (m cap : Nat) (H : Cx C Z own code ml ret nm E.1) (w : (Cond.arrayClass .long).before a0 Z = true) (hd : decode code pc = .ok (.newarray .long, 2)) (hm : len.toInt = (m : Int)) (hcap : m ≤ cap) (hB : cap * 8 ≤ 536870912) (hC : k + 1 ≤ R.cells) (hS : n + cap ≤ R.slots)
    (hr : ∀ h' a, a = h.size → E.1 ≤ a → Ext h h' → Exa Z h' a "[J" → JA Z h' a (List.replicate m 0) → W l R C E h' (k + 1) (n + cap) (pc + 2) Ls (.ref a :: st)) : W l R C E h k n pc Ls (.int len :: st) := k_newarray m cap H w rfl hd hm hcap hB hC hS (fun h' a e g X XA V => hr h' a e g X XA (by rw [JA, List.map_replicate]; exact V))
theorem k_baloadT {xs : List Int8} {x : Int8} (H : Cx C Z own code ml ret nm E.1) (A : BA Z h a xs) (hj : j.toInt = (i : Int)) (hv : xs[i]? = some x) (hd : decode code pc = .ok (.baload, 1)) (hr : W l R C E h k n (pc + 1) Ls ((.int x.toInt32) :: st)) : W l R C E h k n pc Ls (.int j :: .ref a :: st) := k_baload H A hj (map_at hv) hd hr
theorem k_bastoreT {xs : List Int8} {x : Int32} (H : Cx C Z own code ml ret nm E.1) (A : BA Z h a xs) (hj : j.toInt = (i : Int)) (hi : i < xs.length) (ge : E.1 ≤ a) (hd : decode code pc = .ok (.bastore, 1))
    (hr : ∀ h', Keep h h' [a] → BA Z h' a (xs.set i x.toInt8) → W l R C E h' k n (pc + 1) Ls st) : W l R C E h k n pc Ls ((.int x) :: .int j :: .ref a :: st) := k_bastore H A hj (by simpa using hi) ge hd (fun h' K V => hr h' K (by rw [BA, List.map_set]; exact V))
theorem k_new_byte {len : Int32} (m cap : Nat) (H : Cx C Z own code ml ret nm E.1) (w : (Cond.arrayClass .byte).before a0 Z = true) (hd : decode code pc = .ok (.newarray .byte, 2)) (hm : len.toInt = (m : Int)) (hcap : m ≤ cap) (hB : cap * 8 ≤ 536870912) (hC : k + 1 ≤ R.cells) (hS : n + cap ≤ R.slots)
    (hr : ∀ h' a, a = h.size → E.1 ≤ a → Ext h h' → Exa Z h' a "[B" → BA Z h' a (List.replicate m 0) → W l R C E h' (k + 1) (n + cap) (pc + 2) Ls (.ref a :: st)) : W l R C E h k n pc Ls (.int len :: st) := k_newarray m cap H w rfl hd hm hcap hB hC hS (fun h' a e g X XA V => hr h' a e g X XA (by rw [BA, List.map_replicate]; exact V))
theorem k_caloadT {xs : List UInt16} {x : UInt16} (H : Cx C Z own code ml ret nm E.1) (A : CA Z h a xs) (hj : j.toInt = (i : Int)) (hv : xs[i]? = some x) (hd : decode code pc = .ok (.caload, 1)) (hr : W l R C E h k n (pc + 1) Ls ((.int x.toUInt32.toInt32) :: st)) : W l R C E h k n pc Ls (.int j :: .ref a :: st) := k_caload H A hj (map_at hv) hd hr
theorem k_castoreT {xs : List UInt16} {x : Int32} (H : Cx C Z own code ml ret nm E.1) (A : CA Z h a xs) (hj : j.toInt = (i : Int)) (hi : i < xs.length) (ge : E.1 ≤ a) (hd : decode code pc = .ok (.castore, 1))
    (hr : ∀ h', Keep h h' [a] → CA Z h' a (xs.set i x.toUInt32.toUInt16) → W l R C E h' k n (pc + 1) Ls st) : W l R C E h k n pc Ls ((.int x) :: .int j :: .ref a :: st) := k_castore H A hj (by simpa using hi) ge hd (fun h' K V => hr h' K (by rw [CA, List.map_set]; exact V))
theorem k_new_char {len : Int32} (m cap : Nat) (H : Cx C Z own code ml ret nm E.1) (w : (Cond.arrayClass .char).before a0 Z = true) (hd : decode code pc = .ok (.newarray .char, 2)) (hm : len.toInt = (m : Int)) (hcap : m ≤ cap) (hB : cap * 8 ≤ 536870912) (hC : k + 1 ≤ R.cells) (hS : n + cap ≤ R.slots)
    (hr : ∀ h' a, a = h.size → E.1 ≤ a → Ext h h' → Exa Z h' a "[C" → CA Z h' a (List.replicate m 0) → W l R C E h' (k + 1) (n + cap) (pc + 2) Ls (.ref a :: st)) : W l R C E h k n pc Ls (.int len :: st) := k_newarray m cap H w rfl hd hm hcap hB hC hS (fun h' a e g X XA V => hr h' a e g X XA (by rw [CA, List.map_replicate]; exact V))
theorem fits_of {ty : FieldType} {vs : List Value} {c : Cell} (A : Arr Z h a c ty) (e : c.slots = vs.toArray) (hf : ∀ v ∈ vs, fits ty v = true) : FitC Z c := fitC_of A fun i hi v hv => hf v (by rw [e] at hv; simp at hv; exact List.mem_of_getElem? hv)
theorem k_clone {idx w cap : Nat} {ty : FieldType} {ad : String} {vs : List Value} (H : Cx C Z own code ml ret nm E.1)
    (w1 : (Cond.methodLink own idx ⟨ad, "clone", "()Ljava/lang/Object;"⟩).before a0 Z = true) (w2 : (Cond.sameMethod ad "java/lang/Object" "clone" "()Ljava/lang/Object;").before a0 Z = true) (w3 : (Cond.native ⟨"java/lang/Object", "clone", "()Ljava/lang/Object;"⟩).before a0 Z = true)
    (w4 : (Cond.instanceMethod ⟨"java/lang/Object", "clone", "()Ljava/lang/Object;"⟩).before a0 Z = true) (w5 : (Cond.selects ad ⟨ad, "clone", "()Ljava/lang/Object;"⟩ ⟨"java/lang/Object", "clone", "()Ljava/lang/Object;"⟩).before a0 Z = true) (w6 : (Cond.castable ad "java/lang/Cloneable").before a0 Z = true)
    (V : Vec Z h a ty vs) (hf : ∀ v ∈ vs, fits ty v = true) (X0 : Exa Z h a ad) (hd : decode code pc = .ok (.invokevirtual idx, 3)) (hsz : Ls.size = ml) (hF : 1 ≤ R.frames) (hw : (st.map fun v => v.category).sum = w) (hL : w + 14 ≤ R.locals) (hcap : vs.length ≤ cap) (hC : k + 1 ≤ R.cells) (hS : n + cap ≤ R.slots)
    (hr : ∀ h' b, b = h.size → E.1 ≤ b → Ext h h' → Exa Z h' b ad → Vec Z h' b ty vs → W l R C E h' (k + 1) (n + cap) (pc + 3) Ls (.ref b :: st)) : W l R C E h k n pc Ls (.ref a :: st) := fun T L X N eT => by
  obtain ⟨c, A, e, hl⟩ := V
  obtain ⟨T', h', X', e', Ex, A', XA, q⟩ := cloneA X H.1 H.2.2.2.2.1 H.2.2.2.1 w1 w2 w3 w4 w5 w6 eT A X0 (fits_of A e hf) (g := mkF C.2.2.2.1 pc Ls (.ref a :: st)) rfl (by show Ls.size = _; rw [H.2.2.1]; exact hsz) rfl (hb H.2.1 hd) hF (W := w) (cap := cap) (by show 2 * 0 + _ ≤ _; rw [hw]; omega) hL (by rw [e]; simpa using hcap) hC hS
  exact .step q (hr h' h.size rfl (by rw [← eT]; exact size_ge H X) Ex XA ⟨_, A', e, hl⟩ T' _ X' N e')
theorem k_castY {idx : Nat} {K ad : String} (H : Cx C Z own code ml ret nm E.1) (w : (Cond.classLink own idx K).before a0 Z = true) (wc : (Cond.castable ad K).before a0 Z = true) (X0 : Exa Z h a ad) (hd : decode code pc = .ok (.checkcast idx, 3)) (hr : W l R C E h k n (pc + 3) Ls (.ref a :: st)) : W l R C E h k n pc Ls (.ref a :: st) :=
  .viaT (fun T L X eT => castY X H.1 H.2.2.2.2.1 H.2.2.2.1 w eT (Ins.of_exa X0 wc) (g := mkF C.2.2.2.1 pc Ls (.ref a :: st)) rfl rfl (hb H.2.1 hd)) hr
end Typed
/-! calls -/
section Calls
variable {y : MethodName} {bytes : ByteArray} {maxL : Nat} {rt : Option FieldType} {rm : Room} {Q : Option Value → Heap → Prop} {S : List Value}
theorem Goes.trans {T T' : State} {g g' : JFrame} (q : Sp C (T.setTop g) (T'.setTop g')) (r : Goes C E (T'.setTop g')) : Goes C E (T.setTop g) := by
  obtain ⟨t, o, h1, h2⟩ := r; exact ⟨t, o, q.trans h1, h2⟩
theorem payOf {s : State} {p : Program} {e : Env} {below : List Frame} {args : Array Value} {w n0 : Nat} {as' : Array Value} (hc : Ctr l Z y bytes maxL rt rm n0 as' h Q) (hZ : Z.Warmed39 s.vm) (w4 : (Cond.code y bytes maxL rt).before a0 Z = true) (w3 : (Cond.initialized y.cls).before a0 Z = true) (hF : rm.frames + 1 ≤ R.frames) (hL : w + (maxL + 11) + rm.locals ≤ R.locals) :
    Back l R p e below s args y 3 w (fun A a => a = as' ∧ A.U.heap = h ∧ A.cells + rm.cells ≤ R.cells ∧ A.slots + rm.slots ≤ R.slots)
      (fun A _ v B => ∃ L, (Q v B.U.heap ∧ Fr n0 L) ∧ B.locs = A.locs ++ L ∧ B.cells = A.cells + rm.cells ∧ B.slots = A.slots + rm.slots) :=
  backOf (Q := fun v h L => Q v h ∧ Fr n0 L) hc hZ w4 w3 hF hL
theorem k_invS {idx : Nat} (argsL : List Value) (w : Nat) (H : Cx C Z own code ml ret nm E.1) (w1 : (Cond.methodLink own idx y).before a0 Z = true) (w2 : (Cond.static y).before a0 Z = true) (w3 : (Cond.initialized y.cls).before a0 Z = true) (w4 : (Cond.code y bytes maxL rt).before a0 Z = true)
    (hy : y.cls ≠ "java/lang/invoke/MethodHandle" ∧ y.cls ≠ "java/lang/invoke/VarHandle") (hc : E.1 ≤ h.size → Ctr l Z y bytes maxL rt rm E.1 argsL.toArray h Q) (hlen : ∀ sig, parseMethodDescriptor y.desc = some sig → argsL.length = sig.parameters.length)
    (hd : decode code pc = .ok (.invokestatic idx, 3)) (hS : S = argsL.reverse ++ st) (hsz : Ls.size = ml) (hw : (st.map fun v => v.category).sum = w) (hF : rm.frames + 1 ≤ R.frames) (hL : w + (maxL + 11) + rm.locals ≤ R.locals) (hk : k + rm.cells ≤ R.cells) (hn : n + rm.slots ≤ R.slots)
    (hr : ∀ v h', Q v h' → W l R C E h' (k + rm.cells) (n + rm.slots) (pc + 3) Ls (v.toList ++ st)) : W l R C E h k n pc Ls S := fun T L X N eT => by
  obtain ⟨v, _, ⟨T', L', k', n'⟩, -, X', ⟨Lc, ⟨hQ, hN⟩, l', y', z'⟩, q⟩ := Jvm.LawKit.callS X H.1 (y := y) H.2.2.2.1 (mvT H.2.2.2.2.1 w1) (mvT H.2.2.2.2.1 w2) (mvT H.2.2.2.2.1 w3) (mvT H.2.2.2.2.1 w4) hy (payOf (w := w) (hc (by rw [← eT]; exact size_ge H X)) H.2.2.2.2.1 w4 w3 hF hL)
    (g := mkF C.2.2.2.1 pc Ls S) rfl (by show Ls.size = _; rw [H.2.2.1]; exact hsz) (argsL := argsL) (rest := st) hlen hS (by show 2 * 0 + _ ≤ _; rw [hw]; omega) (hb H.2.1 hd) (fun _ _ => ⟨rfl, eT, hk, hn⟩)
  dsimp only [Pt.U, Pt.locs, Pt.cells, Pt.slots] at X' l' y' z' q hQ
  subst l' y' z'
  exact .step q (hr v _ hQ T' _ X' (N.app hN) rfl)
theorem k_invI {idx : Nat} {a : Addr} (argsL : List Value) (w : Nat) (H : Cx C Z own code ml ret nm E.1) (hy1 : y.name = "<init>") (w1 : (Cond.methodLink own idx y).before a0 Z = true) (w2 : (Cond.instanceMethod y).before a0 Z = true) (w3 : (Cond.initialized y.cls).before a0 Z = true) (w4 : (Cond.code y bytes maxL none).before a0 Z = true)
    (hy : y.cls ≠ "java/lang/invoke/MethodHandle" ∧ y.cls ≠ "java/lang/invoke/VarHandle") (hc : E.1 ≤ h.size → Ctr l Z y bytes maxL none rm E.1 (.ref a :: argsL).toArray h Q) (hlen : ∀ sig, parseMethodDescriptor y.desc = some sig → argsL.length = sig.parameters.length)
    (hd : decode code pc = .ok (.invokespecial idx, 3)) (hS : S = argsL.reverse ++ .ref a :: st) (hsz : Ls.size = ml) (hw : (st.map fun v => v.category).sum = w) (hF : rm.frames + 1 ≤ R.frames) (hL : w + (maxL + 11) + rm.locals ≤ R.locals) (hk : k + rm.cells ≤ R.cells) (hn : n + rm.slots ≤ R.slots)
    (hr : ∀ v h', Q v h' → W l R C E h' (k + rm.cells) (n + rm.slots) (pc + 3) Ls (v.toList ++ st)) : W l R C E h k n pc Ls S := fun T L X N eT => by
  obtain ⟨v, _, ⟨T', L', k', n'⟩, -, X', ⟨Lc, ⟨hQ, hN⟩, l', y', z'⟩, q⟩ := X.specialBack H.1 (y := y) hy1 H.2.2.2.1 (mvT H.2.2.2.2.1 w1) (mvT H.2.2.2.2.1 w2) (mvT H.2.2.2.2.1 w4) hy (payOf (w := w) (hc (by rw [← eT]; exact size_ge H X)) H.2.2.2.2.1 w4 w3 hF hL)
    (g := mkF C.2.2.2.1 pc Ls S) rfl (by show Ls.size = _; rw [H.2.2.1]; exact hsz) (Steps.refl _) (a := a) (argsL := argsL) (rest := st) hlen hS (by show 2 * 0 + _ ≤ _; rw [hw]; omega) (hb H.2.1 hd) (fun _ _ => ⟨rfl, eT, hk, hn⟩)
  dsimp only [Pt.U, Pt.locs, Pt.cells, Pt.slots] at X' l' y' z' q hQ
  subst l' y' z'
  exact .trans q (hr v _ hQ T' _ X' (N.app hN) rfl)
theorem k_invV {idx : Nat} {a : Addr} {cls : String} (argsL : List Value) (w : Nat) (H : Cx C Z own code ml ret nm E.1) (w1 : (Cond.methodLink own idx y).before a0 Z = true) (w2 : (Cond.declares y).before a0 Z = true) (w5 : (Cond.selects cls y y).before a0 Z = true) (w6 : (Cond.instanceMethod y).before a0 Z = true) (w3 : (Cond.initialized y.cls).before a0 Z = true) (w4 : (Cond.code y bytes maxL rt).before a0 Z = true)
    (hcl : y.cls = cls) (hy : y.cls ≠ "java/lang/invoke/MethodHandle" ∧ y.cls ≠ "java/lang/invoke/VarHandle") (X0 : Exa Z h a cls) (hc : E.1 ≤ h.size → Ctr l Z y bytes maxL rt rm E.1 (.ref a :: argsL).toArray h Q) (hlen : ∀ sig, parseMethodDescriptor y.desc = some sig → argsL.length = sig.parameters.length)
    (hd : decode code pc = .ok (.invokevirtual idx, 3)) (hS : S = argsL.reverse ++ .ref a :: st) (hsz : Ls.size = ml) (hw : (st.map fun v => v.category).sum = w) (hF : rm.frames + 1 ≤ R.frames) (hL : w + (maxL + 11) + rm.locals ≤ R.locals) (hk : k + rm.cells ≤ R.cells) (hn : n + rm.slots ≤ R.slots)
    (hr : ∀ v h', Q v h' → W l R C E h' (k + rm.cells) (n + rm.slots) (pc + 3) Ls (v.toList ++ st)) : W l R C E h k n pc Ls S := fun T L X N eT => by
  subst hcl
  obtain ⟨cq, kq, qa, qb, qc⟩ := isOf H.2.2.2.2.1 eT X0
  obtain ⟨v, _, ⟨T', L', k', n'⟩, -, X', ⟨Lc, ⟨hQ, hN⟩, l', y', z'⟩, q⟩ := X.virtualBack H.1 (y := y) (z := y) H.2.2.2.1 (mvT H.2.2.2.2.1 w1) (mvT H.2.2.2.2.1 w2) (notFace_of_selects (args := #[]) (mvT H.2.2.2.2.1 w5)) (mvT H.2.2.2.2.1 w5) (mvT H.2.2.2.2.1 w6) hy (payOf (w := w) (hc (by rw [← eT]; exact size_ge H X)) H.2.2.2.2.1 w4 w3 hF hL) qa qc
    (g := mkF C.2.2.2.1 pc Ls S) rfl (by show Ls.size = _; rw [H.2.2.1]; exact hsz) (Steps.refl _) (argsL := argsL) (rest := st) hlen hS (by show 2 * 0 + _ ≤ _; rw [hw]; omega) (hb H.2.1 hd) (fun _ _ => ⟨rfl, eT, hk, hn⟩)
  dsimp only [Pt.U, Pt.locs, Pt.cells, Pt.slots] at X' l' y' z' q hQ
  subst l' y' z'
  exact .trans q (hr v _ hQ T' _ X' (N.app hN) rfl)
theorem Ctr.of {n0 : Nat} {as' : Array Value} (Ls : Array Slot) (hp : plainFor y = true) (hn0 : n0 ≤ h.size) (hef : ∀ m, entryFrame m as' maxL = mkF m 0 Ls []) (hW : ∀ C : Cxt, Cx C Z y.cls bytes maxL rt y.name n0 → W l rm C (n0, rm.cells, rm.slots, Q) h 0 0 0 Ls []) : Ctr l Z y bytes maxL rt rm n0 as' h Q := by
  refine MetFree.of_bodySF hp hisR ?_
  intro p e s m args below meth c s₁ Bd hml0 hP hK
  obtain ⟨rfl, hZ, hh⟩ := hP
  have hnm := (name_of_methodNamed Bd.named Bd.method).1
  have X0 : Stand p l e rm s m args below meth c s₁ [] 0 0 := Stand.of_body Bd
  have e0 : s₁.heap = h := by rw [← hh, Bd.state]; rfl
  obtain ⟨t, o, h1, h2, h3, v, L, h4, h5, h6⟩ := hW (p, e, s, m, args, below, meth, c) ⟨Bd.exec, Bd.bytes, hml0, findClass_of_methodNamed Bd.named, hZ, Bd.returns, Bd.notSynchronized, hnm, by rw [hh]; exact hn0⟩ s₁ [] X0 (Fr.nil n0) e0
  exact ⟨t, o, castTop (hef m) h1, h2, h3, v, L, h4, h5, h6⟩
/-- the judged body itself -/
theorem met_of {n0 K N : Nat} {ws : List Jvm.Cond} {as' : Array Value} (Ls : Array Slot) (hp : plainFor y = true) (hn0 : n0 ≤ h.size) (hef : ∀ m, entryFrame m as' maxL = mkF m 0 Ls []) (hW : ∀ C : Cxt, Cx C Z y.cls bytes maxL rt y.name n0 → W l rm C (n0, K, N, Q) h 0 0 0 Ls []) :
    MetFree l y (head1 (Cond.code y bytes maxL rt :: ws) rm) (fun a U => a = as' ∧ Z.Warmed39 U.vm ∧ U.heap = h) (fun _ _ _ _ _ => True) (fun _ U o U' => ∃ v L, o = .returned v ∧ (Q v U'.heap ∧ Fr n0 L) ∧ FrameEnd U o U' L K N) := by
  refine MetFree.of_bodySF hp hisR ?_
  intro p e s m args below meth c s₁ Bd hml0 hP hK
  obtain ⟨rfl, hZ, hh⟩ := hP
  have hnm := (name_of_methodNamed Bd.named Bd.method).1
  have X0 : Stand p l e rm s m args below meth c s₁ [] 0 0 := Stand.of_body Bd
  have e0 : s₁.heap = h := by rw [← hh, Bd.state]; rfl
  obtain ⟨t, o, h1, h2, h3, v, L, h4, h5, h6⟩ := hW (p, e, s, m, args, below, meth, c) ⟨Bd.exec, Bd.bytes, hml0, findClass_of_methodNamed Bd.named, hZ, Bd.returns, Bd.notSynchronized, hnm, by rw [hh]; exact hn0⟩ s₁ [] X0 (Fr.nil n0) e0
  exact ⟨t, o, castTop (hef m) h1, h2, h3, v, L, h4, h5, h6⟩
end Calls
/-! ends -/
theorem k_retInt {x : Int32} (H : Cx C Z own code ml (some .int) nm E.1) (hd : decode code pc = .ok (.ireturn, 1)) (hk : k ≤ E.2.1) (hn : n ≤ E.2.2.1) (hq : E.2.2.2 (some (.int x)) h) : W l R C E h k n pc Ls (.int x :: st) := fun T L X N eT => by
  obtain ⟨fs, hr, hrun, hend, hW, hs⟩ := X.leave (v := some (.int x)) (fun z => by rw [H.2.2.2.2.2.1] at z; cases z) H.2.2.2.2.2.2.1
  exact ⟨_, _, retOut X H.1 H.2.2.2.2.2.1 rfl (Or.inl ⟨rfl, Or.inl rfl, _, rfl⟩) (hb H.2.1 hd) hr, hrun, hend, _, L, rfl, ⟨by subst eT; exact hq, N⟩, ⟨_, rfl⟩, hW, hs.mono hk hn⟩
theorem k_retN' {x : Int32} {t : FieldType} (ht : t = .boolean ∨ t = .byte ∨ t = .char ∨ t = .short) (H : Cx C Z own code ml (some t) nm E.1) (hd : decode code pc = .ok (.ireturn, 1)) (hk : k ≤ E.2.1) (hn : n ≤ E.2.2.1) (hq : E.2.2.2 (some (.int (nar t x))) h) : W l R C E h k n pc Ls (.int x :: st) := fun T L X N eT => by
  obtain ⟨fs, hr, hrun, hend, hW, hs⟩ := X.leave (v := some (.int (nar t x))) (fun z => by rw [H.2.2.2.2.2.1] at z; cases z) H.2.2.2.2.2.2.1
  exact ⟨_, _, retN X H.1 H.2.2.2.2.2.1 ht (hb H.2.1 hd) hr, hrun, hend, _, L, rfl, ⟨by subst eT; exact hq, N⟩, ⟨_, rfl⟩, hW, hs.mono hk hn⟩
theorem k_retLong {x : Int64} (H : Cx C Z own code ml (some .long) nm E.1) (hd : decode code pc = .ok (.lreturn, 1)) (hk : k ≤ E.2.1) (hn : n ≤ E.2.2.1) (hq : E.2.2.2 (some (.long x)) h) : W l R C E h k n pc Ls (.long x :: st) := fun T L X N eT => by
  obtain ⟨fs, hr, hrun, hend, hW, hs⟩ := X.leave (v := some (.long x)) (fun z => by rw [H.2.2.2.2.2.1] at z; cases z) H.2.2.2.2.2.2.1
  exact ⟨_, _, retOut X H.1 H.2.2.2.2.2.1 rfl (Or.inr (Or.inl ⟨rfl, rfl, _, rfl⟩)) (hb H.2.1 hd) hr, hrun, hend, _, L, rfl, ⟨by subst eT; exact hq, N⟩, ⟨_, rfl⟩, hW, hs.mono hk hn⟩
theorem k_retRef {a : Addr} {t : FieldType} (ht : t.isReference = true) (hnar : narrow t (.ref a) = .ref a) (H : Cx C Z own code ml (some t) nm E.1) (hd : decode code pc = .ok (.areturn, 1)) (hk : k ≤ E.2.1) (hn : n ≤ E.2.2.1) (hq : E.2.2.2 (some (.ref a)) h) : W l R C E h k n pc Ls (.ref a :: st) := fun T L X N eT => by
  obtain ⟨fs, hr, hrun, hend, hW, hs⟩ := X.leave (v := some (.ref a)) (fun z => by rw [H.2.2.2.2.2.1] at z; cases z) H.2.2.2.2.2.2.1
  exact ⟨_, _, retOut X H.1 H.2.2.2.2.2.1 hnar (Or.inr (Or.inr (Or.inr (Or.inr ⟨rfl, ht, rfl⟩)))) (hb H.2.1 hd) hr, hrun, hend, _, L, rfl, ⟨by subst eT; exact hq, N⟩, ⟨_, rfl⟩, hW, hs.mono hk hn⟩
theorem k_retVoid (H : Cx C Z own code ml none nm E.1) (hd : decode code pc = .ok (.return_, 1)) (hk : k ≤ E.2.1) (hn : n ≤ E.2.2.1) (hq : E.2.2.2 none h) : W l R C E h k n pc Ls [] := fun T L X N eT => by
  obtain ⟨fs, hr, hrun, hend, hW, hs⟩ := X.leave (v := none) (fun _ => rfl) H.2.2.2.2.2.2.1
  exact ⟨_, _, X.returnOut H.1 H.2.2.2.2.2.1 (hb H.2.1 hd) hr, hrun, hend, _, L, rfl, ⟨by subst eT; exact hq, N⟩, ⟨_, rfl⟩, hW, hs.mono hk hn⟩
end Own
end Jvm.OwnKit
namespace Jvm.OwnKit
/-! small naturals as ints -/
theorem lt_nat {x y : Int32} {i j : Nat} (hx : x.toInt = (i : Int)) (hy : y.toInt = (j : Int)) : x < y ↔ i < j := by rw [Int32.lt_iff_toInt_lt, hx, hy]; omega
theorem eq_nat {x y : Int32} {i j : Nat} (hx : x.toInt = (i : Int)) (hy : y.toInt = (j : Int)) : x = y ↔ i = j := by rw [← Int32.toInt_inj, hx, hy]; omega
theorem add_nat {x y : Int32} {i j : Nat} (hx : x.toInt = (i : Int)) (hy : y.toInt = (j : Int)) (hb : i + j < 2147483648) : (x + y).toInt = ((i + j : Nat) : Int) := by rw [Jvm.Kit.i32_add] <;> rw [hx, hy] <;> omega
theorem sub_nat {x y : Int32} {i j : Nat} (hx : x.toInt = (i : Int)) (hy : y.toInt = (j : Int)) (hb : j ≤ i) : (x - y).toInt = ((i - j : Nat) : Int) := by have := x.toInt_lt; rw [Jvm.Kit.i32_sub] <;> rw [hx, hy] <;> omega
theorem mul_nat {x y : Int32} {i j : Nat} (hx : x.toInt = (i : Int)) (hy : y.toInt = (j : Int)) (hb : i * j < 2147483648) : (x * y).toInt = ((i * j : Nat) : Int) := by
  have e : (i : Int) * (j : Int) = ((i * j : Nat) : Int) := by simp
  rw [Jvm.Kit.i32_mul] <;> rw [hx, hy, e] <;> omega
theorem rem_nat {x y : Int32} {i j : Nat} (hx : x.toInt = (i : Int)) (hy : y.toInt = (j : Int)) : (x % y).toInt = ((i % j : Nat) : Int) := by rw [Jvm.Kit.i32_rem_nonneg (by omega), hx, hy]; simp
theorem nat_of_nonneg {x : Int32} (h : 0 ≤ x.toInt) : ∃ i : Nat, x.toInt = (i : Int) ∧ i < 2147483648 := ⟨x.toInt.toNat, by omega, by have := x.toInt_lt; omega⟩
/-- a mask of k ones: a natural below 2 ^ k -/
theorem mask_nat (x m : Int32) (k : Nat) (hk : k < 32) (hm : m.toBitVec.toNat = 2 ^ k - 1) : ∃ i : Nat, (x &&& m).toInt = (i : Int) ∧ i < 2 ^ k := by
  have e := Jvm.Kit.i32_mask x m hk hm
  have p : (0 : Int) < 2 ^ k := Int.pow_pos (by omega)
  have h1 := Int.emod_nonneg x.toInt (Int.ne_of_gt p)
  have h2 := Int.emod_lt_of_pos x.toInt p
  refine ⟨(x.toInt % 2 ^ k).toNat, by rw [e]; omega, ?_⟩
  have h3 : ((2 ^ k : Nat) : Int) = 2 ^ k := by simp
  omega
theorem mod_nat (x m y : Int32) (k j : Nat) (hk : k < 32) (hm : m.toBitVec.toNat = 2 ^ k - 1) (hy : y.toInt = (j : Int)) (hj : 0 < j) : ∃ i : Nat, ((x &&& m) % y).toInt = (i : Int) ∧ i < j := by
  obtain ⟨i, h1, h2⟩ := mask_nat x m k hk hm
  exact ⟨i % j, rem_nat h1 hy, Nat.mod_lt _ hj⟩
theorem div_nat {x y : Int32} {i j : Nat} (hx : x.toInt = (i : Int)) (hy : y.toInt = (j : Int)) : (x / y).toInt = ((i / j : Nat) : Int) := by
  rw [Jvm.Kit.i32_div (by omega), hx, hy]; rfl
theorem ushr_nat {x y : Int32} {i : Nat} (k : Nat) (hx : x.toInt = (i : Int)) (hy : (y &&& 31).toUInt32.toNat = k) (hk : k < 32) : (Jvm.Free.XT.ushr x y).toInt = ((i / 2 ^ k : Nat) : Int) := by
  unfold Jvm.Free.XT.ushr
  rw [Jvm.Kit.i32_iushr (by rw [Int32.le_iff_toInt_le, hx]; exact Int.natCast_nonneg _) hy hk, hx]; simp
theorem c16 (c : UInt16) : c.toUInt32.toInt32.toUInt32.toUInt16 = c := by simp
theorem b8 (b : Int8) : b.toInt32.toInt8 = b := by simp
/-- a local's slot of one word -/
def OneW (s : Slot) : Prop := s = .unset ∨ ∃ w, s = .val w ∧ w.category = 1
theorem OneW.unset : OneW .unset := Or.inl rfl
theorem OneW.int (x : Int32) : OneW (.val (.int x)) := Or.inr ⟨_, rfl, rfl⟩
theorem OneW.ref (x : Addr) : OneW (.val (.ref x)) := Or.inr ⟨_, rfl, rfl⟩
end Jvm.OwnKit
namespace Jvm.OwnKit
/-! one bit of a long -/
def bitB (i : Nat) : Int64 := 1 <<< Int64.ofNat i
theorem bitB_of {x : Int32} {p : Nat} (hx : x.toInt = (p : Int)) : (1 : Int64) <<< (x.toInt64 &&& 63) = bitB (p % 64) := by
  have e : x.toInt64 &&& 63 = Int64.ofNat (p % 64) := by
    apply Int64.toInt_inj.mp
    rw [Jvm.Kit.i64_mask x.toInt64 63 (k := 6) (by decide) (by decide), Int32.toInt_toInt64, hx]
    have h64 : p % 64 < 64 := Nat.mod_lt _ (by decide)
    rw [Int64.toInt_ofNat_of_lt (by omega)]
    omega
  rw [e, bitB]
theorem bitB_and : ∀ i < 64, ∀ j < 64, (bitB i &&& bitB j = 0) ↔ i ≠ j := by decide +kernel
theorem bitB_ne : ∀ i < 64, bitB i ≠ 0 := by decide +kernel
theorem and_or {a b c : Int64} : ((a ||| b) &&& c = 0) ↔ (a &&& c = 0 ∧ b &&& c = 0) := by
  constructor
  · intro q
    have q' : (a.toBitVec ||| b.toBitVec) &&& c.toBitVec = 0 := by have := congrArg Int64.toBitVec q; simpa using this
    constructor <;> apply Int64.toBitVec_inj.mp <;> ext i hi <;> have r := congrArg (fun z : BitVec 64 => z[i]) q' <;> simp at r ⊢ <;> intro h1 <;> by_cases h2 : c.toBitVec[i] <;> simp_all
  · rintro ⟨q1, q2⟩
    apply Int64.toBitVec_inj.mp
    ext i hi
    have r1 := congrArg (fun z : Int64 => z.toBitVec[i]) q1
    have r2 := congrArg (fun z : Int64 => z.toBitVec[i]) q2
    simp at r1 r2 ⊢
    intro h1
    rcases h1 with h1 | h1
    · exact r1 h1
    · exact r2 h1
end Jvm.OwnKit
namespace Jvm.OwnKit
/-! a set of naturals as words of 64 bits -/
def wordB : List Nat → Nat → Int64
  | [], _ => 0
  | x :: S, w => wordB S w ||| (if x / 64 = w then bitB (x % 64) else 0)
def wds (S : List Nat) (c : Nat) : List Int64 := (List.range c).map (wordB S)
theorem wds_len (S : List Nat) (c : Nat) : (wds S c).length = c := by simp [wds]
theorem wds_at (S : List Nat) {c w : Nat} (h : w < c) : (wds S c)[w]? = some (wordB S w) := by simp [wds, h]
theorem wds_nil (c : Nat) : wds [] c = List.replicate c 0 := by
  apply List.ext_getElem?
  intro i
  by_cases h : i < c <;> simp [wds, h, wordB, List.getElem?_replicate]
theorem wds_mark (S : List Nat) {c p : Nat} : (wds S c).set (p / 64) (wordB S (p / 64) ||| bitB (p % 64)) = wds (p :: S) c := by
  apply List.ext_getElem?
  intro i
  rw [List.getElem?_set]
  by_cases h : i < c
  · by_cases q : p / 64 = i
    · subst q; simp [wds, h, wordB]
    · simp [wds, h, wordB, q]
  · by_cases q : p / 64 = i
    · subst q; simp [wds, h]
    · simp [wds, h, q]
theorem wordB_and (S : List Nat) (p : Nat) : (wordB S (p / 64) &&& bitB (p % 64) = 0) ↔ p ∉ S := by
  induction S with
  | nil => simp [wordB]
  | cons x S ih =>
    rw [wordB, and_or, ih, List.mem_cons, not_or]
    have h1 : x % 64 < 64 := Nat.mod_lt _ (by decide)
    have h2 : p % 64 < 64 := Nat.mod_lt _ (by decide)
    by_cases q : x / 64 = p / 64
    · simp only [q, if_true, bitB_and _ h1 _ h2]
      constructor
      · rintro ⟨a, b⟩; exact ⟨fun e => b (by rw [e]), a⟩
      · rintro ⟨a, b⟩; exact ⟨b, fun e => a (by omega)⟩
    · simp only [q, if_false]
      constructor
      · rintro ⟨a, b⟩; exact ⟨fun e => q (by rw [e]), a⟩
      · rintro ⟨a, b⟩; exact ⟨b, by simp⟩
end Jvm.OwnKit
namespace Jvm.Pilot.@@N@@
open Jvm Jvm.ClassFile Sem Op Lib Jvm.Free Jvm.Stand Jvm.LawKit Jvm.RoadKit Jvm.OwnKit Bundle Jvm.Pilot.@@N@@.Jvm.D
theorem pn_0 : plainName "com/example/bagwidth/bagwidth/engine/BitSetGraph" = true := by first | (simp [plainName, overriddenIn]; done) | decide +kernel
theorem pd_0 : parseMethodDescriptor "(I)I" = some ⟨[.int], some .int⟩ := by decide +kernel
theorem pn_1 : plainName "com/example/bagwidth/bagwidth/engine/BitSetGraphAddRowToPinLaw" = true := by first | (simp [plainName, overriddenIn]; done) | decide +kernel
theorem pd_1 : parseMethodDescriptor "(ZII)J" = some ⟨[.boolean, .int, .int], some .long⟩ := by decide +kernel
theorem own_ush (x : Int32) {y : Int32} {n : Nat} (hy : y.toInt = (n : Int)) (hn : 0 < n) : ∃ z : Nat, (XT.ushr x (16 : Int32) % y).toInt = (z : Int) ∧ z < n := by
  have h0 : 0 ≤ (XT.ushr x (16 : Int32)).toInt := by
    have := Jvm.Kit.i32_iushr_nonneg x (n := ((16 : Int32) &&& 31).toUInt32) (k := 16) (by decide) (by decide) (by decide)
    rw [Int32.le_iff_toInt_le] at this
    exact this
  obtain ⟨i, hi, -⟩ := nat_of_nonneg h0
  exact ⟨i % n, rem_nat hi hy, Nat.mod_lt _ hn⟩
theorem pd_2 : parseMethodDescriptor "(I)V" = some ⟨[.int], none⟩ := by decide +kernel
theorem pd_3 : parseMethodDescriptor "(I[J)V" = some ⟨[.int, (.array .long)], none⟩ := by decide +kernel
theorem pd_4 : parseMethodDescriptor "([J[JZIZII)Z" = some ⟨[(.array .long), (.array .long), .boolean, .int, .boolean, .int, .int], some .boolean⟩ := by decide +kernel
theorem pd_5 : parseMethodDescriptor "(II)V" = some ⟨[.int, .int], none⟩ := by decide +kernel
def own_b (t : Bool) : Int32 := if t then 1 else 0
theorem own_b0 (t : Bool) : own_b t = 0 ↔ t = false := by cases t <;> decide
/-- the neighbours of v among directed edges -/
def own_nb : List (Nat × Nat) → Nat → List Nat
  | [], _ => []
  | e :: es, v => if e.1 = v then e.2 :: own_nb es v else own_nb es v
def own_rows (es : List (Nat × Nat)) (n wn : Nat) : List Int64 := (List.range ((n + 1) * wn)).map fun i => wordB (own_nb es (i / wn)) (i % wn)
def own_deg (es : List (Nat × Nat)) (n : Nat) : List Int32 := (List.range (n + 1)).map fun v => Int32.ofNat (own_nb es v).length
theorem own_idx {v k wn : Nat} (hk : k < wn) : (v * wn + k) / wn = v ∧ (v * wn + k) % wn = k := by
  have h0 : 0 < wn := by omega
  constructor
  · rw [Nat.mul_comm, Nat.mul_add_div h0, Nat.div_eq_of_lt hk, Nat.add_zero]
  · rw [Nat.mul_comm, Nat.mul_add_mod, Nat.mod_eq_of_lt hk]
theorem own_in {v n k wn : Nat} (hv : v ≤ n) (hk : k < wn) : v * wn + k < (n + 1) * wn := by
  have : (v + 1) * wn ≤ (n + 1) * wn := Nat.mul_le_mul_right _ (by omega)
  rw [Nat.add_mul] at this; omega
theorem own_rows_len (es : List (Nat × Nat)) (n wn : Nat) : (own_rows es n wn).length = (n + 1) * wn := by simp [own_rows]
theorem own_deg_len (es : List (Nat × Nat)) (n : Nat) : (own_deg es n).length = n + 1 := by simp [own_deg]
theorem own_rows_at (es : List (Nat × Nat)) {n wn v k : Nat} (hv : v ≤ n) (hk : k < wn) : (own_rows es n wn)[v * wn + k]? = some (wordB (own_nb es v) k) := by
  have h := own_in hv hk
  simp [own_rows, h, (own_idx hk).1, (own_idx hk).2]
theorem own_deg_at (es : List (Nat × Nat)) {n v : Nat} (hv : v ≤ n) : (own_deg es n)[v]? = some (Int32.ofNat (own_nb es v).length) := by
  have h : v < n + 1 := by omega
  simp [own_deg, h]
theorem own_rows_nil (n wn : Nat) : own_rows [] n wn = List.replicate ((n + 1) * wn) 0 := by
  apply List.ext_getElem?; intro i
  by_cases h : i < (n + 1) * wn <;> simp [own_rows, own_nb, wordB, h, List.getElem?_replicate]
theorem own_deg_nil (n : Nat) : own_deg [] n = List.replicate (n + 1) 0 := by
  apply List.ext_getElem?; intro i
  by_cases h : i < n + 1
  · simp [own_deg, own_nb, h, List.getElem?_replicate]
  · simp [own_deg, h, List.getElem?_replicate]
theorem own_rows_add (es : List (Nat × Nat)) {n wn a b : Nat} (hb : b / 64 < wn) : (own_rows es n wn).set (a * wn + b / 64) (wordB (own_nb es a) (b / 64) ||| bitB (b % 64)) = own_rows ((a, b) :: es) n wn := by
  apply List.ext_getElem?; intro i
  rw [List.getElem?_set]
  have h0 : 0 < wn := by omega
  by_cases h : i < (n + 1) * wn
  · by_cases q : a * wn + b / 64 = i
    · subst q; simp [own_rows, h, (own_idx hb).1, (own_idx hb).2, own_nb, wordB]
    · by_cases q1 : a = i / wn
      · have q2 : ¬ b / 64 = i % wn := fun e => q (by rw [q1, e]; exact Nat.div_add_mod' i wn)
        simp [own_rows, h, q, own_nb, ← q1, wordB, q2]
      · simp [own_rows, h, q, own_nb, q1]
  · by_cases q : a * wn + b / 64 = i
    · subst q; simp [own_rows, h]
    · simp [own_rows, h, q]
theorem own_deg_add (es : List (Nat × Nat)) {n a b : Nat} : (own_deg es n).set a (Int32.ofNat (own_nb es a).length + 1) = own_deg ((a, b) :: es) n := by
  apply List.ext_getElem?; intro i
  rw [List.getElem?_set]
  by_cases h : i < n + 1
  · by_cases q : a = i
    · subst q; simp [own_deg, h, own_nb, Int32.ofNat_add]
    · simp [own_deg, h, own_nb, q]
  · by_cases q : a = i
    · subst q; simp [own_deg, h]
    · simp [own_deg, h, q]
def own_G (Z : State) (h : Heap) (g r d : Addr) (es : List (Nat × Nat)) (n wn : Nat) (wi : Int32) : Prop :=
  Exa Z h g "com/example/bagwidth/bagwidth/engine/BitSetGraph" ∧ Fld Z h g "com/example/bagwidth/bagwidth/engine/BitSetGraph" "words" "I" (.int wi) ∧ Fld Z h g "com/example/bagwidth/bagwidth/engine/BitSetGraph" "rows" "[J" (.ref r) ∧ Fld Z h g "com/example/bagwidth/bagwidth/engine/BitSetGraph" "degrees" "[I" (.ref d) ∧ JA Z h r (own_rows es n wn) ∧ IA Z h d (own_deg es n)
def own_upd (f : Nat → Int64 → Int64) : List Int64 → Nat → Nat → List Int64
  | xs, _, 0 => xs
  | xs, i, k + 1 => own_upd f (xs.set i (f i (xs.getD i 0))) (i + 1) k
theorem own_get {α : Type} {xs : List α} {i : Nat} (dv : α) (h : i < xs.length) : xs[i]? = some (xs.getD i dv) := by simp [List.getD_eq_getElem?_getD, h]
theorem d3_0 : decode prog_2_method_3_code 0 = .ok (.iload_n 0, 1) := by decide +kernel
theorem d3_1 : decode prog_2_method_3_code 1 = .ok (.bipush 6, 2) := by decide +kernel
theorem d3_3 : decode prog_2_method_3_code 3 = .ok (.iushr, 1) := by decide +kernel
theorem d3_4 : decode prog_2_method_3_code 4 = .ok (.iconst 1, 1) := by decide +kernel
theorem d3_5 : decode prog_2_method_3_code 5 = .ok (.iadd, 1) := by decide +kernel
theorem d3_6 : decode prog_2_method_3_code 6 = .ok (.ireturn, 1) := by decide +kernel
abbrev own_rm3_room : Room := { frames := 0, cells := 0, slots := 0, locals := 0 }
set_option maxRecDepth 65536 in
set_option maxHeartbeats 40000000 in
theorem rm3 (l : Launch) (Z : State) (a0 : Array Value) (hw : ∀ d ∈ tables_1, d.before a0 Z = true) (n0 : Nat) (h0 : Heap) (Z0 : n0 ≤ h0.size) (x : Int32)  :
    Ctr l Z (⟨"com/example/bagwidth/bagwidth/engine/BitSetGraph", "wordsFor", "(I)I"⟩ : MethodName) prog_2_method_3_code 1 (some .int) own_rm3_room n0 #[(.int x)] h0 (fun v h => v = some (.int (XT.ushr x 6 + 1)) ∧ h = h0) := by
  refine Ctr.of #[.val (.int x)] (plainFor_of_name pn_0) Z0 (fun m => by first | (simp [entryFrame, mkF, argsToLocals, Value.category]; done) | rfl) ?_
  intro C H
  refine k_iloadN (pc := 0) H d3_0 rfl ?_
  refine k_bipush (6 : Int32) (pc := 1) H d3_1 rfl ?_
  refine k_iushr (pc := 3) H d3_3 ?_
  refine k_iconst (1 : Int32) (pc := 4) H d3_4 rfl ?_
  refine k_iadd (pc := 5) H d3_5 ?_
  exact k_retInt (pc := 6) H d3_6 (by show 0 ≤ own_rm3_room.cells; decide) (by show 0 ≤ own_rm3_room.slots; decide) (⟨rfl, rfl⟩)
theorem d1_0 : decode prog_2_method_1_code 0 = .ok (.aload_n 0, 1) := by decide +kernel
theorem d1_1 : decode prog_2_method_1_code 1 = .ok (.invokespecial 1, 3) := by decide +kernel
theorem d1_4 : decode prog_2_method_1_code 4 = .ok (.aload_n 0, 1) := by decide +kernel
theorem d1_5 : decode prog_2_method_1_code 5 = .ok (.bipush 16, 2) := by decide +kernel
theorem d1_7 : decode prog_2_method_1_code 7 = .ok (.newarray .int, 2) := by decide +kernel
theorem d1_9 : decode prog_2_method_1_code 9 = .ok (.putfield 7, 3) := by decide +kernel
theorem d1_12 : decode prog_2_method_1_code 12 = .ok (.aload_n 0, 1) := by decide +kernel
theorem d1_13 : decode prog_2_method_1_code 13 = .ok (.bipush 16, 2) := by decide +kernel
theorem d1_15 : decode prog_2_method_1_code 15 = .ok (.newarray .int, 2) := by decide +kernel
theorem d1_17 : decode prog_2_method_1_code 17 = .ok (.putfield 13, 3) := by decide +kernel
theorem d1_20 : decode prog_2_method_1_code 20 = .ok (.aload_n 0, 1) := by decide +kernel
theorem d1_21 : decode prog_2_method_1_code 21 = .ok (.iload_n 1, 1) := by decide +kernel
theorem d1_22 : decode prog_2_method_1_code 22 = .ok (.putfield 16, 3) := by decide +kernel
theorem d1_25 : decode prog_2_method_1_code 25 = .ok (.aload_n 0, 1) := by decide +kernel
theorem d1_26 : decode prog_2_method_1_code 26 = .ok (.iload_n 1, 1) := by decide +kernel
theorem d1_27 : decode prog_2_method_1_code 27 = .ok (.invokestatic 20, 3) := by decide +kernel
theorem d1_30 : decode prog_2_method_1_code 30 = .ok (.putfield 24, 3) := by decide +kernel
theorem d1_33 : decode prog_2_method_1_code 33 = .ok (.aload_n 0, 1) := by decide +kernel
theorem d1_34 : decode prog_2_method_1_code 34 = .ok (.iload_n 1, 1) := by decide +kernel
theorem d1_35 : decode prog_2_method_1_code 35 = .ok (.iconst 1, 1) := by decide +kernel
theorem d1_36 : decode prog_2_method_1_code 36 = .ok (.iadd, 1) := by decide +kernel
theorem d1_37 : decode prog_2_method_1_code 37 = .ok (.aload_n 0, 1) := by decide +kernel
theorem d1_38 : decode prog_2_method_1_code 38 = .ok (.getfield 24, 3) := by decide +kernel
theorem d1_41 : decode prog_2_method_1_code 41 = .ok (.imul, 1) := by decide +kernel
theorem d1_42 : decode prog_2_method_1_code 42 = .ok (.newarray .long, 2) := by decide +kernel
theorem d1_44 : decode prog_2_method_1_code 44 = .ok (.putfield 27, 3) := by decide +kernel
theorem d1_47 : decode prog_2_method_1_code 47 = .ok (.aload_n 0, 1) := by decide +kernel
theorem d1_48 : decode prog_2_method_1_code 48 = .ok (.iload_n 1, 1) := by decide +kernel
theorem d1_49 : decode prog_2_method_1_code 49 = .ok (.iconst 1, 1) := by decide +kernel
theorem d1_50 : decode prog_2_method_1_code 50 = .ok (.iadd, 1) := by decide +kernel
theorem d1_51 : decode prog_2_method_1_code 51 = .ok (.newarray .int, 2) := by decide +kernel
theorem d1_53 : decode prog_2_method_1_code 53 = .ok (.putfield 31, 3) := by decide +kernel
theorem d1_56 : decode prog_2_method_1_code 56 = .ok (.aload_n 0, 1) := by decide +kernel
theorem d1_57 : decode prog_2_method_1_code 57 = .ok (.aload_n 0, 1) := by decide +kernel
theorem d1_58 : decode prog_2_method_1_code 58 = .ok (.getfield 7, 3) := by decide +kernel
theorem d1_61 : decode prog_2_method_1_code 61 = .ok (.arraylength, 1) := by decide +kernel
theorem d1_62 : decode prog_2_method_1_code 62 = .ok (.aload_n 0, 1) := by decide +kernel
theorem d1_63 : decode prog_2_method_1_code 63 = .ok (.getfield 24, 3) := by decide +kernel
theorem d1_66 : decode prog_2_method_1_code 66 = .ok (.imul, 1) := by decide +kernel
theorem d1_67 : decode prog_2_method_1_code 67 = .ok (.newarray .long, 2) := by decide +kernel
theorem d1_69 : decode prog_2_method_1_code 69 = .ok (.putfield 34, 3) := by decide +kernel
theorem d1_72 : decode prog_2_method_1_code 72 = .ok (.return_, 1) := by decide +kernel
abbrev own_rm1_room : Room := { frames := 1, cells := 5, slots := 1376, locals := 13 }
set_option maxRecDepth 65536 in
set_option maxHeartbeats 40000000 in
theorem rm1 (l : Launch) (Z : State) (a0 : Array Value) (hw : ∀ d ∈ tables_1, d.before a0 Z = true) (n0 : Nat) (h0 : Heap) (Z0 : n0 ≤ h0.size) (g : Addr) (x : Int32) (n : Nat) (gg : n0 ≤ g) (X : Exa Z h0 g "com/example/bagwidth/bagwidth/engine/BitSetGraph") (F_keptVertices : Fld Z h0 g "com/example/bagwidth/bagwidth/engine/BitSetGraph" "keptVertices" "[I" .null) (F_keptDegrees : Fld Z h0 g "com/example/bagwidth/bagwidth/engine/BitSetGraph" "keptDegrees" "[I" .null) (F_vertexCount : Fld Z h0 g "com/example/bagwidth/bagwidth/engine/BitSetGraph" "vertexCount" "I" (.int (0 : Int32))) (F_words : Fld Z h0 g "com/example/bagwidth/bagwidth/engine/BitSetGraph" "words" "I" (.int (0 : Int32))) (F_rows : Fld Z h0 g "com/example/bagwidth/bagwidth/engine/BitSetGraph" "rows" "[J" .null) (F_degrees : Fld Z h0 g "com/example/bagwidth/bagwidth/engine/BitSetGraph" "degrees" "[I" .null) (F_keptRows : Fld Z h0 g "com/example/bagwidth/bagwidth/engine/BitSetGraph" "keptRows" "[J" .null) (hx : x.toInt = (n : Int)) (hn : n ≤ 255) :
    Ctr l Z (⟨"com/example/bagwidth/bagwidth/engine/BitSetGraph", "<init>", "(I)V"⟩ : MethodName) prog_2_method_1_code 2 none own_rm1_room n0 #[(.ref g), (.int x)] h0 (fun v h => v = none ∧ ∃ (r d : Addr) (wi : Int32), n0 ≤ r ∧ n0 ≤ d ∧ g ≠ r ∧ g ≠ d ∧ r ≠ d ∧ Keep h0 h [g] ∧ Exa Z h g "com/example/bagwidth/bagwidth/engine/BitSetGraph" ∧ Fld Z h g "com/example/bagwidth/bagwidth/engine/BitSetGraph" "words" "I" (.int wi) ∧ Fld Z h g "com/example/bagwidth/bagwidth/engine/BitSetGraph" "rows" "[J" (.ref r) ∧ Fld Z h g "com/example/bagwidth/bagwidth/engine/BitSetGraph" "degrees" "[I" (.ref d) ∧ JA Z h r (own_rows [] n (n / 64 + 1)) ∧ IA Z h d (own_deg [] n) ∧ wi.toInt = ((n / 64 + 1 : Nat) : Int)) := by
  refine Ctr.of #[.val (.ref g), .val (.int x)] (plainFor_of_name pn_0) Z0 (fun m => by first | (simp [entryFrame, mkF, argsToLocals, Value.category]; done) | rfl) ?_
  intro C H
  refine k_aloadN (pc := 0) H d1_0 rfl rfl ?_
  refine k_initObj (w := 0) (pc := 1) H (wd hw 8 rfl) (wd hw 9 rfl) (wd hw 10 rfl) d1_1 rfl (by decide) rfl (by decide) ?_
  refine k_aloadN (pc := 4) H d1_4 rfl rfl ?_
  refine k_bipush (16 : Int32) (pc := 5) H d1_5 rfl ?_
  refine k_new_int (16) 16 (pc := 7) H (wd hw 11 rfl) d1_7 (by decide) (by decide) (by decide) (by decide) (by decide) ?_
  intro h2 kv ea3 ge4 E5 XA1 V6
  have fr7 : h0.size ≤ kv := by rw [ea3]; exact (Keep.refl h0 [g]).1
  have ne8 : g ≠ kv := Nat.ne_of_lt (by rw [ea3]; exact X.lt)
  have KW9 : Keep h0 h2 [g] := (Keep.refl h0 [g]).ext E5
  have f10 : Exa Z h2 g "com/example/bagwidth/bagwidth/engine/BitSetGraph" := Jvm.RoadKit.Exa.ext E5 X
  have f11 : Fld Z h2 g "com/example/bagwidth/bagwidth/engine/BitSetGraph" "keptVertices" "[I" .null := Jvm.RoadKit.Fld.ext E5 F_keptVertices
  have f12 : Fld Z h2 g "com/example/bagwidth/bagwidth/engine/BitSetGraph" "keptDegrees" "[I" .null := Jvm.RoadKit.Fld.ext E5 F_keptDegrees
  have f13 : Fld Z h2 g "com/example/bagwidth/bagwidth/engine/BitSetGraph" "vertexCount" "I" (.int (0 : Int32)) := Jvm.RoadKit.Fld.ext E5 F_vertexCount
  have f14 : Fld Z h2 g "com/example/bagwidth/bagwidth/engine/BitSetGraph" "words" "I" (.int (0 : Int32)) := Jvm.RoadKit.Fld.ext E5 F_words
  have f15 : Fld Z h2 g "com/example/bagwidth/bagwidth/engine/BitSetGraph" "rows" "[J" .null := Jvm.RoadKit.Fld.ext E5 F_rows
  have f16 : Fld Z h2 g "com/example/bagwidth/bagwidth/engine/BitSetGraph" "degrees" "[I" .null := Jvm.RoadKit.Fld.ext E5 F_degrees
  have f17 : Fld Z h2 g "com/example/bagwidth/bagwidth/engine/BitSetGraph" "keptRows" "[J" .null := Jvm.RoadKit.Fld.ext E5 F_keptRows
  refine k_putfield (.array .int) (pc := 9) H (wd hw 12 rfl) f11 f10 (Or.inl (wd hw 13 rfl)) (wd hw 3 rfl) (by decide) rfl rfl gg d1_9 ?_
  intro h18 Wr19 f20
  have KW21 : Keep h0 h18 [g] := KW9.wr Wr19 (Or.inl (List.mem_of_getElem? (i := 0) rfl))
  have f22 : Exa Z h18 g "com/example/bagwidth/bagwidth/engine/BitSetGraph" := Jvm.RoadKit.Exa.wr Wr19 f10
  have f23 : Fld Z h18 g "com/example/bagwidth/bagwidth/engine/BitSetGraph" "keptDegrees" "[I" .null := Jvm.RoadKit.Fld.other Wr19 f12 (Or.inr (slot_ne (t := (.array .int)) (t' := (.array .int)) (Or.inl (wd hw 15 rfl)) (Or.inl (wd hw 13 rfl)) (by decide) (by decide) (by decide)))
  have f24 : Fld Z h18 g "com/example/bagwidth/bagwidth/engine/BitSetGraph" "vertexCount" "I" (.int (0 : Int32)) := Jvm.RoadKit.Fld.other Wr19 f13 (Or.inr (slot_ne (t := .int) (t' := (.array .int)) (Or.inr (wd hw 17 rfl)) (Or.inl (wd hw 13 rfl)) (by decide) (by decide) (by decide)))
  have f25 : Fld Z h18 g "com/example/bagwidth/bagwidth/engine/BitSetGraph" "words" "I" (.int (0 : Int32)) := Jvm.RoadKit.Fld.other Wr19 f14 (Or.inr (slot_ne (t := .int) (t' := (.array .int)) (Or.inr (wd hw 22 rfl)) (Or.inl (wd hw 13 rfl)) (by decide) (by decide) (by decide)))
  have f26 : Fld Z h18 g "com/example/bagwidth/bagwidth/engine/BitSetGraph" "rows" "[J" .null := Jvm.RoadKit.Fld.other Wr19 f15 (Or.inr (slot_ne (t := (.array .long)) (t' := (.array .int)) (Or.inr (wd hw 25 rfl)) (Or.inl (wd hw 13 rfl)) (by decide) (by decide) (by decide)))
  have f27 : Fld Z h18 g "com/example/bagwidth/bagwidth/engine/BitSetGraph" "degrees" "[I" .null := Jvm.RoadKit.Fld.other Wr19 f16 (Or.inr (slot_ne (t := (.array .int)) (t' := (.array .int)) (Or.inr (wd hw 27 rfl)) (Or.inl (wd hw 13 rfl)) (by decide) (by decide) (by decide)))
  have f28 : Fld Z h18 g "com/example/bagwidth/bagwidth/engine/BitSetGraph" "keptRows" "[J" .null := Jvm.RoadKit.Fld.other Wr19 f17 (Or.inr (slot_ne (t := (.array .long)) (t' := (.array .int)) (Or.inl (wd hw 29 rfl)) (Or.inl (wd hw 13 rfl)) (by decide) (by decide) (by decide)))
  have f29 : IA Z h18 kv (List.replicate (16) 0) := V6.other Wr19 (Ne.symm ne8)
  refine k_aloadN (pc := 12) H d1_12 rfl rfl ?_
  refine k_bipush (16 : Int32) (pc := 13) H d1_13 rfl ?_
  refine k_new_int (16) 16 (pc := 15) H (wd hw 11 rfl) d1_15 (by decide) (by decide) (by decide) (by decide) (by decide) ?_
  intro h31 kd ea32 ge33 E34 XA30 V35
  have fr36 : h0.size ≤ kd := by rw [ea32]; exact KW21.1
  have ne37 : g ≠ kd := Nat.ne_of_lt (by rw [ea32]; exact f22.lt)
  have ne38 : kv ≠ kd := Nat.ne_of_lt (by rw [ea32]; exact f29.lt)
  have KW39 : Keep h0 h31 [g] := KW21.ext E34
  have f40 : Exa Z h31 g "com/example/bagwidth/bagwidth/engine/BitSetGraph" := Jvm.RoadKit.Exa.ext E34 f22
  have f41 : Fld Z h31 g "com/example/bagwidth/bagwidth/engine/BitSetGraph" "keptDegrees" "[I" .null := Jvm.RoadKit.Fld.ext E34 f23
  have f42 : Fld Z h31 g "com/example/bagwidth/bagwidth/engine/BitSetGraph" "vertexCount" "I" (.int (0 : Int32)) := Jvm.RoadKit.Fld.ext E34 f24
  have f43 : Fld Z h31 g "com/example/bagwidth/bagwidth/engine/BitSetGraph" "words" "I" (.int (0 : Int32)) := Jvm.RoadKit.Fld.ext E34 f25
  have f44 : Fld Z h31 g "com/example/bagwidth/bagwidth/engine/BitSetGraph" "rows" "[J" .null := Jvm.RoadKit.Fld.ext E34 f26
  have f45 : Fld Z h31 g "com/example/bagwidth/bagwidth/engine/BitSetGraph" "degrees" "[I" .null := Jvm.RoadKit.Fld.ext E34 f27
  have f46 : Fld Z h31 g "com/example/bagwidth/bagwidth/engine/BitSetGraph" "keptRows" "[J" .null := Jvm.RoadKit.Fld.ext E34 f28
  have f47 : IA Z h31 kv (List.replicate (16) 0) := f29.ext E34
  have f48 : Fld Z h31 g "com/example/bagwidth/bagwidth/engine/BitSetGraph" "keptVertices" "[I" (.ref kv) := Jvm.RoadKit.Fld.ext E34 f20
  refine k_putfield (.array .int) (pc := 17) H (wd hw 14 rfl) f41 f40 (Or.inl (wd hw 15 rfl)) (wd hw 3 rfl) (by decide) rfl rfl gg d1_17 ?_
  intro h49 Wr50 f51
  have KW52 : Keep h0 h49 [g] := KW39.wr Wr50 (Or.inl (List.mem_of_getElem? (i := 0) rfl))
  have f53 : Exa Z h49 g "com/example/bagwidth/bagwidth/engine/BitSetGraph" := Jvm.RoadKit.Exa.wr Wr50 f40
  have f54 : Fld Z h49 g "com/example/bagwidth/bagwidth/engine/BitSetGraph" "vertexCount" "I" (.int (0 : Int32)) := Jvm.RoadKit.Fld.other Wr50 f42 (Or.inr (slot_ne (t := .int) (t' := (.array .int)) (Or.inr (wd hw 17 rfl)) (Or.inl (wd hw 15 rfl)) (by decide) (by decide) (by decide)))
  have f55 : Fld Z h49 g "com/example/bagwidth/bagwidth/engine/BitSetGraph" "words" "I" (.int (0 : Int32)) := Jvm.RoadKit.Fld.other Wr50 f43 (Or.inr (slot_ne (t := .int) (t' := (.array .int)) (Or.inr (wd hw 22 rfl)) (Or.inl (wd hw 15 rfl)) (by decide) (by decide) (by decide)))
  have f56 : Fld Z h49 g "com/example/bagwidth/bagwidth/engine/BitSetGraph" "rows" "[J" .null := Jvm.RoadKit.Fld.other Wr50 f44 (Or.inr (slot_ne (t := (.array .long)) (t' := (.array .int)) (Or.inr (wd hw 25 rfl)) (Or.inl (wd hw 15 rfl)) (by decide) (by decide) (by decide)))
  have f57 : Fld Z h49 g "com/example/bagwidth/bagwidth/engine/BitSetGraph" "degrees" "[I" .null := Jvm.RoadKit.Fld.other Wr50 f45 (Or.inr (slot_ne (t := (.array .int)) (t' := (.array .int)) (Or.inr (wd hw 27 rfl)) (Or.inl (wd hw 15 rfl)) (by decide) (by decide) (by decide)))
  have f58 : Fld Z h49 g "com/example/bagwidth/bagwidth/engine/BitSetGraph" "keptRows" "[J" .null := Jvm.RoadKit.Fld.other Wr50 f46 (Or.inr (slot_ne (t := (.array .long)) (t' := (.array .int)) (Or.inl (wd hw 29 rfl)) (Or.inl (wd hw 15 rfl)) (by decide) (by decide) (by decide)))
  have f59 : IA Z h49 kv (List.replicate (16) 0) := f47.other Wr50 (Ne.symm ne8)
  have f60 : Fld Z h49 g "com/example/bagwidth/bagwidth/engine/BitSetGraph" "keptVertices" "[I" (.ref kv) := Jvm.RoadKit.Fld.other Wr50 f48 (Or.inr (slot_ne (t := (.array .int)) (t' := (.array .int)) (Or.inl (wd hw 13 rfl)) (Or.inl (wd hw 15 rfl)) (by decide) (by decide) (by decide)))
  have f61 : IA Z h49 kd (List.replicate (16) 0) := V35.other Wr50 (Ne.symm ne37)
  refine k_aloadN (pc := 20) H d1_20 rfl rfl ?_
  refine k_iloadN (pc := 21) H d1_21 rfl ?_
  refine k_putfield .int (pc := 22) H (wd hw 16 rfl) f54 f53 (Or.inr ⟨(wd hw 17 rfl), rfl, rfl⟩) (wd hw 3 rfl) (by decide) rfl rfl gg d1_22 ?_
  intro h62 Wr63 f64
  have KW65 : Keep h0 h62 [g] := KW52.wr Wr63 (Or.inl (List.mem_of_getElem? (i := 0) rfl))
  have f66 : Exa Z h62 g "com/example/bagwidth/bagwidth/engine/BitSetGraph" := Jvm.RoadKit.Exa.wr Wr63 f53
  have f67 : Fld Z h62 g "com/example/bagwidth/bagwidth/engine/BitSetGraph" "words" "I" (.int (0 : Int32)) := Jvm.RoadKit.Fld.other Wr63 f55 (Or.inr (slot_ne (t := .int) (t' := .int) (Or.inr (wd hw 22 rfl)) (Or.inr (wd hw 17 rfl)) (by decide) (by decide) (by decide)))
  have f68 : Fld Z h62 g "com/example/bagwidth/bagwidth/engine/BitSetGraph" "rows" "[J" .null := Jvm.RoadKit.Fld.other Wr63 f56 (Or.inr (slot_ne (t := (.array .long)) (t' := .int) (Or.inr (wd hw 25 rfl)) (Or.inr (wd hw 17 rfl)) (by decide) (by decide) (by decide)))
  have f69 : Fld Z h62 g "com/example/bagwidth/bagwidth/engine/BitSetGraph" "degrees" "[I" .null := Jvm.RoadKit.Fld.other Wr63 f57 (Or.inr (slot_ne (t := (.array .int)) (t' := .int) (Or.inr (wd hw 27 rfl)) (Or.inr (wd hw 17 rfl)) (by decide) (by decide) (by decide)))
  have f70 : Fld Z h62 g "com/example/bagwidth/bagwidth/engine/BitSetGraph" "keptRows" "[J" .null := Jvm.RoadKit.Fld.other Wr63 f58 (Or.inr (slot_ne (t := (.array .long)) (t' := .int) (Or.inl (wd hw 29 rfl)) (Or.inr (wd hw 17 rfl)) (by decide) (by decide) (by decide)))
  have f71 : IA Z h62 kv (List.replicate (16) 0) := f59.other Wr63 (Ne.symm ne8)
  have f72 : Fld Z h62 g "com/example/bagwidth/bagwidth/engine/BitSetGraph" "keptVertices" "[I" (.ref kv) := Jvm.RoadKit.Fld.other Wr63 f60 (Or.inr (slot_ne (t := (.array .int)) (t' := .int) (Or.inl (wd hw 13 rfl)) (Or.inr (wd hw 17 rfl)) (by decide) (by decide) (by decide)))
  have f73 : IA Z h62 kd (List.replicate (16) 0) := f61.other Wr63 (Ne.symm ne37)
  have f74 : Fld Z h62 g "com/example/bagwidth/bagwidth/engine/BitSetGraph" "keptDegrees" "[I" (.ref kd) := Jvm.RoadKit.Fld.other Wr63 f51 (Or.inr (slot_ne (t := (.array .int)) (t' := .int) (Or.inl (wd hw 15 rfl)) (Or.inr (wd hw 17 rfl)) (by decide) (by decide) (by decide)))
  refine k_aloadN (pc := 25) H d1_25 rfl rfl ?_
  refine k_iloadN (pc := 26) H d1_26 rfl ?_
  refine k_invS (y := (⟨"com/example/bagwidth/bagwidth/engine/BitSetGraph", "wordsFor", "(I)I"⟩ : MethodName)) (st := [(.ref g)]) [(.int x)] 1 (pc := 27) H (wd hw 18 rfl) (wd hw 19 rfl) (wd hw 4 rfl) (wd hw 20 rfl) (by decide) (fun z0 => rm3 l Z a0 hw n0 h62 z0 x) (lenOf pd_0 rfl) d1_27 rfl rfl rfl (by decide) (by decide) (by decide) (by decide) ?_
  rintro v hx ⟨rfl, ex⟩
  rw [ex]
  clear ex hx
  show W l own_rm1_room C _ h62 2 32 30 #[.val (.ref g), .val (.int x)] [(.int (XT.ushr x (6 : Int32) + (1 : Int32))), (.ref g)]
  generalize hv_wi : (XT.ushr x (6 : Int32) + (1 : Int32)) = wi
  have hwi : wi.toInt = ((n / 64 + 1 : Nat) : Int) := by rw [← hv_wi]; exact add_nat (ushr_nat 6 hx (by decide) (by decide)) rfl (by omega)
  have hw5 : n / 64 + 1 ≤ 4 := by omega
  have hm1 : (n + 1) * (n / 64 + 1) ≤ 1024 := Nat.mul_le_mul (Nat.add_le_add_right hn 1) hw5
  refine k_putfield .int (pc := 30) H (wd hw 21 rfl) f67 f66 (Or.inr ⟨(wd hw 22 rfl), rfl, rfl⟩) (wd hw 3 rfl) (by decide) rfl rfl gg d1_30 ?_
  intro h75 Wr76 f77
  have KW78 : Keep h0 h75 [g] := KW65.wr Wr76 (Or.inl (List.mem_of_getElem? (i := 0) rfl))
  have f79 : Exa Z h75 g "com/example/bagwidth/bagwidth/engine/BitSetGraph" := Jvm.RoadKit.Exa.wr Wr76 f66
  have f80 : Fld Z h75 g "com/example/bagwidth/bagwidth/engine/BitSetGraph" "rows" "[J" .null := Jvm.RoadKit.Fld.other Wr76 f68 (Or.inr (slot_ne (t := (.array .long)) (t' := .int) (Or.inr (wd hw 25 rfl)) (Or.inr (wd hw 22 rfl)) (by decide) (by decide) (by decide)))
  have f81 : Fld Z h75 g "com/example/bagwidth/bagwidth/engine/BitSetGraph" "degrees" "[I" .null := Jvm.RoadKit.Fld.other Wr76 f69 (Or.inr (slot_ne (t := (.array .int)) (t' := .int) (Or.inr (wd hw 27 rfl)) (Or.inr (wd hw 22 rfl)) (by decide) (by decide) (by decide)))
  have f82 : Fld Z h75 g "com/example/bagwidth/bagwidth/engine/BitSetGraph" "keptRows" "[J" .null := Jvm.RoadKit.Fld.other Wr76 f70 (Or.inr (slot_ne (t := (.array .long)) (t' := .int) (Or.inl (wd hw 29 rfl)) (Or.inr (wd hw 22 rfl)) (by decide) (by decide) (by decide)))
  have f83 : IA Z h75 kv (List.replicate (16) 0) := f71.other Wr76 (Ne.symm ne8)
  have f84 : Fld Z h75 g "com/example/bagwidth/bagwidth/engine/BitSetGraph" "keptVertices" "[I" (.ref kv) := Jvm.RoadKit.Fld.other Wr76 f72 (Or.inr (slot_ne (t := (.array .int)) (t' := .int) (Or.inl (wd hw 13 rfl)) (Or.inr (wd hw 22 rfl)) (by decide) (by decide) (by decide)))
  have f85 : IA Z h75 kd (List.replicate (16) 0) := f73.other Wr76 (Ne.symm ne37)
  have f86 : Fld Z h75 g "com/example/bagwidth/bagwidth/engine/BitSetGraph" "keptDegrees" "[I" (.ref kd) := Jvm.RoadKit.Fld.other Wr76 f74 (Or.inr (slot_ne (t := (.array .int)) (t' := .int) (Or.inl (wd hw 15 rfl)) (Or.inr (wd hw 22 rfl)) (by decide) (by decide) (by decide)))
  have f87 : Fld Z h75 g "com/example/bagwidth/bagwidth/engine/BitSetGraph" "vertexCount" "I" (.int x) := Jvm.RoadKit.Fld.other Wr76 f64 (Or.inr (slot_ne (t := .int) (t' := .int) (Or.inr (wd hw 17 rfl)) (Or.inr (wd hw 22 rfl)) (by decide) (by decide) (by decide)))
  refine k_aloadN (pc := 33) H d1_33 rfl rfl ?_
  refine k_iloadN (pc := 34) H d1_34 rfl ?_
  refine k_iconst (1 : Int32) (pc := 35) H d1_35 rfl ?_
  refine k_iadd (pc := 36) H d1_36 ?_
  refine k_aloadN (pc := 37) H d1_37 rfl rfl ?_
  refine k_getfield (pc := 38) H (wd hw 21 rfl) f77 d1_38 ?_
  refine k_imul (pc := 41) H d1_41 ?_
  refine k_new_long ((n + 1) * (n / 64 + 1)) 1024 (pc := 42) H (wd hw 23 rfl) d1_42 (mul_nat (add_nat hx rfl (by omega)) hwi (by omega)) (hm1) (by decide) (by decide) (by decide) ?_
  intro h89 r ea90 ge91 E92 XA88 V93
  have fr94 : h0.size ≤ r := by rw [ea90]; exact KW78.1
  have ne95 : g ≠ r := Nat.ne_of_lt (by rw [ea90]; exact f79.lt)
  have ne96 : kv ≠ r := Nat.ne_of_lt (by rw [ea90]; exact f83.lt)
  have ne97 : kd ≠ r := Nat.ne_of_lt (by rw [ea90]; exact f85.lt)
  have KW98 : Keep h0 h89 [g] := KW78.ext E92
  have f99 : Exa Z h89 g "com/example/bagwidth/bagwidth/engine/BitSetGraph" := Jvm.RoadKit.Exa.ext E92 f79
  have f100 : Fld Z h89 g "com/example/bagwidth/bagwidth/engine/BitSetGraph" "rows" "[J" .null := Jvm.RoadKit.Fld.ext E92 f80
  have f101 : Fld Z h89 g "com/example/bagwidth/bagwidth/engine/BitSetGraph" "degrees" "[I" .null := Jvm.RoadKit.Fld.ext E92 f81
  have f102 : Fld Z h89 g "com/example/bagwidth/bagwidth/engine/BitSetGraph" "keptRows" "[J" .null := Jvm.RoadKit.Fld.ext E92 f82
  have f103 : IA Z h89 kv (List.replicate (16) 0) := f83.ext E92
  have f104 : Fld Z h89 g "com/example/bagwidth/bagwidth/engine/BitSetGraph" "keptVertices" "[I" (.ref kv) := Jvm.RoadKit.Fld.ext E92 f84
  have f105 : IA Z h89 kd (List.replicate (16) 0) := f85.ext E92
  have f106 : Fld Z h89 g "com/example/bagwidth/bagwidth/engine/BitSetGraph" "keptDegrees" "[I" (.ref kd) := Jvm.RoadKit.Fld.ext E92 f86
  have f107 : Fld Z h89 g "com/example/bagwidth/bagwidth/engine/BitSetGraph" "vertexCount" "I" (.int x) := Jvm.RoadKit.Fld.ext E92 f87
  have f108 : Fld Z h89 g "com/example/bagwidth/bagwidth/engine/BitSetGraph" "words" "I" (.int wi) := Jvm.RoadKit.Fld.ext E92 f77
  refine k_putfield (.array .long) (pc := 44) H (wd hw 24 rfl) f100 f99 (Or.inr ⟨(wd hw 25 rfl), rfl, rfl⟩) (wd hw 3 rfl) (by decide) rfl rfl gg d1_44 ?_
  intro h109 Wr110 f111
  have KW112 : Keep h0 h109 [g] := KW98.wr Wr110 (Or.inl (List.mem_of_getElem? (i := 0) rfl))
  have f113 : Exa Z h109 g "com/example/bagwidth/bagwidth/engine/BitSetGraph" := Jvm.RoadKit.Exa.wr Wr110 f99
  have f114 : Fld Z h109 g "com/example/bagwidth/bagwidth/engine/BitSetGraph" "degrees" "[I" .null := Jvm.RoadKit.Fld.other Wr110 f101 (Or.inr (slot_ne (t := (.array .int)) (t' := (.array .long)) (Or.inr (wd hw 27 rfl)) (Or.inr (wd hw 25 rfl)) (by decide) (by decide) (by decide)))
  have f115 : Fld Z h109 g "com/example/bagwidth/bagwidth/engine/BitSetGraph" "keptRows" "[J" .null := Jvm.RoadKit.Fld.other Wr110 f102 (Or.inr (slot_ne (t := (.array .long)) (t' := (.array .long)) (Or.inl (wd hw 29 rfl)) (Or.inr (wd hw 25 rfl)) (by decide) (by decide) (by decide)))
  have f116 : IA Z h109 kv (List.replicate (16) 0) := f103.other Wr110 (Ne.symm ne8)
  have f117 : Fld Z h109 g "com/example/bagwidth/bagwidth/engine/BitSetGraph" "keptVertices" "[I" (.ref kv) := Jvm.RoadKit.Fld.other Wr110 f104 (Or.inr (slot_ne (t := (.array .int)) (t' := (.array .long)) (Or.inl (wd hw 13 rfl)) (Or.inr (wd hw 25 rfl)) (by decide) (by decide) (by decide)))
  have f118 : IA Z h109 kd (List.replicate (16) 0) := f105.other Wr110 (Ne.symm ne37)
  have f119 : Fld Z h109 g "com/example/bagwidth/bagwidth/engine/BitSetGraph" "keptDegrees" "[I" (.ref kd) := Jvm.RoadKit.Fld.other Wr110 f106 (Or.inr (slot_ne (t := (.array .int)) (t' := (.array .long)) (Or.inl (wd hw 15 rfl)) (Or.inr (wd hw 25 rfl)) (by decide) (by decide) (by decide)))
  have f120 : Fld Z h109 g "com/example/bagwidth/bagwidth/engine/BitSetGraph" "vertexCount" "I" (.int x) := Jvm.RoadKit.Fld.other Wr110 f107 (Or.inr (slot_ne (t := .int) (t' := (.array .long)) (Or.inr (wd hw 17 rfl)) (Or.inr (wd hw 25 rfl)) (by decide) (by decide) (by decide)))
  have f121 : Fld Z h109 g "com/example/bagwidth/bagwidth/engine/BitSetGraph" "words" "I" (.int wi) := Jvm.RoadKit.Fld.other Wr110 f108 (Or.inr (slot_ne (t := .int) (t' := (.array .long)) (Or.inr (wd hw 22 rfl)) (Or.inr (wd hw 25 rfl)) (by decide) (by decide) (by decide)))
  have f122 : JA Z h109 r (List.replicate ((n + 1) * (n / 64 + 1)) 0) := V93.other Wr110 (Ne.symm ne95)
  refine k_aloadN (pc := 47) H d1_47 rfl rfl ?_
  refine k_iloadN (pc := 48) H d1_48 rfl ?_
  refine k_iconst (1 : Int32) (pc := 49) H d1_49 rfl ?_
  refine k_iadd (pc := 50) H d1_50 ?_
  refine k_new_int (n + 1) 256 (pc := 51) H (wd hw 11 rfl) d1_51 (add_nat hx rfl (by omega)) (by omega) (by decide) (by decide) (by decide) ?_
  intro h124 d ea125 ge126 E127 XA123 V128
  have fr129 : h0.size ≤ d := by rw [ea125]; exact KW112.1
  have ne130 : g ≠ d := Nat.ne_of_lt (by rw [ea125]; exact f113.lt)
  have ne131 : kv ≠ d := Nat.ne_of_lt (by rw [ea125]; exact f116.lt)
  have ne132 : kd ≠ d := Nat.ne_of_lt (by rw [ea125]; exact f118.lt)
  have ne133 : r ≠ d := Nat.ne_of_lt (by rw [ea125]; exact f122.lt)
  have KW134 : Keep h0 h124 [g] := KW112.ext E127
  have f135 : Exa Z h124 g "com/example/bagwidth/bagwidth/engine/BitSetGraph" := Jvm.RoadKit.Exa.ext E127 f113
  have f136 : Fld Z h124 g "com/example/bagwidth/bagwidth/engine/BitSetGraph" "degrees" "[I" .null := Jvm.RoadKit.Fld.ext E127 f114
  have f137 : Fld Z h124 g "com/example/bagwidth/bagwidth/engine/BitSetGraph" "keptRows" "[J" .null := Jvm.RoadKit.Fld.ext E127 f115
  have f138 : IA Z h124 kv (List.replicate (16) 0) := f116.ext E127
  have f139 : Fld Z h124 g "com/example/bagwidth/bagwidth/engine/BitSetGraph" "keptVertices" "[I" (.ref kv) := Jvm.RoadKit.Fld.ext E127 f117
  have f140 : IA Z h124 kd (List.replicate (16) 0) := f118.ext E127
  have f141 : Fld Z h124 g "com/example/bagwidth/bagwidth/engine/BitSetGraph" "keptDegrees" "[I" (.ref kd) := Jvm.RoadKit.Fld.ext E127 f119
  have f142 : Fld Z h124 g "com/example/bagwidth/bagwidth/engine/BitSetGraph" "vertexCount" "I" (.int x) := Jvm.RoadKit.Fld.ext E127 f120
  have f143 : Fld Z h124 g "com/example/bagwidth/bagwidth/engine/BitSetGraph" "words" "I" (.int wi) := Jvm.RoadKit.Fld.ext E127 f121
  have f144 : JA Z h124 r (List.replicate ((n + 1) * (n / 64 + 1)) 0) := f122.ext E127
  have f145 : Fld Z h124 g "com/example/bagwidth/bagwidth/engine/BitSetGraph" "rows" "[J" (.ref r) := Jvm.RoadKit.Fld.ext E127 f111
  refine k_putfield (.array .int) (pc := 53) H (wd hw 26 rfl) f136 f135 (Or.inr ⟨(wd hw 27 rfl), rfl, rfl⟩) (wd hw 3 rfl) (by decide) rfl rfl gg d1_53 ?_
  intro h146 Wr147 f148
  have KW149 : Keep h0 h146 [g] := KW134.wr Wr147 (Or.inl (List.mem_of_getElem? (i := 0) rfl))
  have f150 : Exa Z h146 g "com/example/bagwidth/bagwidth/engine/BitSetGraph" := Jvm.RoadKit.Exa.wr Wr147 f135
  have f151 : Fld Z h146 g "com/example/bagwidth/bagwidth/engine/BitSetGraph" "keptRows" "[J" .null := Jvm.RoadKit.Fld.other Wr147 f137 (Or.inr (slot_ne (t := (.array .long)) (t' := (.array .int)) (Or.inl (wd hw 29 rfl)) (Or.inr (wd hw 27 rfl)) (by decide) (by decide) (by decide)))
  have f152 : IA Z h146 kv (List.replicate (16) 0) := f138.other Wr147 (Ne.symm ne8)
  have f153 : Fld Z h146 g "com/example/bagwidth/bagwidth/engine/BitSetGraph" "keptVertices" "[I" (.ref kv) := Jvm.RoadKit.Fld.other Wr147 f139 (Or.inr (slot_ne (t := (.array .int)) (t' := (.array .int)) (Or.inl (wd hw 13 rfl)) (Or.inr (wd hw 27 rfl)) (by decide) (by decide) (by decide)))
  have f154 : IA Z h146 kd (List.replicate (16) 0) := f140.other Wr147 (Ne.symm ne37)
  have f155 : Fld Z h146 g "com/example/bagwidth/bagwidth/engine/BitSetGraph" "keptDegrees" "[I" (.ref kd) := Jvm.RoadKit.Fld.other Wr147 f141 (Or.inr (slot_ne (t := (.array .int)) (t' := (.array .int)) (Or.inl (wd hw 15 rfl)) (Or.inr (wd hw 27 rfl)) (by decide) (by decide) (by decide)))
  have f156 : Fld Z h146 g "com/example/bagwidth/bagwidth/engine/BitSetGraph" "vertexCount" "I" (.int x) := Jvm.RoadKit.Fld.other Wr147 f142 (Or.inr (slot_ne (t := .int) (t' := (.array .int)) (Or.inr (wd hw 17 rfl)) (Or.inr (wd hw 27 rfl)) (by decide) (by decide) (by decide)))
  have f157 : Fld Z h146 g "com/example/bagwidth/bagwidth/engine/BitSetGraph" "words" "I" (.int wi) := Jvm.RoadKit.Fld.other Wr147 f143 (Or.inr (slot_ne (t := .int) (t' := (.array .int)) (Or.inr (wd hw 22 rfl)) (Or.inr (wd hw 27 rfl)) (by decide) (by decide) (by decide)))
  have f158 : JA Z h146 r (List.replicate ((n + 1) * (n / 64 + 1)) 0) := f144.other Wr147 (Ne.symm ne95)
  have f159 : Fld Z h146 g "com/example/bagwidth/bagwidth/engine/BitSetGraph" "rows" "[J" (.ref r) := Jvm.RoadKit.Fld.other Wr147 f145 (Or.inr (slot_ne (t := (.array .long)) (t' := (.array .int)) (Or.inr (wd hw 25 rfl)) (Or.inr (wd hw 27 rfl)) (by decide) (by decide) (by decide)))
  have f160 : IA Z h146 d (List.replicate (n + 1) 0) := V128.other Wr147 (Ne.symm ne130)
  refine k_aloadN (pc := 56) H d1_56 rfl rfl ?_
  refine k_aloadN (pc := 57) H d1_57 rfl rfl ?_
  refine k_getfield (pc := 58) H (wd hw 12 rfl) f153 d1_58 ?_
  refine k_arraylength (N := (16 : Int32)) (pc := 61) H f152 (by simp) d1_61 ?_
  refine k_aloadN (pc := 62) H d1_62 rfl rfl ?_
  refine k_getfield (pc := 63) H (wd hw 21 rfl) f157 d1_63 ?_
  refine k_imul (pc := 66) H d1_66 ?_
  refine k_new_long (16 * (n / 64 + 1)) 64 (pc := 67) H (wd hw 23 rfl) d1_67 (mul_nat rfl hwi (by omega)) (by omega) (by decide) (by decide) (by decide) ?_
  intro h162 kr ea163 ge164 E165 XA161 V166
  have fr167 : h0.size ≤ kr := by rw [ea163]; exact KW149.1
  have ne168 : g ≠ kr := Nat.ne_of_lt (by rw [ea163]; exact f150.lt)
  have ne169 : kv ≠ kr := Nat.ne_of_lt (by rw [ea163]; exact f152.lt)
  have ne170 : kd ≠ kr := Nat.ne_of_lt (by rw [ea163]; exact f154.lt)
  have ne171 : r ≠ kr := Nat.ne_of_lt (by rw [ea163]; exact f158.lt)
  have ne172 : d ≠ kr := Nat.ne_of_lt (by rw [ea163]; exact f160.lt)
  have KW173 : Keep h0 h162 [g] := KW149.ext E165
  have f174 : Exa Z h162 g "com/example/bagwidth/bagwidth/engine/BitSetGraph" := Jvm.RoadKit.Exa.ext E165 f150
  have f175 : Fld Z h162 g "com/example/bagwidth/bagwidth/engine/BitSetGraph" "keptRows" "[J" .null := Jvm.RoadKit.Fld.ext E165 f151
  have f176 : IA Z h162 kv (List.replicate (16) 0) := f152.ext E165
  have f177 : Fld Z h162 g "com/example/bagwidth/bagwidth/engine/BitSetGraph" "keptVertices" "[I" (.ref kv) := Jvm.RoadKit.Fld.ext E165 f153
  have f178 : IA Z h162 kd (List.replicate (16) 0) := f154.ext E165
  have f179 : Fld Z h162 g "com/example/bagwidth/bagwidth/engine/BitSetGraph" "keptDegrees" "[I" (.ref kd) := Jvm.RoadKit.Fld.ext E165 f155
  have f180 : Fld Z h162 g "com/example/bagwidth/bagwidth/engine/BitSetGraph" "vertexCount" "I" (.int x) := Jvm.RoadKit.Fld.ext E165 f156
  have f181 : Fld Z h162 g "com/example/bagwidth/bagwidth/engine/BitSetGraph" "words" "I" (.int wi) := Jvm.RoadKit.Fld.ext E165 f157
  have f182 : JA Z h162 r (List.replicate ((n + 1) * (n / 64 + 1)) 0) := f158.ext E165
  have f183 : Fld Z h162 g "com/example/bagwidth/bagwidth/engine/BitSetGraph" "rows" "[J" (.ref r) := Jvm.RoadKit.Fld.ext E165 f159
  have f184 : IA Z h162 d (List.replicate (n + 1) 0) := f160.ext E165
  have f185 : Fld Z h162 g "com/example/bagwidth/bagwidth/engine/BitSetGraph" "degrees" "[I" (.ref d) := Jvm.RoadKit.Fld.ext E165 f148
  refine k_putfield (.array .long) (pc := 69) H (wd hw 28 rfl) f175 f174 (Or.inl (wd hw 29 rfl)) (wd hw 3 rfl) (by decide) rfl rfl gg d1_69 ?_
  intro h186 Wr187 f188
  have KW189 : Keep h0 h186 [g] := KW173.wr Wr187 (Or.inl (List.mem_of_getElem? (i := 0) rfl))
  have f190 : Exa Z h186 g "com/example/bagwidth/bagwidth/engine/BitSetGraph" := Jvm.RoadKit.Exa.wr Wr187 f174
  have f191 : IA Z h186 kv (List.replicate (16) 0) := f176.other Wr187 (Ne.symm ne8)
  have f192 : Fld Z h186 g "com/example/bagwidth/bagwidth/engine/BitSetGraph" "keptVertices" "[I" (.ref kv) := Jvm.RoadKit.Fld.other Wr187 f177 (Or.inr (slot_ne (t := (.array .int)) (t' := (.array .long)) (Or.inl (wd hw 13 rfl)) (Or.inl (wd hw 29 rfl)) (by decide) (by decide) (by decide)))
  have f193 : IA Z h186 kd (List.replicate (16) 0) := f178.other Wr187 (Ne.symm ne37)
  have f194 : Fld Z h186 g "com/example/bagwidth/bagwidth/engine/BitSetGraph" "keptDegrees" "[I" (.ref kd) := Jvm.RoadKit.Fld.other Wr187 f179 (Or.inr (slot_ne (t := (.array .int)) (t' := (.array .long)) (Or.inl (wd hw 15 rfl)) (Or.inl (wd hw 29 rfl)) (by decide) (by decide) (by decide)))
  have f195 : Fld Z h186 g "com/example/bagwidth/bagwidth/engine/BitSetGraph" "vertexCount" "I" (.int x) := Jvm.RoadKit.Fld.other Wr187 f180 (Or.inr (slot_ne (t := .int) (t' := (.array .long)) (Or.inr (wd hw 17 rfl)) (Or.inl (wd hw 29 rfl)) (by decide) (by decide) (by decide)))
  have f196 : Fld Z h186 g "com/example/bagwidth/bagwidth/engine/BitSetGraph" "words" "I" (.int wi) := Jvm.RoadKit.Fld.other Wr187 f181 (Or.inr (slot_ne (t := .int) (t' := (.array .long)) (Or.inr (wd hw 22 rfl)) (Or.inl (wd hw 29 rfl)) (by decide) (by decide) (by decide)))
  have f197 : JA Z h186 r (List.replicate ((n + 1) * (n / 64 + 1)) 0) := f182.other Wr187 (Ne.symm ne95)
  have f198 : Fld Z h186 g "com/example/bagwidth/bagwidth/engine/BitSetGraph" "rows" "[J" (.ref r) := Jvm.RoadKit.Fld.other Wr187 f183 (Or.inr (slot_ne (t := (.array .long)) (t' := (.array .long)) (Or.inr (wd hw 25 rfl)) (Or.inl (wd hw 29 rfl)) (by decide) (by decide) (by decide)))
  have f199 : IA Z h186 d (List.replicate (n + 1) 0) := f184.other Wr187 (Ne.symm ne130)
  have f200 : Fld Z h186 g "com/example/bagwidth/bagwidth/engine/BitSetGraph" "degrees" "[I" (.ref d) := Jvm.RoadKit.Fld.other Wr187 f185 (Or.inr (slot_ne (t := (.array .int)) (t' := (.array .long)) (Or.inr (wd hw 27 rfl)) (Or.inl (wd hw 29 rfl)) (by decide) (by decide) (by decide)))
  have f201 : JA Z h186 kr (List.replicate (16 * (n / 64 + 1)) 0) := V166.other Wr187 (Ne.symm ne168)
  exact k_retVoid (pc := 72) H d1_72 (by show 5 ≤ own_rm1_room.cells; decide) (by show 1376 ≤ own_rm1_room.slots; decide) (⟨rfl, r, d, wi, ge91, ge126, ne95, ne130, ne133, KW189, f190, f196, f198, f200, by rw [own_rows_nil]; exact f197, by rw [own_deg_nil]; exact f199, hwi⟩)
theorem d7_0 : decode prog_2_method_9_code 0 = .ok (.aload_n 0, 1) := by decide +kernel
theorem d7_1 : decode prog_2_method_9_code 1 = .ok (.getfield 27, 3) := by decide +kernel
theorem d7_4 : decode prog_2_method_9_code 4 = .ok (.iload_n 1, 1) := by decide +kernel
theorem d7_5 : decode prog_2_method_9_code 5 = .ok (.aload_n 0, 1) := by decide +kernel
theorem d7_6 : decode prog_2_method_9_code 6 = .ok (.getfield 24, 3) := by decide +kernel
theorem d7_9 : decode prog_2_method_9_code 9 = .ok (.imul, 1) := by decide +kernel
theorem d7_10 : decode prog_2_method_9_code 10 = .ok (.iload_n 2, 1) := by decide +kernel
theorem d7_11 : decode prog_2_method_9_code 11 = .ok (.bipush 6, 2) := by decide +kernel
theorem d7_13 : decode prog_2_method_9_code 13 = .ok (.iushr, 1) := by decide +kernel
theorem d7_14 : decode prog_2_method_9_code 14 = .ok (.iadd, 1) := by decide +kernel
theorem d7_15 : decode prog_2_method_9_code 15 = .ok (.dup2, 1) := by decide +kernel
theorem d7_16 : decode prog_2_method_9_code 16 = .ok (.laload, 1) := by decide +kernel
theorem d7_17 : decode prog_2_method_9_code 17 = .ok (.lconst 1, 1) := by decide +kernel
theorem d7_18 : decode prog_2_method_9_code 18 = .ok (.iload_n 2, 1) := by decide +kernel
theorem d7_19 : decode prog_2_method_9_code 19 = .ok (.lshl, 1) := by decide +kernel
theorem d7_20 : decode prog_2_method_9_code 20 = .ok (.lor, 1) := by decide +kernel
theorem d7_21 : decode prog_2_method_9_code 21 = .ok (.lastore, 1) := by decide +kernel
theorem d7_22 : decode prog_2_method_9_code 22 = .ok (.aload_n 0, 1) := by decide +kernel
theorem d7_23 : decode prog_2_method_9_code 23 = .ok (.getfield 27, 3) := by decide +kernel
theorem d7_26 : decode prog_2_method_9_code 26 = .ok (.iload_n 2, 1) := by decide +kernel
theorem d7_27 : decode prog_2_method_9_code 27 = .ok (.aload_n 0, 1) := by decide +kernel
theorem d7_28 : decode prog_2_method_9_code 28 = .ok (.getfield 24, 3) := by decide +kernel
theorem d7_31 : decode prog_2_method_9_code 31 = .ok (.imul, 1) := by decide +kernel
theorem d7_32 : decode prog_2_method_9_code 32 = .ok (.iload_n 1, 1) := by decide +kernel
theorem d7_33 : decode prog_2_method_9_code 33 = .ok (.bipush 6, 2) := by decide +kernel
theorem d7_35 : decode prog_2_method_9_code 35 = .ok (.iushr, 1) := by decide +kernel
theorem d7_36 : decode prog_2_method_9_code 36 = .ok (.iadd, 1) := by decide +kernel
theorem d7_37 : decode prog_2_method_9_code 37 = .ok (.dup2, 1) := by decide +kernel
theorem d7_38 : decode prog_2_method_9_code 38 = .ok (.laload, 1) := by decide +kernel
theorem d7_39 : decode prog_2_method_9_code 39 = .ok (.lconst 1, 1) := by decide +kernel
theorem d7_40 : decode prog_2_method_9_code 40 = .ok (.iload_n 1, 1) := by decide +kernel
theorem d7_41 : decode prog_2_method_9_code 41 = .ok (.lshl, 1) := by decide +kernel
theorem d7_42 : decode prog_2_method_9_code 42 = .ok (.lor, 1) := by decide +kernel
theorem d7_43 : decode prog_2_method_9_code 43 = .ok (.lastore, 1) := by decide +kernel
theorem d7_44 : decode prog_2_method_9_code 44 = .ok (.aload_n 0, 1) := by decide +kernel
theorem d7_45 : decode prog_2_method_9_code 45 = .ok (.getfield 31, 3) := by decide +kernel
theorem d7_48 : decode prog_2_method_9_code 48 = .ok (.iload_n 1, 1) := by decide +kernel
theorem d7_49 : decode prog_2_method_9_code 49 = .ok (.dup2, 1) := by decide +kernel
theorem d7_50 : decode prog_2_method_9_code 50 = .ok (.iaload, 1) := by decide +kernel
theorem d7_51 : decode prog_2_method_9_code 51 = .ok (.iconst 1, 1) := by decide +kernel
theorem d7_52 : decode prog_2_method_9_code 52 = .ok (.iadd, 1) := by decide +kernel
theorem d7_53 : decode prog_2_method_9_code 53 = .ok (.iastore, 1) := by decide +kernel
theorem d7_54 : decode prog_2_method_9_code 54 = .ok (.aload_n 0, 1) := by decide +kernel
theorem d7_55 : decode prog_2_method_9_code 55 = .ok (.getfield 31, 3) := by decide +kernel
theorem d7_58 : decode prog_2_method_9_code 58 = .ok (.iload_n 2, 1) := by decide +kernel
theorem d7_59 : decode prog_2_method_9_code 59 = .ok (.dup2, 1) := by decide +kernel
theorem d7_60 : decode prog_2_method_9_code 60 = .ok (.iaload, 1) := by decide +kernel
theorem d7_61 : decode prog_2_method_9_code 61 = .ok (.iconst 1, 1) := by decide +kernel
theorem d7_62 : decode prog_2_method_9_code 62 = .ok (.iadd, 1) := by decide +kernel
theorem d7_63 : decode prog_2_method_9_code 63 = .ok (.iastore, 1) := by decide +kernel
theorem d7_64 : decode prog_2_method_9_code 64 = .ok (.return_, 1) := by decide +kernel
abbrev own_rm7_room : Room := { frames := 0, cells := 0, slots := 0, locals := 0 }
set_option maxRecDepth 65536 in
set_option maxHeartbeats 40000000 in
theorem rm7 (l : Launch) (Z : State) (a0 : Array Value) (hw : ∀ d ∈ tables_1, d.before a0 Z = true) (n0 : Nat) (h0 : Heap) (Z0 : n0 ≤ h0.size) (g r d : Addr) (es : List (Nat × Nat)) (n wn : Nat) (wi : Int32) (x y : Int32) (a b : Nat) (gr : n0 ≤ r) (gd : n0 ≤ d) (ngr : g ≠ r) (ngd : g ≠ d) (nrd : r ≠ d) (X : Exa Z h0 g "com/example/bagwidth/bagwidth/engine/BitSetGraph") (Fw : Fld Z h0 g "com/example/bagwidth/bagwidth/engine/BitSetGraph" "words" "I" (.int wi)) (Fq : Fld Z h0 g "com/example/bagwidth/bagwidth/engine/BitSetGraph" "rows" "[J" (.ref r)) (Fd : Fld Z h0 g "com/example/bagwidth/bagwidth/engine/BitSetGraph" "degrees" "[I" (.ref d)) (Vr : JA Z h0 r (own_rows es n wn)) (Vd : IA Z h0 d (own_deg es n)) (hwi : wi.toInt = (wn : Int)) (hsz : (n + 1) * wn < 100000) (ha : x.toInt = (a : Int)) (hb : y.toInt = (b : Int)) (han : a ≤ n) (hbn : b ≤ n) (haw : a / 64 < wn) (hbw : b / 64 < wn) :
    Ctr l Z (⟨"com/example/bagwidth/bagwidth/engine/BitSetGraph", "addEdge", "(II)V"⟩ : MethodName) prog_2_method_9_code 3 none own_rm7_room n0 #[(.ref g), (.int x), (.int y)] h0 (fun v h => v = none ∧ Keep h0 h [r, d] ∧ JA Z h r (own_rows ((b, a) :: (a, b) :: es) n wn) ∧ IA Z h d (own_deg ((b, a) :: (a, b) :: es) n)) := by
  refine Ctr.of #[.val (.ref g), .val (.int x), .val (.int y)] (plainFor_of_name pn_0) Z0 (fun m => by first | (simp [entryFrame, mkF, argsToLocals, Value.category]; done) | rfl) ?_
  intro C H
  have i1 := own_in han hbw
  have i2 := own_in hbn haw
  have hi1 : (x * wi + XT.ushr y (6 : Int32)).toInt = ((a * wn + b / 64 : Nat) : Int) := add_nat (mul_nat ha hwi (by omega)) (ushr_nat 6 hb (by decide) (by decide)) (by omega)
  have hi2 : (y * wi + XT.ushr x (6 : Int32)).toInt = ((b * wn + a / 64 : Nat) : Int) := add_nat (mul_nat hb hwi (by omega)) (ushr_nat 6 ha (by decide) (by decide)) (by omega)
  refine k_aloadN (pc := 0) H d7_0 rfl rfl ?_
  refine k_getfield (pc := 1) H (wd hw 24 rfl) Fq d7_1 ?_
  refine k_iloadN (pc := 4) H d7_4 rfl ?_
  refine k_aloadN (pc := 5) H d7_5 rfl rfl ?_
  refine k_getfield (pc := 6) H (wd hw 21 rfl) Fw d7_6 ?_
  refine k_imul (pc := 9) H d7_9 ?_
  refine k_iloadN (pc := 10) H d7_10 rfl ?_
  refine k_bipush (6 : Int32) (pc := 11) H d7_11 rfl ?_
  refine k_iushr (pc := 13) H d7_13 ?_
  refine k_iadd (pc := 14) H d7_14 ?_
  refine k_dup2 (pc := 15) H d7_15 rfl rfl ?_
  refine k_laloadT (i := (a * wn + b / 64)) (x := (wordB (own_nb es a) (b / 64))) (pc := 16) H Vr (hi1) (own_rows_at es han hbw) d7_16 ?_
  refine k_lconst (1 : Int64) (pc := 17) H d7_17 rfl ?_
  refine k_iloadN (pc := 18) H d7_18 rfl ?_
  refine k_lshl (pc := 19) H d7_19 ?_
  refine k_lor (pc := 20) H d7_20 ?_
  refine k_lastoreT (i := (a * wn + b / 64)) (pc := 21) H Vr (hi1) (by rw [own_rows_len]; exact i1) gr d7_21 ?_
  intro h202 K203 V204
  have KW205 : Keep h0 h202 [r, d] := (Keep.refl h0 [r, d]).trans K203 (allS (Or.inl (List.mem_of_getElem? (i := 0) rfl)) all0)
  have f206 : Exa Z h202 g "com/example/bagwidth/bagwidth/engine/BitSetGraph" := X.keep K203
  have f207 : Fld Z h202 g "com/example/bagwidth/bagwidth/engine/BitSetGraph" "words" "I" (.int wi) := Fw.keep K203 (ninS ngr nin0)
  have f208 : Fld Z h202 g "com/example/bagwidth/bagwidth/engine/BitSetGraph" "rows" "[J" (.ref r) := Fq.keep K203 (ninS ngr nin0)
  have f209 : Fld Z h202 g "com/example/bagwidth/bagwidth/engine/BitSetGraph" "degrees" "[I" (.ref d) := Fd.keep K203 (ninS ngr nin0)
  have f210 : IA Z h202 d (own_deg es n) := Vd.keep K203 (ninS (Ne.symm nrd) nin0)
  have V211 : JA Z h202 r (own_rows ((a, b) :: es) n wn) := by rw [← own_rows_add es hbw, ← bitB_of hb]; exact V204
  refine k_aloadN (pc := 22) H d7_22 rfl rfl ?_
  refine k_getfield (pc := 23) H (wd hw 24 rfl) f208 d7_23 ?_
  refine k_iloadN (pc := 26) H d7_26 rfl ?_
  refine k_aloadN (pc := 27) H d7_27 rfl rfl ?_
  refine k_getfield (pc := 28) H (wd hw 21 rfl) f207 d7_28 ?_
  refine k_imul (pc := 31) H d7_31 ?_
  refine k_iloadN (pc := 32) H d7_32 rfl ?_
  refine k_bipush (6 : Int32) (pc := 33) H d7_33 rfl ?_
  refine k_iushr (pc := 35) H d7_35 ?_
  refine k_iadd (pc := 36) H d7_36 ?_
  refine k_dup2 (pc := 37) H d7_37 rfl rfl ?_
  refine k_laloadT (i := (b * wn + a / 64)) (x := (wordB (own_nb ((a, b) :: es) b) (a / 64))) (pc := 38) H V211 (hi2) (own_rows_at _ hbn haw) d7_38 ?_
  refine k_lconst (1 : Int64) (pc := 39) H d7_39 rfl ?_
  refine k_iloadN (pc := 40) H d7_40 rfl ?_
  refine k_lshl (pc := 41) H d7_41 ?_
  refine k_lor (pc := 42) H d7_42 ?_
  refine k_lastoreT (i := (b * wn + a / 64)) (pc := 43) H V211 (hi2) (by rw [own_rows_len]; exact i2) gr d7_43 ?_
  intro h212 K213 V214
  have KW215 : Keep h0 h212 [r, d] := KW205.trans K213 (allS (Or.inl (List.mem_of_getElem? (i := 0) rfl)) all0)
  have f216 : Exa Z h212 g "com/example/bagwidth/bagwidth/engine/BitSetGraph" := f206.keep K213
  have f217 : Fld Z h212 g "com/example/bagwidth/bagwidth/engine/BitSetGraph" "words" "I" (.int wi) := f207.keep K213 (ninS ngr nin0)
  have f218 : Fld Z h212 g "com/example/bagwidth/bagwidth/engine/BitSetGraph" "rows" "[J" (.ref r) := f208.keep K213 (ninS ngr nin0)
  have f219 : Fld Z h212 g "com/example/bagwidth/bagwidth/engine/BitSetGraph" "degrees" "[I" (.ref d) := f209.keep K213 (ninS ngr nin0)
  have f220 : IA Z h212 d (own_deg es n) := f210.keep K213 (ninS (Ne.symm nrd) nin0)
  have V221 : JA Z h212 r (own_rows ((b, a) :: (a, b) :: es) n wn) := by rw [← own_rows_add _ haw, ← bitB_of ha]; exact V214
  refine k_aloadN (pc := 44) H d7_44 rfl rfl ?_
  refine k_getfield (pc := 45) H (wd hw 26 rfl) f219 d7_45 ?_
  refine k_iloadN (pc := 48) H d7_48 rfl ?_
  refine k_dup2 (pc := 49) H d7_49 rfl rfl ?_
  refine k_ialoadT (i := a) (x := (Int32.ofNat (own_nb es a).length)) (pc := 50) H f220 (ha) (own_deg_at es han) d7_50 ?_
  refine k_iconst (1 : Int32) (pc := 51) H d7_51 rfl ?_
  refine k_iadd (pc := 52) H d7_52 ?_
  refine k_iastoreT (i := a) (pc := 53) H f220 (ha) (by rw [own_deg_len]; omega) gd d7_53 ?_
  intro h222 K223 V224
  have KW225 : Keep h0 h222 [r, d] := KW215.trans K223 (allS (Or.inl (List.mem_of_getElem? (i := 1) rfl)) all0)
  have f226 : Exa Z h222 g "com/example/bagwidth/bagwidth/engine/BitSetGraph" := f216.keep K223
  have f227 : Fld Z h222 g "com/example/bagwidth/bagwidth/engine/BitSetGraph" "words" "I" (.int wi) := f217.keep K223 (ninS ngd nin0)
  have f228 : Fld Z h222 g "com/example/bagwidth/bagwidth/engine/BitSetGraph" "rows" "[J" (.ref r) := f218.keep K223 (ninS ngd nin0)
  have f229 : Fld Z h222 g "com/example/bagwidth/bagwidth/engine/BitSetGraph" "degrees" "[I" (.ref d) := f219.keep K223 (ninS ngd nin0)
  have f230 : JA Z h222 r (own_rows ((b, a) :: (a, b) :: es) n wn) := V221.keep K223 (ninS nrd nin0)
  have V231 : IA Z h222 d (own_deg ((a, b) :: es) n) := by rw [← own_deg_add]; exact V224
  refine k_aloadN (pc := 54) H d7_54 rfl rfl ?_
  refine k_getfield (pc := 55) H (wd hw 26 rfl) f229 d7_55 ?_
  refine k_iloadN (pc := 58) H d7_58 rfl ?_
  refine k_dup2 (pc := 59) H d7_59 rfl rfl ?_
  refine k_ialoadT (i := b) (x := (Int32.ofNat (own_nb ((a, b) :: es) b).length)) (pc := 60) H V231 (hb) (own_deg_at _ hbn) d7_60 ?_
  refine k_iconst (1 : Int32) (pc := 61) H d7_61 rfl ?_
  refine k_iadd (pc := 62) H d7_62 ?_
  refine k_iastoreT (i := b) (pc := 63) H V231 (hb) (by rw [own_deg_len]; omega) gd d7_63 ?_
  intro h232 K233 V234
  have KW235 : Keep h0 h232 [r, d] := KW225.trans K233 (allS (Or.inl (List.mem_of_getElem? (i := 1) rfl)) all0)
  have f236 : Exa Z h232 g "com/example/bagwidth/bagwidth/engine/BitSetGraph" := f226.keep K233
  have f237 : Fld Z h232 g "com/example/bagwidth/bagwidth/engine/BitSetGraph" "words" "I" (.int wi) := f227.keep K233 (ninS ngd nin0)
  have f238 : Fld Z h232 g "com/example/bagwidth/bagwidth/engine/BitSetGraph" "rows" "[J" (.ref r) := f228.keep K233 (ninS ngd nin0)
  have f239 : Fld Z h232 g "com/example/bagwidth/bagwidth/engine/BitSetGraph" "degrees" "[I" (.ref d) := f229.keep K233 (ninS ngd nin0)
  have f240 : JA Z h232 r (own_rows ((b, a) :: (a, b) :: es) n wn) := f230.keep K233 (ninS nrd nin0)
  have V241 : IA Z h232 d (own_deg ((b, a) :: (a, b) :: es) n) := by rw [← own_deg_add]; exact V234
  exact k_retVoid (pc := 64) H d7_64 (by show 0 ≤ own_rm7_room.cells; decide) (by show 0 ≤ own_rm7_room.slots; decide) (⟨rfl, KW235, f240, V241⟩)
theorem d4_0 : decode prog_2_method_15_code 0 = .ok (.iload_n 1, 1) := by decide +kernel
theorem d4_1 : decode prog_2_method_15_code 1 = .ok (.aload_n 0, 1) := by decide +kernel
theorem d4_2 : decode prog_2_method_15_code 2 = .ok (.getfield 24, 3) := by decide +kernel
theorem d4_5 : decode prog_2_method_15_code 5 = .ok (.imul, 1) := by decide +kernel
theorem d4_6 : decode prog_2_method_15_code 6 = .ok (.istore_n 3, 1) := by decide +kernel
theorem d4_7 : decode prog_2_method_15_code 7 = .ok (.iconst 0, 1) := by decide +kernel
theorem d4_8 : decode prog_2_method_15_code 8 = .ok (.istore 4, 2) := by decide +kernel
theorem d4_10 : decode prog_2_method_15_code 10 = .ok (.iload 4, 2) := by decide +kernel
theorem d4_12 : decode prog_2_method_15_code 12 = .ok (.aload_n 0, 1) := by decide +kernel
theorem d4_13 : decode prog_2_method_15_code 13 = .ok (.getfield 24, 3) := by decide +kernel
theorem d4_16 : decode prog_2_method_15_code 16 = .ok (.if_icmp .ge 25, 3) := by decide +kernel
theorem d4_19 : decode prog_2_method_15_code 19 = .ok (.aload_n 2, 1) := by decide +kernel
theorem d4_20 : decode prog_2_method_15_code 20 = .ok (.iload 4, 2) := by decide +kernel
theorem d4_22 : decode prog_2_method_15_code 22 = .ok (.dup2, 1) := by decide +kernel
theorem d4_23 : decode prog_2_method_15_code 23 = .ok (.laload, 1) := by decide +kernel
theorem d4_24 : decode prog_2_method_15_code 24 = .ok (.aload_n 0, 1) := by decide +kernel
theorem d4_25 : decode prog_2_method_15_code 25 = .ok (.getfield 27, 3) := by decide +kernel
theorem d4_28 : decode prog_2_method_15_code 28 = .ok (.iload_n 3, 1) := by decide +kernel
theorem d4_29 : decode prog_2_method_15_code 29 = .ok (.iload 4, 2) := by decide +kernel
theorem d4_31 : decode prog_2_method_15_code 31 = .ok (.iadd, 1) := by decide +kernel
theorem d4_32 : decode prog_2_method_15_code 32 = .ok (.laload, 1) := by decide +kernel
theorem d4_33 : decode prog_2_method_15_code 33 = .ok (.lor, 1) := by decide +kernel
theorem d4_34 : decode prog_2_method_15_code 34 = .ok (.lastore, 1) := by decide +kernel
theorem d4_35 : decode prog_2_method_15_code 35 = .ok (.iinc 4 1, 3) := by decide +kernel
theorem d4_38 : decode prog_2_method_15_code 38 = .ok (.goto (-28), 3) := by decide +kernel
theorem d4_41 : decode prog_2_method_15_code 41 = .ok (.return_, 1) := by decide +kernel
abbrev own_rm4_room : Room := { frames := 0, cells := 0, slots := 0, locals := 0 }
set_option maxRecDepth 65536 in
set_option maxHeartbeats 40000000 in
theorem rm4 (l : Launch) (Z : State) (a0 : Array Value) (hw : ∀ d ∈ tables_1, d.before a0 Z = true) (n0 : Nat) (h0 : Heap) (Z0 : n0 ≤ h0.size) (g r d : Addr) (es : List (Nat × Nat)) (n wn : Nat) (wi : Int32) (x : Int32) (vx s : Nat) (xs : List Int64) (gr : n0 ≤ r) (gd : n0 ≤ d) (ngr : g ≠ r) (ngd : g ≠ d) (nrd : r ≠ d) (X : Exa Z h0 g "com/example/bagwidth/bagwidth/engine/BitSetGraph") (Fw : Fld Z h0 g "com/example/bagwidth/bagwidth/engine/BitSetGraph" "words" "I" (.int wi)) (Fq : Fld Z h0 g "com/example/bagwidth/bagwidth/engine/BitSetGraph" "rows" "[J" (.ref r)) (Fd : Fld Z h0 g "com/example/bagwidth/bagwidth/engine/BitSetGraph" "degrees" "[I" (.ref d)) (Vr : JA Z h0 r (own_rows es n wn)) (Vd : IA Z h0 d (own_deg es n)) (hwi : wi.toInt = (wn : Int)) (hsz : (n + 1) * wn < 100000) (gs : n0 ≤ s) (ngs : g ≠ s) (nrs : r ≠ s) (Vs : JA Z h0 s xs) (hv : x.toInt = (vx : Int)) (hvn : vx ≤ n) (hl : wn ≤ xs.length) :
    Ctr l Z (⟨"com/example/bagwidth/bagwidth/engine/BitSetGraph", "addRowTo", "(I[J)V"⟩ : MethodName) prog_2_method_15_code 5 none own_rm4_room n0 #[(.ref g), (.int x), (.ref s)] h0 (fun v h => v = none ∧ Keep h0 h [s] ∧ JA Z h s (own_upd (fun i z => z ||| wordB (own_nb es vx) i) xs 0 wn)) := by
  refine Ctr.of #[.val (.ref g), .val (.int x), .val (.ref s), .unset, .unset] (plainFor_of_name pn_0) Z0 (fun m => by first | (simp [entryFrame, mkF, argsToLocals, Value.category]; done) | rfl) ?_
  intro C H
  refine k_iloadN (pc := 0) H d4_0 rfl ?_
  refine k_aloadN (pc := 1) H d4_1 rfl rfl ?_
  refine k_getfield (pc := 2) H (wd hw 21 rfl) Fw d4_2 ?_
  refine k_imul (pc := 5) H d4_5 ?_
  refine k_istoreN (pc := 6) H d4_6 (Ls' := #[.val (.ref g), .val (.int x), .val (.ref s), .val (.int (x * wi)), .unset]) rfl ?_
  refine k_iconst (0 : Int32) (pc := 7) H d4_7 rfl ?_
  refine k_istore (pc := 8) H d4_8 (Ls' := #[.val (.ref g), .val (.int x), .val (.ref s), .val (.int (x * wi)), .val (.int (0 : Int32))]) rfl ?_
  have hst : (x * wi).toInt = ((vx * wn : Nat) : Int) := mul_nat hv hwi (by have := Nat.mul_le_mul_right wn (by omega : vx ≤ n + 1); omega)
  have L : ∀ (m i : Nat) (ii : Int32) (hh : Heap) (ys : List Int64) (K : Keep h0 hh [s]) (VV : JA Z hh s ys) (hi : ii.toInt = (i : Int)) (hm : i + m = wn) (hy : ys.length = xs.length) (hq : own_upd (fun i z => z ||| wordB (own_nb es vx) i) xs 0 wn = own_upd (fun i z => z ||| wordB (own_nb es vx) i) ys i m), W l own_rm4_room C (n0, own_rm4_room.cells, own_rm4_room.slots, fun v h => v = none ∧ Keep h0 h [s] ∧ JA Z h s (own_upd (fun i z => z ||| wordB (own_nb es vx) i) xs 0 wn)) hh 0 0 10 #[.val (.ref g), .val (.int x), .val (.ref s), .val (.int (x * wi)), .val (.int ii)] [] := by
    intro m
    induction m with
    | zero =>
      intro i ii hh ys K VV hi hm hy hq
      have Fw1 : Fld Z hh g "com/example/bagwidth/bagwidth/engine/BitSetGraph" "words" "I" (.int wi) := Fw.keep K (ninS ngs nin0)
      have Fq1 : Fld Z hh g "com/example/bagwidth/bagwidth/engine/BitSetGraph" "rows" "[J" (.ref r) := Fq.keep K (ninS ngs nin0)
      have Vr1 : JA Z hh r (own_rows es n wn) := Vr.keep K (ninS nrs nin0)
      refine k_iload (pc := 10) H d4_10 rfl ?_
      refine k_aloadN (pc := 12) H d4_12 rfl rfl ?_
      refine k_getfield (pc := 13) H (wd hw 21 rfl) Fw1 d4_13 ?_
      refine k_icmpT 41 (pc := 16) H d4_16 rfl (XT.ii_ge_t (fun q => by have := (lt_nat hi hwi).mp q; omega)) ?_
      exact k_retVoid (pc := 41) H d4_41 (by show 0 ≤ own_rm4_room.cells; decide) (by show 0 ≤ own_rm4_room.slots; decide) (⟨rfl, K, by rw [hq]; exact VV⟩)
    | succ m ih =>
      intro i ii hh ys K VV hi hm hy hq
      have Fw1 : Fld Z hh g "com/example/bagwidth/bagwidth/engine/BitSetGraph" "words" "I" (.int wi) := Fw.keep K (ninS ngs nin0)
      have Fq1 : Fld Z hh g "com/example/bagwidth/bagwidth/engine/BitSetGraph" "rows" "[J" (.ref r) := Fq.keep K (ninS ngs nin0)
      have Vr1 : JA Z hh r (own_rows es n wn) := Vr.keep K (ninS nrs nin0)
      refine k_iload (pc := 10) H d4_10 rfl ?_
      refine k_aloadN (pc := 12) H d4_12 rfl rfl ?_
      refine k_getfield (pc := 13) H (wd hw 21 rfl) Fw1 d4_13 ?_
      refine k_icmpF (pc := 16) H d4_16 (XT.ii_ge_f ((lt_nat hi hwi).mpr (by omega))) ?_
      refine k_aloadN (pc := 19) H d4_19 rfl rfl ?_
      refine k_iload (pc := 20) H d4_20 rfl ?_
      refine k_dup2 (pc := 22) H d4_22 rfl rfl ?_
      refine k_laloadT (i := i) (x := (ys.getD i 0)) (pc := 23) H VV (hi) (own_get 0 (by omega)) d4_23 ?_
      refine k_aloadN (pc := 24) H d4_24 rfl rfl ?_
      refine k_getfield (pc := 25) H (wd hw 24 rfl) Fq1 d4_25 ?_
      refine k_iloadN (pc := 28) H d4_28 rfl ?_
      refine k_iload (pc := 29) H d4_29 rfl ?_
      refine k_iadd (pc := 31) H d4_31 ?_
      have hin := own_in hvn (by omega : i < wn)
      refine k_laloadT (i := (vx * wn + i)) (x := (wordB (own_nb es vx) i)) (pc := 32) H Vr1 (add_nat hst hi (by omega)) (own_rows_at es hvn (by omega)) d4_32 ?_
      refine k_lor (pc := 33) H d4_33 ?_
      refine k_lastoreT (i := i) (pc := 34) H VV (hi) (by omega) gs d4_34 ?_
      intro h242 K243 V244
      refine k_iinc (1 : Int32) (pc := 35) H d4_35 rfl rfl (Ls' := #[.val (.ref g), .val (.int x), .val (.ref s), .val (.int (x * wi)), .val (.int (ii + (1 : Int32)))]) rfl ?_
      refine k_goto 10 (pc := 38) H d4_38 rfl ?_
      exact ih (i + 1) _ _ _ (K.trans K243 (allS (Or.inl (List.mem_of_getElem? (i := 0) rfl)) all0)) V244 (add_nat hi rfl (by omega)) (by omega) (by rw [List.length_set]; exact hy) (by rw [hq]; rfl)
  exact L _ 0 _ _ xs (Keep.refl _ _) Vs rfl (by omega) rfl rfl
def own_bt (t : Bool) (x w : Nat) : Int64 := if t = true ∧ x / 64 = w then bitB (x % 64) else 0
theorem own_nb_self {a v : Nat} {es : List (Nat × Nat)} (h : ¬ a = v) : own_nb ((a, v) :: (v, a) :: es) v = a :: own_nb es v := by simp [own_nb, h]
theorem own_nb_self' {a v : Nat} {es : List (Nat × Nat)} (h : ¬ a = v) : own_nb ((v, a) :: (a, v) :: es) v = a :: own_nb es v := by simp [own_nb, h]
theorem own_nb_other {a c v : Nat} {es : List (Nat × Nat)} (h : ¬ a = v) (h' : ¬ c = v) : own_nb ((c, a) :: (a, c) :: es) v = own_nb es v := by simp [own_nb, h, h']
def own_l (t : Bool) (x : Nat) : List Nat := if t then [x] else []
theorem own_wl (t1 t2 : Bool) (x1 x2 w : Nat) (z : Int64) : z ||| wordB (own_l t2 x2 ++ own_l t1 x1) w = (z ||| own_bt t1 x1 w) ||| own_bt t2 x2 w := by
  cases t1 <;> cases t2 <;> simp [own_l, wordB, own_bt, Int64.or_assoc]
theorem own_bt0 (t : Bool) {x w : Nat} (h : x / 64 < w) : own_bt t x w = 0 := by rw [own_bt, if_neg (by omega)]
theorem own_upd5 (f : Nat → Int64 → Int64) (i0 i1 i2 i3 i4 : Int64) (k w : Nat) (hk : k ≤ 4) (hk0 : 1 ≤ k) (hw : w < 5) : (own_upd f [i0, i1, i2, i3, i4] 0 k)[w]? = some (if w < k then f w ([i0, i1, i2, i3, i4].getD w 0) else [i0, i1, i2, i3, i4].getD w 0) := by
  have h1 : k = 1 ∨ k = 2 ∨ k = 3 ∨ k = 4 := by omega
  have h2 : w = 0 ∨ w = 1 ∨ w = 2 ∨ w = 3 ∨ w = 4 := by omega
  rcases h1 with rfl | rfl | rfl | rfl <;> rcases h2 with rfl | rfl | rfl | rfl | rfl <;> simp [own_upd]
theorem own_fin {n u0 u1 u2 w : Nat} {t1 t2 : Bool} {es : List (Nat × Nat)} {z : Int64} (h1 : u1 / 64 < n) (h2 : u2 / 64 < n) (hb : own_nb es u0 = own_l t2 u2 ++ own_l t1 u1) : (if w < n then (fun i z => z ||| wordB (own_nb es u0) i) w z else z) = (z ||| own_bt t1 u1 w) ||| own_bt t2 u2 w := by
  by_cases h : w < n
  · rw [if_pos h]; show z ||| wordB (own_nb es u0) w = _; rw [hb, own_wl]
  · rw [if_neg h, own_bt0 t1 (by omega), own_bt0 t2 (by omega)]; simp
theorem d6_0 : decode method_2_code 0 = .ok (.iload_n 0, 1) := by decide +kernel
theorem d6_1 : decode method_2_code 1 = .ok (.ifCond .eq 15, 3) := by decide +kernel
theorem d6_4 : decode method_2_code 4 = .ok (.iload_n 1, 1) := by decide +kernel
theorem d6_5 : decode method_2_code 5 = .ok (.bipush 6, 2) := by decide +kernel
theorem d6_7 : decode method_2_code 7 = .ok (.iushr, 1) := by decide +kernel
theorem d6_8 : decode method_2_code 8 = .ok (.iload_n 2, 1) := by decide +kernel
theorem d6_9 : decode method_2_code 9 = .ok (.if_icmp .ne 7, 3) := by decide +kernel
theorem d6_12 : decode method_2_code 12 = .ok (.lconst 1, 1) := by decide +kernel
theorem d6_13 : decode method_2_code 13 = .ok (.iload_n 1, 1) := by decide +kernel
theorem d6_14 : decode method_2_code 14 = .ok (.lshl, 1) := by decide +kernel
theorem d6_15 : decode method_2_code 15 = .ok (.lreturn, 1) := by decide +kernel
theorem d6_16 : decode method_2_code 16 = .ok (.lconst 0, 1) := by decide +kernel
theorem d6_17 : decode method_2_code 17 = .ok (.lreturn, 1) := by decide +kernel
abbrev own_rm6_room : Room := { frames := 0, cells := 0, slots := 0, locals := 0 }
set_option maxRecDepth 65536 in
set_option maxHeartbeats 40000000 in
theorem rm6 (l : Launch) (Z : State) (a0 : Array Value) (hw : ∀ d ∈ tables_1, d.before a0 Z = true) (n0 : Nat) (h0 : Heap) (Z0 : n0 ≤ h0.size) (t : Bool) (x y : Int32) (p u : Nat) (hx : x.toInt = (p : Int)) (hy : y.toInt = (u : Int)) :
    Ctr l Z (⟨"com/example/bagwidth/bagwidth/engine/BitSetGraphAddRowToPinLaw", "bit", "(ZII)J"⟩ : MethodName) method_2_code 3 (some .long) own_rm6_room n0 #[(.int (own_b t)), (.int x), (.int y)] h0 (fun v h => v = some (.long (own_bt t p u)) ∧ h = h0) := by
  refine Ctr.of #[.val (.int (own_b t)), .val (.int x), .val (.int y)] (plainFor_of_name pn_1) Z0 (fun m => by first | (simp [entryFrame, mkF, argsToLocals, Value.category]; done) | rfl) ?_
  intro C H
  have q1 := eq_nat (ushr_nat (y := 6) 6 hx (by decide) (by decide)) hy
  refine k_iloadN (pc := 0) H d6_0 rfl ?_
  refine k_iff0 (P := (own_b t) = 0) 16 (pc := 1) H d6_1 rfl XT.i0_eq_t XT.i0_eq_f (fun k0 => ?_) (fun k0 => ?_)
  · refine k_lconst (0 : Int64) (pc := 16) H d6_16 rfl ?_
    exact k_retLong (pc := 17) H d6_17 (by show 0 ≤ own_rm6_room.cells; decide) (by show 0 ≤ own_rm6_room.slots; decide) (⟨by rw [own_b0] at k0; rw [k0]; rfl, rfl⟩)
  · rw [own_b0, Bool.not_eq_false] at k0
    refine k_iloadN (pc := 4) H d6_4 rfl ?_
    refine k_bipush (6 : Int32) (pc := 5) H d6_5 rfl ?_
    refine k_iushr (pc := 7) H d6_7 ?_
    refine k_iloadN (pc := 8) H d6_8 rfl ?_
    refine k_icmpR (P := (XT.ushr x (6 : Int32)) = y) 16 (pc := 9) H d6_9 rfl XT.ii_ne_t XT.ii_ne_f (fun k1 => ?_) (fun k1 => ?_)
    · refine k_lconst (0 : Int64) (pc := 16) H d6_16 rfl ?_
      exact k_retLong (pc := 17) H d6_17 (by show 0 ≤ own_rm6_room.cells; decide) (by show 0 ≤ own_rm6_room.slots; decide) (⟨by rw [own_bt, if_neg (fun z => k1 (q1.mpr z.2))], rfl⟩)
    · refine k_lconst (1 : Int64) (pc := 12) H d6_12 rfl ?_
      refine k_iloadN (pc := 13) H d6_13 rfl ?_
      refine k_lshl (pc := 14) H d6_14 ?_
      exact k_retLong (pc := 15) H d6_15 (by show 0 ≤ own_rm6_room.cells; decide) (by show 0 ≤ own_rm6_room.slots; decide) (⟨by rw [own_bt, if_pos ⟨k0, q1.mp k1⟩, bitB_of hx], rfl⟩)
theorem d5_0 : decode method_3_code 0 = .ok (.aload_n 0, 1) := by decide +kernel
theorem d5_1 : decode method_3_code 1 = .ok (.iload 6, 2) := by decide +kernel
theorem d5_3 : decode method_3_code 3 = .ok (.laload, 1) := by decide +kernel
theorem d5_4 : decode method_3_code 4 = .ok (.aload_n 1, 1) := by decide +kernel
theorem d5_5 : decode method_3_code 5 = .ok (.iload 6, 2) := by decide +kernel
theorem d5_7 : decode method_3_code 7 = .ok (.laload, 1) := by decide +kernel
theorem d5_8 : decode method_3_code 8 = .ok (.iload_n 2, 1) := by decide +kernel
theorem d5_9 : decode method_3_code 9 = .ok (.iload_n 3, 1) := by decide +kernel
theorem d5_10 : decode method_3_code 10 = .ok (.iload 6, 2) := by decide +kernel
theorem d5_12 : decode method_3_code 12 = .ok (.invokestatic 7, 3) := by decide +kernel
theorem d5_15 : decode method_3_code 15 = .ok (.lor, 1) := by decide +kernel
theorem d5_16 : decode method_3_code 16 = .ok (.iload 4, 2) := by decide +kernel
theorem d5_18 : decode method_3_code 18 = .ok (.iload 5, 2) := by decide +kernel
theorem d5_20 : decode method_3_code 20 = .ok (.iload 6, 2) := by decide +kernel
theorem d5_22 : decode method_3_code 22 = .ok (.invokestatic 7, 3) := by decide +kernel
theorem d5_25 : decode method_3_code 25 = .ok (.lor, 1) := by decide +kernel
theorem d5_26 : decode method_3_code 26 = .ok (.lcmp, 1) := by decide +kernel
theorem d5_27 : decode method_3_code 27 = .ok (.ifCond .ne 7, 3) := by decide +kernel
theorem d5_30 : decode method_3_code 30 = .ok (.iconst 1, 1) := by decide +kernel
theorem d5_31 : decode method_3_code 31 = .ok (.goto 4, 3) := by decide +kernel
theorem d5_34 : decode method_3_code 34 = .ok (.iconst 0, 1) := by decide +kernel
theorem d5_35 : decode method_3_code 35 = .ok (.ireturn, 1) := by decide +kernel
abbrev own_rm5_room : Room := { frames := 1, cells := 0, slots := 0, locals := 18 }
set_option maxRecDepth 65536 in
set_option maxHeartbeats 40000000 in
theorem rm5 (l : Launch) (Z : State) (a0 : Array Value) (hw : ∀ d ∈ tables_1, d.before a0 Z = true) (n0 : Nat) (h0 : Heap) (Z0 : n0 ≤ h0.size) (s i : Addr) (xs ys : List Int64) (t1 t2 : Bool) (x1 x2 y : Int32) (p1 p2 u : Nat) (z z' : Int64) (V1 : JA Z h0 s xs) (V2 : JA Z h0 i ys) (h1 : x1.toInt = (p1 : Int)) (h2 : x2.toInt = (p2 : Int)) (hy : y.toInt = (u : Int)) (hz : xs[u]? = some z) (hz' : ys[u]? = some z') (heq : z = (z' ||| own_bt t1 p1 u) ||| own_bt t2 p2 u) :
    Ctr l Z (⟨"com/example/bagwidth/bagwidth/engine/BitSetGraphAddRowToPinLaw", "word", "([J[JZIZII)Z"⟩ : MethodName) method_3_code 7 (some .boolean) own_rm5_room n0 #[(.ref s), (.ref i), (.int (own_b t1)), (.int x1), (.int (own_b t2)), (.int x2), (.int y)] h0 (fun v h => v = some (.int 1) ∧ h = h0) := by
  refine Ctr.of #[.val (.ref s), .val (.ref i), .val (.int (own_b t1)), .val (.int x1), .val (.int (own_b t2)), .val (.int x2), .val (.int y)] (plainFor_of_name pn_1) Z0 (fun m => by first | (simp [entryFrame, mkF, argsToLocals, Value.category]; done) | rfl) ?_
  intro C H
  refine k_aloadN (pc := 0) H d5_0 rfl rfl ?_
  refine k_iload (pc := 1) H d5_1 rfl ?_
  refine k_laloadT (i := u) (x := z) (pc := 3) H V1 (hy) (hz) d5_3 ?_
  refine k_aloadN (pc := 4) H d5_4 rfl rfl ?_
  refine k_iload (pc := 5) H d5_5 rfl ?_
  refine k_laloadT (i := u) (x := z') (pc := 7) H V2 (hy) (hz') d5_7 ?_
  refine k_iloadN (pc := 8) H d5_8 rfl ?_
  refine k_iloadN (pc := 9) H d5_9 rfl ?_
  refine k_iload (pc := 10) H d5_10 rfl ?_
  refine k_invS (y := (⟨"com/example/bagwidth/bagwidth/engine/BitSetGraphAddRowToPinLaw", "bit", "(ZII)J"⟩ : MethodName)) (st := [(.long z'), (.long z)]) [(.int (own_b t1)), (.int x1), (.int y)] 4 (pc := 12) H (wd hw 40 rfl) (wd hw 41 rfl) (wd hw 38 rfl) (wd hw 42 rfl) (by decide) (fun z0 => rm6 l Z a0 hw n0 h0 z0 t1 x1 y p1 u h1 hy) (lenOf pd_1 rfl) d5_12 rfl rfl rfl (by decide) (by decide) (by decide) (by decide) ?_
  rintro v hx ⟨rfl, ex⟩
  rw [ex]
  clear ex hx
  show W l own_rm5_room C _ h0 0 0 15 #[.val (.ref s), .val (.ref i), .val (.int (own_b t1)), .val (.int x1), .val (.int (own_b t2)), .val (.int x2), .val (.int y)] [(.long (own_bt t1 p1 u)), (.long z'), (.long z)]
  refine k_lor (pc := 15) H d5_15 ?_
  refine k_iload (pc := 16) H d5_16 rfl ?_
  refine k_iload (pc := 18) H d5_18 rfl ?_
  refine k_iload (pc := 20) H d5_20 rfl ?_
  refine k_invS (y := (⟨"com/example/bagwidth/bagwidth/engine/BitSetGraphAddRowToPinLaw", "bit", "(ZII)J"⟩ : MethodName)) (st := [(.long (z' ||| (own_bt t1 p1 u))), (.long z)]) [(.int (own_b t2)), (.int x2), (.int y)] 4 (pc := 22) H (wd hw 40 rfl) (wd hw 41 rfl) (wd hw 38 rfl) (wd hw 42 rfl) (by decide) (fun z0 => rm6 l Z a0 hw n0 h0 z0 t2 x2 y p2 u h2 hy) (lenOf pd_1 rfl) d5_22 rfl rfl rfl (by decide) (by decide) (by decide) (by decide) ?_
  rintro v hx ⟨rfl, ex⟩
  rw [ex]
  clear ex hx
  show W l own_rm5_room C _ h0 0 0 25 #[.val (.ref s), .val (.ref i), .val (.int (own_b t1)), .val (.int x1), .val (.int (own_b t2)), .val (.int x2), .val (.int y)] [(.long (own_bt t2 p2 u)), (.long (z' ||| (own_bt t1 p1 u))), (.long z)]
  refine k_lor (pc := 25) H d5_25 ?_
  refine k_lcmp (pc := 26) H d5_26 ?_
  refine k_ifF (pc := 27) H d5_27 (XT.ll_ne_f (heq)) ?_
  refine k_iconst (1 : Int32) (pc := 30) H d5_30 rfl ?_
  refine k_goto 35 (pc := 31) H d5_31 rfl ?_
  exact k_retN' (t := .boolean) (by simp) (pc := 35) H d5_35 (by show 0 ≤ own_rm5_room.cells; decide) (by show 0 ≤ own_rm5_room.slots; decide) (⟨rfl, rfl⟩)
theorem d0_0 : decode code 0 = .ok (.iconst 1, 1) := by decide +kernel
theorem d0_1 : decode code 1 = .ok (.iload_n 0, 1) := by decide +kernel
theorem d0_2 : decode code 2 = .ok (.ldc 13, 2) := by decide +kernel
theorem d0_4 : decode code 4 = .ok (.iand, 1) := by decide +kernel
theorem d0_5 : decode code 5 = .ok (.sipush 255, 3) := by decide +kernel
theorem d0_8 : decode code 8 = .ok (.irem, 1) := by decide +kernel
theorem d0_9 : decode code 9 = .ok (.iadd, 1) := by decide +kernel
theorem d0_10 : decode code 10 = .ok (.istore 8, 2) := by decide +kernel
theorem d0_12 : decode code 12 = .ok (.iconst 1, 1) := by decide +kernel
theorem d0_13 : decode code 13 = .ok (.iload_n 1, 1) := by decide +kernel
theorem d0_14 : decode code 14 = .ok (.ldc 13, 2) := by decide +kernel
theorem d0_16 : decode code 16 = .ok (.iand, 1) := by decide +kernel
theorem d0_17 : decode code 17 = .ok (.iload 8, 2) := by decide +kernel
theorem d0_19 : decode code 19 = .ok (.irem, 1) := by decide +kernel
theorem d0_20 : decode code 20 = .ok (.iadd, 1) := by decide +kernel
theorem d0_21 : decode code 21 = .ok (.istore 9, 2) := by decide +kernel
theorem d0_23 : decode code 23 = .ok (.iconst 1, 1) := by decide +kernel
theorem d0_24 : decode code 24 = .ok (.iload_n 2, 1) := by decide +kernel
theorem d0_25 : decode code 25 = .ok (.ldc 14, 2) := by decide +kernel
theorem d0_27 : decode code 27 = .ok (.iand, 1) := by decide +kernel
theorem d0_28 : decode code 28 = .ok (.iload 8, 2) := by decide +kernel
theorem d0_30 : decode code 30 = .ok (.irem, 1) := by decide +kernel
theorem d0_31 : decode code 31 = .ok (.iadd, 1) := by decide +kernel
theorem d0_32 : decode code 32 = .ok (.istore 10, 2) := by decide +kernel
theorem d0_34 : decode code 34 = .ok (.iconst 1, 1) := by decide +kernel
theorem d0_35 : decode code 35 = .ok (.iload_n 2, 1) := by decide +kernel
theorem d0_36 : decode code 36 = .ok (.bipush 16, 2) := by decide +kernel
theorem d0_38 : decode code 38 = .ok (.iushr, 1) := by decide +kernel
theorem d0_39 : decode code 39 = .ok (.iload 8, 2) := by decide +kernel
theorem d0_41 : decode code 41 = .ok (.irem, 1) := by decide +kernel
theorem d0_42 : decode code 42 = .ok (.iadd, 1) := by decide +kernel
theorem d0_43 : decode code 43 = .ok (.istore 11, 2) := by decide +kernel
theorem d0_45 : decode code 45 = .ok (.iconst 1, 1) := by decide +kernel
theorem d0_46 : decode code 46 = .ok (.iload_n 3, 1) := by decide +kernel
theorem d0_47 : decode code 47 = .ok (.ldc 14, 2) := by decide +kernel
theorem d0_49 : decode code 49 = .ok (.iand, 1) := by decide +kernel
theorem d0_50 : decode code 50 = .ok (.iload 8, 2) := by decide +kernel
theorem d0_52 : decode code 52 = .ok (.irem, 1) := by decide +kernel
theorem d0_53 : decode code 53 = .ok (.iadd, 1) := by decide +kernel
theorem d0_54 : decode code 54 = .ok (.istore 12, 2) := by decide +kernel
theorem d0_56 : decode code 56 = .ok (.iconst 1, 1) := by decide +kernel
theorem d0_57 : decode code 57 = .ok (.iload_n 3, 1) := by decide +kernel
theorem d0_58 : decode code 58 = .ok (.bipush 16, 2) := by decide +kernel
theorem d0_60 : decode code 60 = .ok (.iushr, 1) := by decide +kernel
theorem d0_61 : decode code 61 = .ok (.iload 8, 2) := by decide +kernel
theorem d0_63 : decode code 63 = .ok (.irem, 1) := by decide +kernel
theorem d0_64 : decode code 64 = .ok (.iadd, 1) := by decide +kernel
theorem d0_65 : decode code 65 = .ok (.istore 13, 2) := by decide +kernel
theorem d0_67 : decode code 67 = .ok (.iload 10, 2) := by decide +kernel
theorem d0_69 : decode code 69 = .ok (.iload 9, 2) := by decide +kernel
theorem d0_71 : decode code 71 = .ok (.if_icmp .eq 7, 3) := by decide +kernel
theorem d0_74 : decode code 74 = .ok (.iconst 1, 1) := by decide +kernel
theorem d0_75 : decode code 75 = .ok (.goto 4, 3) := by decide +kernel
theorem d0_78 : decode code 78 = .ok (.iconst 0, 1) := by decide +kernel
theorem d0_79 : decode code 79 = .ok (.istore 14, 2) := by decide +kernel
theorem d0_81 : decode code 81 = .ok (.iload 11, 2) := by decide +kernel
theorem d0_83 : decode code 83 = .ok (.iload 9, 2) := by decide +kernel
theorem d0_85 : decode code 85 = .ok (.if_icmp .eq 14, 3) := by decide +kernel
theorem d0_88 : decode code 88 = .ok (.iload 11, 2) := by decide +kernel
theorem d0_90 : decode code 90 = .ok (.iload 10, 2) := by decide +kernel
theorem d0_92 : decode code 92 = .ok (.if_icmp .eq 7, 3) := by decide +kernel
theorem d0_95 : decode code 95 = .ok (.iconst 1, 1) := by decide +kernel
theorem d0_96 : decode code 96 = .ok (.goto 4, 3) := by decide +kernel
theorem d0_99 : decode code 99 = .ok (.iconst 0, 1) := by decide +kernel
theorem d0_100 : decode code 100 = .ok (.istore 15, 2) := by decide +kernel
theorem d0_102 : decode code 102 = .ok (.iload 12, 2) := by decide +kernel
theorem d0_104 : decode code 104 = .ok (.iload 9, 2) := by decide +kernel
theorem d0_106 : decode code 106 = .ok (.if_icmp .eq 21, 3) := by decide +kernel
theorem d0_109 : decode code 109 = .ok (.iload 13, 2) := by decide +kernel
theorem d0_111 : decode code 111 = .ok (.iload 9, 2) := by decide +kernel
theorem d0_113 : decode code 113 = .ok (.if_icmp .eq 14, 3) := by decide +kernel
theorem d0_116 : decode code 116 = .ok (.iload 12, 2) := by decide +kernel
theorem d0_118 : decode code 118 = .ok (.iload 13, 2) := by decide +kernel
theorem d0_120 : decode code 120 = .ok (.if_icmp .eq 7, 3) := by decide +kernel
theorem d0_123 : decode code 123 = .ok (.iconst 1, 1) := by decide +kernel
theorem d0_124 : decode code 124 = .ok (.goto 4, 3) := by decide +kernel
theorem d0_127 : decode code 127 = .ok (.iconst 0, 1) := by decide +kernel
theorem d0_128 : decode code 128 = .ok (.istore 16, 2) := by decide +kernel
theorem d0_130 : decode code 130 = .ok (.new 15, 3) := by decide +kernel
theorem d0_133 : decode code 133 = .ok (.dup, 1) := by decide +kernel
theorem d0_134 : decode code 134 = .ok (.iload 8, 2) := by decide +kernel
theorem d0_136 : decode code 136 = .ok (.invokespecial 17, 3) := by decide +kernel
theorem d0_139 : decode code 139 = .ok (.astore 17, 2) := by decide +kernel
theorem d0_141 : decode code 141 = .ok (.iload 16, 2) := by decide +kernel
theorem d0_143 : decode code 143 = .ok (.ifCond .eq 12, 3) := by decide +kernel
theorem d0_146 : decode code 146 = .ok (.aload 17, 2) := by decide +kernel
theorem d0_148 : decode code 148 = .ok (.iload 12, 2) := by decide +kernel
theorem d0_150 : decode code 150 = .ok (.iload 13, 2) := by decide +kernel
theorem d0_152 : decode code 152 = .ok (.invokevirtual 20, 3) := by decide +kernel
theorem d0_155 : decode code 155 = .ok (.iload 14, 2) := by decide +kernel
theorem d0_157 : decode code 157 = .ok (.ifCond .eq 12, 3) := by decide +kernel
theorem d0_160 : decode code 160 = .ok (.aload 17, 2) := by decide +kernel
theorem d0_162 : decode code 162 = .ok (.iload 9, 2) := by decide +kernel
theorem d0_164 : decode code 164 = .ok (.iload 10, 2) := by decide +kernel
theorem d0_166 : decode code 166 = .ok (.invokevirtual 20, 3) := by decide +kernel
theorem d0_169 : decode code 169 = .ok (.iload 15, 2) := by decide +kernel
theorem d0_171 : decode code 171 = .ok (.ifCond .eq 12, 3) := by decide +kernel
theorem d0_174 : decode code 174 = .ok (.aload 17, 2) := by decide +kernel
theorem d0_176 : decode code 176 = .ok (.iload 11, 2) := by decide +kernel
theorem d0_178 : decode code 178 = .ok (.iload 9, 2) := by decide +kernel
theorem d0_180 : decode code 180 = .ok (.invokevirtual 20, 3) := by decide +kernel
theorem d0_183 : decode code 183 = .ok (.iconst 5, 1) := by decide +kernel
theorem d0_184 : decode code 184 = .ok (.newarray .long, 2) := by decide +kernel
theorem d0_186 : decode code 186 = .ok (.dup, 1) := by decide +kernel
theorem d0_187 : decode code 187 = .ok (.iconst 0, 1) := by decide +kernel
theorem d0_188 : decode code 188 = .ok (.lload 4, 2) := by decide +kernel
theorem d0_190 : decode code 190 = .ok (.lastore, 1) := by decide +kernel
theorem d0_191 : decode code 191 = .ok (.dup, 1) := by decide +kernel
theorem d0_192 : decode code 192 = .ok (.iconst 1, 1) := by decide +kernel
theorem d0_193 : decode code 193 = .ok (.lload 6, 2) := by decide +kernel
theorem d0_195 : decode code 195 = .ok (.lastore, 1) := by decide +kernel
theorem d0_196 : decode code 196 = .ok (.dup, 1) := by decide +kernel
theorem d0_197 : decode code 197 = .ok (.iconst 2, 1) := by decide +kernel
theorem d0_198 : decode code 198 = .ok (.lload 4, 2) := by decide +kernel
theorem d0_200 : decode code 200 = .ok (.lload 6, 2) := by decide +kernel
theorem d0_202 : decode code 202 = .ok (.lxor, 1) := by decide +kernel
theorem d0_203 : decode code 203 = .ok (.lastore, 1) := by decide +kernel
theorem d0_204 : decode code 204 = .ok (.dup, 1) := by decide +kernel
theorem d0_205 : decode code 205 = .ok (.iconst 3, 1) := by decide +kernel
theorem d0_206 : decode code 206 = .ok (.lload 4, 2) := by decide +kernel
theorem d0_208 : decode code 208 = .ok (.ldc2_w 24, 3) := by decide +kernel
theorem d0_211 : decode code 211 = .ok (.lxor, 1) := by decide +kernel
theorem d0_212 : decode code 212 = .ok (.lastore, 1) := by decide +kernel
theorem d0_213 : decode code 213 = .ok (.dup, 1) := by decide +kernel
theorem d0_214 : decode code 214 = .ok (.iconst 4, 1) := by decide +kernel
theorem d0_215 : decode code 215 = .ok (.lload 4, 2) := by decide +kernel
theorem d0_217 : decode code 217 = .ok (.lload 6, 2) := by decide +kernel
theorem d0_219 : decode code 219 = .ok (.ladd, 1) := by decide +kernel
theorem d0_220 : decode code 220 = .ok (.lastore, 1) := by decide +kernel
theorem d0_221 : decode code 221 = .ok (.astore 18, 2) := by decide +kernel
theorem d0_223 : decode code 223 = .ok (.iconst 5, 1) := by decide +kernel
theorem d0_224 : decode code 224 = .ok (.newarray .long, 2) := by decide +kernel
theorem d0_226 : decode code 226 = .ok (.dup, 1) := by decide +kernel
theorem d0_227 : decode code 227 = .ok (.iconst 0, 1) := by decide +kernel
theorem d0_228 : decode code 228 = .ok (.lload 4, 2) := by decide +kernel
theorem d0_230 : decode code 230 = .ok (.lastore, 1) := by decide +kernel
theorem d0_231 : decode code 231 = .ok (.dup, 1) := by decide +kernel
theorem d0_232 : decode code 232 = .ok (.iconst 1, 1) := by decide +kernel
theorem d0_233 : decode code 233 = .ok (.lload 6, 2) := by decide +kernel
theorem d0_235 : decode code 235 = .ok (.lastore, 1) := by decide +kernel
theorem d0_236 : decode code 236 = .ok (.dup, 1) := by decide +kernel
theorem d0_237 : decode code 237 = .ok (.iconst 2, 1) := by decide +kernel
theorem d0_238 : decode code 238 = .ok (.lload 4, 2) := by decide +kernel
theorem d0_240 : decode code 240 = .ok (.lload 6, 2) := by decide +kernel
theorem d0_242 : decode code 242 = .ok (.lxor, 1) := by decide +kernel
theorem d0_243 : decode code 243 = .ok (.lastore, 1) := by decide +kernel
theorem d0_244 : decode code 244 = .ok (.dup, 1) := by decide +kernel
theorem d0_245 : decode code 245 = .ok (.iconst 3, 1) := by decide +kernel
theorem d0_246 : decode code 246 = .ok (.lload 4, 2) := by decide +kernel
theorem d0_248 : decode code 248 = .ok (.ldc2_w 24, 3) := by decide +kernel
theorem d0_251 : decode code 251 = .ok (.lxor, 1) := by decide +kernel
theorem d0_252 : decode code 252 = .ok (.lastore, 1) := by decide +kernel
theorem d0_253 : decode code 253 = .ok (.dup, 1) := by decide +kernel
theorem d0_254 : decode code 254 = .ok (.iconst 4, 1) := by decide +kernel
theorem d0_255 : decode code 255 = .ok (.lload 4, 2) := by decide +kernel
theorem d0_257 : decode code 257 = .ok (.lload 6, 2) := by decide +kernel
theorem d0_259 : decode code 259 = .ok (.ladd, 1) := by decide +kernel
theorem d0_260 : decode code 260 = .ok (.lastore, 1) := by decide +kernel
theorem d0_261 : decode code 261 = .ok (.astore 19, 2) := by decide +kernel
theorem d0_263 : decode code 263 = .ok (.aload 17, 2) := by decide +kernel
theorem d0_265 : decode code 265 = .ok (.iload 9, 2) := by decide +kernel
theorem d0_267 : decode code 267 = .ok (.aload 19, 2) := by decide +kernel
theorem d0_269 : decode code 269 = .ok (.invokevirtual 26, 3) := by decide +kernel
theorem d0_272 : decode code 272 = .ok (.aload 19, 2) := by decide +kernel
theorem d0_274 : decode code 274 = .ok (.aload 18, 2) := by decide +kernel
theorem d0_276 : decode code 276 = .ok (.iload 14, 2) := by decide +kernel
theorem d0_278 : decode code 278 = .ok (.iload 10, 2) := by decide +kernel
theorem d0_280 : decode code 280 = .ok (.iload 15, 2) := by decide +kernel
theorem d0_282 : decode code 282 = .ok (.iload 11, 2) := by decide +kernel
theorem d0_284 : decode code 284 = .ok (.iconst 0, 1) := by decide +kernel
theorem d0_285 : decode code 285 = .ok (.invokestatic 30, 3) := by decide +kernel
theorem d0_288 : decode code 288 = .ok (.ifCond .eq 83, 3) := by decide +kernel
theorem d0_291 : decode code 291 = .ok (.aload 19, 2) := by decide +kernel
theorem d0_293 : decode code 293 = .ok (.aload 18, 2) := by decide +kernel
theorem d0_295 : decode code 295 = .ok (.iload 14, 2) := by decide +kernel
theorem d0_297 : decode code 297 = .ok (.iload 10, 2) := by decide +kernel
theorem d0_299 : decode code 299 = .ok (.iload 15, 2) := by decide +kernel
theorem d0_301 : decode code 301 = .ok (.iload 11, 2) := by decide +kernel
theorem d0_303 : decode code 303 = .ok (.iconst 1, 1) := by decide +kernel
theorem d0_304 : decode code 304 = .ok (.invokestatic 30, 3) := by decide +kernel
theorem d0_307 : decode code 307 = .ok (.ifCond .eq 64, 3) := by decide +kernel
theorem d0_310 : decode code 310 = .ok (.aload 19, 2) := by decide +kernel
theorem d0_312 : decode code 312 = .ok (.aload 18, 2) := by decide +kernel
theorem d0_314 : decode code 314 = .ok (.iload 14, 2) := by decide +kernel
theorem d0_316 : decode code 316 = .ok (.iload 10, 2) := by decide +kernel
theorem d0_318 : decode code 318 = .ok (.iload 15, 2) := by decide +kernel
theorem d0_320 : decode code 320 = .ok (.iload 11, 2) := by decide +kernel
theorem d0_322 : decode code 322 = .ok (.iconst 2, 1) := by decide +kernel
theorem d0_323 : decode code 323 = .ok (.invokestatic 30, 3) := by decide +kernel
theorem d0_326 : decode code 326 = .ok (.ifCond .eq 45, 3) := by decide +kernel
theorem d0_329 : decode code 329 = .ok (.aload 19, 2) := by decide +kernel
theorem d0_331 : decode code 331 = .ok (.aload 18, 2) := by decide +kernel
theorem d0_333 : decode code 333 = .ok (.iload 14, 2) := by decide +kernel
theorem d0_335 : decode code 335 = .ok (.iload 10, 2) := by decide +kernel
theorem d0_337 : decode code 337 = .ok (.iload 15, 2) := by decide +kernel
theorem d0_339 : decode code 339 = .ok (.iload 11, 2) := by decide +kernel
theorem d0_341 : decode code 341 = .ok (.iconst 3, 1) := by decide +kernel
theorem d0_342 : decode code 342 = .ok (.invokestatic 30, 3) := by decide +kernel
theorem d0_345 : decode code 345 = .ok (.ifCond .eq 26, 3) := by decide +kernel
theorem d0_348 : decode code 348 = .ok (.aload 19, 2) := by decide +kernel
theorem d0_350 : decode code 350 = .ok (.aload 18, 2) := by decide +kernel
theorem d0_352 : decode code 352 = .ok (.iload 14, 2) := by decide +kernel
theorem d0_354 : decode code 354 = .ok (.iload 10, 2) := by decide +kernel
theorem d0_356 : decode code 356 = .ok (.iload 15, 2) := by decide +kernel
theorem d0_358 : decode code 358 = .ok (.iload 11, 2) := by decide +kernel
theorem d0_360 : decode code 360 = .ok (.iconst 4, 1) := by decide +kernel
theorem d0_361 : decode code 361 = .ok (.invokestatic 30, 3) := by decide +kernel
theorem d0_364 : decode code 364 = .ok (.ifCond .eq 7, 3) := by decide +kernel
theorem d0_367 : decode code 367 = .ok (.iconst 1, 1) := by decide +kernel
theorem d0_368 : decode code 368 = .ok (.goto 4, 3) := by decide +kernel
theorem d0_371 : decode code 371 = .ok (.iconst 0, 1) := by decide +kernel
theorem d0_372 : decode code 372 = .ok (.ireturn, 1) := by decide +kernel
set_option maxRecDepth 65536 in
set_option maxHeartbeats 40000000 in
theorem rm0 (l : Launch) (Z : State) (a0 : Array Value) (hw : ∀ d ∈ tables_1, d.before a0 Z = true) (ws : List Jvm.Cond) (n0 : Nat) (h0 : Heap) (Z0 : n0 ≤ h0.size) (pa : Int32) (qa : Int32) (ra : Int32) (sa : Int32) (a : Int64) (b : Int64) :
    MetFree l x (head1 (Jvm.Cond.code x code maxLocals ret :: ws) room_1) (fun as_ U => as_ = #[(.int pa), (.int qa), (.int ra), (.int sa), (.long a), (.long b)] ∧ Z.Warmed39 U.vm ∧ U.heap = h0) (fun _ _ _ _ _ => True) (fun _ U o U' => ∃ v L, o = .returned v ∧ ((fun v h => v = some (.int 1)) v U'.heap ∧ Fr n0 L) ∧ FrameEnd U o U' L 24 2880) := by
  refine met_of (Q := fun v h => v = some (.int 1)) #[.val (.int pa), .val (.int qa), .val (.int ra), .val (.int sa), .val (.long a), .second, .val (.long b), .second, .unset, .unset, .unset, .unset, .unset, .unset, .unset, .unset, .unset, .unset, .unset, .unset] (plainFor_of_name pn_1) Z0 (fun m => by first | (simp [entryFrame, mkF, argsToLocals, Value.category, maxLocals]; done) | rfl) ?_
  intro C H
  refine k_iconst (1 : Int32) (pc := 0) H d0_0 rfl ?_
  refine k_iloadN (pc := 1) H d0_1 rfl ?_
  refine k_ldcI (v := (2147483647 : Int32)) (pc := 2) H (wd hw 0 rfl) d0_2 ?_
  refine k_iand (pc := 4) H d0_4 ?_
  refine k_sipush (255 : Int32) (pc := 5) H d0_5 rfl ?_
  refine k_irem (pc := 8) H d0_8 (by decide) ?_
  refine k_iadd (pc := 9) H d0_9 ?_
  generalize hv_ni : ((1 : Int32) + ((pa &&& (2147483647 : Int32)) % (255 : Int32))) = ni
  refine k_istore (pc := 10) H d0_10 (Ls' := #[.val (.int pa), .val (.int qa), .val (.int ra), .val (.int sa), .val (.long a), .second, .val (.long b), .second, .val (.int ni), .unset, .unset, .unset, .unset, .unset, .unset, .unset, .unset, .unset, .unset, .unset]) rfl ?_
  refine k_iconst (1 : Int32) (pc := 12) H d0_12 rfl ?_
  refine k_iloadN (pc := 13) H d0_13 rfl ?_
  refine k_ldcI (v := (2147483647 : Int32)) (pc := 14) H (wd hw 0 rfl) d0_14 ?_
  refine k_iand (pc := 16) H d0_16 ?_
  refine k_iload (pc := 17) H d0_17 rfl ?_
  obtain ⟨n3, hn3, hn4⟩ := mod_nat pa 2147483647 255 31 255 (by decide) (by decide) rfl (by decide)
  obtain ⟨n, hn, hn1, hn2⟩ : ∃ n : Nat, ni.toInt = (n : Int) ∧ 1 ≤ n ∧ n ≤ 255 := ⟨1 + n3, by rw [← hv_ni]; exact add_nat rfl hn3 (by omega), by omega, by omega⟩
  have zn : ni ≠ 0 := fun e => by rw [e] at hn; have : (0 : Int32).toInt = 0 := rfl; omega
  refine k_irem (pc := 19) H d0_19 (zn) ?_
  refine k_iadd (pc := 20) H d0_20 ?_
  generalize hv_vi : ((1 : Int32) + ((qa &&& (2147483647 : Int32)) % ni)) = vi
  refine k_istore (pc := 21) H d0_21 (Ls' := #[.val (.int pa), .val (.int qa), .val (.int ra), .val (.int sa), .val (.long a), .second, .val (.long b), .second, .val (.int ni), .val (.int vi), .unset, .unset, .unset, .unset, .unset, .unset, .unset, .unset, .unset, .unset]) rfl ?_
  refine k_iconst (1 : Int32) (pc := 23) H d0_23 rfl ?_
  refine k_iloadN (pc := 24) H d0_24 rfl ?_
  refine k_ldcI (v := (65535 : Int32)) (pc := 25) H (wd hw 1 rfl) d0_25 ?_
  refine k_iand (pc := 27) H d0_27 ?_
  refine k_iload (pc := 28) H d0_28 rfl ?_
  obtain ⟨u0, hu0, hu01, hu02⟩ : ∃ z : Nat, vi.toInt = (z : Int) ∧ 1 ≤ z ∧ z ≤ n := by
    obtain ⟨z, h1, h2⟩ := mod_nat qa 2147483647 ni 31 n (by decide) (by decide) hn (by omega)
    exact ⟨1 + z, by rw [← hv_vi]; exact add_nat rfl h1 (by omega), by omega, by omega⟩
  refine k_irem (pc := 30) H d0_30 (zn) ?_
  refine k_iadd (pc := 31) H d0_31 ?_
  generalize hv_i1 : ((1 : Int32) + ((ra &&& (65535 : Int32)) % ni)) = i1
  refine k_istore (pc := 32) H d0_32 (Ls' := #[.val (.int pa), .val (.int qa), .val (.int ra), .val (.int sa), .val (.long a), .second, .val (.long b), .second, .val (.int ni), .val (.int vi), .val (.int i1), .unset, .unset, .unset, .unset, .unset, .unset, .unset, .unset, .unset]) rfl ?_
  refine k_iconst (1 : Int32) (pc := 34) H d0_34 rfl ?_
  refine k_iloadN (pc := 35) H d0_35 rfl ?_
  refine k_bipush (16 : Int32) (pc := 36) H d0_36 rfl ?_
  refine k_iushr (pc := 38) H d0_38 ?_
  refine k_iload (pc := 39) H d0_39 rfl ?_
  obtain ⟨u1, hu1, hu11, hu12⟩ : ∃ z : Nat, i1.toInt = (z : Int) ∧ 1 ≤ z ∧ z ≤ n := by
    obtain ⟨z, h1, h2⟩ := mod_nat ra 65535 ni 16 n (by decide) (by decide) hn (by omega)
    exact ⟨1 + z, by rw [← hv_i1]; exact add_nat rfl h1 (by omega), by omega, by omega⟩
  refine k_irem (pc := 41) H d0_41 (zn) ?_
  refine k_iadd (pc := 42) H d0_42 ?_
  generalize hv_i2 : ((1 : Int32) + ((XT.ushr ra (16 : Int32)) % ni)) = i2
  refine k_istore (pc := 43) H d0_43 (Ls' := #[.val (.int pa), .val (.int qa), .val (.int ra), .val (.int sa), .val (.long a), .second, .val (.long b), .second, .val (.int ni), .val (.int vi), .val (.int i1), .val (.int i2), .unset, .unset, .unset, .unset, .unset, .unset, .unset, .unset]) rfl ?_
  refine k_iconst (1 : Int32) (pc := 45) H d0_45 rfl ?_
  refine k_iloadN (pc := 46) H d0_46 rfl ?_
  refine k_ldcI (v := (65535 : Int32)) (pc := 47) H (wd hw 1 rfl) d0_47 ?_
  refine k_iand (pc := 49) H d0_49 ?_
  refine k_iload (pc := 50) H d0_50 rfl ?_
  obtain ⟨u2, hu2, hu21, hu22⟩ : ∃ z : Nat, i2.toInt = (z : Int) ∧ 1 ≤ z ∧ z ≤ n := by
    obtain ⟨z, h1, h2⟩ := own_ush ra hn (by omega)
    exact ⟨1 + z, by rw [← hv_i2]; exact add_nat rfl h1 (by omega), by omega, by omega⟩
  refine k_irem (pc := 52) H d0_52 (zn) ?_
  refine k_iadd (pc := 53) H d0_53 ?_
  generalize hv_xi : ((1 : Int32) + ((sa &&& (65535 : Int32)) % ni)) = xi
  refine k_istore (pc := 54) H d0_54 (Ls' := #[.val (.int pa), .val (.int qa), .val (.int ra), .val (.int sa), .val (.long a), .second, .val (.long b), .second, .val (.int ni), .val (.int vi), .val (.int i1), .val (.int i2), .val (.int xi), .unset, .unset, .unset, .unset, .unset, .unset, .unset]) rfl ?_
  refine k_iconst (1 : Int32) (pc := 56) H d0_56 rfl ?_
  refine k_iloadN (pc := 57) H d0_57 rfl ?_
  refine k_bipush (16 : Int32) (pc := 58) H d0_58 rfl ?_
  refine k_iushr (pc := 60) H d0_60 ?_
  refine k_iload (pc := 61) H d0_61 rfl ?_
  obtain ⟨x1, hx1, hx11, hx12⟩ : ∃ z : Nat, xi.toInt = (z : Int) ∧ 1 ≤ z ∧ z ≤ n := by
    obtain ⟨z, h1, h2⟩ := mod_nat sa 65535 ni 16 n (by decide) (by decide) hn (by omega)
    exact ⟨1 + z, by rw [← hv_xi]; exact add_nat rfl h1 (by omega), by omega, by omega⟩
  refine k_irem (pc := 63) H d0_63 (zn) ?_
  refine k_iadd (pc := 64) H d0_64 ?_
  generalize hv_yi : ((1 : Int32) + ((XT.ushr sa (16 : Int32)) % ni)) = yi
  refine k_istore (pc := 65) H d0_65 (Ls' := #[.val (.int pa), .val (.int qa), .val (.int ra), .val (.int sa), .val (.long a), .second, .val (.long b), .second, .val (.int ni), .val (.int vi), .val (.int i1), .val (.int i2), .val (.int xi), .val (.int yi), .unset, .unset, .unset, .unset, .unset, .unset]) rfl ?_
  refine k_iload (pc := 67) H d0_67 rfl ?_
  refine k_iload (pc := 69) H d0_69 rfl ?_
  obtain ⟨y1, hy1, hy11, hy12⟩ : ∃ z : Nat, yi.toInt = (z : Int) ∧ 1 ≤ z ∧ z ≤ n := by
    obtain ⟨z, h1, h2⟩ := own_ush sa hn (by omega)
    exact ⟨1 + z, by rw [← hv_yi]; exact add_nat rfl h1 (by omega), by omega, by omega⟩
  have e_u1u0 := eq_nat hu1 hu0
  have e_u2u0 := eq_nat hu2 hu0
  have e_u2u1 := eq_nat hu2 hu1
  have e_x1u0 := eq_nat hx1 hu0
  have e_y1u0 := eq_nat hy1 hu0
  have e_x1y1 := eq_nat hx1 hy1
  have hw64 : ∀ z : Nat, z ≤ n → z / 64 < n / 64 + 1 := fun z hz => by omega
  have hsz : (n + 1) * (n / 64 + 1) < 100000 := Nat.lt_of_le_of_lt (Nat.mul_le_mul (by omega : n + 1 ≤ 256) (by omega : n / 64 + 1 ≤ 4)) (by decide)
  obtain ⟨t1, ht1⟩ : ∃ t, t = decide (¬ u1 = u0) := ⟨_, rfl⟩
  obtain ⟨t2, ht2⟩ : ∃ t, t = decide (¬ u2 = u0 ∧ ¬ u2 = u1) := ⟨_, rfl⟩
  obtain ⟨t3, ht3⟩ : ∃ t, t = decide (¬ x1 = u0 ∧ ¬ y1 = u0 ∧ ¬ x1 = y1) := ⟨_, rfl⟩
  have J79 : ∀ (z : Int32) (hz : z = own_b t1), W l room_1 C (n0, 24, 2880, fun v h => v = some (.int 1)) h0 0 0 79 #[.val (.int pa), .val (.int qa), .val (.int ra), .val (.int sa), .val (.long a), .second, .val (.long b), .second, .val (.int ni), .val (.int vi), .val (.int i1), .val (.int i2), .val (.int xi), .val (.int yi), .unset, .unset, .unset, .unset, .unset, .unset] [(.int z)] := by
    intro z hz
    subst hz
    refine k_istore (pc := 79) H d0_79 (Ls' := #[.val (.int pa), .val (.int qa), .val (.int ra), .val (.int sa), .val (.long a), .second, .val (.long b), .second, .val (.int ni), .val (.int vi), .val (.int i1), .val (.int i2), .val (.int xi), .val (.int yi), .val (.int (own_b t1)), .unset, .unset, .unset, .unset, .unset]) rfl ?_
    refine k_iload (pc := 81) H d0_81 rfl ?_
    refine k_iload (pc := 83) H d0_83 rfl ?_
    have J100 : ∀ (z : Int32) (hz : z = own_b t2), W l room_1 C (n0, 24, 2880, fun v h => v = some (.int 1)) h0 0 0 100 #[.val (.int pa), .val (.int qa), .val (.int ra), .val (.int sa), .val (.long a), .second, .val (.long b), .second, .val (.int ni), .val (.int vi), .val (.int i1), .val (.int i2), .val (.int xi), .val (.int yi), .val (.int (own_b t1)), .unset, .unset, .unset, .unset, .unset] [(.int z)] := by
      intro z hz
      subst hz
      refine k_istore (pc := 100) H d0_100 (Ls' := #[.val (.int pa), .val (.int qa), .val (.int ra), .val (.int sa), .val (.long a), .second, .val (.long b), .second, .val (.int ni), .val (.int vi), .val (.int i1), .val (.int i2), .val (.int xi), .val (.int yi), .val (.int (own_b t1)), .val (.int (own_b t2)), .unset, .unset, .unset, .unset]) rfl ?_
      refine k_iload (pc := 102) H d0_102 rfl ?_
      refine k_iload (pc := 104) H d0_104 rfl ?_
      have J128 : ∀ (z : Int32) (hz : z = own_b t3), W l room_1 C (n0, 24, 2880, fun v h => v = some (.int 1)) h0 0 0 128 #[.val (.int pa), .val (.int qa), .val (.int ra), .val (.int sa), .val (.long a), .second, .val (.long b), .second, .val (.int ni), .val (.int vi), .val (.int i1), .val (.int i2), .val (.int xi), .val (.int yi), .val (.int (own_b t1)), .val (.int (own_b t2)), .unset, .unset, .unset, .unset] [(.int z)] := by
        intro z hz
        subst hz
        refine k_istore (pc := 128) H d0_128 (Ls' := #[.val (.int pa), .val (.int qa), .val (.int ra), .val (.int sa), .val (.long a), .second, .val (.long b), .second, .val (.int ni), .val (.int vi), .val (.int i1), .val (.int i2), .val (.int xi), .val (.int yi), .val (.int (own_b t1)), .val (.int (own_b t2)), .val (.int (own_b t3)), .unset, .unset, .unset]) rfl ?_
        refine k_newObj (pc := 130) H (wd hw 2 rfl) (wd hw 3 rfl) (wd hw 4 rfl) d0_130 (by decide) (by decide) ?_
        intro h245 g ea246 ge247 E248 X249 D250
        have f251 : Fld Z h245 g "com/example/bagwidth/bagwidth/engine/BitSetGraph" "keptVertices" "[I" .null := D250 (Or.inl (wd hw 13 rfl)) (ty := (.array .int)) (by decide)
        have f252 : Fld Z h245 g "com/example/bagwidth/bagwidth/engine/BitSetGraph" "keptDegrees" "[I" .null := D250 (Or.inl (wd hw 15 rfl)) (ty := (.array .int)) (by decide)
        have f253 : Fld Z h245 g "com/example/bagwidth/bagwidth/engine/BitSetGraph" "vertexCount" "I" (.int (0 : Int32)) := D250 (Or.inr (wd hw 17 rfl)) (ty := .int) (by decide)
        have f254 : Fld Z h245 g "com/example/bagwidth/bagwidth/engine/BitSetGraph" "words" "I" (.int (0 : Int32)) := D250 (Or.inr (wd hw 22 rfl)) (ty := .int) (by decide)
        have f255 : Fld Z h245 g "com/example/bagwidth/bagwidth/engine/BitSetGraph" "rows" "[J" .null := D250 (Or.inr (wd hw 25 rfl)) (ty := (.array .long)) (by decide)
        have f256 : Fld Z h245 g "com/example/bagwidth/bagwidth/engine/BitSetGraph" "degrees" "[I" .null := D250 (Or.inr (wd hw 27 rfl)) (ty := (.array .int)) (by decide)
        have f257 : Fld Z h245 g "com/example/bagwidth/bagwidth/engine/BitSetGraph" "keptRows" "[J" .null := D250 (Or.inl (wd hw 29 rfl)) (ty := (.array .long)) (by decide)
        refine k_dup (pc := 133) H d0_133 rfl ?_
        refine k_iload (pc := 134) H d0_134 rfl ?_
        refine k_invI (y := (⟨"com/example/bagwidth/bagwidth/engine/BitSetGraph", "<init>", "(I)V"⟩ : MethodName)) (st := [(.ref g)]) (a := g) [(.int ni)] 1 (pc := 136) H rfl (wd hw 5 rfl) (wd hw 6 rfl) (wd hw 4 rfl) (wd hw 7 rfl) (by decide) (fun z0 => rm1 l Z a0 hw n0 h245 z0 g ni n ge247 X249 f251 f252 f253 f254 f255 f256 f257 hn hn2) (lenOf pd_2 rfl) d0_136 rfl rfl rfl (by decide) (by decide) (by decide) (by decide) ?_
        rintro v hA ⟨rfl, r, d', wi, gr, gd, ngr, ngd, nrd, K0, X0, Fw0, Fq0, Fd0, Vr0, Vd0, hwi⟩
        show W l room_1 C _ hA 6 1384 139 #[.val (.int pa), .val (.int qa), .val (.int ra), .val (.int sa), .val (.long a), .second, .val (.long b), .second, .val (.int ni), .val (.int vi), .val (.int i1), .val (.int i2), .val (.int xi), .val (.int yi), .val (.int (own_b t1)), .val (.int (own_b t2)), .val (.int (own_b t3)), .unset, .unset, .unset] [(.ref g)]
        have T0 : own_G Z hA g r d' [] n (n / 64 + 1) wi := ⟨X0, Fw0, Fq0, Fd0, Vr0, Vd0⟩
        refine k_astore (pc := 139) H d0_139 rfl (Ls' := #[.val (.int pa), .val (.int qa), .val (.int ra), .val (.int sa), .val (.long a), .second, .val (.long b), .second, .val (.int ni), .val (.int vi), .val (.int i1), .val (.int i2), .val (.int xi), .val (.int yi), .val (.int (own_b t1)), .val (.int (own_b t2)), .val (.int (own_b t3)), .val (.ref g), .unset, .unset]) rfl ?_
        refine k_iload (pc := 141) H d0_141 rfl ?_
        have J183 : ∀ (hh : Heap) (es : List (Nat × Nat)) (T : own_G Z hh g r d' es n (n / 64 + 1) wi) (hb : own_nb es u0 = own_l t2 u2 ++ own_l t1 u1), W l room_1 C (n0, 24, 2880, fun v h => v = some (.int 1)) hh 6 1384 183 #[.val (.int pa), .val (.int qa), .val (.int ra), .val (.int sa), .val (.long a), .second, .val (.long b), .second, .val (.int ni), .val (.int vi), .val (.int i1), .val (.int i2), .val (.int xi), .val (.int yi), .val (.int (own_b t1)), .val (.int (own_b t2)), .val (.int (own_b t3)), .val (.ref g), .unset, .unset] [] := by
          intro hh es T hb
          refine k_iconst (5 : Int32) (pc := 183) H d0_183 rfl ?_
          refine k_new_long (5) 5 (pc := 184) H (wd hw 23 rfl) d0_184 (by decide) (by decide) (by decide) (by decide) (by decide) ?_
          intro h259 i ea260 ge261 E262 XA258 V263
          have lei : hh.size ≤ i := Nat.le_of_eq ea260.symm
          have ngi : g ≠ i := Nat.ne_of_lt (Nat.lt_of_lt_of_le T.1.lt lei)
          have nri : r ≠ i := Nat.ne_of_lt (Nat.lt_of_lt_of_le T.2.2.2.2.1.lt lei)
          have ndi : d' ≠ i := Nat.ne_of_lt (Nat.lt_of_lt_of_le T.2.2.2.2.2.lt lei)
          have Q1 : own_G Z h259 g r d' es n (n / 64 + 1) wi := ⟨Jvm.RoadKit.Exa.ext E262 T.1, Jvm.RoadKit.Fld.ext E262 T.2.1, Jvm.RoadKit.Fld.ext E262 T.2.2.1, Jvm.RoadKit.Fld.ext E262 T.2.2.2.1, T.2.2.2.2.1.ext E262, T.2.2.2.2.2.ext E262⟩
          refine k_dup (pc := 186) H d0_186 rfl ?_
          refine k_iconst (0 : Int32) (pc := 187) H d0_187 rfl ?_
          refine k_lload (pc := 188) H d0_188 rfl ?_
          refine k_lastoreT (i := 0) (pc := 190) H V263 (by decide) (by simp) ge261 d0_190 ?_
          intro h264 K265 V266
          have Q2 : own_G Z h264 g r d' es n (n / 64 + 1) wi := ⟨Q1.1.keep K265, Q1.2.1.keep K265 (ninS ngi nin0), Q1.2.2.1.keep K265 (ninS ngi nin0), Q1.2.2.2.1.keep K265 (ninS ngi nin0), Q1.2.2.2.2.1.keep K265 (ninS nri nin0), Q1.2.2.2.2.2.keep K265 (ninS ndi nin0)⟩
          refine k_dup (pc := 191) H d0_191 rfl ?_
          refine k_iconst (1 : Int32) (pc := 192) H d0_192 rfl ?_
          refine k_lload (pc := 193) H d0_193 rfl ?_
          refine k_lastoreT (i := 1) (pc := 195) H V266 (by decide) (by simp) ge261 d0_195 ?_
          intro h267 K268 V269
          have Q3 : own_G Z h267 g r d' es n (n / 64 + 1) wi := ⟨Q2.1.keep K268, Q2.2.1.keep K268 (ninS ngi nin0), Q2.2.2.1.keep K268 (ninS ngi nin0), Q2.2.2.2.1.keep K268 (ninS ngi nin0), Q2.2.2.2.2.1.keep K268 (ninS nri nin0), Q2.2.2.2.2.2.keep K268 (ninS ndi nin0)⟩
          refine k_dup (pc := 196) H d0_196 rfl ?_
          refine k_iconst (2 : Int32) (pc := 197) H d0_197 rfl ?_
          refine k_lload (pc := 198) H d0_198 rfl ?_
          refine k_lload (pc := 200) H d0_200 rfl ?_
          refine k_lxor (pc := 202) H d0_202 ?_
          refine k_lastoreT (i := 2) (pc := 203) H V269 (by decide) (by simp) ge261 d0_203 ?_
          intro h270 K271 V272
          have Q4 : own_G Z h270 g r d' es n (n / 64 + 1) wi := ⟨Q3.1.keep K271, Q3.2.1.keep K271 (ninS ngi nin0), Q3.2.2.1.keep K271 (ninS ngi nin0), Q3.2.2.2.1.keep K271 (ninS ngi nin0), Q3.2.2.2.2.1.keep K271 (ninS nri nin0), Q3.2.2.2.2.2.keep K271 (ninS ndi nin0)⟩
          refine k_dup (pc := 204) H d0_204 rfl ?_
          refine k_iconst (3 : Int32) (pc := 205) H d0_205 rfl ?_
          refine k_lload (pc := 206) H d0_206 rfl ?_
          refine k_ldc2J (v := (-1 : Int64)) (pc := 208) H (wd hw 30 rfl) d0_208 ?_
          refine k_lxor (pc := 211) H d0_211 ?_
          refine k_lastoreT (i := 3) (pc := 212) H V272 (by decide) (by simp) ge261 d0_212 ?_
          intro h273 K274 V275
          have Q5 : own_G Z h273 g r d' es n (n / 64 + 1) wi := ⟨Q4.1.keep K274, Q4.2.1.keep K274 (ninS ngi nin0), Q4.2.2.1.keep K274 (ninS ngi nin0), Q4.2.2.2.1.keep K274 (ninS ngi nin0), Q4.2.2.2.2.1.keep K274 (ninS nri nin0), Q4.2.2.2.2.2.keep K274 (ninS ndi nin0)⟩
          refine k_dup (pc := 213) H d0_213 rfl ?_
          refine k_iconst (4 : Int32) (pc := 214) H d0_214 rfl ?_
          refine k_lload (pc := 215) H d0_215 rfl ?_
          refine k_lload (pc := 217) H d0_217 rfl ?_
          refine k_ladd (pc := 219) H d0_219 ?_
          refine k_lastoreT (i := 4) (pc := 220) H V275 (by decide) (by simp) ge261 d0_220 ?_
          intro h276 K277 V278
          have Q6 : own_G Z h276 g r d' es n (n / 64 + 1) wi := ⟨Q5.1.keep K277, Q5.2.1.keep K277 (ninS ngi nin0), Q5.2.2.1.keep K277 (ninS ngi nin0), Q5.2.2.2.1.keep K277 (ninS ngi nin0), Q5.2.2.2.2.1.keep K277 (ninS nri nin0), Q5.2.2.2.2.2.keep K277 (ninS ndi nin0)⟩
          have VXi : JA Z h276 i [a, b, a ^^^ b, a ^^^ (-1 : Int64), a + b] := by simpa [List.replicate] using V278
          refine k_astore (pc := 221) H d0_221 rfl (Ls' := #[.val (.int pa), .val (.int qa), .val (.int ra), .val (.int sa), .val (.long a), .second, .val (.long b), .second, .val (.int ni), .val (.int vi), .val (.int i1), .val (.int i2), .val (.int xi), .val (.int yi), .val (.int (own_b t1)), .val (.int (own_b t2)), .val (.int (own_b t3)), .val (.ref g), .val (.ref i), .unset]) rfl ?_
          refine k_iconst (5 : Int32) (pc := 223) H d0_223 rfl ?_
          refine k_new_long (5) 5 (pc := 224) H (wd hw 23 rfl) d0_224 (by decide) (by decide) (by decide) (by decide) (by decide) ?_
          intro h280 s ea281 ge282 E283 XA279 V284
          have ne285 : i ≠ s := Nat.ne_of_lt (by rw [ea281]; exact VXi.lt)
          have f286 : JA Z h280 i [a, b, a ^^^ b, a ^^^ (-1 : Int64), a + b] := VXi.ext E283
          have les : h276.size ≤ s := Nat.le_of_eq ea281.symm
          have ngs : g ≠ s := Nat.ne_of_lt (Nat.lt_of_lt_of_le Q6.1.lt les)
          have nrs : r ≠ s := Nat.ne_of_lt (Nat.lt_of_lt_of_le Q6.2.2.2.2.1.lt les)
          have nds : d' ≠ s := Nat.ne_of_lt (Nat.lt_of_lt_of_le Q6.2.2.2.2.2.lt les)
          have Q7 : own_G Z h280 g r d' es n (n / 64 + 1) wi := ⟨Jvm.RoadKit.Exa.ext E283 Q6.1, Jvm.RoadKit.Fld.ext E283 Q6.2.1, Jvm.RoadKit.Fld.ext E283 Q6.2.2.1, Jvm.RoadKit.Fld.ext E283 Q6.2.2.2.1, Q6.2.2.2.2.1.ext E283, Q6.2.2.2.2.2.ext E283⟩
          refine k_dup (pc := 226) H d0_226 rfl ?_
          refine k_iconst (0 : Int32) (pc := 227) H d0_227 rfl ?_
          refine k_lload (pc := 228) H d0_228 rfl ?_
          refine k_lastoreT (i := 0) (pc := 230) H V284 (by decide) (by simp) ge282 d0_230 ?_
          intro h287 K288 V289
          have f290 : JA Z h287 i [a, b, a ^^^ b, a ^^^ (-1 : Int64), a + b] := f286.keep K288 (ninS ne285 nin0)
          have Q8 : own_G Z h287 g r d' es n (n / 64 + 1) wi := ⟨Q7.1.keep K288, Q7.2.1.keep K288 (ninS ngs nin0), Q7.2.2.1.keep K288 (ninS ngs nin0), Q7.2.2.2.1.keep K288 (ninS ngs nin0), Q7.2.2.2.2.1.keep K288 (ninS nrs nin0), Q7.2.2.2.2.2.keep K288 (ninS nds nin0)⟩
          refine k_dup (pc := 231) H d0_231 rfl ?_
          refine k_iconst (1 : Int32) (pc := 232) H d0_232 rfl ?_
          refine k_lload (pc := 233) H d0_233 rfl ?_
          refine k_lastoreT (i := 1) (pc := 235) H V289 (by decide) (by simp) ge282 d0_235 ?_
          intro h291 K292 V293
          have f294 : JA Z h291 i [a, b, a ^^^ b, a ^^^ (-1 : Int64), a + b] := f290.keep K292 (ninS ne285 nin0)
          have Q9 : own_G Z h291 g r d' es n (n / 64 + 1) wi := ⟨Q8.1.keep K292, Q8.2.1.keep K292 (ninS ngs nin0), Q8.2.2.1.keep K292 (ninS ngs nin0), Q8.2.2.2.1.keep K292 (ninS ngs nin0), Q8.2.2.2.2.1.keep K292 (ninS nrs nin0), Q8.2.2.2.2.2.keep K292 (ninS nds nin0)⟩
          refine k_dup (pc := 236) H d0_236 rfl ?_
          refine k_iconst (2 : Int32) (pc := 237) H d0_237 rfl ?_
          refine k_lload (pc := 238) H d0_238 rfl ?_
          refine k_lload (pc := 240) H d0_240 rfl ?_
          refine k_lxor (pc := 242) H d0_242 ?_
          refine k_lastoreT (i := 2) (pc := 243) H V293 (by decide) (by simp) ge282 d0_243 ?_
          intro h295 K296 V297
          have f298 : JA Z h295 i [a, b, a ^^^ b, a ^^^ (-1 : Int64), a + b] := f294.keep K296 (ninS ne285 nin0)
          have Q10 : own_G Z h295 g r d' es n (n / 64 + 1) wi := ⟨Q9.1.keep K296, Q9.2.1.keep K296 (ninS ngs nin0), Q9.2.2.1.keep K296 (ninS ngs nin0), Q9.2.2.2.1.keep K296 (ninS ngs nin0), Q9.2.2.2.2.1.keep K296 (ninS nrs nin0), Q9.2.2.2.2.2.keep K296 (ninS nds nin0)⟩
          refine k_dup (pc := 244) H d0_244 rfl ?_
          refine k_iconst (3 : Int32) (pc := 245) H d0_245 rfl ?_
          refine k_lload (pc := 246) H d0_246 rfl ?_
          refine k_ldc2J (v := (-1 : Int64)) (pc := 248) H (wd hw 30 rfl) d0_248 ?_
          refine k_lxor (pc := 251) H d0_251 ?_
          refine k_lastoreT (i := 3) (pc := 252) H V297 (by decide) (by simp) ge282 d0_252 ?_
          intro h299 K300 V301
          have f302 : JA Z h299 i [a, b, a ^^^ b, a ^^^ (-1 : Int64), a + b] := f298.keep K300 (ninS ne285 nin0)
          have Q11 : own_G Z h299 g r d' es n (n / 64 + 1) wi := ⟨Q10.1.keep K300, Q10.2.1.keep K300 (ninS ngs nin0), Q10.2.2.1.keep K300 (ninS ngs nin0), Q10.2.2.2.1.keep K300 (ninS ngs nin0), Q10.2.2.2.2.1.keep K300 (ninS nrs nin0), Q10.2.2.2.2.2.keep K300 (ninS nds nin0)⟩
          refine k_dup (pc := 253) H d0_253 rfl ?_
          refine k_iconst (4 : Int32) (pc := 254) H d0_254 rfl ?_
          refine k_lload (pc := 255) H d0_255 rfl ?_
          refine k_lload (pc := 257) H d0_257 rfl ?_
          refine k_ladd (pc := 259) H d0_259 ?_
          refine k_lastoreT (i := 4) (pc := 260) H V301 (by decide) (by simp) ge282 d0_260 ?_
          intro h303 K304 V305
          have f306 : JA Z h303 i [a, b, a ^^^ b, a ^^^ (-1 : Int64), a + b] := f302.keep K304 (ninS ne285 nin0)
          have Q12 : own_G Z h303 g r d' es n (n / 64 + 1) wi := ⟨Q11.1.keep K304, Q11.2.1.keep K304 (ninS ngs nin0), Q11.2.2.1.keep K304 (ninS ngs nin0), Q11.2.2.2.1.keep K304 (ninS ngs nin0), Q11.2.2.2.2.1.keep K304 (ninS nrs nin0), Q11.2.2.2.2.2.keep K304 (ninS nds nin0)⟩
          have VXs : JA Z h303 s [a, b, a ^^^ b, a ^^^ (-1 : Int64), a + b] := by simpa [List.replicate] using V305
          refine k_astore (pc := 261) H d0_261 rfl (Ls' := #[.val (.int pa), .val (.int qa), .val (.int ra), .val (.int sa), .val (.long a), .second, .val (.long b), .second, .val (.int ni), .val (.int vi), .val (.int i1), .val (.int i2), .val (.int xi), .val (.int yi), .val (.int (own_b t1)), .val (.int (own_b t2)), .val (.int (own_b t3)), .val (.ref g), .val (.ref i), .val (.ref s)]) rfl ?_
          refine k_aload (pc := 263) H d0_263 rfl rfl ?_
          refine k_iload (pc := 265) H d0_265 rfl ?_
          refine k_aload (pc := 267) H d0_267 rfl rfl ?_
          refine k_invV (y := (⟨"com/example/bagwidth/bagwidth/engine/BitSetGraph", "addRowTo", "(I[J)V"⟩ : MethodName)) (st := []) (a := g) [(.int vi), (.ref s)] 0 (pc := 269) H (wd hw 31 rfl) (wd hw 32 rfl) (wd hw 34 rfl) (wd hw 33 rfl) (wd hw 4 rfl) (wd hw 35 rfl) rfl (by decide) Q12.1 (fun z0 => rm4 l Z a0 hw n0 h303 z0 g r d' es n (n / 64 + 1) wi vi u0 s [a, b, a ^^^ b, a ^^^ (-1 : Int64), a + b] gr gd ngr ngd nrd Q12.1 Q12.2.1 Q12.2.2.1 Q12.2.2.2.1 Q12.2.2.2.2.1 Q12.2.2.2.2.2 hwi hsz ge282 ngs nrs VXs hu0 hu02 (by simp; omega)) (lenOf pd_3 rfl) d0_269 rfl rfl rfl (by decide) (by decide) (by decide) (by decide) ?_
          rintro v hZ ⟨rfl, KZ, VZ⟩
          show W l room_1 C _ hZ 8 1394 272 #[.val (.int pa), .val (.int qa), .val (.int ra), .val (.int sa), .val (.long a), .second, .val (.long b), .second, .val (.int ni), .val (.int vi), .val (.int i1), .val (.int i2), .val (.int xi), .val (.int yi), .val (.int (own_b t1)), .val (.int (own_b t2)), .val (.int (own_b t3)), .val (.ref g), .val (.ref i), .val (.ref s)] []
          have VI := f306.keep KZ (ninS ne285 nin0)
          refine k_aload (pc := 272) H d0_272 rfl rfl ?_
          refine k_aload (pc := 274) H d0_274 rfl rfl ?_
          refine k_iload (pc := 276) H d0_276 rfl ?_
          refine k_iload (pc := 278) H d0_278 rfl ?_
          refine k_iload (pc := 280) H d0_280 rfl ?_
          refine k_iload (pc := 282) H d0_282 rfl ?_
          refine k_iconst (0 : Int32) (pc := 284) H d0_284 rfl ?_
          refine k_invS (y := (⟨"com/example/bagwidth/bagwidth/engine/BitSetGraphAddRowToPinLaw", "word", "([J[JZIZII)Z"⟩ : MethodName)) (st := []) [(.ref s), (.ref i), (.int (own_b t1)), (.int i1), (.int (own_b t2)), (.int i2), (.int (0 : Int32))] 0 (pc := 285) H (wd hw 36 rfl) (wd hw 37 rfl) (wd hw 38 rfl) (wd hw 39 rfl) (by decide) (fun z0 => rm5 l Z a0 hw n0 hZ z0 s i _ [a, b, a ^^^ b, a ^^^ (-1 : Int64), a + b] t1 t2 i1 i2 (0 : Int32) u1 u2 0 _ _ VZ VI hu1 hu2 rfl (own_upd5 _ _ _ _ _ _ (n / 64 + 1) 0 (by omega) (by omega) (by decide)) rfl (own_fin (hw64 _ hu12) (hw64 _ hu22) hb)) (lenOf pd_4 rfl) d0_285 rfl rfl rfl (by decide) (by decide) (by decide) (by decide) ?_
          rintro v hx ⟨rfl, ex⟩
          rw [ex]
          clear ex hx
          show W l room_1 C _ hZ 8 1394 288 #[.val (.int pa), .val (.int qa), .val (.int ra), .val (.int sa), .val (.long a), .second, .val (.long b), .second, .val (.int ni), .val (.int vi), .val (.int i1), .val (.int i2), .val (.int xi), .val (.int yi), .val (.int (own_b t1)), .val (.int (own_b t2)), .val (.int (own_b t3)), .val (.ref g), .val (.ref i), .val (.ref s)] [(.int (1 : Int32))]
          refine k_ifF (pc := 288) H d0_288 (XT.i0_eq_f (by decide)) ?_
          refine k_aload (pc := 291) H d0_291 rfl rfl ?_
          refine k_aload (pc := 293) H d0_293 rfl rfl ?_
          refine k_iload (pc := 295) H d0_295 rfl ?_
          refine k_iload (pc := 297) H d0_297 rfl ?_
          refine k_iload (pc := 299) H d0_299 rfl ?_
          refine k_iload (pc := 301) H d0_301 rfl ?_
          refine k_iconst (1 : Int32) (pc := 303) H d0_303 rfl ?_
          refine k_invS (y := (⟨"com/example/bagwidth/bagwidth/engine/BitSetGraphAddRowToPinLaw", "word", "([J[JZIZII)Z"⟩ : MethodName)) (st := []) [(.ref s), (.ref i), (.int (own_b t1)), (.int i1), (.int (own_b t2)), (.int i2), (.int (1 : Int32))] 0 (pc := 304) H (wd hw 36 rfl) (wd hw 37 rfl) (wd hw 38 rfl) (wd hw 39 rfl) (by decide) (fun z0 => rm5 l Z a0 hw n0 hZ z0 s i _ [a, b, a ^^^ b, a ^^^ (-1 : Int64), a + b] t1 t2 i1 i2 (1 : Int32) u1 u2 1 _ _ VZ VI hu1 hu2 rfl (own_upd5 _ _ _ _ _ _ (n / 64 + 1) 1 (by omega) (by omega) (by decide)) rfl (own_fin (hw64 _ hu12) (hw64 _ hu22) hb)) (lenOf pd_4 rfl) d0_304 rfl rfl rfl (by decide) (by decide) (by decide) (by decide) ?_
          rintro v hx ⟨rfl, ex⟩
          rw [ex]
          clear ex hx
          show W l room_1 C _ hZ 8 1394 307 #[.val (.int pa), .val (.int qa), .val (.int ra), .val (.int sa), .val (.long a), .second, .val (.long b), .second, .val (.int ni), .val (.int vi), .val (.int i1), .val (.int i2), .val (.int xi), .val (.int yi), .val (.int (own_b t1)), .val (.int (own_b t2)), .val (.int (own_b t3)), .val (.ref g), .val (.ref i), .val (.ref s)] [(.int (1 : Int32))]
          refine k_ifF (pc := 307) H d0_307 (XT.i0_eq_f (by decide)) ?_
          refine k_aload (pc := 310) H d0_310 rfl rfl ?_
          refine k_aload (pc := 312) H d0_312 rfl rfl ?_
          refine k_iload (pc := 314) H d0_314 rfl ?_
          refine k_iload (pc := 316) H d0_316 rfl ?_
          refine k_iload (pc := 318) H d0_318 rfl ?_
          refine k_iload (pc := 320) H d0_320 rfl ?_
          refine k_iconst (2 : Int32) (pc := 322) H d0_322 rfl ?_
          refine k_invS (y := (⟨"com/example/bagwidth/bagwidth/engine/BitSetGraphAddRowToPinLaw", "word", "([J[JZIZII)Z"⟩ : MethodName)) (st := []) [(.ref s), (.ref i), (.int (own_b t1)), (.int i1), (.int (own_b t2)), (.int i2), (.int (2 : Int32))] 0 (pc := 323) H (wd hw 36 rfl) (wd hw 37 rfl) (wd hw 38 rfl) (wd hw 39 rfl) (by decide) (fun z0 => rm5 l Z a0 hw n0 hZ z0 s i _ [a, b, a ^^^ b, a ^^^ (-1 : Int64), a + b] t1 t2 i1 i2 (2 : Int32) u1 u2 2 _ _ VZ VI hu1 hu2 rfl (own_upd5 _ _ _ _ _ _ (n / 64 + 1) 2 (by omega) (by omega) (by decide)) rfl (own_fin (hw64 _ hu12) (hw64 _ hu22) hb)) (lenOf pd_4 rfl) d0_323 rfl rfl rfl (by decide) (by decide) (by decide) (by decide) ?_
          rintro v hx ⟨rfl, ex⟩
          rw [ex]
          clear ex hx
          show W l room_1 C _ hZ 8 1394 326 #[.val (.int pa), .val (.int qa), .val (.int ra), .val (.int sa), .val (.long a), .second, .val (.long b), .second, .val (.int ni), .val (.int vi), .val (.int i1), .val (.int i2), .val (.int xi), .val (.int yi), .val (.int (own_b t1)), .val (.int (own_b t2)), .val (.int (own_b t3)), .val (.ref g), .val (.ref i), .val (.ref s)] [(.int (1 : Int32))]
          refine k_ifF (pc := 326) H d0_326 (XT.i0_eq_f (by decide)) ?_
          refine k_aload (pc := 329) H d0_329 rfl rfl ?_
          refine k_aload (pc := 331) H d0_331 rfl rfl ?_
          refine k_iload (pc := 333) H d0_333 rfl ?_
          refine k_iload (pc := 335) H d0_335 rfl ?_
          refine k_iload (pc := 337) H d0_337 rfl ?_
          refine k_iload (pc := 339) H d0_339 rfl ?_
          refine k_iconst (3 : Int32) (pc := 341) H d0_341 rfl ?_
          refine k_invS (y := (⟨"com/example/bagwidth/bagwidth/engine/BitSetGraphAddRowToPinLaw", "word", "([J[JZIZII)Z"⟩ : MethodName)) (st := []) [(.ref s), (.ref i), (.int (own_b t1)), (.int i1), (.int (own_b t2)), (.int i2), (.int (3 : Int32))] 0 (pc := 342) H (wd hw 36 rfl) (wd hw 37 rfl) (wd hw 38 rfl) (wd hw 39 rfl) (by decide) (fun z0 => rm5 l Z a0 hw n0 hZ z0 s i _ [a, b, a ^^^ b, a ^^^ (-1 : Int64), a + b] t1 t2 i1 i2 (3 : Int32) u1 u2 3 _ _ VZ VI hu1 hu2 rfl (own_upd5 _ _ _ _ _ _ (n / 64 + 1) 3 (by omega) (by omega) (by decide)) rfl (own_fin (hw64 _ hu12) (hw64 _ hu22) hb)) (lenOf pd_4 rfl) d0_342 rfl rfl rfl (by decide) (by decide) (by decide) (by decide) ?_
          rintro v hx ⟨rfl, ex⟩
          rw [ex]
          clear ex hx
          show W l room_1 C _ hZ 8 1394 345 #[.val (.int pa), .val (.int qa), .val (.int ra), .val (.int sa), .val (.long a), .second, .val (.long b), .second, .val (.int ni), .val (.int vi), .val (.int i1), .val (.int i2), .val (.int xi), .val (.int yi), .val (.int (own_b t1)), .val (.int (own_b t2)), .val (.int (own_b t3)), .val (.ref g), .val (.ref i), .val (.ref s)] [(.int (1 : Int32))]
          refine k_ifF (pc := 345) H d0_345 (XT.i0_eq_f (by decide)) ?_
          refine k_aload (pc := 348) H d0_348 rfl rfl ?_
          refine k_aload (pc := 350) H d0_350 rfl rfl ?_
          refine k_iload (pc := 352) H d0_352 rfl ?_
          refine k_iload (pc := 354) H d0_354 rfl ?_
          refine k_iload (pc := 356) H d0_356 rfl ?_
          refine k_iload (pc := 358) H d0_358 rfl ?_
          refine k_iconst (4 : Int32) (pc := 360) H d0_360 rfl ?_
          refine k_invS (y := (⟨"com/example/bagwidth/bagwidth/engine/BitSetGraphAddRowToPinLaw", "word", "([J[JZIZII)Z"⟩ : MethodName)) (st := []) [(.ref s), (.ref i), (.int (own_b t1)), (.int i1), (.int (own_b t2)), (.int i2), (.int (4 : Int32))] 0 (pc := 361) H (wd hw 36 rfl) (wd hw 37 rfl) (wd hw 38 rfl) (wd hw 39 rfl) (by decide) (fun z0 => rm5 l Z a0 hw n0 hZ z0 s i _ [a, b, a ^^^ b, a ^^^ (-1 : Int64), a + b] t1 t2 i1 i2 (4 : Int32) u1 u2 4 _ _ VZ VI hu1 hu2 rfl (own_upd5 _ _ _ _ _ _ (n / 64 + 1) 4 (by omega) (by omega) (by decide)) rfl (own_fin (hw64 _ hu12) (hw64 _ hu22) hb)) (lenOf pd_4 rfl) d0_361 rfl rfl rfl (by decide) (by decide) (by decide) (by decide) ?_
          rintro v hx ⟨rfl, ex⟩
          rw [ex]
          clear ex hx
          show W l room_1 C _ hZ 8 1394 364 #[.val (.int pa), .val (.int qa), .val (.int ra), .val (.int sa), .val (.long a), .second, .val (.long b), .second, .val (.int ni), .val (.int vi), .val (.int i1), .val (.int i2), .val (.int xi), .val (.int yi), .val (.int (own_b t1)), .val (.int (own_b t2)), .val (.int (own_b t3)), .val (.ref g), .val (.ref i), .val (.ref s)] [(.int (1 : Int32))]
          refine k_ifF (pc := 364) H d0_364 (XT.i0_eq_f (by decide)) ?_
          refine k_iconst (1 : Int32) (pc := 367) H d0_367 rfl ?_
          refine k_goto 372 (pc := 368) H d0_368 rfl ?_
          exact k_retN' (t := .boolean) (by simp) (pc := 372) H d0_372 (by show 8 ≤ 24; decide) (by show 1394 ≤ 2880; decide) (rfl)
        have J169 : ∀ (hh : Heap) (es : List (Nat × Nat)) (T : own_G Z hh g r d' es n (n / 64 + 1) wi) (hb : own_nb es u0 = own_l t1 u1), W l room_1 C (n0, 24, 2880, fun v h => v = some (.int 1)) hh 6 1384 169 #[.val (.int pa), .val (.int qa), .val (.int ra), .val (.int sa), .val (.long a), .second, .val (.long b), .second, .val (.int ni), .val (.int vi), .val (.int i1), .val (.int i2), .val (.int xi), .val (.int yi), .val (.int (own_b t1)), .val (.int (own_b t2)), .val (.int (own_b t3)), .val (.ref g), .unset, .unset] [] := by
          intro hh es T hb
          refine k_iload (pc := 169) H d0_169 rfl ?_
          refine k_iff0 (P := (own_b t2) = 0) 183 (pc := 171) H d0_171 rfl XT.i0_eq_t XT.i0_eq_f (fun k0 => ?_) (fun k0 => ?_)
          · rw [own_b0] at k0
            exact J183 _ _ T (by rw [hb, k0]; rfl)
          · rw [own_b0, Bool.not_eq_false] at k0
            have k1 := of_decide_eq_true (ht2.symm.trans k0)
            refine k_aload (pc := 174) H d0_174 rfl rfl ?_
            refine k_iload (pc := 176) H d0_176 rfl ?_
            refine k_iload (pc := 178) H d0_178 rfl ?_
            refine k_invV (y := (⟨"com/example/bagwidth/bagwidth/engine/BitSetGraph", "addEdge", "(II)V"⟩ : MethodName)) (st := []) (a := g) [(.int i2), (.int vi)] 0 (pc := 180) H (wd hw 43 rfl) (wd hw 44 rfl) (wd hw 46 rfl) (wd hw 45 rfl) (wd hw 4 rfl) (wd hw 47 rfl) rfl (by decide) T.1 (fun z0 => rm7 l Z a0 hw n0 hh z0 g r d' es n (n / 64 + 1) wi i2 vi u2 u0 gr gd ngr ngd nrd T.1 T.2.1 T.2.2.1 T.2.2.2.1 T.2.2.2.2.1 T.2.2.2.2.2 hwi hsz hu2 hu0 hu22 hu02 (hw64 _ hu22) (hw64 _ hu02)) (lenOf pd_5 rfl) d0_180 rfl rfl rfl (by decide) (by decide) (by decide) (by decide) ?_
            rintro v hE ⟨rfl, KT5, VrT5, VdT5⟩
            show W l room_1 C _ hE 6 1384 183 #[.val (.int pa), .val (.int qa), .val (.int ra), .val (.int sa), .val (.long a), .second, .val (.long b), .second, .val (.int ni), .val (.int vi), .val (.int i1), .val (.int i2), .val (.int xi), .val (.int yi), .val (.int (own_b t1)), .val (.int (own_b t2)), .val (.int (own_b t3)), .val (.ref g), .unset, .unset] []
            have T5 : own_G Z hE g r d' ((u0, u2) :: (u2, u0) :: es) n (n / 64 + 1) wi := ⟨T.1.keep KT5, T.2.1.keep KT5 (ninS ngr (ninS ngd nin0)), T.2.2.1.keep KT5 (ninS ngr (ninS ngd nin0)), T.2.2.2.1.keep KT5 (ninS ngr (ninS ngd nin0)), VrT5, VdT5⟩
            exact J183 _ _ T5 (by rw [own_nb_self' k1.1, hb, k0]; rfl)
        have J155 : ∀ (hh : Heap) (es : List (Nat × Nat)) (T : own_G Z hh g r d' es n (n / 64 + 1) wi) (hb : own_nb es u0 = []), W l room_1 C (n0, 24, 2880, fun v h => v = some (.int 1)) hh 6 1384 155 #[.val (.int pa), .val (.int qa), .val (.int ra), .val (.int sa), .val (.long a), .second, .val (.long b), .second, .val (.int ni), .val (.int vi), .val (.int i1), .val (.int i2), .val (.int xi), .val (.int yi), .val (.int (own_b t1)), .val (.int (own_b t2)), .val (.int (own_b t3)), .val (.ref g), .unset, .unset] [] := by
          intro hh es T hb
          refine k_iload (pc := 155) H d0_155 rfl ?_
          refine k_iff0 (P := (own_b t1) = 0) 169 (pc := 157) H d0_157 rfl XT.i0_eq_t XT.i0_eq_f (fun k0 => ?_) (fun k0 => ?_)
          · rw [own_b0] at k0
            exact J169 _ _ T (by rw [hb, k0]; rfl)
          · rw [own_b0, Bool.not_eq_false] at k0
            have k1 := of_decide_eq_true (ht1.symm.trans k0)
            refine k_aload (pc := 160) H d0_160 rfl rfl ?_
            refine k_iload (pc := 162) H d0_162 rfl ?_
            refine k_iload (pc := 164) H d0_164 rfl ?_
            refine k_invV (y := (⟨"com/example/bagwidth/bagwidth/engine/BitSetGraph", "addEdge", "(II)V"⟩ : MethodName)) (st := []) (a := g) [(.int vi), (.int i1)] 0 (pc := 166) H (wd hw 43 rfl) (wd hw 44 rfl) (wd hw 46 rfl) (wd hw 45 rfl) (wd hw 4 rfl) (wd hw 47 rfl) rfl (by decide) T.1 (fun z0 => rm7 l Z a0 hw n0 hh z0 g r d' es n (n / 64 + 1) wi vi i1 u0 u1 gr gd ngr ngd nrd T.1 T.2.1 T.2.2.1 T.2.2.2.1 T.2.2.2.2.1 T.2.2.2.2.2 hwi hsz hu0 hu1 hu02 hu12 (hw64 _ hu02) (hw64 _ hu12)) (lenOf pd_5 rfl) d0_166 rfl rfl rfl (by decide) (by decide) (by decide) (by decide) ?_
            rintro v hE ⟨rfl, KT5, VrT5, VdT5⟩
            show W l room_1 C _ hE 6 1384 169 #[.val (.int pa), .val (.int qa), .val (.int ra), .val (.int sa), .val (.long a), .second, .val (.long b), .second, .val (.int ni), .val (.int vi), .val (.int i1), .val (.int i2), .val (.int xi), .val (.int yi), .val (.int (own_b t1)), .val (.int (own_b t2)), .val (.int (own_b t3)), .val (.ref g), .unset, .unset] []
            have T5 : own_G Z hE g r d' ((u1, u0) :: (u0, u1) :: es) n (n / 64 + 1) wi := ⟨T.1.keep KT5, T.2.1.keep KT5 (ninS ngr (ninS ngd nin0)), T.2.2.1.keep KT5 (ninS ngr (ninS ngd nin0)), T.2.2.2.1.keep KT5 (ninS ngr (ninS ngd nin0)), VrT5, VdT5⟩
            exact J169 _ _ T5 (by rw [own_nb_self k1, hb, k0]; rfl)
        refine k_iff0 (P := (own_b t3) = 0) 155 (pc := 143) H d0_143 rfl XT.i0_eq_t XT.i0_eq_f (fun k0 => ?_) (fun k0 => ?_)
        · exact J155 _ _ T0 rfl
        · rw [own_b0, Bool.not_eq_false] at k0
          have k1 := of_decide_eq_true (ht3.symm.trans k0)
          refine k_aload (pc := 146) H d0_146 rfl rfl ?_
          refine k_iload (pc := 148) H d0_148 rfl ?_
          refine k_iload (pc := 150) H d0_150 rfl ?_
          refine k_invV (y := (⟨"com/example/bagwidth/bagwidth/engine/BitSetGraph", "addEdge", "(II)V"⟩ : MethodName)) (st := []) (a := g) [(.int xi), (.int yi)] 0 (pc := 152) H (wd hw 43 rfl) (wd hw 44 rfl) (wd hw 46 rfl) (wd hw 45 rfl) (wd hw 4 rfl) (wd hw 47 rfl) rfl (by decide) T0.1 (fun z0 => rm7 l Z a0 hw n0 hA z0 g r d' [] n (n / 64 + 1) wi xi yi x1 y1 gr gd ngr ngd nrd T0.1 T0.2.1 T0.2.2.1 T0.2.2.2.1 T0.2.2.2.2.1 T0.2.2.2.2.2 hwi hsz hx1 hy1 hx12 hy12 (hw64 _ hx12) (hw64 _ hy12)) (lenOf pd_5 rfl) d0_152 rfl rfl rfl (by decide) (by decide) (by decide) (by decide) ?_
          rintro v hE ⟨rfl, KT5, VrT5, VdT5⟩
          show W l room_1 C _ hE 6 1384 155 #[.val (.int pa), .val (.int qa), .val (.int ra), .val (.int sa), .val (.long a), .second, .val (.long b), .second, .val (.int ni), .val (.int vi), .val (.int i1), .val (.int i2), .val (.int xi), .val (.int yi), .val (.int (own_b t1)), .val (.int (own_b t2)), .val (.int (own_b t3)), .val (.ref g), .unset, .unset] []
          have T5 : own_G Z hE g r d' ((y1, x1) :: (x1, y1) :: []) n (n / 64 + 1) wi := ⟨T0.1.keep KT5, T0.2.1.keep KT5 (ninS ngr (ninS ngd nin0)), T0.2.2.1.keep KT5 (ninS ngr (ninS ngd nin0)), T0.2.2.2.1.keep KT5 (ninS ngr (ninS ngd nin0)), VrT5, VdT5⟩
          exact J155 _ _ T5 (by rw [own_nb_other k1.1 k1.2.1]; rfl)
      refine k_icmp (P := xi = vi) 127 (pc := 106) H d0_106 rfl XT.ii_eq_t XT.ii_eq_f (fun m1 => ?_) (fun m1 => ?_)
      · refine k_iconst (0 : Int32) (pc := 127) H d0_127 rfl ?_
        exact J128 _ (by rw [ht3, decide_eq_false (fun z => absurd (e_x1u0.mp m1) (z.1))]; rfl)
      · refine k_iload (pc := 109) H d0_109 rfl ?_
        refine k_iload (pc := 111) H d0_111 rfl ?_
        refine k_icmp (P := yi = vi) 127 (pc := 113) H d0_113 rfl XT.ii_eq_t XT.ii_eq_f (fun m2 => ?_) (fun m2 => ?_)
        · refine k_iconst (0 : Int32) (pc := 127) H d0_127 rfl ?_
          exact J128 _ (by rw [ht3, decide_eq_false (fun z => absurd (e_y1u0.mp m2) (z.2.1))]; rfl)
        · refine k_iload (pc := 116) H d0_116 rfl ?_
          refine k_iload (pc := 118) H d0_118 rfl ?_
          refine k_icmp (P := xi = yi) 127 (pc := 120) H d0_120 rfl XT.ii_eq_t XT.ii_eq_f (fun m3 => ?_) (fun m3 => ?_)
          · refine k_iconst (0 : Int32) (pc := 127) H d0_127 rfl ?_
            exact J128 _ (by rw [ht3, decide_eq_false (fun z => absurd (e_x1y1.mp m3) (z.2.2))]; rfl)
          · refine k_iconst (1 : Int32) (pc := 123) H d0_123 rfl ?_
            refine k_goto 128 (pc := 124) H d0_124 rfl ?_
            exact J128 _ (by rw [ht3, decide_eq_true (⟨fun z => m1 (e_x1u0.mpr z), fun z => m2 (e_y1u0.mpr z), fun z => m3 (e_x1y1.mpr z)⟩)]; rfl)
    refine k_icmp (P := i2 = vi) 99 (pc := 85) H d0_85 rfl XT.ii_eq_t XT.ii_eq_f (fun m1 => ?_) (fun m1 => ?_)
    · refine k_iconst (0 : Int32) (pc := 99) H d0_99 rfl ?_
      exact J100 _ (by rw [ht2, decide_eq_false (fun z => absurd (e_u2u0.mp m1) (z.1))]; rfl)
    · refine k_iload (pc := 88) H d0_88 rfl ?_
      refine k_iload (pc := 90) H d0_90 rfl ?_
      refine k_icmp (P := i2 = i1) 99 (pc := 92) H d0_92 rfl XT.ii_eq_t XT.ii_eq_f (fun m2 => ?_) (fun m2 => ?_)
      · refine k_iconst (0 : Int32) (pc := 99) H d0_99 rfl ?_
        exact J100 _ (by rw [ht2, decide_eq_false (fun z => absurd (e_u2u1.mp m2) (z.2))]; rfl)
      · refine k_iconst (1 : Int32) (pc := 95) H d0_95 rfl ?_
        refine k_goto 100 (pc := 96) H d0_96 rfl ?_
        exact J100 _ (by rw [ht2, decide_eq_true (⟨fun z => m1 (e_u2u0.mpr z), fun z => m2 (e_u2u1.mpr z)⟩)]; rfl)
  refine k_icmp (P := i1 = vi) 78 (pc := 71) H d0_71 rfl XT.ii_eq_t XT.ii_eq_f (fun m1 => ?_) (fun m1 => ?_)
  · refine k_iconst (0 : Int32) (pc := 78) H d0_78 rfl ?_
    exact J79 _ (by rw [ht1, decide_eq_false (fun z => absurd (e_u1u0.mp m1) (z))]; rfl)
  · refine k_iconst (1 : Int32) (pc := 74) H d0_74 rfl ?_
    refine k_goto 79 (pc := 75) H d0_75 rfl ?_
    exact J79 _ (by rw [ht1, decide_eq_true (show ¬ u1 = u0 from fun z => m1 (e_u1u0.mpr z))]; rfl)
set_option maxRecDepth 65536 in
set_option maxHeartbeats 40000000 in
theorem comes_1 {Post : Tables → Env → Array Value → State → Outcome → State → Prop} (hpost : ∀ tb e args s v u, (limb_1_1.after args s (.returned v) u = true ∧ limb_1_2.after args s (.returned v) u = true ∧ True) → FrameEnd s (.returned v) u (Jvm.fieldLocs frame_1_writes args s ++ Jvm.arrayLocs frame_1_arrays args s ++ Jvm.staticLocs frame_1_statics s) 24 2880 → Post tb e args s (.returned v) u) :
    ArmFor flags0 classFile x code maxLocals ret World_1 tables_1 room_1 Calls_1 rest_1 Pre_1 Post := by
  intro l hfl _ _ p e ha hc hk s m args below hf hA hF happ hP
  obtain ⟨hcalls, hrest, hpre⟩ := hP
  obtain ⟨-, -, -, hnamed, -, -, -, hat⟩ := (Spec.applies_iff hf).mp happ
  obtain ⟨hg, hn⟩ := and_e (Cond.before_iff.mp (show (Jvm.Cond.and given_1 narrow_1).before args s = true from hpre))
  obtain ⟨hcnt, g0⟩ := and_e hg
  obtain ⟨q0, g1⟩ := and_e g0
  obtain ⟨q1, g2⟩ := and_e g1
  obtain ⟨q2, g3⟩ := and_e g2
  obtain ⟨q3, g4⟩ := and_e g3
  obtain ⟨q4, g5⟩ := and_e g4
  obtain ⟨w0, w1, w2, w3, w4, w5, rfl⟩ : ∃ w0 w1 w2 w3 w4 w5 : Value, args = #[w0, w1, w2, w3, w4, w5] := by
    have hs : args.size = 6 := by simpa [Cond.value, given_1] using hcnt
    obtain ⟨L⟩ := args
    match L, hs with
    | [w0, w1, w2, w3, w4, w5], _ => exact ⟨w0, w1, w2, w3, w4, w5, rfl⟩
  have hw := fun d (hd : d ∈ tables_1) => atoms_spec (ws := Jvm.Cond.code x code maxLocals ret :: tables_1) hat d (List.mem_cons_of_mem _ hd)
  obtain ⟨i0, e0⟩ := is_v q0
  obtain rfl : w0 = (.int i0) := Option.some.inj e0
  obtain ⟨i1, e1⟩ := is_v q1
  obtain rfl : w1 = (.int i1) := Option.some.inj e1
  obtain ⟨i2, e2⟩ := is_v q2
  obtain rfl : w2 = (.int i2) := Option.some.inj e2
  obtain ⟨i3, e3⟩ := is_v q3
  obtain rfl : w3 = (.int i3) := Option.some.inj e3
  obtain ⟨i4, e4⟩ := isL_v q4
  obtain rfl : w4 = (.long i4) := Option.some.inj e4
  obtain ⟨i5, e5⟩ := isL_v g5
  obtain rfl : w5 = (.long i5) := Option.some.inj e5
  obtain ⟨n, o, h1, h2, h3, _, L, rfl, ⟨rfl, N⟩, hq⟩ := rm0 l s _ hw tables_1 s.heap.size s.heap (Nat.le_refl _) i0 i1 i2 i3 i4 i5  p e ha hc hk s m _ below hf ((Spec.applies_iff_loose hf).mp happ).1 ⟨rfl, State.Warmed39.refl s, rfl⟩ trivial
  refine ⟨n, _, h1, h2, h3, hpost _ _ _ _ _ _ ⟨Cond.after_iff.mpr rfl, Cond.after_iff.mpr (eq_i res_at (Term.int_eval (1)) rfl), trivial⟩ ⟨hq.1, hq.2.1, (hq.2.2.sift fun y hy => Or.inr (N y hy)).mono (by decide) (by decide)⟩⟩
theorem main_1_1 : Claimed_1_1 := comes_1 fun _ _ _ _ _ _ h hF => ⟨h.1, hF⟩
theorem main_1_2 : Claimed_1_2 := comes_1 fun _ _ _ _ _ _ h hF => ⟨h.2.1, hF⟩
end Jvm.Pilot.@@N@@
namespace Jvm.Pilot.@@N@@
open Jvm Jvm.ClassFile Sem Op Lib Jvm.Free Jvm.Stand Jvm.Pilot.@@N@@.Jvm.D
/-! MADE BY PROGRAM (witnessworld.py) out of the Statement's table words and the real class files: 12 classes; the members and pool entries that the words name. The judged class is class 1, her method 3. -/
namespace start1
open Jvm.ClassFile
def u (s : String) : CpInfo := .utf8 (stringToUtf16 s)
/-- a pool by its gaps: so many unusable entries, then the entry; so many at the end -/
def gap : Nat → List CpInfo → List CpInfo
  | 0, r => r
  | n + 1, r => .unusable :: gap n r
def poolList (es : List (Nat × CpInfo)) (last : Nat) : List CpInfo := es.foldr (fun e r => gap e.1 (e.2 :: r)) (gap last [])
def pool (es : List (Nat × CpInfo)) (last : Nat) : Array CpInfo := ⟨poolList es last⟩
def fileOf (pool : Array CpInfo) (this : Nat) (attrs : Array Attribute := #[]) (ms : Array MethodInfo := #[]) (fl : Nat := 33) (sup : Nat := 0) (ifs : Array Nat := #[]) (fds : Array FieldInfo := #[]) : ClassFile where
  minorVersion := 0
  majorVersion := 65
  constantPool := pool
  accessFlags := fl
  thisClass := this
  superClass := sup
  interfaces := ifs
  fields := fds
  methods := ms
  attributes := attrs
def plain (name : String) (sup : Option ClassId) : Class where
  name := name
  kind := .ordinary
  loader := none
  accessFlags := 33
  super := sup
  interfaces := #[]
  cf := none
  fields := #[]
  methods := #[]
  instanceTypes := #[]
  staticTypes := #[]
  resolved := #[]
  callSites := []
  init := .initialized
  statics := none
  mirror := none

def pool0 : Array CpInfo := pool [(5, u "<init>"), (0, u "()V"), (1, .class_ 10), (1, u "java/lang/Object")] 113

def k0c0 : Code := { maxStack := 0, maxLocals := 1, code := object_method_1_code, exceptionTable := #[], attributes := #[] }
def k0m0 : Method := { name := "<init>", desc := "()V", sig := { parameters := [], returnType := none }, accessFlags := 1, code := some k0c0 }
/-- java/lang/Object -/
def k0 : Class := { plain "java/lang/Object" none with
  accessFlags := 33
  interfaces := #[]
  cf := some (fileOf pool0 8 #[] #[{ accessFlags := 1, nameIndex := 5, descriptorIndex := 6, attributes := #[] }] 33 0 #[] #[])
  fields := #[]
  methods := #[k0m0]
  instanceTypes := #[]
  staticTypes := #[]
  resolved := Array.replicate 124 none
  statics := none }

def pool1 : Array CpInfo := pool [(2, .class_ 4), (1, u "java/lang/Object"), (0, u "<init>"), (0, u "()V"), (0, .methodref 8 9), (0, .class_ 10), (0, .nameAndType 11 12), (0, u "com/example/bagwidth/bagwidth/engine/BitSetGraphAddRowToPinLaw"), (0, u "bit"), (0, u "(ZII)J"), (0, .integer 2147483647), (0, .integer 65535), (0, .class_ 16), (0, u "com/example/bagwidth/bagwidth/engine/BitSetGraph"), (0, .methodref 15 18), (0, .nameAndType 5 19), (0, u "(I)V"), (0, .methodref 15 21), (0, .nameAndType 22 23), (0, u "addEdge"), (0, u "(II)V"), (0, .long 18446744073709551615), (1, .methodref 15 27), (0, .nameAndType 28 29), (0, u "addRowTo"), (0, u "(I[J)V"), (0, .methodref 8 31), (0, .nameAndType 32 33), (0, u "word"), (0, u "([J[JZIZII)Z"), (3, u "law"), (0, u "(IIIIJJ)Z")] 4

def k1m0 : Method := { name := "<init>", desc := "()V", sig := { parameters := [], returnType := none }, accessFlags := 1, code := none }
def k1c1 : Code := { maxStack := 3, maxLocals := 3, code := method_2_code, exceptionTable := #[], attributes := #[] }
def k1m1 : Method := { name := "bit", desc := "(ZII)J", sig := { parameters := [.boolean, .int, .int], returnType := some .long }, accessFlags := 10, code := some k1c1 }
def k1c2 : Code := { maxStack := 7, maxLocals := 7, code := method_3_code, exceptionTable := #[], attributes := #[] }
def k1m2 : Method := { name := "word", desc := "([J[JZIZII)Z", sig := { parameters := [(.array .long), (.array .long), .boolean, .int, .boolean, .int, .int], returnType := some .boolean }, accessFlags := 10, code := some k1c2 }
def k1c3 : Code := { maxStack := 7, maxLocals := 20, code := code, exceptionTable := #[], attributes := #[] }
def k1m3 : Method := { name := "law", desc := "(IIIIJJ)Z", sig := { parameters := [.int, .int, .int, .int, .long, .long], returnType := some .boolean }, accessFlags := 9, code := some k1c3 }
/-- com/example/bagwidth/bagwidth/engine/BitSetGraphAddRowToPinLaw -/
def k1 : Class := { plain "com/example/bagwidth/bagwidth/engine/BitSetGraphAddRowToPinLaw" (some 0) with
  accessFlags := 49
  interfaces := #[]
  cf := some (fileOf pool1 8 #[] #[{ accessFlags := 1, nameIndex := 5, descriptorIndex := 6, attributes := #[] }, { accessFlags := 10, nameIndex := 11, descriptorIndex := 12, attributes := #[] }, { accessFlags := 10, nameIndex := 32, descriptorIndex := 33, attributes := #[] }, { accessFlags := 9, nameIndex := 37, descriptorIndex := 38, attributes := #[] }] 49 2 #[] #[])
  fields := #[]
  methods := #[k1m0, k1m1, k1m2, k1m3]
  instanceTypes := #[]
  staticTypes := #[]
  resolved := Array.replicate 43 none
  statics := none }

def pool2 : Array CpInfo := pool [(1, .class_ 2), (0, u "com/example/bagwidth/bagwidth/engine/MutableGraph"), (0, .class_ 4), (0, u "java/lang/Object")] 14

/-- com/example/bagwidth/bagwidth/engine/MutableGraph -/
def k2 : Class := { plain "com/example/bagwidth/bagwidth/engine/MutableGraph" (some 0) with
  accessFlags := 1536
  interfaces := #[]
  cf := some (fileOf pool2 1 #[] #[] 1536 3 #[] #[])
  fields := #[]
  methods := #[]
  instanceTypes := #[]
  staticTypes := #[]
  resolved := Array.replicate 19 none
  statics := none }

def pool3 : Array CpInfo := pool [(1, .methodref 2 3), (0, .class_ 4), (0, .nameAndType 5 6), (0, u "java/lang/Object"), (0, u "<init>"), (0, u "()V"), (0, .fieldref 8 9), (0, .class_ 10), (0, .nameAndType 11 12), (0, u "com/example/bagwidth/bagwidth/engine/BitSetGraph"), (0, u "keptVertices"), (0, u "[I"), (0, .fieldref 8 14), (0, .nameAndType 15 12), (0, u "keptDegrees"), (0, .fieldref 8 17), (0, .nameAndType 18 19), (0, u "vertexCount"), (0, u "I"), (0, .methodref 8 21), (0, .nameAndType 22 23), (0, u "wordsFor"), (0, u "(I)I"), (0, .fieldref 8 25), (0, .nameAndType 26 19), (0, u "words"), (0, .fieldref 8 28), (0, .nameAndType 29 30), (0, u "rows"), (0, u "[J"), (0, .fieldref 8 32), (0, .nameAndType 33 12), (0, u "degrees"), (0, .fieldref 8 35), (0, .nameAndType 36 30), (0, u "keptRows"), (8, u "(I)V"), (39, u "addEdge"), (0, u "(II)V"), (2, u "keptCount"), (7, .class_ 98), (0, u "com/example/bagwidth/bagwidth/engine/MutableGraph"), (14, u "(I[J)V"), (0, u "addRowTo")] 10

def k3c0 : Code := { maxStack := 3, maxLocals := 2, code := prog_2_method_1_code, exceptionTable := #[], attributes := #[] }
def k3m0 : Method := { name := "<init>", desc := "(I)V", sig := { parameters := [.int], returnType := none }, accessFlags := 0, code := some k3c0 }
def k3c1 : Code := { maxStack := 2, maxLocals := 1, code := prog_2_method_3_code, exceptionTable := #[], attributes := #[] }
def k3m1 : Method := { name := "wordsFor", desc := "(I)I", sig := { parameters := [.int], returnType := some .int }, accessFlags := 8, code := some k3c1 }
def k3c2 : Code := { maxStack := 7, maxLocals := 3, code := prog_2_method_9_code, exceptionTable := #[], attributes := #[] }
def k3m2 : Method := { name := "addEdge", desc := "(II)V", sig := { parameters := [.int, .int], returnType := none }, accessFlags := 1, code := some k3c2 }
def k3c3 : Code := { maxStack := 7, maxLocals := 5, code := prog_2_method_15_code, exceptionTable := #[], attributes := #[] }
def k3m3 : Method := { name := "addRowTo", desc := "(I[J)V", sig := { parameters := [.int, (.array .long)], returnType := none }, accessFlags := 0, code := some k3c3 }
/-- com/example/bagwidth/bagwidth/engine/BitSetGraph -/
def k3 : Class := { plain "com/example/bagwidth/bagwidth/engine/BitSetGraph" (some 0) with
  accessFlags := 48
  interfaces := #[2]
  cf := some (fileOf pool3 8 #[] #[{ accessFlags := 0, nameIndex := 5, descriptorIndex := 45, attributes := #[] }, { accessFlags := 8, nameIndex := 22, descriptorIndex := 23, attributes := #[] }, { accessFlags := 1, nameIndex := 85, descriptorIndex := 86, attributes := #[] }, { accessFlags := 0, nameIndex := 114, descriptorIndex := 113, attributes := #[] }] 48 2 #[97] #[{ accessFlags := 18, nameIndex := 18, descriptorIndex := 19, attributes := #[] }, { accessFlags := 18, nameIndex := 26, descriptorIndex := 19, attributes := #[] }, { accessFlags := 18, nameIndex := 29, descriptorIndex := 30, attributes := #[] }, { accessFlags := 18, nameIndex := 33, descriptorIndex := 12, attributes := #[] }, { accessFlags := 2, nameIndex := 11, descriptorIndex := 12, attributes := #[] }, { accessFlags := 2, nameIndex := 15, descriptorIndex := 12, attributes := #[] }, { accessFlags := 2, nameIndex := 36, descriptorIndex := 30, attributes := #[] }, { accessFlags := 2, nameIndex := 89, descriptorIndex := 19, attributes := #[] }])
  fields := #[{ name := "vertexCount", type := .int, accessFlags := 18, slot := 0, constantValue := 0 }, { name := "words", type := .int, accessFlags := 18, slot := 1, constantValue := 0 }, { name := "rows", type := (.array .long), accessFlags := 18, slot := 2, constantValue := 0 }, { name := "degrees", type := (.array .int), accessFlags := 18, slot := 3, constantValue := 0 }, { name := "keptVertices", type := (.array .int), accessFlags := 2, slot := 4, constantValue := 0 }, { name := "keptDegrees", type := (.array .int), accessFlags := 2, slot := 5, constantValue := 0 }, { name := "keptRows", type := (.array .long), accessFlags := 2, slot := 6, constantValue := 0 }, { name := "keptCount", type := .int, accessFlags := 2, slot := 7, constantValue := 0 }]
  methods := #[k3m0, k3m1, k3m2, k3m3]
  instanceTypes := #[.int, .int, (.array .long), (.array .int), (.array .int), (.array .int), (.array .long), .int]
  staticTypes := #[]
  resolved := Array.replicate 125 none
  statics := none }

def pool4 : Array CpInfo := pool [(1, u "java/lang/Cloneable"), (0, .class_ 1), (0, u "java/lang/Object"), (0, .class_ 3)] 3

/-- java/lang/Cloneable -/
def k4 : Class := { plain "java/lang/Cloneable" (some 0) with
  accessFlags := 1537
  interfaces := #[]
  cf := some (fileOf pool4 2 #[] #[] 1537 4 #[] #[])
  fields := #[]
  methods := #[]
  instanceTypes := #[]
  staticTypes := #[]
  resolved := Array.replicate 8 none
  statics := none }

def pool5 : Array CpInfo := pool [(1, u "java/io/Serializable"), (0, .class_ 1), (0, u "java/lang/Object"), (0, .class_ 3)] 3

/-- java/io/Serializable -/
def k5 : Class := { plain "java/io/Serializable" (some 0) with
  accessFlags := 1537
  interfaces := #[]
  cf := some (fileOf pool5 2 #[] #[] 1537 4 #[] #[])
  fields := #[]
  methods := #[]
  instanceTypes := #[]
  staticTypes := #[]
  resolved := Array.replicate 8 none
  statics := none }

/-- the primitive byte -/
def k6 : Class := { plain "byte" none with kind := .primitive 'B', accessFlags := 0x411 }
/-- [B -/
def k7 : Class := { plain "[B" (some 0) with kind := .array 6 .byte, interfaces := #[4, 5], accessFlags := 1041 }

/-- the primitive int -/
def k8 : Class := { plain "int" none with kind := .primitive 'I', accessFlags := 0x411 }
/-- [I -/
def k9 : Class := { plain "[I" (some 0) with kind := .array 8 .int, interfaces := #[4, 5], accessFlags := 1041 }

/-- the primitive long -/
def k10 : Class := { plain "long" none with kind := .primitive 'J', accessFlags := 0x411 }
/-- [J -/
def k11 : Class := { plain "[J" (some 0) with kind := .array 10 .long, interfaces := #[4, 5], accessFlags := 1041 }

def heap : Heap := #[]
def classes : Array Class := #[k0, k1, k2, k3, k4, k5, k6, k7, k8, k9, k10, k11]
def interned : List (Array UInt16 × Addr) := []
def slotsUsed : Nat := 0
def theMethod : MethodId := ⟨1, 3⟩
def args0 : Array Value := #[.int 100, .int 5, .int 70, .int 9, .long 3, .long 4]
def aboutOver (below : List Frame) : State where
  vm := { classes := classes, interned := interned.toArray }
  heap := heap
  slotsUsed := slotsUsed
  threads := #[{ frames := .invoking theMethod args0 :: below }]
def below0 : List Frame := [.native { method := ⟨0, 0⟩, args := #[] }]
def about1 : State := aboutOver below0
def p0 : Program := .bare "" "" ""
def e0 : Env := launch0.env 0 0 0
theorem w_frames : about1.frames = Frame.invoking theMethod args0 :: below0 := rfl
set_option maxRecDepth 65536 in
theorem w_args : argsFit about1.vm theMethod args0 = true := by decide +kernel
set_option maxRecDepth 65536 in
theorem w_heap : heapFits about1 = true := by decide +kernel
set_option maxRecDepth 65536 in
theorem w_runnable : about1.curStatus? = some .runnable := by decide +kernel
set_option maxRecDepth 65536 in
theorem w_alone : about1.alone = true := by decide +kernel
set_option maxRecDepth 65536 in
theorem w_named : about1.methodNamed? x = some theMethod := by decide +kernel
set_option maxRecDepth 65536 in
theorem w_hears : about1.hears theMethod below0 = true := by decide +kernel
set_option maxRecDepth 65536 in
theorem w_ripe : about1.ripe theMethod args0 below0 = true := by decide +kernel
theorem w_running : about1.status = .running := rfl
set_option maxRecDepth 65536 in
theorem w_room : about1.hasRoom e0.platform room_1 = true :=
  launch0.hasRoom_least _ room_1 (by decide +kernel) (by decide +kernel) (by decide +kernel) (by decide +kernel) (by decide +kernel) (by decide +kernel)
theorem allAtoms_all (ts : List Jvm.Cond) (a : Array Jvm.Value) (st : Jvm.State) : (allAtoms ts).before a st = ts.all (fun c => c.before a st) := by
  induction ts with
  | nil => rfl
  | cons c t ih =>
    show (Jvm.Cond.and c (allAtoms t)).before a st = _
    rw [Jvm.Cond.before_and, ih, List.all_cons]
def words1 : List Jvm.Cond := Jvm.Cond.code x code maxLocals ret :: tables_1
/-- a 'code' word, met by the world's own term for the bytes: nothing is compared byte by byte -/
theorem code_word {y : MethodName} {bytes : ByteArray} {mx : Nat} {rt : Option FieldType} {a : Array Value} {s : State} {m : MethodId} {meth : Method} {c : Code} (h1 : s.methodNamed? y = some m) (h2 : s.vm.method? m = some meth) (h3 : meth.code = some c) (h4 : c.code = bytes)
    (h5 : (c.maxLocals == mx && c.exceptionTable.isEmpty && decide (c.maxStack ≤ mostOperands) && decide (meth.sig.returnType = rt) && !meth.locks && decide (parseMethodDescriptor y.desc = some meth.sig)) = true) : (Jvm.Cond.code y bytes mx rt).before a s = true := by
  simp only [Bool.and_eq_true, beq_iff_eq, Bool.not_eq_true', decide_eq_true_eq] at h5
  obtain ⟨⟨⟨⟨⟨g1, g2⟩, g3⟩, g4⟩, g5⟩, g6⟩ := h5
  simp [Cond.before, Cond.holds, Cond.value, h1, h2, h3, h4, g1, g2, g3, g4, g5, g6]
def isCode : Jvm.Cond → Bool
  | .code _ _ _ _ => true
  | _ => false
theorem all_split {L : List Jvm.Cond} {P : Jvm.Cond → Bool} (h1 : L.all (fun c => isCode c || P c) = true) (h2 : ∀ c ∈ L.filter isCode, P c = true) : L.all P = true := by
  refine List.all_eq_true.mpr fun c hc => ?_
  have h := List.all_eq_true.mp h1 c hc
  rcases Bool.eq_false_or_eq_true (isCode c) with hi | hi
  · exact h2 c (List.mem_filter.mpr ⟨hc, hi⟩)
  · simpa [hi] using h
set_option maxRecDepth 65536 in
theorem w_c0 : (Jvm.Cond.code x code maxLocals ret).before args0 about1 = true := code_word (m := ⟨1, 3⟩) (meth := k1m3) (c := k1c3) (by decide +kernel) rfl rfl rfl (by decide +kernel)
set_option maxRecDepth 65536 in
theorem w_c1 : (Jvm.Cond.code ({ cls := "com/example/bagwidth/bagwidth/engine/BitSetGraph", name := "<init>", desc := "(I)V" } : Jvm.MethodName) prog_2_method_1_code (2 : Nat) (Option.none : Option Jvm.ClassFile.FieldType)).before args0 about1 = true := code_word (m := ⟨3, 0⟩) (meth := k3m0) (c := k3c0) (by decide +kernel) rfl rfl rfl (by decide +kernel)
set_option maxRecDepth 65536 in
theorem w_c2 : (Jvm.Cond.code ({ cls := "java/lang/Object", name := "<init>", desc := "()V" } : Jvm.MethodName) object_method_1_code (1 : Nat) (Option.none : Option Jvm.ClassFile.FieldType)).before args0 about1 = true := code_word (m := ⟨0, 0⟩) (meth := k0m0) (c := k0c0) (by decide +kernel) rfl rfl rfl (by decide +kernel)
set_option maxRecDepth 65536 in
theorem w_c3 : (Jvm.Cond.code ({ cls := "com/example/bagwidth/bagwidth/engine/BitSetGraph", name := "wordsFor", desc := "(I)I" } : Jvm.MethodName) prog_2_method_3_code (1 : Nat) (Option.some Jvm.ClassFile.FieldType.int)).before args0 about1 = true := code_word (m := ⟨3, 1⟩) (meth := k3m1) (c := k3c1) (by decide +kernel) rfl rfl rfl (by decide +kernel)
set_option maxRecDepth 65536 in
theorem w_c4 : (Jvm.Cond.code ({ cls := "com/example/bagwidth/bagwidth/engine/BitSetGraph", name := "addRowTo", desc := "(I[J)V" } : Jvm.MethodName) prog_2_method_15_code (5 : Nat) (Option.none : Option Jvm.ClassFile.FieldType)).before args0 about1 = true := code_word (m := ⟨3, 3⟩) (meth := k3m3) (c := k3c3) (by decide +kernel) rfl rfl rfl (by decide +kernel)
set_option maxRecDepth 65536 in
theorem w_c5 : (Jvm.Cond.code ({ cls := "com/example/bagwidth/bagwidth/engine/BitSetGraphAddRowToPinLaw", name := "word", desc := "([J[JZIZII)Z" } : Jvm.MethodName) method_3_code (7 : Nat) (Option.some Jvm.ClassFile.FieldType.boolean)).before args0 about1 = true := code_word (m := ⟨1, 2⟩) (meth := k1m2) (c := k1c2) (by decide +kernel) rfl rfl rfl (by decide +kernel)
set_option maxRecDepth 65536 in
theorem w_c6 : (Jvm.Cond.code ({ cls := "com/example/bagwidth/bagwidth/engine/BitSetGraphAddRowToPinLaw", name := "bit", desc := "(ZII)J" } : Jvm.MethodName) method_2_code (3 : Nat) (Option.some Jvm.ClassFile.FieldType.long)).before args0 about1 = true := code_word (m := ⟨1, 1⟩) (meth := k1m1) (c := k1c1) (by decide +kernel) rfl rfl rfl (by decide +kernel)
set_option maxRecDepth 65536 in
theorem w_c7 : (Jvm.Cond.code ({ cls := "com/example/bagwidth/bagwidth/engine/BitSetGraph", name := "addEdge", desc := "(II)V" } : Jvm.MethodName) prog_2_method_9_code (3 : Nat) (Option.none : Option Jvm.ClassFile.FieldType)).before args0 about1 = true := code_word (m := ⟨3, 2⟩) (meth := k3m2) (c := k3c2) (by decide +kernel) rfl rfl rfl (by decide +kernel)
def codes1 : List Jvm.Cond := [Jvm.Cond.code x code maxLocals ret, Jvm.Cond.code ({ cls := "com/example/bagwidth/bagwidth/engine/BitSetGraph", name := "<init>", desc := "(I)V" } : Jvm.MethodName) prog_2_method_1_code (2 : Nat) (Option.none : Option Jvm.ClassFile.FieldType), Jvm.Cond.code ({ cls := "java/lang/Object", name := "<init>", desc := "()V" } : Jvm.MethodName) object_method_1_code (1 : Nat) (Option.none : Option Jvm.ClassFile.FieldType), Jvm.Cond.code ({ cls := "com/example/bagwidth/bagwidth/engine/BitSetGraph", name := "wordsFor", desc := "(I)I" } : Jvm.MethodName) prog_2_method_3_code (1 : Nat) (Option.some Jvm.ClassFile.FieldType.int), Jvm.Cond.code ({ cls := "com/example/bagwidth/bagwidth/engine/BitSetGraph", name := "addRowTo", desc := "(I[J)V" } : Jvm.MethodName) prog_2_method_15_code (5 : Nat) (Option.none : Option Jvm.ClassFile.FieldType), Jvm.Cond.code ({ cls := "com/example/bagwidth/bagwidth/engine/BitSetGraphAddRowToPinLaw", name := "word", desc := "([J[JZIZII)Z" } : Jvm.MethodName) method_3_code (7 : Nat) (Option.some Jvm.ClassFile.FieldType.boolean), Jvm.Cond.code ({ cls := "com/example/bagwidth/bagwidth/engine/BitSetGraphAddRowToPinLaw", name := "bit", desc := "(ZII)J" } : Jvm.MethodName) method_2_code (3 : Nat) (Option.some Jvm.ClassFile.FieldType.long), Jvm.Cond.code ({ cls := "com/example/bagwidth/bagwidth/engine/BitSetGraph", name := "addEdge", desc := "(II)V" } : Jvm.MethodName) prog_2_method_9_code (3 : Nat) (Option.none : Option Jvm.ClassFile.FieldType)]
set_option maxRecDepth 65536 in
theorem codes_eq : words1.filter isCode = codes1 := rfl
theorem w_codes : ∀ c ∈ words1.filter isCode, c.before args0 about1 = true := by
  rw [codes_eq]
  intro c hc
  simp only [codes1, List.mem_cons, List.not_mem_nil, or_false] at hc
  rcases hc with rfl | rfl | rfl | rfl | rfl | rfl | rfl | rfl
  · exact w_c0
  · exact w_c1
  · exact w_c2
  · exact w_c3
  · exact w_c4
  · exact w_c5
  · exact w_c6
  · exact w_c7
set_option maxRecDepth 65536 in
theorem w_t1 : (words1.take 24).all (fun c => isCode c || c.before args0 about1) = true := by decide +kernel
set_option maxRecDepth 65536 in
theorem w_t2 : ((words1.drop 24).take 24).all (fun c => isCode c || c.before args0 about1) = true := by decide +kernel
set_option maxRecDepth 65536 in
theorem w_t3 : ((words1.drop 24).drop 24).all (fun c => isCode c || c.before args0 about1) = true := by decide +kernel
theorem w_tables : (allAtoms (Jvm.Cond.code x code maxLocals ret :: tables_1)).before args0 about1 = true := by
  rw [allAtoms_all]
  show words1.all (fun c => c.before args0 about1) = true
  refine all_split ?_ w_codes
  rw [← List.take_append_drop 24 words1, List.all_append, w_t1, ← List.take_append_drop 24 (words1.drop 24), List.all_append, w_t2, w_t3]
  rfl
set_option maxRecDepth 65536 in
theorem w_case : (Jvm.Cond.and given_1 narrow_1).before args0 about1 = true := by decide +kernel
theorem w_applies : (headSpec (Jvm.Cond.code x code maxLocals ret :: tables_1) room_1).applies x e0.platform about1 = true :=
  (Spec.applies_iff w_frames).mpr ⟨w_running, w_runnable, w_alone, w_named, w_hears, w_ripe, w_room, w_tables⟩
theorem atStart : AtStart classFile x code maxLocals ret World_1 tables_1 room_1 Calls_1 rest_1 Pre_1 launch0 p0 e0 about1 theMethod args0 below0 :=
  ⟨lists_1, trivial, launch0.admits_env _ _ _, launch0.least_env, fairChoices_fair.cas, fairChoices_fair.clock, w_frames, w_args, w_heap, w_applies, trivial, trivial, w_case⟩
end start1
theorem witness_1 : WitnessClaimed_1 := ⟨start1.p0, start1.e0, start1.about1, start1.theMethod, start1.args0, start1.below0, start1.atStart⟩
end Jvm.Pilot.@@N@@

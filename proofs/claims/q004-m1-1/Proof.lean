import JvmDerived
import JvmDerived.Pilot.@@N@@Statement
import JvmDerived.Pilot.@@N@@Code
set_option linter.unusedVariables false
set_option linter.unusedSimpArgs false
namespace Jvm.RoadKit
open Sem ClassFile Op Lib Jvm.Stand Jvm.Free Jvm.LawKit
section New
variable {p : Program} {l : Launch} {e : Env} {R : Room} {s : State} {m : MethodId} {args : Array Value} {below : List Frame} {meth : Method} {c : Code} {T : State} {locs : List Loc} {cells slots : Nat}
theorem retI (X : Stand p l e R s m args below meth c T locs cells slots) (hx : p.tables.exec = Jvm.exec) {pc : Nat} {Ls : Array Slot} {z : Int32} {rest : List Value} (hret : meth.sig.returnType = some .int) (hd : decode c.code pc = .ok (.ireturn, 1)) {fs : List Frame}
    (hl : ∀ (f : JFrame) (acts : List Action), f.method = m → f.locked = none → f.entered = [] → (doReturn e (T.setTop f) acts (some (.int z))).1 = T.setFrames fs) : Steps p.tables e below (T.setTop (mkF m pc Ls (.int z :: rest))) (T.setFrames fs) := by
  have hm' : T.vm.method? m = some meth := X.method'
  have hn : narrow .int (.int z) = .int z := rfl
  show Steps p.tables e below (T.setTop { method := m, pc := pc, locals := Ls, stack := _ :: rest, locked := none }) _
  jvm_step X.here [X.here.top, hx, hd, hm', hret, hn]
  first | (intro acts; rw [hl _ acts rfl rfl rfl]) | rw [hl _ _ rfl rfl rfl]
  exact Steps.refl _
end New
end Jvm.RoadKit
namespace Jvm.Pilot.@@N@@
open Jvm Jvm.ClassFile Sem Op Lib Jvm.Free Jvm.Stand Jvm.LawKit Jvm.RoadKit Bundle Jvm.Pilot.@@N@@.Jvm.D
theorem own_le {Z : State} {n0 : Nat} {h : Heap} (O : Old Z n0 h) : n0 ≤ h.size := O.1 ▸ O.2.1
set_option maxRecDepth 65536
set_option maxHeartbeats 40000000
abbrev kB : String := "com/example/rekurze/rekurze/numeric/SparseMatrix$Builder"
abbrev kM : String := "com/example/rekurze/rekurze/numeric/SparseMatrix"
abbrev kL : String := "com/example/rekurze/rekurze/numeric/BuilderAddPinLaw"
abbrev HW (a0 : Array Value) (Z : State) : Prop := ∀ d ∈ tables_1, d.before a0 Z = true
abbrev own_MF (l : Launch) (Z : State) (h0 : Heap) (y : MethodName) (ws : List Jvm.Cond) (bytes : ByteArray) (ml : Nat) (rt : Option FieldType) (rm : Room) (A : Array Value) (Q : Option Value → Heap → List Loc → Prop) : Prop := MetFree l y (head1 (Jvm.Cond.code y bytes ml rt :: ws) rm) (fun a U => a = A ∧ Z.Warmed39 U.vm ∧ U.heap = h0) (fun _ _ _ _ _ => True) (fun _ U o U' => ∃ v L, o = .returned v ∧ Q v U'.heap L ∧ FrameEnd U o U' L rm.cells rm.slots)
abbrev AD2 (Z : State) (h : Heap) (a : Addr) (k : ClassId) (x0 x1 : Int64) : Prop := Arv Z h a k .double (2 : Int32) [(.double (FP.l2d x0)), (.double (FP.l2d x1))] (.double (FP.l2d (0 : Int64)))
abbrev AD3 (Z : State) (h : Heap) (a : Addr) (k : ClassId) (x0 x1 x2 : Int64) : Prop := Arv Z h a k .double (3 : Int32) [(.double (FP.l2d x0)), (.double (FP.l2d x1)), (.double (FP.l2d x2))] (.double (FP.l2d (0 : Int64)))
abbrev AD4 (Z : State) (h : Heap) (a : Addr) (k : ClassId) (x0 x1 x2 x3 : Int64) : Prop := Arv Z h a k .double (4 : Int32) [(.double (FP.l2d x0)), (.double (FP.l2d x1)), (.double (FP.l2d x2)), (.double (FP.l2d x3))] (.double (FP.l2d (0 : Int64)))
abbrev AD6 (Z : State) (h : Heap) (a : Addr) (k : ClassId) (x0 x1 x2 x3 x4 x5 : Int64) : Prop := Arv Z h a k .double (6 : Int32) [(.double (FP.l2d x0)), (.double (FP.l2d x1)), (.double (FP.l2d x2)), (.double (FP.l2d x3)), (.double (FP.l2d x4)), (.double (FP.l2d x5))] (.double (FP.l2d (0 : Int64)))
abbrev AI2 (Z : State) (h : Heap) (a : Addr) (k : ClassId) (x0 x1 : Int32) : Prop := Arv Z h a k .int (2 : Int32) [(.int x0), (.int x1)] (.int 0)
abbrev AI3 (Z : State) (h : Heap) (a : Addr) (k : ClassId) (x0 x1 x2 : Int32) : Prop := Arv Z h a k .int (3 : Int32) [(.int x0), (.int x1), (.int x2)] (.int 0)
abbrev AI4 (Z : State) (h : Heap) (a : Addr) (k : ClassId) (x0 x1 x2 x3 : Int32) : Prop := Arv Z h a k .int (4 : Int32) [(.int x0), (.int x1), (.int x2), (.int x3)] (.int 0)
abbrev AI6 (Z : State) (h : Heap) (a : Addr) (k : ClassId) (x0 x1 x2 x3 x4 x5 : Int32) : Prop := Arv Z h a k .int (6 : Int32) [(.int x0), (.int x1), (.int x2), (.int x3), (.int x4), (.int x5)] (.int 0)
abbrev AZ3 (Z : State) (h : Heap) (a : Addr) (k : ClassId) (x0 x1 x2 : Int32) : Prop := Arv Z h a k .boolean (3 : Int32) [(.int x0), (.int x1), (.int x2)] (.int 0)
abbrev fB0 (Z : State) (h : Heap) (a : Addr) (v : Value) : Prop := Fld Z h a "com/example/rekurze/rekurze/numeric/SparseMatrix$Builder" "size" "I" v
abbrev fB1 (Z : State) (h : Heap) (a : Addr) (v : Value) : Prop := Fld Z h a "com/example/rekurze/rekurze/numeric/SparseMatrix$Builder" "row" "[D" v
abbrev fB2 (Z : State) (h : Heap) (a : Addr) (v : Value) : Prop := Fld Z h a "com/example/rekurze/rekurze/numeric/SparseMatrix$Builder" "held" "[Z" v
abbrev fB3 (Z : State) (h : Heap) (a : Addr) (v : Value) : Prop := Fld Z h a "com/example/rekurze/rekurze/numeric/SparseMatrix$Builder" "heldColumns" "[I" v
abbrev fB4 (Z : State) (h : Heap) (a : Addr) (v : Value) : Prop := Fld Z h a "com/example/rekurze/rekurze/numeric/SparseMatrix$Builder" "rowStart" "[I" v
abbrev fB5 (Z : State) (h : Heap) (a : Addr) (v : Value) : Prop := Fld Z h a "com/example/rekurze/rekurze/numeric/SparseMatrix$Builder" "column" "[I" v
abbrev fB6 (Z : State) (h : Heap) (a : Addr) (v : Value) : Prop := Fld Z h a "com/example/rekurze/rekurze/numeric/SparseMatrix$Builder" "value" "[D" v
abbrev fB7 (Z : State) (h : Heap) (a : Addr) (v : Value) : Prop := Fld Z h a "com/example/rekurze/rekurze/numeric/SparseMatrix$Builder" "heldCount" "I" v
abbrev fB8 (Z : State) (h : Heap) (a : Addr) (v : Value) : Prop := Fld Z h a "com/example/rekurze/rekurze/numeric/SparseMatrix$Builder" "entries" "I" v
abbrev fB9 (Z : State) (h : Heap) (a : Addr) (v : Value) : Prop := Fld Z h a "com/example/rekurze/rekurze/numeric/SparseMatrix$Builder" "rows" "I" v
abbrev fM10 (Z : State) (h : Heap) (a : Addr) (v : Value) : Prop := Fld Z h a "com/example/rekurze/rekurze/numeric/SparseMatrix" "rowStart" "[I" v
abbrev fM11 (Z : State) (h : Heap) (a : Addr) (v : Value) : Prop := Fld Z h a "com/example/rekurze/rekurze/numeric/SparseMatrix" "column" "[I" v
abbrev fM12 (Z : State) (h : Heap) (a : Addr) (v : Value) : Prop := Fld Z h a "com/example/rekurze/rekurze/numeric/SparseMatrix" "value" "[D" v
abbrev own_in3 (c : Int32) : Prop := c = 0 ∨ c = 1 ∨ c = 2
def own_pi (c x0 x1 x2 : Int32) : Int32 := if c = 0 then x0 else if c = 1 then x1 else x2
def own_pk (c : Int32) (x0 x1 x2 : Int64) : Int64 := if c = 0 then x0 else if c = 1 then x1 else x2
def own_ui (c j v x : Int32) : Int32 := if c = j then v else x
def own_up (c j : Int32) (v x : Int64) : Int64 := if c = j then v else x
def own_pt (c j : Int32) (x : Int64) : Int64 := if c = j then x else 0
theorem own_e00 : ((0 : Int32) = (0 : Int32)) = True := eq_true rfl
theorem own_l00 : ((0 : Int32) < (0 : Int32)) = False := eq_false (by decide)
theorem own_e01 : ((0 : Int32) = (1 : Int32)) = False := eq_false (by decide)
theorem own_l01 : ((0 : Int32) < (1 : Int32)) = True := eq_true (by decide)
theorem own_e02 : ((0 : Int32) = (2 : Int32)) = False := eq_false (by decide)
theorem own_l02 : ((0 : Int32) < (2 : Int32)) = True := eq_true (by decide)
theorem own_e10 : ((1 : Int32) = (0 : Int32)) = False := eq_false (by decide)
theorem own_l10 : ((1 : Int32) < (0 : Int32)) = False := eq_false (by decide)
theorem own_e11 : ((1 : Int32) = (1 : Int32)) = True := eq_true rfl
theorem own_l11 : ((1 : Int32) < (1 : Int32)) = False := eq_false (by decide)
theorem own_e12 : ((1 : Int32) = (2 : Int32)) = False := eq_false (by decide)
theorem own_l12 : ((1 : Int32) < (2 : Int32)) = True := eq_true (by decide)
theorem own_e20 : ((2 : Int32) = (0 : Int32)) = False := eq_false (by decide)
theorem own_l20 : ((2 : Int32) < (0 : Int32)) = False := eq_false (by decide)
theorem own_e21 : ((2 : Int32) = (1 : Int32)) = False := eq_false (by decide)
theorem own_l21 : ((2 : Int32) < (1 : Int32)) = False := eq_false (by decide)
theorem own_e22 : ((2 : Int32) = (2 : Int32)) = True := eq_true rfl
theorem own_l22 : ((2 : Int32) < (2 : Int32)) = False := eq_false (by decide)
theorem own_pi_0 (x0 x1 x2 : Int32) : own_pi 0 x0 x1 x2 = x0 := by simp only [own_pi, own_e00, ↓reduceIte]
theorem own_pi_1 (x0 x1 x2 : Int32) : own_pi 1 x0 x1 x2 = x1 := by simp only [own_pi, own_e10, own_e11, ↓reduceIte]
theorem own_pi_2 (x0 x1 x2 : Int32) : own_pi 2 x0 x1 x2 = x2 := by simp only [own_pi, own_e20, own_e21, ↓reduceIte]
theorem own_pk_0 (x0 x1 x2 : Int64) : own_pk 0 x0 x1 x2 = x0 := by simp only [own_pk, own_e00, ↓reduceIte]
theorem own_pk_1 (x0 x1 x2 : Int64) : own_pk 1 x0 x1 x2 = x1 := by simp only [own_pk, own_e10, own_e11, ↓reduceIte]
theorem own_pk_2 (x0 x1 x2 : Int64) : own_pk 2 x0 x1 x2 = x2 := by simp only [own_pk, own_e20, own_e21, ↓reduceIte]
theorem own_ui_00 (v x : Int32) : own_ui 0 0 v x = v := by simp only [own_ui, own_e00, ↓reduceIte]
theorem own_up_00 (v x : Int64) : own_up 0 0 v x = v := by simp only [own_up, own_e00, ↓reduceIte]
theorem own_pt_00 (x : Int64) : own_pt 0 0 x = x := by simp only [own_pt, own_e00, ↓reduceIte]
theorem own_ui_01 (v x : Int32) : own_ui 0 1 v x = x := by simp only [own_ui, own_e01, ↓reduceIte]
theorem own_up_01 (v x : Int64) : own_up 0 1 v x = x := by simp only [own_up, own_e01, ↓reduceIte]
theorem own_pt_01 (x : Int64) : own_pt 0 1 x = 0 := by simp only [own_pt, own_e01, ↓reduceIte]
theorem own_ui_02 (v x : Int32) : own_ui 0 2 v x = x := by simp only [own_ui, own_e02, ↓reduceIte]
theorem own_up_02 (v x : Int64) : own_up 0 2 v x = x := by simp only [own_up, own_e02, ↓reduceIte]
theorem own_pt_02 (x : Int64) : own_pt 0 2 x = 0 := by simp only [own_pt, own_e02, ↓reduceIte]
theorem own_ui_10 (v x : Int32) : own_ui 1 0 v x = x := by simp only [own_ui, own_e10, ↓reduceIte]
theorem own_up_10 (v x : Int64) : own_up 1 0 v x = x := by simp only [own_up, own_e10, ↓reduceIte]
theorem own_pt_10 (x : Int64) : own_pt 1 0 x = 0 := by simp only [own_pt, own_e10, ↓reduceIte]
theorem own_ui_11 (v x : Int32) : own_ui 1 1 v x = v := by simp only [own_ui, own_e11, ↓reduceIte]
theorem own_up_11 (v x : Int64) : own_up 1 1 v x = v := by simp only [own_up, own_e11, ↓reduceIte]
theorem own_pt_11 (x : Int64) : own_pt 1 1 x = x := by simp only [own_pt, own_e11, ↓reduceIte]
theorem own_ui_12 (v x : Int32) : own_ui 1 2 v x = x := by simp only [own_ui, own_e12, ↓reduceIte]
theorem own_up_12 (v x : Int64) : own_up 1 2 v x = x := by simp only [own_up, own_e12, ↓reduceIte]
theorem own_pt_12 (x : Int64) : own_pt 1 2 x = 0 := by simp only [own_pt, own_e12, ↓reduceIte]
theorem own_ui_20 (v x : Int32) : own_ui 2 0 v x = x := by simp only [own_ui, own_e20, ↓reduceIte]
theorem own_up_20 (v x : Int64) : own_up 2 0 v x = x := by simp only [own_up, own_e20, ↓reduceIte]
theorem own_pt_20 (x : Int64) : own_pt 2 0 x = 0 := by simp only [own_pt, own_e20, ↓reduceIte]
theorem own_ui_21 (v x : Int32) : own_ui 2 1 v x = x := by simp only [own_ui, own_e21, ↓reduceIte]
theorem own_up_21 (v x : Int64) : own_up 2 1 v x = x := by simp only [own_up, own_e21, ↓reduceIte]
theorem own_pt_21 (x : Int64) : own_pt 2 1 x = 0 := by simp only [own_pt, own_e21, ↓reduceIte]
theorem own_ui_22 (v x : Int32) : own_ui 2 2 v x = v := by simp only [own_ui, own_e22, ↓reduceIte]
theorem own_up_22 (v x : Int64) : own_up 2 2 v x = v := by simp only [own_up, own_e22, ↓reduceIte]
theorem own_pt_22 (x : Int64) : own_pt 2 2 x = x := by simp only [own_pt, own_e22, ↓reduceIte]
theorem own_pt_e {c j : Int32} (x : Int64) (h : c = j) : own_pt c j x = x := if_pos h
theorem own_pt_n {c j : Int32} (x : Int64) (h : ¬ (c = j)) : own_pt c j x = 0 := if_neg h
theorem own_i0 : own_in3 0 := Or.inl rfl
theorem own_i1 : own_in3 1 := Or.inr (Or.inl rfl)
theorem own_i2 : own_in3 2 := Or.inr (Or.inr rfl)
theorem own_iue {c v : Int32} (x : Int32) (h : own_in3 v) : own_in3 (own_ui c c v x) := by rw [show own_ui c c v x = v from if_pos rfl]; exact h
theorem own_iun {c j x : Int32} (v : Int32) (q : ¬ (c = j)) (h : own_in3 x) : own_in3 (own_ui c j v x) := by rw [show own_ui c j v x = x from if_neg q]; exact h
theorem own_inb {c : Cell} {j : Int32} (S : c.slots.size = (3 : Int32).toNatClampNeg) (hj : own_in3 j) : ¬ (j < 0 ∨ c.slots.size ≤ j.toNatClampNeg) := by
  rcases hj with rfl | rfl | rfl
  · exact inb_of S ⟨by decide, by decide⟩
  · exact inb_of S ⟨by decide, by decide⟩
  · exact inb_of S ⟨by decide, by decide⟩
theorem own_rdV {c : Cell} {j : Int32} {v0 v1 v2 d v : Value} (S : c.slots.size = (3 : Int32).toNatClampNeg) (H : Has c [v0, v1, v2] d) (hj : own_in3 j) (q0 : j = 0 → v0 = v) (q1 : j = 1 → v1 = v) (q2 : j = 2 → v2 = v) : c.slots[j.toNatClampNeg]? = some v := by
  rcases hj with rfl | rfl | rfl
  · exact (H 0 (by rw [S]; decide)).trans (congrArg some (q0 rfl))
  · exact (H 1 (by rw [S]; decide)).trans (congrArg some (q1 rfl))
  · exact (H 2 (by rw [S]; decide)).trans (congrArg some (q2 rfl))
theorem own_rdI {c : Cell} {j x0 x1 x2 : Int32} {d : Value} (S : c.slots.size = (3 : Int32).toNatClampNeg) (H : Has c [.int x0, .int x1, .int x2] d) (hj : own_in3 j) : c.slots[j.toNatClampNeg]? = some (.int (own_pi j x0 x1 x2)) :=
  own_rdV S H hj (fun e => by rw [e, own_pi_0]) (fun e => by rw [e, own_pi_1]) (fun e => by rw [e, own_pi_2])
theorem own_rdD {c : Cell} {j : Int32} {x0 x1 x2 : Int64} {d : Value} (S : c.slots.size = (3 : Int32).toNatClampNeg) (H : Has c [.double (FP.l2d x0), .double (FP.l2d x1), .double (FP.l2d x2)] d) (hj : own_in3 j) : c.slots[j.toNatClampNeg]? = some (.double (FP.l2d (own_pk j x0 x1 x2))) :=
  own_rdV S H hj (fun e => by rw [e, own_pk_0]) (fun e => by rw [e, own_pk_1]) (fun e => by rw [e, own_pk_2])
theorem own_rdE {c : Cell} {j : Int32} {v d : Value} (S : c.slots.size = (3 : Int32).toNatClampNeg) (H : Has c [v, v, v] d) (hj : own_in3 j) : c.slots[j.toNatClampNeg]? = some v :=
  own_rdV S H hj (fun _ => rfl) (fun _ => rfl) (fun _ => rfl)
theorem own_setV {Z : State} {h h' : Heap} {a : Addr} {k : ClassId} {ty : FieldType} {z j : Int32} {v0 v1 v2 u0 u1 u2 v dv : Value} {c : Cell} (A : Arr Z h a c ty) (q1 : c.cls = k) (S : c.slots.size = z.toNatClampNeg) (q3 : ¬ z < 0) (H : Has c [v0, v1, v2] dv) (G : ∀ i, i < c.slots.size → fits ty ([v0, v1, v2].getD i dv) = true) (hv : fits ty v = true) (W : Wr h h' a j.toNatClampNeg v) (hj : own_in3 j)
    (e0 : j = 0 → v = u0 ∧ v1 = u1 ∧ v2 = u2) (e1 : j = 1 → v0 = u0 ∧ v = u1 ∧ v2 = u2) (e2 : j = 2 → v0 = u0 ∧ v1 = u1 ∧ v = u2) : Arv Z h' a k ty z [u0, u1, u2] dv := by
  rcases hj with rfl | rfl | rfl
  · obtain ⟨a0, a1, a2⟩ := e0 rfl
    rw [← a0, ← a1, ← a2]
    exact Arv.set A q1 S q3 H G hv W 0 rfl (by show 0 < 3; decide)
  · obtain ⟨a0, a1, a2⟩ := e1 rfl
    rw [← a0, ← a1, ← a2]
    exact Arv.set A q1 S q3 H G hv W 1 rfl (by show 1 < 3; decide)
  · obtain ⟨a0, a1, a2⟩ := e2 rfl
    rw [← a0, ← a1, ← a2]
    exact Arv.set A q1 S q3 H G hv W 2 rfl (by show 2 < 3; decide)
theorem own_setI {Z : State} {h h' : Heap} {a : Addr} {k : ClassId} {ty : FieldType} {z j v x0 x1 x2 : Int32} {dv : Value} {c : Cell} (A : Arr Z h a c ty) (q1 : c.cls = k) (S : c.slots.size = z.toNatClampNeg) (q3 : ¬ z < 0) (H : Has c [.int x0, .int x1, .int x2] dv) (G : ∀ i, i < c.slots.size → fits ty ([Value.int x0, Value.int x1, Value.int x2].getD i dv) = true) (hv : fits ty (.int v) = true) (W : Wr h h' a j.toNatClampNeg (.int v)) (hj : own_in3 j) :
    Arv Z h' a k ty z [.int (own_ui j 0 v x0), .int (own_ui j 1 v x1), .int (own_ui j 2 v x2)] dv :=
  own_setV A q1 S q3 H G hv W hj (fun e => by rw [e, own_ui_00, own_ui_01, own_ui_02]; exact ⟨rfl, rfl, rfl⟩) (fun e => by rw [e, own_ui_10, own_ui_11, own_ui_12]; exact ⟨rfl, rfl, rfl⟩) (fun e => by rw [e, own_ui_20, own_ui_21, own_ui_22]; exact ⟨rfl, rfl, rfl⟩)
theorem own_setD {Z : State} {h h' : Heap} {a : Addr} {k : ClassId} {z j : Int32} {v x0 x1 x2 : Int64} {dv : Value} {c : Cell} (A : Arr Z h a c .double) (q1 : c.cls = k) (S : c.slots.size = z.toNatClampNeg) (q3 : ¬ z < 0) (H : Has c [.double (FP.l2d x0), .double (FP.l2d x1), .double (FP.l2d x2)] dv) (G : ∀ i, i < c.slots.size → fits .double ([Value.double (FP.l2d x0), Value.double (FP.l2d x1), Value.double (FP.l2d x2)].getD i dv) = true) (W : Wr h h' a j.toNatClampNeg (.double (FP.l2d v))) (hj : own_in3 j) :
    Arv Z h' a k .double z [.double (FP.l2d (own_up j 0 v x0)), .double (FP.l2d (own_up j 1 v x1)), .double (FP.l2d (own_up j 2 v x2))] dv :=
  own_setV A q1 S q3 H G rfl W hj (fun e => by rw [e, own_up_00, own_up_01, own_up_02]; exact ⟨rfl, rfl, rfl⟩) (fun e => by rw [e, own_up_10, own_up_11, own_up_12]; exact ⟨rfl, rfl, rfl⟩) (fun e => by rw [e, own_up_20, own_up_21, own_up_22]; exact ⟨rfl, rfl, rfl⟩)
theorem own_setP {Z : State} {h h' : Heap} {a : Addr} {k : ClassId} {z j : Int32} {v x0 x1 x2 : Int64} {dv : Value} {c : Cell} (A : Arr Z h a c .double) (q1 : c.cls = k) (S : c.slots.size = z.toNatClampNeg) (q3 : ¬ z < 0) (H : Has c [.double (FP.l2d x0), .double (FP.l2d x1), .double (FP.l2d x2)] dv) (G : ∀ i, i < c.slots.size → fits .double ([Value.double (FP.l2d x0), Value.double (FP.l2d x1), Value.double (FP.l2d x2)].getD i dv) = true) (W : Wr h h' a j.toNatClampNeg (.double (FP.l2d (own_pk j x0 x1 x2 + v)))) (hj : own_in3 j) :
    Arv Z h' a k .double z [.double (FP.l2d (x0 + own_pt j 0 v)), .double (FP.l2d (x1 + own_pt j 1 v)), .double (FP.l2d (x2 + own_pt j 2 v))] dv :=
  own_setV A q1 S q3 H G rfl W hj (fun e => by rw [e, own_pk_0, own_pt_00, own_pt_01, own_pt_02, Int64.add_zero, Int64.add_zero]; exact ⟨rfl, rfl, rfl⟩) (fun e => by rw [e, own_pk_1, own_pt_10, own_pt_11, own_pt_12, Int64.add_zero, Int64.add_zero]; exact ⟨rfl, rfl, rfl⟩) (fun e => by rw [e, own_pk_2, own_pt_20, own_pt_21, own_pt_22, Int64.add_zero, Int64.add_zero]; exact ⟨rfl, rfl, rfl⟩)
theorem own_cgI {Z : State} {h : Heap} {a : Addr} {k : ClassId} {ty : FieldType} {z x0 x1 x2 y0 y1 y2 : Int32} {dv : Value} (A : Arv Z h a k ty z [.int x0, .int x1, .int x2] dv) (e0 : x0 = y0) (e1 : x1 = y1) (e2 : x2 = y2) : Arv Z h a k ty z [.int y0, .int y1, .int y2] dv := by
  rw [← e0, ← e1, ← e2]; exact A
theorem own_cgD {Z : State} {h : Heap} {a : Addr} {k : ClassId} {ty : FieldType} {z : Int32} {x0 x1 x2 y0 y1 y2 : Int64} {dv : Value} (A : Arv Z h a k ty z [.double (FP.l2d x0), .double (FP.l2d x1), .double (FP.l2d x2)] dv) (e0 : x0 = y0) (e1 : x1 = y1) (e2 : x2 = y2) : Arv Z h a k ty z [.double (FP.l2d y0), .double (FP.l2d y1), .double (FP.l2d y2)] dv := by
  rw [← e0, ← e1, ← e2]; exact A
theorem own_gF {p : Program} {l : Launch} {e : Env} {R : Room} {s T Z : State} {m : MethodId} {args a0 : Array Value} {below : List Frame} {meth : Method} {c : Code} {locs : List Loc} {cells slots : Nat} {h : Heap} (X : Stand p l e R s m args below meth c T locs cells slots) (hx : p.tables.exec = Jvm.exec) (hZ : Z.Warmed39 s.vm) {own O n d : String} {index : Nat} (hown : s.vm.findClass own = some m.cls) (w : (Jvm.Cond.fieldLink own index O n d).before a0 Z = true)
    (eT : T.heap = h) {a : Addr} {v : Value} (F : Fld Z h a O n d v) {g : JFrame} (hg : g.method = m) {rest : List Value} (hs : g.stack = .ref a :: rest) (hd : decode c.code g.pc = .ok (.getfield index, 3)) : ∃ T', Stand p l e R s m args below meth c T' locs cells slots ∧ T'.heap = h ∧ ∀ target, Steps p.tables e below (T'.setTop { g with pc := g.pc + 3, stack := v :: rest }) target → Steps p.tables e below (T.setTop g) target :=
  getF X hx hZ hown (host := "") (Or.inl w) Via.refl eT F hg hs hd
theorem oA {p : Program} {l : Launch} {e : Env} {R : Room} {s T : State} {m : MethodId} {args : Array Value} {below : List Frame} {meth : Method} {c : Code} {locs : List Loc} {cells slots : Nat} (X : Stand p l e R s m args below meth c T locs cells slots) (hx : p.tables.exec = Jvm.exec) {code : ByteArray} (hby : c.code = code) {g : JFrame} {target : State} {k : Fin 4} {v : Value} (hd : decode code g.pc = .ok (.aload_n k, 1)) (hg : g.method = m) (hl : g.locals[k.val]? = some (.val v)) (hv : v.isRef = true) (hr : Steps p.tables e below (T.setTop { g with pc := g.pc + 1, stack := v :: g.stack }) target) : Steps p.tables e below (T.setTop g) target := XS.aloadN X.here hx hg (hb hby hd) hl hv hr
theorem oa {p : Program} {l : Launch} {e : Env} {R : Room} {s T : State} {m : MethodId} {args : Array Value} {below : List Frame} {meth : Method} {c : Code} {locs : List Loc} {cells slots : Nat} (X : Stand p l e R s m args below meth c T locs cells slots) (hx : p.tables.exec = Jvm.exec) {code : ByteArray} (hby : c.code = code) {g : JFrame} {target : State} {k : Nat} {v : Value} (hd : decode code g.pc = .ok (.aload k, 2)) (hg : g.method = m) (hl : g.locals[k]? = some (.val v)) (hv : v.isRef = true) (hr : Steps p.tables e below (T.setTop { g with pc := g.pc + 2, stack := v :: g.stack }) target) : Steps p.tables e below (T.setTop g) target := XS.aload X.here hx hg (hb hby hd) hl hv hr
theorem oI {p : Program} {l : Launch} {e : Env} {R : Room} {s T : State} {m : MethodId} {args : Array Value} {below : List Frame} {meth : Method} {c : Code} {locs : List Loc} {cells slots : Nat} (X : Stand p l e R s m args below meth c T locs cells slots) (hx : p.tables.exec = Jvm.exec) {code : ByteArray} (hby : c.code = code) {g : JFrame} {target : State} {k : Fin 4} {v : Int32} (hd : decode code g.pc = .ok (.iload_n k, 1)) (hg : g.method = m) (hl : g.locals[k.val]? = some (.val (.int v))) (hr : Steps p.tables e below (T.setTop { g with pc := g.pc + 1, stack := .int v :: g.stack }) target) : Steps p.tables e below (T.setTop g) target := XS.iloadN X.here hx hg (hb hby hd) hl hr
theorem oi {p : Program} {l : Launch} {e : Env} {R : Room} {s T : State} {m : MethodId} {args : Array Value} {below : List Frame} {meth : Method} {c : Code} {locs : List Loc} {cells slots : Nat} (X : Stand p l e R s m args below meth c T locs cells slots) (hx : p.tables.exec = Jvm.exec) {code : ByteArray} (hby : c.code = code) {g : JFrame} {target : State} {k : Nat} {v : Int32} (hd : decode code g.pc = .ok (.iload k, 2)) (hg : g.method = m) (hl : g.locals[k]? = some (.val (.int v))) (hr : Steps p.tables e below (T.setTop { g with pc := g.pc + 2, stack := .int v :: g.stack }) target) : Steps p.tables e below (T.setTop g) target := XS.iload X.here hx hg (hb hby hd) hl hr
theorem oK {p : Program} {l : Launch} {e : Env} {R : Room} {s T : State} {m : MethodId} {args : Array Value} {below : List Frame} {meth : Method} {c : Code} {locs : List Loc} {cells slots : Nat} (X : Stand p l e R s m args below meth c T locs cells slots) (hx : p.tables.exec = Jvm.exec) {code : ByteArray} (hby : c.code = code) {g : JFrame} {target : State} {i : Int} (hd : decode code g.pc = .ok (.iconst i, 1)) (hg : g.method = m) (hr : Steps p.tables e below (T.setTop { g with pc := g.pc + 1, stack := .int (Int32.ofInt i) :: g.stack }) target) : Steps p.tables e below (T.setTop g) target := XS.iconst X.here hx hg (hb hby hd) hr
theorem oL {p : Program} {l : Launch} {e : Env} {R : Room} {s T Z : State} {h : Heap} {m : MethodId} {args : Array Value} {below : List Frame} {meth : Method} {c : Code} {locs : List Loc} {cells slots : Nat} (X : Stand p l e R s m args below meth c T locs cells slots) (hx : p.tables.exec = Jvm.exec) (hZ : Z.Warmed39 s.vm) (eT : T.heap = h) {a : Addr} {cl : Cell} (A : Arr Z h a cl .int) {j : Int32} {v : Value} (hin : ¬ (j < 0 ∨ cl.slots.size ≤ j.toNatClampNeg)) (hv : cl.slots[j.toNatClampNeg]? = some v) {g : JFrame} {rest : List Value} (hd : decode c.code g.pc = .ok (.iaload, 1)) (hg : g.method = m) (hs : g.stack = .int j :: .ref a :: rest) {target : State} (hr : Steps p.tables e below (T.setTop { g with pc := g.pc + 1, stack := v :: rest }) target) : Steps p.tables e below (T.setTop g) target := X.iaload hx (by rw [eT]; exact A.1) (State.isArrayOf_alike hZ.alike A.2.1) A.2.2 hin hv hg hs hd target hr
theorem oD {p : Program} {l : Launch} {e : Env} {R : Room} {s T Z : State} {h : Heap} {m : MethodId} {args : Array Value} {below : List Frame} {meth : Method} {c : Code} {locs : List Loc} {cells slots : Nat} (X : Stand p l e R s m args below meth c T locs cells slots) (hx : p.tables.exec = Jvm.exec) (hZ : Z.Warmed39 s.vm) (eT : T.heap = h) {a : Addr} {cl : Cell} (A : Arr Z h a cl .double) {j : Int32} {v : Value} (hin : ¬ (j < 0 ∨ cl.slots.size ≤ j.toNatClampNeg)) (hv : cl.slots[j.toNatClampNeg]? = some v) {g : JFrame} {rest : List Value} (hd : decode c.code g.pc = .ok (.daload, 1)) (hg : g.method = m) (hs : g.stack = .int j :: .ref a :: rest) {target : State} (hr : Steps p.tables e below (T.setTop { g with pc := g.pc + 1, stack := v :: rest }) target) : Steps p.tables e below (T.setTop g) target := X.daload hx (by rw [eT]; exact A.1) (State.isArrayOf_alike hZ.alike A.2.1) A.2.2 hin hv hg hs hd target hr
theorem own_cS {p : Program} {l : Launch} {e : Env} {R : Room} {s T Z : State} {h : Heap} {m : MethodId} {args a0 : Array Value} {below : List Frame} {meth : Method} {c : Code} {locs : List Loc} {cells slots : Nat} (X : Stand p l e R s m args below meth c T locs cells slots) (hx : p.tables.exec = Jvm.exec) (hZ : Z.Warmed39 s.vm) {own : String} {index : Nat} {y : MethodName} {bytes : ByteArray} {maxL : Nat} {ret : Option FieldType} {rm : Room} {as' : Array Value} {Q : Option Value → Heap → List Loc → Prop} (hown : s.vm.findClass own = some m.cls) (w1 : (Jvm.Cond.methodLink own index y).before a0 Z = true) (w2 : (Jvm.Cond.static y).before a0 Z = true) (w3 : (Jvm.Cond.initialized y.cls).before a0 Z = true) (w4 : (Jvm.Cond.code y bytes maxL ret).before a0 Z = true) (hy : y.cls ≠ "java/lang/invoke/MethodHandle" ∧ y.cls ≠ "java/lang/invoke/VarHandle")
    (hM : MetFree l y (head1 [Jvm.Cond.code y bytes maxL ret] rm) (fun a U => a = as' ∧ Z.Warmed39 U.vm ∧ U.heap = h) (fun _ _ _ _ _ => True) (fun _ U o U' => ∃ v L, o = .returned v ∧ Q v U'.heap L ∧ FrameEnd U o U' L rm.cells rm.slots)) (eT : T.heap = h) {W : Nat} (hf : rm.frames + 1 ≤ R.frames) (hl : W + (maxL + 11) + rm.locals ≤ R.locals) (hcC : cells + rm.cells ≤ R.cells) (hcS : slots + rm.slots ≤ R.slots)
    {g : JFrame} (hg : g.method = m) (hsize : g.locals.size = c.maxLocals) {argsL rest : List Value} (hlen : ∀ sig, parseMethodDescriptor y.desc = some sig → argsL.length = sig.parameters.length) (hstack : g.stack = argsL.reverse ++ rest) (hm : g.monitorRoom = 0) (hW : (rest.map fun v => v.category).sum = W) (hdg : decode c.code g.pc = .ok (.invokestatic index, 3)) (has : argsL.toArray = as') :
    ∃ (v : Option Value) (T' : State) (h' : Heap) (L : List Loc), Stand p l e R s m args below meth c T' (locs ++ L) (cells + rm.cells) (slots + rm.slots) ∧ T'.heap = h' ∧ Q v h' L ∧ ∀ target, Steps p.tables e below (T'.setTop { g with pc := g.pc + 3, stack := v.toList ++ rest }) target → Steps p.tables e below (T.setTop g) target := by
  obtain ⟨v, vm₁, ⟨T', L', k', n'⟩, -, X', ⟨L, hQ, l', y', z'⟩, st⟩ := Jvm.LawKit.callS X hx hown (mvT hZ w1) (mvT hZ w2) (mvT hZ w3) (mvT hZ w4) hy (backOf (W := W) hM hZ w4 w3 hf hl) hg hsize hlen hstack (by rw [hm, hW]; omega) hdg (fun _ _ => ⟨has, eT, hcC, hcS⟩)
  dsimp only [Pt.U, Pt.locs, Pt.cells, Pt.slots] at X' l' y' z' st hQ
  subst l' y' z'
  exact ⟨v, T', _, L, X', rfl, hQ, st⟩
theorem own_mvMN {Z s : State} {a0 args : Array Value} {own host : String} {index : Nat} {y : MethodName} (hZ : Z.Warmed39 s.vm) (w : (Jvm.Cond.methodLinkNest own index y host).before a0 Z = true) : (Jvm.Cond.methodLinkNest own index y host).before args s = true := (Cond.methodLinkNest_wide hZ w :)
theorem own_m {α : Type} {l : List α} {a : α} (i : Nat) (h : l[i]? = some a) : a ∈ l := List.mem_of_getElem? h
theorem own_dz : FP.dconst0 = FP.l2d (0 : Int64) := by rw [l2d_zero]; rfl
def own_b (n : Int) (e : Int64) : Prop := -(n * 2147483648) ≤ e.toInt ∧ e.toInt ≤ n * 2147483648
theorem own_b53 {n : Int} {e : Int64} (h : own_b n e) (q : n ≤ 1000) : B53 e := by
  have h1 := h.1; have h2 := h.2
  refine ⟨?_, ?_⟩ <;> omega
theorem own_b0 : own_b 0 (0 : Int64) := by unfold own_b; decide
theorem own_bI (x : Int32) : own_b 1 x.toInt64 := by
  have h1 : x.toInt64.toInt = x.toInt := Int32.toInt_toInt64 x
  have h2 := rng32 x
  unfold own_b; rw [h1]; omega
theorem own_bup {n m : Int} {e : Int64} (h : own_b n e) (q : n ≤ m) : own_b m e := by
  have h1 := h.1; have h2 := h.2
  refine ⟨?_, ?_⟩ <;> omega
theorem own_bpt {n : Int} {x : Int64} (c j : Int32) (h : own_b n x) (q : 0 ≤ n) : own_b n (own_pt c j x) := by
  by_cases hc : c = j
  · rw [own_pt_e _ hc]; exact h
  · rw [own_pt_n _ hc]; exact own_bup own_b0 q
theorem own_badd {n m : Int} {x y : Int64} (h : own_b n x) (k : own_b m y) (q1 : n ≤ 1000) (q2 : m ≤ 1000) : own_b (n + m) (x + y) := by
  have e := add64 (own_b53 h q1) (own_b53 k q2)
  have h1 := h.1; have h2 := h.2; have k1 := k.1; have k2 := k.2
  unfold own_b; rw [e]; omega
theorem own_bpk {n : Int} {x0 x1 x2 : Int64} {c : Int32} (h0 : own_b n x0) (h1 : own_b n x1) (h2 : own_b n x2) (hc : own_in3 c) : own_b n (own_pk c x0 x1 x2) := by
  rcases hc with rfl | rfl | rfl
  · rw [own_pk_0]; exact h0
  · rw [own_pk_1]; exact h1
  · rw [own_pk_2]; exact h2
theorem own_rem3 (x : Int32) : own_in3 ((x &&& (255 : Int32)) % (3 : Int32)) := by
  have h1 := c_and x (255 : Int32) (by decide)
  have e1 : (255 : Int32).toInt = 255 := rfl
  have h0 : 0 ≤ (x &&& (255 : Int32)).toInt := by omega
  have h2 := (c_irem (x &&& (255 : Int32)) (3 : Int32) 3 rfl).1 h0
  generalize ((x &&& (255 : Int32)) % (3 : Int32)) = r at *
  have h3 : r.toInt = 0 ∨ r.toInt = 1 ∨ r.toInt = 2 := by omega
  rcases h3 with h | h | h
  · exact Or.inl (Int32.toInt_inj.mp (h.trans rfl))
  · exact Or.inr (Or.inl (Int32.toInt_inj.mp (h.trans rfl)))
  · exact Or.inr (Or.inr (Int32.toInt_inj.mp (h.trans rfl)))
theorem own_q0 {p5 : Int32} (i5 : own_in3 p5) : B53 (own_pk p5 (0 : Int64) (0 : Int64) (0 : Int64)) := own_b53 (n := 0) (own_bpk own_b0 own_b0 own_b0 i5) (by decide)
theorem own_q1 {p1 : Int32} : B53 (p1.toInt64) := own_b53 (n := 1) (own_bI p1) (by decide)
def own_s0 (y0 y1 y2 : Int32) : Int32 := (if y1 < y0 then (if y2 < y0 then (if y2 < y1 then y2 else y1) else y1) else (if y2 < y1 then (if y2 < y0 then y2 else y0) else y0))
theorem own_s0_in {y0 : Int32} {y1 : Int32} {y2 : Int32} (hy0 : own_in3 y0) (hy1 : own_in3 y1) (hy2 : own_in3 y2) : own_in3 (own_s0 y0 y1 y2) := by
  rcases hy0 with rfl | rfl | rfl <;> rcases hy1 with rfl | rfl | rfl <;> rcases hy2 with rfl | rfl | rfl <;> decide
def own_s1 (y0 y1 y2 : Int32) : Int32 := (if y1 < y0 then (if y2 < y0 then (if y2 < y1 then y1 else y2) else y0) else (if y2 < y1 then (if y2 < y0 then y0 else y2) else y1))
theorem own_s1_in {y0 : Int32} {y1 : Int32} {y2 : Int32} (hy0 : own_in3 y0) (hy1 : own_in3 y1) (hy2 : own_in3 y2) : own_in3 (own_s1 y0 y1 y2) := by
  rcases hy0 with rfl | rfl | rfl <;> rcases hy1 with rfl | rfl | rfl <;> rcases hy2 with rfl | rfl | rfl <;> decide
def own_s2 (y0 y1 y2 : Int32) : Int32 := (if y1 < y0 then (if y2 < y0 then (if y2 < y1 then y0 else y0) else y2) else (if y2 < y1 then (if y2 < y0 then y1 else y1) else y2))
theorem own_s2_in {y0 : Int32} {y1 : Int32} {y2 : Int32} (hy0 : own_in3 y0) (hy1 : own_in3 y1) (hy2 : own_in3 y2) : own_in3 (own_s2 y0 y1 y2) := by
  rcases hy0 with rfl | rfl | rfl <;> rcases hy1 with rfl | rfl | rfl <;> rcases hy2 with rfl | rfl | rfl <;> decide
theorem own_q2 {p1 : Int32} {p5 : Int32} {p6 : Int32} (i6 : own_in3 p6) : B53 (own_pk p6 ((0 : Int64) + (own_pt p5 0 (p1.toInt64))) ((0 : Int64) + (own_pt p5 1 (p1.toInt64))) ((0 : Int64) + (own_pt p5 2 (p1.toInt64)))) := own_b53 (n := 1) (own_bpk (own_badd (n := 0) (m := 1) own_b0 (own_bpt p5 0 (own_bI p1) (by decide)) (by decide) (by decide)) (own_badd (n := 0) (m := 1) own_b0 (own_bpt p5 1 (own_bI p1) (by decide)) (by decide) (by decide)) (own_badd (n := 0) (m := 1) own_b0 (own_bpt p5 2 (own_bI p1) (by decide)) (by decide) (by decide)) i6) (by decide)
theorem own_q3 {p2 : Int32} : B53 (p2.toInt64) := own_b53 (n := 1) (own_bI p2) (by decide)
theorem own_q4 {p1 : Int32} {p2 : Int32} {p5 : Int32} {p6 : Int32} {p7 : Int32} (i7 : own_in3 p7) : B53 (own_pk p7 (((0 : Int64) + (own_pt p5 0 (p1.toInt64))) + (own_pt p6 0 (p2.toInt64))) (((0 : Int64) + (own_pt p5 1 (p1.toInt64))) + (own_pt p6 1 (p2.toInt64))) (((0 : Int64) + (own_pt p5 2 (p1.toInt64))) + (own_pt p6 2 (p2.toInt64)))) := own_b53 (n := 2) (own_bpk (own_badd (n := 1) (m := 1) (own_badd (n := 0) (m := 1) own_b0 (own_bpt p5 0 (own_bI p1) (by decide)) (by decide) (by decide)) (own_bpt p6 0 (own_bI p2) (by decide)) (by decide) (by decide)) (own_badd (n := 1) (m := 1) (own_badd (n := 0) (m := 1) own_b0 (own_bpt p5 1 (own_bI p1) (by decide)) (by decide) (by decide)) (own_bpt p6 1 (own_bI p2) (by decide)) (by decide) (by decide)) (own_badd (n := 1) (m := 1) (own_badd (n := 0) (m := 1) own_b0 (own_bpt p5 2 (own_bI p1) (by decide)) (by decide) (by decide)) (own_bpt p6 2 (own_bI p2) (by decide)) (by decide) (by decide)) i7) (by decide)
theorem own_q5 {p3 : Int32} : B53 (p3.toInt64) := own_b53 (n := 1) (own_bI p3) (by decide)
theorem own_q6 {p5 : Int32} {p6 : Int32} {p7 : Int32} (i5 : own_in3 p5) (i6 : own_in3 p6) (i7 : own_in3 p7) (hd0 : (own_pi p6 (own_ui p5 0 1 0) (own_ui p5 1 1 0) (own_ui p5 2 1 0)) = (0 : Int32)) (hd1 : (own_pi p7 (own_ui p6 0 1 (own_ui p5 0 1 0)) (own_ui p6 1 1 (own_ui p5 1 1 0)) (own_ui p6 2 1 (own_ui p5 2 1 0))) = (0 : Int32)) : (own_ui (own_s2 p5 p6 p7) 0 0 (own_ui (own_s1 p5 p6 p7) 0 0 (own_ui (own_s0 p5 p6 p7) 0 0 (own_ui p7 0 1 (own_ui p6 0 1 (own_ui p5 0 1 0)))))) = (0 : Int32) ∧ (own_ui (own_s2 p5 p6 p7) 1 0 (own_ui (own_s1 p5 p6 p7) 1 0 (own_ui (own_s0 p5 p6 p7) 1 0 (own_ui p7 1 1 (own_ui p6 1 1 (own_ui p5 1 1 0)))))) = (0 : Int32) ∧ (own_ui (own_s2 p5 p6 p7) 2 0 (own_ui (own_s1 p5 p6 p7) 2 0 (own_ui (own_s0 p5 p6 p7) 2 0 (own_ui p7 2 1 (own_ui p6 2 1 (own_ui p5 2 1 0)))))) = (0 : Int32) := by
  refine ⟨?_, ?_, ?_⟩ <;> rcases i5 with rfl | rfl | rfl <;> rcases i6 with rfl | rfl | rfl <;> rcases i7 with rfl | rfl | rfl <;> first | exact absurd hd0 (by decide) | exact absurd hd1 (by decide) | decide | (simp only [own_pi, own_pk, own_ui, own_up, own_pt, own_s0, own_s1, own_s2, own_e00, own_e01, own_e02, own_e10, own_e11, own_e12, own_e20, own_e21, own_e22, own_l00, own_l01, own_l02, own_l10, own_l11, own_l12, own_l20, own_l21, own_l22, Int64.zero_add, Int64.add_zero, ↓reduceIte]; done)
theorem own_q7 {p1 : Int32} {p2 : Int32} {p3 : Int32} {p5 : Int32} {p6 : Int32} {p7 : Int32} (i5 : own_in3 p5) (i6 : own_in3 p6) (i7 : own_in3 p7) (hd0 : (own_pi p6 (own_ui p5 0 1 0) (own_ui p5 1 1 0) (own_ui p5 2 1 0)) = (0 : Int32)) (hd1 : (own_pi p7 (own_ui p6 0 1 (own_ui p5 0 1 0)) (own_ui p6 1 1 (own_ui p5 1 1 0)) (own_ui p6 2 1 (own_ui p5 2 1 0))) = (0 : Int32)) : (own_up (own_s2 p5 p6 p7) 0 (0 : Int64) (own_up (own_s1 p5 p6 p7) 0 (0 : Int64) (own_up (own_s0 p5 p6 p7) 0 (0 : Int64) ((((0 : Int64) + (own_pt p5 0 (p1.toInt64))) + (own_pt p6 0 (p2.toInt64))) + (own_pt p7 0 (p3.toInt64)))))) = (0 : Int64) ∧ (own_up (own_s2 p5 p6 p7) 1 (0 : Int64) (own_up (own_s1 p5 p6 p7) 1 (0 : Int64) (own_up (own_s0 p5 p6 p7) 1 (0 : Int64) ((((0 : Int64) + (own_pt p5 1 (p1.toInt64))) + (own_pt p6 1 (p2.toInt64))) + (own_pt p7 1 (p3.toInt64)))))) = (0 : Int64) ∧ (own_up (own_s2 p5 p6 p7) 2 (0 : Int64) (own_up (own_s1 p5 p6 p7) 2 (0 : Int64) (own_up (own_s0 p5 p6 p7) 2 (0 : Int64) ((((0 : Int64) + (own_pt p5 2 (p1.toInt64))) + (own_pt p6 2 (p2.toInt64))) + (own_pt p7 2 (p3.toInt64)))))) = (0 : Int64) := by
  refine ⟨?_, ?_, ?_⟩ <;> rcases i5 with rfl | rfl | rfl <;> rcases i6 with rfl | rfl | rfl <;> rcases i7 with rfl | rfl | rfl <;> first | exact absurd hd0 (by decide) | exact absurd hd1 (by decide) | decide | (simp only [own_pi, own_pk, own_ui, own_up, own_pt, own_s0, own_s1, own_s2, own_e00, own_e01, own_e02, own_e10, own_e11, own_e12, own_e20, own_e21, own_e22, own_l00, own_l01, own_l02, own_l10, own_l11, own_l12, own_l20, own_l21, own_l22, Int64.zero_add, Int64.add_zero, ↓reduceIte]; done)
theorem own_q8 {p8 : Int32} (i8 : own_in3 p8) : B53 (own_pk p8 (0 : Int64) (0 : Int64) (0 : Int64)) := own_b53 (n := 0) (own_bpk own_b0 own_b0 own_b0 i8) (by decide)
theorem own_q9 {p4 : Int32} : B53 (p4.toInt64) := own_b53 (n := 1) (own_bI p4) (by decide)
theorem own_q10 {p5 : Int32} {p6 : Int32} {p7 : Int32} (i5 : own_in3 p5) (i6 : own_in3 p6) (i7 : own_in3 p7) (hd0 : (own_pi p6 (own_ui p5 0 1 0) (own_ui p5 1 1 0) (own_ui p5 2 1 0)) = (0 : Int32)) (hd1 : (own_pi p7 (own_ui p6 0 1 (own_ui p5 0 1 0)) (own_ui p6 1 1 (own_ui p5 1 1 0)) (own_ui p6 2 1 (own_ui p5 2 1 0))) = (0 : Int32)) : ¬ (p6 = p5) := by
  rcases i5 with rfl | rfl | rfl <;> rcases i6 with rfl | rfl | rfl <;> rcases i7 with rfl | rfl | rfl <;> first | exact absurd hd0 (by decide) | exact absurd hd1 (by decide) | decide | (simp only [own_pi, own_pk, own_ui, own_up, own_pt, own_s0, own_s1, own_s2, own_e00, own_e01, own_e02, own_e10, own_e11, own_e12, own_e20, own_e21, own_e22, own_l00, own_l01, own_l02, own_l10, own_l11, own_l12, own_l20, own_l21, own_l22, Int64.zero_add, Int64.add_zero, ↓reduceIte]; done)
theorem own_q11 {p5 : Int32} {p6 : Int32} {p7 : Int32} (i5 : own_in3 p5) (i6 : own_in3 p6) (i7 : own_in3 p7) (hd0 : (own_pi p6 (own_ui p5 0 1 0) (own_ui p5 1 1 0) (own_ui p5 2 1 0)) = (0 : Int32)) (hd1 : (own_pi p7 (own_ui p6 0 1 (own_ui p5 0 1 0)) (own_ui p6 1 1 (own_ui p5 1 1 0)) (own_ui p6 2 1 (own_ui p5 2 1 0))) = (0 : Int32)) : ¬ (p7 = p5) := by
  rcases i5 with rfl | rfl | rfl <;> rcases i6 with rfl | rfl | rfl <;> rcases i7 with rfl | rfl | rfl <;> first | exact absurd hd0 (by decide) | exact absurd hd1 (by decide) | decide | (simp only [own_pi, own_pk, own_ui, own_up, own_pt, own_s0, own_s1, own_s2, own_e00, own_e01, own_e02, own_e10, own_e11, own_e12, own_e20, own_e21, own_e22, own_l00, own_l01, own_l02, own_l10, own_l11, own_l12, own_l20, own_l21, own_l22, Int64.zero_add, Int64.add_zero, ↓reduceIte]; done)
theorem own_q12 {p5 : Int32} {p6 : Int32} {p7 : Int32} (i5 : own_in3 p5) (i6 : own_in3 p6) (i7 : own_in3 p7) (hd0 : (own_pi p6 (own_ui p5 0 1 0) (own_ui p5 1 1 0) (own_ui p5 2 1 0)) = (0 : Int32)) (hd1 : (own_pi p7 (own_ui p6 0 1 (own_ui p5 0 1 0)) (own_ui p6 1 1 (own_ui p5 1 1 0)) (own_ui p6 2 1 (own_ui p5 2 1 0))) = (0 : Int32)) : ¬ (p7 = p6) := by
  rcases i5 with rfl | rfl | rfl <;> rcases i6 with rfl | rfl | rfl <;> rcases i7 with rfl | rfl | rfl <;> first | exact absurd hd0 (by decide) | exact absurd hd1 (by decide) | decide | (simp only [own_pi, own_pk, own_ui, own_up, own_pt, own_s0, own_s1, own_s2, own_e00, own_e01, own_e02, own_e10, own_e11, own_e12, own_e20, own_e21, own_e22, own_l00, own_l01, own_l02, own_l10, own_l11, own_l12, own_l20, own_l21, own_l22, Int64.zero_add, Int64.add_zero, ↓reduceIte]; done)
theorem own_q13 {p1 : Int32} {p2 : Int32} {p3 : Int32} {p5 : Int32} {p6 : Int32} {p7 : Int32} (i5 : own_in3 p5) (i6 : own_in3 p6) (i7 : own_in3 p7) (hd0 : (own_pi p6 (own_ui p5 0 1 0) (own_ui p5 1 1 0) (own_ui p5 2 1 0)) = (0 : Int32)) (hd1 : (own_pi p7 (own_ui p6 0 1 (own_ui p5 0 1 0)) (own_ui p6 1 1 (own_ui p5 1 1 0)) (own_ui p6 2 1 (own_ui p5 2 1 0))) = (0 : Int32)) : (own_up (own_s2 p5 p6 p7) 0 (own_pk (own_s2 p5 p6 p7) (own_up (own_s1 p5 p6 p7) 0 (0 : Int64) (own_up (own_s0 p5 p6 p7) 0 (0 : Int64) ((((0 : Int64) + (own_pt p5 0 (p1.toInt64))) + (own_pt p6 0 (p2.toInt64))) + (own_pt p7 0 (p3.toInt64))))) (own_up (own_s1 p5 p6 p7) 1 (0 : Int64) (own_up (own_s0 p5 p6 p7) 1 (0 : Int64) ((((0 : Int64) + (own_pt p5 1 (p1.toInt64))) + (own_pt p6 1 (p2.toInt64))) + (own_pt p7 1 (p3.toInt64))))) (own_up (own_s1 p5 p6 p7) 2 (0 : Int64) (own_up (own_s0 p5 p6 p7) 2 (0 : Int64) ((((0 : Int64) + (own_pt p5 2 (p1.toInt64))) + (own_pt p6 2 (p2.toInt64))) + (own_pt p7 2 (p3.toInt64)))))) (own_up (own_s1 p5 p6 p7) 0 (own_pk (own_s1 p5 p6 p7) (own_up (own_s0 p5 p6 p7) 0 (0 : Int64) ((((0 : Int64) + (own_pt p5 0 (p1.toInt64))) + (own_pt p6 0 (p2.toInt64))) + (own_pt p7 0 (p3.toInt64)))) (own_up (own_s0 p5 p6 p7) 1 (0 : Int64) ((((0 : Int64) + (own_pt p5 1 (p1.toInt64))) + (own_pt p6 1 (p2.toInt64))) + (own_pt p7 1 (p3.toInt64)))) (own_up (own_s0 p5 p6 p7) 2 (0 : Int64) ((((0 : Int64) + (own_pt p5 2 (p1.toInt64))) + (own_pt p6 2 (p2.toInt64))) + (own_pt p7 2 (p3.toInt64))))) (own_up (own_s0 p5 p6 p7) 0 (own_pk (own_s0 p5 p6 p7) ((((0 : Int64) + (own_pt p5 0 (p1.toInt64))) + (own_pt p6 0 (p2.toInt64))) + (own_pt p7 0 (p3.toInt64))) ((((0 : Int64) + (own_pt p5 1 (p1.toInt64))) + (own_pt p6 1 (p2.toInt64))) + (own_pt p7 1 (p3.toInt64))) ((((0 : Int64) + (own_pt p5 2 (p1.toInt64))) + (own_pt p6 2 (p2.toInt64))) + (own_pt p7 2 (p3.toInt64)))) (0 : Int64)))) = (((own_pt p5 0 (p1.toInt64)) + (own_pt p6 0 (p2.toInt64))) + (own_pt p7 0 (p3.toInt64))) := by
  rcases i5 with rfl | rfl | rfl <;> rcases i6 with rfl | rfl | rfl <;> rcases i7 with rfl | rfl | rfl <;> first | exact absurd hd0 (by decide) | exact absurd hd1 (by decide) | decide | (simp only [own_pi, own_pk, own_ui, own_up, own_pt, own_s0, own_s1, own_s2, own_e00, own_e01, own_e02, own_e10, own_e11, own_e12, own_e20, own_e21, own_e22, own_l00, own_l01, own_l02, own_l10, own_l11, own_l12, own_l20, own_l21, own_l22, Int64.zero_add, Int64.add_zero, ↓reduceIte]; done)
theorem own_q14 {p1 : Int32} {p2 : Int32} {p3 : Int32} {p5 : Int32} {p6 : Int32} {p7 : Int32} (i5 : own_in3 p5) (i6 : own_in3 p6) (i7 : own_in3 p7) (hd0 : (own_pi p6 (own_ui p5 0 1 0) (own_ui p5 1 1 0) (own_ui p5 2 1 0)) = (0 : Int32)) (hd1 : (own_pi p7 (own_ui p6 0 1 (own_ui p5 0 1 0)) (own_ui p6 1 1 (own_ui p5 1 1 0)) (own_ui p6 2 1 (own_ui p5 2 1 0))) = (0 : Int32)) : (own_up (own_s2 p5 p6 p7) 1 (own_pk (own_s2 p5 p6 p7) (own_up (own_s1 p5 p6 p7) 0 (0 : Int64) (own_up (own_s0 p5 p6 p7) 0 (0 : Int64) ((((0 : Int64) + (own_pt p5 0 (p1.toInt64))) + (own_pt p6 0 (p2.toInt64))) + (own_pt p7 0 (p3.toInt64))))) (own_up (own_s1 p5 p6 p7) 1 (0 : Int64) (own_up (own_s0 p5 p6 p7) 1 (0 : Int64) ((((0 : Int64) + (own_pt p5 1 (p1.toInt64))) + (own_pt p6 1 (p2.toInt64))) + (own_pt p7 1 (p3.toInt64))))) (own_up (own_s1 p5 p6 p7) 2 (0 : Int64) (own_up (own_s0 p5 p6 p7) 2 (0 : Int64) ((((0 : Int64) + (own_pt p5 2 (p1.toInt64))) + (own_pt p6 2 (p2.toInt64))) + (own_pt p7 2 (p3.toInt64)))))) (own_up (own_s1 p5 p6 p7) 1 (own_pk (own_s1 p5 p6 p7) (own_up (own_s0 p5 p6 p7) 0 (0 : Int64) ((((0 : Int64) + (own_pt p5 0 (p1.toInt64))) + (own_pt p6 0 (p2.toInt64))) + (own_pt p7 0 (p3.toInt64)))) (own_up (own_s0 p5 p6 p7) 1 (0 : Int64) ((((0 : Int64) + (own_pt p5 1 (p1.toInt64))) + (own_pt p6 1 (p2.toInt64))) + (own_pt p7 1 (p3.toInt64)))) (own_up (own_s0 p5 p6 p7) 2 (0 : Int64) ((((0 : Int64) + (own_pt p5 2 (p1.toInt64))) + (own_pt p6 2 (p2.toInt64))) + (own_pt p7 2 (p3.toInt64))))) (own_up (own_s0 p5 p6 p7) 1 (own_pk (own_s0 p5 p6 p7) ((((0 : Int64) + (own_pt p5 0 (p1.toInt64))) + (own_pt p6 0 (p2.toInt64))) + (own_pt p7 0 (p3.toInt64))) ((((0 : Int64) + (own_pt p5 1 (p1.toInt64))) + (own_pt p6 1 (p2.toInt64))) + (own_pt p7 1 (p3.toInt64))) ((((0 : Int64) + (own_pt p5 2 (p1.toInt64))) + (own_pt p6 2 (p2.toInt64))) + (own_pt p7 2 (p3.toInt64)))) (0 : Int64)))) = (((own_pt p5 1 (p1.toInt64)) + (own_pt p6 1 (p2.toInt64))) + (own_pt p7 1 (p3.toInt64))) := by
  rcases i5 with rfl | rfl | rfl <;> rcases i6 with rfl | rfl | rfl <;> rcases i7 with rfl | rfl | rfl <;> first | exact absurd hd0 (by decide) | exact absurd hd1 (by decide) | decide | (simp only [own_pi, own_pk, own_ui, own_up, own_pt, own_s0, own_s1, own_s2, own_e00, own_e01, own_e02, own_e10, own_e11, own_e12, own_e20, own_e21, own_e22, own_l00, own_l01, own_l02, own_l10, own_l11, own_l12, own_l20, own_l21, own_l22, Int64.zero_add, Int64.add_zero, ↓reduceIte]; done)
theorem own_q15 {p1 : Int32} {p2 : Int32} {p3 : Int32} {p5 : Int32} {p6 : Int32} {p7 : Int32} (i5 : own_in3 p5) (i6 : own_in3 p6) (i7 : own_in3 p7) (hd0 : (own_pi p6 (own_ui p5 0 1 0) (own_ui p5 1 1 0) (own_ui p5 2 1 0)) = (0 : Int32)) (hd1 : (own_pi p7 (own_ui p6 0 1 (own_ui p5 0 1 0)) (own_ui p6 1 1 (own_ui p5 1 1 0)) (own_ui p6 2 1 (own_ui p5 2 1 0))) = (0 : Int32)) : (own_up (own_s2 p5 p6 p7) 2 (own_pk (own_s2 p5 p6 p7) (own_up (own_s1 p5 p6 p7) 0 (0 : Int64) (own_up (own_s0 p5 p6 p7) 0 (0 : Int64) ((((0 : Int64) + (own_pt p5 0 (p1.toInt64))) + (own_pt p6 0 (p2.toInt64))) + (own_pt p7 0 (p3.toInt64))))) (own_up (own_s1 p5 p6 p7) 1 (0 : Int64) (own_up (own_s0 p5 p6 p7) 1 (0 : Int64) ((((0 : Int64) + (own_pt p5 1 (p1.toInt64))) + (own_pt p6 1 (p2.toInt64))) + (own_pt p7 1 (p3.toInt64))))) (own_up (own_s1 p5 p6 p7) 2 (0 : Int64) (own_up (own_s0 p5 p6 p7) 2 (0 : Int64) ((((0 : Int64) + (own_pt p5 2 (p1.toInt64))) + (own_pt p6 2 (p2.toInt64))) + (own_pt p7 2 (p3.toInt64)))))) (own_up (own_s1 p5 p6 p7) 2 (own_pk (own_s1 p5 p6 p7) (own_up (own_s0 p5 p6 p7) 0 (0 : Int64) ((((0 : Int64) + (own_pt p5 0 (p1.toInt64))) + (own_pt p6 0 (p2.toInt64))) + (own_pt p7 0 (p3.toInt64)))) (own_up (own_s0 p5 p6 p7) 1 (0 : Int64) ((((0 : Int64) + (own_pt p5 1 (p1.toInt64))) + (own_pt p6 1 (p2.toInt64))) + (own_pt p7 1 (p3.toInt64)))) (own_up (own_s0 p5 p6 p7) 2 (0 : Int64) ((((0 : Int64) + (own_pt p5 2 (p1.toInt64))) + (own_pt p6 2 (p2.toInt64))) + (own_pt p7 2 (p3.toInt64))))) (own_up (own_s0 p5 p6 p7) 2 (own_pk (own_s0 p5 p6 p7) ((((0 : Int64) + (own_pt p5 0 (p1.toInt64))) + (own_pt p6 0 (p2.toInt64))) + (own_pt p7 0 (p3.toInt64))) ((((0 : Int64) + (own_pt p5 1 (p1.toInt64))) + (own_pt p6 1 (p2.toInt64))) + (own_pt p7 1 (p3.toInt64))) ((((0 : Int64) + (own_pt p5 2 (p1.toInt64))) + (own_pt p6 2 (p2.toInt64))) + (own_pt p7 2 (p3.toInt64)))) (0 : Int64)))) = (((own_pt p5 2 (p1.toInt64)) + (own_pt p6 2 (p2.toInt64))) + (own_pt p7 2 (p3.toInt64))) := by
  rcases i5 with rfl | rfl | rfl <;> rcases i6 with rfl | rfl | rfl <;> rcases i7 with rfl | rfl | rfl <;> first | exact absurd hd0 (by decide) | exact absurd hd1 (by decide) | decide | (simp only [own_pi, own_pk, own_ui, own_up, own_pt, own_s0, own_s1, own_s2, own_e00, own_e01, own_e02, own_e10, own_e11, own_e12, own_e20, own_e21, own_e22, own_l00, own_l01, own_l02, own_l10, own_l11, own_l12, own_l20, own_l21, own_l22, Int64.zero_add, Int64.add_zero, ↓reduceIte]; done)
theorem own_q16 {p4 : Int32} {p8 : Int32} (i8 : own_in3 p8) : (own_up p8 0 (own_pk p8 ((0 : Int64) + (own_pt p8 0 (p4.toInt64))) ((0 : Int64) + (own_pt p8 1 (p4.toInt64))) ((0 : Int64) + (own_pt p8 2 (p4.toInt64)))) (0 : Int64)) = (own_pt p8 0 (p4.toInt64)) := by
  rcases i8 with rfl | rfl | rfl <;> first | decide | (simp only [own_pi, own_pk, own_ui, own_up, own_pt, own_s0, own_s1, own_s2, own_e00, own_e01, own_e02, own_e10, own_e11, own_e12, own_e20, own_e21, own_e22, own_l00, own_l01, own_l02, own_l10, own_l11, own_l12, own_l20, own_l21, own_l22, Int64.zero_add, Int64.add_zero, ↓reduceIte]; done)
theorem own_q17 {p4 : Int32} {p8 : Int32} (i8 : own_in3 p8) : (own_up p8 1 (own_pk p8 ((0 : Int64) + (own_pt p8 0 (p4.toInt64))) ((0 : Int64) + (own_pt p8 1 (p4.toInt64))) ((0 : Int64) + (own_pt p8 2 (p4.toInt64)))) (0 : Int64)) = (own_pt p8 1 (p4.toInt64)) := by
  rcases i8 with rfl | rfl | rfl <;> first | decide | (simp only [own_pi, own_pk, own_ui, own_up, own_pt, own_s0, own_s1, own_s2, own_e00, own_e01, own_e02, own_e10, own_e11, own_e12, own_e20, own_e21, own_e22, own_l00, own_l01, own_l02, own_l10, own_l11, own_l12, own_l20, own_l21, own_l22, Int64.zero_add, Int64.add_zero, ↓reduceIte]; done)
theorem own_q18 {p4 : Int32} {p8 : Int32} (i8 : own_in3 p8) : (own_up p8 2 (own_pk p8 ((0 : Int64) + (own_pt p8 0 (p4.toInt64))) ((0 : Int64) + (own_pt p8 1 (p4.toInt64))) ((0 : Int64) + (own_pt p8 2 (p4.toInt64)))) (0 : Int64)) = (own_pt p8 2 (p4.toInt64)) := by
  rcases i8 with rfl | rfl | rfl <;> first | decide | (simp only [own_pi, own_pk, own_ui, own_up, own_pt, own_s0, own_s1, own_s2, own_e00, own_e01, own_e02, own_e10, own_e11, own_e12, own_e20, own_e21, own_e22, own_l00, own_l01, own_l02, own_l10, own_l11, own_l12, own_l20, own_l21, own_l22, Int64.zero_add, Int64.add_zero, ↓reduceIte]; done)
def own_s3 (y0 y1 : Int32) : Int32 := (if y1 < y0 then y1 else y0)
theorem own_s3_in {y0 : Int32} {y1 : Int32} (hy0 : own_in3 y0) (hy1 : own_in3 y1) : own_in3 (own_s3 y0 y1) := by
  rcases hy0 with rfl | rfl | rfl <;> rcases hy1 with rfl | rfl | rfl <;> decide
def own_s4 (y0 y1 : Int32) : Int32 := (if y1 < y0 then y0 else y1)
theorem own_s4_in {y0 : Int32} {y1 : Int32} (hy0 : own_in3 y0) (hy1 : own_in3 y1) : own_in3 (own_s4 y0 y1) := by
  rcases hy0 with rfl | rfl | rfl <;> rcases hy1 with rfl | rfl | rfl <;> decide
theorem own_q19 {p5 : Int32} {p6 : Int32} {p7 : Int32} (i5 : own_in3 p5) (i6 : own_in3 p6) (i7 : own_in3 p7) (hd0 : (own_pi p6 (own_ui p5 0 1 0) (own_ui p5 1 1 0) (own_ui p5 2 1 0)) = (0 : Int32)) (hd1 : ¬ ((own_pi p7 (own_ui p6 0 1 (own_ui p5 0 1 0)) (own_ui p6 1 1 (own_ui p5 1 1 0)) (own_ui p6 2 1 (own_ui p5 2 1 0))) = (0 : Int32))) : (own_ui (own_s4 p5 p6) 0 0 (own_ui (own_s3 p5 p6) 0 0 (own_ui p6 0 1 (own_ui p5 0 1 0)))) = (0 : Int32) ∧ (own_ui (own_s4 p5 p6) 1 0 (own_ui (own_s3 p5 p6) 1 0 (own_ui p6 1 1 (own_ui p5 1 1 0)))) = (0 : Int32) ∧ (own_ui (own_s4 p5 p6) 2 0 (own_ui (own_s3 p5 p6) 2 0 (own_ui p6 2 1 (own_ui p5 2 1 0)))) = (0 : Int32) := by
  refine ⟨?_, ?_, ?_⟩ <;> rcases i5 with rfl | rfl | rfl <;> rcases i6 with rfl | rfl | rfl <;> rcases i7 with rfl | rfl | rfl <;> first | exact absurd hd0 (by decide) | exact absurd hd1 (by decide) | decide | (simp only [own_pi, own_pk, own_ui, own_up, own_pt, own_s0, own_s1, own_s2, own_s3, own_s4, own_e00, own_e01, own_e02, own_e10, own_e11, own_e12, own_e20, own_e21, own_e22, own_l00, own_l01, own_l02, own_l10, own_l11, own_l12, own_l20, own_l21, own_l22, Int64.zero_add, Int64.add_zero, ↓reduceIte]; done)
theorem own_q20 {p1 : Int32} {p2 : Int32} {p3 : Int32} {p5 : Int32} {p6 : Int32} {p7 : Int32} (i5 : own_in3 p5) (i6 : own_in3 p6) (i7 : own_in3 p7) (hd0 : (own_pi p6 (own_ui p5 0 1 0) (own_ui p5 1 1 0) (own_ui p5 2 1 0)) = (0 : Int32)) (hd1 : ¬ ((own_pi p7 (own_ui p6 0 1 (own_ui p5 0 1 0)) (own_ui p6 1 1 (own_ui p5 1 1 0)) (own_ui p6 2 1 (own_ui p5 2 1 0))) = (0 : Int32))) : (own_up (own_s4 p5 p6) 0 (0 : Int64) (own_up (own_s3 p5 p6) 0 (0 : Int64) ((((0 : Int64) + (own_pt p5 0 (p1.toInt64))) + (own_pt p6 0 (p2.toInt64))) + (own_pt p7 0 (p3.toInt64))))) = (0 : Int64) ∧ (own_up (own_s4 p5 p6) 1 (0 : Int64) (own_up (own_s3 p5 p6) 1 (0 : Int64) ((((0 : Int64) + (own_pt p5 1 (p1.toInt64))) + (own_pt p6 1 (p2.toInt64))) + (own_pt p7 1 (p3.toInt64))))) = (0 : Int64) ∧ (own_up (own_s4 p5 p6) 2 (0 : Int64) (own_up (own_s3 p5 p6) 2 (0 : Int64) ((((0 : Int64) + (own_pt p5 2 (p1.toInt64))) + (own_pt p6 2 (p2.toInt64))) + (own_pt p7 2 (p3.toInt64))))) = (0 : Int64) := by
  refine ⟨?_, ?_, ?_⟩ <;> rcases i5 with rfl | rfl | rfl <;> rcases i6 with rfl | rfl | rfl <;> rcases i7 with rfl | rfl | rfl <;> first | exact absurd hd0 (by decide) | exact absurd hd1 (by decide) | decide | (simp only [own_pi, own_pk, own_ui, own_up, own_pt, own_s0, own_s1, own_s2, own_s3, own_s4, own_e00, own_e01, own_e02, own_e10, own_e11, own_e12, own_e20, own_e21, own_e22, own_l00, own_l01, own_l02, own_l10, own_l11, own_l12, own_l20, own_l21, own_l22, Int64.zero_add, Int64.add_zero, ↓reduceIte]; done)
theorem own_q21 {p5 : Int32} {p6 : Int32} {p7 : Int32} (i5 : own_in3 p5) (i6 : own_in3 p6) (i7 : own_in3 p7) (hd0 : (own_pi p6 (own_ui p5 0 1 0) (own_ui p5 1 1 0) (own_ui p5 2 1 0)) = (0 : Int32)) (hd1 : ¬ ((own_pi p7 (own_ui p6 0 1 (own_ui p5 0 1 0)) (own_ui p6 1 1 (own_ui p5 1 1 0)) (own_ui p6 2 1 (own_ui p5 2 1 0))) = (0 : Int32))) (hd2 : p7 = p5) : ¬ (p6 = p5) := by
  rcases i5 with rfl | rfl | rfl <;> rcases i6 with rfl | rfl | rfl <;> rcases i7 with rfl | rfl | rfl <;> first | exact absurd hd0 (by decide) | exact absurd hd1 (by decide) | exact absurd hd2 (by decide) | decide | (simp only [own_pi, own_pk, own_ui, own_up, own_pt, own_s0, own_s1, own_s2, own_s3, own_s4, own_e00, own_e01, own_e02, own_e10, own_e11, own_e12, own_e20, own_e21, own_e22, own_l00, own_l01, own_l02, own_l10, own_l11, own_l12, own_l20, own_l21, own_l22, Int64.zero_add, Int64.add_zero, ↓reduceIte]; done)
theorem own_q22 {p1 : Int32} {p2 : Int32} {p3 : Int32} {p4 : Int32} {p5 : Int32} {p6 : Int32} {p7 : Int32} {p8 : Int32} (i5 : own_in3 p5) (i6 : own_in3 p6) (i7 : own_in3 p7) (i8 : own_in3 p8) (hd0 : (own_pi p6 (own_ui p5 0 1 0) (own_ui p5 1 1 0) (own_ui p5 2 1 0)) = (0 : Int32)) (hd1 : ¬ ((own_pi p7 (own_ui p6 0 1 (own_ui p5 0 1 0)) (own_ui p6 1 1 (own_ui p5 1 1 0)) (own_ui p6 2 1 (own_ui p5 2 1 0))) = (0 : Int32))) (hd2 : p7 = p5) : (own_up (own_ui 2 1 p8 (own_s4 p5 p6)) 0 (own_up 2 1 (own_pk p8 ((0 : Int64) + (own_pt p8 0 (p4.toInt64))) ((0 : Int64) + (own_pt p8 1 (p4.toInt64))) ((0 : Int64) + (own_pt p8 2 (p4.toInt64)))) (own_pk (own_s4 p5 p6) (own_up (own_s3 p5 p6) 0 (0 : Int64) ((((0 : Int64) + (own_pt p5 0 (p1.toInt64))) + (own_pt p6 0 (p2.toInt64))) + (own_pt p7 0 (p3.toInt64)))) (own_up (own_s3 p5 p6) 1 (0 : Int64) ((((0 : Int64) + (own_pt p5 1 (p1.toInt64))) + (own_pt p6 1 (p2.toInt64))) + (own_pt p7 1 (p3.toInt64)))) (own_up (own_s3 p5 p6) 2 (0 : Int64) ((((0 : Int64) + (own_pt p5 2 (p1.toInt64))) + (own_pt p6 2 (p2.toInt64))) + (own_pt p7 2 (p3.toInt64)))))) (own_up (own_ui 2 0 p8 (own_s3 p5 p6)) 0 (own_up 2 0 (own_pk p8 ((0 : Int64) + (own_pt p8 0 (p4.toInt64))) ((0 : Int64) + (own_pt p8 1 (p4.toInt64))) ((0 : Int64) + (own_pt p8 2 (p4.toInt64)))) (own_pk (own_s3 p5 p6) ((((0 : Int64) + (own_pt p5 0 (p1.toInt64))) + (own_pt p6 0 (p2.toInt64))) + (own_pt p7 0 (p3.toInt64))) ((((0 : Int64) + (own_pt p5 1 (p1.toInt64))) + (own_pt p6 1 (p2.toInt64))) + (own_pt p7 1 (p3.toInt64))) ((((0 : Int64) + (own_pt p5 2 (p1.toInt64))) + (own_pt p6 2 (p2.toInt64))) + (own_pt p7 2 (p3.toInt64))))) (0 : Int64))) = (((own_pt p5 0 (p1.toInt64)) + (own_pt p6 0 (p2.toInt64))) + (own_pt p7 0 (p3.toInt64))) := by
  rcases i5 with rfl | rfl | rfl <;> rcases i6 with rfl | rfl | rfl <;> rcases i7 with rfl | rfl | rfl <;> rcases i8 with rfl | rfl | rfl <;> first | exact absurd hd0 (by decide) | exact absurd hd1 (by decide) | exact absurd hd2 (by decide) | decide | (simp only [own_pi, own_pk, own_ui, own_up, own_pt, own_s0, own_s1, own_s2, own_s3, own_s4, own_e00, own_e01, own_e02, own_e10, own_e11, own_e12, own_e20, own_e21, own_e22, own_l00, own_l01, own_l02, own_l10, own_l11, own_l12, own_l20, own_l21, own_l22, Int64.zero_add, Int64.add_zero, ↓reduceIte]; done)
theorem own_q23 {p1 : Int32} {p2 : Int32} {p3 : Int32} {p4 : Int32} {p5 : Int32} {p6 : Int32} {p7 : Int32} {p8 : Int32} (i5 : own_in3 p5) (i6 : own_in3 p6) (i7 : own_in3 p7) (i8 : own_in3 p8) (hd0 : (own_pi p6 (own_ui p5 0 1 0) (own_ui p5 1 1 0) (own_ui p5 2 1 0)) = (0 : Int32)) (hd1 : ¬ ((own_pi p7 (own_ui p6 0 1 (own_ui p5 0 1 0)) (own_ui p6 1 1 (own_ui p5 1 1 0)) (own_ui p6 2 1 (own_ui p5 2 1 0))) = (0 : Int32))) (hd2 : p7 = p5) : (own_up (own_ui 2 1 p8 (own_s4 p5 p6)) 1 (own_up 2 1 (own_pk p8 ((0 : Int64) + (own_pt p8 0 (p4.toInt64))) ((0 : Int64) + (own_pt p8 1 (p4.toInt64))) ((0 : Int64) + (own_pt p8 2 (p4.toInt64)))) (own_pk (own_s4 p5 p6) (own_up (own_s3 p5 p6) 0 (0 : Int64) ((((0 : Int64) + (own_pt p5 0 (p1.toInt64))) + (own_pt p6 0 (p2.toInt64))) + (own_pt p7 0 (p3.toInt64)))) (own_up (own_s3 p5 p6) 1 (0 : Int64) ((((0 : Int64) + (own_pt p5 1 (p1.toInt64))) + (own_pt p6 1 (p2.toInt64))) + (own_pt p7 1 (p3.toInt64)))) (own_up (own_s3 p5 p6) 2 (0 : Int64) ((((0 : Int64) + (own_pt p5 2 (p1.toInt64))) + (own_pt p6 2 (p2.toInt64))) + (own_pt p7 2 (p3.toInt64)))))) (own_up (own_ui 2 0 p8 (own_s3 p5 p6)) 1 (own_up 2 0 (own_pk p8 ((0 : Int64) + (own_pt p8 0 (p4.toInt64))) ((0 : Int64) + (own_pt p8 1 (p4.toInt64))) ((0 : Int64) + (own_pt p8 2 (p4.toInt64)))) (own_pk (own_s3 p5 p6) ((((0 : Int64) + (own_pt p5 0 (p1.toInt64))) + (own_pt p6 0 (p2.toInt64))) + (own_pt p7 0 (p3.toInt64))) ((((0 : Int64) + (own_pt p5 1 (p1.toInt64))) + (own_pt p6 1 (p2.toInt64))) + (own_pt p7 1 (p3.toInt64))) ((((0 : Int64) + (own_pt p5 2 (p1.toInt64))) + (own_pt p6 2 (p2.toInt64))) + (own_pt p7 2 (p3.toInt64))))) (0 : Int64))) = (((own_pt p5 1 (p1.toInt64)) + (own_pt p6 1 (p2.toInt64))) + (own_pt p7 1 (p3.toInt64))) := by
  rcases i5 with rfl | rfl | rfl <;> rcases i6 with rfl | rfl | rfl <;> rcases i7 with rfl | rfl | rfl <;> rcases i8 with rfl | rfl | rfl <;> first | exact absurd hd0 (by decide) | exact absurd hd1 (by decide) | exact absurd hd2 (by decide) | decide | (simp only [own_pi, own_pk, own_ui, own_up, own_pt, own_s0, own_s1, own_s2, own_s3, own_s4, own_e00, own_e01, own_e02, own_e10, own_e11, own_e12, own_e20, own_e21, own_e22, own_l00, own_l01, own_l02, own_l10, own_l11, own_l12, own_l20, own_l21, own_l22, Int64.zero_add, Int64.add_zero, ↓reduceIte]; done)
theorem own_q24 {p1 : Int32} {p2 : Int32} {p3 : Int32} {p4 : Int32} {p5 : Int32} {p6 : Int32} {p7 : Int32} {p8 : Int32} (i5 : own_in3 p5) (i6 : own_in3 p6) (i7 : own_in3 p7) (i8 : own_in3 p8) (hd0 : (own_pi p6 (own_ui p5 0 1 0) (own_ui p5 1 1 0) (own_ui p5 2 1 0)) = (0 : Int32)) (hd1 : ¬ ((own_pi p7 (own_ui p6 0 1 (own_ui p5 0 1 0)) (own_ui p6 1 1 (own_ui p5 1 1 0)) (own_ui p6 2 1 (own_ui p5 2 1 0))) = (0 : Int32))) (hd2 : p7 = p5) : (own_up (own_ui 2 1 p8 (own_s4 p5 p6)) 2 (own_up 2 1 (own_pk p8 ((0 : Int64) + (own_pt p8 0 (p4.toInt64))) ((0 : Int64) + (own_pt p8 1 (p4.toInt64))) ((0 : Int64) + (own_pt p8 2 (p4.toInt64)))) (own_pk (own_s4 p5 p6) (own_up (own_s3 p5 p6) 0 (0 : Int64) ((((0 : Int64) + (own_pt p5 0 (p1.toInt64))) + (own_pt p6 0 (p2.toInt64))) + (own_pt p7 0 (p3.toInt64)))) (own_up (own_s3 p5 p6) 1 (0 : Int64) ((((0 : Int64) + (own_pt p5 1 (p1.toInt64))) + (own_pt p6 1 (p2.toInt64))) + (own_pt p7 1 (p3.toInt64)))) (own_up (own_s3 p5 p6) 2 (0 : Int64) ((((0 : Int64) + (own_pt p5 2 (p1.toInt64))) + (own_pt p6 2 (p2.toInt64))) + (own_pt p7 2 (p3.toInt64)))))) (own_up (own_ui 2 0 p8 (own_s3 p5 p6)) 2 (own_up 2 0 (own_pk p8 ((0 : Int64) + (own_pt p8 0 (p4.toInt64))) ((0 : Int64) + (own_pt p8 1 (p4.toInt64))) ((0 : Int64) + (own_pt p8 2 (p4.toInt64)))) (own_pk (own_s3 p5 p6) ((((0 : Int64) + (own_pt p5 0 (p1.toInt64))) + (own_pt p6 0 (p2.toInt64))) + (own_pt p7 0 (p3.toInt64))) ((((0 : Int64) + (own_pt p5 1 (p1.toInt64))) + (own_pt p6 1 (p2.toInt64))) + (own_pt p7 1 (p3.toInt64))) ((((0 : Int64) + (own_pt p5 2 (p1.toInt64))) + (own_pt p6 2 (p2.toInt64))) + (own_pt p7 2 (p3.toInt64))))) (0 : Int64))) = (((own_pt p5 2 (p1.toInt64)) + (own_pt p6 2 (p2.toInt64))) + (own_pt p7 2 (p3.toInt64))) := by
  rcases i5 with rfl | rfl | rfl <;> rcases i6 with rfl | rfl | rfl <;> rcases i7 with rfl | rfl | rfl <;> rcases i8 with rfl | rfl | rfl <;> first | exact absurd hd0 (by decide) | exact absurd hd1 (by decide) | exact absurd hd2 (by decide) | decide | (simp only [own_pi, own_pk, own_ui, own_up, own_pt, own_s0, own_s1, own_s2, own_s3, own_s4, own_e00, own_e01, own_e02, own_e10, own_e11, own_e12, own_e20, own_e21, own_e22, own_l00, own_l01, own_l02, own_l10, own_l11, own_l12, own_l20, own_l21, own_l22, Int64.zero_add, Int64.add_zero, ↓reduceIte]; done)
theorem own_q25 {p4 : Int32} {p8 : Int32} (i8 : own_in3 p8) : (own_up (own_ui 2 2 p8 0) 0 (own_up 2 2 (own_pk p8 ((0 : Int64) + (own_pt p8 0 (p4.toInt64))) ((0 : Int64) + (own_pt p8 1 (p4.toInt64))) ((0 : Int64) + (own_pt p8 2 (p4.toInt64)))) (0 : Int64)) (0 : Int64)) = (own_pt p8 0 (p4.toInt64)) := by
  rcases i8 with rfl | rfl | rfl <;> first | decide | (simp only [own_pi, own_pk, own_ui, own_up, own_pt, own_s0, own_s1, own_s2, own_s3, own_s4, own_e00, own_e01, own_e02, own_e10, own_e11, own_e12, own_e20, own_e21, own_e22, own_l00, own_l01, own_l02, own_l10, own_l11, own_l12, own_l20, own_l21, own_l22, Int64.zero_add, Int64.add_zero, ↓reduceIte]; done)
theorem own_q26 {p4 : Int32} {p8 : Int32} (i8 : own_in3 p8) : (own_up (own_ui 2 2 p8 0) 1 (own_up 2 2 (own_pk p8 ((0 : Int64) + (own_pt p8 0 (p4.toInt64))) ((0 : Int64) + (own_pt p8 1 (p4.toInt64))) ((0 : Int64) + (own_pt p8 2 (p4.toInt64)))) (0 : Int64)) (0 : Int64)) = (own_pt p8 1 (p4.toInt64)) := by
  rcases i8 with rfl | rfl | rfl <;> first | decide | (simp only [own_pi, own_pk, own_ui, own_up, own_pt, own_s0, own_s1, own_s2, own_s3, own_s4, own_e00, own_e01, own_e02, own_e10, own_e11, own_e12, own_e20, own_e21, own_e22, own_l00, own_l01, own_l02, own_l10, own_l11, own_l12, own_l20, own_l21, own_l22, Int64.zero_add, Int64.add_zero, ↓reduceIte]; done)
theorem own_q27 {p4 : Int32} {p8 : Int32} (i8 : own_in3 p8) : (own_up (own_ui 2 2 p8 0) 2 (own_up 2 2 (own_pk p8 ((0 : Int64) + (own_pt p8 0 (p4.toInt64))) ((0 : Int64) + (own_pt p8 1 (p4.toInt64))) ((0 : Int64) + (own_pt p8 2 (p4.toInt64)))) (0 : Int64)) (0 : Int64)) = (own_pt p8 2 (p4.toInt64)) := by
  rcases i8 with rfl | rfl | rfl <;> first | decide | (simp only [own_pi, own_pk, own_ui, own_up, own_pt, own_s0, own_s1, own_s2, own_s3, own_s4, own_e00, own_e01, own_e02, own_e10, own_e11, own_e12, own_e20, own_e21, own_e22, own_l00, own_l01, own_l02, own_l10, own_l11, own_l12, own_l20, own_l21, own_l22, Int64.zero_add, Int64.add_zero, ↓reduceIte]; done)
theorem own_q28 {p5 : Int32} {p6 : Int32} {p7 : Int32} (i5 : own_in3 p5) (i6 : own_in3 p6) (i7 : own_in3 p7) (hd0 : (own_pi p6 (own_ui p5 0 1 0) (own_ui p5 1 1 0) (own_ui p5 2 1 0)) = (0 : Int32)) (hd1 : ¬ ((own_pi p7 (own_ui p6 0 1 (own_ui p5 0 1 0)) (own_ui p6 1 1 (own_ui p5 1 1 0)) (own_ui p6 2 1 (own_ui p5 2 1 0))) = (0 : Int32))) (hd2 : ¬ (p7 = p5)) : ¬ (p6 = p5) := by
  rcases i5 with rfl | rfl | rfl <;> rcases i6 with rfl | rfl | rfl <;> rcases i7 with rfl | rfl | rfl <;> first | exact absurd hd0 (by decide) | exact absurd hd1 (by decide) | exact absurd hd2 (by decide) | decide | (simp only [own_pi, own_pk, own_ui, own_up, own_pt, own_s0, own_s1, own_s2, own_s3, own_s4, own_e00, own_e01, own_e02, own_e10, own_e11, own_e12, own_e20, own_e21, own_e22, own_l00, own_l01, own_l02, own_l10, own_l11, own_l12, own_l20, own_l21, own_l22, Int64.zero_add, Int64.add_zero, ↓reduceIte]; done)
theorem own_q29 {p5 : Int32} {p6 : Int32} {p7 : Int32} (i5 : own_in3 p5) (i6 : own_in3 p6) (i7 : own_in3 p7) (hd0 : (own_pi p6 (own_ui p5 0 1 0) (own_ui p5 1 1 0) (own_ui p5 2 1 0)) = (0 : Int32)) (hd1 : ¬ ((own_pi p7 (own_ui p6 0 1 (own_ui p5 0 1 0)) (own_ui p6 1 1 (own_ui p5 1 1 0)) (own_ui p6 2 1 (own_ui p5 2 1 0))) = (0 : Int32))) (hd2 : ¬ (p7 = p5)) : p7 = p6 := by
  rcases i5 with rfl | rfl | rfl <;> rcases i6 with rfl | rfl | rfl <;> rcases i7 with rfl | rfl | rfl <;> first | exact absurd hd0 (by decide) | exact absurd hd1 (by decide) | exact absurd hd2 (by decide) | decide | (simp only [own_pi, own_pk, own_ui, own_up, own_pt, own_s0, own_s1, own_s2, own_s3, own_s4, own_e00, own_e01, own_e02, own_e10, own_e11, own_e12, own_e20, own_e21, own_e22, own_l00, own_l01, own_l02, own_l10, own_l11, own_l12, own_l20, own_l21, own_l22, Int64.zero_add, Int64.add_zero, ↓reduceIte]; done)
theorem own_q30 {p1 : Int32} {p2 : Int32} {p3 : Int32} {p4 : Int32} {p5 : Int32} {p6 : Int32} {p7 : Int32} {p8 : Int32} (i5 : own_in3 p5) (i6 : own_in3 p6) (i7 : own_in3 p7) (i8 : own_in3 p8) (hd0 : (own_pi p6 (own_ui p5 0 1 0) (own_ui p5 1 1 0) (own_ui p5 2 1 0)) = (0 : Int32)) (hd1 : ¬ ((own_pi p7 (own_ui p6 0 1 (own_ui p5 0 1 0)) (own_ui p6 1 1 (own_ui p5 1 1 0)) (own_ui p6 2 1 (own_ui p5 2 1 0))) = (0 : Int32))) (hd2 : ¬ (p7 = p5)) : (own_up (own_ui 2 1 p8 (own_s4 p5 p6)) 0 (own_up 2 1 (own_pk p8 ((0 : Int64) + (own_pt p8 0 (p4.toInt64))) ((0 : Int64) + (own_pt p8 1 (p4.toInt64))) ((0 : Int64) + (own_pt p8 2 (p4.toInt64)))) (own_pk (own_s4 p5 p6) (own_up (own_s3 p5 p6) 0 (0 : Int64) ((((0 : Int64) + (own_pt p5 0 (p1.toInt64))) + (own_pt p6 0 (p2.toInt64))) + (own_pt p7 0 (p3.toInt64)))) (own_up (own_s3 p5 p6) 1 (0 : Int64) ((((0 : Int64) + (own_pt p5 1 (p1.toInt64))) + (own_pt p6 1 (p2.toInt64))) + (own_pt p7 1 (p3.toInt64)))) (own_up (own_s3 p5 p6) 2 (0 : Int64) ((((0 : Int64) + (own_pt p5 2 (p1.toInt64))) + (own_pt p6 2 (p2.toInt64))) + (own_pt p7 2 (p3.toInt64)))))) (own_up (own_ui 2 0 p8 (own_s3 p5 p6)) 0 (own_up 2 0 (own_pk p8 ((0 : Int64) + (own_pt p8 0 (p4.toInt64))) ((0 : Int64) + (own_pt p8 1 (p4.toInt64))) ((0 : Int64) + (own_pt p8 2 (p4.toInt64)))) (own_pk (own_s3 p5 p6) ((((0 : Int64) + (own_pt p5 0 (p1.toInt64))) + (own_pt p6 0 (p2.toInt64))) + (own_pt p7 0 (p3.toInt64))) ((((0 : Int64) + (own_pt p5 1 (p1.toInt64))) + (own_pt p6 1 (p2.toInt64))) + (own_pt p7 1 (p3.toInt64))) ((((0 : Int64) + (own_pt p5 2 (p1.toInt64))) + (own_pt p6 2 (p2.toInt64))) + (own_pt p7 2 (p3.toInt64))))) (0 : Int64))) = (((own_pt p5 0 (p1.toInt64)) + (own_pt p6 0 (p2.toInt64))) + (own_pt p7 0 (p3.toInt64))) := by
  rcases i5 with rfl | rfl | rfl <;> rcases i6 with rfl | rfl | rfl <;> rcases i7 with rfl | rfl | rfl <;> rcases i8 with rfl | rfl | rfl <;> first | exact absurd hd0 (by decide) | exact absurd hd1 (by decide) | exact absurd hd2 (by decide) | decide | (simp only [own_pi, own_pk, own_ui, own_up, own_pt, own_s0, own_s1, own_s2, own_s3, own_s4, own_e00, own_e01, own_e02, own_e10, own_e11, own_e12, own_e20, own_e21, own_e22, own_l00, own_l01, own_l02, own_l10, own_l11, own_l12, own_l20, own_l21, own_l22, Int64.zero_add, Int64.add_zero, ↓reduceIte]; done)
theorem own_q31 {p1 : Int32} {p2 : Int32} {p3 : Int32} {p4 : Int32} {p5 : Int32} {p6 : Int32} {p7 : Int32} {p8 : Int32} (i5 : own_in3 p5) (i6 : own_in3 p6) (i7 : own_in3 p7) (i8 : own_in3 p8) (hd0 : (own_pi p6 (own_ui p5 0 1 0) (own_ui p5 1 1 0) (own_ui p5 2 1 0)) = (0 : Int32)) (hd1 : ¬ ((own_pi p7 (own_ui p6 0 1 (own_ui p5 0 1 0)) (own_ui p6 1 1 (own_ui p5 1 1 0)) (own_ui p6 2 1 (own_ui p5 2 1 0))) = (0 : Int32))) (hd2 : ¬ (p7 = p5)) : (own_up (own_ui 2 1 p8 (own_s4 p5 p6)) 1 (own_up 2 1 (own_pk p8 ((0 : Int64) + (own_pt p8 0 (p4.toInt64))) ((0 : Int64) + (own_pt p8 1 (p4.toInt64))) ((0 : Int64) + (own_pt p8 2 (p4.toInt64)))) (own_pk (own_s4 p5 p6) (own_up (own_s3 p5 p6) 0 (0 : Int64) ((((0 : Int64) + (own_pt p5 0 (p1.toInt64))) + (own_pt p6 0 (p2.toInt64))) + (own_pt p7 0 (p3.toInt64)))) (own_up (own_s3 p5 p6) 1 (0 : Int64) ((((0 : Int64) + (own_pt p5 1 (p1.toInt64))) + (own_pt p6 1 (p2.toInt64))) + (own_pt p7 1 (p3.toInt64)))) (own_up (own_s3 p5 p6) 2 (0 : Int64) ((((0 : Int64) + (own_pt p5 2 (p1.toInt64))) + (own_pt p6 2 (p2.toInt64))) + (own_pt p7 2 (p3.toInt64)))))) (own_up (own_ui 2 0 p8 (own_s3 p5 p6)) 1 (own_up 2 0 (own_pk p8 ((0 : Int64) + (own_pt p8 0 (p4.toInt64))) ((0 : Int64) + (own_pt p8 1 (p4.toInt64))) ((0 : Int64) + (own_pt p8 2 (p4.toInt64)))) (own_pk (own_s3 p5 p6) ((((0 : Int64) + (own_pt p5 0 (p1.toInt64))) + (own_pt p6 0 (p2.toInt64))) + (own_pt p7 0 (p3.toInt64))) ((((0 : Int64) + (own_pt p5 1 (p1.toInt64))) + (own_pt p6 1 (p2.toInt64))) + (own_pt p7 1 (p3.toInt64))) ((((0 : Int64) + (own_pt p5 2 (p1.toInt64))) + (own_pt p6 2 (p2.toInt64))) + (own_pt p7 2 (p3.toInt64))))) (0 : Int64))) = (((own_pt p5 1 (p1.toInt64)) + (own_pt p6 1 (p2.toInt64))) + (own_pt p7 1 (p3.toInt64))) := by
  rcases i5 with rfl | rfl | rfl <;> rcases i6 with rfl | rfl | rfl <;> rcases i7 with rfl | rfl | rfl <;> rcases i8 with rfl | rfl | rfl <;> first | exact absurd hd0 (by decide) | exact absurd hd1 (by decide) | exact absurd hd2 (by decide) | decide | (simp only [own_pi, own_pk, own_ui, own_up, own_pt, own_s0, own_s1, own_s2, own_s3, own_s4, own_e00, own_e01, own_e02, own_e10, own_e11, own_e12, own_e20, own_e21, own_e22, own_l00, own_l01, own_l02, own_l10, own_l11, own_l12, own_l20, own_l21, own_l22, Int64.zero_add, Int64.add_zero, ↓reduceIte]; done)
theorem own_q32 {p1 : Int32} {p2 : Int32} {p3 : Int32} {p4 : Int32} {p5 : Int32} {p6 : Int32} {p7 : Int32} {p8 : Int32} (i5 : own_in3 p5) (i6 : own_in3 p6) (i7 : own_in3 p7) (i8 : own_in3 p8) (hd0 : (own_pi p6 (own_ui p5 0 1 0) (own_ui p5 1 1 0) (own_ui p5 2 1 0)) = (0 : Int32)) (hd1 : ¬ ((own_pi p7 (own_ui p6 0 1 (own_ui p5 0 1 0)) (own_ui p6 1 1 (own_ui p5 1 1 0)) (own_ui p6 2 1 (own_ui p5 2 1 0))) = (0 : Int32))) (hd2 : ¬ (p7 = p5)) : (own_up (own_ui 2 1 p8 (own_s4 p5 p6)) 2 (own_up 2 1 (own_pk p8 ((0 : Int64) + (own_pt p8 0 (p4.toInt64))) ((0 : Int64) + (own_pt p8 1 (p4.toInt64))) ((0 : Int64) + (own_pt p8 2 (p4.toInt64)))) (own_pk (own_s4 p5 p6) (own_up (own_s3 p5 p6) 0 (0 : Int64) ((((0 : Int64) + (own_pt p5 0 (p1.toInt64))) + (own_pt p6 0 (p2.toInt64))) + (own_pt p7 0 (p3.toInt64)))) (own_up (own_s3 p5 p6) 1 (0 : Int64) ((((0 : Int64) + (own_pt p5 1 (p1.toInt64))) + (own_pt p6 1 (p2.toInt64))) + (own_pt p7 1 (p3.toInt64)))) (own_up (own_s3 p5 p6) 2 (0 : Int64) ((((0 : Int64) + (own_pt p5 2 (p1.toInt64))) + (own_pt p6 2 (p2.toInt64))) + (own_pt p7 2 (p3.toInt64)))))) (own_up (own_ui 2 0 p8 (own_s3 p5 p6)) 2 (own_up 2 0 (own_pk p8 ((0 : Int64) + (own_pt p8 0 (p4.toInt64))) ((0 : Int64) + (own_pt p8 1 (p4.toInt64))) ((0 : Int64) + (own_pt p8 2 (p4.toInt64)))) (own_pk (own_s3 p5 p6) ((((0 : Int64) + (own_pt p5 0 (p1.toInt64))) + (own_pt p6 0 (p2.toInt64))) + (own_pt p7 0 (p3.toInt64))) ((((0 : Int64) + (own_pt p5 1 (p1.toInt64))) + (own_pt p6 1 (p2.toInt64))) + (own_pt p7 1 (p3.toInt64))) ((((0 : Int64) + (own_pt p5 2 (p1.toInt64))) + (own_pt p6 2 (p2.toInt64))) + (own_pt p7 2 (p3.toInt64))))) (0 : Int64))) = (((own_pt p5 2 (p1.toInt64)) + (own_pt p6 2 (p2.toInt64))) + (own_pt p7 2 (p3.toInt64))) := by
  rcases i5 with rfl | rfl | rfl <;> rcases i6 with rfl | rfl | rfl <;> rcases i7 with rfl | rfl | rfl <;> rcases i8 with rfl | rfl | rfl <;> first | exact absurd hd0 (by decide) | exact absurd hd1 (by decide) | exact absurd hd2 (by decide) | decide | (simp only [own_pi, own_pk, own_ui, own_up, own_pt, own_s0, own_s1, own_s2, own_s3, own_s4, own_e00, own_e01, own_e02, own_e10, own_e11, own_e12, own_e20, own_e21, own_e22, own_l00, own_l01, own_l02, own_l10, own_l11, own_l12, own_l20, own_l21, own_l22, Int64.zero_add, Int64.add_zero, ↓reduceIte]; done)
theorem own_q33 {p5 : Int32} {p6 : Int32} {p7 : Int32} (i5 : own_in3 p5) (i6 : own_in3 p6) (i7 : own_in3 p7) (hd0 : ¬ ((own_pi p6 (own_ui p5 0 1 0) (own_ui p5 1 1 0) (own_ui p5 2 1 0)) = (0 : Int32))) (hd1 : (own_pi p7 (own_ui p5 0 1 0) (own_ui p5 1 1 0) (own_ui p5 2 1 0)) = (0 : Int32)) : (own_ui (own_s4 p5 p7) 0 0 (own_ui (own_s3 p5 p7) 0 0 (own_ui p7 0 1 (own_ui p5 0 1 0)))) = (0 : Int32) ∧ (own_ui (own_s4 p5 p7) 1 0 (own_ui (own_s3 p5 p7) 1 0 (own_ui p7 1 1 (own_ui p5 1 1 0)))) = (0 : Int32) ∧ (own_ui (own_s4 p5 p7) 2 0 (own_ui (own_s3 p5 p7) 2 0 (own_ui p7 2 1 (own_ui p5 2 1 0)))) = (0 : Int32) := by
  refine ⟨?_, ?_, ?_⟩ <;> rcases i5 with rfl | rfl | rfl <;> rcases i6 with rfl | rfl | rfl <;> rcases i7 with rfl | rfl | rfl <;> first | exact absurd hd0 (by decide) | exact absurd hd1 (by decide) | decide | (simp only [own_pi, own_pk, own_ui, own_up, own_pt, own_s0, own_s1, own_s2, own_s3, own_s4, own_e00, own_e01, own_e02, own_e10, own_e11, own_e12, own_e20, own_e21, own_e22, own_l00, own_l01, own_l02, own_l10, own_l11, own_l12, own_l20, own_l21, own_l22, Int64.zero_add, Int64.add_zero, ↓reduceIte]; done)
theorem own_q34 {p1 : Int32} {p2 : Int32} {p3 : Int32} {p5 : Int32} {p6 : Int32} {p7 : Int32} (i5 : own_in3 p5) (i6 : own_in3 p6) (i7 : own_in3 p7) (hd0 : ¬ ((own_pi p6 (own_ui p5 0 1 0) (own_ui p5 1 1 0) (own_ui p5 2 1 0)) = (0 : Int32))) (hd1 : (own_pi p7 (own_ui p5 0 1 0) (own_ui p5 1 1 0) (own_ui p5 2 1 0)) = (0 : Int32)) : (own_up (own_s4 p5 p7) 0 (0 : Int64) (own_up (own_s3 p5 p7) 0 (0 : Int64) ((((0 : Int64) + (own_pt p5 0 (p1.toInt64))) + (own_pt p6 0 (p2.toInt64))) + (own_pt p7 0 (p3.toInt64))))) = (0 : Int64) ∧ (own_up (own_s4 p5 p7) 1 (0 : Int64) (own_up (own_s3 p5 p7) 1 (0 : Int64) ((((0 : Int64) + (own_pt p5 1 (p1.toInt64))) + (own_pt p6 1 (p2.toInt64))) + (own_pt p7 1 (p3.toInt64))))) = (0 : Int64) ∧ (own_up (own_s4 p5 p7) 2 (0 : Int64) (own_up (own_s3 p5 p7) 2 (0 : Int64) ((((0 : Int64) + (own_pt p5 2 (p1.toInt64))) + (own_pt p6 2 (p2.toInt64))) + (own_pt p7 2 (p3.toInt64))))) = (0 : Int64) := by
  refine ⟨?_, ?_, ?_⟩ <;> rcases i5 with rfl | rfl | rfl <;> rcases i6 with rfl | rfl | rfl <;> rcases i7 with rfl | rfl | rfl <;> first | exact absurd hd0 (by decide) | exact absurd hd1 (by decide) | decide | (simp only [own_pi, own_pk, own_ui, own_up, own_pt, own_s0, own_s1, own_s2, own_s3, own_s4, own_e00, own_e01, own_e02, own_e10, own_e11, own_e12, own_e20, own_e21, own_e22, own_l00, own_l01, own_l02, own_l10, own_l11, own_l12, own_l20, own_l21, own_l22, Int64.zero_add, Int64.add_zero, ↓reduceIte]; done)
theorem own_q35 {p5 : Int32} {p6 : Int32} {p7 : Int32} (i5 : own_in3 p5) (i6 : own_in3 p6) (i7 : own_in3 p7) (hd0 : ¬ ((own_pi p6 (own_ui p5 0 1 0) (own_ui p5 1 1 0) (own_ui p5 2 1 0)) = (0 : Int32))) (hd1 : (own_pi p7 (own_ui p5 0 1 0) (own_ui p5 1 1 0) (own_ui p5 2 1 0)) = (0 : Int32)) : p6 = p5 := by
  rcases i5 with rfl | rfl | rfl <;> rcases i6 with rfl | rfl | rfl <;> rcases i7 with rfl | rfl | rfl <;> first | exact absurd hd0 (by decide) | exact absurd hd1 (by decide) | decide | (simp only [own_pi, own_pk, own_ui, own_up, own_pt, own_s0, own_s1, own_s2, own_s3, own_s4, own_e00, own_e01, own_e02, own_e10, own_e11, own_e12, own_e20, own_e21, own_e22, own_l00, own_l01, own_l02, own_l10, own_l11, own_l12, own_l20, own_l21, own_l22, Int64.zero_add, Int64.add_zero, ↓reduceIte]; done)
theorem own_q36 {p5 : Int32} {p6 : Int32} {p7 : Int32} (i5 : own_in3 p5) (i6 : own_in3 p6) (i7 : own_in3 p7) (hd0 : ¬ ((own_pi p6 (own_ui p5 0 1 0) (own_ui p5 1 1 0) (own_ui p5 2 1 0)) = (0 : Int32))) (hd1 : (own_pi p7 (own_ui p5 0 1 0) (own_ui p5 1 1 0) (own_ui p5 2 1 0)) = (0 : Int32)) : ¬ (p7 = p5) := by
  rcases i5 with rfl | rfl | rfl <;> rcases i6 with rfl | rfl | rfl <;> rcases i7 with rfl | rfl | rfl <;> first | exact absurd hd0 (by decide) | exact absurd hd1 (by decide) | decide | (simp only [own_pi, own_pk, own_ui, own_up, own_pt, own_s0, own_s1, own_s2, own_s3, own_s4, own_e00, own_e01, own_e02, own_e10, own_e11, own_e12, own_e20, own_e21, own_e22, own_l00, own_l01, own_l02, own_l10, own_l11, own_l12, own_l20, own_l21, own_l22, Int64.zero_add, Int64.add_zero, ↓reduceIte]; done)
theorem own_q37 {p5 : Int32} {p6 : Int32} {p7 : Int32} (i5 : own_in3 p5) (i6 : own_in3 p6) (i7 : own_in3 p7) (hd0 : ¬ ((own_pi p6 (own_ui p5 0 1 0) (own_ui p5 1 1 0) (own_ui p5 2 1 0)) = (0 : Int32))) (hd1 : (own_pi p7 (own_ui p5 0 1 0) (own_ui p5 1 1 0) (own_ui p5 2 1 0)) = (0 : Int32)) : ¬ (p7 = p6) := by
  rcases i5 with rfl | rfl | rfl <;> rcases i6 with rfl | rfl | rfl <;> rcases i7 with rfl | rfl | rfl <;> first | exact absurd hd0 (by decide) | exact absurd hd1 (by decide) | decide | (simp only [own_pi, own_pk, own_ui, own_up, own_pt, own_s0, own_s1, own_s2, own_s3, own_s4, own_e00, own_e01, own_e02, own_e10, own_e11, own_e12, own_e20, own_e21, own_e22, own_l00, own_l01, own_l02, own_l10, own_l11, own_l12, own_l20, own_l21, own_l22, Int64.zero_add, Int64.add_zero, ↓reduceIte]; done)
theorem own_q38 {p1 : Int32} {p2 : Int32} {p3 : Int32} {p4 : Int32} {p5 : Int32} {p6 : Int32} {p7 : Int32} {p8 : Int32} (i5 : own_in3 p5) (i6 : own_in3 p6) (i7 : own_in3 p7) (i8 : own_in3 p8) (hd0 : ¬ ((own_pi p6 (own_ui p5 0 1 0) (own_ui p5 1 1 0) (own_ui p5 2 1 0)) = (0 : Int32))) (hd1 : (own_pi p7 (own_ui p5 0 1 0) (own_ui p5 1 1 0) (own_ui p5 2 1 0)) = (0 : Int32)) : (own_up (own_ui 2 1 p8 (own_s4 p5 p7)) 0 (own_up 2 1 (own_pk p8 ((0 : Int64) + (own_pt p8 0 (p4.toInt64))) ((0 : Int64) + (own_pt p8 1 (p4.toInt64))) ((0 : Int64) + (own_pt p8 2 (p4.toInt64)))) (own_pk (own_s4 p5 p7) (own_up (own_s3 p5 p7) 0 (0 : Int64) ((((0 : Int64) + (own_pt p5 0 (p1.toInt64))) + (own_pt p6 0 (p2.toInt64))) + (own_pt p7 0 (p3.toInt64)))) (own_up (own_s3 p5 p7) 1 (0 : Int64) ((((0 : Int64) + (own_pt p5 1 (p1.toInt64))) + (own_pt p6 1 (p2.toInt64))) + (own_pt p7 1 (p3.toInt64)))) (own_up (own_s3 p5 p7) 2 (0 : Int64) ((((0 : Int64) + (own_pt p5 2 (p1.toInt64))) + (own_pt p6 2 (p2.toInt64))) + (own_pt p7 2 (p3.toInt64)))))) (own_up (own_ui 2 0 p8 (own_s3 p5 p7)) 0 (own_up 2 0 (own_pk p8 ((0 : Int64) + (own_pt p8 0 (p4.toInt64))) ((0 : Int64) + (own_pt p8 1 (p4.toInt64))) ((0 : Int64) + (own_pt p8 2 (p4.toInt64)))) (own_pk (own_s3 p5 p7) ((((0 : Int64) + (own_pt p5 0 (p1.toInt64))) + (own_pt p6 0 (p2.toInt64))) + (own_pt p7 0 (p3.toInt64))) ((((0 : Int64) + (own_pt p5 1 (p1.toInt64))) + (own_pt p6 1 (p2.toInt64))) + (own_pt p7 1 (p3.toInt64))) ((((0 : Int64) + (own_pt p5 2 (p1.toInt64))) + (own_pt p6 2 (p2.toInt64))) + (own_pt p7 2 (p3.toInt64))))) (0 : Int64))) = (((own_pt p5 0 (p1.toInt64)) + (own_pt p6 0 (p2.toInt64))) + (own_pt p7 0 (p3.toInt64))) := by
  rcases i5 with rfl | rfl | rfl <;> rcases i6 with rfl | rfl | rfl <;> rcases i7 with rfl | rfl | rfl <;> rcases i8 with rfl | rfl | rfl <;> first | exact absurd hd0 (by decide) | exact absurd hd1 (by decide) | decide | (simp only [own_pi, own_pk, own_ui, own_up, own_pt, own_s0, own_s1, own_s2, own_s3, own_s4, own_e00, own_e01, own_e02, own_e10, own_e11, own_e12, own_e20, own_e21, own_e22, own_l00, own_l01, own_l02, own_l10, own_l11, own_l12, own_l20, own_l21, own_l22, Int64.zero_add, Int64.add_zero, ↓reduceIte]; done)
theorem own_q39 {p1 : Int32} {p2 : Int32} {p3 : Int32} {p4 : Int32} {p5 : Int32} {p6 : Int32} {p7 : Int32} {p8 : Int32} (i5 : own_in3 p5) (i6 : own_in3 p6) (i7 : own_in3 p7) (i8 : own_in3 p8) (hd0 : ¬ ((own_pi p6 (own_ui p5 0 1 0) (own_ui p5 1 1 0) (own_ui p5 2 1 0)) = (0 : Int32))) (hd1 : (own_pi p7 (own_ui p5 0 1 0) (own_ui p5 1 1 0) (own_ui p5 2 1 0)) = (0 : Int32)) : (own_up (own_ui 2 1 p8 (own_s4 p5 p7)) 1 (own_up 2 1 (own_pk p8 ((0 : Int64) + (own_pt p8 0 (p4.toInt64))) ((0 : Int64) + (own_pt p8 1 (p4.toInt64))) ((0 : Int64) + (own_pt p8 2 (p4.toInt64)))) (own_pk (own_s4 p5 p7) (own_up (own_s3 p5 p7) 0 (0 : Int64) ((((0 : Int64) + (own_pt p5 0 (p1.toInt64))) + (own_pt p6 0 (p2.toInt64))) + (own_pt p7 0 (p3.toInt64)))) (own_up (own_s3 p5 p7) 1 (0 : Int64) ((((0 : Int64) + (own_pt p5 1 (p1.toInt64))) + (own_pt p6 1 (p2.toInt64))) + (own_pt p7 1 (p3.toInt64)))) (own_up (own_s3 p5 p7) 2 (0 : Int64) ((((0 : Int64) + (own_pt p5 2 (p1.toInt64))) + (own_pt p6 2 (p2.toInt64))) + (own_pt p7 2 (p3.toInt64)))))) (own_up (own_ui 2 0 p8 (own_s3 p5 p7)) 1 (own_up 2 0 (own_pk p8 ((0 : Int64) + (own_pt p8 0 (p4.toInt64))) ((0 : Int64) + (own_pt p8 1 (p4.toInt64))) ((0 : Int64) + (own_pt p8 2 (p4.toInt64)))) (own_pk (own_s3 p5 p7) ((((0 : Int64) + (own_pt p5 0 (p1.toInt64))) + (own_pt p6 0 (p2.toInt64))) + (own_pt p7 0 (p3.toInt64))) ((((0 : Int64) + (own_pt p5 1 (p1.toInt64))) + (own_pt p6 1 (p2.toInt64))) + (own_pt p7 1 (p3.toInt64))) ((((0 : Int64) + (own_pt p5 2 (p1.toInt64))) + (own_pt p6 2 (p2.toInt64))) + (own_pt p7 2 (p3.toInt64))))) (0 : Int64))) = (((own_pt p5 1 (p1.toInt64)) + (own_pt p6 1 (p2.toInt64))) + (own_pt p7 1 (p3.toInt64))) := by
  rcases i5 with rfl | rfl | rfl <;> rcases i6 with rfl | rfl | rfl <;> rcases i7 with rfl | rfl | rfl <;> rcases i8 with rfl | rfl | rfl <;> first | exact absurd hd0 (by decide) | exact absurd hd1 (by decide) | decide | (simp only [own_pi, own_pk, own_ui, own_up, own_pt, own_s0, own_s1, own_s2, own_s3, own_s4, own_e00, own_e01, own_e02, own_e10, own_e11, own_e12, own_e20, own_e21, own_e22, own_l00, own_l01, own_l02, own_l10, own_l11, own_l12, own_l20, own_l21, own_l22, Int64.zero_add, Int64.add_zero, ↓reduceIte]; done)
theorem own_q40 {p1 : Int32} {p2 : Int32} {p3 : Int32} {p4 : Int32} {p5 : Int32} {p6 : Int32} {p7 : Int32} {p8 : Int32} (i5 : own_in3 p5) (i6 : own_in3 p6) (i7 : own_in3 p7) (i8 : own_in3 p8) (hd0 : ¬ ((own_pi p6 (own_ui p5 0 1 0) (own_ui p5 1 1 0) (own_ui p5 2 1 0)) = (0 : Int32))) (hd1 : (own_pi p7 (own_ui p5 0 1 0) (own_ui p5 1 1 0) (own_ui p5 2 1 0)) = (0 : Int32)) : (own_up (own_ui 2 1 p8 (own_s4 p5 p7)) 2 (own_up 2 1 (own_pk p8 ((0 : Int64) + (own_pt p8 0 (p4.toInt64))) ((0 : Int64) + (own_pt p8 1 (p4.toInt64))) ((0 : Int64) + (own_pt p8 2 (p4.toInt64)))) (own_pk (own_s4 p5 p7) (own_up (own_s3 p5 p7) 0 (0 : Int64) ((((0 : Int64) + (own_pt p5 0 (p1.toInt64))) + (own_pt p6 0 (p2.toInt64))) + (own_pt p7 0 (p3.toInt64)))) (own_up (own_s3 p5 p7) 1 (0 : Int64) ((((0 : Int64) + (own_pt p5 1 (p1.toInt64))) + (own_pt p6 1 (p2.toInt64))) + (own_pt p7 1 (p3.toInt64)))) (own_up (own_s3 p5 p7) 2 (0 : Int64) ((((0 : Int64) + (own_pt p5 2 (p1.toInt64))) + (own_pt p6 2 (p2.toInt64))) + (own_pt p7 2 (p3.toInt64)))))) (own_up (own_ui 2 0 p8 (own_s3 p5 p7)) 2 (own_up 2 0 (own_pk p8 ((0 : Int64) + (own_pt p8 0 (p4.toInt64))) ((0 : Int64) + (own_pt p8 1 (p4.toInt64))) ((0 : Int64) + (own_pt p8 2 (p4.toInt64)))) (own_pk (own_s3 p5 p7) ((((0 : Int64) + (own_pt p5 0 (p1.toInt64))) + (own_pt p6 0 (p2.toInt64))) + (own_pt p7 0 (p3.toInt64))) ((((0 : Int64) + (own_pt p5 1 (p1.toInt64))) + (own_pt p6 1 (p2.toInt64))) + (own_pt p7 1 (p3.toInt64))) ((((0 : Int64) + (own_pt p5 2 (p1.toInt64))) + (own_pt p6 2 (p2.toInt64))) + (own_pt p7 2 (p3.toInt64))))) (0 : Int64))) = (((own_pt p5 2 (p1.toInt64)) + (own_pt p6 2 (p2.toInt64))) + (own_pt p7 2 (p3.toInt64))) := by
  rcases i5 with rfl | rfl | rfl <;> rcases i6 with rfl | rfl | rfl <;> rcases i7 with rfl | rfl | rfl <;> rcases i8 with rfl | rfl | rfl <;> first | exact absurd hd0 (by decide) | exact absurd hd1 (by decide) | decide | (simp only [own_pi, own_pk, own_ui, own_up, own_pt, own_s0, own_s1, own_s2, own_s3, own_s4, own_e00, own_e01, own_e02, own_e10, own_e11, own_e12, own_e20, own_e21, own_e22, own_l00, own_l01, own_l02, own_l10, own_l11, own_l12, own_l20, own_l21, own_l22, Int64.zero_add, Int64.add_zero, ↓reduceIte]; done)
theorem own_q41 {p5 : Int32} (i5 : own_in3 p5) : (own_ui p5 0 0 (own_ui p5 0 1 0)) = (0 : Int32) ∧ (own_ui p5 1 0 (own_ui p5 1 1 0)) = (0 : Int32) ∧ (own_ui p5 2 0 (own_ui p5 2 1 0)) = (0 : Int32) := by
  refine ⟨?_, ?_, ?_⟩ <;> rcases i5 with rfl | rfl | rfl <;> first | decide | (simp only [own_pi, own_pk, own_ui, own_up, own_pt, own_s0, own_s1, own_s2, own_s3, own_s4, own_e00, own_e01, own_e02, own_e10, own_e11, own_e12, own_e20, own_e21, own_e22, own_l00, own_l01, own_l02, own_l10, own_l11, own_l12, own_l20, own_l21, own_l22, Int64.zero_add, Int64.add_zero, ↓reduceIte]; done)
theorem own_q42 {p1 : Int32} {p2 : Int32} {p3 : Int32} {p5 : Int32} {p6 : Int32} {p7 : Int32} (i5 : own_in3 p5) (i6 : own_in3 p6) (i7 : own_in3 p7) (hd0 : ¬ ((own_pi p6 (own_ui p5 0 1 0) (own_ui p5 1 1 0) (own_ui p5 2 1 0)) = (0 : Int32))) (hd1 : ¬ ((own_pi p7 (own_ui p5 0 1 0) (own_ui p5 1 1 0) (own_ui p5 2 1 0)) = (0 : Int32))) : (own_up p5 0 (0 : Int64) ((((0 : Int64) + (own_pt p5 0 (p1.toInt64))) + (own_pt p6 0 (p2.toInt64))) + (own_pt p7 0 (p3.toInt64)))) = (0 : Int64) ∧ (own_up p5 1 (0 : Int64) ((((0 : Int64) + (own_pt p5 1 (p1.toInt64))) + (own_pt p6 1 (p2.toInt64))) + (own_pt p7 1 (p3.toInt64)))) = (0 : Int64) ∧ (own_up p5 2 (0 : Int64) ((((0 : Int64) + (own_pt p5 2 (p1.toInt64))) + (own_pt p6 2 (p2.toInt64))) + (own_pt p7 2 (p3.toInt64)))) = (0 : Int64) := by
  refine ⟨?_, ?_, ?_⟩ <;> rcases i5 with rfl | rfl | rfl <;> rcases i6 with rfl | rfl | rfl <;> rcases i7 with rfl | rfl | rfl <;> first | exact absurd hd0 (by decide) | exact absurd hd1 (by decide) | decide | (simp only [own_pi, own_pk, own_ui, own_up, own_pt, own_s0, own_s1, own_s2, own_s3, own_s4, own_e00, own_e01, own_e02, own_e10, own_e11, own_e12, own_e20, own_e21, own_e22, own_l00, own_l01, own_l02, own_l10, own_l11, own_l12, own_l20, own_l21, own_l22, Int64.zero_add, Int64.add_zero, ↓reduceIte]; done)
theorem own_q43 {p5 : Int32} {p6 : Int32} {p7 : Int32} (i5 : own_in3 p5) (i6 : own_in3 p6) (i7 : own_in3 p7) (hd0 : ¬ ((own_pi p6 (own_ui p5 0 1 0) (own_ui p5 1 1 0) (own_ui p5 2 1 0)) = (0 : Int32))) (hd1 : ¬ ((own_pi p7 (own_ui p5 0 1 0) (own_ui p5 1 1 0) (own_ui p5 2 1 0)) = (0 : Int32))) : p6 = p5 := by
  rcases i5 with rfl | rfl | rfl <;> rcases i6 with rfl | rfl | rfl <;> rcases i7 with rfl | rfl | rfl <;> first | exact absurd hd0 (by decide) | exact absurd hd1 (by decide) | decide | (simp only [own_pi, own_pk, own_ui, own_up, own_pt, own_s0, own_s1, own_s2, own_s3, own_s4, own_e00, own_e01, own_e02, own_e10, own_e11, own_e12, own_e20, own_e21, own_e22, own_l00, own_l01, own_l02, own_l10, own_l11, own_l12, own_l20, own_l21, own_l22, Int64.zero_add, Int64.add_zero, ↓reduceIte]; done)
theorem own_q44 {p5 : Int32} {p6 : Int32} {p7 : Int32} (i5 : own_in3 p5) (i6 : own_in3 p6) (i7 : own_in3 p7) (hd0 : ¬ ((own_pi p6 (own_ui p5 0 1 0) (own_ui p5 1 1 0) (own_ui p5 2 1 0)) = (0 : Int32))) (hd1 : ¬ ((own_pi p7 (own_ui p5 0 1 0) (own_ui p5 1 1 0) (own_ui p5 2 1 0)) = (0 : Int32))) : p7 = p5 := by
  rcases i5 with rfl | rfl | rfl <;> rcases i6 with rfl | rfl | rfl <;> rcases i7 with rfl | rfl | rfl <;> first | exact absurd hd0 (by decide) | exact absurd hd1 (by decide) | decide | (simp only [own_pi, own_pk, own_ui, own_up, own_pt, own_s0, own_s1, own_s2, own_s3, own_s4, own_e00, own_e01, own_e02, own_e10, own_e11, own_e12, own_e20, own_e21, own_e22, own_l00, own_l01, own_l02, own_l10, own_l11, own_l12, own_l20, own_l21, own_l22, Int64.zero_add, Int64.add_zero, ↓reduceIte]; done)
theorem own_q45 {p1 : Int32} {p2 : Int32} {p3 : Int32} {p4 : Int32} {p5 : Int32} {p6 : Int32} {p7 : Int32} {p8 : Int32} (i5 : own_in3 p5) (i6 : own_in3 p6) (i7 : own_in3 p7) (i8 : own_in3 p8) (hd0 : ¬ ((own_pi p6 (own_ui p5 0 1 0) (own_ui p5 1 1 0) (own_ui p5 2 1 0)) = (0 : Int32))) (hd1 : ¬ ((own_pi p7 (own_ui p5 0 1 0) (own_ui p5 1 1 0) (own_ui p5 2 1 0)) = (0 : Int32))) : (own_up (own_ui 1 0 p8 p5) 0 (own_up 1 0 (own_pk p8 ((0 : Int64) + (own_pt p8 0 (p4.toInt64))) ((0 : Int64) + (own_pt p8 1 (p4.toInt64))) ((0 : Int64) + (own_pt p8 2 (p4.toInt64)))) (own_pk p5 ((((0 : Int64) + (own_pt p5 0 (p1.toInt64))) + (own_pt p6 0 (p2.toInt64))) + (own_pt p7 0 (p3.toInt64))) ((((0 : Int64) + (own_pt p5 1 (p1.toInt64))) + (own_pt p6 1 (p2.toInt64))) + (own_pt p7 1 (p3.toInt64))) ((((0 : Int64) + (own_pt p5 2 (p1.toInt64))) + (own_pt p6 2 (p2.toInt64))) + (own_pt p7 2 (p3.toInt64))))) (0 : Int64)) = (((own_pt p5 0 (p1.toInt64)) + (own_pt p6 0 (p2.toInt64))) + (own_pt p7 0 (p3.toInt64))) := by
  rcases i5 with rfl | rfl | rfl <;> rcases i6 with rfl | rfl | rfl <;> rcases i7 with rfl | rfl | rfl <;> rcases i8 with rfl | rfl | rfl <;> first | exact absurd hd0 (by decide) | exact absurd hd1 (by decide) | decide | (simp only [own_pi, own_pk, own_ui, own_up, own_pt, own_s0, own_s1, own_s2, own_s3, own_s4, own_e00, own_e01, own_e02, own_e10, own_e11, own_e12, own_e20, own_e21, own_e22, own_l00, own_l01, own_l02, own_l10, own_l11, own_l12, own_l20, own_l21, own_l22, Int64.zero_add, Int64.add_zero, ↓reduceIte]; done)
theorem own_q46 {p1 : Int32} {p2 : Int32} {p3 : Int32} {p4 : Int32} {p5 : Int32} {p6 : Int32} {p7 : Int32} {p8 : Int32} (i5 : own_in3 p5) (i6 : own_in3 p6) (i7 : own_in3 p7) (i8 : own_in3 p8) (hd0 : ¬ ((own_pi p6 (own_ui p5 0 1 0) (own_ui p5 1 1 0) (own_ui p5 2 1 0)) = (0 : Int32))) (hd1 : ¬ ((own_pi p7 (own_ui p5 0 1 0) (own_ui p5 1 1 0) (own_ui p5 2 1 0)) = (0 : Int32))) : (own_up (own_ui 1 0 p8 p5) 1 (own_up 1 0 (own_pk p8 ((0 : Int64) + (own_pt p8 0 (p4.toInt64))) ((0 : Int64) + (own_pt p8 1 (p4.toInt64))) ((0 : Int64) + (own_pt p8 2 (p4.toInt64)))) (own_pk p5 ((((0 : Int64) + (own_pt p5 0 (p1.toInt64))) + (own_pt p6 0 (p2.toInt64))) + (own_pt p7 0 (p3.toInt64))) ((((0 : Int64) + (own_pt p5 1 (p1.toInt64))) + (own_pt p6 1 (p2.toInt64))) + (own_pt p7 1 (p3.toInt64))) ((((0 : Int64) + (own_pt p5 2 (p1.toInt64))) + (own_pt p6 2 (p2.toInt64))) + (own_pt p7 2 (p3.toInt64))))) (0 : Int64)) = (((own_pt p5 1 (p1.toInt64)) + (own_pt p6 1 (p2.toInt64))) + (own_pt p7 1 (p3.toInt64))) := by
  rcases i5 with rfl | rfl | rfl <;> rcases i6 with rfl | rfl | rfl <;> rcases i7 with rfl | rfl | rfl <;> rcases i8 with rfl | rfl | rfl <;> first | exact absurd hd0 (by decide) | exact absurd hd1 (by decide) | decide | (simp only [own_pi, own_pk, own_ui, own_up, own_pt, own_s0, own_s1, own_s2, own_s3, own_s4, own_e00, own_e01, own_e02, own_e10, own_e11, own_e12, own_e20, own_e21, own_e22, own_l00, own_l01, own_l02, own_l10, own_l11, own_l12, own_l20, own_l21, own_l22, Int64.zero_add, Int64.add_zero, ↓reduceIte]; done)
theorem own_q47 {p1 : Int32} {p2 : Int32} {p3 : Int32} {p4 : Int32} {p5 : Int32} {p6 : Int32} {p7 : Int32} {p8 : Int32} (i5 : own_in3 p5) (i6 : own_in3 p6) (i7 : own_in3 p7) (i8 : own_in3 p8) (hd0 : ¬ ((own_pi p6 (own_ui p5 0 1 0) (own_ui p5 1 1 0) (own_ui p5 2 1 0)) = (0 : Int32))) (hd1 : ¬ ((own_pi p7 (own_ui p5 0 1 0) (own_ui p5 1 1 0) (own_ui p5 2 1 0)) = (0 : Int32))) : (own_up (own_ui 1 0 p8 p5) 2 (own_up 1 0 (own_pk p8 ((0 : Int64) + (own_pt p8 0 (p4.toInt64))) ((0 : Int64) + (own_pt p8 1 (p4.toInt64))) ((0 : Int64) + (own_pt p8 2 (p4.toInt64)))) (own_pk p5 ((((0 : Int64) + (own_pt p5 0 (p1.toInt64))) + (own_pt p6 0 (p2.toInt64))) + (own_pt p7 0 (p3.toInt64))) ((((0 : Int64) + (own_pt p5 1 (p1.toInt64))) + (own_pt p6 1 (p2.toInt64))) + (own_pt p7 1 (p3.toInt64))) ((((0 : Int64) + (own_pt p5 2 (p1.toInt64))) + (own_pt p6 2 (p2.toInt64))) + (own_pt p7 2 (p3.toInt64))))) (0 : Int64)) = (((own_pt p5 2 (p1.toInt64)) + (own_pt p6 2 (p2.toInt64))) + (own_pt p7 2 (p3.toInt64))) := by
  rcases i5 with rfl | rfl | rfl <;> rcases i6 with rfl | rfl | rfl <;> rcases i7 with rfl | rfl | rfl <;> rcases i8 with rfl | rfl | rfl <;> first | exact absurd hd0 (by decide) | exact absurd hd1 (by decide) | decide | (simp only [own_pi, own_pk, own_ui, own_up, own_pt, own_s0, own_s1, own_s2, own_s3, own_s4, own_e00, own_e01, own_e02, own_e10, own_e11, own_e12, own_e20, own_e21, own_e22, own_l00, own_l01, own_l02, own_l10, own_l11, own_l12, own_l20, own_l21, own_l22, Int64.zero_add, Int64.add_zero, ↓reduceIte]; done)
theorem own_q48 {p4 : Int32} {p8 : Int32} (i8 : own_in3 p8) : (own_up (own_ui 1 1 p8 0) 0 (own_up 1 1 (own_pk p8 ((0 : Int64) + (own_pt p8 0 (p4.toInt64))) ((0 : Int64) + (own_pt p8 1 (p4.toInt64))) ((0 : Int64) + (own_pt p8 2 (p4.toInt64)))) (0 : Int64)) (0 : Int64)) = (own_pt p8 0 (p4.toInt64)) := by
  rcases i8 with rfl | rfl | rfl <;> first | decide | (simp only [own_pi, own_pk, own_ui, own_up, own_pt, own_s0, own_s1, own_s2, own_s3, own_s4, own_e00, own_e01, own_e02, own_e10, own_e11, own_e12, own_e20, own_e21, own_e22, own_l00, own_l01, own_l02, own_l10, own_l11, own_l12, own_l20, own_l21, own_l22, Int64.zero_add, Int64.add_zero, ↓reduceIte]; done)
theorem own_q49 {p4 : Int32} {p8 : Int32} (i8 : own_in3 p8) : (own_up (own_ui 1 1 p8 0) 1 (own_up 1 1 (own_pk p8 ((0 : Int64) + (own_pt p8 0 (p4.toInt64))) ((0 : Int64) + (own_pt p8 1 (p4.toInt64))) ((0 : Int64) + (own_pt p8 2 (p4.toInt64)))) (0 : Int64)) (0 : Int64)) = (own_pt p8 1 (p4.toInt64)) := by
  rcases i8 with rfl | rfl | rfl <;> first | decide | (simp only [own_pi, own_pk, own_ui, own_up, own_pt, own_s0, own_s1, own_s2, own_s3, own_s4, own_e00, own_e01, own_e02, own_e10, own_e11, own_e12, own_e20, own_e21, own_e22, own_l00, own_l01, own_l02, own_l10, own_l11, own_l12, own_l20, own_l21, own_l22, Int64.zero_add, Int64.add_zero, ↓reduceIte]; done)
theorem own_q50 {p4 : Int32} {p8 : Int32} (i8 : own_in3 p8) : (own_up (own_ui 1 1 p8 0) 2 (own_up 1 1 (own_pk p8 ((0 : Int64) + (own_pt p8 0 (p4.toInt64))) ((0 : Int64) + (own_pt p8 1 (p4.toInt64))) ((0 : Int64) + (own_pt p8 2 (p4.toInt64)))) (0 : Int64)) (0 : Int64)) = (own_pt p8 2 (p4.toInt64)) := by
  rcases i8 with rfl | rfl | rfl <;> first | decide | (simp only [own_pi, own_pk, own_ui, own_up, own_pt, own_s0, own_s1, own_s2, own_s3, own_s4, own_e00, own_e01, own_e02, own_e10, own_e11, own_e12, own_e20, own_e21, own_e22, own_l00, own_l01, own_l02, own_l10, own_l11, own_l12, own_l20, own_l21, own_l22, Int64.zero_add, Int64.add_zero, ↓reduceIte]; done)
theorem w_0 {Z : State} {a0 : Array Value} (hw : HW a0 Z) : (Jvm.Cond.classLink kL (7 : Nat) kB).before a0 Z = true := hw _ (own_m 0 rfl)
theorem w_1 {Z : State} {a0 : Array Value} (hw : HW a0 Z) : (Jvm.Cond.instantiable kB (10 : Nat)).before a0 Z = true := hw _ (own_m 1 rfl)
theorem w_2 {Z : State} {a0 : Array Value} (hw : HW a0 Z) : (Jvm.Cond.initialized kB).before a0 Z = true := hw _ (own_m 2 rfl)
theorem w_3 {Z : State} {a0 : Array Value} (hw : HW a0 Z) : (Jvm.Cond.methodLink kL (9 : Nat) ({ cls := kB, name := "<init>", desc := "(I)V" } : Jvm.MethodName)).before a0 Z = true := hw _ (own_m 3 rfl)
theorem w_4 {Z : State} {a0 : Array Value} (hw : HW a0 Z) : (Jvm.Cond.instanceMethod ({ cls := kB, name := "<init>", desc := "(I)V" } : Jvm.MethodName)).before a0 Z = true := hw _ (own_m 4 rfl)
theorem w_5 {Z : State} {a0 : Array Value} (hw : HW a0 Z) : (Jvm.Cond.code ({ cls := kB, name := "<init>", desc := "(I)V" } : Jvm.MethodName) prog_58_method_1_code (2 : Nat) (Option.none : Option Jvm.ClassFile.FieldType)).before a0 Z = true := hw _ (own_m 5 rfl)
theorem w_6 {Z : State} {a0 : Array Value} (hw : HW a0 Z) : (Jvm.Cond.methodLink kB (1 : Nat) ({ cls := "java/lang/Object", name := "<init>", desc := "()V" } : Jvm.MethodName)).before a0 Z = true := hw _ (own_m 6 rfl)
theorem w_7 {Z : State} {a0 : Array Value} (hw : HW a0 Z) : (Jvm.Cond.instanceMethod ({ cls := "java/lang/Object", name := "<init>", desc := "()V" } : Jvm.MethodName)).before a0 Z = true := hw _ (own_m 7 rfl)
theorem w_8 {Z : State} {a0 : Array Value} (hw : HW a0 Z) : (Jvm.Cond.code ({ cls := "java/lang/Object", name := "<init>", desc := "()V" } : Jvm.MethodName) object_method_1_code (1 : Nat) (Option.none : Option Jvm.ClassFile.FieldType)).before a0 Z = true := hw _ (own_m 8 rfl)
theorem w_9 {Z : State} {a0 : Array Value} (hw : HW a0 Z) : (Jvm.Cond.fieldLink kB (7 : Nat) kB "size" "I").before a0 Z = true := hw _ (own_m 9 rfl)
theorem w_10 {Z : State} {a0 : Array Value} (hw : HW a0 Z) : (Jvm.Cond.laysFinal kB kB "size" "I").before a0 Z = true := hw _ (own_m 10 rfl)
theorem w_11 {Z : State} {a0 : Array Value} (hw : HW a0 Z) : (Jvm.Cond.arrayClass Jvm.ClassFile.FieldType.double).before a0 Z = true := hw _ (own_m 11 rfl)
theorem w_12 {Z : State} {a0 : Array Value} (hw : HW a0 Z) : (Jvm.Cond.fieldLink kB (13 : Nat) kB "row" "[D").before a0 Z = true := hw _ (own_m 12 rfl)
theorem w_13 {Z : State} {a0 : Array Value} (hw : HW a0 Z) : (Jvm.Cond.laysFinal kB kB "row" "[D").before a0 Z = true := hw _ (own_m 13 rfl)
theorem w_14 {Z : State} {a0 : Array Value} (hw : HW a0 Z) : (Jvm.Cond.arrayClass Jvm.ClassFile.FieldType.boolean).before a0 Z = true := hw _ (own_m 14 rfl)
theorem w_15 {Z : State} {a0 : Array Value} (hw : HW a0 Z) : (Jvm.Cond.fieldLink kB (17 : Nat) kB "held" "[Z").before a0 Z = true := hw _ (own_m 15 rfl)
theorem w_16 {Z : State} {a0 : Array Value} (hw : HW a0 Z) : (Jvm.Cond.laysFinal kB kB "held" "[Z").before a0 Z = true := hw _ (own_m 16 rfl)
theorem w_17 {Z : State} {a0 : Array Value} (hw : HW a0 Z) : (Jvm.Cond.arrayClass Jvm.ClassFile.FieldType.int).before a0 Z = true := hw _ (own_m 17 rfl)
theorem w_18 {Z : State} {a0 : Array Value} (hw : HW a0 Z) : (Jvm.Cond.fieldLink kB (21 : Nat) kB "heldColumns" "[I").before a0 Z = true := hw _ (own_m 18 rfl)
theorem w_19 {Z : State} {a0 : Array Value} (hw : HW a0 Z) : (Jvm.Cond.laysFinal kB kB "heldColumns" "[I").before a0 Z = true := hw _ (own_m 19 rfl)
theorem w_20 {Z : State} {a0 : Array Value} (hw : HW a0 Z) : (Jvm.Cond.fieldLink kB (25 : Nat) kB "rowStart" "[I").before a0 Z = true := hw _ (own_m 20 rfl)
theorem w_21 {Z : State} {a0 : Array Value} (hw : HW a0 Z) : (Jvm.Cond.laysFinal kB kB "rowStart" "[I").before a0 Z = true := hw _ (own_m 21 rfl)
theorem w_22 {Z : State} {a0 : Array Value} (hw : HW a0 Z) : (Jvm.Cond.fieldLink kB (28 : Nat) kB "column" "[I").before a0 Z = true := hw _ (own_m 22 rfl)
theorem w_23 {Z : State} {a0 : Array Value} (hw : HW a0 Z) : (Jvm.Cond.lays kB kB "column" "[I").before a0 Z = true := hw _ (own_m 23 rfl)
theorem w_24 {Z : State} {a0 : Array Value} (hw : HW a0 Z) : (Jvm.Cond.fieldLink kB (31 : Nat) kB "value" "[D").before a0 Z = true := hw _ (own_m 24 rfl)
theorem w_25 {Z : State} {a0 : Array Value} (hw : HW a0 Z) : (Jvm.Cond.lays kB kB "value" "[D").before a0 Z = true := hw _ (own_m 25 rfl)
theorem w_26 {Z : State} {a0 : Array Value} (hw : HW a0 Z) : (Jvm.Cond.methodLink kL (12 : Nat) ({ cls := kB, name := "add", desc := "(ID)V" } : Jvm.MethodName)).before a0 Z = true := hw _ (own_m 26 rfl)
theorem w_27 {Z : State} {a0 : Array Value} (hw : HW a0 Z) : (Jvm.Cond.declares ({ cls := kB, name := "add", desc := "(ID)V" } : Jvm.MethodName)).before a0 Z = true := hw _ (own_m 27 rfl)
theorem w_28 {Z : State} {a0 : Array Value} (hw : HW a0 Z) : (Jvm.Cond.instanceMethod ({ cls := kB, name := "add", desc := "(ID)V" } : Jvm.MethodName)).before a0 Z = true := hw _ (own_m 28 rfl)
theorem w_29 {Z : State} {a0 : Array Value} (hw : HW a0 Z) : (Jvm.Cond.selects kB ({ cls := kB, name := "add", desc := "(ID)V" } : Jvm.MethodName) ({ cls := kB, name := "add", desc := "(ID)V" } : Jvm.MethodName)).before a0 Z = true := hw _ (own_m 29 rfl)
theorem w_30 {Z : State} {a0 : Array Value} (hw : HW a0 Z) : (Jvm.Cond.code ({ cls := kB, name := "add", desc := "(ID)V" } : Jvm.MethodName) prog_58_method_2_code (4 : Nat) (Option.none : Option Jvm.ClassFile.FieldType)).before a0 Z = true := hw _ (own_m 30 rfl)
theorem w_31 {Z : State} {a0 : Array Value} (hw : HW a0 Z) : (Jvm.Cond.fieldLink kB (34 : Nat) kB "heldCount" "I").before a0 Z = true := hw _ (own_m 31 rfl)
theorem w_32 {Z : State} {a0 : Array Value} (hw : HW a0 Z) : (Jvm.Cond.lays kB kB "heldCount" "I").before a0 Z = true := hw _ (own_m 32 rfl)
theorem w_33 {Z : State} {a0 : Array Value} (hw : HW a0 Z) : (Jvm.Cond.methodLink kL (16 : Nat) ({ cls := kB, name := "endRow", desc := "()V" } : Jvm.MethodName)).before a0 Z = true := hw _ (own_m 33 rfl)
theorem w_34 {Z : State} {a0 : Array Value} (hw : HW a0 Z) : (Jvm.Cond.declares ({ cls := kB, name := "endRow", desc := "()V" } : Jvm.MethodName)).before a0 Z = true := hw _ (own_m 34 rfl)
theorem w_35 {Z : State} {a0 : Array Value} (hw : HW a0 Z) : (Jvm.Cond.instanceMethod ({ cls := kB, name := "endRow", desc := "()V" } : Jvm.MethodName)).before a0 Z = true := hw _ (own_m 35 rfl)
theorem w_36 {Z : State} {a0 : Array Value} (hw : HW a0 Z) : (Jvm.Cond.selects kB ({ cls := kB, name := "endRow", desc := "()V" } : Jvm.MethodName) ({ cls := kB, name := "endRow", desc := "()V" } : Jvm.MethodName)).before a0 Z = true := hw _ (own_m 36 rfl)
theorem w_37 {Z : State} {a0 : Array Value} (hw : HW a0 Z) : (Jvm.Cond.code ({ cls := kB, name := "endRow", desc := "()V" } : Jvm.MethodName) prog_58_method_3_code (3 : Nat) (Option.none : Option Jvm.ClassFile.FieldType)).before a0 Z = true := hw _ (own_m 37 rfl)
theorem w_38 {Z : State} {a0 : Array Value} (hw : HW a0 Z) : (Jvm.Cond.fieldLink kB (37 : Nat) kB "entries" "I").before a0 Z = true := hw _ (own_m 38 rfl)
theorem w_39 {Z : State} {a0 : Array Value} (hw : HW a0 Z) : (Jvm.Cond.lays kB kB "entries" "I").before a0 Z = true := hw _ (own_m 39 rfl)
theorem w_40 {Z : State} {a0 : Array Value} (hw : HW a0 Z) : (Jvm.Cond.methodLink kB (55 : Nat) ({ cls := "java/util/Arrays", name := "sort", desc := "([III)V" } : Jvm.MethodName)).before a0 Z = true := hw _ (own_m 40 rfl)
theorem w_41 {Z : State} {a0 : Array Value} (hw : HW a0 Z) : (Jvm.Cond.static ({ cls := "java/util/Arrays", name := "sort", desc := "([III)V" } : Jvm.MethodName)).before a0 Z = true := hw _ (own_m 41 rfl)
theorem w_42 {Z : State} {a0 : Array Value} (hw : HW a0 Z) : (Jvm.Cond.initialized "java/util/Arrays").before a0 Z = true := hw _ (own_m 42 rfl)
theorem w_43 {Z : State} {a0 : Array Value} (hw : HW a0 Z) : (Jvm.Cond.code ({ cls := "java/util/Arrays", name := "sort", desc := "([III)V" } : Jvm.MethodName) jdk_65_method_3_code (3 : Nat) (Option.none : Option Jvm.ClassFile.FieldType)).before a0 Z = true := hw _ (own_m 43 rfl)
theorem w_44 {Z : State} {a0 : Array Value} (hw : HW a0 Z) : (Jvm.Cond.methodLink "java/util/Arrays" (13 : Nat) ({ cls := "java/util/Arrays", name := "rangeCheck", desc := "(III)V" } : Jvm.MethodName)).before a0 Z = true := hw _ (own_m 44 rfl)
theorem w_45 {Z : State} {a0 : Array Value} (hw : HW a0 Z) : (Jvm.Cond.static ({ cls := "java/util/Arrays", name := "rangeCheck", desc := "(III)V" } : Jvm.MethodName)).before a0 Z = true := hw _ (own_m 45 rfl)
theorem w_46 {Z : State} {a0 : Array Value} (hw : HW a0 Z) : (Jvm.Cond.code ({ cls := "java/util/Arrays", name := "rangeCheck", desc := "(III)V" } : Jvm.MethodName) jdk_65_method_30_code (3 : Nat) (Option.none : Option Jvm.ClassFile.FieldType)).before a0 Z = true := hw _ (own_m 46 rfl)
theorem w_47 {Z : State} {a0 : Array Value} (hw : HW a0 Z) : (Jvm.Cond.methodLink "java/util/Arrays" (7 : Nat) ({ cls := "java/util/DualPivotQuicksort", name := "sort", desc := "([IIII)V" } : Jvm.MethodName)).before a0 Z = true := hw _ (own_m 47 rfl)
theorem w_48 {Z : State} {a0 : Array Value} (hw : HW a0 Z) : (Jvm.Cond.static ({ cls := "java/util/DualPivotQuicksort", name := "sort", desc := "([IIII)V" } : Jvm.MethodName)).before a0 Z = true := hw _ (own_m 48 rfl)
theorem w_49 {Z : State} {a0 : Array Value} (hw : HW a0 Z) : (Jvm.Cond.initialized "java/util/DualPivotQuicksort").before a0 Z = true := hw _ (own_m 49 rfl)
theorem w_50 {Z : State} {a0 : Array Value} (hw : HW a0 Z) : (Jvm.Cond.code ({ cls := "java/util/DualPivotQuicksort", name := "sort", desc := "([IIII)V" } : Jvm.MethodName) jdk_2529_method_3_code (7 : Nat) (Option.none : Option Jvm.ClassFile.FieldType)).before a0 Z = true := hw _ (own_m 50 rfl)
theorem w_51 {Z : State} {a0 : Array Value} (hw : HW a0 Z) : (Jvm.Cond.methodLink "java/util/DualPivotQuicksort" (26 : Nat) ({ cls := "java/util/DualPivotQuicksort", name := "sort", desc := "(Ljava/util/DualPivotQuicksort$Sorter;[IIII)V" } : Jvm.MethodName)).before a0 Z = true := hw _ (own_m 51 rfl)
theorem w_52 {Z : State} {a0 : Array Value} (hw : HW a0 Z) : (Jvm.Cond.static ({ cls := "java/util/DualPivotQuicksort", name := "sort", desc := "(Ljava/util/DualPivotQuicksort$Sorter;[IIII)V" } : Jvm.MethodName)).before a0 Z = true := hw _ (own_m 52 rfl)
theorem w_53 {Z : State} {a0 : Array Value} (hw : HW a0 Z) : (Jvm.Cond.code ({ cls := "java/util/DualPivotQuicksort", name := "sort", desc := "(Ljava/util/DualPivotQuicksort$Sorter;[IIII)V" } : Jvm.MethodName) jdk_2529_method_4_code (21 : Nat) (Option.none : Option Jvm.ClassFile.FieldType)).before a0 Z = true := hw _ (own_m 53 rfl)
theorem w_54 {Z : State} {a0 : Array Value} (hw : HW a0 Z) : (Jvm.Cond.methodLink "java/util/DualPivotQuicksort" (34 : Nat) ({ cls := "java/util/DualPivotQuicksort", name := "insertionSort", desc := "([III)V" } : Jvm.MethodName)).before a0 Z = true := hw _ (own_m 54 rfl)
theorem w_55 {Z : State} {a0 : Array Value} (hw : HW a0 Z) : (Jvm.Cond.static ({ cls := "java/util/DualPivotQuicksort", name := "insertionSort", desc := "([III)V" } : Jvm.MethodName)).before a0 Z = true := hw _ (own_m 55 rfl)
theorem w_56 {Z : State} {a0 : Array Value} (hw : HW a0 Z) : (Jvm.Cond.code ({ cls := "java/util/DualPivotQuicksort", name := "insertionSort", desc := "([III)V" } : Jvm.MethodName) jdk_2529_method_6_code (6 : Nat) (Option.none : Option Jvm.ClassFile.FieldType)).before a0 Z = true := hw _ (own_m 56 rfl)
theorem w_57 {Z : State} {a0 : Array Value} (hw : HW a0 Z) : (Jvm.Cond.fieldLink kB (59 : Nat) kB "rows" "I").before a0 Z = true := hw _ (own_m 57 rfl)
theorem w_58 {Z : State} {a0 : Array Value} (hw : HW a0 Z) : (Jvm.Cond.lays kB kB "rows" "I").before a0 Z = true := hw _ (own_m 58 rfl)
theorem w_59 {Z : State} {a0 : Array Value} (hw : HW a0 Z) : (Jvm.Cond.methodLink kL (19 : Nat) ({ cls := kB, name := "build", desc := "()Lcom/example/rekurze/rekurze/numeric/SparseMatrix;" } : Jvm.MethodName)).before a0 Z = true := hw _ (own_m 59 rfl)
theorem w_60 {Z : State} {a0 : Array Value} (hw : HW a0 Z) : (Jvm.Cond.declares ({ cls := kB, name := "build", desc := "()Lcom/example/rekurze/rekurze/numeric/SparseMatrix;" } : Jvm.MethodName)).before a0 Z = true := hw _ (own_m 60 rfl)
theorem w_61 {Z : State} {a0 : Array Value} (hw : HW a0 Z) : (Jvm.Cond.instanceMethod ({ cls := kB, name := "build", desc := "()Lcom/example/rekurze/rekurze/numeric/SparseMatrix;" } : Jvm.MethodName)).before a0 Z = true := hw _ (own_m 61 rfl)
theorem w_62 {Z : State} {a0 : Array Value} (hw : HW a0 Z) : (Jvm.Cond.selects kB ({ cls := kB, name := "build", desc := "()Lcom/example/rekurze/rekurze/numeric/SparseMatrix;" } : Jvm.MethodName) ({ cls := kB, name := "build", desc := "()Lcom/example/rekurze/rekurze/numeric/SparseMatrix;" } : Jvm.MethodName)).before a0 Z = true := hw _ (own_m 62 rfl)
theorem w_63 {Z : State} {a0 : Array Value} (hw : HW a0 Z) : (Jvm.Cond.code ({ cls := kB, name := "build", desc := "()Lcom/example/rekurze/rekurze/numeric/SparseMatrix;" } : Jvm.MethodName) prog_58_method_4_code (1 : Nat) (Option.some (Jvm.ClassFile.FieldType.object kM))).before a0 Z = true := hw _ (own_m 63 rfl)
theorem w_64 {Z : State} {a0 : Array Value} (hw : HW a0 Z) : (Jvm.Cond.classLink kB (71 : Nat) kM).before a0 Z = true := hw _ (own_m 64 rfl)
theorem w_65 {Z : State} {a0 : Array Value} (hw : HW a0 Z) : (Jvm.Cond.instantiable kM (3 : Nat)).before a0 Z = true := hw _ (own_m 65 rfl)
theorem w_66 {Z : State} {a0 : Array Value} (hw : HW a0 Z) : (Jvm.Cond.initialized kM).before a0 Z = true := hw _ (own_m 66 rfl)
theorem w_67 {Z : State} {a0 : Array Value} (hw : HW a0 Z) : (Jvm.Cond.methodLink kB (46 : Nat) ({ cls := "java/util/Arrays", name := "copyOf", desc := "([II)[I" } : Jvm.MethodName)).before a0 Z = true := hw _ (own_m 67 rfl)
theorem w_68 {Z : State} {a0 : Array Value} (hw : HW a0 Z) : (Jvm.Cond.static ({ cls := "java/util/Arrays", name := "copyOf", desc := "([II)[I" } : Jvm.MethodName)).before a0 Z = true := hw _ (own_m 68 rfl)
theorem w_69 {Z : State} {a0 : Array Value} (hw : HW a0 Z) : (Jvm.Cond.code ({ cls := "java/util/Arrays", name := "copyOf", desc := "([II)[I" } : Jvm.MethodName) jdk_65_method_123_code (3 : Nat) (Option.some (Jvm.ClassFile.FieldType.array Jvm.ClassFile.FieldType.int))).before a0 Z = true := hw _ (own_m 69 rfl)
theorem w_70 {Z : State} {a0 : Array Value} (hw : HW a0 Z) : (Jvm.Cond.methodLink "java/util/Arrays" (304 : Nat) ({ cls := "java/lang/Math", name := "min", desc := "(II)I" } : Jvm.MethodName)).before a0 Z = true := hw _ (own_m 70 rfl)
theorem w_71 {Z : State} {a0 : Array Value} (hw : HW a0 Z) : (Jvm.Cond.static ({ cls := "java/lang/Math", name := "min", desc := "(II)I" } : Jvm.MethodName)).before a0 Z = true := hw _ (own_m 71 rfl)
theorem w_72 {Z : State} {a0 : Array Value} (hw : HW a0 Z) : (Jvm.Cond.initialized "java/lang/Math").before a0 Z = true := hw _ (own_m 72 rfl)
theorem w_73 {Z : State} {a0 : Array Value} (hw : HW a0 Z) : (Jvm.Cond.code ({ cls := "java/lang/Math", name := "min", desc := "(II)I" } : Jvm.MethodName) jdk_29_method_69_code (2 : Nat) (Option.some Jvm.ClassFile.FieldType.int)).before a0 Z = true := hw _ (own_m 73 rfl)
theorem w_74 {Z : State} {a0 : Array Value} (hw : HW a0 Z) : (Jvm.Cond.methodLink "java/util/Arrays" (150 : Nat) ({ cls := "java/lang/System", name := "arraycopy", desc := "(Ljava/lang/Object;ILjava/lang/Object;II)V" } : Jvm.MethodName)).before a0 Z = true := hw _ (own_m 74 rfl)
theorem w_75 {Z : State} {a0 : Array Value} (hw : HW a0 Z) : (Jvm.Cond.static ({ cls := "java/lang/System", name := "arraycopy", desc := "(Ljava/lang/Object;ILjava/lang/Object;II)V" } : Jvm.MethodName)).before a0 Z = true := hw _ (own_m 75 rfl)
theorem w_76 {Z : State} {a0 : Array Value} (hw : HW a0 Z) : (Jvm.Cond.initialized "java/lang/System").before a0 Z = true := hw _ (own_m 76 rfl)
theorem w_77 {Z : State} {a0 : Array Value} (hw : HW a0 Z) : (Jvm.Cond.native ({ cls := "java/lang/System", name := "arraycopy", desc := "(Ljava/lang/Object;ILjava/lang/Object;II)V" } : Jvm.MethodName)).before a0 Z = true := hw _ (own_m 77 rfl)
theorem w_78 {Z : State} {a0 : Array Value} (hw : HW a0 Z) : (Jvm.Cond.methodLink kB (52 : Nat) ({ cls := "java/util/Arrays", name := "copyOf", desc := "([DI)[D" } : Jvm.MethodName)).before a0 Z = true := hw _ (own_m 78 rfl)
theorem w_79 {Z : State} {a0 : Array Value} (hw : HW a0 Z) : (Jvm.Cond.static ({ cls := "java/util/Arrays", name := "copyOf", desc := "([DI)[D" } : Jvm.MethodName)).before a0 Z = true := hw _ (own_m 79 rfl)
theorem w_80 {Z : State} {a0 : Array Value} (hw : HW a0 Z) : (Jvm.Cond.code ({ cls := "java/util/Arrays", name := "copyOf", desc := "([DI)[D" } : Jvm.MethodName) jdk_65_method_127_code (3 : Nat) (Option.some (Jvm.ClassFile.FieldType.array Jvm.ClassFile.FieldType.double))).before a0 Z = true := hw _ (own_m 80 rfl)
theorem w_81 {Z : State} {a0 : Array Value} (hw : HW a0 Z) : (Jvm.Cond.methodLinkNest kB (73 : Nat) ({ cls := kM, name := "<init>", desc := "([I[I[D)V" } : Jvm.MethodName) kM).before a0 Z = true := hw _ (own_m 81 rfl)
theorem w_82 {Z : State} {a0 : Array Value} (hw : HW a0 Z) : (Jvm.Cond.instanceMethod ({ cls := kM, name := "<init>", desc := "([I[I[D)V" } : Jvm.MethodName)).before a0 Z = true := hw _ (own_m 82 rfl)
theorem w_83 {Z : State} {a0 : Array Value} (hw : HW a0 Z) : (Jvm.Cond.code ({ cls := kM, name := "<init>", desc := "([I[I[D)V" } : Jvm.MethodName) prog_57_method_1_code (4 : Nat) (Option.none : Option Jvm.ClassFile.FieldType)).before a0 Z = true := hw _ (own_m 83 rfl)
theorem w_84 {Z : State} {a0 : Array Value} (hw : HW a0 Z) : (Jvm.Cond.methodLink kM (1 : Nat) ({ cls := "java/lang/Object", name := "<init>", desc := "()V" } : Jvm.MethodName)).before a0 Z = true := hw _ (own_m 84 rfl)
theorem w_85 {Z : State} {a0 : Array Value} (hw : HW a0 Z) : (Jvm.Cond.fieldLink kM (7 : Nat) kM "rowStart" "[I").before a0 Z = true := hw _ (own_m 85 rfl)
theorem w_86 {Z : State} {a0 : Array Value} (hw : HW a0 Z) : (Jvm.Cond.laysFinal kM kM "rowStart" "[I").before a0 Z = true := hw _ (own_m 86 rfl)
theorem w_87 {Z : State} {a0 : Array Value} (hw : HW a0 Z) : (Jvm.Cond.fieldLink kM (13 : Nat) kM "column" "[I").before a0 Z = true := hw _ (own_m 87 rfl)
theorem w_88 {Z : State} {a0 : Array Value} (hw : HW a0 Z) : (Jvm.Cond.laysFinal kM kM "column" "[I").before a0 Z = true := hw _ (own_m 88 rfl)
theorem w_89 {Z : State} {a0 : Array Value} (hw : HW a0 Z) : (Jvm.Cond.fieldLink kM (16 : Nat) kM "value" "[D").before a0 Z = true := hw _ (own_m 89 rfl)
theorem w_90 {Z : State} {a0 : Array Value} (hw : HW a0 Z) : (Jvm.Cond.laysFinal kM kM "value" "[D").before a0 Z = true := hw _ (own_m 90 rfl)
theorem w_91 {Z : State} {a0 : Array Value} (hw : HW a0 Z) : (Jvm.Cond.methodLink kL (23 : Nat) ({ cls := kM, name := "dense", desc := "()[[D" } : Jvm.MethodName)).before a0 Z = true := hw _ (own_m 91 rfl)
theorem w_92 {Z : State} {a0 : Array Value} (hw : HW a0 Z) : (Jvm.Cond.declares ({ cls := kM, name := "dense", desc := "()[[D" } : Jvm.MethodName)).before a0 Z = true := hw _ (own_m 92 rfl)
theorem w_93 {Z : State} {a0 : Array Value} (hw : HW a0 Z) : (Jvm.Cond.instanceMethod ({ cls := kM, name := "dense", desc := "()[[D" } : Jvm.MethodName)).before a0 Z = true := hw _ (own_m 93 rfl)
theorem w_94 {Z : State} {a0 : Array Value} (hw : HW a0 Z) : (Jvm.Cond.selects kM ({ cls := kM, name := "dense", desc := "()[[D" } : Jvm.MethodName) ({ cls := kM, name := "dense", desc := "()[[D" } : Jvm.MethodName)).before a0 Z = true := hw _ (own_m 94 rfl)
theorem w_95 {Z : State} {a0 : Array Value} (hw : HW a0 Z) : (Jvm.Cond.code ({ cls := kM, name := "dense", desc := "()[[D" } : Jvm.MethodName) prog_57_method_6_code (5 : Nat) (Option.some (Jvm.ClassFile.FieldType.array (Jvm.ClassFile.FieldType.array Jvm.ClassFile.FieldType.double)))).before a0 Z = true := hw _ (own_m 95 rfl)
theorem w_96 {Z : State} {a0 : Array Value} (hw : HW a0 Z) : (Jvm.Cond.methodLink kM (20 : Nat) ({ cls := kM, name := "size", desc := "()I" } : Jvm.MethodName)).before a0 Z = true := hw _ (own_m 96 rfl)
theorem w_97 {Z : State} {a0 : Array Value} (hw : HW a0 Z) : (Jvm.Cond.declares ({ cls := kM, name := "size", desc := "()I" } : Jvm.MethodName)).before a0 Z = true := hw _ (own_m 97 rfl)
theorem w_98 {Z : State} {a0 : Array Value} (hw : HW a0 Z) : (Jvm.Cond.instanceMethod ({ cls := kM, name := "size", desc := "()I" } : Jvm.MethodName)).before a0 Z = true := hw _ (own_m 98 rfl)
theorem w_99 {Z : State} {a0 : Array Value} (hw : HW a0 Z) : (Jvm.Cond.selects kM ({ cls := kM, name := "size", desc := "()I" } : Jvm.MethodName) ({ cls := kM, name := "size", desc := "()I" } : Jvm.MethodName)).before a0 Z = true := hw _ (own_m 99 rfl)
theorem w_100 {Z : State} {a0 : Array Value} (hw : HW a0 Z) : (Jvm.Cond.code ({ cls := kM, name := "size", desc := "()I" } : Jvm.MethodName) prog_57_method_2_code (1 : Nat) (Option.some Jvm.ClassFile.FieldType.int)).before a0 Z = true := hw _ (own_m 100 rfl)
theorem w_101 {Z : State} {a0 : Array Value} (hw : HW a0 Z) : (Jvm.Cond.classLink kM (24 : Nat) "[[D").before a0 Z = true := hw _ (own_m 101 rfl)
theorem w_102 {Z : State} {a0 : Array Value} (hw : HW a0 Z) : (Jvm.Cond.arrayOver (Jvm.ClassFile.FieldType.array Jvm.ClassFile.FieldType.double)).before a0 Z = true := hw _ (own_m 102 rfl)
theorem w_103 {Z : State} {a0 : Array Value} (hw : HW a0 Z) : (Jvm.Cond.methodLink kL (29 : Nat) ({ cls := kM, name := "rowStart", desc := "(I)I" } : Jvm.MethodName)).before a0 Z = true := hw _ (own_m 103 rfl)
theorem w_104 {Z : State} {a0 : Array Value} (hw : HW a0 Z) : (Jvm.Cond.declares ({ cls := kM, name := "rowStart", desc := "(I)I" } : Jvm.MethodName)).before a0 Z = true := hw _ (own_m 104 rfl)
theorem w_105 {Z : State} {a0 : Array Value} (hw : HW a0 Z) : (Jvm.Cond.instanceMethod ({ cls := kM, name := "rowStart", desc := "(I)I" } : Jvm.MethodName)).before a0 Z = true := hw _ (own_m 105 rfl)
theorem w_106 {Z : State} {a0 : Array Value} (hw : HW a0 Z) : (Jvm.Cond.selects kM ({ cls := kM, name := "rowStart", desc := "(I)I" } : Jvm.MethodName) ({ cls := kM, name := "rowStart", desc := "(I)I" } : Jvm.MethodName)).before a0 Z = true := hw _ (own_m 106 rfl)
theorem w_107 {Z : State} {a0 : Array Value} (hw : HW a0 Z) : (Jvm.Cond.code ({ cls := kM, name := "rowStart", desc := "(I)I" } : Jvm.MethodName) prog_57_method_3_code (2 : Nat) (Option.some Jvm.ClassFile.FieldType.int)).before a0 Z = true := hw _ (own_m 107 rfl)
theorem w_108 {Z : State} {a0 : Array Value} (hw : HW a0 Z) : (Jvm.Cond.methodLink kL (33 : Nat) ({ cls := kL, name := "part", desc := "(III)J" } : Jvm.MethodName)).before a0 Z = true := hw _ (own_m 108 rfl)
theorem w_109 {Z : State} {a0 : Array Value} (hw : HW a0 Z) : (Jvm.Cond.static ({ cls := kL, name := "part", desc := "(III)J" } : Jvm.MethodName)).before a0 Z = true := hw _ (own_m 109 rfl)
theorem w_110 {Z : State} {a0 : Array Value} (hw : HW a0 Z) : (Jvm.Cond.initialized kL).before a0 Z = true := hw _ (own_m 110 rfl)
theorem w_111 {Z : State} {a0 : Array Value} (hw : HW a0 Z) : (Jvm.Cond.code ({ cls := kL, name := "part", desc := "(III)J" } : Jvm.MethodName) method_2_code (3 : Nat) (Option.some Jvm.ClassFile.FieldType.long)).before a0 Z = true := hw _ (own_m 111 rfl)
theorem w_112 {Z : State} {a0 : Array Value} (hw : HW a0 Z) : (Jvm.Cond.methodLink kL (39 : Nat) ({ cls := kL, name := "rowOk", desc := "([DJJJ)Z" } : Jvm.MethodName)).before a0 Z = true := hw _ (own_m 112 rfl)
theorem w_113 {Z : State} {a0 : Array Value} (hw : HW a0 Z) : (Jvm.Cond.static ({ cls := kL, name := "rowOk", desc := "([DJJJ)Z" } : Jvm.MethodName)).before a0 Z = true := hw _ (own_m 113 rfl)
theorem w_114 {Z : State} {a0 : Array Value} (hw : HW a0 Z) : (Jvm.Cond.code ({ cls := kL, name := "rowOk", desc := "([DJJJ)Z" } : Jvm.MethodName) method_3_code (7 : Nat) (Option.some Jvm.ClassFile.FieldType.boolean)).before a0 Z = true := hw _ (own_m 114 rfl)
theorem w_115 {Z : State} {a0 : Array Value} (hw : HW a0 Z) : (Jvm.Cond.methodLink "java/util/Arrays" (316 : Nat) ({ cls := "[I", name := "clone", desc := "()Ljava/lang/Object;" } : Jvm.MethodName)).before a0 Z = true := hw _ (own_m 115 rfl)
theorem w_116 {Z : State} {a0 : Array Value} (hw : HW a0 Z) : (Jvm.Cond.sameMethod "[I" "java/lang/Object" "clone" "()Ljava/lang/Object;").before a0 Z = true := hw _ (own_m 116 rfl)
theorem w_118 {Z : State} {a0 : Array Value} (hw : HW a0 Z) : (Jvm.Cond.instanceMethod ({ cls := "java/lang/Object", name := "clone", desc := "()Ljava/lang/Object;" } : Jvm.MethodName)).before a0 Z = true := hw _ (own_m 118 rfl)
theorem w_119 {Z : State} {a0 : Array Value} (hw : HW a0 Z) : (Jvm.Cond.selects "[I" ({ cls := "[I", name := "clone", desc := "()Ljava/lang/Object;" } : Jvm.MethodName) ({ cls := "java/lang/Object", name := "clone", desc := "()Ljava/lang/Object;" } : Jvm.MethodName)).before a0 Z = true := hw _ (own_m 119 rfl)
theorem w_120 {Z : State} {a0 : Array Value} (hw : HW a0 Z) : (Jvm.Cond.native ({ cls := "java/lang/Object", name := "clone", desc := "()Ljava/lang/Object;" } : Jvm.MethodName)).before a0 Z = true := hw _ (own_m 120 rfl)
theorem w_121 {Z : State} {a0 : Array Value} (hw : HW a0 Z) : (Jvm.Cond.castable "[I" "java/lang/Cloneable").before a0 Z = true := hw _ (own_m 121 rfl)
theorem w_122 {Z : State} {a0 : Array Value} (hw : HW a0 Z) : (Jvm.Cond.classLink "java/util/Arrays" (317 : Nat) "[I").before a0 Z = true := hw _ (own_m 122 rfl)
theorem w_124 {Z : State} {a0 : Array Value} (hw : HW a0 Z) : (Jvm.Cond.methodLink "java/util/Arrays" (328 : Nat) ({ cls := "[D", name := "clone", desc := "()Ljava/lang/Object;" } : Jvm.MethodName)).before a0 Z = true := hw _ (own_m 124 rfl)
theorem w_125 {Z : State} {a0 : Array Value} (hw : HW a0 Z) : (Jvm.Cond.sameMethod "[D" "java/lang/Object" "clone" "()Ljava/lang/Object;").before a0 Z = true := hw _ (own_m 125 rfl)
theorem w_126 {Z : State} {a0 : Array Value} (hw : HW a0 Z) : (Jvm.Cond.selects "[D" ({ cls := "[D", name := "clone", desc := "()Ljava/lang/Object;" } : Jvm.MethodName) ({ cls := "java/lang/Object", name := "clone", desc := "()Ljava/lang/Object;" } : Jvm.MethodName)).before a0 Z = true := hw _ (own_m 126 rfl)
theorem w_127 {Z : State} {a0 : Array Value} (hw : HW a0 Z) : (Jvm.Cond.castable "[D" "java/lang/Cloneable").before a0 Z = true := hw _ (own_m 127 rfl)
theorem w_128 {Z : State} {a0 : Array Value} (hw : HW a0 Z) : (Jvm.Cond.classLink "java/util/Arrays" (329 : Nat) "[D").before a0 Z = true := hw _ (own_m 128 rfl)
theorem w_130 {Z : State} {a0 : Array Value} (hw : HW a0 Z) : (Jvm.Cond.methodLink kB (40 : Nat) ({ cls := "java/lang/Math", name := "max", desc := "(II)I" } : Jvm.MethodName)).before a0 Z = true := hw _ (own_m 130 rfl)
theorem w_131 {Z : State} {a0 : Array Value} (hw : HW a0 Z) : (Jvm.Cond.static ({ cls := "java/lang/Math", name := "max", desc := "(II)I" } : Jvm.MethodName)).before a0 Z = true := hw _ (own_m 131 rfl)
theorem w_132 {Z : State} {a0 : Array Value} (hw : HW a0 Z) : (Jvm.Cond.code ({ cls := "java/lang/Math", name := "max", desc := "(II)I" } : Jvm.MethodName) jdk_29_method_65_code (2 : Nat) (Option.some Jvm.ClassFile.FieldType.int)).before a0 Z = true := hw _ (own_m 132 rfl)
theorem n_10_13 {Z : State} {a0 : Array Value} (hw : HW a0 Z) : Jvm.RoadKit.slotOf Z kB "size" "I" ≠ Jvm.RoadKit.slotOf Z kB "row" "[D" := (slot_ne (Or.inr (w_10 hw)) (Or.inr (w_13 hw)) (by decide) (t := .int) (t' := (.array .double)) (by decide) (by decide))
theorem n_10_16 {Z : State} {a0 : Array Value} (hw : HW a0 Z) : Jvm.RoadKit.slotOf Z kB "size" "I" ≠ Jvm.RoadKit.slotOf Z kB "held" "[Z" := (slot_ne (Or.inr (w_10 hw)) (Or.inr (w_16 hw)) (by decide) (t := .int) (t' := (.array .boolean)) (by decide) (by decide))
theorem n_10_19 {Z : State} {a0 : Array Value} (hw : HW a0 Z) : Jvm.RoadKit.slotOf Z kB "size" "I" ≠ Jvm.RoadKit.slotOf Z kB "heldColumns" "[I" := (slot_ne (Or.inr (w_10 hw)) (Or.inr (w_19 hw)) (by decide) (t := .int) (t' := (.array .int)) (by decide) (by decide))
theorem n_10_21 {Z : State} {a0 : Array Value} (hw : HW a0 Z) : Jvm.RoadKit.slotOf Z kB "size" "I" ≠ Jvm.RoadKit.slotOf Z kB "rowStart" "[I" := (slot_ne (Or.inr (w_10 hw)) (Or.inr (w_21 hw)) (by decide) (t := .int) (t' := (.array .int)) (by decide) (by decide))
theorem n_10_23 {Z : State} {a0 : Array Value} (hw : HW a0 Z) : Jvm.RoadKit.slotOf Z kB "size" "I" ≠ Jvm.RoadKit.slotOf Z kB "column" "[I" := (slot_ne (Or.inr (w_10 hw)) (Or.inl (w_23 hw)) (by decide) (t := .int) (t' := (.array .int)) (by decide) (by decide))
theorem n_10_25 {Z : State} {a0 : Array Value} (hw : HW a0 Z) : Jvm.RoadKit.slotOf Z kB "size" "I" ≠ Jvm.RoadKit.slotOf Z kB "value" "[D" := (slot_ne (Or.inr (w_10 hw)) (Or.inl (w_25 hw)) (by decide) (t := .int) (t' := (.array .double)) (by decide) (by decide))
theorem n_10_32 {Z : State} {a0 : Array Value} (hw : HW a0 Z) : Jvm.RoadKit.slotOf Z kB "size" "I" ≠ Jvm.RoadKit.slotOf Z kB "heldCount" "I" := (slot_ne (Or.inr (w_10 hw)) (Or.inl (w_32 hw)) (by decide) (t := .int) (t' := .int) (by decide) (by decide))
theorem n_10_39 {Z : State} {a0 : Array Value} (hw : HW a0 Z) : Jvm.RoadKit.slotOf Z kB "size" "I" ≠ Jvm.RoadKit.slotOf Z kB "entries" "I" := (slot_ne (Or.inr (w_10 hw)) (Or.inl (w_39 hw)) (by decide) (t := .int) (t' := .int) (by decide) (by decide))
theorem n_10_58 {Z : State} {a0 : Array Value} (hw : HW a0 Z) : Jvm.RoadKit.slotOf Z kB "size" "I" ≠ Jvm.RoadKit.slotOf Z kB "rows" "I" := (slot_ne (Or.inr (w_10 hw)) (Or.inl (w_58 hw)) (by decide) (t := .int) (t' := .int) (by decide) (by decide))
theorem n_13_10 {Z : State} {a0 : Array Value} (hw : HW a0 Z) : Jvm.RoadKit.slotOf Z kB "row" "[D" ≠ Jvm.RoadKit.slotOf Z kB "size" "I" := (slot_ne (Or.inr (w_13 hw)) (Or.inr (w_10 hw)) (by decide) (t := (.array .double)) (t' := .int) (by decide) (by decide))
theorem n_13_16 {Z : State} {a0 : Array Value} (hw : HW a0 Z) : Jvm.RoadKit.slotOf Z kB "row" "[D" ≠ Jvm.RoadKit.slotOf Z kB "held" "[Z" := (slot_ne (Or.inr (w_13 hw)) (Or.inr (w_16 hw)) (by decide) (t := (.array .double)) (t' := (.array .boolean)) (by decide) (by decide))
theorem n_13_19 {Z : State} {a0 : Array Value} (hw : HW a0 Z) : Jvm.RoadKit.slotOf Z kB "row" "[D" ≠ Jvm.RoadKit.slotOf Z kB "heldColumns" "[I" := (slot_ne (Or.inr (w_13 hw)) (Or.inr (w_19 hw)) (by decide) (t := (.array .double)) (t' := (.array .int)) (by decide) (by decide))
theorem n_13_21 {Z : State} {a0 : Array Value} (hw : HW a0 Z) : Jvm.RoadKit.slotOf Z kB "row" "[D" ≠ Jvm.RoadKit.slotOf Z kB "rowStart" "[I" := (slot_ne (Or.inr (w_13 hw)) (Or.inr (w_21 hw)) (by decide) (t := (.array .double)) (t' := (.array .int)) (by decide) (by decide))
theorem n_13_23 {Z : State} {a0 : Array Value} (hw : HW a0 Z) : Jvm.RoadKit.slotOf Z kB "row" "[D" ≠ Jvm.RoadKit.slotOf Z kB "column" "[I" := (slot_ne (Or.inr (w_13 hw)) (Or.inl (w_23 hw)) (by decide) (t := (.array .double)) (t' := (.array .int)) (by decide) (by decide))
theorem n_13_25 {Z : State} {a0 : Array Value} (hw : HW a0 Z) : Jvm.RoadKit.slotOf Z kB "row" "[D" ≠ Jvm.RoadKit.slotOf Z kB "value" "[D" := (slot_ne (Or.inr (w_13 hw)) (Or.inl (w_25 hw)) (by decide) (t := (.array .double)) (t' := (.array .double)) (by decide) (by decide))
theorem n_13_32 {Z : State} {a0 : Array Value} (hw : HW a0 Z) : Jvm.RoadKit.slotOf Z kB "row" "[D" ≠ Jvm.RoadKit.slotOf Z kB "heldCount" "I" := (slot_ne (Or.inr (w_13 hw)) (Or.inl (w_32 hw)) (by decide) (t := (.array .double)) (t' := .int) (by decide) (by decide))
theorem n_13_39 {Z : State} {a0 : Array Value} (hw : HW a0 Z) : Jvm.RoadKit.slotOf Z kB "row" "[D" ≠ Jvm.RoadKit.slotOf Z kB "entries" "I" := (slot_ne (Or.inr (w_13 hw)) (Or.inl (w_39 hw)) (by decide) (t := (.array .double)) (t' := .int) (by decide) (by decide))
theorem n_13_58 {Z : State} {a0 : Array Value} (hw : HW a0 Z) : Jvm.RoadKit.slotOf Z kB "row" "[D" ≠ Jvm.RoadKit.slotOf Z kB "rows" "I" := (slot_ne (Or.inr (w_13 hw)) (Or.inl (w_58 hw)) (by decide) (t := (.array .double)) (t' := .int) (by decide) (by decide))
theorem n_16_10 {Z : State} {a0 : Array Value} (hw : HW a0 Z) : Jvm.RoadKit.slotOf Z kB "held" "[Z" ≠ Jvm.RoadKit.slotOf Z kB "size" "I" := (slot_ne (Or.inr (w_16 hw)) (Or.inr (w_10 hw)) (by decide) (t := (.array .boolean)) (t' := .int) (by decide) (by decide))
theorem n_16_13 {Z : State} {a0 : Array Value} (hw : HW a0 Z) : Jvm.RoadKit.slotOf Z kB "held" "[Z" ≠ Jvm.RoadKit.slotOf Z kB "row" "[D" := (slot_ne (Or.inr (w_16 hw)) (Or.inr (w_13 hw)) (by decide) (t := (.array .boolean)) (t' := (.array .double)) (by decide) (by decide))
theorem n_16_19 {Z : State} {a0 : Array Value} (hw : HW a0 Z) : Jvm.RoadKit.slotOf Z kB "held" "[Z" ≠ Jvm.RoadKit.slotOf Z kB "heldColumns" "[I" := (slot_ne (Or.inr (w_16 hw)) (Or.inr (w_19 hw)) (by decide) (t := (.array .boolean)) (t' := (.array .int)) (by decide) (by decide))
theorem n_16_21 {Z : State} {a0 : Array Value} (hw : HW a0 Z) : Jvm.RoadKit.slotOf Z kB "held" "[Z" ≠ Jvm.RoadKit.slotOf Z kB "rowStart" "[I" := (slot_ne (Or.inr (w_16 hw)) (Or.inr (w_21 hw)) (by decide) (t := (.array .boolean)) (t' := (.array .int)) (by decide) (by decide))
theorem n_16_23 {Z : State} {a0 : Array Value} (hw : HW a0 Z) : Jvm.RoadKit.slotOf Z kB "held" "[Z" ≠ Jvm.RoadKit.slotOf Z kB "column" "[I" := (slot_ne (Or.inr (w_16 hw)) (Or.inl (w_23 hw)) (by decide) (t := (.array .boolean)) (t' := (.array .int)) (by decide) (by decide))
theorem n_16_25 {Z : State} {a0 : Array Value} (hw : HW a0 Z) : Jvm.RoadKit.slotOf Z kB "held" "[Z" ≠ Jvm.RoadKit.slotOf Z kB "value" "[D" := (slot_ne (Or.inr (w_16 hw)) (Or.inl (w_25 hw)) (by decide) (t := (.array .boolean)) (t' := (.array .double)) (by decide) (by decide))
theorem n_16_32 {Z : State} {a0 : Array Value} (hw : HW a0 Z) : Jvm.RoadKit.slotOf Z kB "held" "[Z" ≠ Jvm.RoadKit.slotOf Z kB "heldCount" "I" := (slot_ne (Or.inr (w_16 hw)) (Or.inl (w_32 hw)) (by decide) (t := (.array .boolean)) (t' := .int) (by decide) (by decide))
theorem n_16_39 {Z : State} {a0 : Array Value} (hw : HW a0 Z) : Jvm.RoadKit.slotOf Z kB "held" "[Z" ≠ Jvm.RoadKit.slotOf Z kB "entries" "I" := (slot_ne (Or.inr (w_16 hw)) (Or.inl (w_39 hw)) (by decide) (t := (.array .boolean)) (t' := .int) (by decide) (by decide))
theorem n_16_58 {Z : State} {a0 : Array Value} (hw : HW a0 Z) : Jvm.RoadKit.slotOf Z kB "held" "[Z" ≠ Jvm.RoadKit.slotOf Z kB "rows" "I" := (slot_ne (Or.inr (w_16 hw)) (Or.inl (w_58 hw)) (by decide) (t := (.array .boolean)) (t' := .int) (by decide) (by decide))
theorem n_19_10 {Z : State} {a0 : Array Value} (hw : HW a0 Z) : Jvm.RoadKit.slotOf Z kB "heldColumns" "[I" ≠ Jvm.RoadKit.slotOf Z kB "size" "I" := (slot_ne (Or.inr (w_19 hw)) (Or.inr (w_10 hw)) (by decide) (t := (.array .int)) (t' := .int) (by decide) (by decide))
theorem n_19_13 {Z : State} {a0 : Array Value} (hw : HW a0 Z) : Jvm.RoadKit.slotOf Z kB "heldColumns" "[I" ≠ Jvm.RoadKit.slotOf Z kB "row" "[D" := (slot_ne (Or.inr (w_19 hw)) (Or.inr (w_13 hw)) (by decide) (t := (.array .int)) (t' := (.array .double)) (by decide) (by decide))
theorem n_19_16 {Z : State} {a0 : Array Value} (hw : HW a0 Z) : Jvm.RoadKit.slotOf Z kB "heldColumns" "[I" ≠ Jvm.RoadKit.slotOf Z kB "held" "[Z" := (slot_ne (Or.inr (w_19 hw)) (Or.inr (w_16 hw)) (by decide) (t := (.array .int)) (t' := (.array .boolean)) (by decide) (by decide))
theorem n_19_21 {Z : State} {a0 : Array Value} (hw : HW a0 Z) : Jvm.RoadKit.slotOf Z kB "heldColumns" "[I" ≠ Jvm.RoadKit.slotOf Z kB "rowStart" "[I" := (slot_ne (Or.inr (w_19 hw)) (Or.inr (w_21 hw)) (by decide) (t := (.array .int)) (t' := (.array .int)) (by decide) (by decide))
theorem n_19_23 {Z : State} {a0 : Array Value} (hw : HW a0 Z) : Jvm.RoadKit.slotOf Z kB "heldColumns" "[I" ≠ Jvm.RoadKit.slotOf Z kB "column" "[I" := (slot_ne (Or.inr (w_19 hw)) (Or.inl (w_23 hw)) (by decide) (t := (.array .int)) (t' := (.array .int)) (by decide) (by decide))
theorem n_19_25 {Z : State} {a0 : Array Value} (hw : HW a0 Z) : Jvm.RoadKit.slotOf Z kB "heldColumns" "[I" ≠ Jvm.RoadKit.slotOf Z kB "value" "[D" := (slot_ne (Or.inr (w_19 hw)) (Or.inl (w_25 hw)) (by decide) (t := (.array .int)) (t' := (.array .double)) (by decide) (by decide))
theorem n_19_32 {Z : State} {a0 : Array Value} (hw : HW a0 Z) : Jvm.RoadKit.slotOf Z kB "heldColumns" "[I" ≠ Jvm.RoadKit.slotOf Z kB "heldCount" "I" := (slot_ne (Or.inr (w_19 hw)) (Or.inl (w_32 hw)) (by decide) (t := (.array .int)) (t' := .int) (by decide) (by decide))
theorem n_19_39 {Z : State} {a0 : Array Value} (hw : HW a0 Z) : Jvm.RoadKit.slotOf Z kB "heldColumns" "[I" ≠ Jvm.RoadKit.slotOf Z kB "entries" "I" := (slot_ne (Or.inr (w_19 hw)) (Or.inl (w_39 hw)) (by decide) (t := (.array .int)) (t' := .int) (by decide) (by decide))
theorem n_19_58 {Z : State} {a0 : Array Value} (hw : HW a0 Z) : Jvm.RoadKit.slotOf Z kB "heldColumns" "[I" ≠ Jvm.RoadKit.slotOf Z kB "rows" "I" := (slot_ne (Or.inr (w_19 hw)) (Or.inl (w_58 hw)) (by decide) (t := (.array .int)) (t' := .int) (by decide) (by decide))
theorem n_21_10 {Z : State} {a0 : Array Value} (hw : HW a0 Z) : Jvm.RoadKit.slotOf Z kB "rowStart" "[I" ≠ Jvm.RoadKit.slotOf Z kB "size" "I" := (slot_ne (Or.inr (w_21 hw)) (Or.inr (w_10 hw)) (by decide) (t := (.array .int)) (t' := .int) (by decide) (by decide))
theorem n_21_13 {Z : State} {a0 : Array Value} (hw : HW a0 Z) : Jvm.RoadKit.slotOf Z kB "rowStart" "[I" ≠ Jvm.RoadKit.slotOf Z kB "row" "[D" := (slot_ne (Or.inr (w_21 hw)) (Or.inr (w_13 hw)) (by decide) (t := (.array .int)) (t' := (.array .double)) (by decide) (by decide))
theorem n_21_16 {Z : State} {a0 : Array Value} (hw : HW a0 Z) : Jvm.RoadKit.slotOf Z kB "rowStart" "[I" ≠ Jvm.RoadKit.slotOf Z kB "held" "[Z" := (slot_ne (Or.inr (w_21 hw)) (Or.inr (w_16 hw)) (by decide) (t := (.array .int)) (t' := (.array .boolean)) (by decide) (by decide))
theorem n_21_19 {Z : State} {a0 : Array Value} (hw : HW a0 Z) : Jvm.RoadKit.slotOf Z kB "rowStart" "[I" ≠ Jvm.RoadKit.slotOf Z kB "heldColumns" "[I" := (slot_ne (Or.inr (w_21 hw)) (Or.inr (w_19 hw)) (by decide) (t := (.array .int)) (t' := (.array .int)) (by decide) (by decide))
theorem n_21_23 {Z : State} {a0 : Array Value} (hw : HW a0 Z) : Jvm.RoadKit.slotOf Z kB "rowStart" "[I" ≠ Jvm.RoadKit.slotOf Z kB "column" "[I" := (slot_ne (Or.inr (w_21 hw)) (Or.inl (w_23 hw)) (by decide) (t := (.array .int)) (t' := (.array .int)) (by decide) (by decide))
theorem n_21_25 {Z : State} {a0 : Array Value} (hw : HW a0 Z) : Jvm.RoadKit.slotOf Z kB "rowStart" "[I" ≠ Jvm.RoadKit.slotOf Z kB "value" "[D" := (slot_ne (Or.inr (w_21 hw)) (Or.inl (w_25 hw)) (by decide) (t := (.array .int)) (t' := (.array .double)) (by decide) (by decide))
theorem n_21_32 {Z : State} {a0 : Array Value} (hw : HW a0 Z) : Jvm.RoadKit.slotOf Z kB "rowStart" "[I" ≠ Jvm.RoadKit.slotOf Z kB "heldCount" "I" := (slot_ne (Or.inr (w_21 hw)) (Or.inl (w_32 hw)) (by decide) (t := (.array .int)) (t' := .int) (by decide) (by decide))
theorem n_21_39 {Z : State} {a0 : Array Value} (hw : HW a0 Z) : Jvm.RoadKit.slotOf Z kB "rowStart" "[I" ≠ Jvm.RoadKit.slotOf Z kB "entries" "I" := (slot_ne (Or.inr (w_21 hw)) (Or.inl (w_39 hw)) (by decide) (t := (.array .int)) (t' := .int) (by decide) (by decide))
theorem n_21_58 {Z : State} {a0 : Array Value} (hw : HW a0 Z) : Jvm.RoadKit.slotOf Z kB "rowStart" "[I" ≠ Jvm.RoadKit.slotOf Z kB "rows" "I" := (slot_ne (Or.inr (w_21 hw)) (Or.inl (w_58 hw)) (by decide) (t := (.array .int)) (t' := .int) (by decide) (by decide))
theorem n_23_10 {Z : State} {a0 : Array Value} (hw : HW a0 Z) : Jvm.RoadKit.slotOf Z kB "column" "[I" ≠ Jvm.RoadKit.slotOf Z kB "size" "I" := (slot_ne (Or.inl (w_23 hw)) (Or.inr (w_10 hw)) (by decide) (t := (.array .int)) (t' := .int) (by decide) (by decide))
theorem n_23_13 {Z : State} {a0 : Array Value} (hw : HW a0 Z) : Jvm.RoadKit.slotOf Z kB "column" "[I" ≠ Jvm.RoadKit.slotOf Z kB "row" "[D" := (slot_ne (Or.inl (w_23 hw)) (Or.inr (w_13 hw)) (by decide) (t := (.array .int)) (t' := (.array .double)) (by decide) (by decide))
theorem n_23_16 {Z : State} {a0 : Array Value} (hw : HW a0 Z) : Jvm.RoadKit.slotOf Z kB "column" "[I" ≠ Jvm.RoadKit.slotOf Z kB "held" "[Z" := (slot_ne (Or.inl (w_23 hw)) (Or.inr (w_16 hw)) (by decide) (t := (.array .int)) (t' := (.array .boolean)) (by decide) (by decide))
theorem n_23_19 {Z : State} {a0 : Array Value} (hw : HW a0 Z) : Jvm.RoadKit.slotOf Z kB "column" "[I" ≠ Jvm.RoadKit.slotOf Z kB "heldColumns" "[I" := (slot_ne (Or.inl (w_23 hw)) (Or.inr (w_19 hw)) (by decide) (t := (.array .int)) (t' := (.array .int)) (by decide) (by decide))
theorem n_23_21 {Z : State} {a0 : Array Value} (hw : HW a0 Z) : Jvm.RoadKit.slotOf Z kB "column" "[I" ≠ Jvm.RoadKit.slotOf Z kB "rowStart" "[I" := (slot_ne (Or.inl (w_23 hw)) (Or.inr (w_21 hw)) (by decide) (t := (.array .int)) (t' := (.array .int)) (by decide) (by decide))
theorem n_23_25 {Z : State} {a0 : Array Value} (hw : HW a0 Z) : Jvm.RoadKit.slotOf Z kB "column" "[I" ≠ Jvm.RoadKit.slotOf Z kB "value" "[D" := (slot_ne (Or.inl (w_23 hw)) (Or.inl (w_25 hw)) (by decide) (t := (.array .int)) (t' := (.array .double)) (by decide) (by decide))
theorem n_23_32 {Z : State} {a0 : Array Value} (hw : HW a0 Z) : Jvm.RoadKit.slotOf Z kB "column" "[I" ≠ Jvm.RoadKit.slotOf Z kB "heldCount" "I" := (slot_ne (Or.inl (w_23 hw)) (Or.inl (w_32 hw)) (by decide) (t := (.array .int)) (t' := .int) (by decide) (by decide))
theorem n_23_39 {Z : State} {a0 : Array Value} (hw : HW a0 Z) : Jvm.RoadKit.slotOf Z kB "column" "[I" ≠ Jvm.RoadKit.slotOf Z kB "entries" "I" := (slot_ne (Or.inl (w_23 hw)) (Or.inl (w_39 hw)) (by decide) (t := (.array .int)) (t' := .int) (by decide) (by decide))
theorem n_23_58 {Z : State} {a0 : Array Value} (hw : HW a0 Z) : Jvm.RoadKit.slotOf Z kB "column" "[I" ≠ Jvm.RoadKit.slotOf Z kB "rows" "I" := (slot_ne (Or.inl (w_23 hw)) (Or.inl (w_58 hw)) (by decide) (t := (.array .int)) (t' := .int) (by decide) (by decide))
theorem n_25_10 {Z : State} {a0 : Array Value} (hw : HW a0 Z) : Jvm.RoadKit.slotOf Z kB "value" "[D" ≠ Jvm.RoadKit.slotOf Z kB "size" "I" := (slot_ne (Or.inl (w_25 hw)) (Or.inr (w_10 hw)) (by decide) (t := (.array .double)) (t' := .int) (by decide) (by decide))
theorem n_25_13 {Z : State} {a0 : Array Value} (hw : HW a0 Z) : Jvm.RoadKit.slotOf Z kB "value" "[D" ≠ Jvm.RoadKit.slotOf Z kB "row" "[D" := (slot_ne (Or.inl (w_25 hw)) (Or.inr (w_13 hw)) (by decide) (t := (.array .double)) (t' := (.array .double)) (by decide) (by decide))
theorem n_25_16 {Z : State} {a0 : Array Value} (hw : HW a0 Z) : Jvm.RoadKit.slotOf Z kB "value" "[D" ≠ Jvm.RoadKit.slotOf Z kB "held" "[Z" := (slot_ne (Or.inl (w_25 hw)) (Or.inr (w_16 hw)) (by decide) (t := (.array .double)) (t' := (.array .boolean)) (by decide) (by decide))
theorem n_25_19 {Z : State} {a0 : Array Value} (hw : HW a0 Z) : Jvm.RoadKit.slotOf Z kB "value" "[D" ≠ Jvm.RoadKit.slotOf Z kB "heldColumns" "[I" := (slot_ne (Or.inl (w_25 hw)) (Or.inr (w_19 hw)) (by decide) (t := (.array .double)) (t' := (.array .int)) (by decide) (by decide))
theorem n_25_21 {Z : State} {a0 : Array Value} (hw : HW a0 Z) : Jvm.RoadKit.slotOf Z kB "value" "[D" ≠ Jvm.RoadKit.slotOf Z kB "rowStart" "[I" := (slot_ne (Or.inl (w_25 hw)) (Or.inr (w_21 hw)) (by decide) (t := (.array .double)) (t' := (.array .int)) (by decide) (by decide))
theorem n_25_23 {Z : State} {a0 : Array Value} (hw : HW a0 Z) : Jvm.RoadKit.slotOf Z kB "value" "[D" ≠ Jvm.RoadKit.slotOf Z kB "column" "[I" := (slot_ne (Or.inl (w_25 hw)) (Or.inl (w_23 hw)) (by decide) (t := (.array .double)) (t' := (.array .int)) (by decide) (by decide))
theorem n_25_32 {Z : State} {a0 : Array Value} (hw : HW a0 Z) : Jvm.RoadKit.slotOf Z kB "value" "[D" ≠ Jvm.RoadKit.slotOf Z kB "heldCount" "I" := (slot_ne (Or.inl (w_25 hw)) (Or.inl (w_32 hw)) (by decide) (t := (.array .double)) (t' := .int) (by decide) (by decide))
theorem n_25_39 {Z : State} {a0 : Array Value} (hw : HW a0 Z) : Jvm.RoadKit.slotOf Z kB "value" "[D" ≠ Jvm.RoadKit.slotOf Z kB "entries" "I" := (slot_ne (Or.inl (w_25 hw)) (Or.inl (w_39 hw)) (by decide) (t := (.array .double)) (t' := .int) (by decide) (by decide))
theorem n_25_58 {Z : State} {a0 : Array Value} (hw : HW a0 Z) : Jvm.RoadKit.slotOf Z kB "value" "[D" ≠ Jvm.RoadKit.slotOf Z kB "rows" "I" := (slot_ne (Or.inl (w_25 hw)) (Or.inl (w_58 hw)) (by decide) (t := (.array .double)) (t' := .int) (by decide) (by decide))
theorem n_32_10 {Z : State} {a0 : Array Value} (hw : HW a0 Z) : Jvm.RoadKit.slotOf Z kB "heldCount" "I" ≠ Jvm.RoadKit.slotOf Z kB "size" "I" := (slot_ne (Or.inl (w_32 hw)) (Or.inr (w_10 hw)) (by decide) (t := .int) (t' := .int) (by decide) (by decide))
theorem n_32_13 {Z : State} {a0 : Array Value} (hw : HW a0 Z) : Jvm.RoadKit.slotOf Z kB "heldCount" "I" ≠ Jvm.RoadKit.slotOf Z kB "row" "[D" := (slot_ne (Or.inl (w_32 hw)) (Or.inr (w_13 hw)) (by decide) (t := .int) (t' := (.array .double)) (by decide) (by decide))
theorem n_32_16 {Z : State} {a0 : Array Value} (hw : HW a0 Z) : Jvm.RoadKit.slotOf Z kB "heldCount" "I" ≠ Jvm.RoadKit.slotOf Z kB "held" "[Z" := (slot_ne (Or.inl (w_32 hw)) (Or.inr (w_16 hw)) (by decide) (t := .int) (t' := (.array .boolean)) (by decide) (by decide))
theorem n_32_19 {Z : State} {a0 : Array Value} (hw : HW a0 Z) : Jvm.RoadKit.slotOf Z kB "heldCount" "I" ≠ Jvm.RoadKit.slotOf Z kB "heldColumns" "[I" := (slot_ne (Or.inl (w_32 hw)) (Or.inr (w_19 hw)) (by decide) (t := .int) (t' := (.array .int)) (by decide) (by decide))
theorem n_32_21 {Z : State} {a0 : Array Value} (hw : HW a0 Z) : Jvm.RoadKit.slotOf Z kB "heldCount" "I" ≠ Jvm.RoadKit.slotOf Z kB "rowStart" "[I" := (slot_ne (Or.inl (w_32 hw)) (Or.inr (w_21 hw)) (by decide) (t := .int) (t' := (.array .int)) (by decide) (by decide))
theorem n_32_23 {Z : State} {a0 : Array Value} (hw : HW a0 Z) : Jvm.RoadKit.slotOf Z kB "heldCount" "I" ≠ Jvm.RoadKit.slotOf Z kB "column" "[I" := (slot_ne (Or.inl (w_32 hw)) (Or.inl (w_23 hw)) (by decide) (t := .int) (t' := (.array .int)) (by decide) (by decide))
theorem n_32_25 {Z : State} {a0 : Array Value} (hw : HW a0 Z) : Jvm.RoadKit.slotOf Z kB "heldCount" "I" ≠ Jvm.RoadKit.slotOf Z kB "value" "[D" := (slot_ne (Or.inl (w_32 hw)) (Or.inl (w_25 hw)) (by decide) (t := .int) (t' := (.array .double)) (by decide) (by decide))
theorem n_32_39 {Z : State} {a0 : Array Value} (hw : HW a0 Z) : Jvm.RoadKit.slotOf Z kB "heldCount" "I" ≠ Jvm.RoadKit.slotOf Z kB "entries" "I" := (slot_ne (Or.inl (w_32 hw)) (Or.inl (w_39 hw)) (by decide) (t := .int) (t' := .int) (by decide) (by decide))
theorem n_32_58 {Z : State} {a0 : Array Value} (hw : HW a0 Z) : Jvm.RoadKit.slotOf Z kB "heldCount" "I" ≠ Jvm.RoadKit.slotOf Z kB "rows" "I" := (slot_ne (Or.inl (w_32 hw)) (Or.inl (w_58 hw)) (by decide) (t := .int) (t' := .int) (by decide) (by decide))
theorem n_39_10 {Z : State} {a0 : Array Value} (hw : HW a0 Z) : Jvm.RoadKit.slotOf Z kB "entries" "I" ≠ Jvm.RoadKit.slotOf Z kB "size" "I" := (slot_ne (Or.inl (w_39 hw)) (Or.inr (w_10 hw)) (by decide) (t := .int) (t' := .int) (by decide) (by decide))
theorem n_39_13 {Z : State} {a0 : Array Value} (hw : HW a0 Z) : Jvm.RoadKit.slotOf Z kB "entries" "I" ≠ Jvm.RoadKit.slotOf Z kB "row" "[D" := (slot_ne (Or.inl (w_39 hw)) (Or.inr (w_13 hw)) (by decide) (t := .int) (t' := (.array .double)) (by decide) (by decide))
theorem n_39_16 {Z : State} {a0 : Array Value} (hw : HW a0 Z) : Jvm.RoadKit.slotOf Z kB "entries" "I" ≠ Jvm.RoadKit.slotOf Z kB "held" "[Z" := (slot_ne (Or.inl (w_39 hw)) (Or.inr (w_16 hw)) (by decide) (t := .int) (t' := (.array .boolean)) (by decide) (by decide))
theorem n_39_19 {Z : State} {a0 : Array Value} (hw : HW a0 Z) : Jvm.RoadKit.slotOf Z kB "entries" "I" ≠ Jvm.RoadKit.slotOf Z kB "heldColumns" "[I" := (slot_ne (Or.inl (w_39 hw)) (Or.inr (w_19 hw)) (by decide) (t := .int) (t' := (.array .int)) (by decide) (by decide))
theorem n_39_21 {Z : State} {a0 : Array Value} (hw : HW a0 Z) : Jvm.RoadKit.slotOf Z kB "entries" "I" ≠ Jvm.RoadKit.slotOf Z kB "rowStart" "[I" := (slot_ne (Or.inl (w_39 hw)) (Or.inr (w_21 hw)) (by decide) (t := .int) (t' := (.array .int)) (by decide) (by decide))
theorem n_39_23 {Z : State} {a0 : Array Value} (hw : HW a0 Z) : Jvm.RoadKit.slotOf Z kB "entries" "I" ≠ Jvm.RoadKit.slotOf Z kB "column" "[I" := (slot_ne (Or.inl (w_39 hw)) (Or.inl (w_23 hw)) (by decide) (t := .int) (t' := (.array .int)) (by decide) (by decide))
theorem n_39_25 {Z : State} {a0 : Array Value} (hw : HW a0 Z) : Jvm.RoadKit.slotOf Z kB "entries" "I" ≠ Jvm.RoadKit.slotOf Z kB "value" "[D" := (slot_ne (Or.inl (w_39 hw)) (Or.inl (w_25 hw)) (by decide) (t := .int) (t' := (.array .double)) (by decide) (by decide))
theorem n_39_32 {Z : State} {a0 : Array Value} (hw : HW a0 Z) : Jvm.RoadKit.slotOf Z kB "entries" "I" ≠ Jvm.RoadKit.slotOf Z kB "heldCount" "I" := (slot_ne (Or.inl (w_39 hw)) (Or.inl (w_32 hw)) (by decide) (t := .int) (t' := .int) (by decide) (by decide))
theorem n_39_58 {Z : State} {a0 : Array Value} (hw : HW a0 Z) : Jvm.RoadKit.slotOf Z kB "entries" "I" ≠ Jvm.RoadKit.slotOf Z kB "rows" "I" := (slot_ne (Or.inl (w_39 hw)) (Or.inl (w_58 hw)) (by decide) (t := .int) (t' := .int) (by decide) (by decide))
theorem n_58_10 {Z : State} {a0 : Array Value} (hw : HW a0 Z) : Jvm.RoadKit.slotOf Z kB "rows" "I" ≠ Jvm.RoadKit.slotOf Z kB "size" "I" := (slot_ne (Or.inl (w_58 hw)) (Or.inr (w_10 hw)) (by decide) (t := .int) (t' := .int) (by decide) (by decide))
theorem n_58_13 {Z : State} {a0 : Array Value} (hw : HW a0 Z) : Jvm.RoadKit.slotOf Z kB "rows" "I" ≠ Jvm.RoadKit.slotOf Z kB "row" "[D" := (slot_ne (Or.inl (w_58 hw)) (Or.inr (w_13 hw)) (by decide) (t := .int) (t' := (.array .double)) (by decide) (by decide))
theorem n_58_16 {Z : State} {a0 : Array Value} (hw : HW a0 Z) : Jvm.RoadKit.slotOf Z kB "rows" "I" ≠ Jvm.RoadKit.slotOf Z kB "held" "[Z" := (slot_ne (Or.inl (w_58 hw)) (Or.inr (w_16 hw)) (by decide) (t := .int) (t' := (.array .boolean)) (by decide) (by decide))
theorem n_58_19 {Z : State} {a0 : Array Value} (hw : HW a0 Z) : Jvm.RoadKit.slotOf Z kB "rows" "I" ≠ Jvm.RoadKit.slotOf Z kB "heldColumns" "[I" := (slot_ne (Or.inl (w_58 hw)) (Or.inr (w_19 hw)) (by decide) (t := .int) (t' := (.array .int)) (by decide) (by decide))
theorem n_58_21 {Z : State} {a0 : Array Value} (hw : HW a0 Z) : Jvm.RoadKit.slotOf Z kB "rows" "I" ≠ Jvm.RoadKit.slotOf Z kB "rowStart" "[I" := (slot_ne (Or.inl (w_58 hw)) (Or.inr (w_21 hw)) (by decide) (t := .int) (t' := (.array .int)) (by decide) (by decide))
theorem n_58_23 {Z : State} {a0 : Array Value} (hw : HW a0 Z) : Jvm.RoadKit.slotOf Z kB "rows" "I" ≠ Jvm.RoadKit.slotOf Z kB "column" "[I" := (slot_ne (Or.inl (w_58 hw)) (Or.inl (w_23 hw)) (by decide) (t := .int) (t' := (.array .int)) (by decide) (by decide))
theorem n_58_25 {Z : State} {a0 : Array Value} (hw : HW a0 Z) : Jvm.RoadKit.slotOf Z kB "rows" "I" ≠ Jvm.RoadKit.slotOf Z kB "value" "[D" := (slot_ne (Or.inl (w_58 hw)) (Or.inl (w_25 hw)) (by decide) (t := .int) (t' := (.array .double)) (by decide) (by decide))
theorem n_58_32 {Z : State} {a0 : Array Value} (hw : HW a0 Z) : Jvm.RoadKit.slotOf Z kB "rows" "I" ≠ Jvm.RoadKit.slotOf Z kB "heldCount" "I" := (slot_ne (Or.inl (w_58 hw)) (Or.inl (w_32 hw)) (by decide) (t := .int) (t' := .int) (by decide) (by decide))
theorem n_58_39 {Z : State} {a0 : Array Value} (hw : HW a0 Z) : Jvm.RoadKit.slotOf Z kB "rows" "I" ≠ Jvm.RoadKit.slotOf Z kB "entries" "I" := (slot_ne (Or.inl (w_58 hw)) (Or.inl (w_39 hw)) (by decide) (t := .int) (t' := .int) (by decide) (by decide))
theorem n_86_88 {Z : State} {a0 : Array Value} (hw : HW a0 Z) : Jvm.RoadKit.slotOf Z kM "rowStart" "[I" ≠ Jvm.RoadKit.slotOf Z kM "column" "[I" := (slot_ne (Or.inr (w_86 hw)) (Or.inr (w_88 hw)) (by decide) (t := (.array .int)) (t' := (.array .int)) (by decide) (by decide))
theorem n_86_90 {Z : State} {a0 : Array Value} (hw : HW a0 Z) : Jvm.RoadKit.slotOf Z kM "rowStart" "[I" ≠ Jvm.RoadKit.slotOf Z kM "value" "[D" := (slot_ne (Or.inr (w_86 hw)) (Or.inr (w_90 hw)) (by decide) (t := (.array .int)) (t' := (.array .double)) (by decide) (by decide))
theorem n_88_86 {Z : State} {a0 : Array Value} (hw : HW a0 Z) : Jvm.RoadKit.slotOf Z kM "column" "[I" ≠ Jvm.RoadKit.slotOf Z kM "rowStart" "[I" := (slot_ne (Or.inr (w_88 hw)) (Or.inr (w_86 hw)) (by decide) (t := (.array .int)) (t' := (.array .int)) (by decide) (by decide))
theorem n_88_90 {Z : State} {a0 : Array Value} (hw : HW a0 Z) : Jvm.RoadKit.slotOf Z kM "column" "[I" ≠ Jvm.RoadKit.slotOf Z kM "value" "[D" := (slot_ne (Or.inr (w_88 hw)) (Or.inr (w_90 hw)) (by decide) (t := (.array .int)) (t' := (.array .double)) (by decide) (by decide))
theorem n_90_86 {Z : State} {a0 : Array Value} (hw : HW a0 Z) : Jvm.RoadKit.slotOf Z kM "value" "[D" ≠ Jvm.RoadKit.slotOf Z kM "rowStart" "[I" := (slot_ne (Or.inr (w_90 hw)) (Or.inr (w_86 hw)) (by decide) (t := (.array .double)) (t' := (.array .int)) (by decide) (by decide))
theorem n_90_88 {Z : State} {a0 : Array Value} (hw : HW a0 Z) : Jvm.RoadKit.slotOf Z kM "value" "[D" ≠ Jvm.RoadKit.slotOf Z kM "column" "[I" := (slot_ne (Or.inr (w_90 hw)) (Or.inr (w_88 hw)) (by decide) (t := (.array .double)) (t' := (.array .int)) (by decide) (by decide))
theorem pn_0 : plainName "com/example/rekurze/rekurze/numeric/BuilderAddPinLaw" = true := by first | (simp [plainName, overriddenIn]; done) | decide +kernel
theorem ef_0 (m : MethodId) (x0 : Int32) (x1 : Int32) (x2 : Int32) (x3 : Int32) (x4 : Int32) : entryFrame m #[(.int x0), (.int x1), (.int x2), (.int x3), (.int x4)] maxLocals = mkF m 0 #[.val (.int x0), .val (.int x1), .val (.int x2), .val (.int x3), .val (.int x4), .unset, .unset, .unset, .unset, .unset, .unset, .unset, .unset, .unset] [] := by first | (simp [entryFrame, mkF, argsToLocals, Value.category, maxLocals]; done) | rfl
abbrev c_1 : ByteArray := prog_58_method_1_code
theorem d1_0 : decode c_1 0 = .ok (.aload_n 0, 1) := by decide +kernel
theorem d1_1 : decode c_1 1 = .ok (.invokespecial 1, 3) := by decide +kernel
theorem d1_4 : decode c_1 4 = .ok (.aload_n 0, 1) := by decide +kernel
theorem d1_5 : decode c_1 5 = .ok (.iload_n 1, 1) := by decide +kernel
theorem d1_6 : decode c_1 6 = .ok (.putfield 7, 3) := by decide +kernel
theorem d1_9 : decode c_1 9 = .ok (.aload_n 0, 1) := by decide +kernel
theorem d1_10 : decode c_1 10 = .ok (.iload_n 1, 1) := by decide +kernel
theorem d1_11 : decode c_1 11 = .ok (.newarray .double, 2) := by decide +kernel
theorem d1_13 : decode c_1 13 = .ok (.putfield 13, 3) := by decide +kernel
theorem d1_16 : decode c_1 16 = .ok (.aload_n 0, 1) := by decide +kernel
theorem d1_17 : decode c_1 17 = .ok (.iload_n 1, 1) := by decide +kernel
theorem d1_18 : decode c_1 18 = .ok (.newarray .boolean, 2) := by decide +kernel
theorem d1_20 : decode c_1 20 = .ok (.putfield 17, 3) := by decide +kernel
theorem d1_23 : decode c_1 23 = .ok (.aload_n 0, 1) := by decide +kernel
theorem d1_24 : decode c_1 24 = .ok (.iload_n 1, 1) := by decide +kernel
theorem d1_25 : decode c_1 25 = .ok (.newarray .int, 2) := by decide +kernel
theorem d1_27 : decode c_1 27 = .ok (.putfield 21, 3) := by decide +kernel
theorem d1_30 : decode c_1 30 = .ok (.aload_n 0, 1) := by decide +kernel
theorem d1_31 : decode c_1 31 = .ok (.iload_n 1, 1) := by decide +kernel
theorem d1_32 : decode c_1 32 = .ok (.iconst 1, 1) := by decide +kernel
theorem d1_33 : decode c_1 33 = .ok (.iadd, 1) := by decide +kernel
theorem d1_34 : decode c_1 34 = .ok (.newarray .int, 2) := by decide +kernel
theorem d1_36 : decode c_1 36 = .ok (.putfield 25, 3) := by decide +kernel
theorem d1_39 : decode c_1 39 = .ok (.aload_n 0, 1) := by decide +kernel
theorem d1_40 : decode c_1 40 = .ok (.iload_n 1, 1) := by decide +kernel
theorem d1_41 : decode c_1 41 = .ok (.newarray .int, 2) := by decide +kernel
theorem d1_43 : decode c_1 43 = .ok (.putfield 28, 3) := by decide +kernel
theorem d1_46 : decode c_1 46 = .ok (.aload_n 0, 1) := by decide +kernel
theorem d1_47 : decode c_1 47 = .ok (.iload_n 1, 1) := by decide +kernel
theorem d1_48 : decode c_1 48 = .ok (.newarray .double, 2) := by decide +kernel
theorem d1_50 : decode c_1 50 = .ok (.putfield 31, 3) := by decide +kernel
theorem d1_53 : decode c_1 53 = .ok (.return_, 1) := by decide +kernel
theorem pn_1 : plainName "com/example/rekurze/rekurze/numeric/SparseMatrix$Builder" = true := by first | (simp [plainName, overriddenIn]; done) | decide +kernel
theorem ef_1 (m : MethodId) (x0 : Addr) (x1 : Int32) : entryFrame m #[(.ref x0), (.int x1)] 2 = mkF m 0 #[.val (.ref x0), .val (.int x1)] [] := by first | (simp [entryFrame, mkF, argsToLocals, Value.category]; done) | rfl
abbrev c_3 : ByteArray := prog_58_method_2_code
theorem d3_0 : decode c_3 0 = .ok (.aload_n 0, 1) := by decide +kernel
theorem d3_1 : decode c_3 1 = .ok (.getfield 17, 3) := by decide +kernel
theorem d3_4 : decode c_3 4 = .ok (.iload_n 1, 1) := by decide +kernel
theorem d3_5 : decode c_3 5 = .ok (.baload, 1) := by decide +kernel
theorem d3_6 : decode c_3 6 = .ok (.ifCond .ne 27, 3) := by decide +kernel
theorem d3_9 : decode c_3 9 = .ok (.aload_n 0, 1) := by decide +kernel
theorem d3_10 : decode c_3 10 = .ok (.getfield 17, 3) := by decide +kernel
theorem d3_13 : decode c_3 13 = .ok (.iload_n 1, 1) := by decide +kernel
theorem d3_14 : decode c_3 14 = .ok (.iconst 1, 1) := by decide +kernel
theorem d3_15 : decode c_3 15 = .ok (.bastore, 1) := by decide +kernel
theorem d3_16 : decode c_3 16 = .ok (.aload_n 0, 1) := by decide +kernel
theorem d3_17 : decode c_3 17 = .ok (.getfield 21, 3) := by decide +kernel
theorem d3_20 : decode c_3 20 = .ok (.aload_n 0, 1) := by decide +kernel
theorem d3_21 : decode c_3 21 = .ok (.dup, 1) := by decide +kernel
theorem d3_22 : decode c_3 22 = .ok (.getfield 34, 3) := by decide +kernel
theorem d3_25 : decode c_3 25 = .ok (.dup_x1, 1) := by decide +kernel
theorem d3_26 : decode c_3 26 = .ok (.iconst 1, 1) := by decide +kernel
theorem d3_27 : decode c_3 27 = .ok (.iadd, 1) := by decide +kernel
theorem d3_28 : decode c_3 28 = .ok (.putfield 34, 3) := by decide +kernel
theorem d3_31 : decode c_3 31 = .ok (.iload_n 1, 1) := by decide +kernel
theorem d3_32 : decode c_3 32 = .ok (.iastore, 1) := by decide +kernel
theorem d3_33 : decode c_3 33 = .ok (.aload_n 0, 1) := by decide +kernel
theorem d3_34 : decode c_3 34 = .ok (.getfield 13, 3) := by decide +kernel
theorem d3_37 : decode c_3 37 = .ok (.iload_n 1, 1) := by decide +kernel
theorem d3_38 : decode c_3 38 = .ok (.dup2, 1) := by decide +kernel
theorem d3_39 : decode c_3 39 = .ok (.daload, 1) := by decide +kernel
theorem d3_40 : decode c_3 40 = .ok (.dload_n 2, 1) := by decide +kernel
theorem d3_41 : decode c_3 41 = .ok (.dadd, 1) := by decide +kernel
theorem d3_42 : decode c_3 42 = .ok (.dastore, 1) := by decide +kernel
theorem d3_43 : decode c_3 43 = .ok (.return_, 1) := by decide +kernel
theorem pn_3 : plainName "com/example/rekurze/rekurze/numeric/SparseMatrix$Builder" = true := by first | (simp [plainName, overriddenIn]; done) | decide +kernel
theorem ef_3 (m : MethodId) (x0 : Addr) (x1 : Int32) (x2 : UInt64) : entryFrame m #[(.ref x0), (.int x1), (.double x2)] 4 = mkF m 0 #[.val (.ref x0), .val (.int x1), .val (.double x2), .second] [] := by first | (simp [entryFrame, mkF, argsToLocals, Value.category]; done) | rfl
abbrev c_4 : ByteArray := prog_58_method_3_code
theorem d4_0 : decode c_4 0 = .ok (.aload_n 0, 1) := by decide +kernel
theorem d4_1 : decode c_4 1 = .ok (.getfield 37, 3) := by decide +kernel
theorem d4_4 : decode c_4 4 = .ok (.aload_n 0, 1) := by decide +kernel
theorem d4_5 : decode c_4 5 = .ok (.getfield 34, 3) := by decide +kernel
theorem d4_8 : decode c_4 8 = .ok (.iadd, 1) := by decide +kernel
theorem d4_9 : decode c_4 9 = .ok (.aload_n 0, 1) := by decide +kernel
theorem d4_10 : decode c_4 10 = .ok (.getfield 28, 3) := by decide +kernel
theorem d4_13 : decode c_4 13 = .ok (.arraylength, 1) := by decide +kernel
theorem d4_14 : decode c_4 14 = .ok (.if_icmp .le 47, 3) := by decide +kernel
theorem d4_17 : decode c_4 17 = .ok (.iconst 2, 1) := by decide +kernel
theorem d4_18 : decode c_4 18 = .ok (.aload_n 0, 1) := by decide +kernel
theorem d4_19 : decode c_4 19 = .ok (.getfield 28, 3) := by decide +kernel
theorem d4_22 : decode c_4 22 = .ok (.arraylength, 1) := by decide +kernel
theorem d4_23 : decode c_4 23 = .ok (.imul, 1) := by decide +kernel
theorem d4_24 : decode c_4 24 = .ok (.aload_n 0, 1) := by decide +kernel
theorem d4_25 : decode c_4 25 = .ok (.getfield 37, 3) := by decide +kernel
theorem d4_28 : decode c_4 28 = .ok (.aload_n 0, 1) := by decide +kernel
theorem d4_29 : decode c_4 29 = .ok (.getfield 34, 3) := by decide +kernel
theorem d4_32 : decode c_4 32 = .ok (.iadd, 1) := by decide +kernel
theorem d4_33 : decode c_4 33 = .ok (.invokestatic 40, 3) := by decide +kernel
theorem d4_36 : decode c_4 36 = .ok (.istore_n 1, 1) := by decide +kernel
theorem d4_37 : decode c_4 37 = .ok (.aload_n 0, 1) := by decide +kernel
theorem d4_38 : decode c_4 38 = .ok (.aload_n 0, 1) := by decide +kernel
theorem d4_39 : decode c_4 39 = .ok (.getfield 28, 3) := by decide +kernel
theorem d4_42 : decode c_4 42 = .ok (.iload_n 1, 1) := by decide +kernel
theorem d4_43 : decode c_4 43 = .ok (.invokestatic 46, 3) := by decide +kernel
theorem d4_46 : decode c_4 46 = .ok (.putfield 28, 3) := by decide +kernel
theorem d4_49 : decode c_4 49 = .ok (.aload_n 0, 1) := by decide +kernel
theorem d4_50 : decode c_4 50 = .ok (.aload_n 0, 1) := by decide +kernel
theorem d4_51 : decode c_4 51 = .ok (.getfield 31, 3) := by decide +kernel
theorem d4_54 : decode c_4 54 = .ok (.iload_n 1, 1) := by decide +kernel
theorem d4_55 : decode c_4 55 = .ok (.invokestatic 52, 3) := by decide +kernel
theorem d4_58 : decode c_4 58 = .ok (.putfield 31, 3) := by decide +kernel
theorem d4_61 : decode c_4 61 = .ok (.aload_n 0, 1) := by decide +kernel
theorem d4_62 : decode c_4 62 = .ok (.getfield 21, 3) := by decide +kernel
theorem d4_65 : decode c_4 65 = .ok (.iconst 0, 1) := by decide +kernel
theorem d4_66 : decode c_4 66 = .ok (.aload_n 0, 1) := by decide +kernel
theorem d4_67 : decode c_4 67 = .ok (.getfield 34, 3) := by decide +kernel
theorem d4_70 : decode c_4 70 = .ok (.invokestatic 55, 3) := by decide +kernel
theorem d4_73 : decode c_4 73 = .ok (.iconst 0, 1) := by decide +kernel
theorem d4_74 : decode c_4 74 = .ok (.istore_n 1, 1) := by decide +kernel
theorem d4_75 : decode c_4 75 = .ok (.iload_n 1, 1) := by decide +kernel
theorem d4_76 : decode c_4 76 = .ok (.aload_n 0, 1) := by decide +kernel
theorem d4_77 : decode c_4 77 = .ok (.getfield 34, 3) := by decide +kernel
theorem d4_80 : decode c_4 80 = .ok (.if_icmp .ge 65, 3) := by decide +kernel
theorem d4_83 : decode c_4 83 = .ok (.aload_n 0, 1) := by decide +kernel
theorem d4_84 : decode c_4 84 = .ok (.getfield 21, 3) := by decide +kernel
theorem d4_87 : decode c_4 87 = .ok (.iload_n 1, 1) := by decide +kernel
theorem d4_88 : decode c_4 88 = .ok (.iaload, 1) := by decide +kernel
theorem d4_89 : decode c_4 89 = .ok (.istore_n 2, 1) := by decide +kernel
theorem d4_90 : decode c_4 90 = .ok (.aload_n 0, 1) := by decide +kernel
theorem d4_91 : decode c_4 91 = .ok (.getfield 28, 3) := by decide +kernel
theorem d4_94 : decode c_4 94 = .ok (.aload_n 0, 1) := by decide +kernel
theorem d4_95 : decode c_4 95 = .ok (.getfield 37, 3) := by decide +kernel
theorem d4_98 : decode c_4 98 = .ok (.iload_n 2, 1) := by decide +kernel
theorem d4_99 : decode c_4 99 = .ok (.iastore, 1) := by decide +kernel
theorem d4_100 : decode c_4 100 = .ok (.aload_n 0, 1) := by decide +kernel
theorem d4_101 : decode c_4 101 = .ok (.getfield 31, 3) := by decide +kernel
theorem d4_104 : decode c_4 104 = .ok (.aload_n 0, 1) := by decide +kernel
theorem d4_105 : decode c_4 105 = .ok (.getfield 37, 3) := by decide +kernel
theorem d4_108 : decode c_4 108 = .ok (.aload_n 0, 1) := by decide +kernel
theorem d4_109 : decode c_4 109 = .ok (.getfield 13, 3) := by decide +kernel
theorem d4_112 : decode c_4 112 = .ok (.iload_n 2, 1) := by decide +kernel
theorem d4_113 : decode c_4 113 = .ok (.daload, 1) := by decide +kernel
theorem d4_114 : decode c_4 114 = .ok (.dastore, 1) := by decide +kernel
theorem d4_115 : decode c_4 115 = .ok (.aload_n 0, 1) := by decide +kernel
theorem d4_116 : decode c_4 116 = .ok (.dup, 1) := by decide +kernel
theorem d4_117 : decode c_4 117 = .ok (.getfield 37, 3) := by decide +kernel
theorem d4_120 : decode c_4 120 = .ok (.iconst 1, 1) := by decide +kernel
theorem d4_121 : decode c_4 121 = .ok (.iadd, 1) := by decide +kernel
theorem d4_122 : decode c_4 122 = .ok (.putfield 37, 3) := by decide +kernel
theorem d4_125 : decode c_4 125 = .ok (.aload_n 0, 1) := by decide +kernel
theorem d4_126 : decode c_4 126 = .ok (.getfield 13, 3) := by decide +kernel
theorem d4_129 : decode c_4 129 = .ok (.iload_n 2, 1) := by decide +kernel
theorem d4_130 : decode c_4 130 = .ok (.dconst 0, 1) := by decide +kernel
theorem d4_131 : decode c_4 131 = .ok (.dastore, 1) := by decide +kernel
theorem d4_132 : decode c_4 132 = .ok (.aload_n 0, 1) := by decide +kernel
theorem d4_133 : decode c_4 133 = .ok (.getfield 17, 3) := by decide +kernel
theorem d4_136 : decode c_4 136 = .ok (.iload_n 2, 1) := by decide +kernel
theorem d4_137 : decode c_4 137 = .ok (.iconst 0, 1) := by decide +kernel
theorem d4_138 : decode c_4 138 = .ok (.bastore, 1) := by decide +kernel
theorem d4_139 : decode c_4 139 = .ok (.iinc 1 1, 3) := by decide +kernel
theorem d4_142 : decode c_4 142 = .ok (.goto (-67), 3) := by decide +kernel
theorem d4_145 : decode c_4 145 = .ok (.aload_n 0, 1) := by decide +kernel
theorem d4_146 : decode c_4 146 = .ok (.iconst 0, 1) := by decide +kernel
theorem d4_147 : decode c_4 147 = .ok (.putfield 34, 3) := by decide +kernel
theorem d4_150 : decode c_4 150 = .ok (.aload_n 0, 1) := by decide +kernel
theorem d4_151 : decode c_4 151 = .ok (.dup, 1) := by decide +kernel
theorem d4_152 : decode c_4 152 = .ok (.getfield 59, 3) := by decide +kernel
theorem d4_155 : decode c_4 155 = .ok (.iconst 1, 1) := by decide +kernel
theorem d4_156 : decode c_4 156 = .ok (.iadd, 1) := by decide +kernel
theorem d4_157 : decode c_4 157 = .ok (.putfield 59, 3) := by decide +kernel
theorem d4_160 : decode c_4 160 = .ok (.aload_n 0, 1) := by decide +kernel
theorem d4_161 : decode c_4 161 = .ok (.getfield 25, 3) := by decide +kernel
theorem d4_164 : decode c_4 164 = .ok (.aload_n 0, 1) := by decide +kernel
theorem d4_165 : decode c_4 165 = .ok (.getfield 59, 3) := by decide +kernel
theorem d4_168 : decode c_4 168 = .ok (.aload_n 0, 1) := by decide +kernel
theorem d4_169 : decode c_4 169 = .ok (.getfield 37, 3) := by decide +kernel
theorem d4_172 : decode c_4 172 = .ok (.iastore, 1) := by decide +kernel
theorem d4_173 : decode c_4 173 = .ok (.return_, 1) := by decide +kernel
theorem pn_4 : plainName "com/example/rekurze/rekurze/numeric/SparseMatrix$Builder" = true := by first | (simp [plainName, overriddenIn]; done) | decide +kernel
theorem ef_4 (m : MethodId) (x0 : Addr) : entryFrame m #[(.ref x0)] 3 = mkF m 0 #[.val (.ref x0), .unset, .unset] [] := by first | (simp [entryFrame, mkF, argsToLocals, Value.category]; done) | rfl
abbrev c_5 : ByteArray := jdk_65_method_3_code
theorem d5_0 : decode c_5 0 = .ok (.aload_n 0, 1) := by decide +kernel
theorem d5_1 : decode c_5 1 = .ok (.arraylength, 1) := by decide +kernel
theorem d5_2 : decode c_5 2 = .ok (.iload_n 1, 1) := by decide +kernel
theorem d5_3 : decode c_5 3 = .ok (.iload_n 2, 1) := by decide +kernel
theorem d5_4 : decode c_5 4 = .ok (.invokestatic 13, 3) := by decide +kernel
theorem d5_7 : decode c_5 7 = .ok (.aload_n 0, 1) := by decide +kernel
theorem d5_8 : decode c_5 8 = .ok (.iconst 0, 1) := by decide +kernel
theorem d5_9 : decode c_5 9 = .ok (.iload_n 1, 1) := by decide +kernel
theorem d5_10 : decode c_5 10 = .ok (.iload_n 2, 1) := by decide +kernel
theorem d5_11 : decode c_5 11 = .ok (.invokestatic 7, 3) := by decide +kernel
theorem d5_14 : decode c_5 14 = .ok (.return_, 1) := by decide +kernel
theorem pn_5 : plainName "java/util/Arrays" = true := by first | (simp [plainName, overriddenIn]; done) | decide +kernel
theorem ef_5 (m : MethodId) (x0 : Addr) (x1 : Int32) (x2 : Int32) : entryFrame m #[(.ref x0), (.int x1), (.int x2)] 3 = mkF m 0 #[.val (.ref x0), .val (.int x1), .val (.int x2)] [] := by first | (simp [entryFrame, mkF, argsToLocals, Value.category]; done) | rfl
abbrev c_6 : ByteArray := jdk_65_method_30_code
theorem d6_0 : decode c_6 0 = .ok (.iload_n 1, 1) := by decide +kernel
theorem d6_1 : decode c_6 1 = .ok (.iload_n 2, 1) := by decide +kernel
theorem d6_2 : decode c_6 2 = .ok (.if_icmp .le 44, 3) := by decide +kernel
theorem d6_46 : decode c_6 46 = .ok (.iload_n 1, 1) := by decide +kernel
theorem d6_47 : decode c_6 47 = .ok (.ifCond .ge 12, 3) := by decide +kernel
theorem d6_59 : decode c_6 59 = .ok (.iload_n 2, 1) := by decide +kernel
theorem d6_60 : decode c_6 60 = .ok (.iload_n 0, 1) := by decide +kernel
theorem d6_61 : decode c_6 61 = .ok (.if_icmp .le 12, 3) := by decide +kernel
theorem d6_73 : decode c_6 73 = .ok (.return_, 1) := by decide +kernel
theorem pn_6 : plainName "java/util/Arrays" = true := by first | (simp [plainName, overriddenIn]; done) | decide +kernel
theorem ef_6 (m : MethodId) (x0 : Int32) (x1 : Int32) (x2 : Int32) : entryFrame m #[(.int x0), (.int x1), (.int x2)] 3 = mkF m 0 #[.val (.int x0), .val (.int x1), .val (.int x2)] [] := by first | (simp [entryFrame, mkF, argsToLocals, Value.category]; done) | rfl
abbrev c_7 : ByteArray := jdk_2529_method_3_code
theorem d7_0 : decode c_7 0 = .ok (.iload_n 3, 1) := by decide +kernel
theorem d7_1 : decode c_7 1 = .ok (.iload_n 2, 1) := by decide +kernel
theorem d7_2 : decode c_7 2 = .ok (.isub, 1) := by decide +kernel
theorem d7_3 : decode c_7 3 = .ok (.istore 4, 2) := by decide +kernel
theorem d7_5 : decode c_7 5 = .ok (.iload_n 1, 1) := by decide +kernel
theorem d7_6 : decode c_7 6 = .ok (.iconst 1, 1) := by decide +kernel
theorem d7_7 : decode c_7 7 = .ok (.if_icmp .le 61, 3) := by decide +kernel
theorem d7_68 : decode c_7 68 = .ok (.aconst_null, 1) := by decide +kernel
theorem d7_69 : decode c_7 69 = .ok (.aload_n 0, 1) := by decide +kernel
theorem d7_70 : decode c_7 70 = .ok (.iconst 0, 1) := by decide +kernel
theorem d7_71 : decode c_7 71 = .ok (.iload_n 2, 1) := by decide +kernel
theorem d7_72 : decode c_7 72 = .ok (.iload_n 3, 1) := by decide +kernel
theorem d7_73 : decode c_7 73 = .ok (.invokestatic 26, 3) := by decide +kernel
theorem d7_76 : decode c_7 76 = .ok (.return_, 1) := by decide +kernel
theorem pn_7 : plainName "java/util/DualPivotQuicksort" = true := by first | (simp [plainName, overriddenIn]; done) | decide +kernel
theorem ef_7 (m : MethodId) (x0 : Addr) (x1 : Int32) (x2 : Int32) (x3 : Int32) : entryFrame m #[(.ref x0), (.int x1), (.int x2), (.int x3)] 7 = mkF m 0 #[.val (.ref x0), .val (.int x1), .val (.int x2), .val (.int x3), .unset, .unset, .unset] [] := by first | (simp [entryFrame, mkF, argsToLocals, Value.category]; done) | rfl
abbrev c_8 : ByteArray := jdk_2529_method_4_code
theorem d8_0 : decode c_8 0 = .ok (.iload 4, 2) := by decide +kernel
theorem d8_2 : decode c_8 2 = .ok (.iconst 1, 1) := by decide +kernel
theorem d8_3 : decode c_8 3 = .ok (.isub, 1) := by decide +kernel
theorem d8_4 : decode c_8 4 = .ok (.istore 5, 2) := by decide +kernel
theorem d8_6 : decode c_8 6 = .ok (.iload 4, 2) := by decide +kernel
theorem d8_8 : decode c_8 8 = .ok (.iload_n 3, 1) := by decide +kernel
theorem d8_9 : decode c_8 9 = .ok (.isub, 1) := by decide +kernel
theorem d8_10 : decode c_8 10 = .ok (.istore 6, 2) := by decide +kernel
theorem d8_12 : decode c_8 12 = .ok (.iload 6, 2) := by decide +kernel
theorem d8_14 : decode c_8 14 = .ok (.bipush 65, 2) := by decide +kernel
theorem d8_16 : decode c_8 16 = .ok (.iload_n 2, 1) := by decide +kernel
theorem d8_17 : decode c_8 17 = .ok (.iadd, 1) := by decide +kernel
theorem d8_18 : decode c_8 18 = .ok (.if_icmp .ge 28, 3) := by decide +kernel
theorem d8_21 : decode c_8 21 = .ok (.iload_n 2, 1) := by decide +kernel
theorem d8_22 : decode c_8 22 = .ok (.iconst 1, 1) := by decide +kernel
theorem d8_23 : decode c_8 23 = .ok (.iand, 1) := by decide +kernel
theorem d8_24 : decode c_8 24 = .ok (.ifCond .le 22, 3) := by decide +kernel
theorem d8_46 : decode c_8 46 = .ok (.iload 6, 2) := by decide +kernel
theorem d8_48 : decode c_8 48 = .ok (.bipush 44, 2) := by decide +kernel
theorem d8_50 : decode c_8 50 = .ok (.if_icmp .ge 11, 3) := by decide +kernel
theorem d8_53 : decode c_8 53 = .ok (.aload_n 1, 1) := by decide +kernel
theorem d8_54 : decode c_8 54 = .ok (.iload_n 3, 1) := by decide +kernel
theorem d8_55 : decode c_8 55 = .ok (.iload 4, 2) := by decide +kernel
theorem d8_57 : decode c_8 57 = .ok (.invokestatic 34, 3) := by decide +kernel
theorem d8_60 : decode c_8 60 = .ok (.return_, 1) := by decide +kernel
theorem pn_8 : plainName "java/util/DualPivotQuicksort" = true := by first | (simp [plainName, overriddenIn]; done) | decide +kernel
theorem ef_8 (m : MethodId) (x1 : Addr) (x2 : Int32) (x3 : Int32) (x4 : Int32) : entryFrame m #[.null, (.ref x1), (.int x2), (.int x3), (.int x4)] 21 = mkF m 0 #[.val .null, .val (.ref x1), .val (.int x2), .val (.int x3), .val (.int x4), .unset, .unset, .unset, .unset, .unset, .unset, .unset, .unset, .unset, .unset, .unset, .unset, .unset, .unset, .unset, .unset] [] := by first | (simp [entryFrame, mkF, argsToLocals, Value.category]; done) | rfl
abbrev c_9 : ByteArray := jdk_2529_method_6_code
theorem d9_0 : decode c_9 0 = .ok (.iload_n 1, 1) := by decide +kernel
theorem d9_1 : decode c_9 1 = .ok (.istore 4, 2) := by decide +kernel
theorem d9_3 : decode c_9 3 = .ok (.iinc 4 1, 3) := by decide +kernel
theorem d9_6 : decode c_9 6 = .ok (.iload 4, 2) := by decide +kernel
theorem d9_8 : decode c_9 8 = .ok (.iload_n 2, 1) := by decide +kernel
theorem d9_9 : decode c_9 9 = .ok (.if_icmp .ge 58, 3) := by decide +kernel
theorem d9_12 : decode c_9 12 = .ok (.aload_n 0, 1) := by decide +kernel
theorem d9_13 : decode c_9 13 = .ok (.iload 4, 2) := by decide +kernel
theorem d9_15 : decode c_9 15 = .ok (.dup, 1) := by decide +kernel
theorem d9_16 : decode c_9 16 = .ok (.istore_n 3, 1) := by decide +kernel
theorem d9_17 : decode c_9 17 = .ok (.iaload, 1) := by decide +kernel
theorem d9_18 : decode c_9 18 = .ok (.istore 5, 2) := by decide +kernel
theorem d9_20 : decode c_9 20 = .ok (.iload 5, 2) := by decide +kernel
theorem d9_22 : decode c_9 22 = .ok (.aload_n 0, 1) := by decide +kernel
theorem d9_23 : decode c_9 23 = .ok (.iload_n 3, 1) := by decide +kernel
theorem d9_24 : decode c_9 24 = .ok (.iconst 1, 1) := by decide +kernel
theorem d9_25 : decode c_9 25 = .ok (.isub, 1) := by decide +kernel
theorem d9_26 : decode c_9 26 = .ok (.iaload, 1) := by decide +kernel
theorem d9_27 : decode c_9 27 = .ok (.if_icmp .ge 37, 3) := by decide +kernel
theorem d9_30 : decode c_9 30 = .ok (.iinc 3 (-1), 3) := by decide +kernel
theorem d9_33 : decode c_9 33 = .ok (.iload_n 3, 1) := by decide +kernel
theorem d9_34 : decode c_9 34 = .ok (.iload_n 1, 1) := by decide +kernel
theorem d9_35 : decode c_9 35 = .ok (.if_icmp .lt 22, 3) := by decide +kernel
theorem d9_38 : decode c_9 38 = .ok (.iload 5, 2) := by decide +kernel
theorem d9_40 : decode c_9 40 = .ok (.aload_n 0, 1) := by decide +kernel
theorem d9_41 : decode c_9 41 = .ok (.iload_n 3, 1) := by decide +kernel
theorem d9_42 : decode c_9 42 = .ok (.iaload, 1) := by decide +kernel
theorem d9_43 : decode c_9 43 = .ok (.if_icmp .ge 14, 3) := by decide +kernel
theorem d9_46 : decode c_9 46 = .ok (.aload_n 0, 1) := by decide +kernel
theorem d9_47 : decode c_9 47 = .ok (.iload_n 3, 1) := by decide +kernel
theorem d9_48 : decode c_9 48 = .ok (.iconst 1, 1) := by decide +kernel
theorem d9_49 : decode c_9 49 = .ok (.iadd, 1) := by decide +kernel
theorem d9_50 : decode c_9 50 = .ok (.aload_n 0, 1) := by decide +kernel
theorem d9_51 : decode c_9 51 = .ok (.iload_n 3, 1) := by decide +kernel
theorem d9_52 : decode c_9 52 = .ok (.iaload, 1) := by decide +kernel
theorem d9_53 : decode c_9 53 = .ok (.iastore, 1) := by decide +kernel
theorem d9_54 : decode c_9 54 = .ok (.goto (-24), 3) := by decide +kernel
theorem d9_57 : decode c_9 57 = .ok (.aload_n 0, 1) := by decide +kernel
theorem d9_58 : decode c_9 58 = .ok (.iload_n 3, 1) := by decide +kernel
theorem d9_59 : decode c_9 59 = .ok (.iconst 1, 1) := by decide +kernel
theorem d9_60 : decode c_9 60 = .ok (.iadd, 1) := by decide +kernel
theorem d9_61 : decode c_9 61 = .ok (.iload 5, 2) := by decide +kernel
theorem d9_63 : decode c_9 63 = .ok (.iastore, 1) := by decide +kernel
theorem d9_64 : decode c_9 64 = .ok (.goto (-61), 3) := by decide +kernel
theorem d9_67 : decode c_9 67 = .ok (.return_, 1) := by decide +kernel
theorem pn_9 : plainName "java/util/DualPivotQuicksort" = true := by first | (simp [plainName, overriddenIn]; done) | decide +kernel
theorem ef_9 (m : MethodId) (x0 : Addr) (x1 : Int32) (x2 : Int32) : entryFrame m #[(.ref x0), (.int x1), (.int x2)] 6 = mkF m 0 #[.val (.ref x0), .val (.int x1), .val (.int x2), .unset, .unset, .unset] [] := by first | (simp [entryFrame, mkF, argsToLocals, Value.category]; done) | rfl
abbrev c_10 : ByteArray := prog_58_method_4_code
theorem d10_0 : decode c_10 0 = .ok (.aload_n 0, 1) := by decide +kernel
theorem d10_1 : decode c_10 1 = .ok (.getfield 59, 3) := by decide +kernel
theorem d10_4 : decode c_10 4 = .ok (.aload_n 0, 1) := by decide +kernel
theorem d10_5 : decode c_10 5 = .ok (.getfield 7, 3) := by decide +kernel
theorem d10_8 : decode c_10 8 = .ok (.if_icmp .eq 24, 3) := by decide +kernel
theorem d10_32 : decode c_10 32 = .ok (.new 71, 3) := by decide +kernel
theorem d10_35 : decode c_10 35 = .ok (.dup, 1) := by decide +kernel
theorem d10_36 : decode c_10 36 = .ok (.aload_n 0, 1) := by decide +kernel
theorem d10_37 : decode c_10 37 = .ok (.getfield 25, 3) := by decide +kernel
theorem d10_40 : decode c_10 40 = .ok (.aload_n 0, 1) := by decide +kernel
theorem d10_41 : decode c_10 41 = .ok (.getfield 28, 3) := by decide +kernel
theorem d10_44 : decode c_10 44 = .ok (.aload_n 0, 1) := by decide +kernel
theorem d10_45 : decode c_10 45 = .ok (.getfield 37, 3) := by decide +kernel
theorem d10_48 : decode c_10 48 = .ok (.invokestatic 46, 3) := by decide +kernel
theorem d10_51 : decode c_10 51 = .ok (.aload_n 0, 1) := by decide +kernel
theorem d10_52 : decode c_10 52 = .ok (.getfield 31, 3) := by decide +kernel
theorem d10_55 : decode c_10 55 = .ok (.aload_n 0, 1) := by decide +kernel
theorem d10_56 : decode c_10 56 = .ok (.getfield 37, 3) := by decide +kernel
theorem d10_59 : decode c_10 59 = .ok (.invokestatic 52, 3) := by decide +kernel
theorem d10_62 : decode c_10 62 = .ok (.invokespecial 73, 3) := by decide +kernel
theorem d10_65 : decode c_10 65 = .ok (.areturn, 1) := by decide +kernel
theorem pn_10 : plainName "com/example/rekurze/rekurze/numeric/SparseMatrix$Builder" = true := by first | (simp [plainName, overriddenIn]; done) | decide +kernel
theorem ef_10 (m : MethodId) (x0 : Addr) : entryFrame m #[(.ref x0)] 1 = mkF m 0 #[.val (.ref x0)] [] := by first | (simp [entryFrame, mkF, argsToLocals, Value.category]; done) | rfl
abbrev c_11 : ByteArray := jdk_65_method_123_code
theorem d11_0 : decode c_11 0 = .ok (.iload_n 1, 1) := by decide +kernel
theorem d11_1 : decode c_11 1 = .ok (.aload_n 0, 1) := by decide +kernel
theorem d11_2 : decode c_11 2 = .ok (.arraylength, 1) := by decide +kernel
theorem d11_3 : decode c_11 3 = .ok (.if_icmp .ne 11, 3) := by decide +kernel
theorem d11_6 : decode c_11 6 = .ok (.aload_n 0, 1) := by decide +kernel
theorem d11_7 : decode c_11 7 = .ok (.invokevirtual 316, 3) := by decide +kernel
theorem d11_10 : decode c_11 10 = .ok (.checkcast 317, 3) := by decide +kernel
theorem d11_13 : decode c_11 13 = .ok (.areturn, 1) := by decide +kernel
theorem d11_14 : decode c_11 14 = .ok (.iload_n 1, 1) := by decide +kernel
theorem d11_15 : decode c_11 15 = .ok (.newarray .int, 2) := by decide +kernel
theorem d11_17 : decode c_11 17 = .ok (.astore_n 2, 1) := by decide +kernel
theorem d11_18 : decode c_11 18 = .ok (.aload_n 0, 1) := by decide +kernel
theorem d11_19 : decode c_11 19 = .ok (.iconst 0, 1) := by decide +kernel
theorem d11_20 : decode c_11 20 = .ok (.aload_n 2, 1) := by decide +kernel
theorem d11_21 : decode c_11 21 = .ok (.iconst 0, 1) := by decide +kernel
theorem d11_22 : decode c_11 22 = .ok (.aload_n 0, 1) := by decide +kernel
theorem d11_23 : decode c_11 23 = .ok (.arraylength, 1) := by decide +kernel
theorem d11_24 : decode c_11 24 = .ok (.iload_n 1, 1) := by decide +kernel
theorem d11_25 : decode c_11 25 = .ok (.invokestatic 304, 3) := by decide +kernel
theorem d11_28 : decode c_11 28 = .ok (.invokestatic 150, 3) := by decide +kernel
theorem d11_31 : decode c_11 31 = .ok (.aload_n 2, 1) := by decide +kernel
theorem d11_32 : decode c_11 32 = .ok (.areturn, 1) := by decide +kernel
theorem pn_11 : plainName "java/util/Arrays" = true := by first | (simp [plainName, overriddenIn]; done) | decide +kernel
theorem ef_11 (m : MethodId) (x0 : Addr) (x1 : Int32) : entryFrame m #[(.ref x0), (.int x1)] 3 = mkF m 0 #[.val (.ref x0), .val (.int x1), .unset] [] := by first | (simp [entryFrame, mkF, argsToLocals, Value.category]; done) | rfl
abbrev c_12 : ByteArray := jdk_29_method_69_code
theorem d12_0 : decode c_12 0 = .ok (.iload_n 0, 1) := by decide +kernel
theorem d12_1 : decode c_12 1 = .ok (.iload_n 1, 1) := by decide +kernel
theorem d12_2 : decode c_12 2 = .ok (.if_icmp .gt 7, 3) := by decide +kernel
theorem d12_5 : decode c_12 5 = .ok (.iload_n 0, 1) := by decide +kernel
theorem d12_6 : decode c_12 6 = .ok (.goto 4, 3) := by decide +kernel
theorem d12_9 : decode c_12 9 = .ok (.iload_n 1, 1) := by decide +kernel
theorem d12_10 : decode c_12 10 = .ok (.ireturn, 1) := by decide +kernel
theorem ef_12 (m : MethodId) (x0 : Int32) (x1 : Int32) : entryFrame m #[(.int x0), (.int x1)] 2 = mkF m 0 #[.val (.int x0), .val (.int x1)] [] := by first | (simp [entryFrame, mkF, argsToLocals, Value.category]; done) | rfl
abbrev c_13 : ByteArray := jdk_65_method_127_code
theorem d13_0 : decode c_13 0 = .ok (.iload_n 1, 1) := by decide +kernel
theorem d13_1 : decode c_13 1 = .ok (.aload_n 0, 1) := by decide +kernel
theorem d13_2 : decode c_13 2 = .ok (.arraylength, 1) := by decide +kernel
theorem d13_3 : decode c_13 3 = .ok (.if_icmp .ne 11, 3) := by decide +kernel
theorem d13_6 : decode c_13 6 = .ok (.aload_n 0, 1) := by decide +kernel
theorem d13_7 : decode c_13 7 = .ok (.invokevirtual 328, 3) := by decide +kernel
theorem d13_10 : decode c_13 10 = .ok (.checkcast 329, 3) := by decide +kernel
theorem d13_13 : decode c_13 13 = .ok (.areturn, 1) := by decide +kernel
theorem d13_14 : decode c_13 14 = .ok (.iload_n 1, 1) := by decide +kernel
theorem d13_15 : decode c_13 15 = .ok (.newarray .double, 2) := by decide +kernel
theorem d13_17 : decode c_13 17 = .ok (.astore_n 2, 1) := by decide +kernel
theorem d13_18 : decode c_13 18 = .ok (.aload_n 0, 1) := by decide +kernel
theorem d13_19 : decode c_13 19 = .ok (.iconst 0, 1) := by decide +kernel
theorem d13_20 : decode c_13 20 = .ok (.aload_n 2, 1) := by decide +kernel
theorem d13_21 : decode c_13 21 = .ok (.iconst 0, 1) := by decide +kernel
theorem d13_22 : decode c_13 22 = .ok (.aload_n 0, 1) := by decide +kernel
theorem d13_23 : decode c_13 23 = .ok (.arraylength, 1) := by decide +kernel
theorem d13_24 : decode c_13 24 = .ok (.iload_n 1, 1) := by decide +kernel
theorem d13_25 : decode c_13 25 = .ok (.invokestatic 304, 3) := by decide +kernel
theorem d13_28 : decode c_13 28 = .ok (.invokestatic 150, 3) := by decide +kernel
theorem d13_31 : decode c_13 31 = .ok (.aload_n 2, 1) := by decide +kernel
theorem d13_32 : decode c_13 32 = .ok (.areturn, 1) := by decide +kernel
theorem pn_13 : plainName "java/util/Arrays" = true := by first | (simp [plainName, overriddenIn]; done) | decide +kernel
theorem ef_13 (m : MethodId) (x0 : Addr) (x1 : Int32) : entryFrame m #[(.ref x0), (.int x1)] 3 = mkF m 0 #[.val (.ref x0), .val (.int x1), .unset] [] := by first | (simp [entryFrame, mkF, argsToLocals, Value.category]; done) | rfl
abbrev c_14 : ByteArray := prog_57_method_1_code
theorem d14_0 : decode c_14 0 = .ok (.aload_n 0, 1) := by decide +kernel
theorem d14_1 : decode c_14 1 = .ok (.invokespecial 1, 3) := by decide +kernel
theorem d14_4 : decode c_14 4 = .ok (.aload_n 0, 1) := by decide +kernel
theorem d14_5 : decode c_14 5 = .ok (.aload_n 1, 1) := by decide +kernel
theorem d14_6 : decode c_14 6 = .ok (.putfield 7, 3) := by decide +kernel
theorem d14_9 : decode c_14 9 = .ok (.aload_n 0, 1) := by decide +kernel
theorem d14_10 : decode c_14 10 = .ok (.aload_n 2, 1) := by decide +kernel
theorem d14_11 : decode c_14 11 = .ok (.putfield 13, 3) := by decide +kernel
theorem d14_14 : decode c_14 14 = .ok (.aload_n 0, 1) := by decide +kernel
theorem d14_15 : decode c_14 15 = .ok (.aload_n 3, 1) := by decide +kernel
theorem d14_16 : decode c_14 16 = .ok (.putfield 16, 3) := by decide +kernel
theorem d14_19 : decode c_14 19 = .ok (.return_, 1) := by decide +kernel
theorem pn_14 : plainName "com/example/rekurze/rekurze/numeric/SparseMatrix" = true := by first | (simp [plainName, overriddenIn]; done) | decide +kernel
theorem ef_14 (m : MethodId) (x0 : Addr) (x1 : Addr) (x2 : Addr) (x3 : Addr) : entryFrame m #[(.ref x0), (.ref x1), (.ref x2), (.ref x3)] 4 = mkF m 0 #[.val (.ref x0), .val (.ref x1), .val (.ref x2), .val (.ref x3)] [] := by first | (simp [entryFrame, mkF, argsToLocals, Value.category]; done) | rfl
abbrev c_15 : ByteArray := prog_57_method_6_code
theorem d15_0 : decode c_15 0 = .ok (.aload_n 0, 1) := by decide +kernel
theorem d15_1 : decode c_15 1 = .ok (.invokevirtual 20, 3) := by decide +kernel
theorem d15_4 : decode c_15 4 = .ok (.istore_n 1, 1) := by decide +kernel
theorem d15_5 : decode c_15 5 = .ok (.iload_n 1, 1) := by decide +kernel
theorem d15_6 : decode c_15 6 = .ok (.iload_n 1, 1) := by decide +kernel
theorem d15_7 : decode c_15 7 = .ok (.multianewarray 24 2, 4) := by decide +kernel
theorem d15_11 : decode c_15 11 = .ok (.astore_n 2, 1) := by decide +kernel
theorem d15_12 : decode c_15 12 = .ok (.iconst 0, 1) := by decide +kernel
theorem d15_13 : decode c_15 13 = .ok (.istore_n 3, 1) := by decide +kernel
theorem d15_14 : decode c_15 14 = .ok (.iload_n 3, 1) := by decide +kernel
theorem d15_15 : decode c_15 15 = .ok (.iload_n 1, 1) := by decide +kernel
theorem d15_16 : decode c_15 16 = .ok (.if_icmp .ge 54, 3) := by decide +kernel
theorem d15_19 : decode c_15 19 = .ok (.aload_n 0, 1) := by decide +kernel
theorem d15_20 : decode c_15 20 = .ok (.getfield 7, 3) := by decide +kernel
theorem d15_23 : decode c_15 23 = .ok (.iload_n 3, 1) := by decide +kernel
theorem d15_24 : decode c_15 24 = .ok (.iaload, 1) := by decide +kernel
theorem d15_25 : decode c_15 25 = .ok (.istore 4, 2) := by decide +kernel
theorem d15_27 : decode c_15 27 = .ok (.iload 4, 2) := by decide +kernel
theorem d15_29 : decode c_15 29 = .ok (.aload_n 0, 1) := by decide +kernel
theorem d15_30 : decode c_15 30 = .ok (.getfield 7, 3) := by decide +kernel
theorem d15_33 : decode c_15 33 = .ok (.iload_n 3, 1) := by decide +kernel
theorem d15_34 : decode c_15 34 = .ok (.iconst 1, 1) := by decide +kernel
theorem d15_35 : decode c_15 35 = .ok (.iadd, 1) := by decide +kernel
theorem d15_36 : decode c_15 36 = .ok (.iaload, 1) := by decide +kernel
theorem d15_37 : decode c_15 37 = .ok (.if_icmp .ge 27, 3) := by decide +kernel
theorem d15_40 : decode c_15 40 = .ok (.aload_n 2, 1) := by decide +kernel
theorem d15_41 : decode c_15 41 = .ok (.iload_n 3, 1) := by decide +kernel
theorem d15_42 : decode c_15 42 = .ok (.aaload, 1) := by decide +kernel
theorem d15_43 : decode c_15 43 = .ok (.aload_n 0, 1) := by decide +kernel
theorem d15_44 : decode c_15 44 = .ok (.getfield 13, 3) := by decide +kernel
theorem d15_47 : decode c_15 47 = .ok (.iload 4, 2) := by decide +kernel
theorem d15_49 : decode c_15 49 = .ok (.iaload, 1) := by decide +kernel
theorem d15_50 : decode c_15 50 = .ok (.aload_n 0, 1) := by decide +kernel
theorem d15_51 : decode c_15 51 = .ok (.getfield 16, 3) := by decide +kernel
theorem d15_54 : decode c_15 54 = .ok (.iload 4, 2) := by decide +kernel
theorem d15_56 : decode c_15 56 = .ok (.daload, 1) := by decide +kernel
theorem d15_57 : decode c_15 57 = .ok (.dastore, 1) := by decide +kernel
theorem d15_58 : decode c_15 58 = .ok (.iinc 4 1, 3) := by decide +kernel
theorem d15_61 : decode c_15 61 = .ok (.goto (-34), 3) := by decide +kernel
theorem d15_64 : decode c_15 64 = .ok (.iinc 3 1, 3) := by decide +kernel
theorem d15_67 : decode c_15 67 = .ok (.goto (-53), 3) := by decide +kernel
theorem d15_70 : decode c_15 70 = .ok (.aload_n 2, 1) := by decide +kernel
theorem d15_71 : decode c_15 71 = .ok (.areturn, 1) := by decide +kernel
theorem pn_15 : plainName "com/example/rekurze/rekurze/numeric/SparseMatrix" = true := by first | (simp [plainName, overriddenIn]; done) | decide +kernel
theorem ef_15 (m : MethodId) (x0 : Addr) : entryFrame m #[(.ref x0)] 5 = mkF m 0 #[.val (.ref x0), .unset, .unset, .unset, .unset] [] := by first | (simp [entryFrame, mkF, argsToLocals, Value.category]; done) | rfl
abbrev c_16 : ByteArray := prog_57_method_2_code
theorem d16_0 : decode c_16 0 = .ok (.aload_n 0, 1) := by decide +kernel
theorem d16_1 : decode c_16 1 = .ok (.getfield 7, 3) := by decide +kernel
theorem d16_4 : decode c_16 4 = .ok (.arraylength, 1) := by decide +kernel
theorem d16_5 : decode c_16 5 = .ok (.iconst 1, 1) := by decide +kernel
theorem d16_6 : decode c_16 6 = .ok (.isub, 1) := by decide +kernel
theorem d16_7 : decode c_16 7 = .ok (.ireturn, 1) := by decide +kernel
theorem pn_16 : plainName "com/example/rekurze/rekurze/numeric/SparseMatrix" = true := by first | (simp [plainName, overriddenIn]; done) | decide +kernel
theorem ef_16 (m : MethodId) (x0 : Addr) : entryFrame m #[(.ref x0)] 1 = mkF m 0 #[.val (.ref x0)] [] := by first | (simp [entryFrame, mkF, argsToLocals, Value.category]; done) | rfl
abbrev c_17 : ByteArray := prog_57_method_3_code
theorem d17_0 : decode c_17 0 = .ok (.aload_n 0, 1) := by decide +kernel
theorem d17_1 : decode c_17 1 = .ok (.getfield 7, 3) := by decide +kernel
theorem d17_4 : decode c_17 4 = .ok (.iload_n 1, 1) := by decide +kernel
theorem d17_5 : decode c_17 5 = .ok (.iaload, 1) := by decide +kernel
theorem d17_6 : decode c_17 6 = .ok (.ireturn, 1) := by decide +kernel
theorem pn_17 : plainName "com/example/rekurze/rekurze/numeric/SparseMatrix" = true := by first | (simp [plainName, overriddenIn]; done) | decide +kernel
theorem ef_17 (m : MethodId) (x0 : Addr) (x1 : Int32) : entryFrame m #[(.ref x0), (.int x1)] 2 = mkF m 0 #[.val (.ref x0), .val (.int x1)] [] := by first | (simp [entryFrame, mkF, argsToLocals, Value.category]; done) | rfl
abbrev c_18 : ByteArray := method_2_code
theorem d18_0 : decode c_18 0 = .ok (.iload_n 0, 1) := by decide +kernel
theorem d18_1 : decode c_18 1 = .ok (.iload_n 1, 1) := by decide +kernel
theorem d18_2 : decode c_18 2 = .ok (.if_icmp .ne 8, 3) := by decide +kernel
theorem d18_5 : decode c_18 5 = .ok (.iload_n 2, 1) := by decide +kernel
theorem d18_6 : decode c_18 6 = .ok (.i2l, 1) := by decide +kernel
theorem d18_7 : decode c_18 7 = .ok (.goto 4, 3) := by decide +kernel
theorem d18_10 : decode c_18 10 = .ok (.lconst 0, 1) := by decide +kernel
theorem d18_11 : decode c_18 11 = .ok (.lreturn, 1) := by decide +kernel
theorem pn_18 : plainName "com/example/rekurze/rekurze/numeric/BuilderAddPinLaw" = true := by first | (simp [plainName, overriddenIn]; done) | decide +kernel
theorem ef_18 (m : MethodId) (x0 : Int32) (x1 : Int32) (x2 : Int32) : entryFrame m #[(.int x0), (.int x1), (.int x2)] 3 = mkF m 0 #[.val (.int x0), .val (.int x1), .val (.int x2)] [] := by first | (simp [entryFrame, mkF, argsToLocals, Value.category]; done) | rfl
abbrev c_19 : ByteArray := method_3_code
theorem d19_0 : decode c_19 0 = .ok (.aload_n 0, 1) := by decide +kernel
theorem d19_1 : decode c_19 1 = .ok (.arraylength, 1) := by decide +kernel
theorem d19_2 : decode c_19 2 = .ok (.iconst 3, 1) := by decide +kernel
theorem d19_3 : decode c_19 3 = .ok (.if_icmp .ne 35, 3) := by decide +kernel
theorem d19_6 : decode c_19 6 = .ok (.aload_n 0, 1) := by decide +kernel
theorem d19_7 : decode c_19 7 = .ok (.iconst 0, 1) := by decide +kernel
theorem d19_8 : decode c_19 8 = .ok (.daload, 1) := by decide +kernel
theorem d19_9 : decode c_19 9 = .ok (.lload_n 1, 1) := by decide +kernel
theorem d19_10 : decode c_19 10 = .ok (.l2d, 1) := by decide +kernel
theorem d19_11 : decode c_19 11 = .ok (.dcmp .l, 1) := by decide +kernel
theorem d19_12 : decode c_19 12 = .ok (.ifCond .ne 26, 3) := by decide +kernel
theorem d19_15 : decode c_19 15 = .ok (.aload_n 0, 1) := by decide +kernel
theorem d19_16 : decode c_19 16 = .ok (.iconst 1, 1) := by decide +kernel
theorem d19_17 : decode c_19 17 = .ok (.daload, 1) := by decide +kernel
theorem d19_18 : decode c_19 18 = .ok (.lload_n 3, 1) := by decide +kernel
theorem d19_19 : decode c_19 19 = .ok (.l2d, 1) := by decide +kernel
theorem d19_20 : decode c_19 20 = .ok (.dcmp .l, 1) := by decide +kernel
theorem d19_21 : decode c_19 21 = .ok (.ifCond .ne 17, 3) := by decide +kernel
theorem d19_24 : decode c_19 24 = .ok (.aload_n 0, 1) := by decide +kernel
theorem d19_25 : decode c_19 25 = .ok (.iconst 2, 1) := by decide +kernel
theorem d19_26 : decode c_19 26 = .ok (.daload, 1) := by decide +kernel
theorem d19_27 : decode c_19 27 = .ok (.lload 5, 2) := by decide +kernel
theorem d19_29 : decode c_19 29 = .ok (.l2d, 1) := by decide +kernel
theorem d19_30 : decode c_19 30 = .ok (.dcmp .l, 1) := by decide +kernel
theorem d19_31 : decode c_19 31 = .ok (.ifCond .ne 7, 3) := by decide +kernel
theorem d19_34 : decode c_19 34 = .ok (.iconst 1, 1) := by decide +kernel
theorem d19_35 : decode c_19 35 = .ok (.goto 4, 3) := by decide +kernel
theorem d19_39 : decode c_19 39 = .ok (.ireturn, 1) := by decide +kernel
theorem pn_19 : plainName "com/example/rekurze/rekurze/numeric/BuilderAddPinLaw" = true := by first | (simp [plainName, overriddenIn]; done) | decide +kernel
theorem ef_19 (m : MethodId) (x0 : Addr) (x1 : Int64) (x2 : Int64) (x3 : Int64) : entryFrame m #[(.ref x0), (.long x1), (.long x2), (.long x3)] 7 = mkF m 0 #[.val (.ref x0), .val (.long x1), .second, .val (.long x2), .second, .val (.long x3), .second] [] := by first | (simp [entryFrame, mkF, argsToLocals, Value.category]; done) | rfl
abbrev c_20 : ByteArray := jdk_29_method_65_code
theorem d20_0 : decode c_20 0 = .ok (.iload_n 0, 1) := by decide +kernel
theorem d20_1 : decode c_20 1 = .ok (.iload_n 1, 1) := by decide +kernel
theorem d20_2 : decode c_20 2 = .ok (.if_icmp .lt 7, 3) := by decide +kernel
theorem d20_5 : decode c_20 5 = .ok (.iload_n 0, 1) := by decide +kernel
theorem d20_6 : decode c_20 6 = .ok (.goto 4, 3) := by decide +kernel
theorem d20_10 : decode c_20 10 = .ok (.ireturn, 1) := by decide +kernel
theorem ef_20 (m : MethodId) (x0 : Int32) (x1 : Int32) : entryFrame m #[(.int x0), (.int x1)] 2 = mkF m 0 #[.val (.int x0), .val (.int x1)] [] := by first | (simp [entryFrame, mkF, argsToLocals, Value.category]; done) | rfl
theorem pd_0 : parseMethodDescriptor "(I)V" = some ⟨[.int], none⟩ := by decide +kernel
theorem pd_1 : parseMethodDescriptor "(ID)V" = some ⟨[.int, .double], none⟩ := by decide +kernel
theorem pd_2 : parseMethodDescriptor "(III)V" = some ⟨[.int, .int, .int], none⟩ := by decide +kernel
theorem pd_3 : parseMethodDescriptor "([III)V" = some ⟨[(.array .int), .int, .int], none⟩ := by decide +kernel
theorem pd_4 : parseMethodDescriptor "(Ljava/util/DualPivotQuicksort$Sorter;[IIII)V" = some ⟨[(.object "java/util/DualPivotQuicksort$Sorter"), (.array .int), .int, .int, .int], none⟩ := by decide +kernel
theorem pd_5 : parseMethodDescriptor "([IIII)V" = some ⟨[(.array .int), .int, .int, .int], none⟩ := by decide +kernel
theorem pd_6 : parseMethodDescriptor "()V" = some ⟨[], none⟩ := by decide +kernel
theorem pd_7 : parseMethodDescriptor "(II)I" = some ⟨[.int, .int], some .int⟩ := by decide +kernel
theorem pd_8 : parseMethodDescriptor "([II)[I" = some ⟨[(.array .int), .int], some (.array .int)⟩ := by decide +kernel
theorem pd_9 : parseMethodDescriptor "([DI)[D" = some ⟨[(.array .double), .int], some (.array .double)⟩ := by decide +kernel
theorem pd_10 : parseMethodDescriptor "([I[I[D)V" = some ⟨[(.array .int), (.array .int), (.array .double)], none⟩ := by decide +kernel
theorem pd_11 : parseMethodDescriptor "()Lcom/example/rekurze/rekurze/numeric/SparseMatrix;" = some ⟨[], some (.object kM)⟩ := by decide +kernel
theorem pd_12 : parseMethodDescriptor "()I" = some ⟨[], some .int⟩ := by decide +kernel
theorem pd_13 : parseMethodDescriptor "()[[D" = some ⟨[], some (.array (.array .double))⟩ := by decide +kernel
theorem pd_14 : parseMethodDescriptor "(I)I" = some ⟨[.int], some .int⟩ := by decide +kernel
theorem pd_15 : parseMethodDescriptor "(III)J" = some ⟨[.int, .int, .int], some .long⟩ := by decide +kernel
theorem pd_16 : parseMethodDescriptor "([DJJJ)Z" = some ⟨[(.array .double), .long, .long, .long], some .boolean⟩ := by decide +kernel
def Q1_0 (Z : State) (t0 t1 t2 t3 : Int32) (o0 : Addr) (h0 : Heap) (n0 : Nat) (v : Option Value) (h : Heap) (L : List Loc) : Prop := ∃ (o1 o2 o3 o4 o5 o6 : Addr) (j0 j1 j2 j3 j4 j5 : ClassId), v = none ∧ Fr n0 L ∧ Keep h0 h [o0] ∧ h0.size ≤ o1 ∧ h0.size ≤ o2 ∧ h0.size ≤ o3 ∧ h0.size ≤ o4 ∧ h0.size ≤ o5 ∧ h0.size ≤ o6 ∧ o1 ≠ o2 ∧ o1 ≠ o3 ∧ o1 ≠ o4 ∧ o1 ≠ o5 ∧ o1 ≠ o6 ∧ o2 ≠ o3 ∧ o2 ≠ o4 ∧ o2 ≠ o5 ∧ o2 ≠ o6 ∧ o3 ≠ o4 ∧ o3 ≠ o5 ∧ o3 ≠ o6 ∧ o4 ≠ o5 ∧ o4 ≠ o6 ∧ o5 ≠ o6 ∧ AD3 Z h o1 j0 0 0 0 ∧ AZ3 Z h o2 j1 0 0 0 ∧ AI3 Z h o3 j2 0 0 0 ∧ AI4 Z h o4 j3 0 0 0 0 ∧ Exa Z h o5 "[I" ∧ AI3 Z h o5 j4 0 0 0 ∧ Exa Z h o6 "[D" ∧ AD3 Z h o6 j5 0 0 0 ∧ fB0 Z h o0 (.int 3) ∧ Exa Z h o0 kB ∧ fB1 Z h o0 (.ref o1) ∧ fB2 Z h o0 (.ref o2) ∧ fB3 Z h o0 (.ref o3) ∧ fB4 Z h o0 (.ref o4) ∧ fB5 Z h o0 (.ref o5) ∧ fB6 Z h o0 (.ref o6) ∧ fB7 Z h o0 (.int t1) ∧ fB8 Z h o0 (.int t2) ∧ fB9 Z h o0 (.int t3)
theorem rm1_0 (l : Launch) (Z : State) (a0 : Array Value) (hw : HW a0 Z) (ws : List Jvm.Cond) (t0 t1 t2 t3 : Int32) (o0 : Addr) (h0 : Heap) (n0 : Nat) (OO : Old Z n0 h0) (f0 : fB0 Z h0 o0 (.int t0)) (f1 : Exa Z h0 o0 kB) (u0 : n0 ≤ o0) (f2 : fB1 Z h0 o0 .null) (f3 : fB2 Z h0 o0 .null) (f4 : fB3 Z h0 o0 .null) (f5 : fB4 Z h0 o0 .null) (f6 : fB5 Z h0 o0 .null) (f7 : fB6 Z h0 o0 .null) (f8 : fB7 Z h0 o0 (.int t1)) (f9 : fB8 Z h0 o0 (.int t2)) (f10 : fB9 Z h0 o0 (.int t3)) :
    own_MF l Z h0 (⟨kB, "<init>", "(I)V"⟩ : MethodName) ws prog_58_method_1_code 2 none ({ frames := 1, cells := 6, slots := 19, locals := 12 } : Room) #[(.ref o0), (.int 3)] (Q1_0 Z t0 t1 t2 t3 o0 h0 n0) := by
  refine MetFree.of_bodySF (plainFor_of_name pn_1) hisR ?_
  intro p e s m args below meth c s₁ Bd hml0 hP hK
  obtain ⟨rfl, hZ, hh⟩ := hP
  have hx := Bd.exec
  have hby := Bd.bytes
  have hml : c.maxLocals = 2 := hml0
  have hown : s.vm.findClass kB = some m.cls := findClass_of_methodNamed Bd.named
  have hnm := (name_of_methodNamed Bd.named Bd.method).1
  have X0 : Stand p l e ({ frames := 1, cells := 6, slots := 19, locals := 12 } : Room) s m #[(.ref o0), (.int 3)] below meth c s₁ [] 0 0 := Stand.of_body Bd
  have e0 : s₁.heap = h0 := by rw [← hh, Bd.state]; rfl
  have N0 := Fr.nil n0
  obtain ⟨T1, X1, e1, st1⟩ := initO X0 hx hZ hown (w_6 hw) (w_7 hw) (w_8 hw) e0 (g := (mkF m 1 #[rv o0, iv 3] [(.ref o0)])) rfl (by rw [hml]; rfl) rfl (hb hby d1_1) (by decide) (W := 0) (by show 2 * 0 + _ ≤ _; exact Nat.le_of_eq rfl) (by decide)
  obtain ⟨T2, h2, X2, e2, W2, st2⟩ := putF X1 hx hZ hown (host := "") (Or.inl (w_9 hw)) Via.refl e1 f0 f1 (Or.inr ⟨(w_10 hw), rfl, hnm⟩) (w_1 hw) (ty := .int) (by decide) rfl rfl (g := (mkF m 6 #[rv o0, iv 3] [(.int 3), (.ref o0)])) rfl rfl (hb hby d1_6)
  have O2 := Old.wr OO W2 u0
  have KK2 := Keep.wr (Keep.refl h0 [o0]) W2 (Or.inl (own_m 0 rfl))
  have N2 := Fr.snoc X2 N0 u0
  have F3 : fB0 Z h2 o0 (.int 3) := Fld.same W2 f0
  obtain ⟨T4, h4, j0, X4, e4, E4, A4, B4, st4⟩ := newPE (aty := .double) X2 hx hZ (w_11 hw) e2 (g := (mkF m 11 #[rv o0, iv 3] [(.int 3), (.ref o0)])) rfl (hb hby d1_11) rfl (by decide) (cap := 3) (by decide) (by decide) (by decide) (by decide) (ad := "[D") (by decide +kernel)
  obtain ⟨o1, g4⟩ : ∃ z, z = h2.size := ⟨_, rfl⟩
  rw [← g4] at A4 B4 st4
  have g5 : n0 ≤ o1 := Nat.le_trans (own_le O2) (Nat.le_of_eq g4.symm)
  have s6 : h0.size ≤ o1 := Nat.le_trans (KK2).1 (Nat.le_of_eq g4.symm)
  have O4 := Old.ext O2 E4
  have KK4 := Keep.ext KK2 E4
  have F7 : AD3 Z h4 o1 j0 0 0 0 := (Arv.newD A4 (by decide)).pad (pad_rep [] (.double (FP.l2d (0 : Int64))) 3)
  have F8 := (Fld.ext E4 (Fld.other W2 f2 (Or.inr (n_13_10 hw))))
  have F9 := (Exa.ext E4 (Exa.wr W2 f1))
  obtain ⟨T10, h10, X10, e10, W10, st10⟩ := putF X4 hx hZ hown (host := "") (Or.inl (w_12 hw)) Via.refl e4 F8 F9 (Or.inr ⟨(w_13 hw), rfl, hnm⟩) (w_1 hw) (ty := (.array .double)) (by decide) rfl rfl (g := (mkF m 13 #[rv o0, iv 3] [(.ref o1), (.ref o0)])) rfl rfl (hb hby d1_13)
  have O10 := Old.wr O4 W10 u0
  have KK10 := Keep.wr KK4 W10 (Or.inl (own_m 0 rfl))
  have N10 := Fr.snoc X10 N2 u0
  have F11 : fB1 Z h10 o0 (.ref o1) := Fld.same W10 F8
  obtain ⟨T12, h12, j1, X12, e12, E12, A12, B12, st12⟩ := newPE (aty := .boolean) X10 hx hZ (w_14 hw) e10 (g := (mkF m 18 #[rv o0, iv 3] [(.int 3), (.ref o0)])) rfl (hb hby d1_18) rfl (by decide) (cap := 3) (by decide) (by decide) (by decide) (by decide) (ad := "[Z") (by decide +kernel)
  obtain ⟨o2, g12⟩ : ∃ z, z = h10.size := ⟨_, rfl⟩
  rw [← g12] at A12 B12 st12
  have g13 : n0 ≤ o2 := Nat.le_trans (own_le O10) (Nat.le_of_eq g12.symm)
  have s14 : h0.size ≤ o2 := Nat.le_trans (KK10).1 (Nat.le_of_eq g12.symm)
  have O12 := Old.ext O10 E12
  have KK12 := Keep.ext KK10 E12
  have F15 : AZ3 Z h12 o2 j1 0 0 0 := (Arv.new A12 (by decide)).pad (pad_rep [] (.int 0) 3)
  have F16 := (Fld.ext E12 (Fld.other W10 (Fld.ext E4 (Fld.other W2 f3 (Or.inr (n_16_10 hw)))) (Or.inr (n_16_13 hw))))
  have F17 := (Exa.ext E12 (Exa.wr W10 F9))
  obtain ⟨T18, h18, X18, e18, W18, st18⟩ := putF X12 hx hZ hown (host := "") (Or.inl (w_15 hw)) Via.refl e12 F16 F17 (Or.inr ⟨(w_16 hw), rfl, hnm⟩) (w_1 hw) (ty := (.array .boolean)) (by decide) rfl rfl (g := (mkF m 20 #[rv o0, iv 3] [(.ref o2), (.ref o0)])) rfl rfl (hb hby d1_20)
  have O18 := Old.wr O12 W18 u0
  have KK18 := Keep.wr KK12 W18 (Or.inl (own_m 0 rfl))
  have N18 := Fr.snoc X18 N10 u0
  have F19 : fB2 Z h18 o0 (.ref o2) := Fld.same W18 F16
  obtain ⟨T20, h20, j2, X20, e20, E20, A20, B20, st20⟩ := newPE (aty := .int) X18 hx hZ (w_17 hw) e18 (g := (mkF m 25 #[rv o0, iv 3] [(.int 3), (.ref o0)])) rfl (hb hby d1_25) rfl (by decide) (cap := 3) (by decide) (by decide) (by decide) (by decide) (ad := "[I") (by decide +kernel)
  obtain ⟨o3, g20⟩ : ∃ z, z = h18.size := ⟨_, rfl⟩
  rw [← g20] at A20 B20 st20
  have g21 : n0 ≤ o3 := Nat.le_trans (own_le O18) (Nat.le_of_eq g20.symm)
  have s22 : h0.size ≤ o3 := Nat.le_trans (KK18).1 (Nat.le_of_eq g20.symm)
  have O20 := Old.ext O18 E20
  have KK20 := Keep.ext KK18 E20
  have F23 : AI3 Z h20 o3 j2 0 0 0 := (Arv.new A20 (by decide)).pad (pad_rep [] (.int 0) 3)
  have F24 := (Fld.ext E20 (Fld.other W18 (Fld.ext E12 (Fld.other W10 (Fld.ext E4 (Fld.other W2 f4 (Or.inr (n_19_10 hw)))) (Or.inr (n_19_13 hw)))) (Or.inr (n_19_16 hw))))
  have F25 := (Exa.ext E20 (Exa.wr W18 F17))
  obtain ⟨T26, h26, X26, e26, W26, st26⟩ := putF X20 hx hZ hown (host := "") (Or.inl (w_18 hw)) Via.refl e20 F24 F25 (Or.inr ⟨(w_19 hw), rfl, hnm⟩) (w_1 hw) (ty := (.array .int)) (by decide) rfl rfl (g := (mkF m 27 #[rv o0, iv 3] [(.ref o3), (.ref o0)])) rfl rfl (hb hby d1_27)
  have O26 := Old.wr O20 W26 u0
  have KK26 := Keep.wr KK20 W26 (Or.inl (own_m 0 rfl))
  have N26 := Fr.snoc X26 N18 u0
  have F27 : fB3 Z h26 o0 (.ref o3) := Fld.same W26 F24
  obtain ⟨T28, h28, j3, X28, e28, E28, A28, B28, st28⟩ := newPE (aty := .int) X26 hx hZ (w_17 hw) e26 (g := (mkF m 34 #[rv o0, iv 3] [(.int 4), (.ref o0)])) rfl (hb hby d1_34) rfl (by decide) (cap := 4) (by decide) (by decide) (by decide) (by decide) (ad := "[I") (by decide +kernel)
  obtain ⟨o4, g28⟩ : ∃ z, z = h26.size := ⟨_, rfl⟩
  rw [← g28] at A28 B28 st28
  have g29 : n0 ≤ o4 := Nat.le_trans (own_le O26) (Nat.le_of_eq g28.symm)
  have s30 : h0.size ≤ o4 := Nat.le_trans (KK26).1 (Nat.le_of_eq g28.symm)
  have O28 := Old.ext O26 E28
  have KK28 := Keep.ext KK26 E28
  have F31 : AI4 Z h28 o4 j3 0 0 0 0 := (Arv.new A28 (by decide)).pad (pad_rep [] (.int 0) 4)
  have F32 := (Fld.ext E28 (Fld.other W26 (Fld.ext E20 (Fld.other W18 (Fld.ext E12 (Fld.other W10 (Fld.ext E4 (Fld.other W2 f5 (Or.inr (n_21_10 hw)))) (Or.inr (n_21_13 hw)))) (Or.inr (n_21_16 hw)))) (Or.inr (n_21_19 hw))))
  have F33 := (Exa.ext E28 (Exa.wr W26 F25))
  obtain ⟨T34, h34, X34, e34, W34, st34⟩ := putF X28 hx hZ hown (host := "") (Or.inl (w_20 hw)) Via.refl e28 F32 F33 (Or.inr ⟨(w_21 hw), rfl, hnm⟩) (w_1 hw) (ty := (.array .int)) (by decide) rfl rfl (g := (mkF m 36 #[rv o0, iv 3] [(.ref o4), (.ref o0)])) rfl rfl (hb hby d1_36)
  have O34 := Old.wr O28 W34 u0
  have KK34 := Keep.wr KK28 W34 (Or.inl (own_m 0 rfl))
  have N34 := Fr.snoc X34 N26 u0
  have F35 : fB4 Z h34 o0 (.ref o4) := Fld.same W34 F32
  obtain ⟨T36, h36, j4, X36, e36, E36, A36, B36, st36⟩ := newPE (aty := .int) X34 hx hZ (w_17 hw) e34 (g := (mkF m 41 #[rv o0, iv 3] [(.int 3), (.ref o0)])) rfl (hb hby d1_41) rfl (by decide) (cap := 3) (by decide) (by decide) (by decide) (by decide) (ad := "[I") (by decide +kernel)
  obtain ⟨o5, g36⟩ : ∃ z, z = h34.size := ⟨_, rfl⟩
  rw [← g36] at A36 B36 st36
  have g37 : n0 ≤ o5 := Nat.le_trans (own_le O34) (Nat.le_of_eq g36.symm)
  have s38 : h0.size ≤ o5 := Nat.le_trans (KK34).1 (Nat.le_of_eq g36.symm)
  have O36 := Old.ext O34 E36
  have KK36 := Keep.ext KK34 E36
  have F39 : AI3 Z h36 o5 j4 0 0 0 := (Arv.new A36 (by decide)).pad (pad_rep [] (.int 0) 3)
  have F40 := (Fld.ext E36 (Fld.other W34 (Fld.ext E28 (Fld.other W26 (Fld.ext E20 (Fld.other W18 (Fld.ext E12 (Fld.other W10 (Fld.ext E4 (Fld.other W2 f6 (Or.inr (n_23_10 hw)))) (Or.inr (n_23_13 hw)))) (Or.inr (n_23_16 hw)))) (Or.inr (n_23_19 hw)))) (Or.inr (n_23_21 hw))))
  have F41 := (Exa.ext E36 (Exa.wr W34 F33))
  obtain ⟨T42, h42, X42, e42, W42, st42⟩ := putF X36 hx hZ hown (host := "") (Or.inl (w_22 hw)) Via.refl e36 F40 F41 (Or.inl (w_23 hw)) (w_1 hw) (ty := (.array .int)) (by decide) rfl rfl (g := (mkF m 43 #[rv o0, iv 3] [(.ref o5), (.ref o0)])) rfl rfl (hb hby d1_43)
  have O42 := Old.wr O36 W42 u0
  have KK42 := Keep.wr KK36 W42 (Or.inl (own_m 0 rfl))
  have N42 := Fr.snoc X42 N34 u0
  have F43 : fB5 Z h42 o0 (.ref o5) := Fld.same W42 F40
  obtain ⟨T44, h44, j5, X44, e44, E44, A44, B44, st44⟩ := newPE (aty := .double) X42 hx hZ (w_11 hw) e42 (g := (mkF m 48 #[rv o0, iv 3] [(.int 3), (.ref o0)])) rfl (hb hby d1_48) rfl (by decide) (cap := 3) (by decide) (by decide) (by decide) (by decide) (ad := "[D") (by decide +kernel)
  obtain ⟨o6, g44⟩ : ∃ z, z = h42.size := ⟨_, rfl⟩
  rw [← g44] at A44 B44 st44
  have g45 : n0 ≤ o6 := Nat.le_trans (own_le O42) (Nat.le_of_eq g44.symm)
  have s46 : h0.size ≤ o6 := Nat.le_trans (KK42).1 (Nat.le_of_eq g44.symm)
  have O44 := Old.ext O42 E44
  have KK44 := Keep.ext KK42 E44
  have F47 : AD3 Z h44 o6 j5 0 0 0 := (Arv.newD A44 (by decide)).pad (pad_rep [] (.double (FP.l2d (0 : Int64))) 3)
  have F48 := (Fld.ext E44 (Fld.other W42 (Fld.ext E36 (Fld.other W34 (Fld.ext E28 (Fld.other W26 (Fld.ext E20 (Fld.other W18 (Fld.ext E12 (Fld.other W10 (Fld.ext E4 (Fld.other W2 f7 (Or.inr (n_25_10 hw)))) (Or.inr (n_25_13 hw)))) (Or.inr (n_25_16 hw)))) (Or.inr (n_25_19 hw)))) (Or.inr (n_25_21 hw)))) (Or.inr (n_25_23 hw))))
  have F49 := (Exa.ext E44 (Exa.wr W42 F41))
  obtain ⟨T50, h50, X50, e50, W50, st50⟩ := putF X44 hx hZ hown (host := "") (Or.inl (w_24 hw)) Via.refl e44 F48 F49 (Or.inl (w_25 hw)) (w_1 hw) (ty := (.array .double)) (by decide) rfl rfl (g := (mkF m 50 #[rv o0, iv 3] [(.ref o6), (.ref o0)])) rfl rfl (hb hby d1_50)
  have O50 := Old.wr O44 W50 u0
  have KK50 := Keep.wr KK44 W50 (Or.inl (own_m 0 rfl))
  have N50 := Fr.snoc X50 N42 u0
  have F51 : fB6 Z h50 o0 (.ref o6) := Fld.same W50 F48
  have ne53 : o0 ≠ o1 := Nat.ne_of_lt (Nat.lt_of_lt_of_le (F3).lt (Nat.le_of_eq g4.symm))
  have F52 := (Arv.other (Arv.ext (Arv.other (Arv.ext (Arv.other (Arv.ext (Arv.other (Arv.ext (Arv.other (Arv.ext (Arv.other F7 W10 (Ne.symm ne53)) E12) W18 (Ne.symm ne53)) E20) W26 (Ne.symm ne53)) E28) W34 (Ne.symm ne53)) E36) W42 (Ne.symm ne53)) E44) W50 (Ne.symm ne53))
  have ne55 : o0 ≠ o2 := Nat.ne_of_lt (Nat.lt_of_lt_of_le ((Fld.other W10 (Fld.ext E4 F3) (Or.inr (n_10_13 hw)))).lt (Nat.le_of_eq g12.symm))
  have F54 := (Arv.other (Arv.ext (Arv.other (Arv.ext (Arv.other (Arv.ext (Arv.other (Arv.ext (Arv.other F15 W18 (Ne.symm ne55)) E20) W26 (Ne.symm ne55)) E28) W34 (Ne.symm ne55)) E36) W42 (Ne.symm ne55)) E44) W50 (Ne.symm ne55))
  have ne57 : o0 ≠ o3 := Nat.ne_of_lt (Nat.lt_of_lt_of_le ((Fld.other W18 (Fld.ext E12 (Fld.other W10 (Fld.ext E4 F3) (Or.inr (n_10_13 hw)))) (Or.inr (n_10_16 hw)))).lt (Nat.le_of_eq g20.symm))
  have F56 := (Arv.other (Arv.ext (Arv.other (Arv.ext (Arv.other (Arv.ext (Arv.other F23 W26 (Ne.symm ne57)) E28) W34 (Ne.symm ne57)) E36) W42 (Ne.symm ne57)) E44) W50 (Ne.symm ne57))
  have ne59 : o0 ≠ o4 := Nat.ne_of_lt (Nat.lt_of_lt_of_le ((Fld.other W26 (Fld.ext E20 (Fld.other W18 (Fld.ext E12 (Fld.other W10 (Fld.ext E4 F3) (Or.inr (n_10_13 hw)))) (Or.inr (n_10_16 hw)))) (Or.inr (n_10_19 hw)))).lt (Nat.le_of_eq g28.symm))
  have F58 := (Arv.other (Arv.ext (Arv.other (Arv.ext (Arv.other F31 W34 (Ne.symm ne59)) E36) W42 (Ne.symm ne59)) E44) W50 (Ne.symm ne59))
  have F60 := (Exa.wr W50 (Exa.ext E44 (Exa.wr W42 B36)))
  have ne62 : o0 ≠ o5 := Nat.ne_of_lt (Nat.lt_of_lt_of_le ((Fld.other W34 (Fld.ext E28 (Fld.other W26 (Fld.ext E20 (Fld.other W18 (Fld.ext E12 (Fld.other W10 (Fld.ext E4 F3) (Or.inr (n_10_13 hw)))) (Or.inr (n_10_16 hw)))) (Or.inr (n_10_19 hw)))) (Or.inr (n_10_21 hw)))).lt (Nat.le_of_eq g36.symm))
  have F61 := (Arv.other (Arv.ext (Arv.other F39 W42 (Ne.symm ne62)) E44) W50 (Ne.symm ne62))
  have F63 := (Exa.wr W50 B44)
  have ne65 : o0 ≠ o6 := Nat.ne_of_lt (Nat.lt_of_lt_of_le ((Fld.other W42 (Fld.ext E36 (Fld.other W34 (Fld.ext E28 (Fld.other W26 (Fld.ext E20 (Fld.other W18 (Fld.ext E12 (Fld.other W10 (Fld.ext E4 F3) (Or.inr (n_10_13 hw)))) (Or.inr (n_10_16 hw)))) (Or.inr (n_10_19 hw)))) (Or.inr (n_10_21 hw)))) (Or.inr (n_10_23 hw)))).lt (Nat.le_of_eq g44.symm))
  have F64 := (Arv.other F47 W50 (Ne.symm ne65))
  have F66 := (Fld.other W50 (Fld.ext E44 (Fld.other W42 (Fld.ext E36 (Fld.other W34 (Fld.ext E28 (Fld.other W26 (Fld.ext E20 (Fld.other W18 (Fld.ext E12 (Fld.other W10 (Fld.ext E4 F3) (Or.inr (n_10_13 hw)))) (Or.inr (n_10_16 hw)))) (Or.inr (n_10_19 hw)))) (Or.inr (n_10_21 hw)))) (Or.inr (n_10_23 hw)))) (Or.inr (n_10_25 hw)))
  have F67 := (Exa.wr W50 F49)
  have F68 := (Fld.other W50 (Fld.ext E44 (Fld.other W42 (Fld.ext E36 (Fld.other W34 (Fld.ext E28 (Fld.other W26 (Fld.ext E20 (Fld.other W18 (Fld.ext E12 F11) (Or.inr (n_13_16 hw)))) (Or.inr (n_13_19 hw)))) (Or.inr (n_13_21 hw)))) (Or.inr (n_13_23 hw)))) (Or.inr (n_13_25 hw)))
  have F69 := (Fld.other W50 (Fld.ext E44 (Fld.other W42 (Fld.ext E36 (Fld.other W34 (Fld.ext E28 (Fld.other W26 (Fld.ext E20 F19) (Or.inr (n_16_19 hw)))) (Or.inr (n_16_21 hw)))) (Or.inr (n_16_23 hw)))) (Or.inr (n_16_25 hw)))
  have F70 := (Fld.other W50 (Fld.ext E44 (Fld.other W42 (Fld.ext E36 (Fld.other W34 (Fld.ext E28 F27) (Or.inr (n_19_21 hw)))) (Or.inr (n_19_23 hw)))) (Or.inr (n_19_25 hw)))
  have F71 := (Fld.other W50 (Fld.ext E44 (Fld.other W42 (Fld.ext E36 F35) (Or.inr (n_21_23 hw)))) (Or.inr (n_21_25 hw)))
  have F72 := (Fld.other W50 (Fld.ext E44 F43) (Or.inr (n_23_25 hw)))
  have F73 := (Fld.other W50 (Fld.ext E44 (Fld.other W42 (Fld.ext E36 (Fld.other W34 (Fld.ext E28 (Fld.other W26 (Fld.ext E20 (Fld.other W18 (Fld.ext E12 (Fld.other W10 (Fld.ext E4 (Fld.other W2 f8 (Or.inr (n_32_10 hw)))) (Or.inr (n_32_13 hw)))) (Or.inr (n_32_16 hw)))) (Or.inr (n_32_19 hw)))) (Or.inr (n_32_21 hw)))) (Or.inr (n_32_23 hw)))) (Or.inr (n_32_25 hw)))
  have F74 := (Fld.other W50 (Fld.ext E44 (Fld.other W42 (Fld.ext E36 (Fld.other W34 (Fld.ext E28 (Fld.other W26 (Fld.ext E20 (Fld.other W18 (Fld.ext E12 (Fld.other W10 (Fld.ext E4 (Fld.other W2 f9 (Or.inr (n_39_10 hw)))) (Or.inr (n_39_13 hw)))) (Or.inr (n_39_16 hw)))) (Or.inr (n_39_19 hw)))) (Or.inr (n_39_21 hw)))) (Or.inr (n_39_23 hw)))) (Or.inr (n_39_25 hw)))
  have F75 := (Fld.other W50 (Fld.ext E44 (Fld.other W42 (Fld.ext E36 (Fld.other W34 (Fld.ext E28 (Fld.other W26 (Fld.ext E20 (Fld.other W18 (Fld.ext E12 (Fld.other W10 (Fld.ext E4 (Fld.other W2 f10 (Or.inr (n_58_10 hw)))) (Or.inr (n_58_13 hw)))) (Or.inr (n_58_16 hw)))) (Or.inr (n_58_19 hw)))) (Or.inr (n_58_21 hw)))) (Or.inr (n_58_23 hw)))) (Or.inr (n_58_25 hw)))
  have ne76 : o1 ≠ o2 := Nat.ne_of_lt (Nat.lt_of_lt_of_le ((Arv.other F7 W10 (Ne.symm ne53))).lt (Nat.le_of_eq g12.symm))
  have ne77 : o1 ≠ o3 := Nat.ne_of_lt (Nat.lt_of_lt_of_le ((Arv.other (Arv.ext (Arv.other F7 W10 (Ne.symm ne53)) E12) W18 (Ne.symm ne53))).lt (Nat.le_of_eq g20.symm))
  have ne78 : o1 ≠ o4 := Nat.ne_of_lt (Nat.lt_of_lt_of_le ((Arv.other (Arv.ext (Arv.other (Arv.ext (Arv.other F7 W10 (Ne.symm ne53)) E12) W18 (Ne.symm ne53)) E20) W26 (Ne.symm ne53))).lt (Nat.le_of_eq g28.symm))
  have ne79 : o1 ≠ o5 := Nat.ne_of_lt (Nat.lt_of_lt_of_le ((Arv.other (Arv.ext (Arv.other (Arv.ext (Arv.other (Arv.ext (Arv.other F7 W10 (Ne.symm ne53)) E12) W18 (Ne.symm ne53)) E20) W26 (Ne.symm ne53)) E28) W34 (Ne.symm ne53))).lt (Nat.le_of_eq g36.symm))
  have ne80 : o1 ≠ o6 := Nat.ne_of_lt (Nat.lt_of_lt_of_le ((Arv.other (Arv.ext (Arv.other (Arv.ext (Arv.other (Arv.ext (Arv.other (Arv.ext (Arv.other F7 W10 (Ne.symm ne53)) E12) W18 (Ne.symm ne53)) E20) W26 (Ne.symm ne53)) E28) W34 (Ne.symm ne53)) E36) W42 (Ne.symm ne53))).lt (Nat.le_of_eq g44.symm))
  have ne81 : o2 ≠ o3 := Nat.ne_of_lt (Nat.lt_of_lt_of_le ((Arv.other F15 W18 (Ne.symm ne55))).lt (Nat.le_of_eq g20.symm))
  have ne82 : o2 ≠ o4 := Nat.ne_of_lt (Nat.lt_of_lt_of_le ((Arv.other (Arv.ext (Arv.other F15 W18 (Ne.symm ne55)) E20) W26 (Ne.symm ne55))).lt (Nat.le_of_eq g28.symm))
  have ne83 : o2 ≠ o5 := Nat.ne_of_lt (Nat.lt_of_lt_of_le ((Arv.other (Arv.ext (Arv.other (Arv.ext (Arv.other F15 W18 (Ne.symm ne55)) E20) W26 (Ne.symm ne55)) E28) W34 (Ne.symm ne55))).lt (Nat.le_of_eq g36.symm))
  have ne84 : o2 ≠ o6 := Nat.ne_of_lt (Nat.lt_of_lt_of_le ((Arv.other (Arv.ext (Arv.other (Arv.ext (Arv.other (Arv.ext (Arv.other F15 W18 (Ne.symm ne55)) E20) W26 (Ne.symm ne55)) E28) W34 (Ne.symm ne55)) E36) W42 (Ne.symm ne55))).lt (Nat.le_of_eq g44.symm))
  have ne85 : o3 ≠ o4 := Nat.ne_of_lt (Nat.lt_of_lt_of_le ((Arv.other F23 W26 (Ne.symm ne57))).lt (Nat.le_of_eq g28.symm))
  have ne86 : o3 ≠ o5 := Nat.ne_of_lt (Nat.lt_of_lt_of_le ((Arv.other (Arv.ext (Arv.other F23 W26 (Ne.symm ne57)) E28) W34 (Ne.symm ne57))).lt (Nat.le_of_eq g36.symm))
  have ne87 : o3 ≠ o6 := Nat.ne_of_lt (Nat.lt_of_lt_of_le ((Arv.other (Arv.ext (Arv.other (Arv.ext (Arv.other F23 W26 (Ne.symm ne57)) E28) W34 (Ne.symm ne57)) E36) W42 (Ne.symm ne57))).lt (Nat.le_of_eq g44.symm))
  have ne88 : o4 ≠ o5 := Nat.ne_of_lt (Nat.lt_of_lt_of_le ((Arv.other F31 W34 (Ne.symm ne59))).lt (Nat.le_of_eq g36.symm))
  have ne89 : o4 ≠ o6 := Nat.ne_of_lt (Nat.lt_of_lt_of_le ((Arv.other (Arv.ext (Arv.other F31 W34 (Ne.symm ne59)) E36) W42 (Ne.symm ne59))).lt (Nat.le_of_eq g44.symm))
  have ne90 : o5 ≠ o6 := Nat.ne_of_lt (Nat.lt_of_lt_of_le ((Exa.wr W42 B36)).lt (Nat.le_of_eq g44.symm))
  obtain ⟨fs, hr, hrun, hended, hW, hsame⟩ := X50.leave (v := none) (fun _ => rfl)
  refine ⟨_, _, (castTop (ef_1 m o0 3) ?_), hrun, hended, _, _, rfl, ?_, ⟨_, rfl⟩, hW, hsame.mono (by decide) (by decide)⟩
  · show Steps p.tables e below (s₁.setTop (mkF m 0 #[rv o0, iv 3] [])) _
    refine oA X0 hx hby d1_0 rfl rfl rfl ?_
    refine st1 _ ?_
    refine oA X1 hx hby d1_4 rfl rfl rfl ?_
    refine oI X1 hx hby d1_5 rfl rfl ?_
    refine st2 _ ?_
    refine oA X2 hx hby d1_9 rfl rfl rfl ?_
    refine oI X2 hx hby d1_10 rfl rfl ?_
    refine st4 _ ?_
    refine st10 _ ?_
    refine oA X10 hx hby d1_16 rfl rfl rfl ?_
    refine oI X10 hx hby d1_17 rfl rfl ?_
    refine st12 _ ?_
    refine st18 _ ?_
    refine oA X18 hx hby d1_23 rfl rfl rfl ?_
    refine oI X18 hx hby d1_24 rfl rfl ?_
    refine st20 _ ?_
    refine st26 _ ?_
    refine oA X26 hx hby d1_30 rfl rfl rfl ?_
    refine oI X26 hx hby d1_31 rfl rfl ?_
    refine oK X26 hx hby d1_32 rfl ?_
    refine XS.iadd X26.here hx rfl (hb hby d1_33) rfl ?_
    show Steps p.tables e below (T26.setTop (mkF m 34 #[rv o0, iv 3] [(.int ((3 : Int32) + (1 : Int32))), (.ref o0)])) _
    rw [(by decide : ((3 : Int32) + (1 : Int32)) = (4 : Int32))]
    refine st28 _ ?_
    refine st34 _ ?_
    refine oA X34 hx hby d1_39 rfl rfl rfl ?_
    refine oI X34 hx hby d1_40 rfl rfl ?_
    refine st36 _ ?_
    refine st42 _ ?_
    refine oA X42 hx hby d1_46 rfl rfl rfl ?_
    refine oI X42 hx hby d1_47 rfl rfl ?_
    refine st44 _ ?_
    refine st50 _ ?_
    exact X50.returnOut hx Bd.returns (hb hby d1_53) hr
  · show Q1_0 Z t0 t1 t2 t3 o0 h0 n0 _ T50.heap _
    rw [e50]
    exact ⟨o1, o2, o3, o4, o5, o6, j0, j1, j2, j3, j4, j5, rfl, N50, KK50, s6, s14, s22, s30, s38, s46, ne76, ne77, ne78, ne79, ne80, ne81, ne82, ne83, ne84, ne85, ne86, ne87, ne88, ne89, ne90, F52, F54, F56, F58, F60, F61, F63, F64, F66, F67, F68, F69, F70, F71, F72, F51, F73, F74, F75⟩
def Q3_0 (Z : State) (t0 t1 t2 t3 : Int32) (t4 t5 t6 t7 : Int64) (t8 t9 t10 : Int32) (o0 o1 o2 o3 o4 o5 o6 : Addr) (j0 j1 j2 : ClassId) (h0 : Heap) (n0 : Nat) (v : Option Value) (h : Heap) (L : List Loc) : Prop := v = none ∧ Fr n0 L ∧ Keep h0 h [o1, o0, o2, o3] ∧ AZ3 Z h o1 j0 (own_ui t0 0 1 0) (own_ui t0 1 1 0) (own_ui t0 2 1 0) ∧ fB2 Z h o0 (.ref o1) ∧ fB3 Z h o0 (.ref o2) ∧ fB7 Z h o0 (.int 1) ∧ Exa Z h o0 kB ∧ fB1 Z h o0 (.ref o3) ∧ fB0 Z h o0 (.int t8) ∧ fB4 Z h o0 (.ref o4) ∧ fB5 Z h o0 (.ref o5) ∧ fB6 Z h o0 (.ref o6) ∧ fB8 Z h o0 (.int t9) ∧ fB9 Z h o0 (.int t10) ∧ AI3 Z h o2 j1 t0 t2 t3 ∧ AD3 Z h o3 j2 (t4 + (own_pt t0 0 t7)) (t5 + (own_pt t0 1 t7)) (t6 + (own_pt t0 2 t7))
theorem rm3_0 (l : Launch) (Z : State) (a0 : Array Value) (hw : HW a0 Z) (ws : List Jvm.Cond) (t0 t1 t2 t3 : Int32) (t4 t5 t6 t7 : Int64) (t8 t9 t10 : Int32) (o0 o1 o2 o3 o4 o5 o6 : Addr) (j0 j1 j2 : ClassId) (h0 : Heap) (n0 : Nat) (OO : Old Z n0 h0) (f0 : fB2 Z h0 o0 (.ref o1)) (f1 : AZ3 Z h0 o1 j0 0 0 0) (d0 : own_in3 t0) (u0 : n0 ≤ o1) (f2 : fB3 Z h0 o0 (.ref o2)) (v0 : o0 ≠ o1) (f3 : fB7 Z h0 o0 (.int 0)) (f4 : Exa Z h0 o0 kB) (u1 : n0 ≤ o0) (f5 : AI3 Z h0 o2 j1 t1 t2 t3) (v1 : o2 ≠ o1) (v2 : o2 ≠ o0) (u2 : n0 ≤ o2) (f6 : fB1 Z h0 o0 (.ref o3)) (f7 : AD3 Z h0 o3 j2 t4 t5 t6) (v3 : o3 ≠ o1) (v4 : o3 ≠ o0) (v5 : o3 ≠ o2) (d1 : B53 (own_pk t0 t4 t5 t6)) (d2 : B53 t7) (u3 : n0 ≤ o3) (f8 : fB0 Z h0 o0 (.int t8)) (f9 : fB4 Z h0 o0 (.ref o4)) (f10 : fB5 Z h0 o0 (.ref o5)) (f11 : fB6 Z h0 o0 (.ref o6)) (f12 : fB8 Z h0 o0 (.int t9)) (f13 : fB9 Z h0 o0 (.int t10)) :
    own_MF l Z h0 (⟨kB, "add", "(ID)V"⟩ : MethodName) ws prog_58_method_2_code 4 none ({ frames := 0, cells := 0, slots := 0, locals := 0 } : Room) #[(.ref o0), (.int t0), (.double (FP.l2d t7))] (Q3_0 Z t0 t1 t2 t3 t4 t5 t6 t7 t8 t9 t10 o0 o1 o2 o3 o4 o5 o6 j0 j1 j2 h0 n0) := by
  refine MetFree.of_bodySF (plainFor_of_name pn_3) hisR ?_
  intro p e s m args below meth c s₁ Bd hml0 hP hK
  obtain ⟨rfl, hZ, hh⟩ := hP
  have hx := Bd.exec
  have hby := Bd.bytes
  have hml : c.maxLocals = 4 := hml0
  have hown : s.vm.findClass kB = some m.cls := findClass_of_methodNamed Bd.named
  have X0 : Stand p l e ({ frames := 0, cells := 0, slots := 0, locals := 0 } : Room) s m #[(.ref o0), (.int t0), (.double (FP.l2d t7))] below meth c s₁ [] 0 0 := Stand.of_body Bd
  have e0 : s₁.heap = h0 := by rw [← hh, Bd.state]; rfl
  have N0 := Fr.nil n0
  obtain ⟨T1, X1, e1, st1⟩ := own_gF X0 hx hZ hown (w_15 hw) e0 f0 (g := (mkF m 1 #[rv o0, iv t0, .val (.double (FP.l2d t7)), .second] [(.ref o0)])) rfl rfl (hb hby d3_1)
  obtain ⟨c2, r2, q2, S2, M2, H2, G2⟩ := id f1
  have i3 := own_inb (j := t0) S2 d0
  have y4 := own_rdE S2 H2 d0
  obtain ⟨T5, X5, e5, st5⟩ := own_gF X1 hx hZ hown (w_15 hw) e1 f0 (g := (mkF m 10 #[rv o0, iv t0, .val (.double (FP.l2d t7)), .second] [(.ref o0)])) rfl rfl (hb hby d3_10)
  obtain ⟨c6, r6, q6, S6, M6, H6, G6⟩ := id f1
  have i7 := own_inb (j := t0) S6 d0
  obtain ⟨T8, h8, X8, e8, W8, st8⟩ := stZ X5 hx hZ e5 r6 (j := t0) i7 (g := (mkF m 15 #[rv o0, iv t0, .val (.double (FP.l2d t7)), .second] [(.int 1), (.int t0), (.ref o1)])) rfl rfl (hb hby d3_15)
  have O8 := Old.wr OO W8 u0
  have KK8 := Keep.wr (Keep.refl h0 [o1, o0, o2, o3]) W8 (Or.inl (own_m 0 rfl))
  have N8 := Fr.snoc X8 N0 u0
  have F9 : AZ3 Z h8 o1 j0 (own_ui t0 0 1 0) (own_ui t0 1 1 0) (own_ui t0 2 1 0) := own_setI r6 q6 S6 M6 H6 G6 (by decide) W8 d0
  have F10 := (Fld.other W8 f2 (Or.inl v0))
  obtain ⟨T11, X11, e11, st11⟩ := own_gF X8 hx hZ hown (w_18 hw) e8 F10 (g := (mkF m 17 #[rv o0, iv t0, .val (.double (FP.l2d t7)), .second] [(.ref o0)])) rfl rfl (hb hby d3_17)
  have F12 := (Fld.other W8 f3 (Or.inl v0))
  obtain ⟨T13, X13, e13, st13⟩ := own_gF X11 hx hZ hown (w_31 hw) e11 F12 (g := (mkF m 22 #[rv o0, iv t0, .val (.double (FP.l2d t7)), .second] [(.ref o0), (.ref o0), (.ref o2)])) rfl rfl (hb hby d3_22)
  have F14 := (Exa.wr W8 f4)
  obtain ⟨T15, h15, X15, e15, W15, st15⟩ := putF X13 hx hZ hown (host := "") (Or.inl (w_31 hw)) Via.refl e13 F12 F14 (Or.inl (w_32 hw)) (w_1 hw) (ty := .int) (by decide) rfl rfl (g := (mkF m 28 #[rv o0, iv t0, .val (.double (FP.l2d t7)), .second] [(.int 1), (.ref o0), (.int 0), (.ref o2)])) rfl rfl (hb hby d3_28)
  have O15 := Old.wr O8 W15 u1
  have KK15 := Keep.wr KK8 W15 (Or.inl (own_m 1 rfl))
  have N15 := Fr.snoc X15 N8 u1
  have F16 : fB7 Z h15 o0 (.int 1) := Fld.same W15 F12
  have F18 := (Arv.other (Arv.other f5 W8 v1) W15 v2)
  obtain ⟨c17, r17, q17, S17, M17, H17, G17⟩ := id F18
  have i19 := inb_of (j := 0) S17 (by decide)
  obtain ⟨T20, h20, X20, e20, W20, st20⟩ := stI X15 hx hZ e15 r17 (j := (0 : Int32)) i19 (g := (mkF m 32 #[rv o0, iv t0, .val (.double (FP.l2d t7)), .second] [(.int t0), (.int 0), (.ref o2)])) rfl rfl (hb hby d3_32)
  have O20 := Old.wr O15 W20 u2
  have KK20 := Keep.wr KK15 W20 (Or.inl (own_m 2 rfl))
  have N20 := Fr.snoc X20 N15 u2
  have F21 : AI3 Z h20 o2 j1 t0 t2 t3 := Arv.set r17 q17 S17 M17 H17 G17 rfl W20 0 rfl (Nat.le_of_ble_eq_true rfl)
  have F22 := (Fld.other W20 (Fld.other W15 (Fld.other W8 f6 (Or.inl v0)) (Or.inr (n_13_32 hw))) (Or.inl (Ne.symm v2)))
  obtain ⟨T23, X23, e23, st23⟩ := own_gF X20 hx hZ hown (w_12 hw) e20 F22 (g := (mkF m 34 #[rv o0, iv t0, .val (.double (FP.l2d t7)), .second] [(.ref o0)])) rfl rfl (hb hby d3_34)
  have F25 := (Arv.other (Arv.other (Arv.other f7 W8 v3) W15 v4) W20 v5)
  obtain ⟨c24, r24, q24, S24, M24, H24, G24⟩ := id F25
  have i26 := own_inb (j := t0) S24 d0
  have y27 := own_rdD S24 H24 d0
  obtain ⟨c28, r28, q28, S28, M28, H28, G28⟩ := id F25
  have i29 := own_inb (j := t0) S28 d0
  obtain ⟨T30, h30, X30, e30, W30, st30⟩ := stD X23 hx hZ e23 r28 (j := t0) i29 (g := (mkF m 42 #[rv o0, iv t0, .val (.double (FP.l2d t7)), .second] [(.double (FP.l2d ((own_pk t0 t4 t5 t6) + t7))), (.int t0), (.ref o3)])) rfl rfl (hb hby d3_42)
  have O30 := Old.wr O20 W30 u3
  have KK30 := Keep.wr KK20 W30 (Or.inl (own_m 3 rfl))
  have N30 := Fr.snoc X30 N20 u3
  have F31 : AD3 Z h30 o3 j2 (t4 + (own_pt t0 0 t7)) (t5 + (own_pt t0 1 t7)) (t6 + (own_pt t0 2 t7)) := own_setP r28 q28 S28 M28 H28 G28 W30 d0
  have F32 := (Arv.other (Arv.other (Arv.other F9 W15 (Ne.symm v0)) W20 (Ne.symm v1)) W30 (Ne.symm v3))
  have F33 := (Fld.other W30 (Fld.other W20 (Fld.other W15 (Fld.other W8 f0 (Or.inl v0)) (Or.inr (n_16_32 hw))) (Or.inl (Ne.symm v2))) (Or.inl (Ne.symm v4)))
  have F34 := (Fld.other W30 (Fld.other W20 (Fld.other W15 F10 (Or.inr (n_19_32 hw))) (Or.inl (Ne.symm v2))) (Or.inl (Ne.symm v4)))
  have F35 := (Fld.other W30 (Fld.other W20 F16 (Or.inl (Ne.symm v2))) (Or.inl (Ne.symm v4)))
  have F36 := (Exa.wr W30 (Exa.wr W20 (Exa.wr W15 F14)))
  have F37 := (Fld.other W30 F22 (Or.inl (Ne.symm v4)))
  have F38 := (Fld.other W30 (Fld.other W20 (Fld.other W15 (Fld.other W8 f8 (Or.inl v0)) (Or.inr (n_10_32 hw))) (Or.inl (Ne.symm v2))) (Or.inl (Ne.symm v4)))
  have F39 := (Fld.other W30 (Fld.other W20 (Fld.other W15 (Fld.other W8 f9 (Or.inl v0)) (Or.inr (n_21_32 hw))) (Or.inl (Ne.symm v2))) (Or.inl (Ne.symm v4)))
  have F40 := (Fld.other W30 (Fld.other W20 (Fld.other W15 (Fld.other W8 f10 (Or.inl v0)) (Or.inr (n_23_32 hw))) (Or.inl (Ne.symm v2))) (Or.inl (Ne.symm v4)))
  have F41 := (Fld.other W30 (Fld.other W20 (Fld.other W15 (Fld.other W8 f11 (Or.inl v0)) (Or.inr (n_25_32 hw))) (Or.inl (Ne.symm v2))) (Or.inl (Ne.symm v4)))
  have F42 := (Fld.other W30 (Fld.other W20 (Fld.other W15 (Fld.other W8 f12 (Or.inl v0)) (Or.inr (n_39_32 hw))) (Or.inl (Ne.symm v2))) (Or.inl (Ne.symm v4)))
  have F43 := (Fld.other W30 (Fld.other W20 (Fld.other W15 (Fld.other W8 f13 (Or.inl v0)) (Or.inr (n_58_32 hw))) (Or.inl (Ne.symm v2))) (Or.inl (Ne.symm v4)))
  have F44 := (Arv.other F21 W30 (Ne.symm v5))
  obtain ⟨fs, hr, hrun, hended, hW, hsame⟩ := X30.leave (v := none) (fun _ => rfl)
  refine ⟨_, _, (castTop (ef_3 m o0 t0 (FP.l2d t7)) ?_), hrun, hended, _, _, rfl, ?_, ⟨_, rfl⟩, hW, hsame.mono (by decide) (by decide)⟩
  · show Steps p.tables e below (s₁.setTop (mkF m 0 #[rv o0, iv t0, .val (.double (FP.l2d t7)), .second] [])) _
    refine oA X0 hx hby d3_0 rfl rfl rfl ?_
    refine st1 _ ?_
    refine oI X1 hx hby d3_4 rfl rfl ?_
    refine X1.baloadBooleans hx (j := t0) (v := (.int 0)) (by rw [e1]; exact r2.1) (State.isArrayOf_alike hZ.alike r2.2.1) r2.2.2 i3 y4 (g := (mkF m 5 #[rv o0, iv t0, .val (.double (FP.l2d t7)), .second] [(.int t0), (.ref o1)])) rfl rfl (hb hby d3_5) _ ?_
    refine XS.ifNo X1.here hx rfl (hb hby d3_6) rfl (by decide) ?_
    refine oA X1 hx hby d3_9 rfl rfl rfl ?_
    refine st5 _ ?_
    refine oI X5 hx hby d3_13 rfl rfl ?_
    refine oK X5 hx hby d3_14 rfl ?_
    refine st8 _ ?_
    refine oA X8 hx hby d3_16 rfl rfl rfl ?_
    refine st11 _ ?_
    refine oA X11 hx hby d3_20 rfl rfl rfl ?_
    refine XS.dup X11.here hx rfl (hb hby d3_21) rfl rfl ?_
    refine st13 _ ?_
    refine XS.dupX1 X13.here hx rfl (hb hby d3_25) rfl rfl rfl ?_
    refine oK X13 hx hby d3_26 rfl ?_
    refine XS.iadd X13.here hx rfl (hb hby d3_27) rfl ?_
    show Steps p.tables e below (T13.setTop (mkF m 28 #[rv o0, iv t0, .val (.double (FP.l2d t7)), .second] [(.int ((0 : Int32) + (1 : Int32))), (.ref o0), (.int 0), (.ref o2)])) _
    rw [(by decide : ((0 : Int32) + (1 : Int32)) = (1 : Int32))]
    refine st15 _ ?_
    refine oI X15 hx hby d3_31 rfl rfl ?_
    refine st20 _ ?_
    refine oA X20 hx hby d3_33 rfl rfl rfl ?_
    refine st23 _ ?_
    refine oI X23 hx hby d3_37 rfl rfl ?_
    refine XT.dup2 X23.here hx rfl (hb hby d3_38) rfl rfl rfl ?_
    refine oD X23 hx hZ e23 r24 i26 y27 (by exact hb hby d3_39) rfl rfl ?_
    refine XS.dloadN X23.here hx rfl (hb hby d3_40) rfl ?_
    refine XS.daddS X23.here hx rfl (hb hby d3_41) rfl (nn_w (dadd_w d1 d2)) (v := FP.l2d ((own_pk t0 t4 t5 t6) + t7)) (dadd_w d1 d2) ?_
    refine st30 _ ?_
    exact X30.returnOut hx Bd.returns (hb hby d3_43) hr
  · show Q3_0 Z t0 t1 t2 t3 t4 t5 t6 t7 t8 t9 t10 o0 o1 o2 o3 o4 o5 o6 j0 j1 j2 h0 n0 _ T30.heap _
    rw [e30]
    exact ⟨rfl, N30, KK30, F32, F33, F34, F35, F36, F37, F38, F39, F40, F41, F42, F43, F44, F31⟩
theorem sg_0 {p : Program} {l : Launch} {e : Env} {s : State} {m : MethodId} {args : Array Value} {below : List Frame} {meth : Method} {c : Code} {T0 : State} {locs : List Loc} {Z : State} {a0 : Array Value} {h0 : Heap} {n0 : Nat} (hw : HW a0 Z) (t0 t1 t2 t3 t4 t5 t6 t7 t8 : Int32)
    (X0 : Stand p l e room_1 s m args below meth c T0 locs 0 0) (hx : p.tables.exec = Jvm.exec) (hZ : Z.Warmed39 s.vm) (hby : c.code = code) (hml : c.maxLocals = 14) (hown : s.vm.findClass kL = some m.cls) (e0 : T0.heap = h0) (N0 : Fr n0 locs) (OO : Old Z n0 h0) (d0 : own_in3 t0) (d1 : B53 (own_pk t0 (0 : Int64) (0 : Int64) (0 : Int64))) (d2 : B53 (t1.toInt64)) :
    ∃ (T' : State) (h' : Heap) (lc : List Loc) (o0 o1 o2 o3 o4 o5 o6 : Addr) (j0 j1 j2 j3 j4 j5 : ClassId), Stand p l e room_1 s m args below meth c T' lc 7 29 ∧ T'.heap = h' ∧ Fr n0 lc ∧ Keep h0 h' [] ∧ h0.size ≤ o0 ∧ h0.size ≤ o1 ∧ h0.size ≤ o2 ∧ h0.size ≤ o3 ∧ h0.size ≤ o4 ∧ h0.size ≤ o5 ∧ h0.size ≤ o6 ∧ o0 ≠ o1 ∧ o0 ≠ o2 ∧ o0 ≠ o3 ∧ o0 ≠ o4 ∧ o0 ≠ o5 ∧ o0 ≠ o6 ∧ o1 ≠ o2 ∧ o1 ≠ o3 ∧ o1 ≠ o4 ∧ o1 ≠ o5 ∧ o1 ≠ o6 ∧ o2 ≠ o3 ∧ o2 ≠ o4 ∧ o2 ≠ o5 ∧ o2 ≠ o6 ∧ o3 ≠ o4 ∧ o3 ≠ o5 ∧ o3 ≠ o6 ∧ o4 ≠ o5 ∧ o4 ≠ o6 ∧ o5 ≠ o6 ∧ Exa Z h' o0 kB ∧ fB0 Z h' o0 (.int 3) ∧ fB1 Z h' o0 (.ref o1) ∧ fB2 Z h' o0 (.ref o2) ∧ fB3 Z h' o0 (.ref o3) ∧ fB4 Z h' o0 (.ref o4) ∧ fB5 Z h' o0 (.ref o5) ∧ fB6 Z h' o0 (.ref o6) ∧ fB7 Z h' o0 (.int 1) ∧ fB8 Z h' o0 (.int 0) ∧ fB9 Z h' o0 (.int 0) ∧ AD3 Z h' o1 j0 ((0 : Int64) + (own_pt t0 0 (t1.toInt64))) ((0 : Int64) + (own_pt t0 1 (t1.toInt64))) ((0 : Int64) + (own_pt t0 2 (t1.toInt64))) ∧ AZ3 Z h' o2 j1 (own_ui t0 0 1 0) (own_ui t0 1 1 0) (own_ui t0 2 1 0) ∧ AI3 Z h' o3 j2 t0 0 0 ∧ AI4 Z h' o4 j3 0 0 0 0 ∧ Exa Z h' o5 "[I" ∧ AI3 Z h' o5 j4 0 0 0 ∧ Exa Z h' o6 "[D" ∧ AD3 Z h' o6 j5 0 0 0 ∧
      ∀ target, Steps p.tables e below (T'.setTop (mkF m 64 #[iv t2, iv t1, iv t3, iv t4, iv t5, iv t0, iv t6, iv t7, iv t8, rv o0, .unset, .unset, .unset, .unset] [])) target → Steps p.tables e below (T0.setTop (mkF m 45 #[iv t2, iv t1, iv t3, iv t4, iv t5, iv t0, iv t6, iv t7, iv t8, .unset, .unset, .unset, .unset, .unset] [])) target := by
  obtain ⟨T1, h1, X1, e1, E1, A1, D1, -, st1⟩ := newO X0 hx hZ hown (w_0 hw) (w_1 hw) (w_2 hw) e0 (g := (mkF m 45 #[iv t2, iv t1, iv t3, iv t4, iv t5, iv t0, iv t6, iv t7, iv t8, .unset, .unset, .unset, .unset, .unset] [])) rfl (hb hby at_45) (by decide) (by decide)
  obtain ⟨o0, g1⟩ : ∃ z, z = h0.size := ⟨_, rfl⟩
  rw [← g1] at A1 D1 st1
  have g2 : n0 ≤ o0 := Nat.le_trans (own_le OO) (Nat.le_of_eq g1.symm)
  have s3 : h0.size ≤ o0 := Nat.le_trans ((Keep.refl h0 [])).1 (Nat.le_of_eq g1.symm)
  have O1 := Old.ext OO E1
  have KK1 := Keep.ext (Keep.refl h0 []) E1
  have F4 : fB0 Z h1 o0 (.int 0) := D1 (Or.inr (w_10 hw)) (ty := .int) (by decide)
  have F5 : fB1 Z h1 o0 .null := D1 (Or.inr (w_13 hw)) (ty := (.array .double)) (by decide)
  have F6 : fB2 Z h1 o0 .null := D1 (Or.inr (w_16 hw)) (ty := (.array .boolean)) (by decide)
  have F7 : fB3 Z h1 o0 .null := D1 (Or.inr (w_19 hw)) (ty := (.array .int)) (by decide)
  have F8 : fB4 Z h1 o0 .null := D1 (Or.inr (w_21 hw)) (ty := (.array .int)) (by decide)
  have F9 : fB5 Z h1 o0 .null := D1 (Or.inl (w_23 hw)) (ty := (.array .int)) (by decide)
  have F10 : fB6 Z h1 o0 .null := D1 (Or.inl (w_25 hw)) (ty := (.array .double)) (by decide)
  have F11 : fB7 Z h1 o0 (.int 0) := D1 (Or.inl (w_32 hw)) (ty := .int) (by decide)
  have F12 : fB8 Z h1 o0 (.int 0) := D1 (Or.inl (w_39 hw)) (ty := .int) (by decide)
  have F13 : fB9 Z h1 o0 (.int 0) := D1 (Or.inl (w_58 hw)) (ty := .int) (by decide)
  obtain ⟨_, _, ⟨T14, L14, k14, n14⟩, -, X14, ⟨Lc14, hQ14, l14, y14, z14⟩, st14⟩ := X1.specialBack hx (y := (⟨kB, "<init>", "(I)V"⟩ : MethodName)) rfl hown (mvT hZ (w_3 hw)) (mvT hZ (w_4 hw)) (mvT hZ (w_5 hw)) (by decide) (backOf (W := 1) (rm1_0 l Z a0 hw [] (0 : Int32) (0 : Int32) (0 : Int32) (0 : Int32) o0 h1 n0 O1 F4 A1 g2 F5 F6 F7 F8 F9 F10 F11 F12 F13) hZ (w_5 hw) (w_2 hw) (by decide) (by decide)) (g := (mkF m 50 #[iv t2, iv t1, iv t3, iv t4, iv t5, iv t0, iv t6, iv t7, iv t8, .unset, .unset, .unset, .unset, .unset] [(.int 3), (.ref o0), (.ref o0)])) rfl (by rw [hml]; rfl) (Steps.refl _) (a := o0) (argsL := [(.int 3)]) (rest := [(.ref o0)]) (lenOf pd_0 rfl) rfl (by show 2 * 0 + _ ≤ _; exact Nat.le_of_eq rfl) (hb hby at_50) (fun _ _ => ⟨rfl, e1, (by decide : 1 + 6 ≤ _), (by decide : 10 + 19 ≤ _)⟩)
  dsimp only [Pt.U, Pt.locs, Pt.cells, Pt.slots] at X14 l14 y14 z14 st14 hQ14
  subst l14 y14 z14
  obtain ⟨h14, e14⟩ : ∃ z, T14.heap = z := ⟨_, rfl⟩
  rw [e14] at hQ14
  obtain ⟨o1, o2, o3, o4, o5, o6, j0, j1, j2, j3, j4, j5, rfl, N14q, K14, sp14_o1, sp14_o2, sp14_o3, sp14_o4, sp14_o5, sp14_o6, ne14_o1_o2, ne14_o1_o3, ne14_o1_o4, ne14_o1_o5, ne14_o1_o6, ne14_o2_o3, ne14_o2_o4, ne14_o2_o5, ne14_o2_o6, ne14_o3_o4, ne14_o3_o5, ne14_o3_o6, ne14_o4_o5, ne14_o4_o6, ne14_o5_o6, R14_0, R14_1, R14_2, R14_3, R14_4, R14_5, R14_6, R14_7, R14_8, R14_9, R14_10, R14_11, R14_12, R14_13, R14_14, R14_15, R14_16, R14_17, R14_18⟩ := hQ14
  have N14 := Fr.app N0 N14q
  have g15 : n0 ≤ o1 := Nat.le_trans (own_le O1) sp14_o1
  have s16 : h0.size ≤ o1 := Nat.le_trans (KK1).1 sp14_o1
  have g17 : n0 ≤ o2 := Nat.le_trans (own_le O1) sp14_o2
  have s18 : h0.size ≤ o2 := Nat.le_trans (KK1).1 sp14_o2
  have g19 : n0 ≤ o3 := Nat.le_trans (own_le O1) sp14_o3
  have s20 : h0.size ≤ o3 := Nat.le_trans (KK1).1 sp14_o3
  have g21 : n0 ≤ o4 := Nat.le_trans (own_le O1) sp14_o4
  have s22 : h0.size ≤ o4 := Nat.le_trans (KK1).1 sp14_o4
  have g23 : n0 ≤ o5 := Nat.le_trans (own_le O1) sp14_o5
  have s24 : h0.size ≤ o5 := Nat.le_trans (KK1).1 sp14_o5
  have g25 : n0 ≤ o6 := Nat.le_trans (own_le O1) sp14_o6
  have s26 : h0.size ≤ o6 := Nat.le_trans (KK1).1 sp14_o6
  have O14 := Old.keep O1 K14 (allS g2 all0)
  have KK14 := Keep.trans KK1 K14 (allS (Or.inr s3) all0)
  have ne28 : o0 ≠ o2 := Nat.ne_of_lt (Nat.lt_of_lt_of_le (A1).lt sp14_o2)
  have ne29 : o0 ≠ o3 := Nat.ne_of_lt (Nat.lt_of_lt_of_le (A1).lt sp14_o3)
  have ne30 : o0 ≠ o1 := Nat.ne_of_lt (Nat.lt_of_lt_of_le (A1).lt sp14_o1)
  obtain ⟨cq27, kq27, q27a, q27b, q27c⟩ := isOf hZ e14 R14_9
  obtain ⟨_, _, ⟨T27, L27, k27, n27⟩, -, X27, ⟨Lc27, hQ27, l27, y27, z27⟩, st27⟩ := X14.virtualBack hx (y := (⟨kB, "add", "(ID)V"⟩ : MethodName)) (z := (⟨kB, "add", "(ID)V"⟩ : MethodName)) hown (mvT hZ (w_26 hw)) (mvT hZ (w_27 hw)) (notFace_of_selects (args := #[]) (mvT hZ (w_29 hw))) (mvT hZ (w_29 hw)) (mvT hZ (w_28 hw)) (by decide) (backOf (W := 0) (rm3_0 l Z a0 hw [] t0 (0 : Int32) (0 : Int32) (0 : Int32) (0 : Int64) (0 : Int64) (0 : Int64) (t1.toInt64) (3 : Int32) (0 : Int32) (0 : Int32) o0 o2 o3 o1 o4 o5 o6 j1 j2 j0 h14 n0 O14 R14_11 R14_1 d0 g17 R14_12 ne28 R14_16 R14_9 g2 R14_2 (Ne.symm ne14_o2_o3) (Ne.symm ne29) g19 R14_10 R14_0 ne14_o1_o2 (Ne.symm ne30) ne14_o1_o3 d1 d2 g15 R14_8 R14_13 R14_14 R14_15 R14_17 R14_18) hZ (w_30 hw) (w_2 hw) (by decide) (by decide)) q27a q27c (g := (mkF m 61 #[iv t2, iv t1, iv t3, iv t4, iv t5, iv t0, iv t6, iv t7, iv t8, rv o0, .unset, .unset, .unset, .unset] [(.double (FP.l2d (t1.toInt64))), (.int t0), (.ref o0)])) rfl (by rw [hml]; rfl) (Steps.refl _) (argsL := [(.int t0), (.double (FP.l2d (t1.toInt64)))]) (rest := []) (lenOf pd_1 rfl) rfl (by show 2 * 0 + _ ≤ _; exact Nat.le_of_eq rfl) (hb hby at_61) (fun _ _ => ⟨rfl, e14, (by decide : 7 + 0 ≤ _), (by decide : 29 + 0 ≤ _)⟩)
  dsimp only [Pt.U, Pt.locs, Pt.cells, Pt.slots] at X27 l27 y27 z27 st27 hQ27
  subst l27 y27 z27
  obtain ⟨h27, e27⟩ : ∃ z, T27.heap = z := ⟨_, rfl⟩
  rw [e27] at hQ27
  obtain ⟨rfl, N27q, K27, R27_0, R27_1, R27_2, R27_3, R27_4, R27_5, R27_6, R27_7, R27_8, R27_9, R27_10, R27_11, R27_12, R27_13⟩ := hQ27
  have N27 := Fr.app N14 N27q
  have O27 := Old.keep O14 K27 (allS g17 (allS g2 (allS g19 (allS g15 all0))))
  have KK27 := Keep.trans KK14 K27 (allS (Or.inr s18) (allS (Or.inr s3) (allS (Or.inr s20) (allS (Or.inr s16) all0))))
  have ne32 : o0 ≠ o4 := Nat.ne_of_lt (Nat.lt_of_lt_of_le (A1).lt sp14_o4)
  have F31 := (Arv.keep R14_3 K27 (ninS (Ne.symm ne14_o2_o4) (ninS (Ne.symm ne32) (ninS (Ne.symm ne14_o3_o4) (ninS (Ne.symm ne14_o1_o4) nin0)))))
  have F33 := (Exa.keep R14_4 K27)
  have ne35 : o0 ≠ o5 := Nat.ne_of_lt (Nat.lt_of_lt_of_le (A1).lt sp14_o5)
  have F34 := (Arv.keep R14_5 K27 (ninS (Ne.symm ne14_o2_o5) (ninS (Ne.symm ne35) (ninS (Ne.symm ne14_o3_o5) (ninS (Ne.symm ne14_o1_o5) nin0)))))
  have F36 := (Exa.keep R14_6 K27)
  have ne38 : o0 ≠ o6 := Nat.ne_of_lt (Nat.lt_of_lt_of_le (A1).lt sp14_o6)
  have F37 := (Arv.keep R14_7 K27 (ninS (Ne.symm ne14_o2_o6) (ninS (Ne.symm ne38) (ninS (Ne.symm ne14_o3_o6) (ninS (Ne.symm ne14_o1_o6) nin0)))))
  refine ⟨T27, h27, _, o0, o1, o2, o3, o4, o5, o6, j0, j1, j2, j3, j4, j5, X27, e27, N27, KK27, s3, s16, s18, s20, s22, s24, s26, ne30, ne28, ne29, ne32, ne35, ne38, ne14_o1_o2, ne14_o1_o3, ne14_o1_o4, ne14_o1_o5, ne14_o1_o6, ne14_o2_o3, ne14_o2_o4, ne14_o2_o5, ne14_o2_o6, ne14_o3_o4, ne14_o3_o5, ne14_o3_o6, ne14_o4_o5, ne14_o4_o6, ne14_o5_o6, R27_4, R27_6, R27_5, R27_1, R27_2, R27_7, R27_8, R27_9, R27_3, R27_10, R27_11, R27_13, R27_0, R27_12, F31, F33, F34, F36, F37, fun target kt => ?_⟩
  show Steps p.tables e below (T0.setTop (mkF m 45 #[iv t2, iv t1, iv t3, iv t4, iv t5, iv t0, iv t6, iv t7, iv t8, .unset, .unset, .unset, .unset, .unset] [])) _
  refine st1 _ ?_
  refine XS.dup X1.here hx rfl (hb hby at_48) rfl rfl ?_
  refine oK X1 hx hby at_49 rfl ?_
  refine st14.trans ?_
  refine XS.astore X14.here hx rfl (hb hby at_53) rfl rfl (l' := #[iv t2, iv t1, iv t3, iv t4, iv t5, iv t0, iv t6, iv t7, iv t8, rv o0, .unset, .unset, .unset, .unset]) rfl ?_
  refine oa X14 hx hby at_55 rfl rfl rfl ?_
  refine oi X14 hx hby at_57 rfl rfl ?_
  refine oI X14 hx hby at_59 rfl rfl ?_
  refine XS.i2dS X14.here hx rfl (hb hby at_60) rfl (v := FP.l2d (t1.toInt64)) (i2d_w t1) ?_
  refine st27.trans ?_
  exact kt
def Q3_1 (Z : State) (t0 t1 t2 t3 t4 t5 t6 : Int32) (t7 t8 t9 t10 : Int64) (t11 t12 t13 : Int32) (o0 o1 o2 o3 o4 o5 o6 : Addr) (j0 j1 j2 : ClassId) (h0 : Heap) (n0 : Nat) (v : Option Value) (h : Heap) (L : List Loc) : Prop := v = none ∧ Fr n0 L ∧ Keep h0 h [o1, o0, o2, o3] ∧ AZ3 Z h o1 j0 (own_ui t0 0 1 t1) (own_ui t0 1 1 t2) (own_ui t0 2 1 t3) ∧ fB2 Z h o0 (.ref o1) ∧ fB3 Z h o0 (.ref o2) ∧ fB7 Z h o0 (.int 2) ∧ Exa Z h o0 kB ∧ fB1 Z h o0 (.ref o3) ∧ fB0 Z h o0 (.int t11) ∧ fB4 Z h o0 (.ref o4) ∧ fB5 Z h o0 (.ref o5) ∧ fB6 Z h o0 (.ref o6) ∧ fB8 Z h o0 (.int t12) ∧ fB9 Z h o0 (.int t13) ∧ AI3 Z h o2 j1 t4 t0 t6 ∧ AD3 Z h o3 j2 (t7 + (own_pt t0 0 t10)) (t8 + (own_pt t0 1 t10)) (t9 + (own_pt t0 2 t10))
theorem rm3_1 (l : Launch) (Z : State) (a0 : Array Value) (hw : HW a0 Z) (ws : List Jvm.Cond) (t0 t1 t2 t3 t4 t5 t6 : Int32) (t7 t8 t9 t10 : Int64) (t11 t12 t13 : Int32) (o0 o1 o2 o3 o4 o5 o6 : Addr) (j0 j1 j2 : ClassId) (h0 : Heap) (n0 : Nat) (OO : Old Z n0 h0) (f0 : fB2 Z h0 o0 (.ref o1)) (f1 : AZ3 Z h0 o1 j0 t1 t2 t3) (d0 : own_in3 t0) (u0 : n0 ≤ o1) (f2 : fB3 Z h0 o0 (.ref o2)) (v0 : o0 ≠ o1) (f3 : fB7 Z h0 o0 (.int 1)) (f4 : Exa Z h0 o0 kB) (u1 : n0 ≤ o0) (f5 : AI3 Z h0 o2 j1 t4 t5 t6) (v1 : o2 ≠ o1) (v2 : o2 ≠ o0) (u2 : n0 ≤ o2) (f6 : fB1 Z h0 o0 (.ref o3)) (f7 : AD3 Z h0 o3 j2 t7 t8 t9) (v3 : o3 ≠ o1) (v4 : o3 ≠ o0) (v5 : o3 ≠ o2) (d1 : B53 (own_pk t0 t7 t8 t9)) (d2 : B53 t10) (u3 : n0 ≤ o3) (f8 : fB0 Z h0 o0 (.int t11)) (f9 : fB4 Z h0 o0 (.ref o4)) (f10 : fB5 Z h0 o0 (.ref o5)) (f11 : fB6 Z h0 o0 (.ref o6)) (f12 : fB8 Z h0 o0 (.int t12)) (f13 : fB9 Z h0 o0 (.int t13)) (hq0 : (own_pi t0 t1 t2 t3) = (0 : Int32)) :
    own_MF l Z h0 (⟨kB, "add", "(ID)V"⟩ : MethodName) ws prog_58_method_2_code 4 none ({ frames := 0, cells := 0, slots := 0, locals := 0 } : Room) #[(.ref o0), (.int t0), (.double (FP.l2d t10))] (Q3_1 Z t0 t1 t2 t3 t4 t5 t6 t7 t8 t9 t10 t11 t12 t13 o0 o1 o2 o3 o4 o5 o6 j0 j1 j2 h0 n0) := by
  refine MetFree.of_bodySF (plainFor_of_name pn_3) hisR ?_
  intro p e s m args below meth c s₁ Bd hml0 hP hK
  obtain ⟨rfl, hZ, hh⟩ := hP
  have hx := Bd.exec
  have hby := Bd.bytes
  have hml : c.maxLocals = 4 := hml0
  have hown : s.vm.findClass kB = some m.cls := findClass_of_methodNamed Bd.named
  have X0 : Stand p l e ({ frames := 0, cells := 0, slots := 0, locals := 0 } : Room) s m #[(.ref o0), (.int t0), (.double (FP.l2d t10))] below meth c s₁ [] 0 0 := Stand.of_body Bd
  have e0 : s₁.heap = h0 := by rw [← hh, Bd.state]; rfl
  have N0 := Fr.nil n0
  obtain ⟨T1, X1, e1, st1⟩ := own_gF X0 hx hZ hown (w_15 hw) e0 f0 (g := (mkF m 1 #[rv o0, iv t0, .val (.double (FP.l2d t10)), .second] [(.ref o0)])) rfl rfl (hb hby d3_1)
  obtain ⟨c2, r2, q2, S2, M2, H2, G2⟩ := id f1
  have i3 := own_inb (j := t0) S2 d0
  have y4 := own_rdI S2 H2 d0
  obtain ⟨T5, X5, e5, st5⟩ := own_gF X1 hx hZ hown (w_15 hw) e1 f0 (g := (mkF m 10 #[rv o0, iv t0, .val (.double (FP.l2d t10)), .second] [(.ref o0)])) rfl rfl (hb hby d3_10)
  obtain ⟨c6, r6, q6, S6, M6, H6, G6⟩ := id f1
  have i7 := own_inb (j := t0) S6 d0
  obtain ⟨T8, h8, X8, e8, W8, st8⟩ := stZ X5 hx hZ e5 r6 (j := t0) i7 (g := (mkF m 15 #[rv o0, iv t0, .val (.double (FP.l2d t10)), .second] [(.int 1), (.int t0), (.ref o1)])) rfl rfl (hb hby d3_15)
  have O8 := Old.wr OO W8 u0
  have KK8 := Keep.wr (Keep.refl h0 [o1, o0, o2, o3]) W8 (Or.inl (own_m 0 rfl))
  have N8 := Fr.snoc X8 N0 u0
  have F9 : AZ3 Z h8 o1 j0 (own_ui t0 0 1 t1) (own_ui t0 1 1 t2) (own_ui t0 2 1 t3) := own_setI r6 q6 S6 M6 H6 G6 (by decide) W8 d0
  have F10 := (Fld.other W8 f2 (Or.inl v0))
  obtain ⟨T11, X11, e11, st11⟩ := own_gF X8 hx hZ hown (w_18 hw) e8 F10 (g := (mkF m 17 #[rv o0, iv t0, .val (.double (FP.l2d t10)), .second] [(.ref o0)])) rfl rfl (hb hby d3_17)
  have F12 := (Fld.other W8 f3 (Or.inl v0))
  obtain ⟨T13, X13, e13, st13⟩ := own_gF X11 hx hZ hown (w_31 hw) e11 F12 (g := (mkF m 22 #[rv o0, iv t0, .val (.double (FP.l2d t10)), .second] [(.ref o0), (.ref o0), (.ref o2)])) rfl rfl (hb hby d3_22)
  have F14 := (Exa.wr W8 f4)
  obtain ⟨T15, h15, X15, e15, W15, st15⟩ := putF X13 hx hZ hown (host := "") (Or.inl (w_31 hw)) Via.refl e13 F12 F14 (Or.inl (w_32 hw)) (w_1 hw) (ty := .int) (by decide) rfl rfl (g := (mkF m 28 #[rv o0, iv t0, .val (.double (FP.l2d t10)), .second] [(.int 2), (.ref o0), (.int 1), (.ref o2)])) rfl rfl (hb hby d3_28)
  have O15 := Old.wr O8 W15 u1
  have KK15 := Keep.wr KK8 W15 (Or.inl (own_m 1 rfl))
  have N15 := Fr.snoc X15 N8 u1
  have F16 : fB7 Z h15 o0 (.int 2) := Fld.same W15 F12
  have F18 := (Arv.other (Arv.other f5 W8 v1) W15 v2)
  obtain ⟨c17, r17, q17, S17, M17, H17, G17⟩ := id F18
  have i19 := inb_of (j := 1) S17 (by decide)
  obtain ⟨T20, h20, X20, e20, W20, st20⟩ := stI X15 hx hZ e15 r17 (j := (1 : Int32)) i19 (g := (mkF m 32 #[rv o0, iv t0, .val (.double (FP.l2d t10)), .second] [(.int t0), (.int 1), (.ref o2)])) rfl rfl (hb hby d3_32)
  have O20 := Old.wr O15 W20 u2
  have KK20 := Keep.wr KK15 W20 (Or.inl (own_m 2 rfl))
  have N20 := Fr.snoc X20 N15 u2
  have F21 : AI3 Z h20 o2 j1 t4 t0 t6 := Arv.set r17 q17 S17 M17 H17 G17 rfl W20 1 rfl (Nat.le_of_ble_eq_true rfl)
  have F22 := (Fld.other W20 (Fld.other W15 (Fld.other W8 f6 (Or.inl v0)) (Or.inr (n_13_32 hw))) (Or.inl (Ne.symm v2)))
  obtain ⟨T23, X23, e23, st23⟩ := own_gF X20 hx hZ hown (w_12 hw) e20 F22 (g := (mkF m 34 #[rv o0, iv t0, .val (.double (FP.l2d t10)), .second] [(.ref o0)])) rfl rfl (hb hby d3_34)
  have F25 := (Arv.other (Arv.other (Arv.other f7 W8 v3) W15 v4) W20 v5)
  obtain ⟨c24, r24, q24, S24, M24, H24, G24⟩ := id F25
  have i26 := own_inb (j := t0) S24 d0
  have y27 := own_rdD S24 H24 d0
  obtain ⟨c28, r28, q28, S28, M28, H28, G28⟩ := id F25
  have i29 := own_inb (j := t0) S28 d0
  obtain ⟨T30, h30, X30, e30, W30, st30⟩ := stD X23 hx hZ e23 r28 (j := t0) i29 (g := (mkF m 42 #[rv o0, iv t0, .val (.double (FP.l2d t10)), .second] [(.double (FP.l2d ((own_pk t0 t7 t8 t9) + t10))), (.int t0), (.ref o3)])) rfl rfl (hb hby d3_42)
  have O30 := Old.wr O20 W30 u3
  have KK30 := Keep.wr KK20 W30 (Or.inl (own_m 3 rfl))
  have N30 := Fr.snoc X30 N20 u3
  have F31 : AD3 Z h30 o3 j2 (t7 + (own_pt t0 0 t10)) (t8 + (own_pt t0 1 t10)) (t9 + (own_pt t0 2 t10)) := own_setP r28 q28 S28 M28 H28 G28 W30 d0
  have F32 := (Arv.other (Arv.other (Arv.other F9 W15 (Ne.symm v0)) W20 (Ne.symm v1)) W30 (Ne.symm v3))
  have F33 := (Fld.other W30 (Fld.other W20 (Fld.other W15 (Fld.other W8 f0 (Or.inl v0)) (Or.inr (n_16_32 hw))) (Or.inl (Ne.symm v2))) (Or.inl (Ne.symm v4)))
  have F34 := (Fld.other W30 (Fld.other W20 (Fld.other W15 F10 (Or.inr (n_19_32 hw))) (Or.inl (Ne.symm v2))) (Or.inl (Ne.symm v4)))
  have F35 := (Fld.other W30 (Fld.other W20 F16 (Or.inl (Ne.symm v2))) (Or.inl (Ne.symm v4)))
  have F36 := (Exa.wr W30 (Exa.wr W20 (Exa.wr W15 F14)))
  have F37 := (Fld.other W30 F22 (Or.inl (Ne.symm v4)))
  have F38 := (Fld.other W30 (Fld.other W20 (Fld.other W15 (Fld.other W8 f8 (Or.inl v0)) (Or.inr (n_10_32 hw))) (Or.inl (Ne.symm v2))) (Or.inl (Ne.symm v4)))
  have F39 := (Fld.other W30 (Fld.other W20 (Fld.other W15 (Fld.other W8 f9 (Or.inl v0)) (Or.inr (n_21_32 hw))) (Or.inl (Ne.symm v2))) (Or.inl (Ne.symm v4)))
  have F40 := (Fld.other W30 (Fld.other W20 (Fld.other W15 (Fld.other W8 f10 (Or.inl v0)) (Or.inr (n_23_32 hw))) (Or.inl (Ne.symm v2))) (Or.inl (Ne.symm v4)))
  have F41 := (Fld.other W30 (Fld.other W20 (Fld.other W15 (Fld.other W8 f11 (Or.inl v0)) (Or.inr (n_25_32 hw))) (Or.inl (Ne.symm v2))) (Or.inl (Ne.symm v4)))
  have F42 := (Fld.other W30 (Fld.other W20 (Fld.other W15 (Fld.other W8 f12 (Or.inl v0)) (Or.inr (n_39_32 hw))) (Or.inl (Ne.symm v2))) (Or.inl (Ne.symm v4)))
  have F43 := (Fld.other W30 (Fld.other W20 (Fld.other W15 (Fld.other W8 f13 (Or.inl v0)) (Or.inr (n_58_32 hw))) (Or.inl (Ne.symm v2))) (Or.inl (Ne.symm v4)))
  have F44 := (Arv.other F21 W30 (Ne.symm v5))
  obtain ⟨fs, hr, hrun, hended, hW, hsame⟩ := X30.leave (v := none) (fun _ => rfl)
  refine ⟨_, _, (castTop (ef_3 m o0 t0 (FP.l2d t10)) ?_), hrun, hended, _, _, rfl, ?_, ⟨_, rfl⟩, hW, hsame.mono (by decide) (by decide)⟩
  · show Steps p.tables e below (s₁.setTop (mkF m 0 #[rv o0, iv t0, .val (.double (FP.l2d t10)), .second] [])) _
    refine oA X0 hx hby d3_0 rfl rfl rfl ?_
    refine st1 _ ?_
    refine oI X1 hx hby d3_4 rfl rfl ?_
    refine X1.baloadBooleans hx (j := t0) (v := (.int (own_pi t0 t1 t2 t3))) (by rw [e1]; exact r2.1) (State.isArrayOf_alike hZ.alike r2.2.1) r2.2.2 i3 y4 (g := (mkF m 5 #[rv o0, iv t0, .val (.double (FP.l2d t10)), .second] [(.int t0), (.ref o1)])) rfl rfl (hb hby d3_5) _ ?_
    refine XS.ifNo X1.here hx rfl (hb hby d3_6) rfl ((if0 _ _).trans (teq hq0).2) ?_
    refine oA X1 hx hby d3_9 rfl rfl rfl ?_
    refine st5 _ ?_
    refine oI X5 hx hby d3_13 rfl rfl ?_
    refine oK X5 hx hby d3_14 rfl ?_
    refine st8 _ ?_
    refine oA X8 hx hby d3_16 rfl rfl rfl ?_
    refine st11 _ ?_
    refine oA X11 hx hby d3_20 rfl rfl rfl ?_
    refine XS.dup X11.here hx rfl (hb hby d3_21) rfl rfl ?_
    refine st13 _ ?_
    refine XS.dupX1 X13.here hx rfl (hb hby d3_25) rfl rfl rfl ?_
    refine oK X13 hx hby d3_26 rfl ?_
    refine XS.iadd X13.here hx rfl (hb hby d3_27) rfl ?_
    show Steps p.tables e below (T13.setTop (mkF m 28 #[rv o0, iv t0, .val (.double (FP.l2d t10)), .second] [(.int ((1 : Int32) + (1 : Int32))), (.ref o0), (.int 1), (.ref o2)])) _
    rw [(by decide : ((1 : Int32) + (1 : Int32)) = (2 : Int32))]
    refine st15 _ ?_
    refine oI X15 hx hby d3_31 rfl rfl ?_
    refine st20 _ ?_
    refine oA X20 hx hby d3_33 rfl rfl rfl ?_
    refine st23 _ ?_
    refine oI X23 hx hby d3_37 rfl rfl ?_
    refine XT.dup2 X23.here hx rfl (hb hby d3_38) rfl rfl rfl ?_
    refine oD X23 hx hZ e23 r24 i26 y27 (by exact hb hby d3_39) rfl rfl ?_
    refine XS.dloadN X23.here hx rfl (hb hby d3_40) rfl ?_
    refine XS.daddS X23.here hx rfl (hb hby d3_41) rfl (nn_w (dadd_w d1 d2)) (v := FP.l2d ((own_pk t0 t7 t8 t9) + t10)) (dadd_w d1 d2) ?_
    refine st30 _ ?_
    exact X30.returnOut hx Bd.returns (hb hby d3_43) hr
  · show Q3_1 Z t0 t1 t2 t3 t4 t5 t6 t7 t8 t9 t10 t11 t12 t13 o0 o1 o2 o3 o4 o5 o6 j0 j1 j2 h0 n0 _ T30.heap _
    rw [e30]
    exact ⟨rfl, N30, KK30, F32, F33, F34, F35, F36, F37, F38, F39, F40, F41, F42, F43, F44, F31⟩
def Q3_2 (Z : State) (t0 t1 t2 t3 t4 t5 t6 : Int32) (t7 t8 t9 t10 : Int64) (t11 t12 t13 : Int32) (o0 o1 o2 o3 o4 o5 o6 : Addr) (j0 j1 j2 : ClassId) (h0 : Heap) (n0 : Nat) (v : Option Value) (h : Heap) (L : List Loc) : Prop := v = none ∧ Fr n0 L ∧ Keep h0 h [o1, o0, o2, o3] ∧ AZ3 Z h o1 j0 (own_ui t0 0 1 t1) (own_ui t0 1 1 t2) (own_ui t0 2 1 t3) ∧ fB2 Z h o0 (.ref o1) ∧ fB3 Z h o0 (.ref o2) ∧ fB7 Z h o0 (.int 3) ∧ Exa Z h o0 kB ∧ fB1 Z h o0 (.ref o3) ∧ fB0 Z h o0 (.int t11) ∧ fB4 Z h o0 (.ref o4) ∧ fB5 Z h o0 (.ref o5) ∧ fB6 Z h o0 (.ref o6) ∧ fB8 Z h o0 (.int t12) ∧ fB9 Z h o0 (.int t13) ∧ AI3 Z h o2 j1 t4 t5 t0 ∧ AD3 Z h o3 j2 (t7 + (own_pt t0 0 t10)) (t8 + (own_pt t0 1 t10)) (t9 + (own_pt t0 2 t10))
theorem rm3_2 (l : Launch) (Z : State) (a0 : Array Value) (hw : HW a0 Z) (ws : List Jvm.Cond) (t0 t1 t2 t3 t4 t5 t6 : Int32) (t7 t8 t9 t10 : Int64) (t11 t12 t13 : Int32) (o0 o1 o2 o3 o4 o5 o6 : Addr) (j0 j1 j2 : ClassId) (h0 : Heap) (n0 : Nat) (OO : Old Z n0 h0) (f0 : fB2 Z h0 o0 (.ref o1)) (f1 : AZ3 Z h0 o1 j0 t1 t2 t3) (d0 : own_in3 t0) (u0 : n0 ≤ o1) (f2 : fB3 Z h0 o0 (.ref o2)) (v0 : o0 ≠ o1) (f3 : fB7 Z h0 o0 (.int 2)) (f4 : Exa Z h0 o0 kB) (u1 : n0 ≤ o0) (f5 : AI3 Z h0 o2 j1 t4 t5 t6) (v1 : o2 ≠ o1) (v2 : o2 ≠ o0) (u2 : n0 ≤ o2) (f6 : fB1 Z h0 o0 (.ref o3)) (f7 : AD3 Z h0 o3 j2 t7 t8 t9) (v3 : o3 ≠ o1) (v4 : o3 ≠ o0) (v5 : o3 ≠ o2) (d1 : B53 (own_pk t0 t7 t8 t9)) (d2 : B53 t10) (u3 : n0 ≤ o3) (f8 : fB0 Z h0 o0 (.int t11)) (f9 : fB4 Z h0 o0 (.ref o4)) (f10 : fB5 Z h0 o0 (.ref o5)) (f11 : fB6 Z h0 o0 (.ref o6)) (f12 : fB8 Z h0 o0 (.int t12)) (f13 : fB9 Z h0 o0 (.int t13)) (hq0 : (own_pi t0 t1 t2 t3) = (0 : Int32)) :
    own_MF l Z h0 (⟨kB, "add", "(ID)V"⟩ : MethodName) ws prog_58_method_2_code 4 none ({ frames := 0, cells := 0, slots := 0, locals := 0 } : Room) #[(.ref o0), (.int t0), (.double (FP.l2d t10))] (Q3_2 Z t0 t1 t2 t3 t4 t5 t6 t7 t8 t9 t10 t11 t12 t13 o0 o1 o2 o3 o4 o5 o6 j0 j1 j2 h0 n0) := by
  refine MetFree.of_bodySF (plainFor_of_name pn_3) hisR ?_
  intro p e s m args below meth c s₁ Bd hml0 hP hK
  obtain ⟨rfl, hZ, hh⟩ := hP
  have hx := Bd.exec
  have hby := Bd.bytes
  have hml : c.maxLocals = 4 := hml0
  have hown : s.vm.findClass kB = some m.cls := findClass_of_methodNamed Bd.named
  have X0 : Stand p l e ({ frames := 0, cells := 0, slots := 0, locals := 0 } : Room) s m #[(.ref o0), (.int t0), (.double (FP.l2d t10))] below meth c s₁ [] 0 0 := Stand.of_body Bd
  have e0 : s₁.heap = h0 := by rw [← hh, Bd.state]; rfl
  have N0 := Fr.nil n0
  obtain ⟨T1, X1, e1, st1⟩ := own_gF X0 hx hZ hown (w_15 hw) e0 f0 (g := (mkF m 1 #[rv o0, iv t0, .val (.double (FP.l2d t10)), .second] [(.ref o0)])) rfl rfl (hb hby d3_1)
  obtain ⟨c2, r2, q2, S2, M2, H2, G2⟩ := id f1
  have i3 := own_inb (j := t0) S2 d0
  have y4 := own_rdI S2 H2 d0
  obtain ⟨T5, X5, e5, st5⟩ := own_gF X1 hx hZ hown (w_15 hw) e1 f0 (g := (mkF m 10 #[rv o0, iv t0, .val (.double (FP.l2d t10)), .second] [(.ref o0)])) rfl rfl (hb hby d3_10)
  obtain ⟨c6, r6, q6, S6, M6, H6, G6⟩ := id f1
  have i7 := own_inb (j := t0) S6 d0
  obtain ⟨T8, h8, X8, e8, W8, st8⟩ := stZ X5 hx hZ e5 r6 (j := t0) i7 (g := (mkF m 15 #[rv o0, iv t0, .val (.double (FP.l2d t10)), .second] [(.int 1), (.int t0), (.ref o1)])) rfl rfl (hb hby d3_15)
  have O8 := Old.wr OO W8 u0
  have KK8 := Keep.wr (Keep.refl h0 [o1, o0, o2, o3]) W8 (Or.inl (own_m 0 rfl))
  have N8 := Fr.snoc X8 N0 u0
  have F9 : AZ3 Z h8 o1 j0 (own_ui t0 0 1 t1) (own_ui t0 1 1 t2) (own_ui t0 2 1 t3) := own_setI r6 q6 S6 M6 H6 G6 (by decide) W8 d0
  have F10 := (Fld.other W8 f2 (Or.inl v0))
  obtain ⟨T11, X11, e11, st11⟩ := own_gF X8 hx hZ hown (w_18 hw) e8 F10 (g := (mkF m 17 #[rv o0, iv t0, .val (.double (FP.l2d t10)), .second] [(.ref o0)])) rfl rfl (hb hby d3_17)
  have F12 := (Fld.other W8 f3 (Or.inl v0))
  obtain ⟨T13, X13, e13, st13⟩ := own_gF X11 hx hZ hown (w_31 hw) e11 F12 (g := (mkF m 22 #[rv o0, iv t0, .val (.double (FP.l2d t10)), .second] [(.ref o0), (.ref o0), (.ref o2)])) rfl rfl (hb hby d3_22)
  have F14 := (Exa.wr W8 f4)
  obtain ⟨T15, h15, X15, e15, W15, st15⟩ := putF X13 hx hZ hown (host := "") (Or.inl (w_31 hw)) Via.refl e13 F12 F14 (Or.inl (w_32 hw)) (w_1 hw) (ty := .int) (by decide) rfl rfl (g := (mkF m 28 #[rv o0, iv t0, .val (.double (FP.l2d t10)), .second] [(.int 3), (.ref o0), (.int 2), (.ref o2)])) rfl rfl (hb hby d3_28)
  have O15 := Old.wr O8 W15 u1
  have KK15 := Keep.wr KK8 W15 (Or.inl (own_m 1 rfl))
  have N15 := Fr.snoc X15 N8 u1
  have F16 : fB7 Z h15 o0 (.int 3) := Fld.same W15 F12
  have F18 := (Arv.other (Arv.other f5 W8 v1) W15 v2)
  obtain ⟨c17, r17, q17, S17, M17, H17, G17⟩ := id F18
  have i19 := inb_of (j := 2) S17 (by decide)
  obtain ⟨T20, h20, X20, e20, W20, st20⟩ := stI X15 hx hZ e15 r17 (j := (2 : Int32)) i19 (g := (mkF m 32 #[rv o0, iv t0, .val (.double (FP.l2d t10)), .second] [(.int t0), (.int 2), (.ref o2)])) rfl rfl (hb hby d3_32)
  have O20 := Old.wr O15 W20 u2
  have KK20 := Keep.wr KK15 W20 (Or.inl (own_m 2 rfl))
  have N20 := Fr.snoc X20 N15 u2
  have F21 : AI3 Z h20 o2 j1 t4 t5 t0 := Arv.set r17 q17 S17 M17 H17 G17 rfl W20 2 rfl (Nat.le_of_ble_eq_true rfl)
  have F22 := (Fld.other W20 (Fld.other W15 (Fld.other W8 f6 (Or.inl v0)) (Or.inr (n_13_32 hw))) (Or.inl (Ne.symm v2)))
  obtain ⟨T23, X23, e23, st23⟩ := own_gF X20 hx hZ hown (w_12 hw) e20 F22 (g := (mkF m 34 #[rv o0, iv t0, .val (.double (FP.l2d t10)), .second] [(.ref o0)])) rfl rfl (hb hby d3_34)
  have F25 := (Arv.other (Arv.other (Arv.other f7 W8 v3) W15 v4) W20 v5)
  obtain ⟨c24, r24, q24, S24, M24, H24, G24⟩ := id F25
  have i26 := own_inb (j := t0) S24 d0
  have y27 := own_rdD S24 H24 d0
  obtain ⟨c28, r28, q28, S28, M28, H28, G28⟩ := id F25
  have i29 := own_inb (j := t0) S28 d0
  obtain ⟨T30, h30, X30, e30, W30, st30⟩ := stD X23 hx hZ e23 r28 (j := t0) i29 (g := (mkF m 42 #[rv o0, iv t0, .val (.double (FP.l2d t10)), .second] [(.double (FP.l2d ((own_pk t0 t7 t8 t9) + t10))), (.int t0), (.ref o3)])) rfl rfl (hb hby d3_42)
  have O30 := Old.wr O20 W30 u3
  have KK30 := Keep.wr KK20 W30 (Or.inl (own_m 3 rfl))
  have N30 := Fr.snoc X30 N20 u3
  have F31 : AD3 Z h30 o3 j2 (t7 + (own_pt t0 0 t10)) (t8 + (own_pt t0 1 t10)) (t9 + (own_pt t0 2 t10)) := own_setP r28 q28 S28 M28 H28 G28 W30 d0
  have F32 := (Arv.other (Arv.other (Arv.other F9 W15 (Ne.symm v0)) W20 (Ne.symm v1)) W30 (Ne.symm v3))
  have F33 := (Fld.other W30 (Fld.other W20 (Fld.other W15 (Fld.other W8 f0 (Or.inl v0)) (Or.inr (n_16_32 hw))) (Or.inl (Ne.symm v2))) (Or.inl (Ne.symm v4)))
  have F34 := (Fld.other W30 (Fld.other W20 (Fld.other W15 F10 (Or.inr (n_19_32 hw))) (Or.inl (Ne.symm v2))) (Or.inl (Ne.symm v4)))
  have F35 := (Fld.other W30 (Fld.other W20 F16 (Or.inl (Ne.symm v2))) (Or.inl (Ne.symm v4)))
  have F36 := (Exa.wr W30 (Exa.wr W20 (Exa.wr W15 F14)))
  have F37 := (Fld.other W30 F22 (Or.inl (Ne.symm v4)))
  have F38 := (Fld.other W30 (Fld.other W20 (Fld.other W15 (Fld.other W8 f8 (Or.inl v0)) (Or.inr (n_10_32 hw))) (Or.inl (Ne.symm v2))) (Or.inl (Ne.symm v4)))
  have F39 := (Fld.other W30 (Fld.other W20 (Fld.other W15 (Fld.other W8 f9 (Or.inl v0)) (Or.inr (n_21_32 hw))) (Or.inl (Ne.symm v2))) (Or.inl (Ne.symm v4)))
  have F40 := (Fld.other W30 (Fld.other W20 (Fld.other W15 (Fld.other W8 f10 (Or.inl v0)) (Or.inr (n_23_32 hw))) (Or.inl (Ne.symm v2))) (Or.inl (Ne.symm v4)))
  have F41 := (Fld.other W30 (Fld.other W20 (Fld.other W15 (Fld.other W8 f11 (Or.inl v0)) (Or.inr (n_25_32 hw))) (Or.inl (Ne.symm v2))) (Or.inl (Ne.symm v4)))
  have F42 := (Fld.other W30 (Fld.other W20 (Fld.other W15 (Fld.other W8 f12 (Or.inl v0)) (Or.inr (n_39_32 hw))) (Or.inl (Ne.symm v2))) (Or.inl (Ne.symm v4)))
  have F43 := (Fld.other W30 (Fld.other W20 (Fld.other W15 (Fld.other W8 f13 (Or.inl v0)) (Or.inr (n_58_32 hw))) (Or.inl (Ne.symm v2))) (Or.inl (Ne.symm v4)))
  have F44 := (Arv.other F21 W30 (Ne.symm v5))
  obtain ⟨fs, hr, hrun, hended, hW, hsame⟩ := X30.leave (v := none) (fun _ => rfl)
  refine ⟨_, _, (castTop (ef_3 m o0 t0 (FP.l2d t10)) ?_), hrun, hended, _, _, rfl, ?_, ⟨_, rfl⟩, hW, hsame.mono (by decide) (by decide)⟩
  · show Steps p.tables e below (s₁.setTop (mkF m 0 #[rv o0, iv t0, .val (.double (FP.l2d t10)), .second] [])) _
    refine oA X0 hx hby d3_0 rfl rfl rfl ?_
    refine st1 _ ?_
    refine oI X1 hx hby d3_4 rfl rfl ?_
    refine X1.baloadBooleans hx (j := t0) (v := (.int (own_pi t0 t1 t2 t3))) (by rw [e1]; exact r2.1) (State.isArrayOf_alike hZ.alike r2.2.1) r2.2.2 i3 y4 (g := (mkF m 5 #[rv o0, iv t0, .val (.double (FP.l2d t10)), .second] [(.int t0), (.ref o1)])) rfl rfl (hb hby d3_5) _ ?_
    refine XS.ifNo X1.here hx rfl (hb hby d3_6) rfl ((if0 _ _).trans (teq hq0).2) ?_
    refine oA X1 hx hby d3_9 rfl rfl rfl ?_
    refine st5 _ ?_
    refine oI X5 hx hby d3_13 rfl rfl ?_
    refine oK X5 hx hby d3_14 rfl ?_
    refine st8 _ ?_
    refine oA X8 hx hby d3_16 rfl rfl rfl ?_
    refine st11 _ ?_
    refine oA X11 hx hby d3_20 rfl rfl rfl ?_
    refine XS.dup X11.here hx rfl (hb hby d3_21) rfl rfl ?_
    refine st13 _ ?_
    refine XS.dupX1 X13.here hx rfl (hb hby d3_25) rfl rfl rfl ?_
    refine oK X13 hx hby d3_26 rfl ?_
    refine XS.iadd X13.here hx rfl (hb hby d3_27) rfl ?_
    show Steps p.tables e below (T13.setTop (mkF m 28 #[rv o0, iv t0, .val (.double (FP.l2d t10)), .second] [(.int ((2 : Int32) + (1 : Int32))), (.ref o0), (.int 2), (.ref o2)])) _
    rw [(by decide : ((2 : Int32) + (1 : Int32)) = (3 : Int32))]
    refine st15 _ ?_
    refine oI X15 hx hby d3_31 rfl rfl ?_
    refine st20 _ ?_
    refine oA X20 hx hby d3_33 rfl rfl rfl ?_
    refine st23 _ ?_
    refine oI X23 hx hby d3_37 rfl rfl ?_
    refine XT.dup2 X23.here hx rfl (hb hby d3_38) rfl rfl rfl ?_
    refine oD X23 hx hZ e23 r24 i26 y27 (by exact hb hby d3_39) rfl rfl ?_
    refine XS.dloadN X23.here hx rfl (hb hby d3_40) rfl ?_
    refine XS.daddS X23.here hx rfl (hb hby d3_41) rfl (nn_w (dadd_w d1 d2)) (v := FP.l2d ((own_pk t0 t7 t8 t9) + t10)) (dadd_w d1 d2) ?_
    refine st30 _ ?_
    exact X30.returnOut hx Bd.returns (hb hby d3_43) hr
  · show Q3_2 Z t0 t1 t2 t3 t4 t5 t6 t7 t8 t9 t10 t11 t12 t13 o0 o1 o2 o3 o4 o5 o6 j0 j1 j2 h0 n0 _ T30.heap _
    rw [e30]
    exact ⟨rfl, N30, KK30, F32, F33, F34, F35, F36, F37, F38, F39, F40, F41, F42, F43, F44, F31⟩
def Q6_0 (Z : State) (t0 t1 t2 : Int32) (h0 : Heap) (n0 : Nat) (v : Option Value) (h : Heap) (L : List Loc) : Prop := v = none ∧ Fr n0 L ∧ h = h0
theorem rm6_0 (l : Launch) (Z : State) (a0 : Array Value) (hw : HW a0 Z) (ws : List Jvm.Cond) (t0 t1 t2 : Int32) (h0 : Heap) (n0 : Nat) (OO : Old Z n0 h0) (d0 : ¬ (t0 < t1)) (d1 : ¬ (t1 < (0 : Int32))) (d2 : ¬ (t2 < t0)) :
    own_MF l Z h0 (⟨"java/util/Arrays", "rangeCheck", "(III)V"⟩ : MethodName) ws jdk_65_method_30_code 3 none ({ frames := 0, cells := 0, slots := 0, locals := 0 } : Room) #[(.int t2), (.int t1), (.int t0)] (Q6_0 Z t0 t1 t2 h0 n0) := by
  refine MetFree.of_bodySF (plainFor_of_name pn_6) hisR ?_
  intro p e s m args below meth c s₁ Bd hml0 hP hK
  obtain ⟨rfl, hZ, hh⟩ := hP
  have hx := Bd.exec
  have hby := Bd.bytes
  have hml : c.maxLocals = 3 := hml0
  have hown : s.vm.findClass "java/util/Arrays" = some m.cls := findClass_of_methodNamed Bd.named
  have X0 : Stand p l e ({ frames := 0, cells := 0, slots := 0, locals := 0 } : Room) s m #[(.int t2), (.int t1), (.int t0)] below meth c s₁ [] 0 0 := Stand.of_body Bd
  have e0 : s₁.heap = h0 := by rw [← hh, Bd.state]; rfl
  have N0 := Fr.nil n0
  obtain ⟨fs, hr, hrun, hended, hW, hsame⟩ := X0.leave (v := none) (fun _ => rfl)
  refine ⟨_, _, (castTop (ef_6 m t2 t1 t0) ?_), hrun, hended, _, _, rfl, ?_, ⟨_, rfl⟩, hW, hsame.mono (by decide) (by decide)⟩
  · show Steps p.tables e below (s₁.setTop (mkF m 0 #[iv t2, iv t1, iv t0] [])) _
    refine oI X0 hx hby d6_0 rfl rfl ?_
    refine oI X0 hx hby d6_1 rfl rfl ?_
    refine XS.icmpYes X0.here hx rfl (pc0 := 2) (pc' := 46) rfl (hb hby d6_2) rfl (flt d0).2.2.2 (by decide) (by decide) ?_
    refine oI X0 hx hby d6_46 rfl rfl ?_
    refine XS.ifYes X0.here hx rfl (pc0 := 47) (pc' := 59) rfl (hb hby d6_47) rfl ((if0 _ _).trans (flt d1).2.1) (by decide) (by decide) ?_
    refine oI X0 hx hby d6_59 rfl rfl ?_
    refine oI X0 hx hby d6_60 rfl rfl ?_
    refine XS.icmpYes X0.here hx rfl (pc0 := 61) (pc' := 73) rfl (hb hby d6_61) rfl (flt d2).2.2.2 (by decide) (by decide) ?_
    exact X0.returnOut hx Bd.returns (hb hby d6_73) hr
  · show Q6_0 Z t0 t1 t2 h0 n0 _ s₁.heap _
    exact ⟨rfl, N0, e0⟩
theorem sg_1 {p : Program} {l : Launch} {R : Room} {e : Env} {s : State} {m : MethodId} {args : Array Value} {below : List Frame} {meth : Method} {c : Code} {T0 : State} {locs : List Loc} {Z : State} {a0 : Array Value} {h0 : Heap} {n0 cn sn : Nat} (hw : HW a0 Z) (t0 t1 t2 t3 : Int32) (o0 : Addr) (j0 : ClassId)
    (X0 : Stand p l e R s m args below meth c T0 locs cn sn) (hx : p.tables.exec = Jvm.exec) (hZ : Z.Warmed39 s.vm) (hby : c.code = jdk_2529_method_6_code) (hml : c.maxLocals = 6) (hown : s.vm.findClass "java/util/DualPivotQuicksort" = some m.cls) (e0 : T0.heap = h0) (N0 : Fr n0 locs) (OO : Old Z n0 h0) (d0 : (1 : Int32) < t2) (f0 : AI3 Z h0 o0 j0 t1 t0 t3) (u0 : n0 ≤ o0) (hq0 : t0 < t1) :
    ∃ (T' : State) (h' : Heap) (lc : List Loc), Stand p l e R s m args below meth c T' lc cn sn ∧ T'.heap = h' ∧ Fr n0 lc ∧ Keep h0 h' [o0] ∧ AI3 Z h' o0 j0 t0 t1 t3 ∧
      ∀ target, Steps p.tables e below (T'.setTop (mkF m 3 #[rv o0, iv 0, iv t2, iv (-1), iv 1, iv t0] [])) target → Steps p.tables e below (T0.setTop (mkF m 3 #[rv o0, iv 0, iv t2, .unset, iv 0, .unset] [])) target := by
  obtain ⟨c1, r1, q1, S1, M1, H1, G1⟩ := id f0
  have i2 := inb_of (j := 1) S1 (by decide)
  have y3 : c1.slots[((1 : Int32)).toNatClampNeg]? = some (.int t0) := H1 1 (by rw [S1]; decide)
  obtain ⟨c4, r4, q4, S4, M4, H4, G4⟩ := id f0
  have i5 := inb_of (j := 0) S4 (by decide)
  have y6 : c4.slots[((0 : Int32)).toNatClampNeg]? = some (.int t1) := H4 0 (by rw [S4]; decide)
  obtain ⟨c7, r7, q7, S7, M7, H7, G7⟩ := id f0
  have i8 := inb_of (j := 0) S7 (by decide)
  have y9 : c7.slots[((0 : Int32)).toNatClampNeg]? = some (.int t1) := H7 0 (by rw [S7]; decide)
  obtain ⟨c10, r10, q10, S10, M10, H10, G10⟩ := id f0
  have i11 := inb_of (j := 0) S10 (by decide)
  have y12 : c10.slots[((0 : Int32)).toNatClampNeg]? = some (.int t1) := H10 0 (by rw [S10]; decide)
  obtain ⟨c13, r13, q13, S13, M13, H13, G13⟩ := id f0
  have i14 := inb_of (j := 1) S13 (by decide)
  obtain ⟨T15, h15, X15, e15, W15, st15⟩ := stI X0 hx hZ e0 r13 (j := (1 : Int32)) i14 (g := (mkF m 53 #[rv o0, iv 0, iv t2, iv 0, iv 1, iv t0] [(.int t1), (.int 1), (.ref o0)])) rfl rfl (hb hby d9_53)
  have O15 := Old.wr OO W15 u0
  have KK15 := Keep.wr (Keep.refl h0 [o0]) W15 (Or.inl (own_m 0 rfl))
  have N15 := Fr.snoc X15 N0 u0
  have F16 : AI3 Z h15 o0 j0 t1 t1 t3 := Arv.set r13 q13 S13 M13 H13 G13 rfl W15 1 rfl (Nat.le_of_ble_eq_true rfl)
  obtain ⟨c17, r17, q17, S17, M17, H17, G17⟩ := id F16
  have i18 := inb_of (j := 0) S17 (by decide)
  obtain ⟨T19, h19, X19, e19, W19, st19⟩ := stI X15 hx hZ e15 r17 (j := (0 : Int32)) i18 (g := (mkF m 63 #[rv o0, iv 0, iv t2, iv (-1), iv 1, iv t0] [(.int t0), (.int 0), (.ref o0)])) rfl rfl (hb hby d9_63)
  have O19 := Old.wr O15 W19 u0
  have KK19 := Keep.wr KK15 W19 (Or.inl (own_m 0 rfl))
  have N19 := Fr.snoc X19 N15 u0
  have F20 : AI3 Z h19 o0 j0 t0 t1 t3 := Arv.set r17 q17 S17 M17 H17 G17 rfl W19 0 rfl (Nat.le_of_ble_eq_true rfl)
  refine ⟨T19, h19, _, X19, e19, N19, KK19, F20, fun target kt => ?_⟩
  show Steps p.tables e below (T0.setTop (mkF m 3 #[rv o0, iv 0, iv t2, .unset, iv 0, .unset] [])) _
  refine XS.iinc X0.here hx rfl (hb hby d9_3) rfl (l' := #[rv o0, iv 0, iv t2, .unset, iv ((0 : Int32) + (1 : Int32)), .unset]) rfl ?_
  show Steps p.tables e below (T0.setTop (mkF m 6 #[rv o0, iv 0, iv t2, .unset, iv 1, .unset] [])) _
  refine oi X0 hx hby d9_6 rfl rfl ?_
  refine oI X0 hx hby d9_8 rfl rfl ?_
  refine XS.icmpNo X0.here hx rfl (hb hby d9_9) rfl (tlt d0).2.1 ?_
  refine oA X0 hx hby d9_12 rfl rfl rfl ?_
  refine oi X0 hx hby d9_13 rfl rfl ?_
  refine XS.dup X0.here hx rfl (hb hby d9_15) rfl rfl ?_
  refine XS.istoreN X0.here hx rfl (hb hby d9_16) rfl (l' := #[rv o0, iv 0, iv t2, iv 1, iv 1, .unset]) rfl ?_
  refine oL X0 hx hZ e0 r1 i2 y3 (by exact hb hby d9_17) rfl rfl ?_
  refine XS.istore X0.here hx rfl (hb hby d9_18) rfl (l' := #[rv o0, iv 0, iv t2, iv 1, iv 1, iv t0]) rfl ?_
  refine oi X0 hx hby d9_20 rfl rfl ?_
  refine oA X0 hx hby d9_22 rfl rfl rfl ?_
  refine oI X0 hx hby d9_23 rfl rfl ?_
  refine oK X0 hx hby d9_24 rfl ?_
  refine XS.isub X0.here hx rfl (hb hby d9_25) rfl ?_
  show Steps p.tables e below (T0.setTop (mkF m 26 #[rv o0, iv 0, iv t2, iv 1, iv 1, iv t0] [(.int ((1 : Int32) - (1 : Int32))), (.ref o0), (.int t0)])) _
  rw [(by decide : ((1 : Int32) - (1 : Int32)) = (0 : Int32))]
  refine oL X0 hx hZ e0 r4 i5 y6 (by exact hb hby d9_26) rfl rfl ?_
  refine XS.icmpNo X0.here hx rfl (hb hby d9_27) rfl (tlt hq0).2.1 ?_
  refine XS.iinc X0.here hx rfl (hb hby d9_30) rfl (l' := #[rv o0, iv 0, iv t2, iv ((1 : Int32) + (-1 : Int32)), iv 1, iv t0]) rfl ?_
  show Steps p.tables e below (T0.setTop (mkF m 33 #[rv o0, iv 0, iv t2, iv 0, iv 1, iv t0] [])) _
  refine oI X0 hx hby d9_33 rfl rfl ?_
  refine oI X0 hx hby d9_34 rfl rfl ?_
  refine XS.icmpNo X0.here hx rfl (hb hby d9_35) rfl (by decide) ?_
  refine oi X0 hx hby d9_38 rfl rfl ?_
  refine oA X0 hx hby d9_40 rfl rfl rfl ?_
  refine oI X0 hx hby d9_41 rfl rfl ?_
  refine oL X0 hx hZ e0 r7 i8 y9 (by exact hb hby d9_42) rfl rfl ?_
  refine XS.icmpNo X0.here hx rfl (hb hby d9_43) rfl (tlt hq0).2.1 ?_
  refine oA X0 hx hby d9_46 rfl rfl rfl ?_
  refine oI X0 hx hby d9_47 rfl rfl ?_
  refine oK X0 hx hby d9_48 rfl ?_
  refine XS.iadd X0.here hx rfl (hb hby d9_49) rfl ?_
  show Steps p.tables e below (T0.setTop (mkF m 50 #[rv o0, iv 0, iv t2, iv 0, iv 1, iv t0] [(.int ((0 : Int32) + (1 : Int32))), (.ref o0)])) _
  rw [(by decide : ((0 : Int32) + (1 : Int32)) = (1 : Int32))]
  refine oA X0 hx hby d9_50 rfl rfl rfl ?_
  refine oI X0 hx hby d9_51 rfl rfl ?_
  refine oL X0 hx hZ e0 r10 i11 y12 (by exact hb hby d9_52) rfl rfl ?_
  refine st15 _ ?_
  refine XS.goto X15.here hx rfl (pc0 := 54) (pc' := 30) rfl (hb hby d9_54) (by decide) (by decide) ?_
  refine XS.iinc X15.here hx rfl (hb hby d9_30) rfl (l' := #[rv o0, iv 0, iv t2, iv ((0 : Int32) + (-1 : Int32)), iv 1, iv t0]) rfl ?_
  show Steps p.tables e below (T15.setTop (mkF m 33 #[rv o0, iv 0, iv t2, iv (-1), iv 1, iv t0] [])) _
  refine oI X15 hx hby d9_33 rfl rfl ?_
  refine oI X15 hx hby d9_34 rfl rfl ?_
  refine XS.icmpYes X15.here hx rfl (pc0 := 35) (pc' := 57) rfl (hb hby d9_35) rfl (by decide) (by decide) (by decide) ?_
  refine oA X15 hx hby d9_57 rfl rfl rfl ?_
  refine oI X15 hx hby d9_58 rfl rfl ?_
  refine oK X15 hx hby d9_59 rfl ?_
  refine XS.iadd X15.here hx rfl (hb hby d9_60) rfl ?_
  show Steps p.tables e below (T15.setTop (mkF m 61 #[rv o0, iv 0, iv t2, iv (-1), iv 1, iv t0] [(.int ((-1 : Int32) + (1 : Int32))), (.ref o0)])) _
  rw [(by decide : ((-1 : Int32) + (1 : Int32)) = (0 : Int32))]
  refine oi X15 hx hby d9_61 rfl rfl ?_
  refine st19 _ ?_
  refine XS.goto X19.here hx rfl (pc0 := 64) (pc' := 3) rfl (hb hby d9_64) (by decide) (by decide) ?_
  exact kt
theorem sg_2 {p : Program} {l : Launch} {R : Room} {e : Env} {s : State} {m : MethodId} {args : Array Value} {below : List Frame} {meth : Method} {c : Code} {T0 : State} {locs : List Loc} {Z : State} {a0 : Array Value} {h0 : Heap} {n0 cn sn : Nat} (hw : HW a0 Z) (t0 t1 t2 t3 t4 t5 : Int32) (o0 : Addr) (j0 : ClassId)
    (X0 : Stand p l e R s m args below meth c T0 locs cn sn) (hx : p.tables.exec = Jvm.exec) (hZ : Z.Warmed39 s.vm) (hby : c.code = jdk_2529_method_6_code) (hml : c.maxLocals = 6) (hown : s.vm.findClass "java/util/DualPivotQuicksort" = some m.cls) (e0 : T0.heap = h0) (N0 : Fr n0 locs) (OO : Old Z n0 h0) (d0 : (2 : Int32) < t3) (f0 : AI3 Z h0 o0 j0 t2 t1 t0) (u0 : n0 ≤ o0) (hq0 : t0 < t1) (hq1 : t0 < t2) :
    ∃ (T' : State) (h' : Heap) (lc : List Loc), Stand p l e R s m args below meth c T' lc cn sn ∧ T'.heap = h' ∧ Fr n0 lc ∧ Keep h0 h' [o0] ∧ AI3 Z h' o0 j0 t0 t2 t1 ∧
      ∀ target, Steps p.tables e below (T'.setTop (mkF m 3 #[rv o0, iv 0, iv t3, iv (-1), iv 2, iv t0] [])) target → Steps p.tables e below (T0.setTop (mkF m 3 #[rv o0, iv 0, iv t3, iv t4, iv 1, iv t5] [])) target := by
  obtain ⟨c1, r1, q1, S1, M1, H1, G1⟩ := id f0
  have i2 := inb_of (j := 2) S1 (by decide)
  have y3 : c1.slots[((2 : Int32)).toNatClampNeg]? = some (.int t0) := H1 2 (by rw [S1]; decide)
  obtain ⟨c4, r4, q4, S4, M4, H4, G4⟩ := id f0
  have i5 := inb_of (j := 1) S4 (by decide)
  have y6 : c4.slots[((1 : Int32)).toNatClampNeg]? = some (.int t1) := H4 1 (by rw [S4]; decide)
  obtain ⟨c7, r7, q7, S7, M7, H7, G7⟩ := id f0
  have i8 := inb_of (j := 1) S7 (by decide)
  have y9 : c7.slots[((1 : Int32)).toNatClampNeg]? = some (.int t1) := H7 1 (by rw [S7]; decide)
  obtain ⟨c10, r10, q10, S10, M10, H10, G10⟩ := id f0
  have i11 := inb_of (j := 1) S10 (by decide)
  have y12 : c10.slots[((1 : Int32)).toNatClampNeg]? = some (.int t1) := H10 1 (by rw [S10]; decide)
  obtain ⟨c13, r13, q13, S13, M13, H13, G13⟩ := id f0
  have i14 := inb_of (j := 2) S13 (by decide)
  obtain ⟨T15, h15, X15, e15, W15, st15⟩ := stI X0 hx hZ e0 r13 (j := (2 : Int32)) i14 (g := (mkF m 53 #[rv o0, iv 0, iv t3, iv 1, iv 2, iv t0] [(.int t1), (.int 2), (.ref o0)])) rfl rfl (hb hby d9_53)
  have O15 := Old.wr OO W15 u0
  have KK15 := Keep.wr (Keep.refl h0 [o0]) W15 (Or.inl (own_m 0 rfl))
  have N15 := Fr.snoc X15 N0 u0
  have F16 : AI3 Z h15 o0 j0 t2 t1 t1 := Arv.set r13 q13 S13 M13 H13 G13 rfl W15 2 rfl (Nat.le_of_ble_eq_true rfl)
  obtain ⟨c17, r17, q17, S17, M17, H17, G17⟩ := id F16
  have i18 := inb_of (j := 0) S17 (by decide)
  have y19 : c17.slots[((0 : Int32)).toNatClampNeg]? = some (.int t2) := H17 0 (by rw [S17]; decide)
  obtain ⟨c20, r20, q20, S20, M20, H20, G20⟩ := id F16
  have i21 := inb_of (j := 0) S20 (by decide)
  have y22 : c20.slots[((0 : Int32)).toNatClampNeg]? = some (.int t2) := H20 0 (by rw [S20]; decide)
  obtain ⟨c23, r23, q23, S23, M23, H23, G23⟩ := id F16
  have i24 := inb_of (j := 1) S23 (by decide)
  obtain ⟨T25, h25, X25, e25, W25, st25⟩ := stI X15 hx hZ e15 r23 (j := (1 : Int32)) i24 (g := (mkF m 53 #[rv o0, iv 0, iv t3, iv 0, iv 2, iv t0] [(.int t2), (.int 1), (.ref o0)])) rfl rfl (hb hby d9_53)
  have O25 := Old.wr O15 W25 u0
  have KK25 := Keep.wr KK15 W25 (Or.inl (own_m 0 rfl))
  have N25 := Fr.snoc X25 N15 u0
  have F26 : AI3 Z h25 o0 j0 t2 t2 t1 := Arv.set r23 q23 S23 M23 H23 G23 rfl W25 1 rfl (Nat.le_of_ble_eq_true rfl)
  obtain ⟨c27, r27, q27, S27, M27, H27, G27⟩ := id F26
  have i28 := inb_of (j := 0) S27 (by decide)
  obtain ⟨T29, h29, X29, e29, W29, st29⟩ := stI X25 hx hZ e25 r27 (j := (0 : Int32)) i28 (g := (mkF m 63 #[rv o0, iv 0, iv t3, iv (-1), iv 2, iv t0] [(.int t0), (.int 0), (.ref o0)])) rfl rfl (hb hby d9_63)
  have O29 := Old.wr O25 W29 u0
  have KK29 := Keep.wr KK25 W29 (Or.inl (own_m 0 rfl))
  have N29 := Fr.snoc X29 N25 u0
  have F30 : AI3 Z h29 o0 j0 t0 t2 t1 := Arv.set r27 q27 S27 M27 H27 G27 rfl W29 0 rfl (Nat.le_of_ble_eq_true rfl)
  refine ⟨T29, h29, _, X29, e29, N29, KK29, F30, fun target kt => ?_⟩
  show Steps p.tables e below (T0.setTop (mkF m 3 #[rv o0, iv 0, iv t3, iv t4, iv 1, iv t5] [])) _
  refine XS.iinc X0.here hx rfl (hb hby d9_3) rfl (l' := #[rv o0, iv 0, iv t3, iv t4, iv ((1 : Int32) + (1 : Int32)), iv t5]) rfl ?_
  show Steps p.tables e below (T0.setTop (mkF m 6 #[rv o0, iv 0, iv t3, iv t4, iv 2, iv t5] [])) _
  refine oi X0 hx hby d9_6 rfl rfl ?_
  refine oI X0 hx hby d9_8 rfl rfl ?_
  refine XS.icmpNo X0.here hx rfl (hb hby d9_9) rfl (tlt d0).2.1 ?_
  refine oA X0 hx hby d9_12 rfl rfl rfl ?_
  refine oi X0 hx hby d9_13 rfl rfl ?_
  refine XS.dup X0.here hx rfl (hb hby d9_15) rfl rfl ?_
  refine XS.istoreN X0.here hx rfl (hb hby d9_16) rfl (l' := #[rv o0, iv 0, iv t3, iv 2, iv 2, iv t5]) rfl ?_
  refine oL X0 hx hZ e0 r1 i2 y3 (by exact hb hby d9_17) rfl rfl ?_
  refine XS.istore X0.here hx rfl (hb hby d9_18) rfl (l' := #[rv o0, iv 0, iv t3, iv 2, iv 2, iv t0]) rfl ?_
  refine oi X0 hx hby d9_20 rfl rfl ?_
  refine oA X0 hx hby d9_22 rfl rfl rfl ?_
  refine oI X0 hx hby d9_23 rfl rfl ?_
  refine oK X0 hx hby d9_24 rfl ?_
  refine XS.isub X0.here hx rfl (hb hby d9_25) rfl ?_
  show Steps p.tables e below (T0.setTop (mkF m 26 #[rv o0, iv 0, iv t3, iv 2, iv 2, iv t0] [(.int ((2 : Int32) - (1 : Int32))), (.ref o0), (.int t0)])) _
  rw [(by decide : ((2 : Int32) - (1 : Int32)) = (1 : Int32))]
  refine oL X0 hx hZ e0 r4 i5 y6 (by exact hb hby d9_26) rfl rfl ?_
  refine XS.icmpNo X0.here hx rfl (hb hby d9_27) rfl (tlt hq0).2.1 ?_
  refine XS.iinc X0.here hx rfl (hb hby d9_30) rfl (l' := #[rv o0, iv 0, iv t3, iv ((2 : Int32) + (-1 : Int32)), iv 2, iv t0]) rfl ?_
  show Steps p.tables e below (T0.setTop (mkF m 33 #[rv o0, iv 0, iv t3, iv 1, iv 2, iv t0] [])) _
  refine oI X0 hx hby d9_33 rfl rfl ?_
  refine oI X0 hx hby d9_34 rfl rfl ?_
  refine XS.icmpNo X0.here hx rfl (hb hby d9_35) rfl (by decide) ?_
  refine oi X0 hx hby d9_38 rfl rfl ?_
  refine oA X0 hx hby d9_40 rfl rfl rfl ?_
  refine oI X0 hx hby d9_41 rfl rfl ?_
  refine oL X0 hx hZ e0 r7 i8 y9 (by exact hb hby d9_42) rfl rfl ?_
  refine XS.icmpNo X0.here hx rfl (hb hby d9_43) rfl (tlt hq0).2.1 ?_
  refine oA X0 hx hby d9_46 rfl rfl rfl ?_
  refine oI X0 hx hby d9_47 rfl rfl ?_
  refine oK X0 hx hby d9_48 rfl ?_
  refine XS.iadd X0.here hx rfl (hb hby d9_49) rfl ?_
  show Steps p.tables e below (T0.setTop (mkF m 50 #[rv o0, iv 0, iv t3, iv 1, iv 2, iv t0] [(.int ((1 : Int32) + (1 : Int32))), (.ref o0)])) _
  rw [(by decide : ((1 : Int32) + (1 : Int32)) = (2 : Int32))]
  refine oA X0 hx hby d9_50 rfl rfl rfl ?_
  refine oI X0 hx hby d9_51 rfl rfl ?_
  refine oL X0 hx hZ e0 r10 i11 y12 (by exact hb hby d9_52) rfl rfl ?_
  refine st15 _ ?_
  refine XS.goto X15.here hx rfl (pc0 := 54) (pc' := 30) rfl (hb hby d9_54) (by decide) (by decide) ?_
  refine XS.iinc X15.here hx rfl (hb hby d9_30) rfl (l' := #[rv o0, iv 0, iv t3, iv ((1 : Int32) + (-1 : Int32)), iv 2, iv t0]) rfl ?_
  show Steps p.tables e below (T15.setTop (mkF m 33 #[rv o0, iv 0, iv t3, iv 0, iv 2, iv t0] [])) _
  refine oI X15 hx hby d9_33 rfl rfl ?_
  refine oI X15 hx hby d9_34 rfl rfl ?_
  refine XS.icmpNo X15.here hx rfl (hb hby d9_35) rfl (by decide) ?_
  refine oi X15 hx hby d9_38 rfl rfl ?_
  refine oA X15 hx hby d9_40 rfl rfl rfl ?_
  refine oI X15 hx hby d9_41 rfl rfl ?_
  refine oL X15 hx hZ e15 r17 i18 y19 (by exact hb hby d9_42) rfl rfl ?_
  refine XS.icmpNo X15.here hx rfl (hb hby d9_43) rfl (tlt hq1).2.1 ?_
  refine oA X15 hx hby d9_46 rfl rfl rfl ?_
  refine oI X15 hx hby d9_47 rfl rfl ?_
  refine oK X15 hx hby d9_48 rfl ?_
  refine XS.iadd X15.here hx rfl (hb hby d9_49) rfl ?_
  show Steps p.tables e below (T15.setTop (mkF m 50 #[rv o0, iv 0, iv t3, iv 0, iv 2, iv t0] [(.int ((0 : Int32) + (1 : Int32))), (.ref o0)])) _
  rw [(by decide : ((0 : Int32) + (1 : Int32)) = (1 : Int32))]
  refine oA X15 hx hby d9_50 rfl rfl rfl ?_
  refine oI X15 hx hby d9_51 rfl rfl ?_
  refine oL X15 hx hZ e15 r20 i21 y22 (by exact hb hby d9_52) rfl rfl ?_
  refine st25 _ ?_
  refine XS.goto X25.here hx rfl (pc0 := 54) (pc' := 30) rfl (hb hby d9_54) (by decide) (by decide) ?_
  refine XS.iinc X25.here hx rfl (hb hby d9_30) rfl (l' := #[rv o0, iv 0, iv t3, iv ((0 : Int32) + (-1 : Int32)), iv 2, iv t0]) rfl ?_
  show Steps p.tables e below (T25.setTop (mkF m 33 #[rv o0, iv 0, iv t3, iv (-1), iv 2, iv t0] [])) _
  refine oI X25 hx hby d9_33 rfl rfl ?_
  refine oI X25 hx hby d9_34 rfl rfl ?_
  refine XS.icmpYes X25.here hx rfl (pc0 := 35) (pc' := 57) rfl (hb hby d9_35) rfl (by decide) (by decide) (by decide) ?_
  refine oA X25 hx hby d9_57 rfl rfl rfl ?_
  refine oI X25 hx hby d9_58 rfl rfl ?_
  refine oK X25 hx hby d9_59 rfl ?_
  refine XS.iadd X25.here hx rfl (hb hby d9_60) rfl ?_
  show Steps p.tables e below (T25.setTop (mkF m 61 #[rv o0, iv 0, iv t3, iv (-1), iv 2, iv t0] [(.int ((-1 : Int32) + (1 : Int32))), (.ref o0)])) _
  rw [(by decide : ((-1 : Int32) + (1 : Int32)) = (0 : Int32))]
  refine oi X25 hx hby d9_61 rfl rfl ?_
  refine st29 _ ?_
  refine XS.goto X29.here hx rfl (pc0 := 64) (pc' := 3) rfl (hb hby d9_64) (by decide) (by decide) ?_
  exact kt
def Q9_0 (Z : State) (t0 t1 t2 t3 : Int32) (o0 : Addr) (j0 : ClassId) (h0 : Heap) (n0 : Nat) (v : Option Value) (h : Heap) (L : List Loc) : Prop := v = none ∧ Fr n0 L ∧ Keep h0 h [o0] ∧ AI3 Z h o0 j0 t2 t0 t1
theorem rm9_0 (l : Launch) (Z : State) (a0 : Array Value) (hw : HW a0 Z) (ws : List Jvm.Cond) (t0 t1 t2 t3 : Int32) (o0 : Addr) (j0 : ClassId) (h0 : Heap) (n0 : Nat) (OO : Old Z n0 h0) (f0 : AI3 Z h0 o0 j0 t1 t0 t2) (u0 : n0 ≤ o0) (d0 : (1 : Int32) < t3) (d1 : (2 : Int32) < t3) (d2 : ¬ ((3 : Int32) < t3)) (hq0 : t0 < t1) (hq1 : t2 < t1) (hq2 : t2 < t0) :
    own_MF l Z h0 (⟨"java/util/DualPivotQuicksort", "insertionSort", "([III)V"⟩ : MethodName) ws jdk_2529_method_6_code 6 none ({ frames := 0, cells := 0, slots := 0, locals := 0 } : Room) #[(.ref o0), (.int 0), (.int t3)] (Q9_0 Z t0 t1 t2 t3 o0 j0 h0 n0) := by
  refine MetFree.of_bodySF (plainFor_of_name pn_9) hisR ?_
  intro p e s m args below meth c s₁ Bd hml0 hP hK
  obtain ⟨rfl, hZ, hh⟩ := hP
  have hx := Bd.exec
  have hby := Bd.bytes
  have hml : c.maxLocals = 6 := hml0
  have hown : s.vm.findClass "java/util/DualPivotQuicksort" = some m.cls := findClass_of_methodNamed Bd.named
  have X0 : Stand p l e ({ frames := 0, cells := 0, slots := 0, locals := 0 } : Room) s m #[(.ref o0), (.int 0), (.int t3)] below meth c s₁ [] 0 0 := Stand.of_body Bd
  have e0 : s₁.heap = h0 := by rw [← hh, Bd.state]; rfl
  have N0 := Fr.nil n0
  obtain ⟨T1, h1, lc1, X1, e1, N1, K1, R1_0, st1⟩ := sg_1 hw t0 t1 t3 t2 o0 j0 X0 hx hZ hby hml hown e0 N0 OO d0 f0 u0 hq0
  have O1 := Old.keep OO K1 (allS u0 all0)
  have KK1 := Keep.trans (Keep.refl h0 [o0]) K1 (allS (Or.inl (own_m 0 rfl)) all0)
  obtain ⟨T2, h2, lc2, X2, e2, N2, K2, R2_0, st2⟩ := sg_2 hw t2 t1 t0 t3 ((-1) : Int32) t0 o0 j0 X1 hx hZ hby hml hown e1 N1 O1 d1 R1_0 u0 hq1 hq2
  have O2 := Old.keep O1 K2 (allS u0 all0)
  have KK2 := Keep.trans KK1 K2 (allS (Or.inl (own_m 0 rfl)) all0)
  obtain ⟨fs, hr, hrun, hended, hW, hsame⟩ := X2.leave (v := none) (fun _ => rfl)
  refine ⟨_, _, (castTop (ef_9 m o0 0 t3) ?_), hrun, hended, _, _, rfl, ?_, ⟨_, rfl⟩, hW, hsame.mono (by decide) (by decide)⟩
  · show Steps p.tables e below (s₁.setTop (mkF m 0 #[rv o0, iv 0, iv t3, .unset, .unset, .unset] [])) _
    refine oI X0 hx hby d9_0 rfl rfl ?_
    refine XS.istore X0.here hx rfl (hb hby d9_1) rfl (l' := #[rv o0, iv 0, iv t3, .unset, iv 0, .unset]) rfl ?_
    show Steps p.tables e below (s₁.setTop (mkF m 3 #[rv o0, iv 0, iv t3, .unset, iv 0, .unset] [])) _
    refine st1 _ ?_
    show Steps p.tables e below (T1.setTop (mkF m 3 #[rv o0, iv 0, iv t3, iv (-1), iv 1, iv t0] [])) _
    refine st2 _ ?_
    refine XS.iinc X2.here hx rfl (hb hby d9_3) rfl (l' := #[rv o0, iv 0, iv t3, iv (-1), iv ((2 : Int32) + (1 : Int32)), iv t2]) rfl ?_
    show Steps p.tables e below (T2.setTop (mkF m 6 #[rv o0, iv 0, iv t3, iv (-1), iv 3, iv t2] [])) _
    refine oi X2 hx hby d9_6 rfl rfl ?_
    refine oI X2 hx hby d9_8 rfl rfl ?_
    refine XS.icmpYes X2.here hx rfl (pc0 := 9) (pc' := 67) rfl (hb hby d9_9) rfl (flt d2).2.1 (by decide) (by decide) ?_
    exact X2.returnOut hx Bd.returns (hb hby d9_67) hr
  · show Q9_0 Z t0 t1 t2 t3 o0 j0 h0 n0 _ T2.heap _
    rw [e2]
    exact ⟨rfl, N2, KK2, R2_0⟩
theorem sg_3 {p : Program} {l : Launch} {R : Room} {e : Env} {s : State} {m : MethodId} {args : Array Value} {below : List Frame} {meth : Method} {c : Code} {T0 : State} {locs : List Loc} {Z : State} {a0 : Array Value} {h0 : Heap} {n0 cn sn : Nat} (hw : HW a0 Z) (t0 t1 t2 t3 t4 t5 : Int32) (o0 : Addr) (j0 : ClassId)
    (X0 : Stand p l e R s m args below meth c T0 locs cn sn) (hx : p.tables.exec = Jvm.exec) (hZ : Z.Warmed39 s.vm) (hby : c.code = jdk_2529_method_6_code) (hml : c.maxLocals = 6) (hown : s.vm.findClass "java/util/DualPivotQuicksort" = some m.cls) (e0 : T0.heap = h0) (N0 : Fr n0 locs) (OO : Old Z n0 h0) (d0 : (2 : Int32) < t3) (f0 : AI3 Z h0 o0 j0 t2 t1 t0) (u0 : n0 ≤ o0) (hq0 : t0 < t1) (hq1 : ¬ (t0 < t2)) :
    ∃ (T' : State) (h' : Heap) (lc : List Loc), Stand p l e R s m args below meth c T' lc cn sn ∧ T'.heap = h' ∧ Fr n0 lc ∧ Keep h0 h' [o0] ∧ AI3 Z h' o0 j0 t2 t0 t1 ∧
      ∀ target, Steps p.tables e below (T'.setTop (mkF m 3 #[rv o0, iv 0, iv t3, iv 0, iv 2, iv t0] [])) target → Steps p.tables e below (T0.setTop (mkF m 3 #[rv o0, iv 0, iv t3, iv t4, iv 1, iv t5] [])) target := by
  obtain ⟨c1, r1, q1, S1, M1, H1, G1⟩ := id f0
  have i2 := inb_of (j := 2) S1 (by decide)
  have y3 : c1.slots[((2 : Int32)).toNatClampNeg]? = some (.int t0) := H1 2 (by rw [S1]; decide)
  obtain ⟨c4, r4, q4, S4, M4, H4, G4⟩ := id f0
  have i5 := inb_of (j := 1) S4 (by decide)
  have y6 : c4.slots[((1 : Int32)).toNatClampNeg]? = some (.int t1) := H4 1 (by rw [S4]; decide)
  obtain ⟨c7, r7, q7, S7, M7, H7, G7⟩ := id f0
  have i8 := inb_of (j := 1) S7 (by decide)
  have y9 : c7.slots[((1 : Int32)).toNatClampNeg]? = some (.int t1) := H7 1 (by rw [S7]; decide)
  obtain ⟨c10, r10, q10, S10, M10, H10, G10⟩ := id f0
  have i11 := inb_of (j := 1) S10 (by decide)
  have y12 : c10.slots[((1 : Int32)).toNatClampNeg]? = some (.int t1) := H10 1 (by rw [S10]; decide)
  obtain ⟨c13, r13, q13, S13, M13, H13, G13⟩ := id f0
  have i14 := inb_of (j := 2) S13 (by decide)
  obtain ⟨T15, h15, X15, e15, W15, st15⟩ := stI X0 hx hZ e0 r13 (j := (2 : Int32)) i14 (g := (mkF m 53 #[rv o0, iv 0, iv t3, iv 1, iv 2, iv t0] [(.int t1), (.int 2), (.ref o0)])) rfl rfl (hb hby d9_53)
  have O15 := Old.wr OO W15 u0
  have KK15 := Keep.wr (Keep.refl h0 [o0]) W15 (Or.inl (own_m 0 rfl))
  have N15 := Fr.snoc X15 N0 u0
  have F16 : AI3 Z h15 o0 j0 t2 t1 t1 := Arv.set r13 q13 S13 M13 H13 G13 rfl W15 2 rfl (Nat.le_of_ble_eq_true rfl)
  obtain ⟨c17, r17, q17, S17, M17, H17, G17⟩ := id F16
  have i18 := inb_of (j := 0) S17 (by decide)
  have y19 : c17.slots[((0 : Int32)).toNatClampNeg]? = some (.int t2) := H17 0 (by rw [S17]; decide)
  obtain ⟨c20, r20, q20, S20, M20, H20, G20⟩ := id F16
  have i21 := inb_of (j := 1) S20 (by decide)
  obtain ⟨T22, h22, X22, e22, W22, st22⟩ := stI X15 hx hZ e15 r20 (j := (1 : Int32)) i21 (g := (mkF m 63 #[rv o0, iv 0, iv t3, iv 0, iv 2, iv t0] [(.int t0), (.int 1), (.ref o0)])) rfl rfl (hb hby d9_63)
  have O22 := Old.wr O15 W22 u0
  have KK22 := Keep.wr KK15 W22 (Or.inl (own_m 0 rfl))
  have N22 := Fr.snoc X22 N15 u0
  have F23 : AI3 Z h22 o0 j0 t2 t0 t1 := Arv.set r20 q20 S20 M20 H20 G20 rfl W22 1 rfl (Nat.le_of_ble_eq_true rfl)
  refine ⟨T22, h22, _, X22, e22, N22, KK22, F23, fun target kt => ?_⟩
  show Steps p.tables e below (T0.setTop (mkF m 3 #[rv o0, iv 0, iv t3, iv t4, iv 1, iv t5] [])) _
  refine XS.iinc X0.here hx rfl (hb hby d9_3) rfl (l' := #[rv o0, iv 0, iv t3, iv t4, iv ((1 : Int32) + (1 : Int32)), iv t5]) rfl ?_
  show Steps p.tables e below (T0.setTop (mkF m 6 #[rv o0, iv 0, iv t3, iv t4, iv 2, iv t5] [])) _
  refine oi X0 hx hby d9_6 rfl rfl ?_
  refine oI X0 hx hby d9_8 rfl rfl ?_
  refine XS.icmpNo X0.here hx rfl (hb hby d9_9) rfl (tlt d0).2.1 ?_
  refine oA X0 hx hby d9_12 rfl rfl rfl ?_
  refine oi X0 hx hby d9_13 rfl rfl ?_
  refine XS.dup X0.here hx rfl (hb hby d9_15) rfl rfl ?_
  refine XS.istoreN X0.here hx rfl (hb hby d9_16) rfl (l' := #[rv o0, iv 0, iv t3, iv 2, iv 2, iv t5]) rfl ?_
  refine oL X0 hx hZ e0 r1 i2 y3 (by exact hb hby d9_17) rfl rfl ?_
  refine XS.istore X0.here hx rfl (hb hby d9_18) rfl (l' := #[rv o0, iv 0, iv t3, iv 2, iv 2, iv t0]) rfl ?_
  refine oi X0 hx hby d9_20 rfl rfl ?_
  refine oA X0 hx hby d9_22 rfl rfl rfl ?_
  refine oI X0 hx hby d9_23 rfl rfl ?_
  refine oK X0 hx hby d9_24 rfl ?_
  refine XS.isub X0.here hx rfl (hb hby d9_25) rfl ?_
  show Steps p.tables e below (T0.setTop (mkF m 26 #[rv o0, iv 0, iv t3, iv 2, iv 2, iv t0] [(.int ((2 : Int32) - (1 : Int32))), (.ref o0), (.int t0)])) _
  rw [(by decide : ((2 : Int32) - (1 : Int32)) = (1 : Int32))]
  refine oL X0 hx hZ e0 r4 i5 y6 (by exact hb hby d9_26) rfl rfl ?_
  refine XS.icmpNo X0.here hx rfl (hb hby d9_27) rfl (tlt hq0).2.1 ?_
  refine XS.iinc X0.here hx rfl (hb hby d9_30) rfl (l' := #[rv o0, iv 0, iv t3, iv ((2 : Int32) + (-1 : Int32)), iv 2, iv t0]) rfl ?_
  show Steps p.tables e below (T0.setTop (mkF m 33 #[rv o0, iv 0, iv t3, iv 1, iv 2, iv t0] [])) _
  refine oI X0 hx hby d9_33 rfl rfl ?_
  refine oI X0 hx hby d9_34 rfl rfl ?_
  refine XS.icmpNo X0.here hx rfl (hb hby d9_35) rfl (by decide) ?_
  refine oi X0 hx hby d9_38 rfl rfl ?_
  refine oA X0 hx hby d9_40 rfl rfl rfl ?_
  refine oI X0 hx hby d9_41 rfl rfl ?_
  refine oL X0 hx hZ e0 r7 i8 y9 (by exact hb hby d9_42) rfl rfl ?_
  refine XS.icmpNo X0.here hx rfl (hb hby d9_43) rfl (tlt hq0).2.1 ?_
  refine oA X0 hx hby d9_46 rfl rfl rfl ?_
  refine oI X0 hx hby d9_47 rfl rfl ?_
  refine oK X0 hx hby d9_48 rfl ?_
  refine XS.iadd X0.here hx rfl (hb hby d9_49) rfl ?_
  show Steps p.tables e below (T0.setTop (mkF m 50 #[rv o0, iv 0, iv t3, iv 1, iv 2, iv t0] [(.int ((1 : Int32) + (1 : Int32))), (.ref o0)])) _
  rw [(by decide : ((1 : Int32) + (1 : Int32)) = (2 : Int32))]
  refine oA X0 hx hby d9_50 rfl rfl rfl ?_
  refine oI X0 hx hby d9_51 rfl rfl ?_
  refine oL X0 hx hZ e0 r10 i11 y12 (by exact hb hby d9_52) rfl rfl ?_
  refine st15 _ ?_
  refine XS.goto X15.here hx rfl (pc0 := 54) (pc' := 30) rfl (hb hby d9_54) (by decide) (by decide) ?_
  refine XS.iinc X15.here hx rfl (hb hby d9_30) rfl (l' := #[rv o0, iv 0, iv t3, iv ((1 : Int32) + (-1 : Int32)), iv 2, iv t0]) rfl ?_
  show Steps p.tables e below (T15.setTop (mkF m 33 #[rv o0, iv 0, iv t3, iv 0, iv 2, iv t0] [])) _
  refine oI X15 hx hby d9_33 rfl rfl ?_
  refine oI X15 hx hby d9_34 rfl rfl ?_
  refine XS.icmpNo X15.here hx rfl (hb hby d9_35) rfl (by decide) ?_
  refine oi X15 hx hby d9_38 rfl rfl ?_
  refine oA X15 hx hby d9_40 rfl rfl rfl ?_
  refine oI X15 hx hby d9_41 rfl rfl ?_
  refine oL X15 hx hZ e15 r17 i18 y19 (by exact hb hby d9_42) rfl rfl ?_
  refine XS.icmpYes X15.here hx rfl (pc0 := 43) (pc' := 57) rfl (hb hby d9_43) rfl (flt hq1).2.1 (by decide) (by decide) ?_
  refine oA X15 hx hby d9_57 rfl rfl rfl ?_
  refine oI X15 hx hby d9_58 rfl rfl ?_
  refine oK X15 hx hby d9_59 rfl ?_
  refine XS.iadd X15.here hx rfl (hb hby d9_60) rfl ?_
  show Steps p.tables e below (T15.setTop (mkF m 61 #[rv o0, iv 0, iv t3, iv 0, iv 2, iv t0] [(.int ((0 : Int32) + (1 : Int32))), (.ref o0)])) _
  rw [(by decide : ((0 : Int32) + (1 : Int32)) = (1 : Int32))]
  refine oi X15 hx hby d9_61 rfl rfl ?_
  refine st22 _ ?_
  refine XS.goto X22.here hx rfl (pc0 := 64) (pc' := 3) rfl (hb hby d9_64) (by decide) (by decide) ?_
  exact kt
def Q9_1 (Z : State) (t0 t1 t2 t3 : Int32) (o0 : Addr) (j0 : ClassId) (h0 : Heap) (n0 : Nat) (v : Option Value) (h : Heap) (L : List Loc) : Prop := v = none ∧ Fr n0 L ∧ Keep h0 h [o0] ∧ AI3 Z h o0 j0 t0 t2 t1
theorem rm9_1 (l : Launch) (Z : State) (a0 : Array Value) (hw : HW a0 Z) (ws : List Jvm.Cond) (t0 t1 t2 t3 : Int32) (o0 : Addr) (j0 : ClassId) (h0 : Heap) (n0 : Nat) (OO : Old Z n0 h0) (f0 : AI3 Z h0 o0 j0 t1 t0 t2) (u0 : n0 ≤ o0) (d0 : (1 : Int32) < t3) (d1 : (2 : Int32) < t3) (d2 : ¬ ((3 : Int32) < t3)) (hq0 : t0 < t1) (hq1 : t2 < t1) (hq2 : ¬ (t2 < t0)) :
    own_MF l Z h0 (⟨"java/util/DualPivotQuicksort", "insertionSort", "([III)V"⟩ : MethodName) ws jdk_2529_method_6_code 6 none ({ frames := 0, cells := 0, slots := 0, locals := 0 } : Room) #[(.ref o0), (.int 0), (.int t3)] (Q9_1 Z t0 t1 t2 t3 o0 j0 h0 n0) := by
  refine MetFree.of_bodySF (plainFor_of_name pn_9) hisR ?_
  intro p e s m args below meth c s₁ Bd hml0 hP hK
  obtain ⟨rfl, hZ, hh⟩ := hP
  have hx := Bd.exec
  have hby := Bd.bytes
  have hml : c.maxLocals = 6 := hml0
  have hown : s.vm.findClass "java/util/DualPivotQuicksort" = some m.cls := findClass_of_methodNamed Bd.named
  have X0 : Stand p l e ({ frames := 0, cells := 0, slots := 0, locals := 0 } : Room) s m #[(.ref o0), (.int 0), (.int t3)] below meth c s₁ [] 0 0 := Stand.of_body Bd
  have e0 : s₁.heap = h0 := by rw [← hh, Bd.state]; rfl
  have N0 := Fr.nil n0
  obtain ⟨T1, h1, lc1, X1, e1, N1, K1, R1_0, st1⟩ := sg_1 hw t0 t1 t3 t2 o0 j0 X0 hx hZ hby hml hown e0 N0 OO d0 f0 u0 hq0
  have O1 := Old.keep OO K1 (allS u0 all0)
  have KK1 := Keep.trans (Keep.refl h0 [o0]) K1 (allS (Or.inl (own_m 0 rfl)) all0)
  obtain ⟨T2, h2, lc2, X2, e2, N2, K2, R2_0, st2⟩ := sg_3 hw t2 t1 t0 t3 ((-1) : Int32) t0 o0 j0 X1 hx hZ hby hml hown e1 N1 O1 d1 R1_0 u0 hq1 hq2
  have O2 := Old.keep O1 K2 (allS u0 all0)
  have KK2 := Keep.trans KK1 K2 (allS (Or.inl (own_m 0 rfl)) all0)
  obtain ⟨fs, hr, hrun, hended, hW, hsame⟩ := X2.leave (v := none) (fun _ => rfl)
  refine ⟨_, _, (castTop (ef_9 m o0 0 t3) ?_), hrun, hended, _, _, rfl, ?_, ⟨_, rfl⟩, hW, hsame.mono (by decide) (by decide)⟩
  · show Steps p.tables e below (s₁.setTop (mkF m 0 #[rv o0, iv 0, iv t3, .unset, .unset, .unset] [])) _
    refine oI X0 hx hby d9_0 rfl rfl ?_
    refine XS.istore X0.here hx rfl (hb hby d9_1) rfl (l' := #[rv o0, iv 0, iv t3, .unset, iv 0, .unset]) rfl ?_
    show Steps p.tables e below (s₁.setTop (mkF m 3 #[rv o0, iv 0, iv t3, .unset, iv 0, .unset] [])) _
    refine st1 _ ?_
    show Steps p.tables e below (T1.setTop (mkF m 3 #[rv o0, iv 0, iv t3, iv (-1), iv 1, iv t0] [])) _
    refine st2 _ ?_
    refine XS.iinc X2.here hx rfl (hb hby d9_3) rfl (l' := #[rv o0, iv 0, iv t3, iv 0, iv ((2 : Int32) + (1 : Int32)), iv t2]) rfl ?_
    show Steps p.tables e below (T2.setTop (mkF m 6 #[rv o0, iv 0, iv t3, iv 0, iv 3, iv t2] [])) _
    refine oi X2 hx hby d9_6 rfl rfl ?_
    refine oI X2 hx hby d9_8 rfl rfl ?_
    refine XS.icmpYes X2.here hx rfl (pc0 := 9) (pc' := 67) rfl (hb hby d9_9) rfl (flt d2).2.1 (by decide) (by decide) ?_
    exact X2.returnOut hx Bd.returns (hb hby d9_67) hr
  · show Q9_1 Z t0 t1 t2 t3 o0 j0 h0 n0 _ T2.heap _
    rw [e2]
    exact ⟨rfl, N2, KK2, R2_0⟩
theorem sg_4 {p : Program} {l : Launch} {R : Room} {e : Env} {s : State} {m : MethodId} {args : Array Value} {below : List Frame} {meth : Method} {c : Code} {T0 : State} {locs : List Loc} {Z : State} {a0 : Array Value} {h0 : Heap} {n0 cn sn : Nat} (hw : HW a0 Z) (t0 t1 t2 t3 t4 t5 t6 : Int32) (o0 : Addr) (j0 : ClassId)
    (X0 : Stand p l e R s m args below meth c T0 locs cn sn) (hx : p.tables.exec = Jvm.exec) (hZ : Z.Warmed39 s.vm) (hby : c.code = jdk_2529_method_6_code) (hml : c.maxLocals = 6) (hown : s.vm.findClass "java/util/DualPivotQuicksort" = some m.cls) (e0 : T0.heap = h0) (N0 : Fr n0 locs) (OO : Old Z n0 h0) (d0 : (2 : Int32) < t2) (f0 : AI3 Z h0 o0 j0 t3 t1 t0) (hq0 : ¬ (t0 < t1)) :
    ∃ (T' : State) (h' : Heap) (lc : List Loc), Stand p l e R s m args below meth c T' lc cn sn ∧ T'.heap = h' ∧ Fr n0 lc ∧ Keep h0 h' [] ∧
      ∀ target, Steps p.tables e below (T'.setTop (mkF m 3 #[rv o0, iv t4, iv t2, iv 2, iv 2, iv t0] [])) target → Steps p.tables e below (T0.setTop (mkF m 3 #[rv o0, iv t4, iv t2, iv t5, iv 1, iv t6] [])) target := by
  obtain ⟨c1, r1, q1, S1, M1, H1, G1⟩ := id f0
  have i2 := inb_of (j := 2) S1 (by decide)
  have y3 : c1.slots[((2 : Int32)).toNatClampNeg]? = some (.int t0) := H1 2 (by rw [S1]; decide)
  obtain ⟨c4, r4, q4, S4, M4, H4, G4⟩ := id f0
  have i5 := inb_of (j := 1) S4 (by decide)
  have y6 : c4.slots[((1 : Int32)).toNatClampNeg]? = some (.int t1) := H4 1 (by rw [S4]; decide)
  refine ⟨T0, h0, _, X0, e0, N0, (Keep.refl h0 []), fun target kt => ?_⟩
  show Steps p.tables e below (T0.setTop (mkF m 3 #[rv o0, iv t4, iv t2, iv t5, iv 1, iv t6] [])) _
  refine XS.iinc X0.here hx rfl (hb hby d9_3) rfl (l' := #[rv o0, iv t4, iv t2, iv t5, iv ((1 : Int32) + (1 : Int32)), iv t6]) rfl ?_
  show Steps p.tables e below (T0.setTop (mkF m 6 #[rv o0, iv t4, iv t2, iv t5, iv 2, iv t6] [])) _
  refine oi X0 hx hby d9_6 rfl rfl ?_
  refine oI X0 hx hby d9_8 rfl rfl ?_
  refine XS.icmpNo X0.here hx rfl (hb hby d9_9) rfl (tlt d0).2.1 ?_
  refine oA X0 hx hby d9_12 rfl rfl rfl ?_
  refine oi X0 hx hby d9_13 rfl rfl ?_
  refine XS.dup X0.here hx rfl (hb hby d9_15) rfl rfl ?_
  refine XS.istoreN X0.here hx rfl (hb hby d9_16) rfl (l' := #[rv o0, iv t4, iv t2, iv 2, iv 2, iv t6]) rfl ?_
  refine oL X0 hx hZ e0 r1 i2 y3 (by exact hb hby d9_17) rfl rfl ?_
  refine XS.istore X0.here hx rfl (hb hby d9_18) rfl (l' := #[rv o0, iv t4, iv t2, iv 2, iv 2, iv t0]) rfl ?_
  refine oi X0 hx hby d9_20 rfl rfl ?_
  refine oA X0 hx hby d9_22 rfl rfl rfl ?_
  refine oI X0 hx hby d9_23 rfl rfl ?_
  refine oK X0 hx hby d9_24 rfl ?_
  refine XS.isub X0.here hx rfl (hb hby d9_25) rfl ?_
  show Steps p.tables e below (T0.setTop (mkF m 26 #[rv o0, iv t4, iv t2, iv 2, iv 2, iv t0] [(.int ((2 : Int32) - (1 : Int32))), (.ref o0), (.int t0)])) _
  rw [(by decide : ((2 : Int32) - (1 : Int32)) = (1 : Int32))]
  refine oL X0 hx hZ e0 r4 i5 y6 (by exact hb hby d9_26) rfl rfl ?_
  refine XS.icmpYes X0.here hx rfl (pc0 := 27) (pc' := 64) rfl (hb hby d9_27) rfl (flt hq0).2.1 (by decide) (by decide) ?_
  refine XS.goto X0.here hx rfl (pc0 := 64) (pc' := 3) rfl (hb hby d9_64) (by decide) (by decide) ?_
  exact kt
def Q9_2 (Z : State) (t0 t1 t2 t3 : Int32) (o0 : Addr) (j0 : ClassId) (h0 : Heap) (n0 : Nat) (v : Option Value) (h : Heap) (L : List Loc) : Prop := v = none ∧ Fr n0 L ∧ Keep h0 h [o0] ∧ AI3 Z h o0 j0 t0 t1 t2
theorem rm9_2 (l : Launch) (Z : State) (a0 : Array Value) (hw : HW a0 Z) (ws : List Jvm.Cond) (t0 t1 t2 t3 : Int32) (o0 : Addr) (j0 : ClassId) (h0 : Heap) (n0 : Nat) (OO : Old Z n0 h0) (f0 : AI3 Z h0 o0 j0 t1 t0 t2) (u0 : n0 ≤ o0) (d0 : (1 : Int32) < t3) (d1 : (2 : Int32) < t3) (d2 : ¬ ((3 : Int32) < t3)) (hq0 : t0 < t1) (hq1 : ¬ (t2 < t1)) :
    own_MF l Z h0 (⟨"java/util/DualPivotQuicksort", "insertionSort", "([III)V"⟩ : MethodName) ws jdk_2529_method_6_code 6 none ({ frames := 0, cells := 0, slots := 0, locals := 0 } : Room) #[(.ref o0), (.int 0), (.int t3)] (Q9_2 Z t0 t1 t2 t3 o0 j0 h0 n0) := by
  refine MetFree.of_bodySF (plainFor_of_name pn_9) hisR ?_
  intro p e s m args below meth c s₁ Bd hml0 hP hK
  obtain ⟨rfl, hZ, hh⟩ := hP
  have hx := Bd.exec
  have hby := Bd.bytes
  have hml : c.maxLocals = 6 := hml0
  have hown : s.vm.findClass "java/util/DualPivotQuicksort" = some m.cls := findClass_of_methodNamed Bd.named
  have X0 : Stand p l e ({ frames := 0, cells := 0, slots := 0, locals := 0 } : Room) s m #[(.ref o0), (.int 0), (.int t3)] below meth c s₁ [] 0 0 := Stand.of_body Bd
  have e0 : s₁.heap = h0 := by rw [← hh, Bd.state]; rfl
  have N0 := Fr.nil n0
  obtain ⟨T1, h1, lc1, X1, e1, N1, K1, R1_0, st1⟩ := sg_1 hw t0 t1 t3 t2 o0 j0 X0 hx hZ hby hml hown e0 N0 OO d0 f0 u0 hq0
  have O1 := Old.keep OO K1 (allS u0 all0)
  have KK1 := Keep.trans (Keep.refl h0 [o0]) K1 (allS (Or.inl (own_m 0 rfl)) all0)
  obtain ⟨T2, h2, lc2, X2, e2, N2, K2, st2⟩ := sg_4 hw t2 t1 t3 t0 (0 : Int32) ((-1) : Int32) t0 o0 j0 X1 hx hZ hby hml hown e1 N1 O1 d1 R1_0 hq1
  have O2 := Old.keep O1 K2 all0
  have KK2 := Keep.trans KK1 K2 all0
  have F3 := (Arv.keep R1_0 K2 nin0)
  obtain ⟨fs, hr, hrun, hended, hW, hsame⟩ := X2.leave (v := none) (fun _ => rfl)
  refine ⟨_, _, (castTop (ef_9 m o0 0 t3) ?_), hrun, hended, _, _, rfl, ?_, ⟨_, rfl⟩, hW, hsame.mono (by decide) (by decide)⟩
  · show Steps p.tables e below (s₁.setTop (mkF m 0 #[rv o0, iv 0, iv t3, .unset, .unset, .unset] [])) _
    refine oI X0 hx hby d9_0 rfl rfl ?_
    refine XS.istore X0.here hx rfl (hb hby d9_1) rfl (l' := #[rv o0, iv 0, iv t3, .unset, iv 0, .unset]) rfl ?_
    show Steps p.tables e below (s₁.setTop (mkF m 3 #[rv o0, iv 0, iv t3, .unset, iv 0, .unset] [])) _
    refine st1 _ ?_
    show Steps p.tables e below (T1.setTop (mkF m 3 #[rv o0, iv 0, iv t3, iv (-1), iv 1, iv t0] [])) _
    refine st2 _ ?_
    refine XS.iinc X2.here hx rfl (hb hby d9_3) rfl (l' := #[rv o0, iv 0, iv t3, iv 2, iv ((2 : Int32) + (1 : Int32)), iv t2]) rfl ?_
    show Steps p.tables e below (T2.setTop (mkF m 6 #[rv o0, iv 0, iv t3, iv 2, iv 3, iv t2] [])) _
    refine oi X2 hx hby d9_6 rfl rfl ?_
    refine oI X2 hx hby d9_8 rfl rfl ?_
    refine XS.icmpYes X2.here hx rfl (pc0 := 9) (pc' := 67) rfl (hb hby d9_9) rfl (flt d2).2.1 (by decide) (by decide) ?_
    exact X2.returnOut hx Bd.returns (hb hby d9_67) hr
  · show Q9_2 Z t0 t1 t2 t3 o0 j0 h0 n0 _ T2.heap _
    rw [e2]
    exact ⟨rfl, N2, KK2, F3⟩
theorem sg_5 {p : Program} {l : Launch} {R : Room} {e : Env} {s : State} {m : MethodId} {args : Array Value} {below : List Frame} {meth : Method} {c : Code} {T0 : State} {locs : List Loc} {Z : State} {a0 : Array Value} {h0 : Heap} {n0 cn sn : Nat} (hw : HW a0 Z) (t0 t1 t2 t3 t4 : Int32) (o0 : Addr) (j0 : ClassId)
    (X0 : Stand p l e R s m args below meth c T0 locs cn sn) (hx : p.tables.exec = Jvm.exec) (hZ : Z.Warmed39 s.vm) (hby : c.code = jdk_2529_method_6_code) (hml : c.maxLocals = 6) (hown : s.vm.findClass "java/util/DualPivotQuicksort" = some m.cls) (e0 : T0.heap = h0) (N0 : Fr n0 locs) (OO : Old Z n0 h0) (d0 : (1 : Int32) < t2) (f0 : AI3 Z h0 o0 j0 t1 t0 t3) (hq0 : ¬ (t0 < t1)) :
    ∃ (T' : State) (h' : Heap) (lc : List Loc), Stand p l e R s m args below meth c T' lc cn sn ∧ T'.heap = h' ∧ Fr n0 lc ∧ Keep h0 h' [] ∧
      ∀ target, Steps p.tables e below (T'.setTop (mkF m 3 #[rv o0, iv t4, iv t2, iv 1, iv 1, iv t0] [])) target → Steps p.tables e below (T0.setTop (mkF m 3 #[rv o0, iv t4, iv t2, .unset, iv 0, .unset] [])) target := by
  obtain ⟨c1, r1, q1, S1, M1, H1, G1⟩ := id f0
  have i2 := inb_of (j := 1) S1 (by decide)
  have y3 : c1.slots[((1 : Int32)).toNatClampNeg]? = some (.int t0) := H1 1 (by rw [S1]; decide)
  obtain ⟨c4, r4, q4, S4, M4, H4, G4⟩ := id f0
  have i5 := inb_of (j := 0) S4 (by decide)
  have y6 : c4.slots[((0 : Int32)).toNatClampNeg]? = some (.int t1) := H4 0 (by rw [S4]; decide)
  refine ⟨T0, h0, _, X0, e0, N0, (Keep.refl h0 []), fun target kt => ?_⟩
  show Steps p.tables e below (T0.setTop (mkF m 3 #[rv o0, iv t4, iv t2, .unset, iv 0, .unset] [])) _
  refine XS.iinc X0.here hx rfl (hb hby d9_3) rfl (l' := #[rv o0, iv t4, iv t2, .unset, iv ((0 : Int32) + (1 : Int32)), .unset]) rfl ?_
  show Steps p.tables e below (T0.setTop (mkF m 6 #[rv o0, iv t4, iv t2, .unset, iv 1, .unset] [])) _
  refine oi X0 hx hby d9_6 rfl rfl ?_
  refine oI X0 hx hby d9_8 rfl rfl ?_
  refine XS.icmpNo X0.here hx rfl (hb hby d9_9) rfl (tlt d0).2.1 ?_
  refine oA X0 hx hby d9_12 rfl rfl rfl ?_
  refine oi X0 hx hby d9_13 rfl rfl ?_
  refine XS.dup X0.here hx rfl (hb hby d9_15) rfl rfl ?_
  refine XS.istoreN X0.here hx rfl (hb hby d9_16) rfl (l' := #[rv o0, iv t4, iv t2, iv 1, iv 1, .unset]) rfl ?_
  refine oL X0 hx hZ e0 r1 i2 y3 (by exact hb hby d9_17) rfl rfl ?_
  refine XS.istore X0.here hx rfl (hb hby d9_18) rfl (l' := #[rv o0, iv t4, iv t2, iv 1, iv 1, iv t0]) rfl ?_
  refine oi X0 hx hby d9_20 rfl rfl ?_
  refine oA X0 hx hby d9_22 rfl rfl rfl ?_
  refine oI X0 hx hby d9_23 rfl rfl ?_
  refine oK X0 hx hby d9_24 rfl ?_
  refine XS.isub X0.here hx rfl (hb hby d9_25) rfl ?_
  show Steps p.tables e below (T0.setTop (mkF m 26 #[rv o0, iv t4, iv t2, iv 1, iv 1, iv t0] [(.int ((1 : Int32) - (1 : Int32))), (.ref o0), (.int t0)])) _
  rw [(by decide : ((1 : Int32) - (1 : Int32)) = (0 : Int32))]
  refine oL X0 hx hZ e0 r4 i5 y6 (by exact hb hby d9_26) rfl rfl ?_
  refine XS.icmpYes X0.here hx rfl (pc0 := 27) (pc' := 64) rfl (hb hby d9_27) rfl (flt hq0).2.1 (by decide) (by decide) ?_
  refine XS.goto X0.here hx rfl (pc0 := 64) (pc' := 3) rfl (hb hby d9_64) (by decide) (by decide) ?_
  exact kt
def Q9_3 (Z : State) (t0 t1 t2 t3 : Int32) (o0 : Addr) (j0 : ClassId) (h0 : Heap) (n0 : Nat) (v : Option Value) (h : Heap) (L : List Loc) : Prop := v = none ∧ Fr n0 L ∧ Keep h0 h [o0] ∧ AI3 Z h o0 j0 t2 t1 t0
theorem rm9_3 (l : Launch) (Z : State) (a0 : Array Value) (hw : HW a0 Z) (ws : List Jvm.Cond) (t0 t1 t2 t3 : Int32) (o0 : Addr) (j0 : ClassId) (h0 : Heap) (n0 : Nat) (OO : Old Z n0 h0) (f0 : AI3 Z h0 o0 j0 t1 t0 t2) (u0 : n0 ≤ o0) (d0 : (1 : Int32) < t3) (d1 : (2 : Int32) < t3) (d2 : ¬ ((3 : Int32) < t3)) (hq0 : ¬ (t0 < t1)) (hq1 : t2 < t0) (hq2 : t2 < t1) :
    own_MF l Z h0 (⟨"java/util/DualPivotQuicksort", "insertionSort", "([III)V"⟩ : MethodName) ws jdk_2529_method_6_code 6 none ({ frames := 0, cells := 0, slots := 0, locals := 0 } : Room) #[(.ref o0), (.int 0), (.int t3)] (Q9_3 Z t0 t1 t2 t3 o0 j0 h0 n0) := by
  refine MetFree.of_bodySF (plainFor_of_name pn_9) hisR ?_
  intro p e s m args below meth c s₁ Bd hml0 hP hK
  obtain ⟨rfl, hZ, hh⟩ := hP
  have hx := Bd.exec
  have hby := Bd.bytes
  have hml : c.maxLocals = 6 := hml0
  have hown : s.vm.findClass "java/util/DualPivotQuicksort" = some m.cls := findClass_of_methodNamed Bd.named
  have X0 : Stand p l e ({ frames := 0, cells := 0, slots := 0, locals := 0 } : Room) s m #[(.ref o0), (.int 0), (.int t3)] below meth c s₁ [] 0 0 := Stand.of_body Bd
  have e0 : s₁.heap = h0 := by rw [← hh, Bd.state]; rfl
  have N0 := Fr.nil n0
  obtain ⟨T1, h1, lc1, X1, e1, N1, K1, st1⟩ := sg_5 hw t0 t1 t3 t2 (0 : Int32) o0 j0 X0 hx hZ hby hml hown e0 N0 OO d0 f0 hq0
  have O1 := Old.keep OO K1 all0
  have KK1 := Keep.trans (Keep.refl h0 [o0]) K1 all0
  have F3 := (Arv.keep f0 K1 nin0)
  obtain ⟨T2, h2, lc2, X2, e2, N2, K2, R2_0, st2⟩ := sg_2 hw t2 t0 t1 t3 (1 : Int32) t0 o0 j0 X1 hx hZ hby hml hown e1 N1 O1 d1 F3 u0 hq1 hq2
  have O2 := Old.keep O1 K2 (allS u0 all0)
  have KK2 := Keep.trans KK1 K2 (allS (Or.inl (own_m 0 rfl)) all0)
  obtain ⟨fs, hr, hrun, hended, hW, hsame⟩ := X2.leave (v := none) (fun _ => rfl)
  refine ⟨_, _, (castTop (ef_9 m o0 0 t3) ?_), hrun, hended, _, _, rfl, ?_, ⟨_, rfl⟩, hW, hsame.mono (by decide) (by decide)⟩
  · show Steps p.tables e below (s₁.setTop (mkF m 0 #[rv o0, iv 0, iv t3, .unset, .unset, .unset] [])) _
    refine oI X0 hx hby d9_0 rfl rfl ?_
    refine XS.istore X0.here hx rfl (hb hby d9_1) rfl (l' := #[rv o0, iv 0, iv t3, .unset, iv 0, .unset]) rfl ?_
    show Steps p.tables e below (s₁.setTop (mkF m 3 #[rv o0, iv 0, iv t3, .unset, iv 0, .unset] [])) _
    refine st1 _ ?_
    show Steps p.tables e below (T1.setTop (mkF m 3 #[rv o0, iv 0, iv t3, iv 1, iv 1, iv t0] [])) _
    refine st2 _ ?_
    refine XS.iinc X2.here hx rfl (hb hby d9_3) rfl (l' := #[rv o0, iv 0, iv t3, iv (-1), iv ((2 : Int32) + (1 : Int32)), iv t2]) rfl ?_
    show Steps p.tables e below (T2.setTop (mkF m 6 #[rv o0, iv 0, iv t3, iv (-1), iv 3, iv t2] [])) _
    refine oi X2 hx hby d9_6 rfl rfl ?_
    refine oI X2 hx hby d9_8 rfl rfl ?_
    refine XS.icmpYes X2.here hx rfl (pc0 := 9) (pc' := 67) rfl (hb hby d9_9) rfl (flt d2).2.1 (by decide) (by decide) ?_
    exact X2.returnOut hx Bd.returns (hb hby d9_67) hr
  · show Q9_3 Z t0 t1 t2 t3 o0 j0 h0 n0 _ T2.heap _
    rw [e2]
    exact ⟨rfl, N2, KK2, R2_0⟩
def Q9_4 (Z : State) (t0 t1 t2 t3 : Int32) (o0 : Addr) (j0 : ClassId) (h0 : Heap) (n0 : Nat) (v : Option Value) (h : Heap) (L : List Loc) : Prop := v = none ∧ Fr n0 L ∧ Keep h0 h [o0] ∧ AI3 Z h o0 j0 t1 t2 t0
theorem rm9_4 (l : Launch) (Z : State) (a0 : Array Value) (hw : HW a0 Z) (ws : List Jvm.Cond) (t0 t1 t2 t3 : Int32) (o0 : Addr) (j0 : ClassId) (h0 : Heap) (n0 : Nat) (OO : Old Z n0 h0) (f0 : AI3 Z h0 o0 j0 t1 t0 t2) (u0 : n0 ≤ o0) (d0 : (1 : Int32) < t3) (d1 : (2 : Int32) < t3) (d2 : ¬ ((3 : Int32) < t3)) (hq0 : ¬ (t0 < t1)) (hq1 : t2 < t0) (hq2 : ¬ (t2 < t1)) :
    own_MF l Z h0 (⟨"java/util/DualPivotQuicksort", "insertionSort", "([III)V"⟩ : MethodName) ws jdk_2529_method_6_code 6 none ({ frames := 0, cells := 0, slots := 0, locals := 0 } : Room) #[(.ref o0), (.int 0), (.int t3)] (Q9_4 Z t0 t1 t2 t3 o0 j0 h0 n0) := by
  refine MetFree.of_bodySF (plainFor_of_name pn_9) hisR ?_
  intro p e s m args below meth c s₁ Bd hml0 hP hK
  obtain ⟨rfl, hZ, hh⟩ := hP
  have hx := Bd.exec
  have hby := Bd.bytes
  have hml : c.maxLocals = 6 := hml0
  have hown : s.vm.findClass "java/util/DualPivotQuicksort" = some m.cls := findClass_of_methodNamed Bd.named
  have X0 : Stand p l e ({ frames := 0, cells := 0, slots := 0, locals := 0 } : Room) s m #[(.ref o0), (.int 0), (.int t3)] below meth c s₁ [] 0 0 := Stand.of_body Bd
  have e0 : s₁.heap = h0 := by rw [← hh, Bd.state]; rfl
  have N0 := Fr.nil n0
  obtain ⟨T1, h1, lc1, X1, e1, N1, K1, st1⟩ := sg_5 hw t0 t1 t3 t2 (0 : Int32) o0 j0 X0 hx hZ hby hml hown e0 N0 OO d0 f0 hq0
  have O1 := Old.keep OO K1 all0
  have KK1 := Keep.trans (Keep.refl h0 [o0]) K1 all0
  have F3 := (Arv.keep f0 K1 nin0)
  obtain ⟨T2, h2, lc2, X2, e2, N2, K2, R2_0, st2⟩ := sg_3 hw t2 t0 t1 t3 (1 : Int32) t0 o0 j0 X1 hx hZ hby hml hown e1 N1 O1 d1 F3 u0 hq1 hq2
  have O2 := Old.keep O1 K2 (allS u0 all0)
  have KK2 := Keep.trans KK1 K2 (allS (Or.inl (own_m 0 rfl)) all0)
  obtain ⟨fs, hr, hrun, hended, hW, hsame⟩ := X2.leave (v := none) (fun _ => rfl)
  refine ⟨_, _, (castTop (ef_9 m o0 0 t3) ?_), hrun, hended, _, _, rfl, ?_, ⟨_, rfl⟩, hW, hsame.mono (by decide) (by decide)⟩
  · show Steps p.tables e below (s₁.setTop (mkF m 0 #[rv o0, iv 0, iv t3, .unset, .unset, .unset] [])) _
    refine oI X0 hx hby d9_0 rfl rfl ?_
    refine XS.istore X0.here hx rfl (hb hby d9_1) rfl (l' := #[rv o0, iv 0, iv t3, .unset, iv 0, .unset]) rfl ?_
    show Steps p.tables e below (s₁.setTop (mkF m 3 #[rv o0, iv 0, iv t3, .unset, iv 0, .unset] [])) _
    refine st1 _ ?_
    show Steps p.tables e below (T1.setTop (mkF m 3 #[rv o0, iv 0, iv t3, iv 1, iv 1, iv t0] [])) _
    refine st2 _ ?_
    refine XS.iinc X2.here hx rfl (hb hby d9_3) rfl (l' := #[rv o0, iv 0, iv t3, iv 0, iv ((2 : Int32) + (1 : Int32)), iv t2]) rfl ?_
    show Steps p.tables e below (T2.setTop (mkF m 6 #[rv o0, iv 0, iv t3, iv 0, iv 3, iv t2] [])) _
    refine oi X2 hx hby d9_6 rfl rfl ?_
    refine oI X2 hx hby d9_8 rfl rfl ?_
    refine XS.icmpYes X2.here hx rfl (pc0 := 9) (pc' := 67) rfl (hb hby d9_9) rfl (flt d2).2.1 (by decide) (by decide) ?_
    exact X2.returnOut hx Bd.returns (hb hby d9_67) hr
  · show Q9_4 Z t0 t1 t2 t3 o0 j0 h0 n0 _ T2.heap _
    rw [e2]
    exact ⟨rfl, N2, KK2, R2_0⟩
def Q9_5 (Z : State) (t0 t1 t2 t3 : Int32) (o0 : Addr) (j0 : ClassId) (h0 : Heap) (n0 : Nat) (v : Option Value) (h : Heap) (L : List Loc) : Prop := v = none ∧ Fr n0 L ∧ Keep h0 h [o0] ∧ AI3 Z h o0 j0 t1 t0 t2
theorem rm9_5 (l : Launch) (Z : State) (a0 : Array Value) (hw : HW a0 Z) (ws : List Jvm.Cond) (t0 t1 t2 t3 : Int32) (o0 : Addr) (j0 : ClassId) (h0 : Heap) (n0 : Nat) (OO : Old Z n0 h0) (f0 : AI3 Z h0 o0 j0 t1 t0 t2) (u0 : n0 ≤ o0) (d0 : (1 : Int32) < t3) (d1 : (2 : Int32) < t3) (d2 : ¬ ((3 : Int32) < t3)) (hq0 : ¬ (t0 < t1)) (hq1 : ¬ (t2 < t0)) :
    own_MF l Z h0 (⟨"java/util/DualPivotQuicksort", "insertionSort", "([III)V"⟩ : MethodName) ws jdk_2529_method_6_code 6 none ({ frames := 0, cells := 0, slots := 0, locals := 0 } : Room) #[(.ref o0), (.int 0), (.int t3)] (Q9_5 Z t0 t1 t2 t3 o0 j0 h0 n0) := by
  refine MetFree.of_bodySF (plainFor_of_name pn_9) hisR ?_
  intro p e s m args below meth c s₁ Bd hml0 hP hK
  obtain ⟨rfl, hZ, hh⟩ := hP
  have hx := Bd.exec
  have hby := Bd.bytes
  have hml : c.maxLocals = 6 := hml0
  have hown : s.vm.findClass "java/util/DualPivotQuicksort" = some m.cls := findClass_of_methodNamed Bd.named
  have X0 : Stand p l e ({ frames := 0, cells := 0, slots := 0, locals := 0 } : Room) s m #[(.ref o0), (.int 0), (.int t3)] below meth c s₁ [] 0 0 := Stand.of_body Bd
  have e0 : s₁.heap = h0 := by rw [← hh, Bd.state]; rfl
  have N0 := Fr.nil n0
  obtain ⟨T1, h1, lc1, X1, e1, N1, K1, st1⟩ := sg_5 hw t0 t1 t3 t2 (0 : Int32) o0 j0 X0 hx hZ hby hml hown e0 N0 OO d0 f0 hq0
  have O1 := Old.keep OO K1 all0
  have KK1 := Keep.trans (Keep.refl h0 [o0]) K1 all0
  have F3 := (Arv.keep f0 K1 nin0)
  obtain ⟨T2, h2, lc2, X2, e2, N2, K2, st2⟩ := sg_4 hw t2 t0 t3 t1 (0 : Int32) (1 : Int32) t0 o0 j0 X1 hx hZ hby hml hown e1 N1 O1 d1 F3 hq1
  have O2 := Old.keep O1 K2 all0
  have KK2 := Keep.trans KK1 K2 all0
  have F4 := (Arv.keep F3 K2 nin0)
  obtain ⟨fs, hr, hrun, hended, hW, hsame⟩ := X2.leave (v := none) (fun _ => rfl)
  refine ⟨_, _, (castTop (ef_9 m o0 0 t3) ?_), hrun, hended, _, _, rfl, ?_, ⟨_, rfl⟩, hW, hsame.mono (by decide) (by decide)⟩
  · show Steps p.tables e below (s₁.setTop (mkF m 0 #[rv o0, iv 0, iv t3, .unset, .unset, .unset] [])) _
    refine oI X0 hx hby d9_0 rfl rfl ?_
    refine XS.istore X0.here hx rfl (hb hby d9_1) rfl (l' := #[rv o0, iv 0, iv t3, .unset, iv 0, .unset]) rfl ?_
    show Steps p.tables e below (s₁.setTop (mkF m 3 #[rv o0, iv 0, iv t3, .unset, iv 0, .unset] [])) _
    refine st1 _ ?_
    show Steps p.tables e below (T1.setTop (mkF m 3 #[rv o0, iv 0, iv t3, iv 1, iv 1, iv t0] [])) _
    refine st2 _ ?_
    refine XS.iinc X2.here hx rfl (hb hby d9_3) rfl (l' := #[rv o0, iv 0, iv t3, iv 2, iv ((2 : Int32) + (1 : Int32)), iv t2]) rfl ?_
    show Steps p.tables e below (T2.setTop (mkF m 6 #[rv o0, iv 0, iv t3, iv 2, iv 3, iv t2] [])) _
    refine oi X2 hx hby d9_6 rfl rfl ?_
    refine oI X2 hx hby d9_8 rfl rfl ?_
    refine XS.icmpYes X2.here hx rfl (pc0 := 9) (pc' := 67) rfl (hb hby d9_9) rfl (flt d2).2.1 (by decide) (by decide) ?_
    exact X2.returnOut hx Bd.returns (hb hby d9_67) hr
  · show Q9_5 Z t0 t1 t2 t3 o0 j0 h0 n0 _ T2.heap _
    rw [e2]
    exact ⟨rfl, N2, KK2, F4⟩
def Q9_6 (Z : State) (t0 t1 t2 t3 : Int32) (o0 : Addr) (j0 : ClassId) (y0 y1 y2 : Int32) (h0 : Heap) (n0 : Nat) (v : Option Value) (h : Heap) (L : List Loc) : Prop := v = none ∧ Fr n0 L ∧ Keep h0 h [o0] ∧ AI3 Z h o0 j0 y0 y1 y2
theorem rm9_6 (l : Launch) (Z : State) (a0 : Array Value) (hw : HW a0 Z) (ws : List Jvm.Cond) (t0 t1 t2 t3 : Int32) (o0 : Addr) (j0 : ClassId) (h0 : Heap) (n0 : Nat) (OO : Old Z n0 h0) (f0 : AI3 Z h0 o0 j0 t1 t2 t3) (u0 : n0 ≤ o0) (d0 : (1 : Int32) < t0) (d1 : (2 : Int32) < t0) (d2 : ¬ ((3 : Int32) < t0)) :
    own_MF l Z h0 (⟨"java/util/DualPivotQuicksort", "insertionSort", "([III)V"⟩ : MethodName) ws jdk_2529_method_6_code 6 none ({ frames := 0, cells := 0, slots := 0, locals := 0 } : Room) #[(.ref o0), (.int 0), (.int t0)] (Q9_6 Z t0 t1 t2 t3 o0 j0 (own_s0 t1 t2 t3) (own_s1 t1 t2 t3) (own_s2 t1 t2 t3) h0 n0) := by
  by_cases hq0 : t2 < t1
  · by_cases hq1 : t3 < t1
    · by_cases hq2 : t3 < t2
      · rw [(show (own_s0 t1 t2 t3) = t3 from by simp only [own_s0, hq0, hq1, hq2, ↓reduceIte]), (show (own_s1 t1 t2 t3) = t2 from by simp only [own_s1, hq0, hq1, hq2, ↓reduceIte]), (show (own_s2 t1 t2 t3) = t1 from by simp only [own_s2, hq0, hq1, hq2, ↓reduceIte])]
        exact rm9_0 l Z a0 hw ws t2 t1 t3 t0 o0 j0 h0 n0 OO f0 u0 d0 d1 d2 hq0 hq1 hq2
      · rw [(show (own_s0 t1 t2 t3) = t2 from by simp only [own_s0, hq0, hq1, hq2, ↓reduceIte]), (show (own_s1 t1 t2 t3) = t3 from by simp only [own_s1, hq0, hq1, hq2, ↓reduceIte]), (show (own_s2 t1 t2 t3) = t1 from by simp only [own_s2, hq0, hq1, hq2, ↓reduceIte])]
        exact rm9_1 l Z a0 hw ws t2 t1 t3 t0 o0 j0 h0 n0 OO f0 u0 d0 d1 d2 hq0 hq1 hq2
    · rw [(show (own_s0 t1 t2 t3) = t2 from by simp only [own_s0, hq0, hq1, ↓reduceIte]), (show (own_s1 t1 t2 t3) = t1 from by simp only [own_s1, hq0, hq1, ↓reduceIte]), (show (own_s2 t1 t2 t3) = t3 from by simp only [own_s2, hq0, hq1, ↓reduceIte])]
      exact rm9_2 l Z a0 hw ws t2 t1 t3 t0 o0 j0 h0 n0 OO f0 u0 d0 d1 d2 hq0 hq1
  · by_cases hq1 : t3 < t2
    · by_cases hq2 : t3 < t1
      · rw [(show (own_s0 t1 t2 t3) = t3 from by simp only [own_s0, hq0, hq1, hq2, ↓reduceIte]), (show (own_s1 t1 t2 t3) = t1 from by simp only [own_s1, hq0, hq1, hq2, ↓reduceIte]), (show (own_s2 t1 t2 t3) = t2 from by simp only [own_s2, hq0, hq1, hq2, ↓reduceIte])]
        exact rm9_3 l Z a0 hw ws t2 t1 t3 t0 o0 j0 h0 n0 OO f0 u0 d0 d1 d2 hq0 hq1 hq2
      · rw [(show (own_s0 t1 t2 t3) = t1 from by simp only [own_s0, hq0, hq1, hq2, ↓reduceIte]), (show (own_s1 t1 t2 t3) = t3 from by simp only [own_s1, hq0, hq1, hq2, ↓reduceIte]), (show (own_s2 t1 t2 t3) = t2 from by simp only [own_s2, hq0, hq1, hq2, ↓reduceIte])]
        exact rm9_4 l Z a0 hw ws t2 t1 t3 t0 o0 j0 h0 n0 OO f0 u0 d0 d1 d2 hq0 hq1 hq2
    · rw [(show (own_s0 t1 t2 t3) = t1 from by simp only [own_s0, hq0, hq1, ↓reduceIte]), (show (own_s1 t1 t2 t3) = t2 from by simp only [own_s1, hq0, hq1, ↓reduceIte]), (show (own_s2 t1 t2 t3) = t3 from by simp only [own_s2, hq0, hq1, ↓reduceIte])]
      exact rm9_5 l Z a0 hw ws t2 t1 t3 t0 o0 j0 h0 n0 OO f0 u0 d0 d1 d2 hq0 hq1
def Q8_0 (Z : State) (t0 t1 t2 t3 t4 : Int32) (o0 : Addr) (j0 : ClassId) (h0 : Heap) (n0 : Nat) (v : Option Value) (h : Heap) (L : List Loc) : Prop := v = none ∧ Fr n0 L ∧ Keep h0 h [o0] ∧ AI3 Z h o0 j0 (own_s0 t2 t3 t4) (own_s1 t2 t3 t4) (own_s2 t2 t3 t4)
theorem rm8_0 (l : Launch) (Z : State) (a0 : Array Value) (hw : HW a0 Z) (ws : List Jvm.Cond) (t0 t1 t2 t3 t4 : Int32) (o0 : Addr) (j0 : ClassId) (h0 : Heap) (n0 : Nat) (OO : Old Z n0 h0) (d0 : (t0 - (0 : Int32)) < ((65 : Int32) + t1)) (d1 : ¬ ((0 : Int32) < (t1 &&& (1 : Int32)))) (d2 : (t0 - (0 : Int32)) < (44 : Int32)) (f0 : AI3 Z h0 o0 j0 t2 t3 t4) (u0 : n0 ≤ o0) (d3 : (1 : Int32) < t0) (d4 : (2 : Int32) < t0) (d5 : ¬ ((3 : Int32) < t0)) :
    own_MF l Z h0 (⟨"java/util/DualPivotQuicksort", "sort", "(Ljava/util/DualPivotQuicksort$Sorter;[IIII)V"⟩ : MethodName) ws jdk_2529_method_4_code 21 none ({ frames := 1, cells := 0, slots := 0, locals := 17 } : Room) #[.null, (.ref o0), (.int t1), (.int 0), (.int t0)] (Q8_0 Z t0 t1 t2 t3 t4 o0 j0 h0 n0) := by
  refine MetFree.of_bodySF (plainFor_of_name pn_8) hisR ?_
  intro p e s m args below meth c s₁ Bd hml0 hP hK
  obtain ⟨rfl, hZ, hh⟩ := hP
  have hx := Bd.exec
  have hby := Bd.bytes
  have hml : c.maxLocals = 21 := hml0
  have hown : s.vm.findClass "java/util/DualPivotQuicksort" = some m.cls := findClass_of_methodNamed Bd.named
  have X0 : Stand p l e ({ frames := 1, cells := 0, slots := 0, locals := 17 } : Room) s m #[.null, (.ref o0), (.int t1), (.int 0), (.int t0)] below meth c s₁ [] 0 0 := Stand.of_body Bd
  have e0 : s₁.heap = h0 := by rw [← hh, Bd.state]; rfl
  have N0 := Fr.nil n0
  obtain ⟨_, T1, h1, Lc1, X1, e1, hQ1, st1⟩ := own_cS X0 hx hZ hown (w_54 hw) (w_55 hw) (w_49 hw) (w_56 hw) (by decide) (rm9_6 l Z a0 hw [] t0 t2 t3 t4 o0 j0 h0 n0 OO f0 u0 d3 d4 d5) e0 (W := 0) (by decide) (by decide) (by decide : 0 + 0 ≤ _) (by decide : 0 + 0 ≤ _) (g := (mkF m 57 #[.val .null, rv o0, iv t1, iv 0, iv t0, iv (t0 - (1 : Int32)), iv (t0 - (0 : Int32)), .unset, .unset, .unset, .unset, .unset, .unset, .unset, .unset, .unset, .unset, .unset, .unset, .unset, .unset] [(.int t0), (.int 0), (.ref o0)])) rfl (by rw [hml]; rfl) (argsL := [(.ref o0), (.int 0), (.int t0)]) (rest := []) (lenOf pd_3 rfl) rfl rfl rfl (hb hby d8_57) rfl
  obtain ⟨rfl, N1q, K1, R1_0⟩ := hQ1
  have N1 := Fr.app N0 N1q
  have O1 := Old.keep OO K1 (allS u0 all0)
  have KK1 := Keep.trans (Keep.refl h0 [o0]) K1 (allS (Or.inl (own_m 0 rfl)) all0)
  obtain ⟨fs, hr, hrun, hended, hW, hsame⟩ := X1.leave (v := none) (fun _ => rfl)
  refine ⟨_, _, (castTop (ef_8 m o0 t1 0 t0) ?_), hrun, hended, _, _, rfl, ?_, ⟨_, rfl⟩, hW, hsame.mono (by decide) (by decide)⟩
  · show Steps p.tables e below (s₁.setTop (mkF m 0 #[.val .null, rv o0, iv t1, iv 0, iv t0, .unset, .unset, .unset, .unset, .unset, .unset, .unset, .unset, .unset, .unset, .unset, .unset, .unset, .unset, .unset, .unset] [])) _
    refine oi X0 hx hby d8_0 rfl rfl ?_
    refine oK X0 hx hby d8_2 rfl ?_
    refine XS.isub X0.here hx rfl (hb hby d8_3) rfl ?_
    refine XS.istore X0.here hx rfl (hb hby d8_4) rfl (l' := #[.val .null, rv o0, iv t1, iv 0, iv t0, iv (t0 - (1 : Int32)), .unset, .unset, .unset, .unset, .unset, .unset, .unset, .unset, .unset, .unset, .unset, .unset, .unset, .unset, .unset]) rfl ?_
    refine oi X0 hx hby d8_6 rfl rfl ?_
    refine oI X0 hx hby d8_8 rfl rfl ?_
    refine XS.isub X0.here hx rfl (hb hby d8_9) rfl ?_
    refine XS.istore X0.here hx rfl (hb hby d8_10) rfl (l' := #[.val .null, rv o0, iv t1, iv 0, iv t0, iv (t0 - (1 : Int32)), iv (t0 - (0 : Int32)), .unset, .unset, .unset, .unset, .unset, .unset, .unset, .unset, .unset, .unset, .unset, .unset, .unset, .unset]) rfl ?_
    refine oi X0 hx hby d8_12 rfl rfl ?_
    refine XS.bipush X0.here hx rfl (hb hby d8_14) ?_
    refine oI X0 hx hby d8_16 rfl rfl ?_
    refine XS.iadd X0.here hx rfl (hb hby d8_17) rfl ?_
    refine XS.icmpNo X0.here hx rfl (hb hby d8_18) rfl (tlt d0).2.1 ?_
    refine oI X0 hx hby d8_21 rfl rfl ?_
    refine oK X0 hx hby d8_22 rfl ?_
    refine XS.iand X0.here hx rfl (hb hby d8_23) rfl ?_
    refine XS.ifYes X0.here hx rfl (pc0 := 24) (pc' := 46) rfl (hb hby d8_24) rfl ((if0 _ _).trans (flt d1).2.2.2) (by decide) (by decide) ?_
    refine oi X0 hx hby d8_46 rfl rfl ?_
    refine XS.bipush X0.here hx rfl (hb hby d8_48) ?_
    refine XS.icmpNo X0.here hx rfl (hb hby d8_50) rfl (tlt d2).2.1 ?_
    refine oA X0 hx hby d8_53 rfl rfl rfl ?_
    refine oI X0 hx hby d8_54 rfl rfl ?_
    refine oi X0 hx hby d8_55 rfl rfl ?_
    refine st1 _ ?_
    show Steps p.tables e below (T1.setTop (mkF m 60 #[.val .null, rv o0, iv t1, iv 0, iv t0, iv (t0 - (1 : Int32)), iv (t0 - (0 : Int32)), .unset, .unset, .unset, .unset, .unset, .unset, .unset, .unset, .unset, .unset, .unset, .unset, .unset, .unset] [])) _
    exact X1.returnOut hx Bd.returns (hb hby d8_60) hr
  · show Q8_0 Z t0 t1 t2 t3 t4 o0 j0 h0 n0 _ T1.heap _
    rw [e1]
    exact ⟨rfl, N1, KK1, R1_0⟩
def Q7_0 (Z : State) (t0 t1 t2 t3 t4 : Int32) (o0 : Addr) (j0 : ClassId) (h0 : Heap) (n0 : Nat) (v : Option Value) (h : Heap) (L : List Loc) : Prop := v = none ∧ Fr n0 L ∧ Keep h0 h [o0] ∧ AI3 Z h o0 j0 (own_s0 t1 t2 t3) (own_s1 t1 t2 t3) (own_s2 t1 t2 t3)
theorem rm7_0 (l : Launch) (Z : State) (a0 : Array Value) (hw : HW a0 Z) (ws : List Jvm.Cond) (t0 t1 t2 t3 t4 : Int32) (o0 : Addr) (j0 : ClassId) (h0 : Heap) (n0 : Nat) (OO : Old Z n0 h0) (d0 : ¬ ((1 : Int32) < t0)) (f0 : AI3 Z h0 o0 j0 t1 t2 t3) (d1 : (t4 - (0 : Int32)) < ((65 : Int32) + 0)) (d2 : (t4 - (0 : Int32)) < (44 : Int32)) (u0 : n0 ≤ o0) (d3 : (1 : Int32) < t4) (d4 : (2 : Int32) < t4) (d5 : ¬ ((3 : Int32) < t4)) :
    own_MF l Z h0 (⟨"java/util/DualPivotQuicksort", "sort", "([IIII)V"⟩ : MethodName) ws jdk_2529_method_3_code 7 none ({ frames := 2, cells := 0, slots := 0, locals := 49 } : Room) #[(.ref o0), (.int t0), (.int 0), (.int t4)] (Q7_0 Z t0 t1 t2 t3 t4 o0 j0 h0 n0) := by
  refine MetFree.of_bodySF (plainFor_of_name pn_7) hisR ?_
  intro p e s m args below meth c s₁ Bd hml0 hP hK
  obtain ⟨rfl, hZ, hh⟩ := hP
  have hx := Bd.exec
  have hby := Bd.bytes
  have hml : c.maxLocals = 7 := hml0
  have hown : s.vm.findClass "java/util/DualPivotQuicksort" = some m.cls := findClass_of_methodNamed Bd.named
  have X0 : Stand p l e ({ frames := 2, cells := 0, slots := 0, locals := 49 } : Room) s m #[(.ref o0), (.int t0), (.int 0), (.int t4)] below meth c s₁ [] 0 0 := Stand.of_body Bd
  have e0 : s₁.heap = h0 := by rw [← hh, Bd.state]; rfl
  have N0 := Fr.nil n0
  obtain ⟨_, T1, h1, Lc1, X1, e1, hQ1, st1⟩ := own_cS X0 hx hZ hown (w_51 hw) (w_52 hw) (w_49 hw) (w_53 hw) (by decide) (rm8_0 l Z a0 hw [] t4 (0 : Int32) t1 t2 t3 o0 j0 h0 n0 OO d1 (by decide) d2 f0 u0 d3 d4 d5) e0 (W := 0) (by decide) (by decide) (by decide : 0 + 0 ≤ _) (by decide : 0 + 0 ≤ _) (g := (mkF m 73 #[rv o0, iv t0, iv 0, iv t4, iv (t4 - (0 : Int32)), .unset, .unset] [(.int t4), (.int 0), (.int 0), (.ref o0), .null])) rfl (by rw [hml]; rfl) (argsL := [.null, (.ref o0), (.int 0), (.int 0), (.int t4)]) (rest := []) (lenOf pd_4 rfl) rfl rfl rfl (hb hby d7_73) rfl
  obtain ⟨rfl, N1q, K1, R1_0⟩ := hQ1
  have N1 := Fr.app N0 N1q
  have O1 := Old.keep OO K1 (allS u0 all0)
  have KK1 := Keep.trans (Keep.refl h0 [o0]) K1 (allS (Or.inl (own_m 0 rfl)) all0)
  obtain ⟨fs, hr, hrun, hended, hW, hsame⟩ := X1.leave (v := none) (fun _ => rfl)
  refine ⟨_, _, (castTop (ef_7 m o0 t0 0 t4) ?_), hrun, hended, _, _, rfl, ?_, ⟨_, rfl⟩, hW, hsame.mono (by decide) (by decide)⟩
  · show Steps p.tables e below (s₁.setTop (mkF m 0 #[rv o0, iv t0, iv 0, iv t4, .unset, .unset, .unset] [])) _
    refine oI X0 hx hby d7_0 rfl rfl ?_
    refine oI X0 hx hby d7_1 rfl rfl ?_
    refine XS.isub X0.here hx rfl (hb hby d7_2) rfl ?_
    refine XS.istore X0.here hx rfl (hb hby d7_3) rfl (l' := #[rv o0, iv t0, iv 0, iv t4, iv (t4 - (0 : Int32)), .unset, .unset]) rfl ?_
    refine oI X0 hx hby d7_5 rfl rfl ?_
    refine oK X0 hx hby d7_6 rfl ?_
    refine XS.icmpYes X0.here hx rfl (pc0 := 7) (pc' := 68) rfl (hb hby d7_7) rfl (flt d0).2.2.2 (by decide) (by decide) ?_
    refine XS.aconstNull X0.here hx rfl (hb hby d7_68) ?_
    refine oA X0 hx hby d7_69 rfl rfl rfl ?_
    refine oK X0 hx hby d7_70 rfl ?_
    refine oI X0 hx hby d7_71 rfl rfl ?_
    refine oI X0 hx hby d7_72 rfl rfl ?_
    refine st1 _ ?_
    exact X1.returnOut hx Bd.returns (hb hby d7_76) hr
  · show Q7_0 Z t0 t1 t2 t3 t4 o0 j0 h0 n0 _ T1.heap _
    rw [e1]
    exact ⟨rfl, N1, KK1, R1_0⟩
def Q5_0 (Z : State) (t0 t1 t2 t3 : Int32) (o0 : Addr) (j0 : ClassId) (h0 : Heap) (n0 : Nat) (v : Option Value) (h : Heap) (L : List Loc) : Prop := v = none ∧ Fr n0 L ∧ Keep h0 h [o0] ∧ AI3 Z h o0 j0 (own_s0 t0 t1 t2) (own_s1 t0 t1 t2) (own_s2 t0 t1 t2)
theorem rm5_0 (l : Launch) (Z : State) (a0 : Array Value) (hw : HW a0 Z) (ws : List Jvm.Cond) (t0 t1 t2 t3 : Int32) (o0 : Addr) (j0 : ClassId) (h0 : Heap) (n0 : Nat) (OO : Old Z n0 h0) (f0 : AI3 Z h0 o0 j0 t0 t1 t2) (d0 : ¬ (t3 < 0)) (d1 : ¬ (3 < t3)) (d2 : (t3 - (0 : Int32)) < ((65 : Int32) + 0)) (d3 : (t3 - (0 : Int32)) < (44 : Int32)) (u0 : n0 ≤ o0) (d4 : (1 : Int32) < t3) (d5 : (2 : Int32) < t3) (d6 : ¬ ((3 : Int32) < t3)) :
    own_MF l Z h0 (⟨"java/util/Arrays", "sort", "([III)V"⟩ : MethodName) ws jdk_65_method_3_code 3 none ({ frames := 3, cells := 0, slots := 0, locals := 67 } : Room) #[(.ref o0), (.int 0), (.int t3)] (Q5_0 Z t0 t1 t2 t3 o0 j0 h0 n0) := by
  refine MetFree.of_bodySF (plainFor_of_name pn_5) hisR ?_
  intro p e s m args below meth c s₁ Bd hml0 hP hK
  obtain ⟨rfl, hZ, hh⟩ := hP
  have hx := Bd.exec
  have hby := Bd.bytes
  have hml : c.maxLocals = 3 := hml0
  have hown : s.vm.findClass "java/util/Arrays" = some m.cls := findClass_of_methodNamed Bd.named
  have X0 : Stand p l e ({ frames := 3, cells := 0, slots := 0, locals := 67 } : Room) s m #[(.ref o0), (.int 0), (.int t3)] below meth c s₁ [] 0 0 := Stand.of_body Bd
  have e0 : s₁.heap = h0 := by rw [← hh, Bd.state]; rfl
  have N0 := Fr.nil n0
  obtain ⟨c1, r1, q1, S1, M1, H1, G1⟩ := id f0
  obtain ⟨_, T2, h2, Lc2, X2, e2a, hQ2, st2⟩ := own_cS X0 hx hZ hown (w_44 hw) (w_45 hw) (w_42 hw) (w_46 hw) (by decide) (rm6_0 l Z a0 hw [] t3 (0 : Int32) (3 : Int32) h0 n0 OO d0 (by decide) d1) e0 (W := 0) (by decide) (by decide) (by decide : 0 + 0 ≤ _) (by decide : 0 + 0 ≤ _) (g := (mkF m 4 #[rv o0, iv 0, iv t3] [(.int t3), (.int 0), (.int 3)])) rfl (by rw [hml]; rfl) (argsL := [(.int 3), (.int 0), (.int t3)]) (rest := []) (lenOf pd_2 rfl) rfl rfl rfl (hb hby d5_4) rfl
  obtain ⟨rfl, N2q, z2⟩ := hQ2
  have e2 := e2a.trans z2
  have N2 := Fr.app N0 N2q
  obtain ⟨_, T3, h3, Lc3, X3, e3, hQ3, st3⟩ := own_cS X2 hx hZ hown (w_47 hw) (w_48 hw) (w_49 hw) (w_50 hw) (by decide) (rm7_0 l Z a0 hw [] (0 : Int32) t0 t1 t2 t3 o0 j0 h0 n0 OO (by decide) f0 d2 d3 u0 d4 d5 d6) e2 (W := 0) (by decide) (by decide) (by decide : 0 + 0 ≤ _) (by decide : 0 + 0 ≤ _) (g := (mkF m 11 #[rv o0, iv 0, iv t3] [(.int t3), (.int 0), (.int 0), (.ref o0)])) rfl (by rw [hml]; rfl) (argsL := [(.ref o0), (.int 0), (.int 0), (.int t3)]) (rest := []) (lenOf pd_5 rfl) rfl rfl rfl (hb hby d5_11) rfl
  obtain ⟨rfl, N3q, K3, R3_0⟩ := hQ3
  have N3 := Fr.app N2 N3q
  have O3 := Old.keep OO K3 (allS u0 all0)
  have KK3 := Keep.trans (Keep.refl h0 [o0]) K3 (allS (Or.inl (own_m 0 rfl)) all0)
  obtain ⟨fs, hr, hrun, hended, hW, hsame⟩ := X3.leave (v := none) (fun _ => rfl)
  refine ⟨_, _, (castTop (ef_5 m o0 0 t3) ?_), hrun, hended, _, _, rfl, ?_, ⟨_, rfl⟩, hW, hsame.mono (by decide) (by decide)⟩
  · show Steps p.tables e below (s₁.setTop (mkF m 0 #[rv o0, iv 0, iv t3] [])) _
    refine oA X0 hx hby d5_0 rfl rfl rfl ?_
    refine X0.arraylength hx (by rw [e0]; exact r1.1) (State.isArrayOf_alike hZ.alike r1.2.1) (g := (mkF m 1 #[rv o0, iv 0, iv t3] [(.ref o0)])) rfl rfl (hb hby d5_1) _ ?_
    rw [len_of S1 M1]
    refine oI X0 hx hby d5_2 rfl rfl ?_
    refine oI X0 hx hby d5_3 rfl rfl ?_
    refine st2 _ ?_
    refine oA X2 hx hby d5_7 rfl rfl rfl ?_
    refine oK X2 hx hby d5_8 rfl ?_
    refine oI X2 hx hby d5_9 rfl rfl ?_
    refine oI X2 hx hby d5_10 rfl rfl ?_
    refine st3 _ ?_
    exact X3.returnOut hx Bd.returns (hb hby d5_14) hr
  · show Q5_0 Z t0 t1 t2 t3 o0 j0 h0 n0 _ T3.heap _
    rw [e3]
    exact ⟨rfl, N3, KK3, R3_0⟩
def Q4_0 (Z : State) (t0 t1 t2 t3 t4 t5 : Int32) (t6 t7 t8 t9 t10 t11 : Int64) (t12 t13 t14 t15 t16 t17 t18 t19 : Int32) (o0 o1 o2 o3 o4 o5 o6 : Addr) (j0 j1 j2 j3 j4 j5 : ClassId) (h0 : Heap) (n0 : Nat) (v : Option Value) (h : Heap) (L : List Loc) : Prop := v = none ∧ Fr n0 L ∧ Keep h0 h [o2, o1, o3, o0, o4, o5, o6] ∧ AI3 Z h o2 j1 (own_s0 t3 t4 t5) (own_s1 t3 t4 t5) (own_s2 t3 t4 t5) ∧ AI3 Z h o1 j0 (own_s0 t3 t4 t5) (own_s1 t3 t4 t5) (own_s2 t3 t4 t5) ∧ Exa Z h o1 "[I" ∧ AD3 Z h o3 j3 (own_pk (own_s0 t3 t4 t5) t6 t7 t8) (own_pk (own_s1 t3 t4 t5) (own_up (own_s0 t3 t4 t5) 0 (0 : Int64) t6) (own_up (own_s0 t3 t4 t5) 1 (0 : Int64) t7) (own_up (own_s0 t3 t4 t5) 2 (0 : Int64) t8)) (own_pk (own_s2 t3 t4 t5) (own_up (own_s1 t3 t4 t5) 0 (0 : Int64) (own_up (own_s0 t3 t4 t5) 0 (0 : Int64) t6)) (own_up (own_s1 t3 t4 t5) 1 (0 : Int64) (own_up (own_s0 t3 t4 t5) 1 (0 : Int64) t7)) (own_up (own_s1 t3 t4 t5) 2 (0 : Int64) (own_up (own_s0 t3 t4 t5) 2 (0 : Int64) t8))) ∧ Exa Z h o3 "[D" ∧ fB8 Z h o0 (.int 3) ∧ fB7 Z h o0 (.int 0) ∧ fB5 Z h o0 (.ref o1) ∧ fB3 Z h o0 (.ref o2) ∧ fB6 Z h o0 (.ref o3) ∧ fB1 Z h o0 (.ref o4) ∧ Exa Z h o0 kB ∧ fB2 Z h o0 (.ref o5) ∧ fB9 Z h o0 (.int 1) ∧ fB4 Z h o0 (.ref o6) ∧ fB0 Z h o0 (.int t19) ∧ AD3 Z h o4 j2 (own_up (own_s2 t3 t4 t5) 0 (0 : Int64) (own_up (own_s1 t3 t4 t5) 0 (0 : Int64) (own_up (own_s0 t3 t4 t5) 0 (0 : Int64) t6))) (own_up (own_s2 t3 t4 t5) 1 (0 : Int64) (own_up (own_s1 t3 t4 t5) 1 (0 : Int64) (own_up (own_s0 t3 t4 t5) 1 (0 : Int64) t7))) (own_up (own_s2 t3 t4 t5) 2 (0 : Int64) (own_up (own_s1 t3 t4 t5) 2 (0 : Int64) (own_up (own_s0 t3 t4 t5) 2 (0 : Int64) t8))) ∧ AZ3 Z h o5 j4 (own_ui (own_s2 t3 t4 t5) 0 0 (own_ui (own_s1 t3 t4 t5) 0 0 (own_ui (own_s0 t3 t4 t5) 0 0 t12))) (own_ui (own_s2 t3 t4 t5) 1 0 (own_ui (own_s1 t3 t4 t5) 1 0 (own_ui (own_s0 t3 t4 t5) 1 0 t13))) (own_ui (own_s2 t3 t4 t5) 2 0 (own_ui (own_s1 t3 t4 t5) 2 0 (own_ui (own_s0 t3 t4 t5) 2 0 t14))) ∧ AI4 Z h o6 j5 t15 3 t17 t18
theorem rm4_0 (l : Launch) (Z : State) (a0 : Array Value) (hw : HW a0 Z) (ws : List Jvm.Cond) (t0 t1 t2 t3 t4 t5 : Int32) (t6 t7 t8 t9 t10 t11 : Int64) (t12 t13 t14 t15 t16 t17 t18 t19 : Int32) (o0 o1 o2 o3 o4 o5 o6 : Addr) (j0 j1 j2 j3 j4 j5 : ClassId) (h0 : Heap) (n0 : Nat) (OO : Old Z n0 h0) (f0 : fB8 Z h0 o0 (.int 0)) (f1 : fB7 Z h0 o0 (.int 3)) (f2 : fB5 Z h0 o0 (.ref o1)) (f3 : AI3 Z h0 o1 j0 t0 t1 t2) (f4 : fB3 Z h0 o0 (.ref o2)) (f5 : AI3 Z h0 o2 j1 t3 t4 t5) (u0 : n0 ≤ o2) (v0 : o0 ≠ o2) (v1 : o1 ≠ o2) (u1 : n0 ≤ o1) (f6 : fB6 Z h0 o0 (.ref o3)) (v2 : o0 ≠ o1) (f7 : fB1 Z h0 o0 (.ref o4)) (f8 : AD3 Z h0 o4 j2 t6 t7 t8) (v3 : o4 ≠ o2) (v4 : o4 ≠ o1) (d0 : own_in3 (own_s0 t3 t4 t5)) (f9 : AD3 Z h0 o3 j3 t9 t10 t11) (v5 : o3 ≠ o2) (v6 : o3 ≠ o1) (u2 : n0 ≤ o3) (v7 : o0 ≠ o3) (f10 : Exa Z h0 o0 kB) (u3 : n0 ≤ o0) (v8 : o4 ≠ o3) (v9 : o4 ≠ o0) (u4 : n0 ≤ o4) (f11 : fB2 Z h0 o0 (.ref o5)) (f12 : AZ3 Z h0 o5 j4 t12 t13 t14) (v10 : o5 ≠ o2) (v11 : o5 ≠ o1) (v12 : o5 ≠ o3) (v13 : o5 ≠ o0) (v14 : o5 ≠ o4) (u5 : n0 ≤ o5) (d1 : own_in3 (own_s1 t3 t4 t5)) (d2 : own_in3 (own_s2 t3 t4 t5)) (f13 : fB9 Z h0 o0 (.int 0)) (f14 : fB4 Z h0 o0 (.ref o6)) (f15 : AI4 Z h0 o6 j5 t15 t16 t17 t18) (v15 : o6 ≠ o2) (v16 : o6 ≠ o1) (v17 : o6 ≠ o3) (v18 : o6 ≠ o0) (v19 : o6 ≠ o4) (v20 : o6 ≠ o5) (u6 : n0 ≤ o6) (f16 : Exa Z h0 o1 "[I") (f17 : Exa Z h0 o3 "[D") (f18 : fB0 Z h0 o0 (.int t19)) :
    own_MF l Z h0 (⟨kB, "endRow", "()V"⟩ : MethodName) ws prog_58_method_3_code 3 none ({ frames := 4, cells := 0, slots := 0, locals := 81 } : Room) #[(.ref o0)] (Q4_0 Z t0 t1 t2 t3 t4 t5 t6 t7 t8 t9 t10 t11 t12 t13 t14 t15 t16 t17 t18 t19 o0 o1 o2 o3 o4 o5 o6 j0 j1 j2 j3 j4 j5 h0 n0) := by
  refine MetFree.of_bodySF (plainFor_of_name pn_4) hisR ?_
  intro p e s m args below meth c s₁ Bd hml0 hP hK
  obtain ⟨rfl, hZ, hh⟩ := hP
  have hx := Bd.exec
  have hby := Bd.bytes
  have hml : c.maxLocals = 3 := hml0
  have hown : s.vm.findClass kB = some m.cls := findClass_of_methodNamed Bd.named
  have X0 : Stand p l e ({ frames := 4, cells := 0, slots := 0, locals := 81 } : Room) s m #[(.ref o0)] below meth c s₁ [] 0 0 := Stand.of_body Bd
  have e0 : s₁.heap = h0 := by rw [← hh, Bd.state]; rfl
  have N0 := Fr.nil n0
  obtain ⟨T1, X1, e1, st1⟩ := own_gF X0 hx hZ hown (w_38 hw) e0 f0 (g := (mkF m 1 #[rv o0, .unset, .unset] [(.ref o0)])) rfl rfl (hb hby d4_1)
  obtain ⟨T2, X2, e2, st2⟩ := own_gF X1 hx hZ hown (w_31 hw) e1 f1 (g := (mkF m 5 #[rv o0, .unset, .unset] [(.ref o0), (.int 0)])) rfl rfl (hb hby d4_5)
  obtain ⟨T3, X3, e3, st3⟩ := own_gF X2 hx hZ hown (w_22 hw) e2 f2 (g := (mkF m 10 #[rv o0, .unset, .unset] [(.ref o0), (.int 3)])) rfl rfl (hb hby d4_10)
  obtain ⟨c4, r4, q4, S4, M4, H4, G4⟩ := id f3
  obtain ⟨T5, X5, e5, st5⟩ := own_gF X3 hx hZ hown (w_18 hw) e3 f4 (g := (mkF m 62 #[rv o0, .unset, .unset] [(.ref o0)])) rfl rfl (hb hby d4_62)
  obtain ⟨T6, X6, e6, st6⟩ := own_gF X5 hx hZ hown (w_31 hw) e5 f1 (g := (mkF m 67 #[rv o0, .unset, .unset] [(.ref o0), (.int 0), (.ref o2)])) rfl rfl (hb hby d4_67)
  obtain ⟨_, T7, h7, Lc7, X7, e7, hQ7, st7⟩ := own_cS X6 hx hZ hown (w_40 hw) (w_41 hw) (w_42 hw) (w_43 hw) (by decide) (rm5_0 l Z a0 hw [] t3 t4 t5 (3 : Int32) o2 j1 h0 n0 OO f5 (by decide) (by decide) (by decide) (by decide) u0 (by decide) (by decide) (by decide)) e6 (W := 0) (by decide) (by decide) (by decide : 0 + 0 ≤ _) (by decide : 0 + 0 ≤ _) (g := (mkF m 70 #[rv o0, .unset, .unset] [(.int 3), (.int 0), (.ref o2)])) rfl (by rw [hml]; rfl) (argsL := [(.ref o2), (.int 0), (.int 3)]) (rest := []) (lenOf pd_3 rfl) rfl rfl rfl (hb hby d4_70) rfl
  obtain ⟨rfl, N7q, K7, R7_0⟩ := hQ7
  have N7 := Fr.app N0 N7q
  have O7 := Old.keep OO K7 (allS u0 all0)
  have KK7 := Keep.trans (Keep.refl h0 [o2, o1, o3, o0, o4, o5, o6]) K7 (allS (Or.inl (own_m 0 rfl)) all0)
  have F8 := (Fld.keep f1 K7 (ninS v0 nin0))
  obtain ⟨T9, X9, e9, st9⟩ := own_gF X7 hx hZ hown (w_31 hw) e7 F8 (g := (mkF m 77 #[rv o0, iv 0, .unset] [(.ref o0), (.int 0)])) rfl rfl (hb hby d4_77)
  have F10 := (Fld.keep f4 K7 (ninS v0 nin0))
  obtain ⟨T11, X11, e11, st11⟩ := own_gF X9 hx hZ hown (w_18 hw) e9 F10 (g := (mkF m 84 #[rv o0, iv 0, .unset] [(.ref o0)])) rfl rfl (hb hby d4_84)
  obtain ⟨c12, r12, q12, S12, M12, H12, G12⟩ := id R7_0
  have i13 := inb_of (j := 0) S12 (by decide)
  have y14 : c12.slots[((0 : Int32)).toNatClampNeg]? = some (.int (own_s0 t3 t4 t5)) := H12 0 (by rw [S12]; decide)
  have F15 := (Fld.keep f2 K7 (ninS v0 nin0))
  obtain ⟨T16, X16, e16, st16⟩ := own_gF X11 hx hZ hown (w_22 hw) e11 F15 (g := (mkF m 91 #[rv o0, iv 0, iv (own_s0 t3 t4 t5)] [(.ref o0)])) rfl rfl (hb hby d4_91)
  have F17 := (Fld.keep f0 K7 (ninS v0 nin0))
  obtain ⟨T18, X18, e18, st18⟩ := own_gF X16 hx hZ hown (w_38 hw) e16 F17 (g := (mkF m 95 #[rv o0, iv 0, iv (own_s0 t3 t4 t5)] [(.ref o0), (.ref o1)])) rfl rfl (hb hby d4_95)
  have F20 := (Arv.keep f3 K7 (ninS v1 nin0))
  obtain ⟨c19, r19, q19, S19, M19, H19, G19⟩ := id F20
  have i21 := inb_of (j := 0) S19 (by decide)
  obtain ⟨T22, h22, X22, e22, W22, st22⟩ := stI X18 hx hZ e18 r19 (j := (0 : Int32)) i21 (g := (mkF m 99 #[rv o0, iv 0, iv (own_s0 t3 t4 t5)] [(.int (own_s0 t3 t4 t5)), (.int 0), (.ref o1)])) rfl rfl (hb hby d4_99)
  have O22 := Old.wr O7 W22 u1
  have KK22 := Keep.wr KK7 W22 (Or.inl (own_m 1 rfl))
  have N22 := Fr.snoc X22 N7 u1
  have F23 : AI3 Z h22 o1 j0 (own_s0 t3 t4 t5) t1 t2 := Arv.set r19 q19 S19 M19 H19 G19 rfl W22 0 rfl (Nat.le_of_ble_eq_true rfl)
  have F24 := (Fld.other W22 (Fld.keep f6 K7 (ninS v0 nin0)) (Or.inl v2))
  obtain ⟨T25, X25, e25, st25⟩ := own_gF X22 hx hZ hown (w_24 hw) e22 F24 (g := (mkF m 101 #[rv o0, iv 0, iv (own_s0 t3 t4 t5)] [(.ref o0)])) rfl rfl (hb hby d4_101)
  have F26 := (Fld.other W22 F17 (Or.inl v2))
  obtain ⟨T27, X27, e27, st27⟩ := own_gF X25 hx hZ hown (w_38 hw) e25 F26 (g := (mkF m 105 #[rv o0, iv 0, iv (own_s0 t3 t4 t5)] [(.ref o0), (.ref o3)])) rfl rfl (hb hby d4_105)
  have F28 := (Fld.other W22 (Fld.keep f7 K7 (ninS v0 nin0)) (Or.inl v2))
  obtain ⟨T29, X29, e29, st29⟩ := own_gF X27 hx hZ hown (w_12 hw) e27 F28 (g := (mkF m 109 #[rv o0, iv 0, iv (own_s0 t3 t4 t5)] [(.ref o0), (.int 0), (.ref o3)])) rfl rfl (hb hby d4_109)
  have F31 := (Arv.other (Arv.keep f8 K7 (ninS v3 nin0)) W22 v4)
  obtain ⟨c30, r30, q30, S30, M30, H30, G30⟩ := id F31
  have i32 := own_inb (j := (own_s0 t3 t4 t5)) S30 d0
  have y33 := own_rdD S30 H30 d0
  have F35 := (Arv.other (Arv.keep f9 K7 (ninS v5 nin0)) W22 v6)
  obtain ⟨c34, r34, q34, S34, M34, H34, G34⟩ := id F35
  have i36 := inb_of (j := 0) S34 (by decide)
  obtain ⟨T37, h37, X37, e37, W37, st37⟩ := stD X29 hx hZ e29 r34 (j := (0 : Int32)) i36 (g := (mkF m 114 #[rv o0, iv 0, iv (own_s0 t3 t4 t5)] [(.double (FP.l2d (own_pk (own_s0 t3 t4 t5) t6 t7 t8))), (.int 0), (.ref o3)])) rfl rfl (hb hby d4_114)
  have O37 := Old.wr O22 W37 u2
  have KK37 := Keep.wr KK22 W37 (Or.inl (own_m 2 rfl))
  have N37 := Fr.snoc X37 N22 u2
  have F38 : AD3 Z h37 o3 j3 (own_pk (own_s0 t3 t4 t5) t6 t7 t8) t10 t11 := Arv.set r34 q34 S34 M34 H34 G34 rfl W37 0 rfl (Nat.le_of_ble_eq_true rfl)
  have F39 := (Fld.other W37 F26 (Or.inl v7))
  obtain ⟨T40, X40, e40, st40⟩ := own_gF X37 hx hZ hown (w_38 hw) e37 F39 (g := (mkF m 117 #[rv o0, iv 0, iv (own_s0 t3 t4 t5)] [(.ref o0), (.ref o0)])) rfl rfl (hb hby d4_117)
  have F41 := (Exa.wr W37 (Exa.wr W22 (Exa.keep f10 K7)))
  obtain ⟨T42, h42, X42, e42, W42, st42⟩ := putF X40 hx hZ hown (host := "") (Or.inl (w_38 hw)) Via.refl e40 F39 F41 (Or.inl (w_39 hw)) (w_1 hw) (ty := .int) (by decide) rfl rfl (g := (mkF m 122 #[rv o0, iv 0, iv (own_s0 t3 t4 t5)] [(.int 1), (.ref o0)])) rfl rfl (hb hby d4_122)
  have O42 := Old.wr O37 W42 u3
  have KK42 := Keep.wr KK37 W42 (Or.inl (own_m 3 rfl))
  have N42 := Fr.snoc X42 N37 u3
  have F43 : fB8 Z h42 o0 (.int 1) := Fld.same W42 F39
  have F44 := (Fld.other W42 (Fld.other W37 F28 (Or.inl v7)) (Or.inr (n_13_39 hw)))
  obtain ⟨T45, X45, e45, st45⟩ := own_gF X42 hx hZ hown (w_12 hw) e42 F44 (g := (mkF m 126 #[rv o0, iv 0, iv (own_s0 t3 t4 t5)] [(.ref o0)])) rfl rfl (hb hby d4_126)
  have F47 := (Arv.other (Arv.other F31 W37 v8) W42 v9)
  obtain ⟨c46, r46, q46, S46, M46, H46, G46⟩ := id F47
  have i48 := own_inb (j := (own_s0 t3 t4 t5)) S46 d0
  obtain ⟨T49, h49, X49, e49, W49, st49⟩ := stD X45 hx hZ e45 r46 (j := (own_s0 t3 t4 t5)) i48 (g := (mkF m 131 #[rv o0, iv 0, iv (own_s0 t3 t4 t5)] [(.double (FP.l2d (0 : Int64))), (.int (own_s0 t3 t4 t5)), (.ref o4)])) rfl rfl (hb hby d4_131)
  have O49 := Old.wr O42 W49 u4
  have KK49 := Keep.wr KK42 W49 (Or.inl (own_m 4 rfl))
  have N49 := Fr.snoc X49 N42 u4
  have F50 : AD3 Z h49 o4 j2 (own_up (own_s0 t3 t4 t5) 0 (0 : Int64) t6) (own_up (own_s0 t3 t4 t5) 1 (0 : Int64) t7) (own_up (own_s0 t3 t4 t5) 2 (0 : Int64) t8) := own_setD r46 q46 S46 M46 H46 G46 W49 d0
  have F51 := (Fld.other W49 (Fld.other W42 (Fld.other W37 (Fld.other W22 (Fld.keep f11 K7 (ninS v0 nin0)) (Or.inl v2)) (Or.inl v7)) (Or.inr (n_16_39 hw))) (Or.inl (Ne.symm v9)))
  obtain ⟨T52, X52, e52, st52⟩ := own_gF X49 hx hZ hown (w_15 hw) e49 F51 (g := (mkF m 133 #[rv o0, iv 0, iv (own_s0 t3 t4 t5)] [(.ref o0)])) rfl rfl (hb hby d4_133)
  have F54 := (Arv.other (Arv.other (Arv.other (Arv.other (Arv.keep f12 K7 (ninS v10 nin0)) W22 v11) W37 v12) W42 v13) W49 v14)
  obtain ⟨c53, r53, q53, S53, M53, H53, G53⟩ := id F54
  have i55 := own_inb (j := (own_s0 t3 t4 t5)) S53 d0
  obtain ⟨T56, h56, X56, e56, W56, st56⟩ := stZ X52 hx hZ e52 r53 (j := (own_s0 t3 t4 t5)) i55 (g := (mkF m 138 #[rv o0, iv 0, iv (own_s0 t3 t4 t5)] [(.int 0), (.int (own_s0 t3 t4 t5)), (.ref o5)])) rfl rfl (hb hby d4_138)
  have O56 := Old.wr O49 W56 u5
  have KK56 := Keep.wr KK49 W56 (Or.inl (own_m 5 rfl))
  have N56 := Fr.snoc X56 N49 u5
  have F57 : AZ3 Z h56 o5 j4 (own_ui (own_s0 t3 t4 t5) 0 0 t12) (own_ui (own_s0 t3 t4 t5) 1 0 t13) (own_ui (own_s0 t3 t4 t5) 2 0 t14) := own_setI r53 q53 S53 M53 H53 G53 (by decide) W56 d0
  have F58 := (Fld.other W56 (Fld.other W49 (Fld.other W42 (Fld.other W37 (Fld.other W22 F8 (Or.inl v2)) (Or.inl v7)) (Or.inr (n_32_39 hw))) (Or.inl (Ne.symm v9))) (Or.inl (Ne.symm v13)))
  obtain ⟨T59, X59, e59, st59⟩ := own_gF X56 hx hZ hown (w_31 hw) e56 F58 (g := (mkF m 77 #[rv o0, iv 1, iv (own_s0 t3 t4 t5)] [(.ref o0), (.int 1)])) rfl rfl (hb hby d4_77)
  have F60 := (Fld.other W56 (Fld.other W49 (Fld.other W42 (Fld.other W37 (Fld.other W22 F10 (Or.inl v2)) (Or.inl v7)) (Or.inr (n_19_39 hw))) (Or.inl (Ne.symm v9))) (Or.inl (Ne.symm v13)))
  obtain ⟨T61, X61, e61, st61⟩ := own_gF X59 hx hZ hown (w_18 hw) e59 F60 (g := (mkF m 84 #[rv o0, iv 1, iv (own_s0 t3 t4 t5)] [(.ref o0)])) rfl rfl (hb hby d4_84)
  have F63 := (Arv.other (Arv.other (Arv.other (Arv.other (Arv.other R7_0 W22 (Ne.symm v1)) W37 (Ne.symm v5)) W42 (Ne.symm v0)) W49 (Ne.symm v3)) W56 (Ne.symm v10))
  obtain ⟨c62, r62, q62, S62, M62, H62, G62⟩ := id F63
  have i64 := inb_of (j := 1) S62 (by decide)
  have y65 : c62.slots[((1 : Int32)).toNatClampNeg]? = some (.int (own_s1 t3 t4 t5)) := H62 1 (by rw [S62]; decide)
  have F66 := (Fld.other W56 (Fld.other W49 (Fld.other W42 (Fld.other W37 (Fld.other W22 F15 (Or.inl v2)) (Or.inl v7)) (Or.inr (n_23_39 hw))) (Or.inl (Ne.symm v9))) (Or.inl (Ne.symm v13)))
  obtain ⟨T67, X67, e67, st67⟩ := own_gF X61 hx hZ hown (w_22 hw) e61 F66 (g := (mkF m 91 #[rv o0, iv 1, iv (own_s1 t3 t4 t5)] [(.ref o0)])) rfl rfl (hb hby d4_91)
  have F68 := (Fld.other W56 (Fld.other W49 F43 (Or.inl (Ne.symm v9))) (Or.inl (Ne.symm v13)))
  obtain ⟨T69, X69, e69, st69⟩ := own_gF X67 hx hZ hown (w_38 hw) e67 F68 (g := (mkF m 95 #[rv o0, iv 1, iv (own_s1 t3 t4 t5)] [(.ref o0), (.ref o1)])) rfl rfl (hb hby d4_95)
  have F71 := (Arv.other (Arv.other (Arv.other (Arv.other F23 W37 (Ne.symm v6)) W42 (Ne.symm v2)) W49 (Ne.symm v4)) W56 (Ne.symm v11))
  obtain ⟨c70, r70, q70, S70, M70, H70, G70⟩ := id F71
  have i72 := inb_of (j := 1) S70 (by decide)
  obtain ⟨T73, h73, X73, e73, W73, st73⟩ := stI X69 hx hZ e69 r70 (j := (1 : Int32)) i72 (g := (mkF m 99 #[rv o0, iv 1, iv (own_s1 t3 t4 t5)] [(.int (own_s1 t3 t4 t5)), (.int 1), (.ref o1)])) rfl rfl (hb hby d4_99)
  have O73 := Old.wr O56 W73 u1
  have KK73 := Keep.wr KK56 W73 (Or.inl (own_m 1 rfl))
  have N73 := Fr.snoc X73 N56 u1
  have F74 : AI3 Z h73 o1 j0 (own_s0 t3 t4 t5) (own_s1 t3 t4 t5) t2 := Arv.set r70 q70 S70 M70 H70 G70 rfl W73 1 rfl (Nat.le_of_ble_eq_true rfl)
  have F75 := (Fld.other W73 (Fld.other W56 (Fld.other W49 (Fld.other W42 (Fld.other W37 F24 (Or.inl v7)) (Or.inr (n_25_39 hw))) (Or.inl (Ne.symm v9))) (Or.inl (Ne.symm v13))) (Or.inl v2))
  obtain ⟨T76, X76, e76, st76⟩ := own_gF X73 hx hZ hown (w_24 hw) e73 F75 (g := (mkF m 101 #[rv o0, iv 1, iv (own_s1 t3 t4 t5)] [(.ref o0)])) rfl rfl (hb hby d4_101)
  have F77 := (Fld.other W73 F68 (Or.inl v2))
  obtain ⟨T78, X78, e78, st78⟩ := own_gF X76 hx hZ hown (w_38 hw) e76 F77 (g := (mkF m 105 #[rv o0, iv 1, iv (own_s1 t3 t4 t5)] [(.ref o0), (.ref o3)])) rfl rfl (hb hby d4_105)
  have F79 := (Fld.other W73 (Fld.other W56 (Fld.other W49 F44 (Or.inl (Ne.symm v9))) (Or.inl (Ne.symm v13))) (Or.inl v2))
  obtain ⟨T80, X80, e80, st80⟩ := own_gF X78 hx hZ hown (w_12 hw) e78 F79 (g := (mkF m 109 #[rv o0, iv 1, iv (own_s1 t3 t4 t5)] [(.ref o0), (.int 1), (.ref o3)])) rfl rfl (hb hby d4_109)
  have F82 := (Arv.other (Arv.other F50 W56 (Ne.symm v14)) W73 v4)
  obtain ⟨c81, r81, q81, S81, M81, H81, G81⟩ := id F82
  have i83 := own_inb (j := (own_s1 t3 t4 t5)) S81 d1
  have y84 := own_rdD S81 H81 d1
  have F86 := (Arv.other (Arv.other (Arv.other (Arv.other F38 W42 (Ne.symm v7)) W49 (Ne.symm v8)) W56 (Ne.symm v12)) W73 v6)
  obtain ⟨c85, r85, q85, S85, M85, H85, G85⟩ := id F86
  have i87 := inb_of (j := 1) S85 (by decide)
  obtain ⟨T88, h88, X88, e88, W88, st88⟩ := stD X80 hx hZ e80 r85 (j := (1 : Int32)) i87 (g := (mkF m 114 #[rv o0, iv 1, iv (own_s1 t3 t4 t5)] [(.double (FP.l2d (own_pk (own_s1 t3 t4 t5) (own_up (own_s0 t3 t4 t5) 0 (0 : Int64) t6) (own_up (own_s0 t3 t4 t5) 1 (0 : Int64) t7) (own_up (own_s0 t3 t4 t5) 2 (0 : Int64) t8)))), (.int 1), (.ref o3)])) rfl rfl (hb hby d4_114)
  have O88 := Old.wr O73 W88 u2
  have KK88 := Keep.wr KK73 W88 (Or.inl (own_m 2 rfl))
  have N88 := Fr.snoc X88 N73 u2
  have F89 : AD3 Z h88 o3 j3 (own_pk (own_s0 t3 t4 t5) t6 t7 t8) (own_pk (own_s1 t3 t4 t5) (own_up (own_s0 t3 t4 t5) 0 (0 : Int64) t6) (own_up (own_s0 t3 t4 t5) 1 (0 : Int64) t7) (own_up (own_s0 t3 t4 t5) 2 (0 : Int64) t8)) t11 := Arv.set r85 q85 S85 M85 H85 G85 rfl W88 1 rfl (Nat.le_of_ble_eq_true rfl)
  have F90 := (Fld.other W88 F77 (Or.inl v7))
  obtain ⟨T91, X91, e91, st91⟩ := own_gF X88 hx hZ hown (w_38 hw) e88 F90 (g := (mkF m 117 #[rv o0, iv 1, iv (own_s1 t3 t4 t5)] [(.ref o0), (.ref o0)])) rfl rfl (hb hby d4_117)
  have F92 := (Exa.wr W88 (Exa.wr W73 (Exa.wr W56 (Exa.wr W49 (Exa.wr W42 F41)))))
  obtain ⟨T93, h93, X93, e93, W93, st93⟩ := putF X91 hx hZ hown (host := "") (Or.inl (w_38 hw)) Via.refl e91 F90 F92 (Or.inl (w_39 hw)) (w_1 hw) (ty := .int) (by decide) rfl rfl (g := (mkF m 122 #[rv o0, iv 1, iv (own_s1 t3 t4 t5)] [(.int 2), (.ref o0)])) rfl rfl (hb hby d4_122)
  have O93 := Old.wr O88 W93 u3
  have KK93 := Keep.wr KK88 W93 (Or.inl (own_m 3 rfl))
  have N93 := Fr.snoc X93 N88 u3
  have F94 : fB8 Z h93 o0 (.int 2) := Fld.same W93 F90
  have F95 := (Fld.other W93 (Fld.other W88 F79 (Or.inl v7)) (Or.inr (n_13_39 hw)))
  obtain ⟨T96, X96, e96, st96⟩ := own_gF X93 hx hZ hown (w_12 hw) e93 F95 (g := (mkF m 126 #[rv o0, iv 1, iv (own_s1 t3 t4 t5)] [(.ref o0)])) rfl rfl (hb hby d4_126)
  have F98 := (Arv.other (Arv.other F82 W88 v8) W93 v9)
  obtain ⟨c97, r97, q97, S97, M97, H97, G97⟩ := id F98
  have i99 := own_inb (j := (own_s1 t3 t4 t5)) S97 d1
  obtain ⟨T100, h100, X100, e100, W100, st100⟩ := stD X96 hx hZ e96 r97 (j := (own_s1 t3 t4 t5)) i99 (g := (mkF m 131 #[rv o0, iv 1, iv (own_s1 t3 t4 t5)] [(.double (FP.l2d (0 : Int64))), (.int (own_s1 t3 t4 t5)), (.ref o4)])) rfl rfl (hb hby d4_131)
  have O100 := Old.wr O93 W100 u4
  have KK100 := Keep.wr KK93 W100 (Or.inl (own_m 4 rfl))
  have N100 := Fr.snoc X100 N93 u4
  have F101 : AD3 Z h100 o4 j2 (own_up (own_s1 t3 t4 t5) 0 (0 : Int64) (own_up (own_s0 t3 t4 t5) 0 (0 : Int64) t6)) (own_up (own_s1 t3 t4 t5) 1 (0 : Int64) (own_up (own_s0 t3 t4 t5) 1 (0 : Int64) t7)) (own_up (own_s1 t3 t4 t5) 2 (0 : Int64) (own_up (own_s0 t3 t4 t5) 2 (0 : Int64) t8)) := own_setD r97 q97 S97 M97 H97 G97 W100 d1
  have F102 := (Fld.other W100 (Fld.other W93 (Fld.other W88 (Fld.other W73 (Fld.other W56 F51 (Or.inl (Ne.symm v13))) (Or.inl v2)) (Or.inl v7)) (Or.inr (n_16_39 hw))) (Or.inl (Ne.symm v9)))
  obtain ⟨T103, X103, e103, st103⟩ := own_gF X100 hx hZ hown (w_15 hw) e100 F102 (g := (mkF m 133 #[rv o0, iv 1, iv (own_s1 t3 t4 t5)] [(.ref o0)])) rfl rfl (hb hby d4_133)
  have F105 := (Arv.other (Arv.other (Arv.other (Arv.other F57 W73 v11) W88 v12) W93 v13) W100 v14)
  obtain ⟨c104, r104, q104, S104, M104, H104, G104⟩ := id F105
  have i106 := own_inb (j := (own_s1 t3 t4 t5)) S104 d1
  obtain ⟨T107, h107, X107, e107, W107, st107⟩ := stZ X103 hx hZ e103 r104 (j := (own_s1 t3 t4 t5)) i106 (g := (mkF m 138 #[rv o0, iv 1, iv (own_s1 t3 t4 t5)] [(.int 0), (.int (own_s1 t3 t4 t5)), (.ref o5)])) rfl rfl (hb hby d4_138)
  have O107 := Old.wr O100 W107 u5
  have KK107 := Keep.wr KK100 W107 (Or.inl (own_m 5 rfl))
  have N107 := Fr.snoc X107 N100 u5
  have F108 : AZ3 Z h107 o5 j4 (own_ui (own_s1 t3 t4 t5) 0 0 (own_ui (own_s0 t3 t4 t5) 0 0 t12)) (own_ui (own_s1 t3 t4 t5) 1 0 (own_ui (own_s0 t3 t4 t5) 1 0 t13)) (own_ui (own_s1 t3 t4 t5) 2 0 (own_ui (own_s0 t3 t4 t5) 2 0 t14)) := own_setI r104 q104 S104 M104 H104 G104 (by decide) W107 d1
  have F109 := (Fld.other W107 (Fld.other W100 (Fld.other W93 (Fld.other W88 (Fld.other W73 F58 (Or.inl v2)) (Or.inl v7)) (Or.inr (n_32_39 hw))) (Or.inl (Ne.symm v9))) (Or.inl (Ne.symm v13)))
  obtain ⟨T110, X110, e110, st110⟩ := own_gF X107 hx hZ hown (w_31 hw) e107 F109 (g := (mkF m 77 #[rv o0, iv 2, iv (own_s1 t3 t4 t5)] [(.ref o0), (.int 2)])) rfl rfl (hb hby d4_77)
  have F111 := (Fld.other W107 (Fld.other W100 (Fld.other W93 (Fld.other W88 (Fld.other W73 F60 (Or.inl v2)) (Or.inl v7)) (Or.inr (n_19_39 hw))) (Or.inl (Ne.symm v9))) (Or.inl (Ne.symm v13)))
  obtain ⟨T112, X112, e112, st112⟩ := own_gF X110 hx hZ hown (w_18 hw) e110 F111 (g := (mkF m 84 #[rv o0, iv 2, iv (own_s1 t3 t4 t5)] [(.ref o0)])) rfl rfl (hb hby d4_84)
  have F114 := (Arv.other (Arv.other (Arv.other (Arv.other (Arv.other F63 W73 (Ne.symm v1)) W88 (Ne.symm v5)) W93 (Ne.symm v0)) W100 (Ne.symm v3)) W107 (Ne.symm v10))
  obtain ⟨c113, r113, q113, S113, M113, H113, G113⟩ := id F114
  have i115 := inb_of (j := 2) S113 (by decide)
  have y116 : c113.slots[((2 : Int32)).toNatClampNeg]? = some (.int (own_s2 t3 t4 t5)) := H113 2 (by rw [S113]; decide)
  have F117 := (Fld.other W107 (Fld.other W100 (Fld.other W93 (Fld.other W88 (Fld.other W73 F66 (Or.inl v2)) (Or.inl v7)) (Or.inr (n_23_39 hw))) (Or.inl (Ne.symm v9))) (Or.inl (Ne.symm v13)))
  obtain ⟨T118, X118, e118, st118⟩ := own_gF X112 hx hZ hown (w_22 hw) e112 F117 (g := (mkF m 91 #[rv o0, iv 2, iv (own_s2 t3 t4 t5)] [(.ref o0)])) rfl rfl (hb hby d4_91)
  have F119 := (Fld.other W107 (Fld.other W100 F94 (Or.inl (Ne.symm v9))) (Or.inl (Ne.symm v13)))
  obtain ⟨T120, X120, e120, st120⟩ := own_gF X118 hx hZ hown (w_38 hw) e118 F119 (g := (mkF m 95 #[rv o0, iv 2, iv (own_s2 t3 t4 t5)] [(.ref o0), (.ref o1)])) rfl rfl (hb hby d4_95)
  have F122 := (Arv.other (Arv.other (Arv.other (Arv.other F74 W88 (Ne.symm v6)) W93 (Ne.symm v2)) W100 (Ne.symm v4)) W107 (Ne.symm v11))
  obtain ⟨c121, r121, q121, S121, M121, H121, G121⟩ := id F122
  have i123 := inb_of (j := 2) S121 (by decide)
  obtain ⟨T124, h124, X124, e124, W124, st124⟩ := stI X120 hx hZ e120 r121 (j := (2 : Int32)) i123 (g := (mkF m 99 #[rv o0, iv 2, iv (own_s2 t3 t4 t5)] [(.int (own_s2 t3 t4 t5)), (.int 2), (.ref o1)])) rfl rfl (hb hby d4_99)
  have O124 := Old.wr O107 W124 u1
  have KK124 := Keep.wr KK107 W124 (Or.inl (own_m 1 rfl))
  have N124 := Fr.snoc X124 N107 u1
  have F125 : AI3 Z h124 o1 j0 (own_s0 t3 t4 t5) (own_s1 t3 t4 t5) (own_s2 t3 t4 t5) := Arv.set r121 q121 S121 M121 H121 G121 rfl W124 2 rfl (Nat.le_of_ble_eq_true rfl)
  have F126 := (Fld.other W124 (Fld.other W107 (Fld.other W100 (Fld.other W93 (Fld.other W88 F75 (Or.inl v7)) (Or.inr (n_25_39 hw))) (Or.inl (Ne.symm v9))) (Or.inl (Ne.symm v13))) (Or.inl v2))
  obtain ⟨T127, X127, e127, st127⟩ := own_gF X124 hx hZ hown (w_24 hw) e124 F126 (g := (mkF m 101 #[rv o0, iv 2, iv (own_s2 t3 t4 t5)] [(.ref o0)])) rfl rfl (hb hby d4_101)
  have F128 := (Fld.other W124 F119 (Or.inl v2))
  obtain ⟨T129, X129, e129, st129⟩ := own_gF X127 hx hZ hown (w_38 hw) e127 F128 (g := (mkF m 105 #[rv o0, iv 2, iv (own_s2 t3 t4 t5)] [(.ref o0), (.ref o3)])) rfl rfl (hb hby d4_105)
  have F130 := (Fld.other W124 (Fld.other W107 (Fld.other W100 F95 (Or.inl (Ne.symm v9))) (Or.inl (Ne.symm v13))) (Or.inl v2))
  obtain ⟨T131, X131, e131, st131⟩ := own_gF X129 hx hZ hown (w_12 hw) e129 F130 (g := (mkF m 109 #[rv o0, iv 2, iv (own_s2 t3 t4 t5)] [(.ref o0), (.int 2), (.ref o3)])) rfl rfl (hb hby d4_109)
  have F133 := (Arv.other (Arv.other F101 W107 (Ne.symm v14)) W124 v4)
  obtain ⟨c132, r132, q132, S132, M132, H132, G132⟩ := id F133
  have i134 := own_inb (j := (own_s2 t3 t4 t5)) S132 d2
  have y135 := own_rdD S132 H132 d2
  have F137 := (Arv.other (Arv.other (Arv.other (Arv.other F89 W93 (Ne.symm v7)) W100 (Ne.symm v8)) W107 (Ne.symm v12)) W124 v6)
  obtain ⟨c136, r136, q136, S136, M136, H136, G136⟩ := id F137
  have i138 := inb_of (j := 2) S136 (by decide)
  obtain ⟨T139, h139, X139, e139, W139, st139⟩ := stD X131 hx hZ e131 r136 (j := (2 : Int32)) i138 (g := (mkF m 114 #[rv o0, iv 2, iv (own_s2 t3 t4 t5)] [(.double (FP.l2d (own_pk (own_s2 t3 t4 t5) (own_up (own_s1 t3 t4 t5) 0 (0 : Int64) (own_up (own_s0 t3 t4 t5) 0 (0 : Int64) t6)) (own_up (own_s1 t3 t4 t5) 1 (0 : Int64) (own_up (own_s0 t3 t4 t5) 1 (0 : Int64) t7)) (own_up (own_s1 t3 t4 t5) 2 (0 : Int64) (own_up (own_s0 t3 t4 t5) 2 (0 : Int64) t8))))), (.int 2), (.ref o3)])) rfl rfl (hb hby d4_114)
  have O139 := Old.wr O124 W139 u2
  have KK139 := Keep.wr KK124 W139 (Or.inl (own_m 2 rfl))
  have N139 := Fr.snoc X139 N124 u2
  have F140 : AD3 Z h139 o3 j3 (own_pk (own_s0 t3 t4 t5) t6 t7 t8) (own_pk (own_s1 t3 t4 t5) (own_up (own_s0 t3 t4 t5) 0 (0 : Int64) t6) (own_up (own_s0 t3 t4 t5) 1 (0 : Int64) t7) (own_up (own_s0 t3 t4 t5) 2 (0 : Int64) t8)) (own_pk (own_s2 t3 t4 t5) (own_up (own_s1 t3 t4 t5) 0 (0 : Int64) (own_up (own_s0 t3 t4 t5) 0 (0 : Int64) t6)) (own_up (own_s1 t3 t4 t5) 1 (0 : Int64) (own_up (own_s0 t3 t4 t5) 1 (0 : Int64) t7)) (own_up (own_s1 t3 t4 t5) 2 (0 : Int64) (own_up (own_s0 t3 t4 t5) 2 (0 : Int64) t8))) := Arv.set r136 q136 S136 M136 H136 G136 rfl W139 2 rfl (Nat.le_of_ble_eq_true rfl)
  have F141 := (Fld.other W139 F128 (Or.inl v7))
  obtain ⟨T142, X142, e142, st142⟩ := own_gF X139 hx hZ hown (w_38 hw) e139 F141 (g := (mkF m 117 #[rv o0, iv 2, iv (own_s2 t3 t4 t5)] [(.ref o0), (.ref o0)])) rfl rfl (hb hby d4_117)
  have F143 := (Exa.wr W139 (Exa.wr W124 (Exa.wr W107 (Exa.wr W100 (Exa.wr W93 F92)))))
  obtain ⟨T144, h144, X144, e144, W144, st144⟩ := putF X142 hx hZ hown (host := "") (Or.inl (w_38 hw)) Via.refl e142 F141 F143 (Or.inl (w_39 hw)) (w_1 hw) (ty := .int) (by decide) rfl rfl (g := (mkF m 122 #[rv o0, iv 2, iv (own_s2 t3 t4 t5)] [(.int 3), (.ref o0)])) rfl rfl (hb hby d4_122)
  have O144 := Old.wr O139 W144 u3
  have KK144 := Keep.wr KK139 W144 (Or.inl (own_m 3 rfl))
  have N144 := Fr.snoc X144 N139 u3
  have F145 : fB8 Z h144 o0 (.int 3) := Fld.same W144 F141
  have F146 := (Fld.other W144 (Fld.other W139 F130 (Or.inl v7)) (Or.inr (n_13_39 hw)))
  obtain ⟨T147, X147, e147, st147⟩ := own_gF X144 hx hZ hown (w_12 hw) e144 F146 (g := (mkF m 126 #[rv o0, iv 2, iv (own_s2 t3 t4 t5)] [(.ref o0)])) rfl rfl (hb hby d4_126)
  have F149 := (Arv.other (Arv.other F133 W139 v8) W144 v9)
  obtain ⟨c148, r148, q148, S148, M148, H148, G148⟩ := id F149
  have i150 := own_inb (j := (own_s2 t3 t4 t5)) S148 d2
  obtain ⟨T151, h151, X151, e151, W151, st151⟩ := stD X147 hx hZ e147 r148 (j := (own_s2 t3 t4 t5)) i150 (g := (mkF m 131 #[rv o0, iv 2, iv (own_s2 t3 t4 t5)] [(.double (FP.l2d (0 : Int64))), (.int (own_s2 t3 t4 t5)), (.ref o4)])) rfl rfl (hb hby d4_131)
  have O151 := Old.wr O144 W151 u4
  have KK151 := Keep.wr KK144 W151 (Or.inl (own_m 4 rfl))
  have N151 := Fr.snoc X151 N144 u4
  have F152 : AD3 Z h151 o4 j2 (own_up (own_s2 t3 t4 t5) 0 (0 : Int64) (own_up (own_s1 t3 t4 t5) 0 (0 : Int64) (own_up (own_s0 t3 t4 t5) 0 (0 : Int64) t6))) (own_up (own_s2 t3 t4 t5) 1 (0 : Int64) (own_up (own_s1 t3 t4 t5) 1 (0 : Int64) (own_up (own_s0 t3 t4 t5) 1 (0 : Int64) t7))) (own_up (own_s2 t3 t4 t5) 2 (0 : Int64) (own_up (own_s1 t3 t4 t5) 2 (0 : Int64) (own_up (own_s0 t3 t4 t5) 2 (0 : Int64) t8))) := own_setD r148 q148 S148 M148 H148 G148 W151 d2
  have F153 := (Fld.other W151 (Fld.other W144 (Fld.other W139 (Fld.other W124 (Fld.other W107 F102 (Or.inl (Ne.symm v13))) (Or.inl v2)) (Or.inl v7)) (Or.inr (n_16_39 hw))) (Or.inl (Ne.symm v9)))
  obtain ⟨T154, X154, e154, st154⟩ := own_gF X151 hx hZ hown (w_15 hw) e151 F153 (g := (mkF m 133 #[rv o0, iv 2, iv (own_s2 t3 t4 t5)] [(.ref o0)])) rfl rfl (hb hby d4_133)
  have F156 := (Arv.other (Arv.other (Arv.other (Arv.other F108 W124 v11) W139 v12) W144 v13) W151 v14)
  obtain ⟨c155, r155, q155, S155, M155, H155, G155⟩ := id F156
  have i157 := own_inb (j := (own_s2 t3 t4 t5)) S155 d2
  obtain ⟨T158, h158, X158, e158, W158, st158⟩ := stZ X154 hx hZ e154 r155 (j := (own_s2 t3 t4 t5)) i157 (g := (mkF m 138 #[rv o0, iv 2, iv (own_s2 t3 t4 t5)] [(.int 0), (.int (own_s2 t3 t4 t5)), (.ref o5)])) rfl rfl (hb hby d4_138)
  have O158 := Old.wr O151 W158 u5
  have KK158 := Keep.wr KK151 W158 (Or.inl (own_m 5 rfl))
  have N158 := Fr.snoc X158 N151 u5
  have F159 : AZ3 Z h158 o5 j4 (own_ui (own_s2 t3 t4 t5) 0 0 (own_ui (own_s1 t3 t4 t5) 0 0 (own_ui (own_s0 t3 t4 t5) 0 0 t12))) (own_ui (own_s2 t3 t4 t5) 1 0 (own_ui (own_s1 t3 t4 t5) 1 0 (own_ui (own_s0 t3 t4 t5) 1 0 t13))) (own_ui (own_s2 t3 t4 t5) 2 0 (own_ui (own_s1 t3 t4 t5) 2 0 (own_ui (own_s0 t3 t4 t5) 2 0 t14))) := own_setI r155 q155 S155 M155 H155 G155 (by decide) W158 d2
  have F160 := (Fld.other W158 (Fld.other W151 (Fld.other W144 (Fld.other W139 (Fld.other W124 F109 (Or.inl v2)) (Or.inl v7)) (Or.inr (n_32_39 hw))) (Or.inl (Ne.symm v9))) (Or.inl (Ne.symm v13)))
  obtain ⟨T161, X161, e161, st161⟩ := own_gF X158 hx hZ hown (w_31 hw) e158 F160 (g := (mkF m 77 #[rv o0, iv 3, iv (own_s2 t3 t4 t5)] [(.ref o0), (.int 3)])) rfl rfl (hb hby d4_77)
  have F162 := (Exa.wr W158 (Exa.wr W151 (Exa.wr W144 F143)))
  obtain ⟨T163, h163, X163, e163, W163, st163⟩ := putF X161 hx hZ hown (host := "") (Or.inl (w_31 hw)) Via.refl e161 F160 F162 (Or.inl (w_32 hw)) (w_1 hw) (ty := .int) (by decide) rfl rfl (g := (mkF m 147 #[rv o0, iv 3, iv (own_s2 t3 t4 t5)] [(.int 0), (.ref o0)])) rfl rfl (hb hby d4_147)
  have O163 := Old.wr O158 W163 u3
  have KK163 := Keep.wr KK158 W163 (Or.inl (own_m 3 rfl))
  have N163 := Fr.snoc X163 N158 u3
  have F164 : fB7 Z h163 o0 (.int 0) := Fld.same W163 F160
  have F165 := (Fld.other W163 (Fld.other W158 (Fld.other W151 (Fld.other W144 (Fld.other W139 (Fld.other W124 (Fld.other W107 (Fld.other W100 (Fld.other W93 (Fld.other W88 (Fld.other W73 (Fld.other W56 (Fld.other W49 (Fld.other W42 (Fld.other W37 (Fld.other W22 (Fld.keep f13 K7 (ninS v0 nin0)) (Or.inl v2)) (Or.inl v7)) (Or.inr (n_58_39 hw))) (Or.inl (Ne.symm v9))) (Or.inl (Ne.symm v13))) (Or.inl v2)) (Or.inl v7)) (Or.inr (n_58_39 hw))) (Or.inl (Ne.symm v9))) (Or.inl (Ne.symm v13))) (Or.inl v2)) (Or.inl v7)) (Or.inr (n_58_39 hw))) (Or.inl (Ne.symm v9))) (Or.inl (Ne.symm v13))) (Or.inr (n_58_32 hw)))
  obtain ⟨T166, X166, e166, st166⟩ := own_gF X163 hx hZ hown (w_57 hw) e163 F165 (g := (mkF m 152 #[rv o0, iv 3, iv (own_s2 t3 t4 t5)] [(.ref o0), (.ref o0)])) rfl rfl (hb hby d4_152)
  have F167 := (Exa.wr W163 F162)
  obtain ⟨T168, h168, X168, e168, W168, st168⟩ := putF X166 hx hZ hown (host := "") (Or.inl (w_57 hw)) Via.refl e166 F165 F167 (Or.inl (w_58 hw)) (w_1 hw) (ty := .int) (by decide) rfl rfl (g := (mkF m 157 #[rv o0, iv 3, iv (own_s2 t3 t4 t5)] [(.int 1), (.ref o0)])) rfl rfl (hb hby d4_157)
  have O168 := Old.wr O163 W168 u3
  have KK168 := Keep.wr KK163 W168 (Or.inl (own_m 3 rfl))
  have N168 := Fr.snoc X168 N163 u3
  have F169 : fB9 Z h168 o0 (.int 1) := Fld.same W168 F165
  have F170 := (Fld.other W168 (Fld.other W163 (Fld.other W158 (Fld.other W151 (Fld.other W144 (Fld.other W139 (Fld.other W124 (Fld.other W107 (Fld.other W100 (Fld.other W93 (Fld.other W88 (Fld.other W73 (Fld.other W56 (Fld.other W49 (Fld.other W42 (Fld.other W37 (Fld.other W22 (Fld.keep f14 K7 (ninS v0 nin0)) (Or.inl v2)) (Or.inl v7)) (Or.inr (n_21_39 hw))) (Or.inl (Ne.symm v9))) (Or.inl (Ne.symm v13))) (Or.inl v2)) (Or.inl v7)) (Or.inr (n_21_39 hw))) (Or.inl (Ne.symm v9))) (Or.inl (Ne.symm v13))) (Or.inl v2)) (Or.inl v7)) (Or.inr (n_21_39 hw))) (Or.inl (Ne.symm v9))) (Or.inl (Ne.symm v13))) (Or.inr (n_21_32 hw))) (Or.inr (n_21_58 hw)))
  obtain ⟨T171, X171, e171, st171⟩ := own_gF X168 hx hZ hown (w_20 hw) e168 F170 (g := (mkF m 161 #[rv o0, iv 3, iv (own_s2 t3 t4 t5)] [(.ref o0)])) rfl rfl (hb hby d4_161)
  obtain ⟨T172, X172, e172, st172⟩ := own_gF X171 hx hZ hown (w_57 hw) e171 F169 (g := (mkF m 165 #[rv o0, iv 3, iv (own_s2 t3 t4 t5)] [(.ref o0), (.ref o6)])) rfl rfl (hb hby d4_165)
  have F173 := (Fld.other W168 (Fld.other W163 (Fld.other W158 (Fld.other W151 F145 (Or.inl (Ne.symm v9))) (Or.inl (Ne.symm v13))) (Or.inr (n_39_32 hw))) (Or.inr (n_39_58 hw)))
  obtain ⟨T174, X174, e174, st174⟩ := own_gF X172 hx hZ hown (w_38 hw) e172 F173 (g := (mkF m 169 #[rv o0, iv 3, iv (own_s2 t3 t4 t5)] [(.ref o0), (.int 1), (.ref o6)])) rfl rfl (hb hby d4_169)
  have F176 := (Arv.other (Arv.other (Arv.other (Arv.other (Arv.other (Arv.other (Arv.other (Arv.other (Arv.other (Arv.other (Arv.other (Arv.other (Arv.other (Arv.other (Arv.other (Arv.other (Arv.other (Arv.keep f15 K7 (ninS v15 nin0)) W22 v16) W37 v17) W42 v18) W49 v19) W56 v20) W73 v16) W88 v17) W93 v18) W100 v19) W107 v20) W124 v16) W139 v17) W144 v18) W151 v19) W158 v20) W163 v18) W168 v18)
  obtain ⟨c175, r175, q175, S175, M175, H175, G175⟩ := id F176
  have i177 := inb_of (j := 1) S175 (by decide)
  obtain ⟨T178, h178, X178, e178, W178, st178⟩ := stI X174 hx hZ e174 r175 (j := (1 : Int32)) i177 (g := (mkF m 172 #[rv o0, iv 3, iv (own_s2 t3 t4 t5)] [(.int 3), (.int 1), (.ref o6)])) rfl rfl (hb hby d4_172)
  have O178 := Old.wr O168 W178 u6
  have KK178 := Keep.wr KK168 W178 (Or.inl (own_m 6 rfl))
  have N178 := Fr.snoc X178 N168 u6
  have F179 : AI4 Z h178 o6 j5 t15 3 t17 t18 := Arv.set r175 q175 S175 M175 H175 G175 rfl W178 1 rfl (Nat.le_of_ble_eq_true rfl)
  have F180 := (Arv.other (Arv.other (Arv.other (Arv.other (Arv.other (Arv.other (Arv.other (Arv.other F114 W124 (Ne.symm v1)) W139 (Ne.symm v5)) W144 (Ne.symm v0)) W151 (Ne.symm v3)) W158 (Ne.symm v10)) W163 (Ne.symm v0)) W168 (Ne.symm v0)) W178 (Ne.symm v15))
  have F181 := (Arv.other (Arv.other (Arv.other (Arv.other (Arv.other (Arv.other (Arv.other F125 W139 (Ne.symm v6)) W144 (Ne.symm v2)) W151 (Ne.symm v4)) W158 (Ne.symm v11)) W163 (Ne.symm v2)) W168 (Ne.symm v2)) W178 (Ne.symm v16))
  have F182 := (Exa.wr W178 (Exa.wr W168 (Exa.wr W163 (Exa.wr W158 (Exa.wr W151 (Exa.wr W144 (Exa.wr W139 (Exa.wr W124 (Exa.wr W107 (Exa.wr W100 (Exa.wr W93 (Exa.wr W88 (Exa.wr W73 (Exa.wr W56 (Exa.wr W49 (Exa.wr W42 (Exa.wr W37 (Exa.wr W22 (Exa.keep f16 K7)))))))))))))))))))
  have F183 := (Arv.other (Arv.other (Arv.other (Arv.other (Arv.other (Arv.other F140 W144 (Ne.symm v7)) W151 (Ne.symm v8)) W158 (Ne.symm v12)) W163 (Ne.symm v7)) W168 (Ne.symm v7)) W178 (Ne.symm v17))
  have F184 := (Exa.wr W178 (Exa.wr W168 (Exa.wr W163 (Exa.wr W158 (Exa.wr W151 (Exa.wr W144 (Exa.wr W139 (Exa.wr W124 (Exa.wr W107 (Exa.wr W100 (Exa.wr W93 (Exa.wr W88 (Exa.wr W73 (Exa.wr W56 (Exa.wr W49 (Exa.wr W42 (Exa.wr W37 (Exa.wr W22 (Exa.keep f17 K7)))))))))))))))))))
  have F185 := (Fld.other W178 F173 (Or.inl (Ne.symm v18)))
  have F186 := (Fld.other W178 (Fld.other W168 F164 (Or.inr (n_32_58 hw))) (Or.inl (Ne.symm v18)))
  have F187 := (Fld.other W178 (Fld.other W168 (Fld.other W163 (Fld.other W158 (Fld.other W151 (Fld.other W144 (Fld.other W139 (Fld.other W124 F117 (Or.inl v2)) (Or.inl v7)) (Or.inr (n_23_39 hw))) (Or.inl (Ne.symm v9))) (Or.inl (Ne.symm v13))) (Or.inr (n_23_32 hw))) (Or.inr (n_23_58 hw))) (Or.inl (Ne.symm v18)))
  have F188 := (Fld.other W178 (Fld.other W168 (Fld.other W163 (Fld.other W158 (Fld.other W151 (Fld.other W144 (Fld.other W139 (Fld.other W124 F111 (Or.inl v2)) (Or.inl v7)) (Or.inr (n_19_39 hw))) (Or.inl (Ne.symm v9))) (Or.inl (Ne.symm v13))) (Or.inr (n_19_32 hw))) (Or.inr (n_19_58 hw))) (Or.inl (Ne.symm v18)))
  have F189 := (Fld.other W178 (Fld.other W168 (Fld.other W163 (Fld.other W158 (Fld.other W151 (Fld.other W144 (Fld.other W139 F126 (Or.inl v7)) (Or.inr (n_25_39 hw))) (Or.inl (Ne.symm v9))) (Or.inl (Ne.symm v13))) (Or.inr (n_25_32 hw))) (Or.inr (n_25_58 hw))) (Or.inl (Ne.symm v18)))
  have F190 := (Fld.other W178 (Fld.other W168 (Fld.other W163 (Fld.other W158 (Fld.other W151 F146 (Or.inl (Ne.symm v9))) (Or.inl (Ne.symm v13))) (Or.inr (n_13_32 hw))) (Or.inr (n_13_58 hw))) (Or.inl (Ne.symm v18)))
  have F191 := (Exa.wr W178 (Exa.wr W168 F167))
  have F192 := (Fld.other W178 (Fld.other W168 (Fld.other W163 (Fld.other W158 F153 (Or.inl (Ne.symm v13))) (Or.inr (n_16_32 hw))) (Or.inr (n_16_58 hw))) (Or.inl (Ne.symm v18)))
  have F193 := (Fld.other W178 F169 (Or.inl (Ne.symm v18)))
  have F194 := (Fld.other W178 F170 (Or.inl (Ne.symm v18)))
  have F195 := (Fld.other W178 (Fld.other W168 (Fld.other W163 (Fld.other W158 (Fld.other W151 (Fld.other W144 (Fld.other W139 (Fld.other W124 (Fld.other W107 (Fld.other W100 (Fld.other W93 (Fld.other W88 (Fld.other W73 (Fld.other W56 (Fld.other W49 (Fld.other W42 (Fld.other W37 (Fld.other W22 (Fld.keep f18 K7 (ninS v0 nin0)) (Or.inl v2)) (Or.inl v7)) (Or.inr (n_10_39 hw))) (Or.inl (Ne.symm v9))) (Or.inl (Ne.symm v13))) (Or.inl v2)) (Or.inl v7)) (Or.inr (n_10_39 hw))) (Or.inl (Ne.symm v9))) (Or.inl (Ne.symm v13))) (Or.inl v2)) (Or.inl v7)) (Or.inr (n_10_39 hw))) (Or.inl (Ne.symm v9))) (Or.inl (Ne.symm v13))) (Or.inr (n_10_32 hw))) (Or.inr (n_10_58 hw))) (Or.inl (Ne.symm v18)))
  have F196 := (Arv.other (Arv.other (Arv.other (Arv.other F152 W158 (Ne.symm v14)) W163 v9) W168 v9) W178 (Ne.symm v19))
  have F197 := (Arv.other (Arv.other (Arv.other F159 W163 v13) W168 v13) W178 (Ne.symm v20))
  obtain ⟨fs, hr, hrun, hended, hW, hsame⟩ := X178.leave (v := none) (fun _ => rfl)
  refine ⟨_, _, (castTop (ef_4 m o0) ?_), hrun, hended, _, _, rfl, ?_, ⟨_, rfl⟩, hW, hsame.mono (by decide) (by decide)⟩
  · show Steps p.tables e below (s₁.setTop (mkF m 0 #[rv o0, .unset, .unset] [])) _
    refine oA X0 hx hby d4_0 rfl rfl rfl ?_
    refine st1 _ ?_
    refine oA X1 hx hby d4_4 rfl rfl rfl ?_
    refine st2 _ ?_
    refine XS.iadd X2.here hx rfl (hb hby d4_8) rfl ?_
    show Steps p.tables e below (T2.setTop (mkF m 9 #[rv o0, .unset, .unset] [(.int ((0 : Int32) + (3 : Int32)))])) _
    rw [(by decide : ((0 : Int32) + (3 : Int32)) = (3 : Int32))]
    refine oA X2 hx hby d4_9 rfl rfl rfl ?_
    refine st3 _ ?_
    refine X3.arraylength hx (by rw [e3]; exact r4.1) (State.isArrayOf_alike hZ.alike r4.2.1) (g := (mkF m 13 #[rv o0, .unset, .unset] [(.ref o1), (.int 3)])) rfl rfl (hb hby d4_13) _ ?_
    rw [len_of S4 M4]
    refine XS.icmpYes X3.here hx rfl (pc0 := 14) (pc' := 61) rfl (hb hby d4_14) rfl (by decide) (by decide) (by decide) ?_
    refine oA X3 hx hby d4_61 rfl rfl rfl ?_
    refine st5 _ ?_
    refine oK X5 hx hby d4_65 rfl ?_
    refine oA X5 hx hby d4_66 rfl rfl rfl ?_
    refine st6 _ ?_
    refine st7 _ ?_
    refine oK X7 hx hby d4_73 rfl ?_
    refine XS.istoreN X7.here hx rfl (hb hby d4_74) rfl (l' := #[rv o0, iv 0, .unset]) rfl ?_
    refine oI X7 hx hby d4_75 rfl rfl ?_
    refine oA X7 hx hby d4_76 rfl rfl rfl ?_
    refine st9 _ ?_
    refine XS.icmpNo X9.here hx rfl (hb hby d4_80) rfl (by decide) ?_
    refine oA X9 hx hby d4_83 rfl rfl rfl ?_
    refine st11 _ ?_
    refine oI X11 hx hby d4_87 rfl rfl ?_
    refine oL X11 hx hZ e11 r12 i13 y14 (by exact hb hby d4_88) rfl rfl ?_
    refine XS.istoreN X11.here hx rfl (hb hby d4_89) rfl (l' := #[rv o0, iv 0, iv (own_s0 t3 t4 t5)]) rfl ?_
    refine oA X11 hx hby d4_90 rfl rfl rfl ?_
    show Steps p.tables e below (T11.setTop (mkF m 91 #[rv o0, iv 0, iv (own_s0 t3 t4 t5)] [(.ref o0)])) _
    refine st16 _ ?_
    refine oA X16 hx hby d4_94 rfl rfl rfl ?_
    refine st18 _ ?_
    refine oI X18 hx hby d4_98 rfl rfl ?_
    refine st22 _ ?_
    refine oA X22 hx hby d4_100 rfl rfl rfl ?_
    refine st25 _ ?_
    refine oA X25 hx hby d4_104 rfl rfl rfl ?_
    refine st27 _ ?_
    refine oA X27 hx hby d4_108 rfl rfl rfl ?_
    refine st29 _ ?_
    refine oI X29 hx hby d4_112 rfl rfl ?_
    refine oD X29 hx hZ e29 r30 i32 y33 (by exact hb hby d4_113) rfl rfl ?_
    refine st37 _ ?_
    refine oA X37 hx hby d4_115 rfl rfl rfl ?_
    refine XS.dup X37.here hx rfl (hb hby d4_116) rfl rfl ?_
    refine st40 _ ?_
    refine oK X40 hx hby d4_120 rfl ?_
    refine XS.iadd X40.here hx rfl (hb hby d4_121) rfl ?_
    show Steps p.tables e below (T40.setTop (mkF m 122 #[rv o0, iv 0, iv (own_s0 t3 t4 t5)] [(.int ((0 : Int32) + (1 : Int32))), (.ref o0)])) _
    rw [(by decide : ((0 : Int32) + (1 : Int32)) = (1 : Int32))]
    refine st42 _ ?_
    refine oA X42 hx hby d4_125 rfl rfl rfl ?_
    refine st45 _ ?_
    refine oI X45 hx hby d4_129 rfl rfl ?_
    refine XS.dconst0 X45.here hx rfl (hb hby d4_130) (v := FP.l2d (0 : Int64)) own_dz ?_
    refine st49 _ ?_
    refine oA X49 hx hby d4_132 rfl rfl rfl ?_
    refine st52 _ ?_
    refine oI X52 hx hby d4_136 rfl rfl ?_
    refine oK X52 hx hby d4_137 rfl ?_
    refine st56 _ ?_
    refine XS.iinc X56.here hx rfl (hb hby d4_139) rfl (l' := #[rv o0, iv ((0 : Int32) + (1 : Int32)), iv (own_s0 t3 t4 t5)]) rfl ?_
    show Steps p.tables e below (T56.setTop (mkF m 142 #[rv o0, iv 1, iv (own_s0 t3 t4 t5)] [])) _
    refine XS.goto X56.here hx rfl (pc0 := 142) (pc' := 75) rfl (hb hby d4_142) (by decide) (by decide) ?_
    refine oI X56 hx hby d4_75 rfl rfl ?_
    refine oA X56 hx hby d4_76 rfl rfl rfl ?_
    refine st59 _ ?_
    refine XS.icmpNo X59.here hx rfl (hb hby d4_80) rfl (by decide) ?_
    refine oA X59 hx hby d4_83 rfl rfl rfl ?_
    refine st61 _ ?_
    refine oI X61 hx hby d4_87 rfl rfl ?_
    refine oL X61 hx hZ e61 r62 i64 y65 (by exact hb hby d4_88) rfl rfl ?_
    refine XS.istoreN X61.here hx rfl (hb hby d4_89) rfl (l' := #[rv o0, iv 1, iv (own_s1 t3 t4 t5)]) rfl ?_
    refine oA X61 hx hby d4_90 rfl rfl rfl ?_
    refine st67 _ ?_
    refine oA X67 hx hby d4_94 rfl rfl rfl ?_
    refine st69 _ ?_
    refine oI X69 hx hby d4_98 rfl rfl ?_
    refine st73 _ ?_
    refine oA X73 hx hby d4_100 rfl rfl rfl ?_
    refine st76 _ ?_
    refine oA X76 hx hby d4_104 rfl rfl rfl ?_
    refine st78 _ ?_
    refine oA X78 hx hby d4_108 rfl rfl rfl ?_
    refine st80 _ ?_
    refine oI X80 hx hby d4_112 rfl rfl ?_
    refine oD X80 hx hZ e80 r81 i83 y84 (by exact hb hby d4_113) rfl rfl ?_
    show Steps p.tables e below (T80.setTop (mkF m 114 #[rv o0, iv 1, iv (own_s1 t3 t4 t5)] [(.double (FP.l2d (own_pk (own_s1 t3 t4 t5) (own_up (own_s0 t3 t4 t5) 0 (0 : Int64) t6) (own_up (own_s0 t3 t4 t5) 1 (0 : Int64) t7) (own_up (own_s0 t3 t4 t5) 2 (0 : Int64) t8)))), (.int 1), (.ref o3)])) _
    refine st88 _ ?_
    refine oA X88 hx hby d4_115 rfl rfl rfl ?_
    refine XS.dup X88.here hx rfl (hb hby d4_116) rfl rfl ?_
    refine st91 _ ?_
    refine oK X91 hx hby d4_120 rfl ?_
    refine XS.iadd X91.here hx rfl (hb hby d4_121) rfl ?_
    show Steps p.tables e below (T91.setTop (mkF m 122 #[rv o0, iv 1, iv (own_s1 t3 t4 t5)] [(.int ((1 : Int32) + (1 : Int32))), (.ref o0)])) _
    rw [(by decide : ((1 : Int32) + (1 : Int32)) = (2 : Int32))]
    refine st93 _ ?_
    refine oA X93 hx hby d4_125 rfl rfl rfl ?_
    refine st96 _ ?_
    refine oI X96 hx hby d4_129 rfl rfl ?_
    refine XS.dconst0 X96.here hx rfl (hb hby d4_130) (v := FP.l2d (0 : Int64)) own_dz ?_
    refine st100 _ ?_
    refine oA X100 hx hby d4_132 rfl rfl rfl ?_
    refine st103 _ ?_
    refine oI X103 hx hby d4_136 rfl rfl ?_
    refine oK X103 hx hby d4_137 rfl ?_
    refine st107 _ ?_
    refine XS.iinc X107.here hx rfl (hb hby d4_139) rfl (l' := #[rv o0, iv ((1 : Int32) + (1 : Int32)), iv (own_s1 t3 t4 t5)]) rfl ?_
    show Steps p.tables e below (T107.setTop (mkF m 142 #[rv o0, iv 2, iv (own_s1 t3 t4 t5)] [])) _
    refine XS.goto X107.here hx rfl (pc0 := 142) (pc' := 75) rfl (hb hby d4_142) (by decide) (by decide) ?_
    refine oI X107 hx hby d4_75 rfl rfl ?_
    refine oA X107 hx hby d4_76 rfl rfl rfl ?_
    refine st110 _ ?_
    refine XS.icmpNo X110.here hx rfl (hb hby d4_80) rfl (by decide) ?_
    refine oA X110 hx hby d4_83 rfl rfl rfl ?_
    refine st112 _ ?_
    refine oI X112 hx hby d4_87 rfl rfl ?_
    refine oL X112 hx hZ e112 r113 i115 y116 (by exact hb hby d4_88) rfl rfl ?_
    refine XS.istoreN X112.here hx rfl (hb hby d4_89) rfl (l' := #[rv o0, iv 2, iv (own_s2 t3 t4 t5)]) rfl ?_
    refine oA X112 hx hby d4_90 rfl rfl rfl ?_
    refine st118 _ ?_
    refine oA X118 hx hby d4_94 rfl rfl rfl ?_
    refine st120 _ ?_
    refine oI X120 hx hby d4_98 rfl rfl ?_
    refine st124 _ ?_
    refine oA X124 hx hby d4_100 rfl rfl rfl ?_
    refine st127 _ ?_
    refine oA X127 hx hby d4_104 rfl rfl rfl ?_
    refine st129 _ ?_
    refine oA X129 hx hby d4_108 rfl rfl rfl ?_
    refine st131 _ ?_
    refine oI X131 hx hby d4_112 rfl rfl ?_
    refine oD X131 hx hZ e131 r132 i134 y135 (by exact hb hby d4_113) rfl rfl ?_
    show Steps p.tables e below (T131.setTop (mkF m 114 #[rv o0, iv 2, iv (own_s2 t3 t4 t5)] [(.double (FP.l2d (own_pk (own_s2 t3 t4 t5) (own_up (own_s1 t3 t4 t5) 0 (0 : Int64) (own_up (own_s0 t3 t4 t5) 0 (0 : Int64) t6)) (own_up (own_s1 t3 t4 t5) 1 (0 : Int64) (own_up (own_s0 t3 t4 t5) 1 (0 : Int64) t7)) (own_up (own_s1 t3 t4 t5) 2 (0 : Int64) (own_up (own_s0 t3 t4 t5) 2 (0 : Int64) t8))))), (.int 2), (.ref o3)])) _
    refine st139 _ ?_
    refine oA X139 hx hby d4_115 rfl rfl rfl ?_
    refine XS.dup X139.here hx rfl (hb hby d4_116) rfl rfl ?_
    refine st142 _ ?_
    refine oK X142 hx hby d4_120 rfl ?_
    refine XS.iadd X142.here hx rfl (hb hby d4_121) rfl ?_
    show Steps p.tables e below (T142.setTop (mkF m 122 #[rv o0, iv 2, iv (own_s2 t3 t4 t5)] [(.int ((2 : Int32) + (1 : Int32))), (.ref o0)])) _
    rw [(by decide : ((2 : Int32) + (1 : Int32)) = (3 : Int32))]
    refine st144 _ ?_
    refine oA X144 hx hby d4_125 rfl rfl rfl ?_
    refine st147 _ ?_
    refine oI X147 hx hby d4_129 rfl rfl ?_
    refine XS.dconst0 X147.here hx rfl (hb hby d4_130) (v := FP.l2d (0 : Int64)) own_dz ?_
    refine st151 _ ?_
    refine oA X151 hx hby d4_132 rfl rfl rfl ?_
    refine st154 _ ?_
    refine oI X154 hx hby d4_136 rfl rfl ?_
    refine oK X154 hx hby d4_137 rfl ?_
    refine st158 _ ?_
    refine XS.iinc X158.here hx rfl (hb hby d4_139) rfl (l' := #[rv o0, iv ((2 : Int32) + (1 : Int32)), iv (own_s2 t3 t4 t5)]) rfl ?_
    show Steps p.tables e below (T158.setTop (mkF m 142 #[rv o0, iv 3, iv (own_s2 t3 t4 t5)] [])) _
    refine XS.goto X158.here hx rfl (pc0 := 142) (pc' := 75) rfl (hb hby d4_142) (by decide) (by decide) ?_
    refine oI X158 hx hby d4_75 rfl rfl ?_
    refine oA X158 hx hby d4_76 rfl rfl rfl ?_
    refine st161 _ ?_
    refine XS.icmpYes X161.here hx rfl (pc0 := 80) (pc' := 145) rfl (hb hby d4_80) rfl (by decide) (by decide) (by decide) ?_
    refine oA X161 hx hby d4_145 rfl rfl rfl ?_
    refine oK X161 hx hby d4_146 rfl ?_
    refine st163 _ ?_
    refine oA X163 hx hby d4_150 rfl rfl rfl ?_
    refine XS.dup X163.here hx rfl (hb hby d4_151) rfl rfl ?_
    refine st166 _ ?_
    refine oK X166 hx hby d4_155 rfl ?_
    refine XS.iadd X166.here hx rfl (hb hby d4_156) rfl ?_
    show Steps p.tables e below (T166.setTop (mkF m 157 #[rv o0, iv 3, iv (own_s2 t3 t4 t5)] [(.int ((0 : Int32) + (1 : Int32))), (.ref o0)])) _
    rw [(by decide : ((0 : Int32) + (1 : Int32)) = (1 : Int32))]
    refine st168 _ ?_
    refine oA X168 hx hby d4_160 rfl rfl rfl ?_
    refine st171 _ ?_
    refine oA X171 hx hby d4_164 rfl rfl rfl ?_
    refine st172 _ ?_
    refine oA X172 hx hby d4_168 rfl rfl rfl ?_
    refine st174 _ ?_
    refine st178 _ ?_
    exact X178.returnOut hx Bd.returns (hb hby d4_173) hr
  · show Q4_0 Z t0 t1 t2 t3 t4 t5 t6 t7 t8 t9 t10 t11 t12 t13 t14 t15 t16 t17 t18 t19 o0 o1 o2 o3 o4 o5 o6 j0 j1 j2 j3 j4 j5 h0 n0 _ T178.heap _
    rw [e178]
    exact ⟨rfl, N178, KK178, F180, F181, F182, F183, F184, F185, F186, F187, F188, F189, F190, F191, F192, F193, F194, F195, F196, F197, F179⟩
theorem sg_6 {p : Program} {l : Launch} {e : Env} {s : State} {m : MethodId} {args : Array Value} {below : List Frame} {meth : Method} {c : Code} {T0 : State} {locs : List Loc} {Z : State} {a0 : Array Value} {h0 : Heap} {n0 cn sn : Nat} (hw : HW a0 Z) (t0 t1 t2 t3 t4 t5 t6 t7 : Int32) (t8 t9 t10 : Int64) (t11 t12 t13 t14 t15 t16 : Int32) (t17 t18 t19 : Int64) (t20 t21 t22 t23 t24 t25 t26 t27 t28 : Int32) (o0 o1 o2 o3 o4 o5 o6 : Addr) (j0 j1 j2 j3 j4 j5 : ClassId)
    (X0 : Stand p l e room_1 s m args below meth c T0 locs cn sn) (hcn : cn ≤ room_1.cells) (hsn : sn ≤ room_1.slots) (hx : p.tables.exec = Jvm.exec) (hZ : Z.Warmed39 s.vm) (hby : c.code = code) (hml : c.maxLocals = 14) (hown : s.vm.findClass kL = some m.cls) (e0 : T0.heap = h0) (N0 : Fr n0 locs) (OO : Old Z n0 h0) (f0 : fB2 Z h0 o0 (.ref o1)) (f1 : AZ3 Z h0 o1 j0 t1 t2 t3) (f2 : fB3 Z h0 o0 (.ref o2)) (f3 : fB7 Z h0 o0 (.int 1)) (f4 : Exa Z h0 o0 kB) (f5 : AI3 Z h0 o2 j1 t5 t6 t7) (f6 : fB1 Z h0 o0 (.ref o3)) (f7 : AD3 Z h0 o3 j2 t8 t9 t10) (f8 : fB0 Z h0 o0 (.int t11)) (f9 : fB4 Z h0 o0 (.ref o4)) (f10 : fB5 Z h0 o0 (.ref o5)) (f11 : fB6 Z h0 o0 (.ref o6)) (f12 : fB8 Z h0 o0 (.int 0)) (f13 : fB9 Z h0 o0 (.int 0)) (d0 : own_in3 t0) (u0 : n0 ≤ o1) (v0 : o0 ≠ o1) (u1 : n0 ≤ o0) (v1 : o2 ≠ o1) (v2 : o2 ≠ o0) (u2 : n0 ≤ o2) (v3 : o3 ≠ o1) (v4 : o3 ≠ o0) (v5 : o3 ≠ o2) (d1 : B53 (own_pk t0 t8 t9 t10)) (d2 : B53 (t12.toInt64)) (u3 : n0 ≤ o3) (d3 : own_in3 t4) (d4 : B53 (own_pk t4 (t8 + (own_pt t0 0 (t12.toInt64))) (t9 + (own_pt t0 1 (t12.toInt64))) (t10 + (own_pt t0 2 (t12.toInt64))))) (d5 : B53 (t13.toInt64)) (f14 : AI3 Z h0 o5 j3 t14 t15 t16) (f15 : AD3 Z h0 o6 j4 t17 t18 t19) (f16 : AI4 Z h0 o4 j5 t20 t21 t22 t23) (f17 : Exa Z h0 o5 "[I") (f18 : Exa Z h0 o6 "[D") (v6 : o5 ≠ o1) (v7 : o5 ≠ o0) (v8 : o5 ≠ o2) (v9 : o5 ≠ o3) (u4 : n0 ≤ o5) (d6 : own_in3 (own_s0 t5 t0 t4)) (v10 : o6 ≠ o1) (v11 : o6 ≠ o0) (v12 : o6 ≠ o2) (v13 : o6 ≠ o3) (v14 : o6 ≠ o5) (u5 : n0 ≤ o6) (d7 : own_in3 (own_s1 t5 t0 t4)) (d8 : own_in3 (own_s2 t5 t0 t4)) (v15 : o4 ≠ o1) (v16 : o4 ≠ o0) (v17 : o4 ≠ o2) (v18 : o4 ≠ o3) (v19 : o4 ≠ o5) (v20 : o4 ≠ o6) (u6 : n0 ≤ o4) (hq0 : (own_pi t0 t1 t2 t3) = (0 : Int32)) (hq1 : (own_pi t4 (own_ui t0 0 1 t1) (own_ui t0 1 1 t2) (own_ui t0 2 1 t3)) = (0 : Int32)) :
    ∃ (T' : State) (h' : Heap) (lc : List Loc), Stand p l e room_1 s m args below meth c T' lc cn sn ∧ T'.heap = h' ∧ Fr n0 lc ∧ Keep h0 h' [o3, o2, o0, o1, o4, o6, o5] ∧ AD3 Z h' o3 j2 (own_up (own_s2 t5 t0 t4) 0 (0 : Int64) (own_up (own_s1 t5 t0 t4) 0 (0 : Int64) (own_up (own_s0 t5 t0 t4) 0 (0 : Int64) ((t8 + (own_pt t0 0 (t12.toInt64))) + (own_pt t4 0 (t13.toInt64)))))) (own_up (own_s2 t5 t0 t4) 1 (0 : Int64) (own_up (own_s1 t5 t0 t4) 1 (0 : Int64) (own_up (own_s0 t5 t0 t4) 1 (0 : Int64) ((t9 + (own_pt t0 1 (t12.toInt64))) + (own_pt t4 1 (t13.toInt64)))))) (own_up (own_s2 t5 t0 t4) 2 (0 : Int64) (own_up (own_s1 t5 t0 t4) 2 (0 : Int64) (own_up (own_s0 t5 t0 t4) 2 (0 : Int64) ((t10 + (own_pt t0 2 (t12.toInt64))) + (own_pt t4 2 (t13.toInt64)))))) ∧ AI3 Z h' o2 j1 (own_s0 t5 t0 t4) (own_s1 t5 t0 t4) (own_s2 t5 t0 t4) ∧ fB2 Z h' o0 (.ref o1) ∧ fB3 Z h' o0 (.ref o2) ∧ fB7 Z h' o0 (.int 0) ∧ Exa Z h' o0 kB ∧ fB1 Z h' o0 (.ref o3) ∧ fB0 Z h' o0 (.int t11) ∧ fB4 Z h' o0 (.ref o4) ∧ fB5 Z h' o0 (.ref o5) ∧ fB6 Z h' o0 (.ref o6) ∧ fB8 Z h' o0 (.int 3) ∧ fB9 Z h' o0 (.int 1) ∧ AZ3 Z h' o1 j0 (own_ui (own_s2 t5 t0 t4) 0 0 (own_ui (own_s1 t5 t0 t4) 0 0 (own_ui (own_s0 t5 t0 t4) 0 0 (own_ui t4 0 1 (own_ui t0 0 1 t1))))) (own_ui (own_s2 t5 t0 t4) 1 0 (own_ui (own_s1 t5 t0 t4) 1 0 (own_ui (own_s0 t5 t0 t4) 1 0 (own_ui t4 1 1 (own_ui t0 1 1 t2))))) (own_ui (own_s2 t5 t0 t4) 2 0 (own_ui (own_s1 t5 t0 t4) 2 0 (own_ui (own_s0 t5 t0 t4) 2 0 (own_ui t4 2 1 (own_ui t0 2 1 t3))))) ∧ AI4 Z h' o4 j5 t20 3 t22 t23 ∧ AD3 Z h' o6 j4 (own_pk (own_s0 t5 t0 t4) ((t8 + (own_pt t0 0 (t12.toInt64))) + (own_pt t4 0 (t13.toInt64))) ((t9 + (own_pt t0 1 (t12.toInt64))) + (own_pt t4 1 (t13.toInt64))) ((t10 + (own_pt t0 2 (t12.toInt64))) + (own_pt t4 2 (t13.toInt64)))) (own_pk (own_s1 t5 t0 t4) (own_up (own_s0 t5 t0 t4) 0 (0 : Int64) ((t8 + (own_pt t0 0 (t12.toInt64))) + (own_pt t4 0 (t13.toInt64)))) (own_up (own_s0 t5 t0 t4) 1 (0 : Int64) ((t9 + (own_pt t0 1 (t12.toInt64))) + (own_pt t4 1 (t13.toInt64)))) (own_up (own_s0 t5 t0 t4) 2 (0 : Int64) ((t10 + (own_pt t0 2 (t12.toInt64))) + (own_pt t4 2 (t13.toInt64))))) (own_pk (own_s2 t5 t0 t4) (own_up (own_s1 t5 t0 t4) 0 (0 : Int64) (own_up (own_s0 t5 t0 t4) 0 (0 : Int64) ((t8 + (own_pt t0 0 (t12.toInt64))) + (own_pt t4 0 (t13.toInt64))))) (own_up (own_s1 t5 t0 t4) 1 (0 : Int64) (own_up (own_s0 t5 t0 t4) 1 (0 : Int64) ((t9 + (own_pt t0 1 (t12.toInt64))) + (own_pt t4 1 (t13.toInt64))))) (own_up (own_s1 t5 t0 t4) 2 (0 : Int64) (own_up (own_s0 t5 t0 t4) 2 (0 : Int64) ((t10 + (own_pt t0 2 (t12.toInt64))) + (own_pt t4 2 (t13.toInt64)))))) ∧ Exa Z h' o6 "[D" ∧ AI3 Z h' o5 j3 (own_s0 t5 t0 t4) (own_s1 t5 t0 t4) (own_s2 t5 t0 t4) ∧ Exa Z h' o5 "[I" ∧
      ∀ target, Steps p.tables e below (T'.setTop (mkF m 87 #[iv t24, iv t25, iv t12, iv t13, iv t26, iv t27, iv t0, iv t4, iv t28, rv o0, .unset, .unset, .unset, .unset] [])) target → Steps p.tables e below (T0.setTop (mkF m 64 #[iv t24, iv t25, iv t12, iv t13, iv t26, iv t27, iv t0, iv t4, iv t28, rv o0, .unset, .unset, .unset, .unset] [])) target := by
  obtain ⟨cq1, kq1, q1a, q1b, q1c⟩ := isOf hZ e0 f4
  obtain ⟨_, _, ⟨T1, L1, k1, n1⟩, -, X1, ⟨Lc1, hQ1, l1, y1, z1⟩, st1⟩ := X0.virtualBack hx (y := (⟨kB, "add", "(ID)V"⟩ : MethodName)) (z := (⟨kB, "add", "(ID)V"⟩ : MethodName)) hown (mvT hZ (w_26 hw)) (mvT hZ (w_27 hw)) (notFace_of_selects (args := #[]) (mvT hZ (w_29 hw))) (mvT hZ (w_29 hw)) (mvT hZ (w_28 hw)) (by decide) (backOf (W := 0) (rm3_1 l Z a0 hw [] t0 t1 t2 t3 t5 t6 t7 t8 t9 t10 (t12.toInt64) t11 (0 : Int32) (0 : Int32) o0 o1 o2 o3 o4 o5 o6 j0 j1 j2 h0 n0 OO f0 f1 d0 u0 f2 v0 f3 f4 u1 f5 v1 v2 u2 f6 f7 v3 v4 v5 d1 d2 u3 f8 f9 f10 f11 f12 f13 hq0) hZ (w_30 hw) (w_2 hw) (by decide) (by decide)) q1a q1c (g := (mkF m 70 #[iv t24, iv t25, iv t12, iv t13, iv t26, iv t27, iv t0, iv t4, iv t28, rv o0, .unset, .unset, .unset, .unset] [(.double (FP.l2d (t12.toInt64))), (.int t0), (.ref o0)])) rfl (by rw [hml]; rfl) (Steps.refl _) (argsL := [(.int t0), (.double (FP.l2d (t12.toInt64)))]) (rest := []) (lenOf pd_1 rfl) rfl (by show 2 * 0 + _ ≤ _; exact Nat.le_of_eq rfl) (hb hby at_70) (fun _ _ => ⟨rfl, e0, hcn, hsn⟩)
  dsimp only [Pt.U, Pt.locs, Pt.cells, Pt.slots] at X1 l1 y1 z1 st1 hQ1
  subst l1 y1 z1
  obtain ⟨h1, e1⟩ : ∃ z, T1.heap = z := ⟨_, rfl⟩
  rw [e1] at hQ1
  obtain ⟨rfl, N1q, K1, R1_0, R1_1, R1_2, R1_3, R1_4, R1_5, R1_6, R1_7, R1_8, R1_9, R1_10, R1_11, R1_12, R1_13⟩ := hQ1
  have N1 := Fr.app N0 N1q
  have O1 := Old.keep OO K1 (allS u0 (allS u1 (allS u2 (allS u3 all0))))
  have KK1 := Keep.trans (Keep.refl h0 [o3, o2, o0, o1, o4, o6, o5]) K1 (allS (Or.inl (own_m 3 rfl)) (allS (Or.inl (own_m 2 rfl)) (allS (Or.inl (own_m 1 rfl)) (allS (Or.inl (own_m 0 rfl)) all0))))
  obtain ⟨cq2, kq2, q2a, q2b, q2c⟩ := isOf hZ e1 R1_4
  obtain ⟨_, _, ⟨T2, L2, k2, n2⟩, -, X2, ⟨Lc2, hQ2, l2, y2, z2⟩, st2⟩ := X1.virtualBack hx (y := (⟨kB, "add", "(ID)V"⟩ : MethodName)) (z := (⟨kB, "add", "(ID)V"⟩ : MethodName)) hown (mvT hZ (w_26 hw)) (mvT hZ (w_27 hw)) (notFace_of_selects (args := #[]) (mvT hZ (w_29 hw))) (mvT hZ (w_29 hw)) (mvT hZ (w_28 hw)) (by decide) (backOf (W := 0) (rm3_2 l Z a0 hw [] t4 (own_ui t0 0 1 t1) (own_ui t0 1 1 t2) (own_ui t0 2 1 t3) t5 t0 t7 (t8 + (own_pt t0 0 (t12.toInt64))) (t9 + (own_pt t0 1 (t12.toInt64))) (t10 + (own_pt t0 2 (t12.toInt64))) (t13.toInt64) t11 (0 : Int32) (0 : Int32) o0 o1 o2 o3 o4 o5 o6 j0 j1 j2 h1 n0 O1 R1_1 R1_0 d3 u0 R1_2 v0 R1_3 R1_4 u1 R1_12 v1 v2 u2 R1_5 R1_13 v3 v4 v5 d4 d5 u3 R1_6 R1_7 R1_8 R1_9 R1_10 R1_11 hq1) hZ (w_30 hw) (w_2 hw) (by decide) (by decide)) q2a q2c (g := (mkF m 79 #[iv t24, iv t25, iv t12, iv t13, iv t26, iv t27, iv t0, iv t4, iv t28, rv o0, .unset, .unset, .unset, .unset] [(.double (FP.l2d (t13.toInt64))), (.int t4), (.ref o0)])) rfl (by rw [hml]; rfl) (Steps.refl _) (argsL := [(.int t4), (.double (FP.l2d (t13.toInt64)))]) (rest := []) (lenOf pd_1 rfl) rfl (by show 2 * 0 + _ ≤ _; exact Nat.le_of_eq rfl) (hb hby at_79) (fun _ _ => ⟨rfl, e1, hcn, hsn⟩)
  dsimp only [Pt.U, Pt.locs, Pt.cells, Pt.slots] at X2 l2 y2 z2 st2 hQ2
  subst l2 y2 z2
  obtain ⟨h2, e2⟩ : ∃ z, T2.heap = z := ⟨_, rfl⟩
  rw [e2] at hQ2
  obtain ⟨rfl, N2q, K2, R2_0, R2_1, R2_2, R2_3, R2_4, R2_5, R2_6, R2_7, R2_8, R2_9, R2_10, R2_11, R2_12, R2_13⟩ := hQ2
  have N2 := Fr.app N1 N2q
  have O2 := Old.keep O1 K2 (allS u0 (allS u1 (allS u2 (allS u3 all0))))
  have KK2 := Keep.trans KK1 K2 (allS (Or.inl (own_m 3 rfl)) (allS (Or.inl (own_m 2 rfl)) (allS (Or.inl (own_m 1 rfl)) (allS (Or.inl (own_m 0 rfl)) all0))))
  have F4 := (Arv.keep (Arv.keep f14 K1 (ninS v6 (ninS v7 (ninS v8 (ninS v9 nin0))))) K2 (ninS v6 (ninS v7 (ninS v8 (ninS v9 nin0)))))
  have F5 := (Arv.keep (Arv.keep f15 K1 (ninS v10 (ninS v11 (ninS v12 (ninS v13 nin0))))) K2 (ninS v10 (ninS v11 (ninS v12 (ninS v13 nin0)))))
  have F6 := (Arv.keep (Arv.keep f16 K1 (ninS v15 (ninS v16 (ninS v17 (ninS v18 nin0))))) K2 (ninS v15 (ninS v16 (ninS v17 (ninS v18 nin0)))))
  have F7 := (Exa.keep (Exa.keep f17 K1) K2)
  have F8 := (Exa.keep (Exa.keep f18 K1) K2)
  obtain ⟨cq3, kq3, q3a, q3b, q3c⟩ := isOf hZ e2 R2_4
  obtain ⟨_, _, ⟨T3, L3, k3, n3⟩, -, X3, ⟨Lc3, hQ3, l3, y3, z3⟩, st3⟩ := X2.virtualBack hx (y := (⟨kB, "endRow", "()V"⟩ : MethodName)) (z := (⟨kB, "endRow", "()V"⟩ : MethodName)) hown (mvT hZ (w_33 hw)) (mvT hZ (w_34 hw)) (notFace_of_selects (args := #[]) (mvT hZ (w_36 hw))) (mvT hZ (w_36 hw)) (mvT hZ (w_35 hw)) (by decide) (backOf (W := 0) (rm4_0 l Z a0 hw [] t14 t15 t16 t5 t0 t4 ((t8 + (own_pt t0 0 (t12.toInt64))) + (own_pt t4 0 (t13.toInt64))) ((t9 + (own_pt t0 1 (t12.toInt64))) + (own_pt t4 1 (t13.toInt64))) ((t10 + (own_pt t0 2 (t12.toInt64))) + (own_pt t4 2 (t13.toInt64))) t17 t18 t19 (own_ui t4 0 1 (own_ui t0 0 1 t1)) (own_ui t4 1 1 (own_ui t0 1 1 t2)) (own_ui t4 2 1 (own_ui t0 2 1 t3)) t20 t21 t22 t23 t11 o0 o5 o2 o6 o3 o1 o4 j3 j1 j2 j4 j0 j5 h2 n0 O2 R2_10 R2_3 R2_8 F4 R2_2 R2_12 u2 (Ne.symm v2) v8 u4 R2_9 (Ne.symm v7) R2_5 R2_13 v5 (Ne.symm v9) d6 F5 v12 v14 u5 (Ne.symm v11) R2_4 u1 (Ne.symm v13) v4 u3 R2_1 R2_0 (Ne.symm v1) (Ne.symm v6) (Ne.symm v10) (Ne.symm v0) (Ne.symm v3) u0 d7 d8 R2_11 R2_7 F6 v17 v19 v20 v16 v18 v15 u6 F7 F8 R2_6) hZ (w_37 hw) (w_2 hw) (by decide) (by decide)) q3a q3c (g := (mkF m 84 #[iv t24, iv t25, iv t12, iv t13, iv t26, iv t27, iv t0, iv t4, iv t28, rv o0, .unset, .unset, .unset, .unset] [(.ref o0)])) rfl (by rw [hml]; rfl) (Steps.refl _) (argsL := []) (rest := []) (lenOf pd_6 rfl) rfl (by show 2 * 0 + _ ≤ _; exact Nat.le_of_eq rfl) (hb hby at_84) (fun _ _ => ⟨rfl, e2, hcn, hsn⟩)
  dsimp only [Pt.U, Pt.locs, Pt.cells, Pt.slots] at X3 l3 y3 z3 st3 hQ3
  subst l3 y3 z3
  obtain ⟨h3, e3⟩ : ∃ z, T3.heap = z := ⟨_, rfl⟩
  rw [e3] at hQ3
  obtain ⟨rfl, N3q, K3, R3_0, R3_1, R3_2, R3_3, R3_4, R3_5, R3_6, R3_7, R3_8, R3_9, R3_10, R3_11, R3_12, R3_13, R3_14, R3_15, R3_16, R3_17, R3_18⟩ := hQ3
  have N3 := Fr.app N2 N3q
  have O3 := Old.keep O2 K3 (allS u2 (allS u4 (allS u5 (allS u1 (allS u3 (allS u0 (allS u6 all0)))))))
  have KK3 := Keep.trans KK2 K3 (allS (Or.inl (own_m 1 rfl)) (allS (Or.inl (own_m 6 rfl)) (allS (Or.inl (own_m 5 rfl)) (allS (Or.inl (own_m 2 rfl)) (allS (Or.inl (own_m 0 rfl)) (allS (Or.inl (own_m 3 rfl)) (allS (Or.inl (own_m 4 rfl)) all0)))))))
  refine ⟨T3, h3, _, X3, e3, N3, KK3, R3_16, R3_0, R3_12, R3_8, R3_6, R3_11, R3_10, R3_15, R3_14, R3_7, R3_9, R3_5, R3_13, R3_17, R3_18, R3_3, R3_4, R3_1, R3_2, fun target kt => ?_⟩
  show Steps p.tables e below (T0.setTop (mkF m 64 #[iv t24, iv t25, iv t12, iv t13, iv t26, iv t27, iv t0, iv t4, iv t28, rv o0, .unset, .unset, .unset, .unset] [])) _
  refine oa X0 hx hby at_64 rfl rfl rfl ?_
  refine oi X0 hx hby at_66 rfl rfl ?_
  refine oI X0 hx hby at_68 rfl rfl ?_
  refine XS.i2dS X0.here hx rfl (hb hby at_69) rfl (v := FP.l2d (t12.toInt64)) (i2d_w t12) ?_
  refine st1.trans ?_
  refine oa X1 hx hby at_73 rfl rfl rfl ?_
  refine oi X1 hx hby at_75 rfl rfl ?_
  refine oI X1 hx hby at_77 rfl rfl ?_
  refine XS.i2dS X1.here hx rfl (hb hby at_78) rfl (v := FP.l2d (t13.toInt64)) (i2d_w t13) ?_
  refine st2.trans ?_
  refine oa X2 hx hby at_82 rfl rfl rfl ?_
  refine st3.trans ?_
  exact kt
def Q20_0 (Z : State) (h0 : Heap) (n0 : Nat) (v : Option Value) (h : Heap) (L : List Loc) : Prop := v = some (.int 6) ∧ Fr n0 L ∧ h = h0
theorem rm20_0 (l : Launch) (Z : State) (a0 : Array Value) (hw : HW a0 Z) (ws : List Jvm.Cond) (h0 : Heap) (n0 : Nat) (OO : Old Z n0 h0) :
    own_MF l Z h0 (⟨"java/lang/Math", "max", "(II)I"⟩ : MethodName) ws jdk_29_method_65_code 2 (some .int) ({ frames := 0, cells := 0, slots := 0, locals := 0 } : Room) #[(.int 6), (.int 4)] (Q20_0 Z h0 n0) := by
  refine MetFree.of_bodySF (Jvm.Free.JP.mathPlain rfl (by decide +kernel)) hisR ?_
  intro p e s m args below meth c s₁ Bd hml0 hP hK
  obtain ⟨rfl, hZ, hh⟩ := hP
  have hx := Bd.exec
  have hby := Bd.bytes
  have hml : c.maxLocals = 2 := hml0
  have hown : s.vm.findClass "java/lang/Math" = some m.cls := findClass_of_methodNamed Bd.named
  have X0 : Stand p l e ({ frames := 0, cells := 0, slots := 0, locals := 0 } : Room) s m #[(.int 6), (.int 4)] below meth c s₁ [] 0 0 := Stand.of_body Bd
  have e0 : s₁.heap = h0 := by rw [← hh, Bd.state]; rfl
  have N0 := Fr.nil n0
  obtain ⟨fs, hr, hrun, hended, hW, hsame⟩ := X0.leave (v := some (.int 6)) (fun h => by rw [Bd.returns] at h; cases h)
  refine ⟨_, _, (castTop (ef_20 m 6 4) ?_), hrun, hended, _, _, rfl, ?_, ⟨_, rfl⟩, hW, hsame.mono (by decide) (by decide)⟩
  · show Steps p.tables e below (s₁.setTop (mkF m 0 #[iv 6, iv 4] [])) _
    refine oI X0 hx hby d20_0 rfl rfl ?_
    refine oI X0 hx hby d20_1 rfl rfl ?_
    refine XS.icmpNo X0.here hx rfl (hb hby d20_2) rfl (by decide) ?_
    refine oI X0 hx hby d20_5 rfl rfl ?_
    refine XS.goto X0.here hx rfl (pc0 := 6) (pc' := 10) rfl (hb hby d20_6) (by decide) (by decide) ?_
    exact retI X0 hx Bd.returns (hb hby d20_10) hr
  · show Q20_0 Z h0 n0 _ s₁.heap _
    exact ⟨rfl, N0, e0⟩
def Q12_0 (Z : State) (h0 : Heap) (n0 : Nat) (v : Option Value) (h : Heap) (L : List Loc) : Prop := v = some (.int 3) ∧ Fr n0 L ∧ h = h0
theorem rm12_0 (l : Launch) (Z : State) (a0 : Array Value) (hw : HW a0 Z) (ws : List Jvm.Cond) (h0 : Heap) (n0 : Nat) (OO : Old Z n0 h0) :
    own_MF l Z h0 (⟨"java/lang/Math", "min", "(II)I"⟩ : MethodName) ws jdk_29_method_69_code 2 (some .int) ({ frames := 0, cells := 0, slots := 0, locals := 0 } : Room) #[(.int 3), (.int 6)] (Q12_0 Z h0 n0) := by
  refine MetFree.of_bodySF (Jvm.Free.JP.mathPlain rfl (by decide +kernel)) hisR ?_
  intro p e s m args below meth c s₁ Bd hml0 hP hK
  obtain ⟨rfl, hZ, hh⟩ := hP
  have hx := Bd.exec
  have hby := Bd.bytes
  have hml : c.maxLocals = 2 := hml0
  have hown : s.vm.findClass "java/lang/Math" = some m.cls := findClass_of_methodNamed Bd.named
  have X0 : Stand p l e ({ frames := 0, cells := 0, slots := 0, locals := 0 } : Room) s m #[(.int 3), (.int 6)] below meth c s₁ [] 0 0 := Stand.of_body Bd
  have e0 : s₁.heap = h0 := by rw [← hh, Bd.state]; rfl
  have N0 := Fr.nil n0
  obtain ⟨fs, hr, hrun, hended, hW, hsame⟩ := X0.leave (v := some (.int 3)) (fun h => by rw [Bd.returns] at h; cases h)
  refine ⟨_, _, (castTop (ef_12 m 3 6) ?_), hrun, hended, _, _, rfl, ?_, ⟨_, rfl⟩, hW, hsame.mono (by decide) (by decide)⟩
  · show Steps p.tables e below (s₁.setTop (mkF m 0 #[iv 3, iv 6] [])) _
    refine oI X0 hx hby d12_0 rfl rfl ?_
    refine oI X0 hx hby d12_1 rfl rfl ?_
    refine XS.icmpNo X0.here hx rfl (hb hby d12_2) rfl (by decide) ?_
    refine oI X0 hx hby d12_5 rfl rfl ?_
    refine XS.goto X0.here hx rfl (pc0 := 6) (pc' := 10) rfl (hb hby d12_6) (by decide) (by decide) ?_
    exact retI X0 hx Bd.returns (hb hby d12_10) hr
  · show Q12_0 Z h0 n0 _ s₁.heap _
    exact ⟨rfl, N0, e0⟩
def Q11_0 (Z : State) (t0 t1 t2 : Int32) (o0 : Addr) (j0 : ClassId) (h0 : Heap) (n0 : Nat) (v : Option Value) (h : Heap) (L : List Loc) : Prop := ∃ (o1 : Addr) (j1 : ClassId), v = some (.ref o1) ∧ Fr n0 L ∧ Keep h0 h [] ∧ h0.size ≤ o1 ∧ AI6 Z h o1 j1 t0 t1 t2 0 0 0
theorem rm11_0 (l : Launch) (Z : State) (a0 : Array Value) (hw : HW a0 Z) (ws : List Jvm.Cond) (t0 t1 t2 : Int32) (o0 : Addr) (j0 : ClassId) (h0 : Heap) (n0 : Nat) (OO : Old Z n0 h0) (f0 : AI3 Z h0 o0 j0 t0 t1 t2) :
    own_MF l Z h0 (⟨"java/util/Arrays", "copyOf", "([II)[I"⟩ : MethodName) ws jdk_65_method_123_code 3 (some (.array .int)) ({ frames := 1, cells := 1, slots := 6, locals := 18 } : Room) #[(.ref o0), (.int 6)] (Q11_0 Z t0 t1 t2 o0 j0 h0 n0) := by
  refine MetFree.of_bodySF (plainFor_of_name pn_11) hisR ?_
  intro p e s m args below meth c s₁ Bd hml0 hP hK
  obtain ⟨rfl, hZ, hh⟩ := hP
  have hx := Bd.exec
  have hby := Bd.bytes
  have hml : c.maxLocals = 3 := hml0
  have hown : s.vm.findClass "java/util/Arrays" = some m.cls := findClass_of_methodNamed Bd.named
  have X0 : Stand p l e ({ frames := 1, cells := 1, slots := 6, locals := 18 } : Room) s m #[(.ref o0), (.int 6)] below meth c s₁ [] 0 0 := Stand.of_body Bd
  have e0 : s₁.heap = h0 := by rw [← hh, Bd.state]; rfl
  have N0 := Fr.nil n0
  obtain ⟨c1, r1, q1, S1, M1, H1, G1⟩ := id f0
  obtain ⟨T2, h2, j1, X2, e2, E2, A2, B2, st2⟩ := newPE (aty := .int) X0 hx hZ (w_17 hw) e0 (g := (mkF m 15 #[rv o0, iv 6, .unset] [(.int 6)])) rfl (hb hby d11_15) rfl (by decide) (cap := 6) (by decide) (by decide) (by decide) (by decide) (ad := "[I") (by decide +kernel)
  obtain ⟨o1, g2⟩ : ∃ z, z = h0.size := ⟨_, rfl⟩
  rw [← g2] at A2 B2 st2
  have g3 : n0 ≤ o1 := Nat.le_trans (own_le OO) (Nat.le_of_eq g2.symm)
  have s4 : h0.size ≤ o1 := Nat.le_trans ((Keep.refl h0 [])).1 (Nat.le_of_eq g2.symm)
  have O2 := Old.ext OO E2
  have KK2 := Keep.ext (Keep.refl h0 []) E2
  have F5 : AI6 Z h2 o1 j1 0 0 0 0 0 0 := (Arv.new A2 (by decide)).pad (pad_rep [] (.int 0) 6)
  have F7 := (Arv.ext f0 E2)
  obtain ⟨c6, r6, q6, S6, M6, H6, G6⟩ := id F7
  obtain ⟨_, T8, h8, Lc8, X8, e8a, hQ8, st8⟩ := own_cS X2 hx hZ hown (w_70 hw) (w_71 hw) (w_72 hw) (w_73 hw) (by decide) (rm12_0 l Z a0 hw []  h2 n0 O2) e2 (W := 4) (by decide) (by decide) (by decide : 1 + 0 ≤ _) (by decide : 6 + 0 ≤ _) (g := (mkF m 25 #[rv o0, iv 6, rv o1] [(.int 6), (.int 3), (.int 0), (.ref o1), (.int 0), (.ref o0)])) rfl (by rw [hml]; rfl) (argsL := [(.int 3), (.int 6)]) (rest := [(.int 0), (.ref o1), (.int 0), (.ref o0)]) (lenOf pd_7 rfl) rfl rfl rfl (hb hby d11_25) rfl
  obtain ⟨rfl, N8q, z8⟩ := hQ8
  have e8 := e8a.trans z8
  have N8 := Fr.app N0 N8q
  obtain ⟨T9, h9, L9, X9, e9, N9, K9, V9, st9⟩ := cpA X8 hx hZ hown (w_74 hw) (w_77 hw) (w_75 hw) (w_76 hw) e8 F7 F5 (us := [(.int t0), (.int t1), (.int t2)]) (Or.inl ⟨rfl, rfl⟩) (by decide) (by decide) (by decide) (by decide) (by decide) rfl (Nat.le_of_ble_eq_true rfl) N8 g3 (g := (mkF m 28 #[rv o0, iv 6, rv o1] [(.int 3), (.int 0), (.ref o1), (.int 0), (.ref o0)])) rfl (by rw [hml]; rfl) (rest := []) rfl (hb hby d11_28) (by decide) (W := 0) (by show 2 * 0 + _ ≤ _; exact Nat.le_of_eq rfl) (by decide)
  have O9 := Old.keep O2 K9 (allS g3 all0)
  have KK9 := Keep.trans KK2 K9 (allS (Or.inr s4) all0)
  have F10 : AI6 Z h9 o1 j1 t0 t1 t2 0 0 0 := V9
  obtain ⟨fs, hr, hrun, hended, hW, hsame⟩ := X9.leave (v := some (.ref o1)) (fun h => by rw [Bd.returns] at h; cases h)
  refine ⟨_, _, (castTop (ef_11 m o0 6) ?_), hrun, hended, _, _, rfl, ?_, ⟨_, rfl⟩, hW, hsame.mono (by decide) (by decide)⟩
  · show Steps p.tables e below (s₁.setTop (mkF m 0 #[rv o0, iv 6, .unset] [])) _
    refine oI X0 hx hby d11_0 rfl rfl ?_
    refine oA X0 hx hby d11_1 rfl rfl rfl ?_
    refine X0.arraylength hx (by rw [e0]; exact r1.1) (State.isArrayOf_alike hZ.alike r1.2.1) (g := (mkF m 2 #[rv o0, iv 6, .unset] [(.ref o0), (.int 6)])) rfl rfl (hb hby d11_2) _ ?_
    rw [len_of S1 M1]
    refine XS.icmpYes X0.here hx rfl (pc0 := 3) (pc' := 14) rfl (hb hby d11_3) rfl (by decide) (by decide) (by decide) ?_
    refine oI X0 hx hby d11_14 rfl rfl ?_
    refine st2 _ ?_
    refine XS.astoreN X2.here hx rfl (hb hby d11_17) rfl rfl (l' := #[rv o0, iv 6, rv o1]) rfl ?_
    refine oA X2 hx hby d11_18 rfl rfl rfl ?_
    refine oK X2 hx hby d11_19 rfl ?_
    refine oA X2 hx hby d11_20 rfl rfl rfl ?_
    refine oK X2 hx hby d11_21 rfl ?_
    refine oA X2 hx hby d11_22 rfl rfl rfl ?_
    refine X2.arraylength hx (by rw [e2]; exact r6.1) (State.isArrayOf_alike hZ.alike r6.2.1) (g := (mkF m 23 #[rv o0, iv 6, rv o1] [(.ref o0), (.int 0), (.ref o1), (.int 0), (.ref o0)])) rfl rfl (hb hby d11_23) _ ?_
    rw [len_of S6 M6]
    refine oI X2 hx hby d11_24 rfl rfl ?_
    refine st8 _ ?_
    refine st9 _ ?_
    refine oA X9 hx hby d11_31 rfl rfl rfl ?_
    exact retOut X9 hx Bd.returns rfl (Or.inr (Or.inr (Or.inr (Or.inr ⟨rfl, rfl, rfl⟩)))) (hb hby d11_32) hr
  · show Q11_0 Z t0 t1 t2 o0 j0 h0 n0 _ T9.heap _
    rw [e9]
    exact ⟨o1, j1, rfl, N9, KK9, s4, F10⟩
def Q13_0 (Z : State) (t0 t1 t2 : Int64) (o0 : Addr) (j0 : ClassId) (h0 : Heap) (n0 : Nat) (v : Option Value) (h : Heap) (L : List Loc) : Prop := ∃ (o1 : Addr) (j1 : ClassId), v = some (.ref o1) ∧ Fr n0 L ∧ Keep h0 h [] ∧ h0.size ≤ o1 ∧ AD6 Z h o1 j1 t0 t1 t2 0 0 0
theorem rm13_0 (l : Launch) (Z : State) (a0 : Array Value) (hw : HW a0 Z) (ws : List Jvm.Cond) (t0 t1 t2 : Int64) (o0 : Addr) (j0 : ClassId) (h0 : Heap) (n0 : Nat) (OO : Old Z n0 h0) (f0 : AD3 Z h0 o0 j0 t0 t1 t2) :
    own_MF l Z h0 (⟨"java/util/Arrays", "copyOf", "([DI)[D"⟩ : MethodName) ws jdk_65_method_127_code 3 (some (.array .double)) ({ frames := 1, cells := 1, slots := 6, locals := 18 } : Room) #[(.ref o0), (.int 6)] (Q13_0 Z t0 t1 t2 o0 j0 h0 n0) := by
  refine MetFree.of_bodySF (plainFor_of_name pn_13) hisR ?_
  intro p e s m args below meth c s₁ Bd hml0 hP hK
  obtain ⟨rfl, hZ, hh⟩ := hP
  have hx := Bd.exec
  have hby := Bd.bytes
  have hml : c.maxLocals = 3 := hml0
  have hown : s.vm.findClass "java/util/Arrays" = some m.cls := findClass_of_methodNamed Bd.named
  have X0 : Stand p l e ({ frames := 1, cells := 1, slots := 6, locals := 18 } : Room) s m #[(.ref o0), (.int 6)] below meth c s₁ [] 0 0 := Stand.of_body Bd
  have e0 : s₁.heap = h0 := by rw [← hh, Bd.state]; rfl
  have N0 := Fr.nil n0
  obtain ⟨c1, r1, q1, S1, M1, H1, G1⟩ := id f0
  obtain ⟨T2, h2, j1, X2, e2, E2, A2, B2, st2⟩ := newPE (aty := .double) X0 hx hZ (w_11 hw) e0 (g := (mkF m 15 #[rv o0, iv 6, .unset] [(.int 6)])) rfl (hb hby d13_15) rfl (by decide) (cap := 6) (by decide) (by decide) (by decide) (by decide) (ad := "[D") (by decide +kernel)
  obtain ⟨o1, g2⟩ : ∃ z, z = h0.size := ⟨_, rfl⟩
  rw [← g2] at A2 B2 st2
  have g3 : n0 ≤ o1 := Nat.le_trans (own_le OO) (Nat.le_of_eq g2.symm)
  have s4 : h0.size ≤ o1 := Nat.le_trans ((Keep.refl h0 [])).1 (Nat.le_of_eq g2.symm)
  have O2 := Old.ext OO E2
  have KK2 := Keep.ext (Keep.refl h0 []) E2
  have F5 : AD6 Z h2 o1 j1 0 0 0 0 0 0 := (Arv.newD A2 (by decide)).pad (pad_rep [] (.double (FP.l2d (0 : Int64))) 6)
  have F7 := (Arv.ext f0 E2)
  obtain ⟨c6, r6, q6, S6, M6, H6, G6⟩ := id F7
  obtain ⟨_, T8, h8, Lc8, X8, e8a, hQ8, st8⟩ := own_cS X2 hx hZ hown (w_70 hw) (w_71 hw) (w_72 hw) (w_73 hw) (by decide) (rm12_0 l Z a0 hw []  h2 n0 O2) e2 (W := 4) (by decide) (by decide) (by decide : 1 + 0 ≤ _) (by decide : 6 + 0 ≤ _) (g := (mkF m 25 #[rv o0, iv 6, rv o1] [(.int 6), (.int 3), (.int 0), (.ref o1), (.int 0), (.ref o0)])) rfl (by rw [hml]; rfl) (argsL := [(.int 3), (.int 6)]) (rest := [(.int 0), (.ref o1), (.int 0), (.ref o0)]) (lenOf pd_7 rfl) rfl rfl rfl (hb hby d13_25) rfl
  obtain ⟨rfl, N8q, z8⟩ := hQ8
  have e8 := e8a.trans z8
  have N8 := Fr.app N0 N8q
  obtain ⟨T9, h9, L9, X9, e9, N9, K9, V9, st9⟩ := cpA X8 hx hZ hown (w_74 hw) (w_77 hw) (w_75 hw) (w_76 hw) e8 F7 F5 (us := [(.double (FP.l2d t0)), (.double (FP.l2d t1)), (.double (FP.l2d t2))]) (Or.inl ⟨rfl, rfl⟩) (by decide) (by decide) (by decide) (by decide) (by decide) rfl (Nat.le_of_ble_eq_true rfl) N8 g3 (g := (mkF m 28 #[rv o0, iv 6, rv o1] [(.int 3), (.int 0), (.ref o1), (.int 0), (.ref o0)])) rfl (by rw [hml]; rfl) (rest := []) rfl (hb hby d13_28) (by decide) (W := 0) (by show 2 * 0 + _ ≤ _; exact Nat.le_of_eq rfl) (by decide)
  have O9 := Old.keep O2 K9 (allS g3 all0)
  have KK9 := Keep.trans KK2 K9 (allS (Or.inr s4) all0)
  have F10 : AD6 Z h9 o1 j1 t0 t1 t2 0 0 0 := V9
  obtain ⟨fs, hr, hrun, hended, hW, hsame⟩ := X9.leave (v := some (.ref o1)) (fun h => by rw [Bd.returns] at h; cases h)
  refine ⟨_, _, (castTop (ef_13 m o0 6) ?_), hrun, hended, _, _, rfl, ?_, ⟨_, rfl⟩, hW, hsame.mono (by decide) (by decide)⟩
  · show Steps p.tables e below (s₁.setTop (mkF m 0 #[rv o0, iv 6, .unset] [])) _
    refine oI X0 hx hby d13_0 rfl rfl ?_
    refine oA X0 hx hby d13_1 rfl rfl rfl ?_
    refine X0.arraylength hx (by rw [e0]; exact r1.1) (State.isArrayOf_alike hZ.alike r1.2.1) (g := (mkF m 2 #[rv o0, iv 6, .unset] [(.ref o0), (.int 6)])) rfl rfl (hb hby d13_2) _ ?_
    rw [len_of S1 M1]
    refine XS.icmpYes X0.here hx rfl (pc0 := 3) (pc' := 14) rfl (hb hby d13_3) rfl (by decide) (by decide) (by decide) ?_
    refine oI X0 hx hby d13_14 rfl rfl ?_
    refine st2 _ ?_
    refine XS.astoreN X2.here hx rfl (hb hby d13_17) rfl rfl (l' := #[rv o0, iv 6, rv o1]) rfl ?_
    refine oA X2 hx hby d13_18 rfl rfl rfl ?_
    refine oK X2 hx hby d13_19 rfl ?_
    refine oA X2 hx hby d13_20 rfl rfl rfl ?_
    refine oK X2 hx hby d13_21 rfl ?_
    refine oA X2 hx hby d13_22 rfl rfl rfl ?_
    refine X2.arraylength hx (by rw [e2]; exact r6.1) (State.isArrayOf_alike hZ.alike r6.2.1) (g := (mkF m 23 #[rv o0, iv 6, rv o1] [(.ref o0), (.int 0), (.ref o1), (.int 0), (.ref o0)])) rfl rfl (hb hby d13_23) _ ?_
    rw [len_of S6 M6]
    refine oI X2 hx hby d13_24 rfl rfl ?_
    refine st8 _ ?_
    refine st9 _ ?_
    refine oA X9 hx hby d13_31 rfl rfl rfl ?_
    exact retOut X9 hx Bd.returns rfl (Or.inr (Or.inr (Or.inr (Or.inr ⟨rfl, rfl, rfl⟩)))) (hb hby d13_32) hr
  · show Q13_0 Z t0 t1 t2 o0 j0 h0 n0 _ T9.heap _
    rw [e9]
    exact ⟨o1, j1, rfl, N9, KK9, s4, F10⟩
def Q9_7 (Z : State) (t0 t1 t2 t3 t4 : Int32) (o0 : Addr) (j0 : ClassId) (h0 : Heap) (n0 : Nat) (v : Option Value) (h : Heap) (L : List Loc) : Prop := v = none ∧ Fr n0 L ∧ Keep h0 h [o0] ∧ AI3 Z h o0 j0 t0 t1 t2
theorem rm9_7 (l : Launch) (Z : State) (a0 : Array Value) (hw : HW a0 Z) (ws : List Jvm.Cond) (t0 t1 t2 t3 t4 : Int32) (o0 : Addr) (j0 : ClassId) (h0 : Heap) (n0 : Nat) (OO : Old Z n0 h0) (f0 : AI3 Z h0 o0 j0 t0 t1 t2) (u0 : n0 ≤ o0) (d0 : ¬ ((t3 + (1 : Int32)) < t4)) :
    own_MF l Z h0 (⟨"java/util/DualPivotQuicksort", "insertionSort", "([III)V"⟩ : MethodName) ws jdk_2529_method_6_code 6 none ({ frames := 0, cells := 0, slots := 0, locals := 0 } : Room) #[(.ref o0), (.int t3), (.int t4)] (Q9_7 Z t0 t1 t2 t3 t4 o0 j0 h0 n0) := by
  refine MetFree.of_bodySF (plainFor_of_name pn_9) hisR ?_
  intro p e s m args below meth c s₁ Bd hml0 hP hK
  obtain ⟨rfl, hZ, hh⟩ := hP
  have hx := Bd.exec
  have hby := Bd.bytes
  have hml : c.maxLocals = 6 := hml0
  have hown : s.vm.findClass "java/util/DualPivotQuicksort" = some m.cls := findClass_of_methodNamed Bd.named
  have X0 : Stand p l e ({ frames := 0, cells := 0, slots := 0, locals := 0 } : Room) s m #[(.ref o0), (.int t3), (.int t4)] below meth c s₁ [] 0 0 := Stand.of_body Bd
  have e0 : s₁.heap = h0 := by rw [← hh, Bd.state]; rfl
  have N0 := Fr.nil n0
  obtain ⟨fs, hr, hrun, hended, hW, hsame⟩ := X0.leave (v := none) (fun _ => rfl)
  refine ⟨_, _, (castTop (ef_9 m o0 t3 t4) ?_), hrun, hended, _, _, rfl, ?_, ⟨_, rfl⟩, hW, hsame.mono (by decide) (by decide)⟩
  · show Steps p.tables e below (s₁.setTop (mkF m 0 #[rv o0, iv t3, iv t4, .unset, .unset, .unset] [])) _
    refine oI X0 hx hby d9_0 rfl rfl ?_
    refine XS.istore X0.here hx rfl (hb hby d9_1) rfl (l' := #[rv o0, iv t3, iv t4, .unset, iv t3, .unset]) rfl ?_
    refine XS.iinc X0.here hx rfl (hb hby d9_3) rfl (l' := #[rv o0, iv t3, iv t4, .unset, iv (t3 + (1 : Int32)), .unset]) rfl ?_
    refine oi X0 hx hby d9_6 rfl rfl ?_
    refine oI X0 hx hby d9_8 rfl rfl ?_
    refine XS.icmpYes X0.here hx rfl (pc0 := 9) (pc' := 67) rfl (hb hby d9_9) rfl (flt d0).2.1 (by decide) (by decide) ?_
    exact X0.returnOut hx Bd.returns (hb hby d9_67) hr
  · show Q9_7 Z t0 t1 t2 t3 t4 o0 j0 h0 n0 _ s₁.heap _
    rw [e0]
    exact ⟨rfl, N0, (Keep.refl h0 [o0]), f0⟩
def Q8_1 (Z : State) (t0 t1 t2 t3 t4 t5 : Int32) (o0 : Addr) (j0 : ClassId) (h0 : Heap) (n0 : Nat) (v : Option Value) (h : Heap) (L : List Loc) : Prop := v = none ∧ Fr n0 L ∧ Keep h0 h [o0] ∧ AI3 Z h o0 j0 t3 t4 t5
theorem rm8_1 (l : Launch) (Z : State) (a0 : Array Value) (hw : HW a0 Z) (ws : List Jvm.Cond) (t0 t1 t2 t3 t4 t5 : Int32) (o0 : Addr) (j0 : ClassId) (h0 : Heap) (n0 : Nat) (OO : Old Z n0 h0) (d0 : (t0 - t1) < ((65 : Int32) + t2)) (d1 : ¬ ((0 : Int32) < (t2 &&& (1 : Int32)))) (d2 : (t0 - t1) < (44 : Int32)) (f0 : AI3 Z h0 o0 j0 t3 t4 t5) (u0 : n0 ≤ o0) (d3 : ¬ ((t1 + (1 : Int32)) < t0)) :
    own_MF l Z h0 (⟨"java/util/DualPivotQuicksort", "sort", "(Ljava/util/DualPivotQuicksort$Sorter;[IIII)V"⟩ : MethodName) ws jdk_2529_method_4_code 21 none ({ frames := 1, cells := 0, slots := 0, locals := 17 } : Room) #[.null, (.ref o0), (.int t2), (.int t1), (.int t0)] (Q8_1 Z t0 t1 t2 t3 t4 t5 o0 j0 h0 n0) := by
  refine MetFree.of_bodySF (plainFor_of_name pn_8) hisR ?_
  intro p e s m args below meth c s₁ Bd hml0 hP hK
  obtain ⟨rfl, hZ, hh⟩ := hP
  have hx := Bd.exec
  have hby := Bd.bytes
  have hml : c.maxLocals = 21 := hml0
  have hown : s.vm.findClass "java/util/DualPivotQuicksort" = some m.cls := findClass_of_methodNamed Bd.named
  have X0 : Stand p l e ({ frames := 1, cells := 0, slots := 0, locals := 17 } : Room) s m #[.null, (.ref o0), (.int t2), (.int t1), (.int t0)] below meth c s₁ [] 0 0 := Stand.of_body Bd
  have e0 : s₁.heap = h0 := by rw [← hh, Bd.state]; rfl
  have N0 := Fr.nil n0
  obtain ⟨_, T1, h1, Lc1, X1, e1, hQ1, st1⟩ := own_cS X0 hx hZ hown (w_54 hw) (w_55 hw) (w_49 hw) (w_56 hw) (by decide) (rm9_7 l Z a0 hw [] t3 t4 t5 t1 t0 o0 j0 h0 n0 OO f0 u0 d3) e0 (W := 0) (by decide) (by decide) (by decide : 0 + 0 ≤ _) (by decide : 0 + 0 ≤ _) (g := (mkF m 57 #[.val .null, rv o0, iv t2, iv t1, iv t0, iv (t0 - (1 : Int32)), iv (t0 - t1), .unset, .unset, .unset, .unset, .unset, .unset, .unset, .unset, .unset, .unset, .unset, .unset, .unset, .unset] [(.int t0), (.int t1), (.ref o0)])) rfl (by rw [hml]; rfl) (argsL := [(.ref o0), (.int t1), (.int t0)]) (rest := []) (lenOf pd_3 rfl) rfl rfl rfl (hb hby d8_57) rfl
  obtain ⟨rfl, N1q, K1, R1_0⟩ := hQ1
  have N1 := Fr.app N0 N1q
  have O1 := Old.keep OO K1 (allS u0 all0)
  have KK1 := Keep.trans (Keep.refl h0 [o0]) K1 (allS (Or.inl (own_m 0 rfl)) all0)
  obtain ⟨fs, hr, hrun, hended, hW, hsame⟩ := X1.leave (v := none) (fun _ => rfl)
  refine ⟨_, _, (castTop (ef_8 m o0 t2 t1 t0) ?_), hrun, hended, _, _, rfl, ?_, ⟨_, rfl⟩, hW, hsame.mono (by decide) (by decide)⟩
  · show Steps p.tables e below (s₁.setTop (mkF m 0 #[.val .null, rv o0, iv t2, iv t1, iv t0, .unset, .unset, .unset, .unset, .unset, .unset, .unset, .unset, .unset, .unset, .unset, .unset, .unset, .unset, .unset, .unset] [])) _
    refine oi X0 hx hby d8_0 rfl rfl ?_
    refine oK X0 hx hby d8_2 rfl ?_
    refine XS.isub X0.here hx rfl (hb hby d8_3) rfl ?_
    refine XS.istore X0.here hx rfl (hb hby d8_4) rfl (l' := #[.val .null, rv o0, iv t2, iv t1, iv t0, iv (t0 - (1 : Int32)), .unset, .unset, .unset, .unset, .unset, .unset, .unset, .unset, .unset, .unset, .unset, .unset, .unset, .unset, .unset]) rfl ?_
    refine oi X0 hx hby d8_6 rfl rfl ?_
    refine oI X0 hx hby d8_8 rfl rfl ?_
    refine XS.isub X0.here hx rfl (hb hby d8_9) rfl ?_
    refine XS.istore X0.here hx rfl (hb hby d8_10) rfl (l' := #[.val .null, rv o0, iv t2, iv t1, iv t0, iv (t0 - (1 : Int32)), iv (t0 - t1), .unset, .unset, .unset, .unset, .unset, .unset, .unset, .unset, .unset, .unset, .unset, .unset, .unset, .unset]) rfl ?_
    refine oi X0 hx hby d8_12 rfl rfl ?_
    refine XS.bipush X0.here hx rfl (hb hby d8_14) ?_
    refine oI X0 hx hby d8_16 rfl rfl ?_
    refine XS.iadd X0.here hx rfl (hb hby d8_17) rfl ?_
    refine XS.icmpNo X0.here hx rfl (hb hby d8_18) rfl (tlt d0).2.1 ?_
    refine oI X0 hx hby d8_21 rfl rfl ?_
    refine oK X0 hx hby d8_22 rfl ?_
    refine XS.iand X0.here hx rfl (hb hby d8_23) rfl ?_
    refine XS.ifYes X0.here hx rfl (pc0 := 24) (pc' := 46) rfl (hb hby d8_24) rfl ((if0 _ _).trans (flt d1).2.2.2) (by decide) (by decide) ?_
    refine oi X0 hx hby d8_46 rfl rfl ?_
    refine XS.bipush X0.here hx rfl (hb hby d8_48) ?_
    refine XS.icmpNo X0.here hx rfl (hb hby d8_50) rfl (tlt d2).2.1 ?_
    refine oA X0 hx hby d8_53 rfl rfl rfl ?_
    refine oI X0 hx hby d8_54 rfl rfl ?_
    refine oi X0 hx hby d8_55 rfl rfl ?_
    refine st1 _ ?_
    show Steps p.tables e below (T1.setTop (mkF m 60 #[.val .null, rv o0, iv t2, iv t1, iv t0, iv (t0 - (1 : Int32)), iv (t0 - t1), .unset, .unset, .unset, .unset, .unset, .unset, .unset, .unset, .unset, .unset, .unset, .unset, .unset, .unset] [])) _
    exact X1.returnOut hx Bd.returns (hb hby d8_60) hr
  · show Q8_1 Z t0 t1 t2 t3 t4 t5 o0 j0 h0 n0 _ T1.heap _
    rw [e1]
    exact ⟨rfl, N1, KK1, R1_0⟩
def Q7_1 (Z : State) (t0 t1 t2 t3 t4 t5 : Int32) (o0 : Addr) (j0 : ClassId) (h0 : Heap) (n0 : Nat) (v : Option Value) (h : Heap) (L : List Loc) : Prop := v = none ∧ Fr n0 L ∧ Keep h0 h [o0] ∧ AI3 Z h o0 j0 t1 t2 t3
theorem rm7_1 (l : Launch) (Z : State) (a0 : Array Value) (hw : HW a0 Z) (ws : List Jvm.Cond) (t0 t1 t2 t3 t4 t5 : Int32) (o0 : Addr) (j0 : ClassId) (h0 : Heap) (n0 : Nat) (OO : Old Z n0 h0) (d0 : ¬ ((1 : Int32) < t0)) (f0 : AI3 Z h0 o0 j0 t1 t2 t3) (d1 : (t4 - t5) < ((65 : Int32) + 0)) (d2 : (t4 - t5) < (44 : Int32)) (u0 : n0 ≤ o0) (d3 : ¬ ((t5 + (1 : Int32)) < t4)) :
    own_MF l Z h0 (⟨"java/util/DualPivotQuicksort", "sort", "([IIII)V"⟩ : MethodName) ws jdk_2529_method_3_code 7 none ({ frames := 2, cells := 0, slots := 0, locals := 49 } : Room) #[(.ref o0), (.int t0), (.int t5), (.int t4)] (Q7_1 Z t0 t1 t2 t3 t4 t5 o0 j0 h0 n0) := by
  refine MetFree.of_bodySF (plainFor_of_name pn_7) hisR ?_
  intro p e s m args below meth c s₁ Bd hml0 hP hK
  obtain ⟨rfl, hZ, hh⟩ := hP
  have hx := Bd.exec
  have hby := Bd.bytes
  have hml : c.maxLocals = 7 := hml0
  have hown : s.vm.findClass "java/util/DualPivotQuicksort" = some m.cls := findClass_of_methodNamed Bd.named
  have X0 : Stand p l e ({ frames := 2, cells := 0, slots := 0, locals := 49 } : Room) s m #[(.ref o0), (.int t0), (.int t5), (.int t4)] below meth c s₁ [] 0 0 := Stand.of_body Bd
  have e0 : s₁.heap = h0 := by rw [← hh, Bd.state]; rfl
  have N0 := Fr.nil n0
  obtain ⟨_, T1, h1, Lc1, X1, e1, hQ1, st1⟩ := own_cS X0 hx hZ hown (w_51 hw) (w_52 hw) (w_49 hw) (w_53 hw) (by decide) (rm8_1 l Z a0 hw [] t4 t5 (0 : Int32) t1 t2 t3 o0 j0 h0 n0 OO d1 (by decide) d2 f0 u0 d3) e0 (W := 0) (by decide) (by decide) (by decide : 0 + 0 ≤ _) (by decide : 0 + 0 ≤ _) (g := (mkF m 73 #[rv o0, iv t0, iv t5, iv t4, iv (t4 - t5), .unset, .unset] [(.int t4), (.int t5), (.int 0), (.ref o0), .null])) rfl (by rw [hml]; rfl) (argsL := [.null, (.ref o0), (.int 0), (.int t5), (.int t4)]) (rest := []) (lenOf pd_4 rfl) rfl rfl rfl (hb hby d7_73) rfl
  obtain ⟨rfl, N1q, K1, R1_0⟩ := hQ1
  have N1 := Fr.app N0 N1q
  have O1 := Old.keep OO K1 (allS u0 all0)
  have KK1 := Keep.trans (Keep.refl h0 [o0]) K1 (allS (Or.inl (own_m 0 rfl)) all0)
  obtain ⟨fs, hr, hrun, hended, hW, hsame⟩ := X1.leave (v := none) (fun _ => rfl)
  refine ⟨_, _, (castTop (ef_7 m o0 t0 t5 t4) ?_), hrun, hended, _, _, rfl, ?_, ⟨_, rfl⟩, hW, hsame.mono (by decide) (by decide)⟩
  · show Steps p.tables e below (s₁.setTop (mkF m 0 #[rv o0, iv t0, iv t5, iv t4, .unset, .unset, .unset] [])) _
    refine oI X0 hx hby d7_0 rfl rfl ?_
    refine oI X0 hx hby d7_1 rfl rfl ?_
    refine XS.isub X0.here hx rfl (hb hby d7_2) rfl ?_
    refine XS.istore X0.here hx rfl (hb hby d7_3) rfl (l' := #[rv o0, iv t0, iv t5, iv t4, iv (t4 - t5), .unset, .unset]) rfl ?_
    refine oI X0 hx hby d7_5 rfl rfl ?_
    refine oK X0 hx hby d7_6 rfl ?_
    refine XS.icmpYes X0.here hx rfl (pc0 := 7) (pc' := 68) rfl (hb hby d7_7) rfl (flt d0).2.2.2 (by decide) (by decide) ?_
    refine XS.aconstNull X0.here hx rfl (hb hby d7_68) ?_
    refine oA X0 hx hby d7_69 rfl rfl rfl ?_
    refine oK X0 hx hby d7_70 rfl ?_
    refine oI X0 hx hby d7_71 rfl rfl ?_
    refine oI X0 hx hby d7_72 rfl rfl ?_
    refine st1 _ ?_
    exact X1.returnOut hx Bd.returns (hb hby d7_76) hr
  · show Q7_1 Z t0 t1 t2 t3 t4 t5 o0 j0 h0 n0 _ T1.heap _
    rw [e1]
    exact ⟨rfl, N1, KK1, R1_0⟩
def Q5_1 (Z : State) (t0 t1 t2 t3 t4 : Int32) (o0 : Addr) (j0 : ClassId) (h0 : Heap) (n0 : Nat) (v : Option Value) (h : Heap) (L : List Loc) : Prop := v = none ∧ Fr n0 L ∧ Keep h0 h [o0] ∧ AI3 Z h o0 j0 t0 t1 t2
theorem rm5_1 (l : Launch) (Z : State) (a0 : Array Value) (hw : HW a0 Z) (ws : List Jvm.Cond) (t0 t1 t2 t3 t4 : Int32) (o0 : Addr) (j0 : ClassId) (h0 : Heap) (n0 : Nat) (OO : Old Z n0 h0) (f0 : AI3 Z h0 o0 j0 t0 t1 t2) (d0 : ¬ (t3 < t4)) (d1 : ¬ (t4 < (0 : Int32))) (d2 : ¬ (3 < t3)) (d3 : (t3 - t4) < ((65 : Int32) + 0)) (d4 : (t3 - t4) < (44 : Int32)) (u0 : n0 ≤ o0) (d5 : ¬ ((t4 + (1 : Int32)) < t3)) :
    own_MF l Z h0 (⟨"java/util/Arrays", "sort", "([III)V"⟩ : MethodName) ws jdk_65_method_3_code 3 none ({ frames := 3, cells := 0, slots := 0, locals := 67 } : Room) #[(.ref o0), (.int t4), (.int t3)] (Q5_1 Z t0 t1 t2 t3 t4 o0 j0 h0 n0) := by
  refine MetFree.of_bodySF (plainFor_of_name pn_5) hisR ?_
  intro p e s m args below meth c s₁ Bd hml0 hP hK
  obtain ⟨rfl, hZ, hh⟩ := hP
  have hx := Bd.exec
  have hby := Bd.bytes
  have hml : c.maxLocals = 3 := hml0
  have hown : s.vm.findClass "java/util/Arrays" = some m.cls := findClass_of_methodNamed Bd.named
  have X0 : Stand p l e ({ frames := 3, cells := 0, slots := 0, locals := 67 } : Room) s m #[(.ref o0), (.int t4), (.int t3)] below meth c s₁ [] 0 0 := Stand.of_body Bd
  have e0 : s₁.heap = h0 := by rw [← hh, Bd.state]; rfl
  have N0 := Fr.nil n0
  obtain ⟨c1, r1, q1, S1, M1, H1, G1⟩ := id f0
  obtain ⟨_, T2, h2, Lc2, X2, e2a, hQ2, st2⟩ := own_cS X0 hx hZ hown (w_44 hw) (w_45 hw) (w_42 hw) (w_46 hw) (by decide) (rm6_0 l Z a0 hw [] t3 t4 (3 : Int32) h0 n0 OO d0 d1 d2) e0 (W := 0) (by decide) (by decide) (by decide : 0 + 0 ≤ _) (by decide : 0 + 0 ≤ _) (g := (mkF m 4 #[rv o0, iv t4, iv t3] [(.int t3), (.int t4), (.int 3)])) rfl (by rw [hml]; rfl) (argsL := [(.int 3), (.int t4), (.int t3)]) (rest := []) (lenOf pd_2 rfl) rfl rfl rfl (hb hby d5_4) rfl
  obtain ⟨rfl, N2q, z2⟩ := hQ2
  have e2 := e2a.trans z2
  have N2 := Fr.app N0 N2q
  obtain ⟨_, T3, h3, Lc3, X3, e3, hQ3, st3⟩ := own_cS X2 hx hZ hown (w_47 hw) (w_48 hw) (w_49 hw) (w_50 hw) (by decide) (rm7_1 l Z a0 hw [] (0 : Int32) t0 t1 t2 t3 t4 o0 j0 h0 n0 OO (by decide) f0 d3 d4 u0 d5) e2 (W := 0) (by decide) (by decide) (by decide : 0 + 0 ≤ _) (by decide : 0 + 0 ≤ _) (g := (mkF m 11 #[rv o0, iv t4, iv t3] [(.int t3), (.int t4), (.int 0), (.ref o0)])) rfl (by rw [hml]; rfl) (argsL := [(.ref o0), (.int 0), (.int t4), (.int t3)]) (rest := []) (lenOf pd_5 rfl) rfl rfl rfl (hb hby d5_11) rfl
  obtain ⟨rfl, N3q, K3, R3_0⟩ := hQ3
  have N3 := Fr.app N2 N3q
  have O3 := Old.keep OO K3 (allS u0 all0)
  have KK3 := Keep.trans (Keep.refl h0 [o0]) K3 (allS (Or.inl (own_m 0 rfl)) all0)
  obtain ⟨fs, hr, hrun, hended, hW, hsame⟩ := X3.leave (v := none) (fun _ => rfl)
  refine ⟨_, _, (castTop (ef_5 m o0 t4 t3) ?_), hrun, hended, _, _, rfl, ?_, ⟨_, rfl⟩, hW, hsame.mono (by decide) (by decide)⟩
  · show Steps p.tables e below (s₁.setTop (mkF m 0 #[rv o0, iv t4, iv t3] [])) _
    refine oA X0 hx hby d5_0 rfl rfl rfl ?_
    refine X0.arraylength hx (by rw [e0]; exact r1.1) (State.isArrayOf_alike hZ.alike r1.2.1) (g := (mkF m 1 #[rv o0, iv t4, iv t3] [(.ref o0)])) rfl rfl (hb hby d5_1) _ ?_
    rw [len_of S1 M1]
    refine oI X0 hx hby d5_2 rfl rfl ?_
    refine oI X0 hx hby d5_3 rfl rfl ?_
    refine st2 _ ?_
    refine oA X2 hx hby d5_7 rfl rfl rfl ?_
    refine oK X2 hx hby d5_8 rfl ?_
    refine oI X2 hx hby d5_9 rfl rfl ?_
    refine oI X2 hx hby d5_10 rfl rfl ?_
    refine st3 _ ?_
    exact X3.returnOut hx Bd.returns (hb hby d5_14) hr
  · show Q5_1 Z t0 t1 t2 t3 t4 o0 j0 h0 n0 _ T3.heap _
    rw [e3]
    exact ⟨rfl, N3, KK3, R3_0⟩
def Q4_1 (Z : State) (t0 t1 t2 : Int32) (t3 t4 t5 : Int64) (t6 t7 t8 : Int32) (t9 t10 t11 : Int64) (t12 t13 t14 t15 t16 t17 t18 t19 : Int32) (o0 o1 o2 o3 o4 o5 o6 : Addr) (j0 j1 j2 j3 j4 j5 : ClassId) (h0 : Heap) (n0 : Nat) (v : Option Value) (h : Heap) (L : List Loc) : Prop := ∃ (o7 o8 : Addr) (j6 j7 : ClassId), v = none ∧ Fr n0 L ∧ Keep h0 h [o0, o3, o4, o5, o6] ∧ h0.size ≤ o7 ∧ h0.size ≤ o8 ∧ o7 ≠ o8 ∧ AI6 Z h o7 j6 t0 t1 t2 t6 0 0 ∧ AD6 Z h o8 j7 t3 t4 t5 (own_pk t6 t9 t10 t11) 0 0 ∧ fB8 Z h o0 (.int 4) ∧ fB7 Z h o0 (.int 0) ∧ fB5 Z h o0 (.ref o7) ∧ Exa Z h o0 kB ∧ fB6 Z h o0 (.ref o8) ∧ fB3 Z h o0 (.ref o3) ∧ fB1 Z h o0 (.ref o4) ∧ fB2 Z h o0 (.ref o5) ∧ fB9 Z h o0 (.int 2) ∧ fB4 Z h o0 (.ref o6) ∧ fB0 Z h o0 (.int t19) ∧ AI3 Z h o3 j2 t6 t7 t8 ∧ AD3 Z h o4 j3 (own_up t6 0 (0 : Int64) t9) (own_up t6 1 (0 : Int64) t10) (own_up t6 2 (0 : Int64) t11) ∧ AZ3 Z h o5 j4 (own_ui t6 0 0 t12) (own_ui t6 1 0 t13) (own_ui t6 2 0 t14) ∧ AI4 Z h o6 j5 t15 t16 4 t18
theorem rm4_1 (l : Launch) (Z : State) (a0 : Array Value) (hw : HW a0 Z) (ws : List Jvm.Cond) (t0 t1 t2 : Int32) (t3 t4 t5 : Int64) (t6 t7 t8 : Int32) (t9 t10 t11 : Int64) (t12 t13 t14 t15 t16 t17 t18 t19 : Int32) (o0 o1 o2 o3 o4 o5 o6 : Addr) (j0 j1 j2 j3 j4 j5 : ClassId) (h0 : Heap) (n0 : Nat) (OO : Old Z n0 h0) (f0 : fB8 Z h0 o0 (.int 3)) (f1 : fB7 Z h0 o0 (.int 1)) (f2 : fB5 Z h0 o0 (.ref o1)) (f3 : AI3 Z h0 o1 j0 t0 t1 t2) (f4 : Exa Z h0 o0 kB) (u0 : n0 ≤ o0) (f5 : fB6 Z h0 o0 (.ref o2)) (f6 : AD3 Z h0 o2 j1 t3 t4 t5) (v0 : o2 ≠ o0) (f7 : fB3 Z h0 o0 (.ref o3)) (f8 : AI3 Z h0 o3 j2 t6 t7 t8) (v1 : o3 ≠ o0) (u1 : n0 ≤ o3) (f9 : fB1 Z h0 o0 (.ref o4)) (f10 : AD3 Z h0 o4 j3 t9 t10 t11) (v2 : o4 ≠ o0) (v3 : o4 ≠ o3) (d0 : own_in3 t6) (u2 : n0 ≤ o4) (f11 : fB2 Z h0 o0 (.ref o5)) (f12 : AZ3 Z h0 o5 j4 t12 t13 t14) (v4 : o5 ≠ o0) (v5 : o5 ≠ o3) (v6 : o5 ≠ o4) (u3 : n0 ≤ o5) (f13 : fB9 Z h0 o0 (.int 1)) (f14 : fB4 Z h0 o0 (.ref o6)) (f15 : AI4 Z h0 o6 j5 t15 t16 t17 t18) (v7 : o6 ≠ o0) (v8 : o6 ≠ o3) (v9 : o6 ≠ o4) (v10 : o6 ≠ o5) (u4 : n0 ≤ o6) (f16 : fB0 Z h0 o0 (.int t19)) :
    own_MF l Z h0 (⟨kB, "endRow", "()V"⟩ : MethodName) ws prog_58_method_3_code 3 none ({ frames := 4, cells := 2, slots := 12, locals := 81 } : Room) #[(.ref o0)] (Q4_1 Z t0 t1 t2 t3 t4 t5 t6 t7 t8 t9 t10 t11 t12 t13 t14 t15 t16 t17 t18 t19 o0 o1 o2 o3 o4 o5 o6 j0 j1 j2 j3 j4 j5 h0 n0) := by
  refine MetFree.of_bodySF (plainFor_of_name pn_4) hisR ?_
  intro p e s m args below meth c s₁ Bd hml0 hP hK
  obtain ⟨rfl, hZ, hh⟩ := hP
  have hx := Bd.exec
  have hby := Bd.bytes
  have hml : c.maxLocals = 3 := hml0
  have hown : s.vm.findClass kB = some m.cls := findClass_of_methodNamed Bd.named
  have X0 : Stand p l e ({ frames := 4, cells := 2, slots := 12, locals := 81 } : Room) s m #[(.ref o0)] below meth c s₁ [] 0 0 := Stand.of_body Bd
  have e0 : s₁.heap = h0 := by rw [← hh, Bd.state]; rfl
  have N0 := Fr.nil n0
  obtain ⟨T1, X1, e1, st1⟩ := own_gF X0 hx hZ hown (w_38 hw) e0 f0 (g := (mkF m 1 #[rv o0, .unset, .unset] [(.ref o0)])) rfl rfl (hb hby d4_1)
  obtain ⟨T2, X2, e2, st2⟩ := own_gF X1 hx hZ hown (w_31 hw) e1 f1 (g := (mkF m 5 #[rv o0, .unset, .unset] [(.ref o0), (.int 3)])) rfl rfl (hb hby d4_5)
  obtain ⟨T3, X3, e3, st3⟩ := own_gF X2 hx hZ hown (w_22 hw) e2 f2 (g := (mkF m 10 #[rv o0, .unset, .unset] [(.ref o0), (.int 4)])) rfl rfl (hb hby d4_10)
  obtain ⟨c4, r4, q4, S4, M4, H4, G4⟩ := id f3
  obtain ⟨T5, X5, e5, st5⟩ := own_gF X3 hx hZ hown (w_22 hw) e3 f2 (g := (mkF m 19 #[rv o0, .unset, .unset] [(.ref o0), (.int 2)])) rfl rfl (hb hby d4_19)
  obtain ⟨c6, r6, q6, S6, M6, H6, G6⟩ := id f3
  obtain ⟨T7, X7, e7, st7⟩ := own_gF X5 hx hZ hown (w_38 hw) e5 f0 (g := (mkF m 25 #[rv o0, .unset, .unset] [(.ref o0), (.int 6)])) rfl rfl (hb hby d4_25)
  obtain ⟨T8, X8, e8, st8⟩ := own_gF X7 hx hZ hown (w_31 hw) e7 f1 (g := (mkF m 29 #[rv o0, .unset, .unset] [(.ref o0), (.int 3), (.int 6)])) rfl rfl (hb hby d4_29)
  obtain ⟨_, T9, h9, Lc9, X9, e9a, hQ9, st9⟩ := own_cS X8 hx hZ hown (w_130 hw) (w_131 hw) (w_72 hw) (w_132 hw) (by decide) (rm20_0 l Z a0 hw []  h0 n0 OO) e8 (W := 0) (by decide) (by decide) (by decide : 0 + 0 ≤ _) (by decide : 0 + 0 ≤ _) (g := (mkF m 33 #[rv o0, .unset, .unset] [(.int 4), (.int 6)])) rfl (by rw [hml]; rfl) (argsL := [(.int 6), (.int 4)]) (rest := []) (lenOf pd_7 rfl) rfl rfl rfl (hb hby d4_33) rfl
  obtain ⟨rfl, N9q, z9⟩ := hQ9
  have e9 := e9a.trans z9
  have N9 := Fr.app N0 N9q
  obtain ⟨T10, X10, e10, st10⟩ := own_gF X9 hx hZ hown (w_22 hw) e9 f2 (g := (mkF m 39 #[rv o0, iv 6, .unset] [(.ref o0), (.ref o0)])) rfl rfl (hb hby d4_39)
  obtain ⟨_, T11, h11, Lc11, X11, e11, hQ11, st11⟩ := own_cS X10 hx hZ hown (w_67 hw) (w_68 hw) (w_42 hw) (w_69 hw) (by decide) (rm11_0 l Z a0 hw [] t0 t1 t2 o1 j0 h0 n0 OO f3) e10 (W := 1) (by decide) (by decide) (by decide : 0 + 1 ≤ _) (by decide : 0 + 6 ≤ _) (g := (mkF m 43 #[rv o0, iv 6, .unset] [(.int 6), (.ref o1), (.ref o0)])) rfl (by rw [hml]; rfl) (argsL := [(.ref o1), (.int 6)]) (rest := [(.ref o0)]) (lenOf pd_8 rfl) rfl rfl rfl (hb hby d4_43) rfl
  obtain ⟨o7, j6, rfl, N11q, K11, sp11_o7, R11_0⟩ := hQ11
  have N11 := Fr.app N9 N11q
  have g12 : n0 ≤ o7 := Nat.le_trans (own_le OO) sp11_o7
  have s13 : h0.size ≤ o7 := Nat.le_trans ((Keep.refl h0 [o0, o3, o4, o5, o6])).1 sp11_o7
  have O11 := Old.keep OO K11 all0
  have KK11 := Keep.trans (Keep.refl h0 [o0, o3, o4, o5, o6]) K11 all0
  have F14 := (Fld.keep f2 K11 nin0)
  have F15 := (Exa.keep f4 K11)
  obtain ⟨T16, h16, X16, e16, W16, st16⟩ := putF X11 hx hZ hown (host := "") (Or.inl (w_22 hw)) Via.refl e11 F14 F15 (Or.inl (w_23 hw)) (w_1 hw) (ty := (.array .int)) (by decide) rfl rfl (g := (mkF m 46 #[rv o0, iv 6, .unset] [(.ref o7), (.ref o0)])) rfl rfl (hb hby d4_46)
  have O16 := Old.wr O11 W16 u0
  have KK16 := Keep.wr KK11 W16 (Or.inl (own_m 0 rfl))
  have N16 := Fr.snoc X16 N11 u0
  have F17 : fB5 Z h16 o0 (.ref o7) := Fld.same W16 F14
  have F18 := (Fld.other W16 (Fld.keep f5 K11 nin0) (Or.inr (n_25_23 hw)))
  obtain ⟨T19, X19, e19, st19⟩ := own_gF X16 hx hZ hown (w_24 hw) e16 F18 (g := (mkF m 51 #[rv o0, iv 6, .unset] [(.ref o0), (.ref o0)])) rfl rfl (hb hby d4_51)
  have F21 := (Arv.other (Arv.keep f6 K11 nin0) W16 v0)
  obtain ⟨_, T20, h20, Lc20, X20, e20, hQ20, st20⟩ := own_cS X19 hx hZ hown (w_78 hw) (w_79 hw) (w_42 hw) (w_80 hw) (by decide) (rm13_0 l Z a0 hw [] t3 t4 t5 o2 j1 h16 n0 O16 F21) e19 (W := 1) (by decide) (by decide) (by decide : 1 + 1 ≤ _) (by decide : 6 + 6 ≤ _) (g := (mkF m 55 #[rv o0, iv 6, .unset] [(.int 6), (.ref o2), (.ref o0)])) rfl (by rw [hml]; rfl) (argsL := [(.ref o2), (.int 6)]) (rest := [(.ref o0)]) (lenOf pd_9 rfl) rfl rfl rfl (hb hby d4_55) rfl
  obtain ⟨o8, j7, rfl, N20q, K20, sp20_o8, R20_0⟩ := hQ20
  have N20 := Fr.app N16 N20q
  have g22 : n0 ≤ o8 := Nat.le_trans (own_le O16) sp20_o8
  have s23 : h0.size ≤ o8 := Nat.le_trans (KK16).1 sp20_o8
  have O20 := Old.keep O16 K20 all0
  have KK20 := Keep.trans KK16 K20 all0
  have F24 := (Fld.keep F18 K20 nin0)
  have F25 := (Exa.keep (Exa.wr W16 F15) K20)
  obtain ⟨T26, h26, X26, e26, W26, st26⟩ := putF X20 hx hZ hown (host := "") (Or.inl (w_24 hw)) Via.refl e20 F24 F25 (Or.inl (w_25 hw)) (w_1 hw) (ty := (.array .double)) (by decide) rfl rfl (g := (mkF m 58 #[rv o0, iv 6, .unset] [(.ref o8), (.ref o0)])) rfl rfl (hb hby d4_58)
  have O26 := Old.wr O20 W26 u0
  have KK26 := Keep.wr KK20 W26 (Or.inl (own_m 0 rfl))
  have N26 := Fr.snoc X26 N20 u0
  have F27 : fB6 Z h26 o0 (.ref o8) := Fld.same W26 F24
  have F28 := (Fld.other W26 (Fld.keep (Fld.other W16 (Fld.keep f7 K11 nin0) (Or.inr (n_19_23 hw))) K20 nin0) (Or.inr (n_19_25 hw)))
  obtain ⟨T29, X29, e29, st29⟩ := own_gF X26 hx hZ hown (w_18 hw) e26 F28 (g := (mkF m 62 #[rv o0, iv 6, .unset] [(.ref o0)])) rfl rfl (hb hby d4_62)
  have F30 := (Fld.other W26 (Fld.keep (Fld.other W16 (Fld.keep f1 K11 nin0) (Or.inr (n_32_23 hw))) K20 nin0) (Or.inr (n_32_25 hw)))
  obtain ⟨T31, X31, e31, st31⟩ := own_gF X29 hx hZ hown (w_31 hw) e29 F30 (g := (mkF m 67 #[rv o0, iv 6, .unset] [(.ref o0), (.int 0), (.ref o3)])) rfl rfl (hb hby d4_67)
  have F33 := (Arv.other (Arv.keep (Arv.other (Arv.keep f8 K11 nin0) W16 v1) K20 nin0) W26 v1)
  obtain ⟨_, T32, h32, Lc32, X32, e32, hQ32, st32⟩ := own_cS X31 hx hZ hown (w_40 hw) (w_41 hw) (w_42 hw) (w_43 hw) (by decide) (rm5_1 l Z a0 hw [] t6 t7 t8 (1 : Int32) (0 : Int32) o3 j2 h26 n0 O26 F33 (by decide) (by decide) (by decide) (by decide) (by decide) u1 (by decide)) e31 (W := 0) (by decide) (by decide) (by decide : 2 + 0 ≤ _) (by decide : 12 + 0 ≤ _) (g := (mkF m 70 #[rv o0, iv 6, .unset] [(.int 1), (.int 0), (.ref o3)])) rfl (by rw [hml]; rfl) (argsL := [(.ref o3), (.int 0), (.int 1)]) (rest := []) (lenOf pd_3 rfl) rfl rfl rfl (hb hby d4_70) rfl
  obtain ⟨rfl, N32q, K32, R32_0⟩ := hQ32
  have N32 := Fr.app N26 N32q
  have O32 := Old.keep O26 K32 (allS u1 all0)
  have KK32 := Keep.trans KK26 K32 (allS (Or.inl (own_m 1 rfl)) all0)
  have F34 := (Fld.keep F30 K32 (ninS (Ne.symm v1) nin0))
  obtain ⟨T35, X35, e35, st35⟩ := own_gF X32 hx hZ hown (w_31 hw) e32 F34 (g := (mkF m 77 #[rv o0, iv 0, .unset] [(.ref o0), (.int 0)])) rfl rfl (hb hby d4_77)
  have F36 := (Fld.keep F28 K32 (ninS (Ne.symm v1) nin0))
  obtain ⟨T37, X37, e37, st37⟩ := own_gF X35 hx hZ hown (w_18 hw) e35 F36 (g := (mkF m 84 #[rv o0, iv 0, .unset] [(.ref o0)])) rfl rfl (hb hby d4_84)
  obtain ⟨c38, r38, q38, S38, M38, H38, G38⟩ := id R32_0
  have i39 := inb_of (j := 0) S38 (by decide)
  have y40 : c38.slots[((0 : Int32)).toNatClampNeg]? = some (.int t6) := H38 0 (by rw [S38]; decide)
  have F41 := (Fld.keep (Fld.other W26 (Fld.keep F17 K20 nin0) (Or.inr (n_23_25 hw))) K32 (ninS (Ne.symm v1) nin0))
  obtain ⟨T42, X42, e42, st42⟩ := own_gF X37 hx hZ hown (w_22 hw) e37 F41 (g := (mkF m 91 #[rv o0, iv 0, iv t6] [(.ref o0)])) rfl rfl (hb hby d4_91)
  have F43 := (Fld.keep (Fld.other W26 (Fld.keep (Fld.other W16 (Fld.keep f0 K11 nin0) (Or.inr (n_39_23 hw))) K20 nin0) (Or.inr (n_39_25 hw))) K32 (ninS (Ne.symm v1) nin0))
  obtain ⟨T44, X44, e44, st44⟩ := own_gF X42 hx hZ hown (w_38 hw) e42 F43 (g := (mkF m 95 #[rv o0, iv 0, iv t6] [(.ref o0), (.ref o7)])) rfl rfl (hb hby d4_95)
  have ne47 : o0 ≠ o7 := Nat.ne_of_lt (Nat.lt_of_lt_of_le (f0).lt sp11_o7)
  have ne48 : o3 ≠ o7 := Nat.ne_of_lt (Nat.lt_of_lt_of_le (f8).lt sp11_o7)
  have F46 := (Arv.keep (Arv.other (Arv.keep (Arv.other R11_0 W16 (Ne.symm ne47)) K20 nin0) W26 (Ne.symm ne47)) K32 (ninS (Ne.symm ne48) nin0))
  obtain ⟨c45, r45, q45, S45, M45, H45, G45⟩ := id F46
  have i49 := inb_of (j := 3) S45 (by decide)
  obtain ⟨T50, h50, X50, e50, W50, st50⟩ := stI X44 hx hZ e44 r45 (j := (3 : Int32)) i49 (g := (mkF m 99 #[rv o0, iv 0, iv t6] [(.int t6), (.int 3), (.ref o7)])) rfl rfl (hb hby d4_99)
  have O50 := Old.wr O32 W50 g12
  have KK50 := Keep.wr KK32 W50 (Or.inr s13)
  have N50 := Fr.snoc X50 N32 g12
  have F51 : AI6 Z h50 o7 j6 t0 t1 t2 t6 0 0 := Arv.set r45 q45 S45 M45 H45 G45 rfl W50 3 rfl (Nat.le_of_ble_eq_true rfl)
  have F52 := (Fld.other W50 (Fld.keep F27 K32 (ninS (Ne.symm v1) nin0)) (Or.inl ne47))
  obtain ⟨T53, X53, e53, st53⟩ := own_gF X50 hx hZ hown (w_24 hw) e50 F52 (g := (mkF m 101 #[rv o0, iv 0, iv t6] [(.ref o0)])) rfl rfl (hb hby d4_101)
  have F54 := (Fld.other W50 F43 (Or.inl ne47))
  obtain ⟨T55, X55, e55, st55⟩ := own_gF X53 hx hZ hown (w_38 hw) e53 F54 (g := (mkF m 105 #[rv o0, iv 0, iv t6] [(.ref o0), (.ref o8)])) rfl rfl (hb hby d4_105)
  have F56 := (Fld.other W50 (Fld.keep (Fld.other W26 (Fld.keep (Fld.other W16 (Fld.keep f9 K11 nin0) (Or.inr (n_13_23 hw))) K20 nin0) (Or.inr (n_13_25 hw))) K32 (ninS (Ne.symm v1) nin0)) (Or.inl ne47))
  obtain ⟨T57, X57, e57, st57⟩ := own_gF X55 hx hZ hown (w_12 hw) e55 F56 (g := (mkF m 109 #[rv o0, iv 0, iv t6] [(.ref o0), (.int 3), (.ref o8)])) rfl rfl (hb hby d4_109)
  have ne60 : o4 ≠ o7 := Nat.ne_of_lt (Nat.lt_of_lt_of_le (f10).lt sp11_o7)
  have F59 := (Arv.other (Arv.keep (Arv.other (Arv.keep (Arv.other (Arv.keep f10 K11 nin0) W16 v2) K20 nin0) W26 v2) K32 (ninS v3 nin0)) W50 ne60)
  obtain ⟨c58, r58, q58, S58, M58, H58, G58⟩ := id F59
  have i61 := own_inb (j := t6) S58 d0
  have y62 := own_rdD S58 H58 d0
  have ne65 : o0 ≠ o8 := Nat.ne_of_lt (Nat.lt_of_lt_of_le ((Fld.other W16 (Fld.keep f0 K11 nin0) (Or.inr (n_39_23 hw)))).lt sp20_o8)
  have ne66 : o3 ≠ o8 := Nat.ne_of_lt (Nat.lt_of_lt_of_le ((Arv.other (Arv.keep f8 K11 nin0) W16 v1)).lt sp20_o8)
  have ne67 : o7 ≠ o8 := Nat.ne_of_lt (Nat.lt_of_lt_of_le ((Arv.other R11_0 W16 (Ne.symm ne47))).lt sp20_o8)
  have F64 := (Arv.other (Arv.keep (Arv.other R20_0 W26 (Ne.symm ne65)) K32 (ninS (Ne.symm ne66) nin0)) W50 (Ne.symm ne67))
  obtain ⟨c63, r63, q63, S63, M63, H63, G63⟩ := id F64
  have i68 := inb_of (j := 3) S63 (by decide)
  obtain ⟨T69, h69, X69, e69, W69, st69⟩ := stD X57 hx hZ e57 r63 (j := (3 : Int32)) i68 (g := (mkF m 114 #[rv o0, iv 0, iv t6] [(.double (FP.l2d (own_pk t6 t9 t10 t11))), (.int 3), (.ref o8)])) rfl rfl (hb hby d4_114)
  have O69 := Old.wr O50 W69 g22
  have KK69 := Keep.wr KK50 W69 (Or.inr s23)
  have N69 := Fr.snoc X69 N50 g22
  have F70 : AD6 Z h69 o8 j7 t3 t4 t5 (own_pk t6 t9 t10 t11) 0 0 := Arv.set r63 q63 S63 M63 H63 G63 rfl W69 3 rfl (Nat.le_of_ble_eq_true rfl)
  have F71 := (Fld.other W69 F54 (Or.inl ne65))
  obtain ⟨T72, X72, e72, st72⟩ := own_gF X69 hx hZ hown (w_38 hw) e69 F71 (g := (mkF m 117 #[rv o0, iv 0, iv t6] [(.ref o0), (.ref o0)])) rfl rfl (hb hby d4_117)
  have F73 := (Exa.wr W69 (Exa.wr W50 (Exa.keep (Exa.wr W26 F25) K32)))
  obtain ⟨T74, h74, X74, e74, W74, st74⟩ := putF X72 hx hZ hown (host := "") (Or.inl (w_38 hw)) Via.refl e72 F71 F73 (Or.inl (w_39 hw)) (w_1 hw) (ty := .int) (by decide) rfl rfl (g := (mkF m 122 #[rv o0, iv 0, iv t6] [(.int 4), (.ref o0)])) rfl rfl (hb hby d4_122)
  have O74 := Old.wr O69 W74 u0
  have KK74 := Keep.wr KK69 W74 (Or.inl (own_m 0 rfl))
  have N74 := Fr.snoc X74 N69 u0
  have F75 : fB8 Z h74 o0 (.int 4) := Fld.same W74 F71
  have F76 := (Fld.other W74 (Fld.other W69 F56 (Or.inl ne65)) (Or.inr (n_13_39 hw)))
  obtain ⟨T77, X77, e77, st77⟩ := own_gF X74 hx hZ hown (w_12 hw) e74 F76 (g := (mkF m 126 #[rv o0, iv 0, iv t6] [(.ref o0)])) rfl rfl (hb hby d4_126)
  have ne80 : o4 ≠ o8 := Nat.ne_of_lt (Nat.lt_of_lt_of_le ((Arv.other (Arv.keep f10 K11 nin0) W16 v2)).lt sp20_o8)
  have F79 := (Arv.other (Arv.other F59 W69 ne80) W74 v2)
  obtain ⟨c78, r78, q78, S78, M78, H78, G78⟩ := id F79
  have i81 := own_inb (j := t6) S78 d0
  obtain ⟨T82, h82, X82, e82, W82, st82⟩ := stD X77 hx hZ e77 r78 (j := t6) i81 (g := (mkF m 131 #[rv o0, iv 0, iv t6] [(.double (FP.l2d (0 : Int64))), (.int t6), (.ref o4)])) rfl rfl (hb hby d4_131)
  have O82 := Old.wr O74 W82 u2
  have KK82 := Keep.wr KK74 W82 (Or.inl (own_m 2 rfl))
  have N82 := Fr.snoc X82 N74 u2
  have F83 : AD3 Z h82 o4 j3 (own_up t6 0 (0 : Int64) t9) (own_up t6 1 (0 : Int64) t10) (own_up t6 2 (0 : Int64) t11) := own_setD r78 q78 S78 M78 H78 G78 W82 d0
  have F84 := (Fld.other W82 (Fld.other W74 (Fld.other W69 (Fld.other W50 (Fld.keep (Fld.other W26 (Fld.keep (Fld.other W16 (Fld.keep f11 K11 nin0) (Or.inr (n_16_23 hw))) K20 nin0) (Or.inr (n_16_25 hw))) K32 (ninS (Ne.symm v1) nin0)) (Or.inl ne47)) (Or.inl ne65)) (Or.inr (n_16_39 hw))) (Or.inl (Ne.symm v2)))
  obtain ⟨T85, X85, e85, st85⟩ := own_gF X82 hx hZ hown (w_15 hw) e82 F84 (g := (mkF m 133 #[rv o0, iv 0, iv t6] [(.ref o0)])) rfl rfl (hb hby d4_133)
  have ne88 : o5 ≠ o7 := Nat.ne_of_lt (Nat.lt_of_lt_of_le (f12).lt sp11_o7)
  have ne89 : o5 ≠ o8 := Nat.ne_of_lt (Nat.lt_of_lt_of_le ((Arv.other (Arv.keep f12 K11 nin0) W16 v4)).lt sp20_o8)
  have F87 := (Arv.other (Arv.other (Arv.other (Arv.other (Arv.keep (Arv.other (Arv.keep (Arv.other (Arv.keep f12 K11 nin0) W16 v4) K20 nin0) W26 v4) K32 (ninS v5 nin0)) W50 ne88) W69 ne89) W74 v4) W82 v6)
  obtain ⟨c86, r86, q86, S86, M86, H86, G86⟩ := id F87
  have i90 := own_inb (j := t6) S86 d0
  obtain ⟨T91, h91, X91, e91, W91, st91⟩ := stZ X85 hx hZ e85 r86 (j := t6) i90 (g := (mkF m 138 #[rv o0, iv 0, iv t6] [(.int 0), (.int t6), (.ref o5)])) rfl rfl (hb hby d4_138)
  have O91 := Old.wr O82 W91 u3
  have KK91 := Keep.wr KK82 W91 (Or.inl (own_m 3 rfl))
  have N91 := Fr.snoc X91 N82 u3
  have F92 : AZ3 Z h91 o5 j4 (own_ui t6 0 0 t12) (own_ui t6 1 0 t13) (own_ui t6 2 0 t14) := own_setI r86 q86 S86 M86 H86 G86 (by decide) W91 d0
  have F93 := (Fld.other W91 (Fld.other W82 (Fld.other W74 (Fld.other W69 (Fld.other W50 F34 (Or.inl ne47)) (Or.inl ne65)) (Or.inr (n_32_39 hw))) (Or.inl (Ne.symm v2))) (Or.inl (Ne.symm v4)))
  obtain ⟨T94, X94, e94, st94⟩ := own_gF X91 hx hZ hown (w_31 hw) e91 F93 (g := (mkF m 77 #[rv o0, iv 1, iv t6] [(.ref o0), (.int 1)])) rfl rfl (hb hby d4_77)
  have F95 := (Exa.wr W91 (Exa.wr W82 (Exa.wr W74 F73)))
  obtain ⟨T96, h96, X96, e96, W96, st96⟩ := putF X94 hx hZ hown (host := "") (Or.inl (w_31 hw)) Via.refl e94 F93 F95 (Or.inl (w_32 hw)) (w_1 hw) (ty := .int) (by decide) rfl rfl (g := (mkF m 147 #[rv o0, iv 1, iv t6] [(.int 0), (.ref o0)])) rfl rfl (hb hby d4_147)
  have O96 := Old.wr O91 W96 u0
  have KK96 := Keep.wr KK91 W96 (Or.inl (own_m 0 rfl))
  have N96 := Fr.snoc X96 N91 u0
  have F97 : fB7 Z h96 o0 (.int 0) := Fld.same W96 F93
  have F98 := (Fld.other W96 (Fld.other W91 (Fld.other W82 (Fld.other W74 (Fld.other W69 (Fld.other W50 (Fld.keep (Fld.other W26 (Fld.keep (Fld.other W16 (Fld.keep f13 K11 nin0) (Or.inr (n_58_23 hw))) K20 nin0) (Or.inr (n_58_25 hw))) K32 (ninS (Ne.symm v1) nin0)) (Or.inl ne47)) (Or.inl ne65)) (Or.inr (n_58_39 hw))) (Or.inl (Ne.symm v2))) (Or.inl (Ne.symm v4))) (Or.inr (n_58_32 hw)))
  obtain ⟨T99, X99, e99, st99⟩ := own_gF X96 hx hZ hown (w_57 hw) e96 F98 (g := (mkF m 152 #[rv o0, iv 1, iv t6] [(.ref o0), (.ref o0)])) rfl rfl (hb hby d4_152)
  have F100 := (Exa.wr W96 F95)
  obtain ⟨T101, h101, X101, e101, W101, st101⟩ := putF X99 hx hZ hown (host := "") (Or.inl (w_57 hw)) Via.refl e99 F98 F100 (Or.inl (w_58 hw)) (w_1 hw) (ty := .int) (by decide) rfl rfl (g := (mkF m 157 #[rv o0, iv 1, iv t6] [(.int 2), (.ref o0)])) rfl rfl (hb hby d4_157)
  have O101 := Old.wr O96 W101 u0
  have KK101 := Keep.wr KK96 W101 (Or.inl (own_m 0 rfl))
  have N101 := Fr.snoc X101 N96 u0
  have F102 : fB9 Z h101 o0 (.int 2) := Fld.same W101 F98
  have F103 := (Fld.other W101 (Fld.other W96 (Fld.other W91 (Fld.other W82 (Fld.other W74 (Fld.other W69 (Fld.other W50 (Fld.keep (Fld.other W26 (Fld.keep (Fld.other W16 (Fld.keep f14 K11 nin0) (Or.inr (n_21_23 hw))) K20 nin0) (Or.inr (n_21_25 hw))) K32 (ninS (Ne.symm v1) nin0)) (Or.inl ne47)) (Or.inl ne65)) (Or.inr (n_21_39 hw))) (Or.inl (Ne.symm v2))) (Or.inl (Ne.symm v4))) (Or.inr (n_21_32 hw))) (Or.inr (n_21_58 hw)))
  obtain ⟨T104, X104, e104, st104⟩ := own_gF X101 hx hZ hown (w_20 hw) e101 F103 (g := (mkF m 161 #[rv o0, iv 1, iv t6] [(.ref o0)])) rfl rfl (hb hby d4_161)
  obtain ⟨T105, X105, e105, st105⟩ := own_gF X104 hx hZ hown (w_57 hw) e104 F102 (g := (mkF m 165 #[rv o0, iv 1, iv t6] [(.ref o0), (.ref o6)])) rfl rfl (hb hby d4_165)
  have F106 := (Fld.other W101 (Fld.other W96 (Fld.other W91 (Fld.other W82 F75 (Or.inl (Ne.symm v2))) (Or.inl (Ne.symm v4))) (Or.inr (n_39_32 hw))) (Or.inr (n_39_58 hw)))
  obtain ⟨T107, X107, e107, st107⟩ := own_gF X105 hx hZ hown (w_38 hw) e105 F106 (g := (mkF m 169 #[rv o0, iv 1, iv t6] [(.ref o0), (.int 2), (.ref o6)])) rfl rfl (hb hby d4_169)
  have ne110 : o6 ≠ o7 := Nat.ne_of_lt (Nat.lt_of_lt_of_le (f15).lt sp11_o7)
  have ne111 : o6 ≠ o8 := Nat.ne_of_lt (Nat.lt_of_lt_of_le ((Arv.other (Arv.keep f15 K11 nin0) W16 v7)).lt sp20_o8)
  have F109 := (Arv.other (Arv.other (Arv.other (Arv.other (Arv.other (Arv.other (Arv.other (Arv.keep (Arv.other (Arv.keep (Arv.other (Arv.keep f15 K11 nin0) W16 v7) K20 nin0) W26 v7) K32 (ninS v8 nin0)) W50 ne110) W69 ne111) W74 v7) W82 v9) W91 v10) W96 v7) W101 v7)
  obtain ⟨c108, r108, q108, S108, M108, H108, G108⟩ := id F109
  have i112 := inb_of (j := 2) S108 (by decide)
  obtain ⟨T113, h113, X113, e113, W113, st113⟩ := stI X107 hx hZ e107 r108 (j := (2 : Int32)) i112 (g := (mkF m 172 #[rv o0, iv 1, iv t6] [(.int 4), (.int 2), (.ref o6)])) rfl rfl (hb hby d4_172)
  have O113 := Old.wr O101 W113 u4
  have KK113 := Keep.wr KK101 W113 (Or.inl (own_m 4 rfl))
  have N113 := Fr.snoc X113 N101 u4
  have F114 : AI4 Z h113 o6 j5 t15 t16 4 t18 := Arv.set r108 q108 S108 M108 H108 G108 rfl W113 2 rfl (Nat.le_of_ble_eq_true rfl)
  have F115 := (Arv.other (Arv.other (Arv.other (Arv.other (Arv.other (Arv.other (Arv.other F51 W69 ne67) W74 (Ne.symm ne47)) W82 (Ne.symm ne60)) W91 (Ne.symm ne88)) W96 (Ne.symm ne47)) W101 (Ne.symm ne47)) W113 (Ne.symm ne110))
  have F116 := (Arv.other (Arv.other (Arv.other (Arv.other (Arv.other (Arv.other F70 W74 (Ne.symm ne65)) W82 (Ne.symm ne80)) W91 (Ne.symm ne89)) W96 (Ne.symm ne65)) W101 (Ne.symm ne65)) W113 (Ne.symm ne111))
  have F117 := (Fld.other W113 F106 (Or.inl (Ne.symm v7)))
  have F118 := (Fld.other W113 (Fld.other W101 F97 (Or.inr (n_32_58 hw))) (Or.inl (Ne.symm v7)))
  have F119 := (Fld.other W113 (Fld.other W101 (Fld.other W96 (Fld.other W91 (Fld.other W82 (Fld.other W74 (Fld.other W69 (Fld.other W50 F41 (Or.inl ne47)) (Or.inl ne65)) (Or.inr (n_23_39 hw))) (Or.inl (Ne.symm v2))) (Or.inl (Ne.symm v4))) (Or.inr (n_23_32 hw))) (Or.inr (n_23_58 hw))) (Or.inl (Ne.symm v7)))
  have F120 := (Exa.wr W113 (Exa.wr W101 F100))
  have F121 := (Fld.other W113 (Fld.other W101 (Fld.other W96 (Fld.other W91 (Fld.other W82 (Fld.other W74 (Fld.other W69 F52 (Or.inl ne65)) (Or.inr (n_25_39 hw))) (Or.inl (Ne.symm v2))) (Or.inl (Ne.symm v4))) (Or.inr (n_25_32 hw))) (Or.inr (n_25_58 hw))) (Or.inl (Ne.symm v7)))
  have F122 := (Fld.other W113 (Fld.other W101 (Fld.other W96 (Fld.other W91 (Fld.other W82 (Fld.other W74 (Fld.other W69 (Fld.other W50 F36 (Or.inl ne47)) (Or.inl ne65)) (Or.inr (n_19_39 hw))) (Or.inl (Ne.symm v2))) (Or.inl (Ne.symm v4))) (Or.inr (n_19_32 hw))) (Or.inr (n_19_58 hw))) (Or.inl (Ne.symm v7)))
  have F123 := (Fld.other W113 (Fld.other W101 (Fld.other W96 (Fld.other W91 (Fld.other W82 F76 (Or.inl (Ne.symm v2))) (Or.inl (Ne.symm v4))) (Or.inr (n_13_32 hw))) (Or.inr (n_13_58 hw))) (Or.inl (Ne.symm v7)))
  have F124 := (Fld.other W113 (Fld.other W101 (Fld.other W96 (Fld.other W91 F84 (Or.inl (Ne.symm v4))) (Or.inr (n_16_32 hw))) (Or.inr (n_16_58 hw))) (Or.inl (Ne.symm v7)))
  have F125 := (Fld.other W113 F102 (Or.inl (Ne.symm v7)))
  have F126 := (Fld.other W113 F103 (Or.inl (Ne.symm v7)))
  have F127 := (Fld.other W113 (Fld.other W101 (Fld.other W96 (Fld.other W91 (Fld.other W82 (Fld.other W74 (Fld.other W69 (Fld.other W50 (Fld.keep (Fld.other W26 (Fld.keep (Fld.other W16 (Fld.keep f16 K11 nin0) (Or.inr (n_10_23 hw))) K20 nin0) (Or.inr (n_10_25 hw))) K32 (ninS (Ne.symm v1) nin0)) (Or.inl ne47)) (Or.inl ne65)) (Or.inr (n_10_39 hw))) (Or.inl (Ne.symm v2))) (Or.inl (Ne.symm v4))) (Or.inr (n_10_32 hw))) (Or.inr (n_10_58 hw))) (Or.inl (Ne.symm v7)))
  have F128 := (Arv.other (Arv.other (Arv.other (Arv.other (Arv.other (Arv.other (Arv.other (Arv.other R32_0 W50 ne48) W69 ne66) W74 v1) W82 (Ne.symm v3)) W91 (Ne.symm v5)) W96 v1) W101 v1) W113 (Ne.symm v8))
  have F129 := (Arv.other (Arv.other (Arv.other (Arv.other F83 W91 (Ne.symm v6)) W96 v2) W101 v2) W113 (Ne.symm v9))
  have F130 := (Arv.other (Arv.other (Arv.other F92 W96 v4) W101 v4) W113 (Ne.symm v10))
  obtain ⟨fs, hr, hrun, hended, hW, hsame⟩ := X113.leave (v := none) (fun _ => rfl)
  refine ⟨_, _, (castTop (ef_4 m o0) ?_), hrun, hended, _, _, rfl, ?_, ⟨_, rfl⟩, hW, hsame.mono (by decide) (by decide)⟩
  · show Steps p.tables e below (s₁.setTop (mkF m 0 #[rv o0, .unset, .unset] [])) _
    refine oA X0 hx hby d4_0 rfl rfl rfl ?_
    refine st1 _ ?_
    refine oA X1 hx hby d4_4 rfl rfl rfl ?_
    refine st2 _ ?_
    refine XS.iadd X2.here hx rfl (hb hby d4_8) rfl ?_
    show Steps p.tables e below (T2.setTop (mkF m 9 #[rv o0, .unset, .unset] [(.int ((3 : Int32) + (1 : Int32)))])) _
    rw [(by decide : ((3 : Int32) + (1 : Int32)) = (4 : Int32))]
    refine oA X2 hx hby d4_9 rfl rfl rfl ?_
    refine st3 _ ?_
    refine X3.arraylength hx (by rw [e3]; exact r4.1) (State.isArrayOf_alike hZ.alike r4.2.1) (g := (mkF m 13 #[rv o0, .unset, .unset] [(.ref o1), (.int 4)])) rfl rfl (hb hby d4_13) _ ?_
    rw [len_of S4 M4]
    refine XS.icmpNo X3.here hx rfl (hb hby d4_14) rfl (by decide) ?_
    refine oK X3 hx hby d4_17 rfl ?_
    refine oA X3 hx hby d4_18 rfl rfl rfl ?_
    refine st5 _ ?_
    refine X5.arraylength hx (by rw [e5]; exact r6.1) (State.isArrayOf_alike hZ.alike r6.2.1) (g := (mkF m 22 #[rv o0, .unset, .unset] [(.ref o1), (.int 2)])) rfl rfl (hb hby d4_22) _ ?_
    rw [len_of S6 M6]
    refine XS.imul X5.here hx rfl (hb hby d4_23) rfl ?_
    show Steps p.tables e below (T5.setTop (mkF m 24 #[rv o0, .unset, .unset] [(.int ((2 : Int32) * (3 : Int32)))])) _
    rw [(by decide : ((2 : Int32) * (3 : Int32)) = (6 : Int32))]
    refine oA X5 hx hby d4_24 rfl rfl rfl ?_
    refine st7 _ ?_
    refine oA X7 hx hby d4_28 rfl rfl rfl ?_
    refine st8 _ ?_
    refine XS.iadd X8.here hx rfl (hb hby d4_32) rfl ?_
    show Steps p.tables e below (T8.setTop (mkF m 33 #[rv o0, .unset, .unset] [(.int ((3 : Int32) + (1 : Int32))), (.int 6)])) _
    rw [(by decide : ((3 : Int32) + (1 : Int32)) = (4 : Int32))]
    refine st9 _ ?_
    refine XS.istoreN X9.here hx rfl (hb hby d4_36) rfl (l' := #[rv o0, iv 6, .unset]) rfl ?_
    refine oA X9 hx hby d4_37 rfl rfl rfl ?_
    refine oA X9 hx hby d4_38 rfl rfl rfl ?_
    refine st10 _ ?_
    refine oI X10 hx hby d4_42 rfl rfl ?_
    refine st11 _ ?_
    refine st16 _ ?_
    refine oA X16 hx hby d4_49 rfl rfl rfl ?_
    refine oA X16 hx hby d4_50 rfl rfl rfl ?_
    refine st19 _ ?_
    refine oI X19 hx hby d4_54 rfl rfl ?_
    refine st20 _ ?_
    refine st26 _ ?_
    refine oA X26 hx hby d4_61 rfl rfl rfl ?_
    refine st29 _ ?_
    refine oK X29 hx hby d4_65 rfl ?_
    refine oA X29 hx hby d4_66 rfl rfl rfl ?_
    refine st31 _ ?_
    refine st32 _ ?_
    refine oK X32 hx hby d4_73 rfl ?_
    refine XS.istoreN X32.here hx rfl (hb hby d4_74) rfl (l' := #[rv o0, iv 0, .unset]) rfl ?_
    refine oI X32 hx hby d4_75 rfl rfl ?_
    show Steps p.tables e below (T32.setTop (mkF m 76 #[rv o0, iv 0, .unset] [(.int 0)])) _
    refine oA X32 hx hby d4_76 rfl rfl rfl ?_
    refine st35 _ ?_
    refine XS.icmpNo X35.here hx rfl (hb hby d4_80) rfl (by decide) ?_
    refine oA X35 hx hby d4_83 rfl rfl rfl ?_
    refine st37 _ ?_
    refine oI X37 hx hby d4_87 rfl rfl ?_
    refine oL X37 hx hZ e37 r38 i39 y40 (by exact hb hby d4_88) rfl rfl ?_
    refine XS.istoreN X37.here hx rfl (hb hby d4_89) rfl (l' := #[rv o0, iv 0, iv t6]) rfl ?_
    refine oA X37 hx hby d4_90 rfl rfl rfl ?_
    refine st42 _ ?_
    refine oA X42 hx hby d4_94 rfl rfl rfl ?_
    refine st44 _ ?_
    refine oI X44 hx hby d4_98 rfl rfl ?_
    refine st50 _ ?_
    refine oA X50 hx hby d4_100 rfl rfl rfl ?_
    refine st53 _ ?_
    refine oA X53 hx hby d4_104 rfl rfl rfl ?_
    refine st55 _ ?_
    refine oA X55 hx hby d4_108 rfl rfl rfl ?_
    refine st57 _ ?_
    refine oI X57 hx hby d4_112 rfl rfl ?_
    refine oD X57 hx hZ e57 r58 i61 y62 (by exact hb hby d4_113) rfl rfl ?_
    refine st69 _ ?_
    refine oA X69 hx hby d4_115 rfl rfl rfl ?_
    show Steps p.tables e below (T69.setTop (mkF m 116 #[rv o0, iv 0, iv t6] [(.ref o0)])) _
    refine XS.dup X69.here hx rfl (hb hby d4_116) rfl rfl ?_
    refine st72 _ ?_
    refine oK X72 hx hby d4_120 rfl ?_
    refine XS.iadd X72.here hx rfl (hb hby d4_121) rfl ?_
    show Steps p.tables e below (T72.setTop (mkF m 122 #[rv o0, iv 0, iv t6] [(.int ((3 : Int32) + (1 : Int32))), (.ref o0)])) _
    rw [(by decide : ((3 : Int32) + (1 : Int32)) = (4 : Int32))]
    refine st74 _ ?_
    refine oA X74 hx hby d4_125 rfl rfl rfl ?_
    refine st77 _ ?_
    refine oI X77 hx hby d4_129 rfl rfl ?_
    refine XS.dconst0 X77.here hx rfl (hb hby d4_130) (v := FP.l2d (0 : Int64)) own_dz ?_
    refine st82 _ ?_
    refine oA X82 hx hby d4_132 rfl rfl rfl ?_
    refine st85 _ ?_
    refine oI X85 hx hby d4_136 rfl rfl ?_
    refine oK X85 hx hby d4_137 rfl ?_
    refine st91 _ ?_
    refine XS.iinc X91.here hx rfl (hb hby d4_139) rfl (l' := #[rv o0, iv ((0 : Int32) + (1 : Int32)), iv t6]) rfl ?_
    show Steps p.tables e below (T91.setTop (mkF m 142 #[rv o0, iv 1, iv t6] [])) _
    refine XS.goto X91.here hx rfl (pc0 := 142) (pc' := 75) rfl (hb hby d4_142) (by decide) (by decide) ?_
    refine oI X91 hx hby d4_75 rfl rfl ?_
    refine oA X91 hx hby d4_76 rfl rfl rfl ?_
    refine st94 _ ?_
    refine XS.icmpYes X94.here hx rfl (pc0 := 80) (pc' := 145) rfl (hb hby d4_80) rfl (by decide) (by decide) (by decide) ?_
    refine oA X94 hx hby d4_145 rfl rfl rfl ?_
    refine oK X94 hx hby d4_146 rfl ?_
    refine st96 _ ?_
    refine oA X96 hx hby d4_150 rfl rfl rfl ?_
    refine XS.dup X96.here hx rfl (hb hby d4_151) rfl rfl ?_
    refine st99 _ ?_
    refine oK X99 hx hby d4_155 rfl ?_
    refine XS.iadd X99.here hx rfl (hb hby d4_156) rfl ?_
    show Steps p.tables e below (T99.setTop (mkF m 157 #[rv o0, iv 1, iv t6] [(.int ((1 : Int32) + (1 : Int32))), (.ref o0)])) _
    rw [(by decide : ((1 : Int32) + (1 : Int32)) = (2 : Int32))]
    refine st101 _ ?_
    refine oA X101 hx hby d4_160 rfl rfl rfl ?_
    refine st104 _ ?_
    refine oA X104 hx hby d4_164 rfl rfl rfl ?_
    refine st105 _ ?_
    refine oA X105 hx hby d4_168 rfl rfl rfl ?_
    refine st107 _ ?_
    refine st113 _ ?_
    exact X113.returnOut hx Bd.returns (hb hby d4_173) hr
  · show Q4_1 Z t0 t1 t2 t3 t4 t5 t6 t7 t8 t9 t10 t11 t12 t13 t14 t15 t16 t17 t18 t19 o0 o1 o2 o3 o4 o5 o6 j0 j1 j2 j3 j4 j5 h0 n0 _ T113.heap _
    rw [e113]
    exact ⟨o7, o8, j6, j7, rfl, N113, KK113, s13, s23, ne67, F115, F116, F117, F118, F119, F120, F121, F122, F123, F124, F125, F126, F127, F128, F129, F130, F114⟩
def Q4_2 (Z : State) (t0 t1 t2 t3 t4 t5 t6 t7 t8 t9 t10 t11 t12 t13 t14 : Int32) (o0 o1 o2 o3 o4 o5 o6 : Addr) (j0 j1 j2 : ClassId) (h0 : Heap) (n0 : Nat) (v : Option Value) (h : Heap) (L : List Loc) : Prop := v = none ∧ Fr n0 L ∧ Keep h0 h [o2, o0, o3] ∧ AI3 Z h o2 j1 t7 t8 t9 ∧ fB8 Z h o0 (.int t0) ∧ fB7 Z h o0 (.int 0) ∧ fB5 Z h o0 (.ref o1) ∧ fB3 Z h o0 (.ref o2) ∧ Exa Z h o0 kB ∧ fB9 Z h o0 (.int 3) ∧ fB4 Z h o0 (.ref o3) ∧ fB2 Z h o0 (.ref o4) ∧ fB1 Z h o0 (.ref o5) ∧ fB0 Z h o0 (.int t14) ∧ fB6 Z h o0 (.ref o6) ∧ AI4 Z h o3 j2 t10 t11 t12 t0
theorem rm4_2 (l : Launch) (Z : State) (a0 : Array Value) (hw : HW a0 Z) (ws : List Jvm.Cond) (t0 t1 t2 t3 t4 t5 t6 t7 t8 t9 t10 t11 t12 t13 t14 : Int32) (o0 o1 o2 o3 o4 o5 o6 : Addr) (j0 j1 j2 : ClassId) (h0 : Heap) (n0 : Nat) (OO : Old Z n0 h0) (f0 : fB8 Z h0 o0 (.int t0)) (f1 : fB7 Z h0 o0 (.int 0)) (f2 : fB5 Z h0 o0 (.ref o1)) (f3 : AI6 Z h0 o1 j0 t1 t2 t3 t4 t5 t6) (d0 : ¬ ((6 : Int32) < (t0 + (0 : Int32)))) (f4 : fB3 Z h0 o0 (.ref o2)) (f5 : AI3 Z h0 o2 j1 t7 t8 t9) (u0 : n0 ≤ o2) (v0 : o0 ≠ o2) (f6 : Exa Z h0 o0 kB) (u1 : n0 ≤ o0) (f7 : fB9 Z h0 o0 (.int 2)) (f8 : fB4 Z h0 o0 (.ref o3)) (f9 : AI4 Z h0 o3 j2 t10 t11 t12 t13) (v1 : o3 ≠ o2) (v2 : o3 ≠ o0) (u2 : n0 ≤ o3) (f10 : fB2 Z h0 o0 (.ref o4)) (f11 : fB1 Z h0 o0 (.ref o5)) (f12 : fB0 Z h0 o0 (.int t14)) (f13 : fB6 Z h0 o0 (.ref o6)) :
    own_MF l Z h0 (⟨kB, "endRow", "()V"⟩ : MethodName) ws prog_58_method_3_code 3 none ({ frames := 4, cells := 0, slots := 0, locals := 81 } : Room) #[(.ref o0)] (Q4_2 Z t0 t1 t2 t3 t4 t5 t6 t7 t8 t9 t10 t11 t12 t13 t14 o0 o1 o2 o3 o4 o5 o6 j0 j1 j2 h0 n0) := by
  refine MetFree.of_bodySF (plainFor_of_name pn_4) hisR ?_
  intro p e s m args below meth c s₁ Bd hml0 hP hK
  obtain ⟨rfl, hZ, hh⟩ := hP
  have hx := Bd.exec
  have hby := Bd.bytes
  have hml : c.maxLocals = 3 := hml0
  have hown : s.vm.findClass kB = some m.cls := findClass_of_methodNamed Bd.named
  have X0 : Stand p l e ({ frames := 4, cells := 0, slots := 0, locals := 81 } : Room) s m #[(.ref o0)] below meth c s₁ [] 0 0 := Stand.of_body Bd
  have e0 : s₁.heap = h0 := by rw [← hh, Bd.state]; rfl
  have N0 := Fr.nil n0
  obtain ⟨T1, X1, e1, st1⟩ := own_gF X0 hx hZ hown (w_38 hw) e0 f0 (g := (mkF m 1 #[rv o0, .unset, .unset] [(.ref o0)])) rfl rfl (hb hby d4_1)
  obtain ⟨T2, X2, e2, st2⟩ := own_gF X1 hx hZ hown (w_31 hw) e1 f1 (g := (mkF m 5 #[rv o0, .unset, .unset] [(.ref o0), (.int t0)])) rfl rfl (hb hby d4_5)
  obtain ⟨T3, X3, e3, st3⟩ := own_gF X2 hx hZ hown (w_22 hw) e2 f2 (g := (mkF m 10 #[rv o0, .unset, .unset] [(.ref o0), (.int (t0 + (0 : Int32)))])) rfl rfl (hb hby d4_10)
  obtain ⟨c4, r4, q4, S4, M4, H4, G4⟩ := id f3
  obtain ⟨T5, X5, e5, st5⟩ := own_gF X3 hx hZ hown (w_18 hw) e3 f4 (g := (mkF m 62 #[rv o0, .unset, .unset] [(.ref o0)])) rfl rfl (hb hby d4_62)
  obtain ⟨T6, X6, e6, st6⟩ := own_gF X5 hx hZ hown (w_31 hw) e5 f1 (g := (mkF m 67 #[rv o0, .unset, .unset] [(.ref o0), (.int 0), (.ref o2)])) rfl rfl (hb hby d4_67)
  obtain ⟨_, T7, h7, Lc7, X7, e7, hQ7, st7⟩ := own_cS X6 hx hZ hown (w_40 hw) (w_41 hw) (w_42 hw) (w_43 hw) (by decide) (rm5_1 l Z a0 hw [] t7 t8 t9 (0 : Int32) (0 : Int32) o2 j1 h0 n0 OO f5 (by decide) (by decide) (by decide) (by decide) (by decide) u0 (by decide)) e6 (W := 0) (by decide) (by decide) (by decide : 0 + 0 ≤ _) (by decide : 0 + 0 ≤ _) (g := (mkF m 70 #[rv o0, .unset, .unset] [(.int 0), (.int 0), (.ref o2)])) rfl (by rw [hml]; rfl) (argsL := [(.ref o2), (.int 0), (.int 0)]) (rest := []) (lenOf pd_3 rfl) rfl rfl rfl (hb hby d4_70) rfl
  obtain ⟨rfl, N7q, K7, R7_0⟩ := hQ7
  have N7 := Fr.app N0 N7q
  have O7 := Old.keep OO K7 (allS u0 all0)
  have KK7 := Keep.trans (Keep.refl h0 [o2, o0, o3]) K7 (allS (Or.inl (own_m 0 rfl)) all0)
  have F8 := (Fld.keep f1 K7 (ninS v0 nin0))
  obtain ⟨T9, X9, e9, st9⟩ := own_gF X7 hx hZ hown (w_31 hw) e7 F8 (g := (mkF m 77 #[rv o0, iv 0, .unset] [(.ref o0), (.int 0)])) rfl rfl (hb hby d4_77)
  have F10 := (Exa.keep f6 K7)
  obtain ⟨T11, h11, X11, e11, W11, st11⟩ := putF X9 hx hZ hown (host := "") (Or.inl (w_31 hw)) Via.refl e9 F8 F10 (Or.inl (w_32 hw)) (w_1 hw) (ty := .int) (by decide) rfl rfl (g := (mkF m 147 #[rv o0, iv 0, .unset] [(.int 0), (.ref o0)])) rfl rfl (hb hby d4_147)
  have O11 := Old.wr O7 W11 u1
  have KK11 := Keep.wr KK7 W11 (Or.inl (own_m 1 rfl))
  have N11 := Fr.snoc X11 N7 u1
  have F12 : fB7 Z h11 o0 (.int 0) := Fld.same W11 F8
  have F13 := (Fld.other W11 (Fld.keep f7 K7 (ninS v0 nin0)) (Or.inr (n_58_32 hw)))
  obtain ⟨T14, X14, e14, st14⟩ := own_gF X11 hx hZ hown (w_57 hw) e11 F13 (g := (mkF m 152 #[rv o0, iv 0, .unset] [(.ref o0), (.ref o0)])) rfl rfl (hb hby d4_152)
  have F15 := (Exa.wr W11 F10)
  obtain ⟨T16, h16, X16, e16, W16, st16⟩ := putF X14 hx hZ hown (host := "") (Or.inl (w_57 hw)) Via.refl e14 F13 F15 (Or.inl (w_58 hw)) (w_1 hw) (ty := .int) (by decide) rfl rfl (g := (mkF m 157 #[rv o0, iv 0, .unset] [(.int 3), (.ref o0)])) rfl rfl (hb hby d4_157)
  have O16 := Old.wr O11 W16 u1
  have KK16 := Keep.wr KK11 W16 (Or.inl (own_m 1 rfl))
  have N16 := Fr.snoc X16 N11 u1
  have F17 : fB9 Z h16 o0 (.int 3) := Fld.same W16 F13
  have F18 := (Fld.other W16 (Fld.other W11 (Fld.keep f8 K7 (ninS v0 nin0)) (Or.inr (n_21_32 hw))) (Or.inr (n_21_58 hw)))
  obtain ⟨T19, X19, e19, st19⟩ := own_gF X16 hx hZ hown (w_20 hw) e16 F18 (g := (mkF m 161 #[rv o0, iv 0, .unset] [(.ref o0)])) rfl rfl (hb hby d4_161)
  obtain ⟨T20, X20, e20, st20⟩ := own_gF X19 hx hZ hown (w_57 hw) e19 F17 (g := (mkF m 165 #[rv o0, iv 0, .unset] [(.ref o0), (.ref o3)])) rfl rfl (hb hby d4_165)
  have F21 := (Fld.other W16 (Fld.other W11 (Fld.keep f0 K7 (ninS v0 nin0)) (Or.inr (n_39_32 hw))) (Or.inr (n_39_58 hw)))
  obtain ⟨T22, X22, e22, st22⟩ := own_gF X20 hx hZ hown (w_38 hw) e20 F21 (g := (mkF m 169 #[rv o0, iv 0, .unset] [(.ref o0), (.int 3), (.ref o3)])) rfl rfl (hb hby d4_169)
  have F24 := (Arv.other (Arv.other (Arv.keep f9 K7 (ninS v1 nin0)) W11 v2) W16 v2)
  obtain ⟨c23, r23, q23, S23, M23, H23, G23⟩ := id F24
  have i25 := inb_of (j := 3) S23 (by decide)
  obtain ⟨T26, h26, X26, e26, W26, st26⟩ := stI X22 hx hZ e22 r23 (j := (3 : Int32)) i25 (g := (mkF m 172 #[rv o0, iv 0, .unset] [(.int t0), (.int 3), (.ref o3)])) rfl rfl (hb hby d4_172)
  have O26 := Old.wr O16 W26 u2
  have KK26 := Keep.wr KK16 W26 (Or.inl (own_m 2 rfl))
  have N26 := Fr.snoc X26 N16 u2
  have F27 : AI4 Z h26 o3 j2 t10 t11 t12 t0 := Arv.set r23 q23 S23 M23 H23 G23 rfl W26 3 rfl (Nat.le_of_ble_eq_true rfl)
  have F28 := (Arv.other (Arv.other (Arv.other R7_0 W11 (Ne.symm v0)) W16 (Ne.symm v0)) W26 (Ne.symm v1))
  have F29 := (Fld.other W26 F21 (Or.inl (Ne.symm v2)))
  have F30 := (Fld.other W26 (Fld.other W16 F12 (Or.inr (n_32_58 hw))) (Or.inl (Ne.symm v2)))
  have F31 := (Fld.other W26 (Fld.other W16 (Fld.other W11 (Fld.keep f2 K7 (ninS v0 nin0)) (Or.inr (n_23_32 hw))) (Or.inr (n_23_58 hw))) (Or.inl (Ne.symm v2)))
  have F32 := (Fld.other W26 (Fld.other W16 (Fld.other W11 (Fld.keep f4 K7 (ninS v0 nin0)) (Or.inr (n_19_32 hw))) (Or.inr (n_19_58 hw))) (Or.inl (Ne.symm v2)))
  have F33 := (Exa.wr W26 (Exa.wr W16 F15))
  have F34 := (Fld.other W26 F17 (Or.inl (Ne.symm v2)))
  have F35 := (Fld.other W26 F18 (Or.inl (Ne.symm v2)))
  have F36 := (Fld.other W26 (Fld.other W16 (Fld.other W11 (Fld.keep f10 K7 (ninS v0 nin0)) (Or.inr (n_16_32 hw))) (Or.inr (n_16_58 hw))) (Or.inl (Ne.symm v2)))
  have F37 := (Fld.other W26 (Fld.other W16 (Fld.other W11 (Fld.keep f11 K7 (ninS v0 nin0)) (Or.inr (n_13_32 hw))) (Or.inr (n_13_58 hw))) (Or.inl (Ne.symm v2)))
  have F38 := (Fld.other W26 (Fld.other W16 (Fld.other W11 (Fld.keep f12 K7 (ninS v0 nin0)) (Or.inr (n_10_32 hw))) (Or.inr (n_10_58 hw))) (Or.inl (Ne.symm v2)))
  have F39 := (Fld.other W26 (Fld.other W16 (Fld.other W11 (Fld.keep f13 K7 (ninS v0 nin0)) (Or.inr (n_25_32 hw))) (Or.inr (n_25_58 hw))) (Or.inl (Ne.symm v2)))
  obtain ⟨fs, hr, hrun, hended, hW, hsame⟩ := X26.leave (v := none) (fun _ => rfl)
  refine ⟨_, _, (castTop (ef_4 m o0) ?_), hrun, hended, _, _, rfl, ?_, ⟨_, rfl⟩, hW, hsame.mono (by decide) (by decide)⟩
  · show Steps p.tables e below (s₁.setTop (mkF m 0 #[rv o0, .unset, .unset] [])) _
    refine oA X0 hx hby d4_0 rfl rfl rfl ?_
    refine st1 _ ?_
    refine oA X1 hx hby d4_4 rfl rfl rfl ?_
    refine st2 _ ?_
    refine XS.iadd X2.here hx rfl (hb hby d4_8) rfl ?_
    refine oA X2 hx hby d4_9 rfl rfl rfl ?_
    refine st3 _ ?_
    refine X3.arraylength hx (by rw [e3]; exact r4.1) (State.isArrayOf_alike hZ.alike r4.2.1) (g := (mkF m 13 #[rv o0, .unset, .unset] [(.ref o1), (.int (t0 + (0 : Int32)))])) rfl rfl (hb hby d4_13) _ ?_
    rw [len_of S4 M4]
    refine XS.icmpYes X3.here hx rfl (pc0 := 14) (pc' := 61) rfl (hb hby d4_14) rfl (flt d0).2.2.2 (by decide) (by decide) ?_
    refine oA X3 hx hby d4_61 rfl rfl rfl ?_
    refine st5 _ ?_
    refine oK X5 hx hby d4_65 rfl ?_
    refine oA X5 hx hby d4_66 rfl rfl rfl ?_
    refine st6 _ ?_
    refine st7 _ ?_
    refine oK X7 hx hby d4_73 rfl ?_
    refine XS.istoreN X7.here hx rfl (hb hby d4_74) rfl (l' := #[rv o0, iv 0, .unset]) rfl ?_
    refine oI X7 hx hby d4_75 rfl rfl ?_
    refine oA X7 hx hby d4_76 rfl rfl rfl ?_
    refine st9 _ ?_
    refine XS.icmpYes X9.here hx rfl (pc0 := 80) (pc' := 145) rfl (hb hby d4_80) rfl (by decide) (by decide) (by decide) ?_
    refine oA X9 hx hby d4_145 rfl rfl rfl ?_
    refine oK X9 hx hby d4_146 rfl ?_
    show Steps p.tables e below (T9.setTop (mkF m 147 #[rv o0, iv 0, .unset] [(.int 0), (.ref o0)])) _
    refine st11 _ ?_
    refine oA X11 hx hby d4_150 rfl rfl rfl ?_
    refine XS.dup X11.here hx rfl (hb hby d4_151) rfl rfl ?_
    refine st14 _ ?_
    refine oK X14 hx hby d4_155 rfl ?_
    refine XS.iadd X14.here hx rfl (hb hby d4_156) rfl ?_
    show Steps p.tables e below (T14.setTop (mkF m 157 #[rv o0, iv 0, .unset] [(.int ((2 : Int32) + (1 : Int32))), (.ref o0)])) _
    rw [(by decide : ((2 : Int32) + (1 : Int32)) = (3 : Int32))]
    refine st16 _ ?_
    refine oA X16 hx hby d4_160 rfl rfl rfl ?_
    refine st19 _ ?_
    refine oA X19 hx hby d4_164 rfl rfl rfl ?_
    refine st20 _ ?_
    refine oA X20 hx hby d4_168 rfl rfl rfl ?_
    refine st22 _ ?_
    refine st26 _ ?_
    exact X26.returnOut hx Bd.returns (hb hby d4_173) hr
  · show Q4_2 Z t0 t1 t2 t3 t4 t5 t6 t7 t8 t9 t10 t11 t12 t13 t14 o0 o1 o2 o3 o4 o5 o6 j0 j1 j2 h0 n0 _ T26.heap _
    rw [e26]
    exact ⟨rfl, N26, KK26, F28, F29, F30, F31, F32, F33, F34, F35, F36, F37, F38, F39, F27⟩
def Q12_1 (Z : State) (h0 : Heap) (n0 : Nat) (v : Option Value) (h : Heap) (L : List Loc) : Prop := v = some (.int 4) ∧ Fr n0 L ∧ h = h0
theorem rm12_1 (l : Launch) (Z : State) (a0 : Array Value) (hw : HW a0 Z) (ws : List Jvm.Cond) (h0 : Heap) (n0 : Nat) (OO : Old Z n0 h0) :
    own_MF l Z h0 (⟨"java/lang/Math", "min", "(II)I"⟩ : MethodName) ws jdk_29_method_69_code 2 (some .int) ({ frames := 0, cells := 0, slots := 0, locals := 0 } : Room) #[(.int 6), (.int 4)] (Q12_1 Z h0 n0) := by
  refine MetFree.of_bodySF (Jvm.Free.JP.mathPlain rfl (by decide +kernel)) hisR ?_
  intro p e s m args below meth c s₁ Bd hml0 hP hK
  obtain ⟨rfl, hZ, hh⟩ := hP
  have hx := Bd.exec
  have hby := Bd.bytes
  have hml : c.maxLocals = 2 := hml0
  have hown : s.vm.findClass "java/lang/Math" = some m.cls := findClass_of_methodNamed Bd.named
  have X0 : Stand p l e ({ frames := 0, cells := 0, slots := 0, locals := 0 } : Room) s m #[(.int 6), (.int 4)] below meth c s₁ [] 0 0 := Stand.of_body Bd
  have e0 : s₁.heap = h0 := by rw [← hh, Bd.state]; rfl
  have N0 := Fr.nil n0
  obtain ⟨fs, hr, hrun, hended, hW, hsame⟩ := X0.leave (v := some (.int 4)) (fun h => by rw [Bd.returns] at h; cases h)
  refine ⟨_, _, (castTop (ef_12 m 6 4) ?_), hrun, hended, _, _, rfl, ?_, ⟨_, rfl⟩, hW, hsame.mono (by decide) (by decide)⟩
  · show Steps p.tables e below (s₁.setTop (mkF m 0 #[iv 6, iv 4] [])) _
    refine oI X0 hx hby d12_0 rfl rfl ?_
    refine oI X0 hx hby d12_1 rfl rfl ?_
    refine XS.icmpYes X0.here hx rfl (pc0 := 2) (pc' := 9) rfl (hb hby d12_2) rfl (by decide) (by decide) (by decide) ?_
    refine oI X0 hx hby d12_9 rfl rfl ?_
    exact retI X0 hx Bd.returns (hb hby d12_10) hr
  · show Q12_1 Z h0 n0 _ s₁.heap _
    exact ⟨rfl, N0, e0⟩
def Q11_1 (Z : State) (t0 t1 t2 t3 t4 t5 : Int32) (o0 : Addr) (j0 : ClassId) (h0 : Heap) (n0 : Nat) (v : Option Value) (h : Heap) (L : List Loc) : Prop := ∃ (o1 : Addr) (j1 : ClassId), v = some (.ref o1) ∧ Fr n0 L ∧ Keep h0 h [] ∧ h0.size ≤ o1 ∧ AI4 Z h o1 j1 t0 t1 t2 t3
theorem rm11_1 (l : Launch) (Z : State) (a0 : Array Value) (hw : HW a0 Z) (ws : List Jvm.Cond) (t0 t1 t2 t3 t4 t5 : Int32) (o0 : Addr) (j0 : ClassId) (h0 : Heap) (n0 : Nat) (OO : Old Z n0 h0) (f0 : AI6 Z h0 o0 j0 t0 t1 t2 t3 t4 t5) :
    own_MF l Z h0 (⟨"java/util/Arrays", "copyOf", "([II)[I"⟩ : MethodName) ws jdk_65_method_123_code 3 (some (.array .int)) ({ frames := 1, cells := 1, slots := 4, locals := 18 } : Room) #[(.ref o0), (.int 4)] (Q11_1 Z t0 t1 t2 t3 t4 t5 o0 j0 h0 n0) := by
  refine MetFree.of_bodySF (plainFor_of_name pn_11) hisR ?_
  intro p e s m args below meth c s₁ Bd hml0 hP hK
  obtain ⟨rfl, hZ, hh⟩ := hP
  have hx := Bd.exec
  have hby := Bd.bytes
  have hml : c.maxLocals = 3 := hml0
  have hown : s.vm.findClass "java/util/Arrays" = some m.cls := findClass_of_methodNamed Bd.named
  have X0 : Stand p l e ({ frames := 1, cells := 1, slots := 4, locals := 18 } : Room) s m #[(.ref o0), (.int 4)] below meth c s₁ [] 0 0 := Stand.of_body Bd
  have e0 : s₁.heap = h0 := by rw [← hh, Bd.state]; rfl
  have N0 := Fr.nil n0
  obtain ⟨c1, r1, q1, S1, M1, H1, G1⟩ := id f0
  obtain ⟨T2, h2, j1, X2, e2, E2, A2, B2, st2⟩ := newPE (aty := .int) X0 hx hZ (w_17 hw) e0 (g := (mkF m 15 #[rv o0, iv 4, .unset] [(.int 4)])) rfl (hb hby d11_15) rfl (by decide) (cap := 4) (by decide) (by decide) (by decide) (by decide) (ad := "[I") (by decide +kernel)
  obtain ⟨o1, g2⟩ : ∃ z, z = h0.size := ⟨_, rfl⟩
  rw [← g2] at A2 B2 st2
  have g3 : n0 ≤ o1 := Nat.le_trans (own_le OO) (Nat.le_of_eq g2.symm)
  have s4 : h0.size ≤ o1 := Nat.le_trans ((Keep.refl h0 [])).1 (Nat.le_of_eq g2.symm)
  have O2 := Old.ext OO E2
  have KK2 := Keep.ext (Keep.refl h0 []) E2
  have F5 : AI4 Z h2 o1 j1 0 0 0 0 := (Arv.new A2 (by decide)).pad (pad_rep [] (.int 0) 4)
  have F7 := (Arv.ext f0 E2)
  obtain ⟨c6, r6, q6, S6, M6, H6, G6⟩ := id F7
  obtain ⟨_, T8, h8, Lc8, X8, e8a, hQ8, st8⟩ := own_cS X2 hx hZ hown (w_70 hw) (w_71 hw) (w_72 hw) (w_73 hw) (by decide) (rm12_1 l Z a0 hw []  h2 n0 O2) e2 (W := 4) (by decide) (by decide) (by decide : 1 + 0 ≤ _) (by decide : 4 + 0 ≤ _) (g := (mkF m 25 #[rv o0, iv 4, rv o1] [(.int 4), (.int 6), (.int 0), (.ref o1), (.int 0), (.ref o0)])) rfl (by rw [hml]; rfl) (argsL := [(.int 6), (.int 4)]) (rest := [(.int 0), (.ref o1), (.int 0), (.ref o0)]) (lenOf pd_7 rfl) rfl rfl rfl (hb hby d11_25) rfl
  obtain ⟨rfl, N8q, z8⟩ := hQ8
  have e8 := e8a.trans z8
  have N8 := Fr.app N0 N8q
  obtain ⟨T9, h9, L9, X9, e9, N9, K9, V9, st9⟩ := cpA X8 hx hZ hown (w_74 hw) (w_77 hw) (w_75 hw) (w_76 hw) e8 F7 F5 (us := [(.int t0), (.int t1), (.int t2), (.int t3)]) (Or.inl ⟨rfl, rfl⟩) (by decide) (by decide) (by decide) (by decide) (by decide) rfl (Nat.le_of_ble_eq_true rfl) N8 g3 (g := (mkF m 28 #[rv o0, iv 4, rv o1] [(.int 4), (.int 0), (.ref o1), (.int 0), (.ref o0)])) rfl (by rw [hml]; rfl) (rest := []) rfl (hb hby d11_28) (by decide) (W := 0) (by show 2 * 0 + _ ≤ _; exact Nat.le_of_eq rfl) (by decide)
  have O9 := Old.keep O2 K9 (allS g3 all0)
  have KK9 := Keep.trans KK2 K9 (allS (Or.inr s4) all0)
  have F10 : AI4 Z h9 o1 j1 t0 t1 t2 t3 := V9
  obtain ⟨fs, hr, hrun, hended, hW, hsame⟩ := X9.leave (v := some (.ref o1)) (fun h => by rw [Bd.returns] at h; cases h)
  refine ⟨_, _, (castTop (ef_11 m o0 4) ?_), hrun, hended, _, _, rfl, ?_, ⟨_, rfl⟩, hW, hsame.mono (by decide) (by decide)⟩
  · show Steps p.tables e below (s₁.setTop (mkF m 0 #[rv o0, iv 4, .unset] [])) _
    refine oI X0 hx hby d11_0 rfl rfl ?_
    refine oA X0 hx hby d11_1 rfl rfl rfl ?_
    refine X0.arraylength hx (by rw [e0]; exact r1.1) (State.isArrayOf_alike hZ.alike r1.2.1) (g := (mkF m 2 #[rv o0, iv 4, .unset] [(.ref o0), (.int 4)])) rfl rfl (hb hby d11_2) _ ?_
    rw [len_of S1 M1]
    refine XS.icmpYes X0.here hx rfl (pc0 := 3) (pc' := 14) rfl (hb hby d11_3) rfl (by decide) (by decide) (by decide) ?_
    refine oI X0 hx hby d11_14 rfl rfl ?_
    refine st2 _ ?_
    refine XS.astoreN X2.here hx rfl (hb hby d11_17) rfl rfl (l' := #[rv o0, iv 4, rv o1]) rfl ?_
    refine oA X2 hx hby d11_18 rfl rfl rfl ?_
    refine oK X2 hx hby d11_19 rfl ?_
    refine oA X2 hx hby d11_20 rfl rfl rfl ?_
    refine oK X2 hx hby d11_21 rfl ?_
    refine oA X2 hx hby d11_22 rfl rfl rfl ?_
    refine X2.arraylength hx (by rw [e2]; exact r6.1) (State.isArrayOf_alike hZ.alike r6.2.1) (g := (mkF m 23 #[rv o0, iv 4, rv o1] [(.ref o0), (.int 0), (.ref o1), (.int 0), (.ref o0)])) rfl rfl (hb hby d11_23) _ ?_
    rw [len_of S6 M6]
    refine oI X2 hx hby d11_24 rfl rfl ?_
    refine st8 _ ?_
    refine st9 _ ?_
    refine oA X9 hx hby d11_31 rfl rfl rfl ?_
    exact retOut X9 hx Bd.returns rfl (Or.inr (Or.inr (Or.inr (Or.inr ⟨rfl, rfl, rfl⟩)))) (hb hby d11_32) hr
  · show Q11_1 Z t0 t1 t2 t3 t4 t5 o0 j0 h0 n0 _ T9.heap _
    rw [e9]
    exact ⟨o1, j1, rfl, N9, KK9, s4, F10⟩
def Q13_1 (Z : State) (t0 t1 t2 t3 t4 t5 : Int64) (o0 : Addr) (j0 : ClassId) (h0 : Heap) (n0 : Nat) (v : Option Value) (h : Heap) (L : List Loc) : Prop := ∃ (o1 : Addr) (j1 : ClassId), v = some (.ref o1) ∧ Fr n0 L ∧ Keep h0 h [] ∧ h0.size ≤ o1 ∧ AD4 Z h o1 j1 t0 t1 t2 t3
theorem rm13_1 (l : Launch) (Z : State) (a0 : Array Value) (hw : HW a0 Z) (ws : List Jvm.Cond) (t0 t1 t2 t3 t4 t5 : Int64) (o0 : Addr) (j0 : ClassId) (h0 : Heap) (n0 : Nat) (OO : Old Z n0 h0) (f0 : AD6 Z h0 o0 j0 t0 t1 t2 t3 t4 t5) :
    own_MF l Z h0 (⟨"java/util/Arrays", "copyOf", "([DI)[D"⟩ : MethodName) ws jdk_65_method_127_code 3 (some (.array .double)) ({ frames := 1, cells := 1, slots := 4, locals := 18 } : Room) #[(.ref o0), (.int 4)] (Q13_1 Z t0 t1 t2 t3 t4 t5 o0 j0 h0 n0) := by
  refine MetFree.of_bodySF (plainFor_of_name pn_13) hisR ?_
  intro p e s m args below meth c s₁ Bd hml0 hP hK
  obtain ⟨rfl, hZ, hh⟩ := hP
  have hx := Bd.exec
  have hby := Bd.bytes
  have hml : c.maxLocals = 3 := hml0
  have hown : s.vm.findClass "java/util/Arrays" = some m.cls := findClass_of_methodNamed Bd.named
  have X0 : Stand p l e ({ frames := 1, cells := 1, slots := 4, locals := 18 } : Room) s m #[(.ref o0), (.int 4)] below meth c s₁ [] 0 0 := Stand.of_body Bd
  have e0 : s₁.heap = h0 := by rw [← hh, Bd.state]; rfl
  have N0 := Fr.nil n0
  obtain ⟨c1, r1, q1, S1, M1, H1, G1⟩ := id f0
  obtain ⟨T2, h2, j1, X2, e2, E2, A2, B2, st2⟩ := newPE (aty := .double) X0 hx hZ (w_11 hw) e0 (g := (mkF m 15 #[rv o0, iv 4, .unset] [(.int 4)])) rfl (hb hby d13_15) rfl (by decide) (cap := 4) (by decide) (by decide) (by decide) (by decide) (ad := "[D") (by decide +kernel)
  obtain ⟨o1, g2⟩ : ∃ z, z = h0.size := ⟨_, rfl⟩
  rw [← g2] at A2 B2 st2
  have g3 : n0 ≤ o1 := Nat.le_trans (own_le OO) (Nat.le_of_eq g2.symm)
  have s4 : h0.size ≤ o1 := Nat.le_trans ((Keep.refl h0 [])).1 (Nat.le_of_eq g2.symm)
  have O2 := Old.ext OO E2
  have KK2 := Keep.ext (Keep.refl h0 []) E2
  have F5 : AD4 Z h2 o1 j1 0 0 0 0 := (Arv.newD A2 (by decide)).pad (pad_rep [] (.double (FP.l2d (0 : Int64))) 4)
  have F7 := (Arv.ext f0 E2)
  obtain ⟨c6, r6, q6, S6, M6, H6, G6⟩ := id F7
  obtain ⟨_, T8, h8, Lc8, X8, e8a, hQ8, st8⟩ := own_cS X2 hx hZ hown (w_70 hw) (w_71 hw) (w_72 hw) (w_73 hw) (by decide) (rm12_1 l Z a0 hw []  h2 n0 O2) e2 (W := 4) (by decide) (by decide) (by decide : 1 + 0 ≤ _) (by decide : 4 + 0 ≤ _) (g := (mkF m 25 #[rv o0, iv 4, rv o1] [(.int 4), (.int 6), (.int 0), (.ref o1), (.int 0), (.ref o0)])) rfl (by rw [hml]; rfl) (argsL := [(.int 6), (.int 4)]) (rest := [(.int 0), (.ref o1), (.int 0), (.ref o0)]) (lenOf pd_7 rfl) rfl rfl rfl (hb hby d13_25) rfl
  obtain ⟨rfl, N8q, z8⟩ := hQ8
  have e8 := e8a.trans z8
  have N8 := Fr.app N0 N8q
  obtain ⟨T9, h9, L9, X9, e9, N9, K9, V9, st9⟩ := cpA X8 hx hZ hown (w_74 hw) (w_77 hw) (w_75 hw) (w_76 hw) e8 F7 F5 (us := [(.double (FP.l2d t0)), (.double (FP.l2d t1)), (.double (FP.l2d t2)), (.double (FP.l2d t3))]) (Or.inl ⟨rfl, rfl⟩) (by decide) (by decide) (by decide) (by decide) (by decide) rfl (Nat.le_of_ble_eq_true rfl) N8 g3 (g := (mkF m 28 #[rv o0, iv 4, rv o1] [(.int 4), (.int 0), (.ref o1), (.int 0), (.ref o0)])) rfl (by rw [hml]; rfl) (rest := []) rfl (hb hby d13_28) (by decide) (W := 0) (by show 2 * 0 + _ ≤ _; exact Nat.le_of_eq rfl) (by decide)
  have O9 := Old.keep O2 K9 (allS g3 all0)
  have KK9 := Keep.trans KK2 K9 (allS (Or.inr s4) all0)
  have F10 : AD4 Z h9 o1 j1 t0 t1 t2 t3 := V9
  obtain ⟨fs, hr, hrun, hended, hW, hsame⟩ := X9.leave (v := some (.ref o1)) (fun h => by rw [Bd.returns] at h; cases h)
  refine ⟨_, _, (castTop (ef_13 m o0 4) ?_), hrun, hended, _, _, rfl, ?_, ⟨_, rfl⟩, hW, hsame.mono (by decide) (by decide)⟩
  · show Steps p.tables e below (s₁.setTop (mkF m 0 #[rv o0, iv 4, .unset] [])) _
    refine oI X0 hx hby d13_0 rfl rfl ?_
    refine oA X0 hx hby d13_1 rfl rfl rfl ?_
    refine X0.arraylength hx (by rw [e0]; exact r1.1) (State.isArrayOf_alike hZ.alike r1.2.1) (g := (mkF m 2 #[rv o0, iv 4, .unset] [(.ref o0), (.int 4)])) rfl rfl (hb hby d13_2) _ ?_
    rw [len_of S1 M1]
    refine XS.icmpYes X0.here hx rfl (pc0 := 3) (pc' := 14) rfl (hb hby d13_3) rfl (by decide) (by decide) (by decide) ?_
    refine oI X0 hx hby d13_14 rfl rfl ?_
    refine st2 _ ?_
    refine XS.astoreN X2.here hx rfl (hb hby d13_17) rfl rfl (l' := #[rv o0, iv 4, rv o1]) rfl ?_
    refine oA X2 hx hby d13_18 rfl rfl rfl ?_
    refine oK X2 hx hby d13_19 rfl ?_
    refine oA X2 hx hby d13_20 rfl rfl rfl ?_
    refine oK X2 hx hby d13_21 rfl ?_
    refine oA X2 hx hby d13_22 rfl rfl rfl ?_
    refine X2.arraylength hx (by rw [e2]; exact r6.1) (State.isArrayOf_alike hZ.alike r6.2.1) (g := (mkF m 23 #[rv o0, iv 4, rv o1] [(.ref o0), (.int 0), (.ref o1), (.int 0), (.ref o0)])) rfl rfl (hb hby d13_23) _ ?_
    rw [len_of S6 M6]
    refine oI X2 hx hby d13_24 rfl rfl ?_
    refine st8 _ ?_
    refine st9 _ ?_
    refine oA X9 hx hby d13_31 rfl rfl rfl ?_
    exact retOut X9 hx Bd.returns rfl (Or.inr (Or.inr (Or.inr (Or.inr ⟨rfl, rfl, rfl⟩)))) (hb hby d13_32) hr
  · show Q13_1 Z t0 t1 t2 t3 t4 t5 o0 j0 h0 n0 _ T9.heap _
    rw [e9]
    exact ⟨o1, j1, rfl, N9, KK9, s4, F10⟩
def Q14_0 (Z : State) (o0 o1 o2 o3 : Addr) (h0 : Heap) (n0 : Nat) (v : Option Value) (h : Heap) (L : List Loc) : Prop := v = none ∧ Fr n0 L ∧ Keep h0 h [o0] ∧ fM10 Z h o0 (.ref o1) ∧ Exa Z h o0 kM ∧ fM11 Z h o0 (.ref o2) ∧ fM12 Z h o0 (.ref o3)
theorem rm14_0 (l : Launch) (Z : State) (a0 : Array Value) (hw : HW a0 Z) (ws : List Jvm.Cond) (o0 o1 o2 o3 : Addr) (h0 : Heap) (n0 : Nat) (OO : Old Z n0 h0) (f0 : fM10 Z h0 o0 .null) (f1 : Exa Z h0 o0 kM) (u0 : n0 ≤ o0) (f2 : fM11 Z h0 o0 .null) (f3 : fM12 Z h0 o0 .null) :
    own_MF l Z h0 (⟨kM, "<init>", "([I[I[D)V"⟩ : MethodName) ws prog_57_method_1_code 4 none ({ frames := 1, cells := 0, slots := 0, locals := 12 } : Room) #[(.ref o0), (.ref o1), (.ref o2), (.ref o3)] (Q14_0 Z o0 o1 o2 o3 h0 n0) := by
  refine MetFree.of_bodySF (plainFor_of_name pn_14) hisR ?_
  intro p e s m args below meth c s₁ Bd hml0 hP hK
  obtain ⟨rfl, hZ, hh⟩ := hP
  have hx := Bd.exec
  have hby := Bd.bytes
  have hml : c.maxLocals = 4 := hml0
  have hown : s.vm.findClass kM = some m.cls := findClass_of_methodNamed Bd.named
  have hnm := (name_of_methodNamed Bd.named Bd.method).1
  have X0 : Stand p l e ({ frames := 1, cells := 0, slots := 0, locals := 12 } : Room) s m #[(.ref o0), (.ref o1), (.ref o2), (.ref o3)] below meth c s₁ [] 0 0 := Stand.of_body Bd
  have e0 : s₁.heap = h0 := by rw [← hh, Bd.state]; rfl
  have N0 := Fr.nil n0
  obtain ⟨T1, X1, e1, st1⟩ := initO X0 hx hZ hown (w_84 hw) (w_7 hw) (w_8 hw) e0 (g := (mkF m 1 #[rv o0, rv o1, rv o2, rv o3] [(.ref o0)])) rfl (by rw [hml]; rfl) rfl (hb hby d14_1) (by decide) (W := 0) (by show 2 * 0 + _ ≤ _; exact Nat.le_of_eq rfl) (by decide)
  obtain ⟨T2, h2, X2, e2, W2, st2⟩ := putF X1 hx hZ hown (host := "") (Or.inl (w_85 hw)) Via.refl e1 f0 f1 (Or.inr ⟨(w_86 hw), rfl, hnm⟩) (w_65 hw) (ty := (.array .int)) (by decide) rfl rfl (g := (mkF m 6 #[rv o0, rv o1, rv o2, rv o3] [(.ref o1), (.ref o0)])) rfl rfl (hb hby d14_6)
  have O2 := Old.wr OO W2 u0
  have KK2 := Keep.wr (Keep.refl h0 [o0]) W2 (Or.inl (own_m 0 rfl))
  have N2 := Fr.snoc X2 N0 u0
  have F3 : fM10 Z h2 o0 (.ref o1) := Fld.same W2 f0
  have F4 := (Fld.other W2 f2 (Or.inr (n_88_86 hw)))
  have F5 := (Exa.wr W2 f1)
  obtain ⟨T6, h6, X6, e6, W6, st6⟩ := putF X2 hx hZ hown (host := "") (Or.inl (w_87 hw)) Via.refl e2 F4 F5 (Or.inr ⟨(w_88 hw), rfl, hnm⟩) (w_65 hw) (ty := (.array .int)) (by decide) rfl rfl (g := (mkF m 11 #[rv o0, rv o1, rv o2, rv o3] [(.ref o2), (.ref o0)])) rfl rfl (hb hby d14_11)
  have O6 := Old.wr O2 W6 u0
  have KK6 := Keep.wr KK2 W6 (Or.inl (own_m 0 rfl))
  have N6 := Fr.snoc X6 N2 u0
  have F7 : fM11 Z h6 o0 (.ref o2) := Fld.same W6 F4
  have F8 := (Fld.other W6 (Fld.other W2 f3 (Or.inr (n_90_86 hw))) (Or.inr (n_90_88 hw)))
  have F9 := (Exa.wr W6 F5)
  obtain ⟨T10, h10, X10, e10, W10, st10⟩ := putF X6 hx hZ hown (host := "") (Or.inl (w_89 hw)) Via.refl e6 F8 F9 (Or.inr ⟨(w_90 hw), rfl, hnm⟩) (w_65 hw) (ty := (.array .double)) (by decide) rfl rfl (g := (mkF m 16 #[rv o0, rv o1, rv o2, rv o3] [(.ref o3), (.ref o0)])) rfl rfl (hb hby d14_16)
  have O10 := Old.wr O6 W10 u0
  have KK10 := Keep.wr KK6 W10 (Or.inl (own_m 0 rfl))
  have N10 := Fr.snoc X10 N6 u0
  have F11 : fM12 Z h10 o0 (.ref o3) := Fld.same W10 F8
  have F12 := (Fld.other W10 (Fld.other W6 F3 (Or.inr (n_86_88 hw))) (Or.inr (n_86_90 hw)))
  have F13 := (Exa.wr W10 F9)
  have F14 := (Fld.other W10 F7 (Or.inr (n_88_90 hw)))
  obtain ⟨fs, hr, hrun, hended, hW, hsame⟩ := X10.leave (v := none) (fun _ => rfl)
  refine ⟨_, _, (castTop (ef_14 m o0 o1 o2 o3) ?_), hrun, hended, _, _, rfl, ?_, ⟨_, rfl⟩, hW, hsame.mono (by decide) (by decide)⟩
  · show Steps p.tables e below (s₁.setTop (mkF m 0 #[rv o0, rv o1, rv o2, rv o3] [])) _
    refine oA X0 hx hby d14_0 rfl rfl rfl ?_
    refine st1 _ ?_
    refine oA X1 hx hby d14_4 rfl rfl rfl ?_
    refine oA X1 hx hby d14_5 rfl rfl rfl ?_
    refine st2 _ ?_
    refine oA X2 hx hby d14_9 rfl rfl rfl ?_
    refine oA X2 hx hby d14_10 rfl rfl rfl ?_
    refine st6 _ ?_
    refine oA X6 hx hby d14_14 rfl rfl rfl ?_
    refine oA X6 hx hby d14_15 rfl rfl rfl ?_
    refine st10 _ ?_
    exact X10.returnOut hx Bd.returns (hb hby d14_19) hr
  · show Q14_0 Z o0 o1 o2 o3 h0 n0 _ T10.heap _
    rw [e10]
    exact ⟨rfl, N10, KK10, F12, F13, F14, F11⟩
def Q10_0 (Z : State) (t0 t1 t2 t3 t4 t5 : Int32) (t6 t7 t8 t9 t10 t11 : Int64) (o0 o1 o2 o3 : Addr) (j0 j1 : ClassId) (h0 : Heap) (n0 : Nat) (v : Option Value) (h : Heap) (L : List Loc) : Prop := ∃ (o4 o5 o6 : Addr) (j2 j3 : ClassId), v = some (.ref o4) ∧ Fr n0 L ∧ Keep h0 h [] ∧ h0.size ≤ o4 ∧ h0.size ≤ o5 ∧ h0.size ≤ o6 ∧ o4 ≠ o5 ∧ o4 ≠ o6 ∧ o5 ≠ o6 ∧ Exa Z h o4 kM ∧ fM10 Z h o4 (.ref o1) ∧ fM11 Z h o4 (.ref o5) ∧ fM12 Z h o4 (.ref o6) ∧ AI4 Z h o5 j2 t0 t1 t2 t3 ∧ AD4 Z h o6 j3 t6 t7 t8 t9
theorem rm10_0 (l : Launch) (Z : State) (a0 : Array Value) (hw : HW a0 Z) (ws : List Jvm.Cond) (t0 t1 t2 t3 t4 t5 : Int32) (t6 t7 t8 t9 t10 t11 : Int64) (o0 o1 o2 o3 : Addr) (j0 j1 : ClassId) (h0 : Heap) (n0 : Nat) (OO : Old Z n0 h0) (f0 : fB9 Z h0 o0 (.int 3)) (f1 : fB0 Z h0 o0 (.int 3)) (f2 : fB4 Z h0 o0 (.ref o1)) (f3 : fB5 Z h0 o0 (.ref o2)) (f4 : fB8 Z h0 o0 (.int 4)) (f5 : AI6 Z h0 o2 j0 t0 t1 t2 t3 t4 t5) (f6 : fB6 Z h0 o0 (.ref o3)) (f7 : AD6 Z h0 o3 j1 t6 t7 t8 t9 t10 t11) :
    own_MF l Z h0 (⟨kB, "build", "()Lcom/example/rekurze/rekurze/numeric/SparseMatrix;"⟩ : MethodName) ws prog_58_method_4_code 1 (some (.object kM)) ({ frames := 2, cells := 3, slots := 11, locals := 36 } : Room) #[(.ref o0)] (Q10_0 Z t0 t1 t2 t3 t4 t5 t6 t7 t8 t9 t10 t11 o0 o1 o2 o3 j0 j1 h0 n0) := by
  refine MetFree.of_bodySF (plainFor_of_name pn_10) hisR ?_
  intro p e s m args below meth c s₁ Bd hml0 hP hK
  obtain ⟨rfl, hZ, hh⟩ := hP
  have hx := Bd.exec
  have hby := Bd.bytes
  have hml : c.maxLocals = 1 := hml0
  have hown : s.vm.findClass kB = some m.cls := findClass_of_methodNamed Bd.named
  have X0 : Stand p l e ({ frames := 2, cells := 3, slots := 11, locals := 36 } : Room) s m #[(.ref o0)] below meth c s₁ [] 0 0 := Stand.of_body Bd
  have e0 : s₁.heap = h0 := by rw [← hh, Bd.state]; rfl
  have N0 := Fr.nil n0
  obtain ⟨T1, X1, e1, st1⟩ := own_gF X0 hx hZ hown (w_57 hw) e0 f0 (g := (mkF m 1 #[rv o0] [(.ref o0)])) rfl rfl (hb hby d10_1)
  obtain ⟨T2, X2, e2, st2⟩ := own_gF X1 hx hZ hown (w_9 hw) e1 f1 (g := (mkF m 5 #[rv o0] [(.ref o0), (.int 3)])) rfl rfl (hb hby d10_5)
  obtain ⟨T3, h3, X3, e3, E3, A3, D3, -, st3⟩ := newO X2 hx hZ hown (w_64 hw) (w_65 hw) (w_66 hw) e2 (g := (mkF m 32 #[rv o0] [])) rfl (hb hby d10_32) (by decide) (by decide)
  obtain ⟨o4, g3⟩ : ∃ z, z = h0.size := ⟨_, rfl⟩
  rw [← g3] at A3 D3 st3
  have g4 : n0 ≤ o4 := Nat.le_trans (own_le OO) (Nat.le_of_eq g3.symm)
  have s5 : h0.size ≤ o4 := Nat.le_trans ((Keep.refl h0 [])).1 (Nat.le_of_eq g3.symm)
  have O3 := Old.ext OO E3
  have KK3 := Keep.ext (Keep.refl h0 []) E3
  have F6 : fM10 Z h3 o4 .null := D3 (Or.inr (w_86 hw)) (ty := (.array .int)) (by decide)
  have F7 : fM11 Z h3 o4 .null := D3 (Or.inr (w_88 hw)) (ty := (.array .int)) (by decide)
  have F8 : fM12 Z h3 o4 .null := D3 (Or.inr (w_90 hw)) (ty := (.array .double)) (by decide)
  have F9 := (Fld.ext E3 f2)
  obtain ⟨T10, X10, e10, st10⟩ := own_gF X3 hx hZ hown (w_20 hw) e3 F9 (g := (mkF m 37 #[rv o0] [(.ref o0), (.ref o4), (.ref o4)])) rfl rfl (hb hby d10_37)
  have F11 := (Fld.ext E3 f3)
  obtain ⟨T12, X12, e12, st12⟩ := own_gF X10 hx hZ hown (w_22 hw) e10 F11 (g := (mkF m 41 #[rv o0] [(.ref o0), (.ref o1), (.ref o4), (.ref o4)])) rfl rfl (hb hby d10_41)
  have F13 := (Fld.ext E3 f4)
  obtain ⟨T14, X14, e14, st14⟩ := own_gF X12 hx hZ hown (w_38 hw) e12 F13 (g := (mkF m 45 #[rv o0] [(.ref o0), (.ref o2), (.ref o1), (.ref o4), (.ref o4)])) rfl rfl (hb hby d10_45)
  have F16 := (Arv.ext f5 E3)
  obtain ⟨_, T15, h15, Lc15, X15, e15, hQ15, st15⟩ := own_cS X14 hx hZ hown (w_67 hw) (w_68 hw) (w_42 hw) (w_69 hw) (by decide) (rm11_1 l Z a0 hw [] t0 t1 t2 t3 t4 t5 o2 j0 h3 n0 O3 F16) e14 (W := 3) (by decide) (by decide) (by decide : 1 + 1 ≤ _) (by decide : 3 + 4 ≤ _) (g := (mkF m 48 #[rv o0] [(.int 4), (.ref o2), (.ref o1), (.ref o4), (.ref o4)])) rfl (by rw [hml]; rfl) (argsL := [(.ref o2), (.int 4)]) (rest := [(.ref o1), (.ref o4), (.ref o4)]) (lenOf pd_8 rfl) rfl rfl rfl (hb hby d10_48) rfl
  obtain ⟨o5, j2, rfl, N15q, K15, sp15_o5, R15_0⟩ := hQ15
  have N15 := Fr.app N0 N15q
  have g17 : n0 ≤ o5 := Nat.le_trans (own_le O3) sp15_o5
  have s18 : h0.size ≤ o5 := Nat.le_trans (KK3).1 sp15_o5
  have O15 := Old.keep O3 K15 all0
  have KK15 := Keep.trans KK3 K15 all0
  have F19 := (Fld.keep (Fld.ext E3 f6) K15 nin0)
  obtain ⟨T20, X20, e20, st20⟩ := own_gF X15 hx hZ hown (w_24 hw) e15 F19 (g := (mkF m 52 #[rv o0] [(.ref o0), (.ref o5), (.ref o1), (.ref o4), (.ref o4)])) rfl rfl (hb hby d10_52)
  have F21 := (Fld.keep F13 K15 nin0)
  obtain ⟨T22, X22, e22, st22⟩ := own_gF X20 hx hZ hown (w_38 hw) e20 F21 (g := (mkF m 56 #[rv o0] [(.ref o0), (.ref o3), (.ref o5), (.ref o1), (.ref o4), (.ref o4)])) rfl rfl (hb hby d10_56)
  have F24 := (Arv.keep (Arv.ext f7 E3) K15 nin0)
  obtain ⟨_, T23, h23, Lc23, X23, e23, hQ23, st23⟩ := own_cS X22 hx hZ hown (w_78 hw) (w_79 hw) (w_42 hw) (w_80 hw) (by decide) (rm13_1 l Z a0 hw [] t6 t7 t8 t9 t10 t11 o3 j1 h15 n0 O15 F24) e22 (W := 4) (by decide) (by decide) (by decide : 2 + 1 ≤ _) (by decide : 7 + 4 ≤ _) (g := (mkF m 59 #[rv o0] [(.int 4), (.ref o3), (.ref o5), (.ref o1), (.ref o4), (.ref o4)])) rfl (by rw [hml]; rfl) (argsL := [(.ref o3), (.int 4)]) (rest := [(.ref o5), (.ref o1), (.ref o4), (.ref o4)]) (lenOf pd_9 rfl) rfl rfl rfl (hb hby d10_59) rfl
  obtain ⟨o6, j3, rfl, N23q, K23, sp23_o6, R23_0⟩ := hQ23
  have N23 := Fr.app N15 N23q
  have g25 : n0 ≤ o6 := Nat.le_trans (own_le O15) sp23_o6
  have s26 : h0.size ≤ o6 := Nat.le_trans (KK15).1 sp23_o6
  have O23 := Old.keep O15 K23 all0
  have KK23 := Keep.trans KK15 K23 all0
  have F28 := (Fld.keep (Fld.keep F6 K15 nin0) K23 nin0)
  have F29 := (Exa.keep (Exa.keep A3 K15) K23)
  have F30 := (Fld.keep (Fld.keep F7 K15 nin0) K23 nin0)
  have F31 := (Fld.keep (Fld.keep F8 K15 nin0) K23 nin0)
  obtain ⟨_, _, ⟨T27, L27, k27, n27⟩, -, X27, ⟨Lc27, hQ27, l27, y27, z27⟩, st27⟩ := specialBackNest X23 hx (y := (⟨kM, "<init>", "([I[I[D)V"⟩ : MethodName)) rfl hown (own_mvMN hZ (w_81 hw)) (mvT hZ (w_82 hw)) (mvT hZ (w_83 hw)) (by decide) (backOf (W := 1) (rm14_0 l Z a0 hw [] o4 o1 o5 o6 h23 n0 O23 F28 F29 g4 F30 F31) hZ (w_83 hw) (w_66 hw) (by decide) (by decide)) (g := (mkF m 62 #[rv o0] [(.ref o6), (.ref o5), (.ref o1), (.ref o4), (.ref o4)])) rfl (by rw [hml]; rfl) (Steps.refl _) (a := o4) (argsL := [(.ref o1), (.ref o5), (.ref o6)]) (rest := [(.ref o4)]) (lenOf pd_10 rfl) rfl (by show 2 * 0 + _ ≤ _; exact Nat.le_of_eq rfl) (hb hby d10_62) (fun _ _ => ⟨rfl, e23, (by decide : 3 + 0 ≤ _), (by decide : 11 + 0 ≤ _)⟩)
  dsimp only [Pt.U, Pt.locs, Pt.cells, Pt.slots] at X27 l27 y27 z27 st27 hQ27
  subst l27 y27 z27
  obtain ⟨h27, e27⟩ : ∃ z, T27.heap = z := ⟨_, rfl⟩
  rw [e27] at hQ27
  obtain ⟨rfl, N27q, K27, R27_0, R27_1, R27_2, R27_3⟩ := hQ27
  have N27 := Fr.app N23 N27q
  have O27 := Old.keep O23 K27 (allS g4 all0)
  have KK27 := Keep.trans KK23 K27 (allS (Or.inr s5) all0)
  have ne33 : o4 ≠ o5 := Nat.ne_of_lt (Nat.lt_of_lt_of_le (A3).lt sp15_o5)
  have F32 := (Arv.keep (Arv.keep R15_0 K23 nin0) K27 (ninS (Ne.symm ne33) nin0))
  have ne35 : o4 ≠ o6 := Nat.ne_of_lt (Nat.lt_of_lt_of_le ((Exa.keep A3 K15)).lt sp23_o6)
  have F34 := (Arv.keep R23_0 K27 (ninS (Ne.symm ne35) nin0))
  have ne36 : o5 ≠ o6 := Nat.ne_of_lt (Nat.lt_of_lt_of_le (R15_0).lt sp23_o6)
  obtain ⟨fs, hr, hrun, hended, hW, hsame⟩ := X27.leave (v := some (.ref o4)) (fun h => by rw [Bd.returns] at h; cases h)
  refine ⟨_, _, (castTop (ef_10 m o0) ?_), hrun, hended, _, _, rfl, ?_, ⟨_, rfl⟩, hW, hsame.mono (by decide) (by decide)⟩
  · show Steps p.tables e below (s₁.setTop (mkF m 0 #[rv o0] [])) _
    refine oA X0 hx hby d10_0 rfl rfl rfl ?_
    refine st1 _ ?_
    refine oA X1 hx hby d10_4 rfl rfl rfl ?_
    refine st2 _ ?_
    refine XS.icmpYes X2.here hx rfl (pc0 := 8) (pc' := 32) rfl (hb hby d10_8) rfl (by decide) (by decide) (by decide) ?_
    refine st3 _ ?_
    refine XS.dup X3.here hx rfl (hb hby d10_35) rfl rfl ?_
    refine oA X3 hx hby d10_36 rfl rfl rfl ?_
    refine st10 _ ?_
    refine oA X10 hx hby d10_40 rfl rfl rfl ?_
    refine st12 _ ?_
    refine oA X12 hx hby d10_44 rfl rfl rfl ?_
    refine st14 _ ?_
    refine st15 _ ?_
    refine oA X15 hx hby d10_51 rfl rfl rfl ?_
    refine st20 _ ?_
    refine oA X20 hx hby d10_55 rfl rfl rfl ?_
    refine st22 _ ?_
    refine st23 _ ?_
    refine st27.trans ?_
    exact retOut X27 hx Bd.returns rfl (Or.inr (Or.inr (Or.inr (Or.inr ⟨rfl, rfl, rfl⟩)))) (hb hby d10_65) hr
  · show Q10_0 Z t0 t1 t2 t3 t4 t5 t6 t7 t8 t9 t10 t11 o0 o1 o2 o3 j0 j1 h0 n0 _ T27.heap _
    rw [e27]
    exact ⟨o4, o5, o6, j2, j3, rfl, N27, KK27, s5, s18, s26, ne33, ne35, ne36, R27_1, R27_0, R27_2, R27_3, F32, F34⟩
def Q16_0 (Z : State) (t0 t1 t2 t3 : Int32) (o0 o1 : Addr) (j0 : ClassId) (h0 : Heap) (n0 : Nat) (v : Option Value) (h : Heap) (L : List Loc) : Prop := v = some (.int 3) ∧ Fr n0 L ∧ h = h0
theorem rm16_0 (l : Launch) (Z : State) (a0 : Array Value) (hw : HW a0 Z) (ws : List Jvm.Cond) (t0 t1 t2 t3 : Int32) (o0 o1 : Addr) (j0 : ClassId) (h0 : Heap) (n0 : Nat) (OO : Old Z n0 h0) (f0 : fM10 Z h0 o0 (.ref o1)) (f1 : AI4 Z h0 o1 j0 t0 t1 t2 t3) :
    own_MF l Z h0 (⟨kM, "size", "()I"⟩ : MethodName) ws prog_57_method_2_code 1 (some .int) ({ frames := 0, cells := 0, slots := 0, locals := 0 } : Room) #[(.ref o0)] (Q16_0 Z t0 t1 t2 t3 o0 o1 j0 h0 n0) := by
  refine MetFree.of_bodySF (plainFor_of_name pn_16) hisR ?_
  intro p e s m args below meth c s₁ Bd hml0 hP hK
  obtain ⟨rfl, hZ, hh⟩ := hP
  have hx := Bd.exec
  have hby := Bd.bytes
  have hml : c.maxLocals = 1 := hml0
  have hown : s.vm.findClass kM = some m.cls := findClass_of_methodNamed Bd.named
  have X0 : Stand p l e ({ frames := 0, cells := 0, slots := 0, locals := 0 } : Room) s m #[(.ref o0)] below meth c s₁ [] 0 0 := Stand.of_body Bd
  have e0 : s₁.heap = h0 := by rw [← hh, Bd.state]; rfl
  have N0 := Fr.nil n0
  obtain ⟨T1, X1, e1, st1⟩ := own_gF X0 hx hZ hown (w_85 hw) e0 f0 (g := (mkF m 1 #[rv o0] [(.ref o0)])) rfl rfl (hb hby d16_1)
  obtain ⟨c2, r2, q2, S2, M2, H2, G2⟩ := id f1
  obtain ⟨fs, hr, hrun, hended, hW, hsame⟩ := X1.leave (v := some (.int 3)) (fun h => by rw [Bd.returns] at h; cases h)
  refine ⟨_, _, (castTop (ef_16 m o0) ?_), hrun, hended, _, _, rfl, ?_, ⟨_, rfl⟩, hW, hsame.mono (by decide) (by decide)⟩
  · show Steps p.tables e below (s₁.setTop (mkF m 0 #[rv o0] [])) _
    refine oA X0 hx hby d16_0 rfl rfl rfl ?_
    refine st1 _ ?_
    refine X1.arraylength hx (by rw [e1]; exact r2.1) (State.isArrayOf_alike hZ.alike r2.2.1) (g := (mkF m 4 #[rv o0] [(.ref o1)])) rfl rfl (hb hby d16_4) _ ?_
    rw [len_of S2 M2]
    refine oK X1 hx hby d16_5 rfl ?_
    refine XS.isub X1.here hx rfl (hb hby d16_6) rfl ?_
    show Steps p.tables e below (T1.setTop (mkF m 7 #[rv o0] [(.int ((4 : Int32) - (1 : Int32)))])) _
    rw [(by decide : ((4 : Int32) - (1 : Int32)) = (3 : Int32))]
    exact retI X1 hx Bd.returns (hb hby d16_7) hr
  · show Q16_0 Z t0 t1 t2 t3 o0 o1 j0 h0 n0 _ T1.heap _
    exact ⟨rfl, N0, e1⟩
def Q15_0 (Z : State) (t0 t1 t2 t3 : Int32) (t4 t5 t6 t7 : Int64) (o0 o1 o2 o3 : Addr) (j0 j1 j2 : ClassId) (h0 : Heap) (n0 : Nat) (v : Option Value) (h : Heap) (L : List Loc) : Prop := ∃ (o4 o5 o6 o7 : Addr) (j3 j4 : ClassId), v = some (.ref o4) ∧ Fr n0 L ∧ Keep h0 h [] ∧ h0.size ≤ o4 ∧ h0.size ≤ o5 ∧ h0.size ≤ o6 ∧ h0.size ≤ o7 ∧ o4 ≠ o5 ∧ o4 ≠ o6 ∧ o4 ≠ o7 ∧ o5 ≠ o6 ∧ o5 ≠ o7 ∧ o6 ≠ o7 ∧ Arv Z h o4 j3 (.array .double) (3 : Int32) [(.ref o5), (.ref o6), (.ref o7)] .null ∧ AD3 Z h o5 j4 (own_up t2 0 t6 (own_up t1 0 t5 (own_up t0 0 t4 (0 : Int64)))) (own_up t2 1 t6 (own_up t1 1 t5 (own_up t0 1 t4 (0 : Int64)))) (own_up t2 2 t6 (own_up t1 2 t5 (own_up t0 2 t4 (0 : Int64)))) ∧ AD3 Z h o6 j4 (own_up t3 0 t7 (0 : Int64)) (own_up t3 1 t7 (0 : Int64)) (own_up t3 2 t7 (0 : Int64)) ∧ AD3 Z h o7 j4 0 0 0
theorem rm15_0 (l : Launch) (Z : State) (a0 : Array Value) (hw : HW a0 Z) (ws : List Jvm.Cond) (t0 t1 t2 t3 : Int32) (t4 t5 t6 t7 : Int64) (o0 o1 o2 o3 : Addr) (j0 j1 j2 : ClassId) (h0 : Heap) (n0 : Nat) (OO : Old Z n0 h0) (f0 : fM10 Z h0 o0 (.ref o1)) (f1 : AI4 Z h0 o1 j0 0 3 4 4) (f2 : Exa Z h0 o0 kM) (f3 : fM11 Z h0 o0 (.ref o2)) (f4 : AI4 Z h0 o2 j1 t0 t1 t2 t3) (f5 : fM12 Z h0 o0 (.ref o3)) (f6 : AD4 Z h0 o3 j2 t4 t5 t6 t7) (d0 : own_in3 t0) (d1 : own_in3 t1) (d2 : own_in3 t2) (d3 : own_in3 t3) :
    own_MF l Z h0 (⟨kM, "dense", "()[[D"⟩ : MethodName) ws prog_57_method_6_code 5 (some (.array (.array .double))) ({ frames := 1, cells := 4, slots := 12, locals := 12 } : Room) #[(.ref o0)] (Q15_0 Z t0 t1 t2 t3 t4 t5 t6 t7 o0 o1 o2 o3 j0 j1 j2 h0 n0) := by
  refine MetFree.of_bodySF (plainFor_of_name pn_15) hisR ?_
  intro p e s m args below meth c s₁ Bd hml0 hP hK
  obtain ⟨rfl, hZ, hh⟩ := hP
  have hx := Bd.exec
  have hby := Bd.bytes
  have hml : c.maxLocals = 5 := hml0
  have hown : s.vm.findClass kM = some m.cls := findClass_of_methodNamed Bd.named
  have X0 : Stand p l e ({ frames := 1, cells := 4, slots := 12, locals := 12 } : Room) s m #[(.ref o0)] below meth c s₁ [] 0 0 := Stand.of_body Bd
  have e0 : s₁.heap = h0 := by rw [← hh, Bd.state]; rfl
  have N0 := Fr.nil n0
  obtain ⟨cq1, kq1, q1a, q1b, q1c⟩ := isOf hZ e0 f2
  obtain ⟨_, _, ⟨T1, L1, k1, n1⟩, -, X1, ⟨Lc1, hQ1, l1, y1, z1⟩, st1⟩ := X0.virtualBack hx (y := (⟨kM, "size", "()I"⟩ : MethodName)) (z := (⟨kM, "size", "()I"⟩ : MethodName)) hown (mvT hZ (w_96 hw)) (mvT hZ (w_97 hw)) (notFace_of_selects (args := #[]) (mvT hZ (w_99 hw))) (mvT hZ (w_99 hw)) (mvT hZ (w_98 hw)) (by decide) (backOf (W := 0) (rm16_0 l Z a0 hw [] (0 : Int32) (3 : Int32) (4 : Int32) (4 : Int32) o0 o1 j0 h0 n0 OO f0 f1) hZ (w_100 hw) (w_66 hw) (by decide) (by decide)) q1a q1c (g := (mkF m 1 #[rv o0, .unset, .unset, .unset, .unset] [(.ref o0)])) rfl (by rw [hml]; rfl) (Steps.refl _) (argsL := []) (rest := []) (lenOf pd_12 rfl) rfl (by show 2 * 0 + _ ≤ _; exact Nat.le_of_eq rfl) (hb hby d15_1) (fun _ _ => ⟨rfl, e0, (by decide : 0 + 0 ≤ _), (by decide : 0 + 0 ≤ _)⟩)
  dsimp only [Pt.U, Pt.locs, Pt.cells, Pt.slots] at X1 l1 y1 z1 st1 hQ1
  subst l1 y1 z1
  obtain ⟨rfl, N1q, e1⟩ := hQ1
  have N1 := Fr.app N0 N1q
  obtain ⟨T2, h2, j3, j4, X2, e2, E2, A2, O2v, B2, I2, st2⟩ := gridM X1 hx hZ hown (C := "[D") (ad := "[[D") (ty := .double) rfl rfl (w_101 hw) (w_102 hw) (w_11 hw) e1 (g := (mkF m 7 #[rv o0, iv 3, .unset, .unset, .unset] [(.int 3), (.int 3)])) rfl (hb hby d15_7) rfl (by decide) (by decide) (N := 3) rfl (xs := [h0.size + 1 + 0, h0.size + 1 + 1, h0.size + 1 + 2]) (by rfl) (cap := 3) (by decide) (by decide) (by decide) rfl rfl (by decide) (by decide)
  obtain ⟨o4, g2⟩ : ∃ z, z = h0.size := ⟨_, rfl⟩
  obtain ⟨o5, g2_0⟩ : ∃ z, z = h0.size + 1 + 0 := ⟨_, rfl⟩
  obtain ⟨o6, g2_1⟩ : ∃ z, z = h0.size + 1 + 1 := ⟨_, rfl⟩
  obtain ⟨o7, g2_2⟩ : ∃ z, z = h0.size + 1 + 2 := ⟨_, rfl⟩
  rw [← g2_2, ← g2_1, ← g2_0] at A2 I2
  rw [← g2] at A2 B2 st2
  have g3 : n0 ≤ o4 := Nat.le_trans (own_le OO) (Nat.le_of_eq g2.symm)
  have s4 : h0.size ≤ o4 := Nat.le_trans ((Keep.refl h0 [])).1 (Nat.le_of_eq g2.symm)
  have g5 : n0 ≤ o5 := Nat.le_trans (own_le OO) (Nat.le_trans (Nat.le_add_right _ _) (Nat.le_of_eq ((Nat.add_assoc _ _ _).symm.trans g2_0.symm)))
  have s6 : h0.size ≤ o5 := Nat.le_trans ((Keep.refl h0 [])).1 (Nat.le_trans (Nat.le_add_right _ _) (Nat.le_of_eq ((Nat.add_assoc _ _ _).symm.trans g2_0.symm)))
  have g7 : n0 ≤ o6 := Nat.le_trans (own_le OO) (Nat.le_trans (Nat.le_add_right _ _) (Nat.le_of_eq ((Nat.add_assoc _ _ _).symm.trans g2_1.symm)))
  have s8 : h0.size ≤ o6 := Nat.le_trans ((Keep.refl h0 [])).1 (Nat.le_trans (Nat.le_add_right _ _) (Nat.le_of_eq ((Nat.add_assoc _ _ _).symm.trans g2_1.symm)))
  have g9 : n0 ≤ o7 := Nat.le_trans (own_le OO) (Nat.le_trans (Nat.le_add_right _ _) (Nat.le_of_eq ((Nat.add_assoc _ _ _).symm.trans g2_2.symm)))
  have s10 : h0.size ≤ o7 := Nat.le_trans ((Keep.refl h0 [])).1 (Nat.le_trans (Nat.le_add_right _ _) (Nat.le_of_eq ((Nat.add_assoc _ _ _).symm.trans g2_2.symm)))
  have ne11 : o4 ≠ o5 := by rw [g2, g2_0]; omega
  have ne12 : o4 ≠ o6 := by rw [g2, g2_1]; omega
  have ne13 : o4 ≠ o7 := by rw [g2, g2_2]; omega
  have ne14 : o5 ≠ o6 := by rw [g2_0, g2_1]; omega
  have ne15 : o5 ≠ o7 := by rw [g2_0, g2_2]; omega
  have ne16 : o6 ≠ o7 := by rw [g2_1, g2_2]; omega
  have O2 := Old.ext OO E2
  have KK2 := Keep.ext (Keep.refl h0 []) E2
  have F17 : Arv Z h2 o4 j3 (.array .double) (3 : Int32) [(.ref o5), (.ref o6), (.ref o7)] .null := A2
  have F18 : AD3 Z h2 o5 j4 0 0 0 := (Arv.newD (I2 0 o5 rfl).1 (by decide)).pad (pad_rep [] (.double (FP.l2d (0 : Int64))) 3)
  have F19 : AD3 Z h2 o6 j4 0 0 0 := (Arv.newD (I2 1 o6 rfl).1 (by decide)).pad (pad_rep [] (.double (FP.l2d (0 : Int64))) 3)
  have F20 : AD3 Z h2 o7 j4 0 0 0 := (Arv.newD (I2 2 o7 rfl).1 (by decide)).pad (pad_rep [] (.double (FP.l2d (0 : Int64))) 3)
  have F21 := (Fld.ext E2 f0)
  obtain ⟨T22, X22, e22, st22⟩ := own_gF X2 hx hZ hown (w_85 hw) e2 F21 (g := (mkF m 20 #[rv o0, iv 3, rv o4, iv 0, .unset] [(.ref o0)])) rfl rfl (hb hby d15_20)
  have F24 := (Arv.ext f1 E2)
  obtain ⟨c23, r23, q23, S23, M23, H23, G23⟩ := id F24
  have i25 := inb_of (j := 0) S23 (by decide)
  have y26 : c23.slots[((0 : Int32)).toNatClampNeg]? = some (.int 0) := H23 0 (by rw [S23]; decide)
  obtain ⟨T27, X27, e27, st27⟩ := own_gF X22 hx hZ hown (w_85 hw) e22 F21 (g := (mkF m 30 #[rv o0, iv 3, rv o4, iv 0, iv 0] [(.ref o0), (.int 0)])) rfl rfl (hb hby d15_30)
  obtain ⟨c28, r28, q28, S28, M28, H28, G28⟩ := id F24
  have i29 := inb_of (j := 1) S28 (by decide)
  have y30 : c28.slots[((1 : Int32)).toNatClampNeg]? = some (.int 3) := H28 1 (by rw [S28]; decide)
  obtain ⟨c31, r31, q31, S31, M31, H31, G31⟩ := id F17
  have i32 := inb_of (j := 0) S31 (by decide)
  have y33 : c31.slots[((0 : Int32)).toNatClampNeg]? = some (.ref o5) := H31 0 (by rw [S31]; decide)
  have F34 := (Fld.ext E2 f3)
  obtain ⟨T35, X35, e35, st35⟩ := own_gF X27 hx hZ hown (w_87 hw) e27 F34 (g := (mkF m 44 #[rv o0, iv 3, rv o4, iv 0, iv 0] [(.ref o0), (.ref o5)])) rfl rfl (hb hby d15_44)
  have F37 := (Arv.ext f4 E2)
  obtain ⟨c36, r36, q36, S36, M36, H36, G36⟩ := id F37
  have i38 := inb_of (j := 0) S36 (by decide)
  have y39 : c36.slots[((0 : Int32)).toNatClampNeg]? = some (.int t0) := H36 0 (by rw [S36]; decide)
  have F40 := (Fld.ext E2 f5)
  obtain ⟨T41, X41, e41, st41⟩ := own_gF X35 hx hZ hown (w_89 hw) e35 F40 (g := (mkF m 51 #[rv o0, iv 3, rv o4, iv 0, iv 0] [(.ref o0), (.int t0), (.ref o5)])) rfl rfl (hb hby d15_51)
  have F43 := (Arv.ext f6 E2)
  obtain ⟨c42, r42, q42, S42, M42, H42, G42⟩ := id F43
  have i44 := inb_of (j := 0) S42 (by decide)
  have y45 : c42.slots[((0 : Int32)).toNatClampNeg]? = some (.double (FP.l2d t4)) := H42 0 (by rw [S42]; decide)
  obtain ⟨c46, r46, q46, S46, M46, H46, G46⟩ := id F18
  have i47 := own_inb (j := t0) S46 d0
  obtain ⟨T48, h48, X48, e48, W48, st48⟩ := stD X41 hx hZ e41 r46 (j := t0) i47 (g := (mkF m 57 #[rv o0, iv 3, rv o4, iv 0, iv 0] [(.double (FP.l2d t4)), (.int t0), (.ref o5)])) rfl rfl (hb hby d15_57)
  have O48 := Old.wr O2 W48 g5
  have KK48 := Keep.wr KK2 W48 (Or.inr s6)
  have N48 := Fr.snoc X48 N1 g5
  have F49 : AD3 Z h48 o5 j4 (own_up t0 0 t4 (0 : Int64)) (own_up t0 1 t4 (0 : Int64)) (own_up t0 2 t4 (0 : Int64)) := own_setD r46 q46 S46 M46 H46 G46 W48 d0
  have ne51 : o0 ≠ o5 := Nat.ne_of_lt (Nat.lt_of_lt_of_le (f0).lt (Nat.le_trans (Nat.le_add_right _ _) (Nat.le_of_eq ((Nat.add_assoc _ _ _).symm.trans g2_0.symm))))
  have F50 := (Fld.other W48 F21 (Or.inl ne51))
  obtain ⟨T52, X52, e52, st52⟩ := own_gF X48 hx hZ hown (w_85 hw) e48 F50 (g := (mkF m 30 #[rv o0, iv 3, rv o4, iv 0, iv 1] [(.ref o0), (.int 1)])) rfl rfl (hb hby d15_30)
  have ne55 : o1 ≠ o5 := Nat.ne_of_lt (Nat.lt_of_lt_of_le (f1).lt (Nat.le_trans (Nat.le_add_right _ _) (Nat.le_of_eq ((Nat.add_assoc _ _ _).symm.trans g2_0.symm))))
  have F54 := (Arv.other F24 W48 ne55)
  obtain ⟨c53, r53, q53, S53, M53, H53, G53⟩ := id F54
  have i56 := inb_of (j := 1) S53 (by decide)
  have y57 : c53.slots[((1 : Int32)).toNatClampNeg]? = some (.int 3) := H53 1 (by rw [S53]; decide)
  have F59 := (Arv.other F17 W48 ne11)
  obtain ⟨c58, r58, q58, S58, M58, H58, G58⟩ := id F59
  have i60 := inb_of (j := 0) S58 (by decide)
  have y61 : c58.slots[((0 : Int32)).toNatClampNeg]? = some (.ref o5) := H58 0 (by rw [S58]; decide)
  have F62 := (Fld.other W48 F34 (Or.inl ne51))
  obtain ⟨T63, X63, e63, st63⟩ := own_gF X52 hx hZ hown (w_87 hw) e52 F62 (g := (mkF m 44 #[rv o0, iv 3, rv o4, iv 0, iv 1] [(.ref o0), (.ref o5)])) rfl rfl (hb hby d15_44)
  have ne66 : o2 ≠ o5 := Nat.ne_of_lt (Nat.lt_of_lt_of_le (f4).lt (Nat.le_trans (Nat.le_add_right _ _) (Nat.le_of_eq ((Nat.add_assoc _ _ _).symm.trans g2_0.symm))))
  have F65 := (Arv.other F37 W48 ne66)
  obtain ⟨c64, r64, q64, S64, M64, H64, G64⟩ := id F65
  have i67 := inb_of (j := 1) S64 (by decide)
  have y68 : c64.slots[((1 : Int32)).toNatClampNeg]? = some (.int t1) := H64 1 (by rw [S64]; decide)
  have F69 := (Fld.other W48 F40 (Or.inl ne51))
  obtain ⟨T70, X70, e70, st70⟩ := own_gF X63 hx hZ hown (w_89 hw) e63 F69 (g := (mkF m 51 #[rv o0, iv 3, rv o4, iv 0, iv 1] [(.ref o0), (.int t1), (.ref o5)])) rfl rfl (hb hby d15_51)
  have ne73 : o3 ≠ o5 := Nat.ne_of_lt (Nat.lt_of_lt_of_le (f6).lt (Nat.le_trans (Nat.le_add_right _ _) (Nat.le_of_eq ((Nat.add_assoc _ _ _).symm.trans g2_0.symm))))
  have F72 := (Arv.other F43 W48 ne73)
  obtain ⟨c71, r71, q71, S71, M71, H71, G71⟩ := id F72
  have i74 := inb_of (j := 1) S71 (by decide)
  have y75 : c71.slots[((1 : Int32)).toNatClampNeg]? = some (.double (FP.l2d t5)) := H71 1 (by rw [S71]; decide)
  obtain ⟨c76, r76, q76, S76, M76, H76, G76⟩ := id F49
  have i77 := own_inb (j := t1) S76 d1
  obtain ⟨T78, h78, X78, e78, W78, st78⟩ := stD X70 hx hZ e70 r76 (j := t1) i77 (g := (mkF m 57 #[rv o0, iv 3, rv o4, iv 0, iv 1] [(.double (FP.l2d t5)), (.int t1), (.ref o5)])) rfl rfl (hb hby d15_57)
  have O78 := Old.wr O48 W78 g5
  have KK78 := Keep.wr KK48 W78 (Or.inr s6)
  have N78 := Fr.snoc X78 N48 g5
  have F79 : AD3 Z h78 o5 j4 (own_up t1 0 t5 (own_up t0 0 t4 (0 : Int64))) (own_up t1 1 t5 (own_up t0 1 t4 (0 : Int64))) (own_up t1 2 t5 (own_up t0 2 t4 (0 : Int64))) := own_setD r76 q76 S76 M76 H76 G76 W78 d1
  have F80 := (Fld.other W78 F50 (Or.inl ne51))
  obtain ⟨T81, X81, e81, st81⟩ := own_gF X78 hx hZ hown (w_85 hw) e78 F80 (g := (mkF m 30 #[rv o0, iv 3, rv o4, iv 0, iv 2] [(.ref o0), (.int 2)])) rfl rfl (hb hby d15_30)
  have F83 := (Arv.other F54 W78 ne55)
  obtain ⟨c82, r82, q82, S82, M82, H82, G82⟩ := id F83
  have i84 := inb_of (j := 1) S82 (by decide)
  have y85 : c82.slots[((1 : Int32)).toNatClampNeg]? = some (.int 3) := H82 1 (by rw [S82]; decide)
  have F87 := (Arv.other F59 W78 ne11)
  obtain ⟨c86, r86, q86, S86, M86, H86, G86⟩ := id F87
  have i88 := inb_of (j := 0) S86 (by decide)
  have y89 : c86.slots[((0 : Int32)).toNatClampNeg]? = some (.ref o5) := H86 0 (by rw [S86]; decide)
  have F90 := (Fld.other W78 F62 (Or.inl ne51))
  obtain ⟨T91, X91, e91, st91⟩ := own_gF X81 hx hZ hown (w_87 hw) e81 F90 (g := (mkF m 44 #[rv o0, iv 3, rv o4, iv 0, iv 2] [(.ref o0), (.ref o5)])) rfl rfl (hb hby d15_44)
  have F93 := (Arv.other F65 W78 ne66)
  obtain ⟨c92, r92, q92, S92, M92, H92, G92⟩ := id F93
  have i94 := inb_of (j := 2) S92 (by decide)
  have y95 : c92.slots[((2 : Int32)).toNatClampNeg]? = some (.int t2) := H92 2 (by rw [S92]; decide)
  have F96 := (Fld.other W78 F69 (Or.inl ne51))
  obtain ⟨T97, X97, e97, st97⟩ := own_gF X91 hx hZ hown (w_89 hw) e91 F96 (g := (mkF m 51 #[rv o0, iv 3, rv o4, iv 0, iv 2] [(.ref o0), (.int t2), (.ref o5)])) rfl rfl (hb hby d15_51)
  have F99 := (Arv.other F72 W78 ne73)
  obtain ⟨c98, r98, q98, S98, M98, H98, G98⟩ := id F99
  have i100 := inb_of (j := 2) S98 (by decide)
  have y101 : c98.slots[((2 : Int32)).toNatClampNeg]? = some (.double (FP.l2d t6)) := H98 2 (by rw [S98]; decide)
  obtain ⟨c102, r102, q102, S102, M102, H102, G102⟩ := id F79
  have i103 := own_inb (j := t2) S102 d2
  obtain ⟨T104, h104, X104, e104, W104, st104⟩ := stD X97 hx hZ e97 r102 (j := t2) i103 (g := (mkF m 57 #[rv o0, iv 3, rv o4, iv 0, iv 2] [(.double (FP.l2d t6)), (.int t2), (.ref o5)])) rfl rfl (hb hby d15_57)
  have O104 := Old.wr O78 W104 g5
  have KK104 := Keep.wr KK78 W104 (Or.inr s6)
  have N104 := Fr.snoc X104 N78 g5
  have F105 : AD3 Z h104 o5 j4 (own_up t2 0 t6 (own_up t1 0 t5 (own_up t0 0 t4 (0 : Int64)))) (own_up t2 1 t6 (own_up t1 1 t5 (own_up t0 1 t4 (0 : Int64)))) (own_up t2 2 t6 (own_up t1 2 t5 (own_up t0 2 t4 (0 : Int64)))) := own_setD r102 q102 S102 M102 H102 G102 W104 d2
  have F106 := (Fld.other W104 F80 (Or.inl ne51))
  obtain ⟨T107, X107, e107, st107⟩ := own_gF X104 hx hZ hown (w_85 hw) e104 F106 (g := (mkF m 30 #[rv o0, iv 3, rv o4, iv 0, iv 3] [(.ref o0), (.int 3)])) rfl rfl (hb hby d15_30)
  have F109 := (Arv.other F83 W104 ne55)
  obtain ⟨c108, r108, q108, S108, M108, H108, G108⟩ := id F109
  have i110 := inb_of (j := 1) S108 (by decide)
  have y111 : c108.slots[((1 : Int32)).toNatClampNeg]? = some (.int 3) := H108 1 (by rw [S108]; decide)
  obtain ⟨T112, X112, e112, st112⟩ := own_gF X107 hx hZ hown (w_85 hw) e107 F106 (g := (mkF m 20 #[rv o0, iv 3, rv o4, iv 1, iv 3] [(.ref o0)])) rfl rfl (hb hby d15_20)
  obtain ⟨c113, r113, q113, S113, M113, H113, G113⟩ := id F109
  have i114 := inb_of (j := 1) S113 (by decide)
  have y115 : c113.slots[((1 : Int32)).toNatClampNeg]? = some (.int 3) := H113 1 (by rw [S113]; decide)
  obtain ⟨T116, X116, e116, st116⟩ := own_gF X112 hx hZ hown (w_85 hw) e112 F106 (g := (mkF m 30 #[rv o0, iv 3, rv o4, iv 1, iv 3] [(.ref o0), (.int 3)])) rfl rfl (hb hby d15_30)
  obtain ⟨c117, r117, q117, S117, M117, H117, G117⟩ := id F109
  have i118 := inb_of (j := 2) S117 (by decide)
  have y119 : c117.slots[((2 : Int32)).toNatClampNeg]? = some (.int 4) := H117 2 (by rw [S117]; decide)
  have F121 := (Arv.other F87 W104 ne11)
  obtain ⟨c120, r120, q120, S120, M120, H120, G120⟩ := id F121
  have i122 := inb_of (j := 1) S120 (by decide)
  have y123 : c120.slots[((1 : Int32)).toNatClampNeg]? = some (.ref o6) := H120 1 (by rw [S120]; decide)
  have F124 := (Fld.other W104 F90 (Or.inl ne51))
  obtain ⟨T125, X125, e125, st125⟩ := own_gF X116 hx hZ hown (w_87 hw) e116 F124 (g := (mkF m 44 #[rv o0, iv 3, rv o4, iv 1, iv 3] [(.ref o0), (.ref o6)])) rfl rfl (hb hby d15_44)
  have F127 := (Arv.other F93 W104 ne66)
  obtain ⟨c126, r126, q126, S126, M126, H126, G126⟩ := id F127
  have i128 := inb_of (j := 3) S126 (by decide)
  have y129 : c126.slots[((3 : Int32)).toNatClampNeg]? = some (.int t3) := H126 3 (by rw [S126]; decide)
  have F130 := (Fld.other W104 F96 (Or.inl ne51))
  obtain ⟨T131, X131, e131, st131⟩ := own_gF X125 hx hZ hown (w_89 hw) e125 F130 (g := (mkF m 51 #[rv o0, iv 3, rv o4, iv 1, iv 3] [(.ref o0), (.int t3), (.ref o6)])) rfl rfl (hb hby d15_51)
  have F133 := (Arv.other F99 W104 ne73)
  obtain ⟨c132, r132, q132, S132, M132, H132, G132⟩ := id F133
  have i134 := inb_of (j := 3) S132 (by decide)
  have y135 : c132.slots[((3 : Int32)).toNatClampNeg]? = some (.double (FP.l2d t7)) := H132 3 (by rw [S132]; decide)
  have F137 := (Arv.other (Arv.other (Arv.other F19 W48 (Ne.symm ne14)) W78 (Ne.symm ne14)) W104 (Ne.symm ne14))
  obtain ⟨c136, r136, q136, S136, M136, H136, G136⟩ := id F137
  have i138 := own_inb (j := t3) S136 d3
  obtain ⟨T139, h139, X139, e139, W139, st139⟩ := stD X131 hx hZ e131 r136 (j := t3) i138 (g := (mkF m 57 #[rv o0, iv 3, rv o4, iv 1, iv 3] [(.double (FP.l2d t7)), (.int t3), (.ref o6)])) rfl rfl (hb hby d15_57)
  have O139 := Old.wr O104 W139 g7
  have KK139 := Keep.wr KK104 W139 (Or.inr s8)
  have N139 := Fr.snoc X139 N104 g7
  have F140 : AD3 Z h139 o6 j4 (own_up t3 0 t7 (0 : Int64)) (own_up t3 1 t7 (0 : Int64)) (own_up t3 2 t7 (0 : Int64)) := own_setD r136 q136 S136 M136 H136 G136 W139 d3
  have ne142 : o0 ≠ o6 := Nat.ne_of_lt (Nat.lt_of_lt_of_le (f0).lt (Nat.le_trans (Nat.le_add_right _ _) (Nat.le_of_eq ((Nat.add_assoc _ _ _).symm.trans g2_1.symm))))
  have F141 := (Fld.other W139 F106 (Or.inl ne142))
  obtain ⟨T143, X143, e143, st143⟩ := own_gF X139 hx hZ hown (w_85 hw) e139 F141 (g := (mkF m 30 #[rv o0, iv 3, rv o4, iv 1, iv 4] [(.ref o0), (.int 4)])) rfl rfl (hb hby d15_30)
  have ne146 : o1 ≠ o6 := Nat.ne_of_lt (Nat.lt_of_lt_of_le (f1).lt (Nat.le_trans (Nat.le_add_right _ _) (Nat.le_of_eq ((Nat.add_assoc _ _ _).symm.trans g2_1.symm))))
  have F145 := (Arv.other F109 W139 ne146)
  obtain ⟨c144, r144, q144, S144, M144, H144, G144⟩ := id F145
  have i147 := inb_of (j := 2) S144 (by decide)
  have y148 : c144.slots[((2 : Int32)).toNatClampNeg]? = some (.int 4) := H144 2 (by rw [S144]; decide)
  obtain ⟨T149, X149, e149, st149⟩ := own_gF X143 hx hZ hown (w_85 hw) e143 F141 (g := (mkF m 20 #[rv o0, iv 3, rv o4, iv 2, iv 4] [(.ref o0)])) rfl rfl (hb hby d15_20)
  obtain ⟨c150, r150, q150, S150, M150, H150, G150⟩ := id F145
  have i151 := inb_of (j := 2) S150 (by decide)
  have y152 : c150.slots[((2 : Int32)).toNatClampNeg]? = some (.int 4) := H150 2 (by rw [S150]; decide)
  obtain ⟨T153, X153, e153, st153⟩ := own_gF X149 hx hZ hown (w_85 hw) e149 F141 (g := (mkF m 30 #[rv o0, iv 3, rv o4, iv 2, iv 4] [(.ref o0), (.int 4)])) rfl rfl (hb hby d15_30)
  obtain ⟨c154, r154, q154, S154, M154, H154, G154⟩ := id F145
  have i155 := inb_of (j := 3) S154 (by decide)
  have y156 : c154.slots[((3 : Int32)).toNatClampNeg]? = some (.int 4) := H154 3 (by rw [S154]; decide)
  have F157 := (Arv.other F121 W139 ne12)
  have F158 := (Arv.other F105 W139 ne14)
  have F159 := (Arv.other (Arv.other (Arv.other (Arv.other F20 W48 (Ne.symm ne15)) W78 (Ne.symm ne15)) W104 (Ne.symm ne15)) W139 (Ne.symm ne16))
  obtain ⟨fs, hr, hrun, hended, hW, hsame⟩ := X153.leave (v := some (.ref o4)) (fun h => by rw [Bd.returns] at h; cases h)
  refine ⟨_, _, (castTop (ef_15 m o0) ?_), hrun, hended, _, _, rfl, ?_, ⟨_, rfl⟩, hW, hsame.mono (by decide) (by decide)⟩
  · show Steps p.tables e below (s₁.setTop (mkF m 0 #[rv o0, .unset, .unset, .unset, .unset] [])) _
    refine oA X0 hx hby d15_0 rfl rfl rfl ?_
    refine st1.trans ?_
    refine XS.istoreN X1.here hx rfl (hb hby d15_4) rfl (l' := #[rv o0, iv 3, .unset, .unset, .unset]) rfl ?_
    refine oI X1 hx hby d15_5 rfl rfl ?_
    refine oI X1 hx hby d15_6 rfl rfl ?_
    refine st2 _ ?_
    refine XS.astoreN X2.here hx rfl (hb hby d15_11) rfl rfl (l' := #[rv o0, iv 3, rv o4, .unset, .unset]) rfl ?_
    refine oK X2 hx hby d15_12 rfl ?_
    refine XS.istoreN X2.here hx rfl (hb hby d15_13) rfl (l' := #[rv o0, iv 3, rv o4, iv 0, .unset]) rfl ?_
    refine oI X2 hx hby d15_14 rfl rfl ?_
    refine oI X2 hx hby d15_15 rfl rfl ?_
    refine XS.icmpNo X2.here hx rfl (hb hby d15_16) rfl (by decide) ?_
    refine oA X2 hx hby d15_19 rfl rfl rfl ?_
    refine st22 _ ?_
    refine oI X22 hx hby d15_23 rfl rfl ?_
    refine oL X22 hx hZ e22 r23 i25 y26 (by exact hb hby d15_24) rfl rfl ?_
    refine XS.istore X22.here hx rfl (hb hby d15_25) rfl (l' := #[rv o0, iv 3, rv o4, iv 0, iv 0]) rfl ?_
    refine oi X22 hx hby d15_27 rfl rfl ?_
    refine oA X22 hx hby d15_29 rfl rfl rfl ?_
    refine st27 _ ?_
    refine oI X27 hx hby d15_33 rfl rfl ?_
    refine oK X27 hx hby d15_34 rfl ?_
    refine XS.iadd X27.here hx rfl (hb hby d15_35) rfl ?_
    show Steps p.tables e below (T27.setTop (mkF m 36 #[rv o0, iv 3, rv o4, iv 0, iv 0] [(.int ((0 : Int32) + (1 : Int32))), (.ref o1), (.int 0)])) _
    rw [(by decide : ((0 : Int32) + (1 : Int32)) = (1 : Int32))]
    refine oL X27 hx hZ e27 r28 i29 y30 (by exact hb hby d15_36) rfl rfl ?_
    refine XS.icmpNo X27.here hx rfl (hb hby d15_37) rfl (by decide) ?_
    refine oA X27 hx hby d15_40 rfl rfl rfl ?_
    refine oI X27 hx hby d15_41 rfl rfl ?_
    refine X27.aaload hx (j := (0 : Int32)) (v := (.ref o5)) (by rw [e27]; exact r31.1) (State.isArrayOf_alike hZ.alike r31.2.1) rfl r31.2.2 i32 y33 (g := (mkF m 42 #[rv o0, iv 3, rv o4, iv 0, iv 0] [(.int 0), (.ref o4)])) rfl rfl (hb hby d15_42) _ ?_
    refine oA X27 hx hby d15_43 rfl rfl rfl ?_
    refine st35 _ ?_
    refine oi X35 hx hby d15_47 rfl rfl ?_
    refine oL X35 hx hZ e35 r36 i38 y39 (by exact hb hby d15_49) rfl rfl ?_
    refine oA X35 hx hby d15_50 rfl rfl rfl ?_
    refine st41 _ ?_
    refine oi X41 hx hby d15_54 rfl rfl ?_
    refine oD X41 hx hZ e41 r42 i44 y45 (by exact hb hby d15_56) rfl rfl ?_
    refine st48 _ ?_
    refine XS.iinc X48.here hx rfl (hb hby d15_58) rfl (l' := #[rv o0, iv 3, rv o4, iv 0, iv ((0 : Int32) + (1 : Int32))]) rfl ?_
    show Steps p.tables e below (T48.setTop (mkF m 61 #[rv o0, iv 3, rv o4, iv 0, iv 1] [])) _
    refine XS.goto X48.here hx rfl (pc0 := 61) (pc' := 27) rfl (hb hby d15_61) (by decide) (by decide) ?_
    refine oi X48 hx hby d15_27 rfl rfl ?_
    refine oA X48 hx hby d15_29 rfl rfl rfl ?_
    refine st52 _ ?_
    refine oI X52 hx hby d15_33 rfl rfl ?_
    refine oK X52 hx hby d15_34 rfl ?_
    refine XS.iadd X52.here hx rfl (hb hby d15_35) rfl ?_
    show Steps p.tables e below (T52.setTop (mkF m 36 #[rv o0, iv 3, rv o4, iv 0, iv 1] [(.int ((0 : Int32) + (1 : Int32))), (.ref o1), (.int 1)])) _
    rw [(by decide : ((0 : Int32) + (1 : Int32)) = (1 : Int32))]
    refine oL X52 hx hZ e52 r53 i56 y57 (by exact hb hby d15_36) rfl rfl ?_
    refine XS.icmpNo X52.here hx rfl (hb hby d15_37) rfl (by decide) ?_
    refine oA X52 hx hby d15_40 rfl rfl rfl ?_
    refine oI X52 hx hby d15_41 rfl rfl ?_
    refine X52.aaload hx (j := (0 : Int32)) (v := (.ref o5)) (by rw [e52]; exact r58.1) (State.isArrayOf_alike hZ.alike r58.2.1) rfl r58.2.2 i60 y61 (g := (mkF m 42 #[rv o0, iv 3, rv o4, iv 0, iv 1] [(.int 0), (.ref o4)])) rfl rfl (hb hby d15_42) _ ?_
    refine oA X52 hx hby d15_43 rfl rfl rfl ?_
    refine st63 _ ?_
    refine oi X63 hx hby d15_47 rfl rfl ?_
    refine oL X63 hx hZ e63 r64 i67 y68 (by exact hb hby d15_49) rfl rfl ?_
    refine oA X63 hx hby d15_50 rfl rfl rfl ?_
    refine st70 _ ?_
    refine oi X70 hx hby d15_54 rfl rfl ?_
    refine oD X70 hx hZ e70 r71 i74 y75 (by exact hb hby d15_56) rfl rfl ?_
    refine st78 _ ?_
    refine XS.iinc X78.here hx rfl (hb hby d15_58) rfl (l' := #[rv o0, iv 3, rv o4, iv 0, iv ((1 : Int32) + (1 : Int32))]) rfl ?_
    show Steps p.tables e below (T78.setTop (mkF m 61 #[rv o0, iv 3, rv o4, iv 0, iv 2] [])) _
    refine XS.goto X78.here hx rfl (pc0 := 61) (pc' := 27) rfl (hb hby d15_61) (by decide) (by decide) ?_
    refine oi X78 hx hby d15_27 rfl rfl ?_
    refine oA X78 hx hby d15_29 rfl rfl rfl ?_
    refine st81 _ ?_
    refine oI X81 hx hby d15_33 rfl rfl ?_
    refine oK X81 hx hby d15_34 rfl ?_
    refine XS.iadd X81.here hx rfl (hb hby d15_35) rfl ?_
    show Steps p.tables e below (T81.setTop (mkF m 36 #[rv o0, iv 3, rv o4, iv 0, iv 2] [(.int ((0 : Int32) + (1 : Int32))), (.ref o1), (.int 2)])) _
    rw [(by decide : ((0 : Int32) + (1 : Int32)) = (1 : Int32))]
    refine oL X81 hx hZ e81 r82 i84 y85 (by exact hb hby d15_36) rfl rfl ?_
    refine XS.icmpNo X81.here hx rfl (hb hby d15_37) rfl (by decide) ?_
    refine oA X81 hx hby d15_40 rfl rfl rfl ?_
    refine oI X81 hx hby d15_41 rfl rfl ?_
    refine X81.aaload hx (j := (0 : Int32)) (v := (.ref o5)) (by rw [e81]; exact r86.1) (State.isArrayOf_alike hZ.alike r86.2.1) rfl r86.2.2 i88 y89 (g := (mkF m 42 #[rv o0, iv 3, rv o4, iv 0, iv 2] [(.int 0), (.ref o4)])) rfl rfl (hb hby d15_42) _ ?_
    refine oA X81 hx hby d15_43 rfl rfl rfl ?_
    refine st91 _ ?_
    refine oi X91 hx hby d15_47 rfl rfl ?_
    refine oL X91 hx hZ e91 r92 i94 y95 (by exact hb hby d15_49) rfl rfl ?_
    refine oA X91 hx hby d15_50 rfl rfl rfl ?_
    refine st97 _ ?_
    refine oi X97 hx hby d15_54 rfl rfl ?_
    refine oD X97 hx hZ e97 r98 i100 y101 (by exact hb hby d15_56) rfl rfl ?_
    refine st104 _ ?_
    refine XS.iinc X104.here hx rfl (hb hby d15_58) rfl (l' := #[rv o0, iv 3, rv o4, iv 0, iv ((2 : Int32) + (1 : Int32))]) rfl ?_
    show Steps p.tables e below (T104.setTop (mkF m 61 #[rv o0, iv 3, rv o4, iv 0, iv 3] [])) _
    refine XS.goto X104.here hx rfl (pc0 := 61) (pc' := 27) rfl (hb hby d15_61) (by decide) (by decide) ?_
    refine oi X104 hx hby d15_27 rfl rfl ?_
    refine oA X104 hx hby d15_29 rfl rfl rfl ?_
    refine st107 _ ?_
    refine oI X107 hx hby d15_33 rfl rfl ?_
    refine oK X107 hx hby d15_34 rfl ?_
    refine XS.iadd X107.here hx rfl (hb hby d15_35) rfl ?_
    show Steps p.tables e below (T107.setTop (mkF m 36 #[rv o0, iv 3, rv o4, iv 0, iv 3] [(.int ((0 : Int32) + (1 : Int32))), (.ref o1), (.int 3)])) _
    rw [(by decide : ((0 : Int32) + (1 : Int32)) = (1 : Int32))]
    refine oL X107 hx hZ e107 r108 i110 y111 (by exact hb hby d15_36) rfl rfl ?_
    refine XS.icmpYes X107.here hx rfl (pc0 := 37) (pc' := 64) rfl (hb hby d15_37) rfl (by decide) (by decide) (by decide) ?_
    refine XS.iinc X107.here hx rfl (hb hby d15_64) rfl (l' := #[rv o0, iv 3, rv o4, iv ((0 : Int32) + (1 : Int32)), iv 3]) rfl ?_
    show Steps p.tables e below (T107.setTop (mkF m 67 #[rv o0, iv 3, rv o4, iv 1, iv 3] [])) _
    refine XS.goto X107.here hx rfl (pc0 := 67) (pc' := 14) rfl (hb hby d15_67) (by decide) (by decide) ?_
    refine oI X107 hx hby d15_14 rfl rfl ?_
    refine oI X107 hx hby d15_15 rfl rfl ?_
    refine XS.icmpNo X107.here hx rfl (hb hby d15_16) rfl (by decide) ?_
    refine oA X107 hx hby d15_19 rfl rfl rfl ?_
    refine st112 _ ?_
    refine oI X112 hx hby d15_23 rfl rfl ?_
    refine oL X112 hx hZ e112 r113 i114 y115 (by exact hb hby d15_24) rfl rfl ?_
    refine XS.istore X112.here hx rfl (hb hby d15_25) rfl (l' := #[rv o0, iv 3, rv o4, iv 1, iv 3]) rfl ?_
    refine oi X112 hx hby d15_27 rfl rfl ?_
    refine oA X112 hx hby d15_29 rfl rfl rfl ?_
    refine st116 _ ?_
    refine oI X116 hx hby d15_33 rfl rfl ?_
    refine oK X116 hx hby d15_34 rfl ?_
    refine XS.iadd X116.here hx rfl (hb hby d15_35) rfl ?_
    show Steps p.tables e below (T116.setTop (mkF m 36 #[rv o0, iv 3, rv o4, iv 1, iv 3] [(.int ((1 : Int32) + (1 : Int32))), (.ref o1), (.int 3)])) _
    rw [(by decide : ((1 : Int32) + (1 : Int32)) = (2 : Int32))]
    refine oL X116 hx hZ e116 r117 i118 y119 (by exact hb hby d15_36) rfl rfl ?_
    refine XS.icmpNo X116.here hx rfl (hb hby d15_37) rfl (by decide) ?_
    refine oA X116 hx hby d15_40 rfl rfl rfl ?_
    refine oI X116 hx hby d15_41 rfl rfl ?_
    refine X116.aaload hx (j := (1 : Int32)) (v := (.ref o6)) (by rw [e116]; exact r120.1) (State.isArrayOf_alike hZ.alike r120.2.1) rfl r120.2.2 i122 y123 (g := (mkF m 42 #[rv o0, iv 3, rv o4, iv 1, iv 3] [(.int 1), (.ref o4)])) rfl rfl (hb hby d15_42) _ ?_
    refine oA X116 hx hby d15_43 rfl rfl rfl ?_
    refine st125 _ ?_
    refine oi X125 hx hby d15_47 rfl rfl ?_
    refine oL X125 hx hZ e125 r126 i128 y129 (by exact hb hby d15_49) rfl rfl ?_
    refine oA X125 hx hby d15_50 rfl rfl rfl ?_
    refine st131 _ ?_
    refine oi X131 hx hby d15_54 rfl rfl ?_
    refine oD X131 hx hZ e131 r132 i134 y135 (by exact hb hby d15_56) rfl rfl ?_
    refine st139 _ ?_
    refine XS.iinc X139.here hx rfl (hb hby d15_58) rfl (l' := #[rv o0, iv 3, rv o4, iv 1, iv ((3 : Int32) + (1 : Int32))]) rfl ?_
    show Steps p.tables e below (T139.setTop (mkF m 61 #[rv o0, iv 3, rv o4, iv 1, iv 4] [])) _
    refine XS.goto X139.here hx rfl (pc0 := 61) (pc' := 27) rfl (hb hby d15_61) (by decide) (by decide) ?_
    refine oi X139 hx hby d15_27 rfl rfl ?_
    refine oA X139 hx hby d15_29 rfl rfl rfl ?_
    refine st143 _ ?_
    refine oI X143 hx hby d15_33 rfl rfl ?_
    refine oK X143 hx hby d15_34 rfl ?_
    refine XS.iadd X143.here hx rfl (hb hby d15_35) rfl ?_
    show Steps p.tables e below (T143.setTop (mkF m 36 #[rv o0, iv 3, rv o4, iv 1, iv 4] [(.int ((1 : Int32) + (1 : Int32))), (.ref o1), (.int 4)])) _
    rw [(by decide : ((1 : Int32) + (1 : Int32)) = (2 : Int32))]
    refine oL X143 hx hZ e143 r144 i147 y148 (by exact hb hby d15_36) rfl rfl ?_
    refine XS.icmpYes X143.here hx rfl (pc0 := 37) (pc' := 64) rfl (hb hby d15_37) rfl (by decide) (by decide) (by decide) ?_
    refine XS.iinc X143.here hx rfl (hb hby d15_64) rfl (l' := #[rv o0, iv 3, rv o4, iv ((1 : Int32) + (1 : Int32)), iv 4]) rfl ?_
    show Steps p.tables e below (T143.setTop (mkF m 67 #[rv o0, iv 3, rv o4, iv 2, iv 4] [])) _
    refine XS.goto X143.here hx rfl (pc0 := 67) (pc' := 14) rfl (hb hby d15_67) (by decide) (by decide) ?_
    refine oI X143 hx hby d15_14 rfl rfl ?_
    refine oI X143 hx hby d15_15 rfl rfl ?_
    refine XS.icmpNo X143.here hx rfl (hb hby d15_16) rfl (by decide) ?_
    refine oA X143 hx hby d15_19 rfl rfl rfl ?_
    refine st149 _ ?_
    refine oI X149 hx hby d15_23 rfl rfl ?_
    refine oL X149 hx hZ e149 r150 i151 y152 (by exact hb hby d15_24) rfl rfl ?_
    refine XS.istore X149.here hx rfl (hb hby d15_25) rfl (l' := #[rv o0, iv 3, rv o4, iv 2, iv 4]) rfl ?_
    refine oi X149 hx hby d15_27 rfl rfl ?_
    refine oA X149 hx hby d15_29 rfl rfl rfl ?_
    refine st153 _ ?_
    refine oI X153 hx hby d15_33 rfl rfl ?_
    refine oK X153 hx hby d15_34 rfl ?_
    refine XS.iadd X153.here hx rfl (hb hby d15_35) rfl ?_
    show Steps p.tables e below (T153.setTop (mkF m 36 #[rv o0, iv 3, rv o4, iv 2, iv 4] [(.int ((2 : Int32) + (1 : Int32))), (.ref o1), (.int 4)])) _
    rw [(by decide : ((2 : Int32) + (1 : Int32)) = (3 : Int32))]
    refine oL X153 hx hZ e153 r154 i155 y156 (by exact hb hby d15_36) rfl rfl ?_
    refine XS.icmpYes X153.here hx rfl (pc0 := 37) (pc' := 64) rfl (hb hby d15_37) rfl (by decide) (by decide) (by decide) ?_
    refine XS.iinc X153.here hx rfl (hb hby d15_64) rfl (l' := #[rv o0, iv 3, rv o4, iv ((2 : Int32) + (1 : Int32)), iv 4]) rfl ?_
    show Steps p.tables e below (T153.setTop (mkF m 67 #[rv o0, iv 3, rv o4, iv 3, iv 4] [])) _
    refine XS.goto X153.here hx rfl (pc0 := 67) (pc' := 14) rfl (hb hby d15_67) (by decide) (by decide) ?_
    refine oI X153 hx hby d15_14 rfl rfl ?_
    refine oI X153 hx hby d15_15 rfl rfl ?_
    refine XS.icmpYes X153.here hx rfl (pc0 := 16) (pc' := 70) rfl (hb hby d15_16) rfl (by decide) (by decide) (by decide) ?_
    refine oA X153 hx hby d15_70 rfl rfl rfl ?_
    exact retOut X153 hx Bd.returns rfl (Or.inr (Or.inr (Or.inr (Or.inr ⟨rfl, rfl, rfl⟩)))) (hb hby d15_71) hr
  · show Q15_0 Z t0 t1 t2 t3 t4 t5 t6 t7 o0 o1 o2 o3 j0 j1 j2 h0 n0 _ T153.heap _
    rw [e153]
    exact ⟨o4, o5, o6, o7, j3, j4, rfl, N139, KK139, s4, s6, s8, s10, ne11, ne12, ne13, ne14, ne15, ne16, F157, F158, F140, F159⟩
theorem sg_7 {p : Program} {l : Launch} {e : Env} {s : State} {m : MethodId} {args : Array Value} {below : List Frame} {meth : Method} {c : Code} {T0 : State} {locs : List Loc} {Z : State} {a0 : Array Value} {h0 : Heap} {n0 : Nat} (hw : HW a0 Z) (t0 t1 t2 : Int32) (t3 t4 t5 : Int64) (t6 t7 t8 t9 t10 : Int32) (t11 t12 t13 : Int64) (t14 t15 t16 t17 t18 t19 t20 t21 t22 : Int32) (o0 o1 o2 o3 o4 o5 o6 : Addr) (j0 j1 j2 j3 j4 j5 : ClassId)
    (X0 : Stand p l e room_1 s m args below meth c T0 locs 7 29) (hx : p.tables.exec = Jvm.exec) (hZ : Z.Warmed39 s.vm) (hby : c.code = code) (hml : c.maxLocals = 14) (hown : s.vm.findClass kL = some m.cls) (e0 : T0.heap = h0) (N0 : Fr n0 locs) (OO : Old Z n0 h0) (f0 : fB2 Z h0 o0 (.ref o1)) (f1 : AZ3 Z h0 o1 j0 0 0 0) (f2 : fB3 Z h0 o0 (.ref o2)) (f3 : fB7 Z h0 o0 (.int 0)) (f4 : Exa Z h0 o0 kB) (f5 : AI3 Z h0 o2 j1 t0 t1 t2) (f6 : fB1 Z h0 o0 (.ref o3)) (f7 : AD3 Z h0 o3 j2 t3 t4 t5) (f8 : fB0 Z h0 o0 (.int 3)) (f9 : fB4 Z h0 o0 (.ref o4)) (f10 : fB5 Z h0 o0 (.ref o5)) (f11 : fB6 Z h0 o0 (.ref o6)) (f12 : fB8 Z h0 o0 (.int 3)) (f13 : fB9 Z h0 o0 (.int 1)) (d0 : own_in3 t6) (u0 : n0 ≤ o1) (v0 : o0 ≠ o1) (u1 : n0 ≤ o0) (v1 : o2 ≠ o1) (v2 : o2 ≠ o0) (u2 : n0 ≤ o2) (v3 : o3 ≠ o1) (v4 : o3 ≠ o0) (v5 : o3 ≠ o2) (d1 : B53 (own_pk t6 t3 t4 t5)) (d2 : B53 (t7.toInt64)) (u3 : n0 ≤ o3) (f14 : AI3 Z h0 o5 j3 t8 t9 t10) (f15 : AD3 Z h0 o6 j4 t11 t12 t13) (f16 : AI4 Z h0 o4 j5 0 3 t14 t15) (v6 : o5 ≠ o1) (v7 : o5 ≠ o0) (v8 : o5 ≠ o2) (v9 : o5 ≠ o3) (v10 : o6 ≠ o1) (v11 : o6 ≠ o0) (v12 : o6 ≠ o2) (v13 : o6 ≠ o3) (v14 : o4 ≠ o1) (v15 : o4 ≠ o0) (v16 : o4 ≠ o2) (v17 : o4 ≠ o3) (u4 : n0 ≤ o4) (d3 : own_in3 t8) (d4 : own_in3 t9) (d5 : own_in3 t10) :
    ∃ (T' : State) (h' : Heap) (lc : List Loc) (o7 o8 o9 o10 o11 o12 o13 o14 o15 : Addr) (j6 j7 j8 j9 j10 j11 : ClassId), Stand p l e room_1 s m args below meth c T' lc 16 64 ∧ T'.heap = h' ∧ Fr n0 lc ∧ Keep h0 h' [o3, o2, o0, o1, o4] ∧ h0.size ≤ o7 ∧ h0.size ≤ o8 ∧ h0.size ≤ o9 ∧ h0.size ≤ o10 ∧ h0.size ≤ o11 ∧ h0.size ≤ o12 ∧ h0.size ≤ o13 ∧ h0.size ≤ o14 ∧ h0.size ≤ o15 ∧ o7 ≠ o8 ∧ o7 ≠ o9 ∧ o7 ≠ o10 ∧ o7 ≠ o11 ∧ o7 ≠ o12 ∧ o7 ≠ o13 ∧ o7 ≠ o14 ∧ o7 ≠ o15 ∧ o8 ≠ o9 ∧ o8 ≠ o10 ∧ o8 ≠ o11 ∧ o8 ≠ o12 ∧ o8 ≠ o13 ∧ o8 ≠ o14 ∧ o8 ≠ o15 ∧ o9 ≠ o10 ∧ o9 ≠ o11 ∧ o9 ≠ o12 ∧ o9 ≠ o13 ∧ o9 ≠ o14 ∧ o9 ≠ o15 ∧ o10 ≠ o11 ∧ o10 ≠ o12 ∧ o10 ≠ o13 ∧ o10 ≠ o14 ∧ o10 ≠ o15 ∧ o11 ≠ o12 ∧ o11 ≠ o13 ∧ o11 ≠ o14 ∧ o11 ≠ o15 ∧ o12 ≠ o13 ∧ o12 ≠ o14 ∧ o12 ≠ o15 ∧ o13 ≠ o14 ∧ o13 ≠ o15 ∧ o14 ≠ o15 ∧ AI6 Z h' o7 j6 t8 t9 t10 t6 0 0 ∧ AD6 Z h' o8 j7 t11 t12 t13 (own_pk t6 (t3 + (own_pt t6 0 (t7.toInt64))) (t4 + (own_pt t6 1 (t7.toInt64))) (t5 + (own_pt t6 2 (t7.toInt64)))) 0 0 ∧ Exa Z h' o9 kM ∧ fM10 Z h' o9 (.ref o4) ∧ fM11 Z h' o9 (.ref o10) ∧ fM12 Z h' o9 (.ref o11) ∧ AI4 Z h' o10 j8 t8 t9 t10 t6 ∧ AD4 Z h' o11 j9 t11 t12 t13 (own_pk t6 (t3 + (own_pt t6 0 (t7.toInt64))) (t4 + (own_pt t6 1 (t7.toInt64))) (t5 + (own_pt t6 2 (t7.toInt64)))) ∧ Arv Z h' o12 j10 (.array .double) (3 : Int32) [(.ref o13), (.ref o14), (.ref o15)] .null ∧ AD3 Z h' o13 j11 (own_up t10 0 t13 (own_up t9 0 t12 (own_up t8 0 t11 (0 : Int64)))) (own_up t10 1 t13 (own_up t9 1 t12 (own_up t8 1 t11 (0 : Int64)))) (own_up t10 2 t13 (own_up t9 2 t12 (own_up t8 2 t11 (0 : Int64)))) ∧ AD3 Z h' o14 j11 (own_up t6 0 (own_pk t6 (t3 + (own_pt t6 0 (t7.toInt64))) (t4 + (own_pt t6 1 (t7.toInt64))) (t5 + (own_pt t6 2 (t7.toInt64)))) (0 : Int64)) (own_up t6 1 (own_pk t6 (t3 + (own_pt t6 0 (t7.toInt64))) (t4 + (own_pt t6 1 (t7.toInt64))) (t5 + (own_pt t6 2 (t7.toInt64)))) (0 : Int64)) (own_up t6 2 (own_pk t6 (t3 + (own_pt t6 0 (t7.toInt64))) (t4 + (own_pt t6 1 (t7.toInt64))) (t5 + (own_pt t6 2 (t7.toInt64)))) (0 : Int64)) ∧ AD3 Z h' o15 j11 0 0 0 ∧ AD3 Z h' o3 j2 (own_up t6 0 (0 : Int64) (t3 + (own_pt t6 0 (t7.toInt64)))) (own_up t6 1 (0 : Int64) (t4 + (own_pt t6 1 (t7.toInt64)))) (own_up t6 2 (0 : Int64) (t5 + (own_pt t6 2 (t7.toInt64)))) ∧ AI3 Z h' o2 j1 t6 t1 t2 ∧ fB2 Z h' o0 (.ref o1) ∧ fB3 Z h' o0 (.ref o2) ∧ fB7 Z h' o0 (.int 0) ∧ Exa Z h' o0 kB ∧ fB1 Z h' o0 (.ref o3) ∧ fB0 Z h' o0 (.int 3) ∧ fB4 Z h' o0 (.ref o4) ∧ fB5 Z h' o0 (.ref o7) ∧ fB6 Z h' o0 (.ref o8) ∧ fB8 Z h' o0 (.int 4) ∧ fB9 Z h' o0 (.int 3) ∧ AZ3 Z h' o1 j0 (own_ui t6 0 0 (own_ui t6 0 1 0)) (own_ui t6 1 0 (own_ui t6 1 1 0)) (own_ui t6 2 0 (own_ui t6 2 1 0)) ∧ AI4 Z h' o4 j5 0 3 4 4 ∧
      ∀ target, Steps p.tables e below (T'.setTop (mkF m 121 #[iv t16, iv t17, iv t18, iv t19, iv t7, iv t20, iv t21, iv t22, iv t6, rv o0, rv o9, rv o12, .unset, .unset] [])) target → Steps p.tables e below (T0.setTop (mkF m 87 #[iv t16, iv t17, iv t18, iv t19, iv t7, iv t20, iv t21, iv t22, iv t6, rv o0, .unset, .unset, .unset, .unset] [])) target := by
  obtain ⟨cq1, kq1, q1a, q1b, q1c⟩ := isOf hZ e0 f4
  obtain ⟨_, _, ⟨T1, L1, k1, n1⟩, -, X1, ⟨Lc1, hQ1, l1, y1, z1⟩, st1⟩ := X0.virtualBack hx (y := (⟨kB, "add", "(ID)V"⟩ : MethodName)) (z := (⟨kB, "add", "(ID)V"⟩ : MethodName)) hown (mvT hZ (w_26 hw)) (mvT hZ (w_27 hw)) (notFace_of_selects (args := #[]) (mvT hZ (w_29 hw))) (mvT hZ (w_29 hw)) (mvT hZ (w_28 hw)) (by decide) (backOf (W := 0) (rm3_0 l Z a0 hw [] t6 t0 t1 t2 t3 t4 t5 (t7.toInt64) (3 : Int32) (3 : Int32) (1 : Int32) o0 o1 o2 o3 o4 o5 o6 j0 j1 j2 h0 n0 OO f0 f1 d0 u0 f2 v0 f3 f4 u1 f5 v1 v2 u2 f6 f7 v3 v4 v5 d1 d2 u3 f8 f9 f10 f11 f12 f13) hZ (w_30 hw) (w_2 hw) (by decide) (by decide)) q1a q1c (g := (mkF m 94 #[iv t16, iv t17, iv t18, iv t19, iv t7, iv t20, iv t21, iv t22, iv t6, rv o0, .unset, .unset, .unset, .unset] [(.double (FP.l2d (t7.toInt64))), (.int t6), (.ref o0)])) rfl (by rw [hml]; rfl) (Steps.refl _) (argsL := [(.int t6), (.double (FP.l2d (t7.toInt64)))]) (rest := []) (lenOf pd_1 rfl) rfl (by show 2 * 0 + _ ≤ _; exact Nat.le_of_eq rfl) (hb hby at_94) (fun _ _ => ⟨rfl, e0, (by decide : 7 + 0 ≤ _), (by decide : 29 + 0 ≤ _)⟩)
  dsimp only [Pt.U, Pt.locs, Pt.cells, Pt.slots] at X1 l1 y1 z1 st1 hQ1
  subst l1 y1 z1
  obtain ⟨h1, e1⟩ : ∃ z, T1.heap = z := ⟨_, rfl⟩
  rw [e1] at hQ1
  obtain ⟨rfl, N1q, K1, R1_0, R1_1, R1_2, R1_3, R1_4, R1_5, R1_6, R1_7, R1_8, R1_9, R1_10, R1_11, R1_12, R1_13⟩ := hQ1
  have N1 := Fr.app N0 N1q
  have O1 := Old.keep OO K1 (allS u0 (allS u1 (allS u2 (allS u3 all0))))
  have KK1 := Keep.trans (Keep.refl h0 [o3, o2, o0, o1, o4]) K1 (allS (Or.inl (own_m 3 rfl)) (allS (Or.inl (own_m 2 rfl)) (allS (Or.inl (own_m 1 rfl)) (allS (Or.inl (own_m 0 rfl)) all0))))
  have F3 := (Arv.keep f14 K1 (ninS v6 (ninS v7 (ninS v8 (ninS v9 nin0)))))
  have F4 := (Arv.keep f15 K1 (ninS v10 (ninS v11 (ninS v12 (ninS v13 nin0)))))
  have F5 := (Arv.keep f16 K1 (ninS v14 (ninS v15 (ninS v16 (ninS v17 nin0)))))
  obtain ⟨cq2, kq2, q2a, q2b, q2c⟩ := isOf hZ e1 R1_4
  obtain ⟨_, _, ⟨T2, L2, k2, n2⟩, -, X2, ⟨Lc2, hQ2, l2, y2, z2⟩, st2⟩ := X1.virtualBack hx (y := (⟨kB, "endRow", "()V"⟩ : MethodName)) (z := (⟨kB, "endRow", "()V"⟩ : MethodName)) hown (mvT hZ (w_33 hw)) (mvT hZ (w_34 hw)) (notFace_of_selects (args := #[]) (mvT hZ (w_36 hw))) (mvT hZ (w_36 hw)) (mvT hZ (w_35 hw)) (by decide) (backOf (W := 0) (rm4_1 l Z a0 hw [] t8 t9 t10 t11 t12 t13 t6 t1 t2 (t3 + (own_pt t6 0 (t7.toInt64))) (t4 + (own_pt t6 1 (t7.toInt64))) (t5 + (own_pt t6 2 (t7.toInt64))) (own_ui t6 0 1 0) (own_ui t6 1 1 0) (own_ui t6 2 1 0) (0 : Int32) (3 : Int32) t14 t15 (3 : Int32) o0 o5 o6 o2 o3 o1 o4 j3 j4 j1 j2 j0 j5 h1 n0 O1 R1_10 R1_3 R1_8 F3 R1_4 u1 R1_9 F4 v11 R1_2 R1_12 v2 u2 R1_5 R1_13 v4 v5 d0 u3 R1_1 R1_0 (Ne.symm v0) (Ne.symm v1) (Ne.symm v3) u0 R1_11 R1_7 F5 v15 v16 v17 v14 u4 R1_6) hZ (w_37 hw) (w_2 hw) (by decide) (by decide)) q2a q2c (g := (mkF m 99 #[iv t16, iv t17, iv t18, iv t19, iv t7, iv t20, iv t21, iv t22, iv t6, rv o0, .unset, .unset, .unset, .unset] [(.ref o0)])) rfl (by rw [hml]; rfl) (Steps.refl _) (argsL := []) (rest := []) (lenOf pd_6 rfl) rfl (by show 2 * 0 + _ ≤ _; exact Nat.le_of_eq rfl) (hb hby at_99) (fun _ _ => ⟨rfl, e1, (by decide : 7 + 2 ≤ _), (by decide : 29 + 12 ≤ _)⟩)
  dsimp only [Pt.U, Pt.locs, Pt.cells, Pt.slots] at X2 l2 y2 z2 st2 hQ2
  subst l2 y2 z2
  obtain ⟨h2, e2⟩ : ∃ z, T2.heap = z := ⟨_, rfl⟩
  rw [e2] at hQ2
  obtain ⟨o7, o8, j6, j7, rfl, N2q, K2, sp2_o7, sp2_o8, ne2_o7_o8, R2_0, R2_1, R2_2, R2_3, R2_4, R2_5, R2_6, R2_7, R2_8, R2_9, R2_10, R2_11, R2_12, R2_13, R2_14, R2_15, R2_16⟩ := hQ2
  have N2 := Fr.app N1 N2q
  have g6 : n0 ≤ o7 := Nat.le_trans (own_le O1) sp2_o7
  have s7 : h0.size ≤ o7 := Nat.le_trans (KK1).1 sp2_o7
  have g8 : n0 ≤ o8 := Nat.le_trans (own_le O1) sp2_o8
  have s9 : h0.size ≤ o8 := Nat.le_trans (KK1).1 sp2_o8
  have O2 := Old.keep O1 K2 (allS u1 (allS u2 (allS u3 (allS u0 (allS u4 all0)))))
  have KK2 := Keep.trans KK1 K2 (allS (Or.inl (own_m 2 rfl)) (allS (Or.inl (own_m 1 rfl)) (allS (Or.inl (own_m 0 rfl)) (allS (Or.inl (own_m 3 rfl)) (allS (Or.inl (own_m 4 rfl)) all0)))))
  obtain ⟨cq10, kq10, q10a, q10b, q10c⟩ := isOf hZ e2 R2_5
  obtain ⟨_, _, ⟨T10, L10, k10, n10⟩, -, X10, ⟨Lc10, hQ10, l10, y10, z10⟩, st10⟩ := X2.virtualBack hx (y := (⟨kB, "endRow", "()V"⟩ : MethodName)) (z := (⟨kB, "endRow", "()V"⟩ : MethodName)) hown (mvT hZ (w_33 hw)) (mvT hZ (w_34 hw)) (notFace_of_selects (args := #[]) (mvT hZ (w_36 hw))) (mvT hZ (w_36 hw)) (mvT hZ (w_35 hw)) (by decide) (backOf (W := 0) (rm4_2 l Z a0 hw [] (4 : Int32) t8 t9 t10 t6 (0 : Int32) (0 : Int32) t6 t1 t2 (0 : Int32) (3 : Int32) (4 : Int32) t15 (3 : Int32) o0 o7 o2 o4 o1 o3 o8 j6 j1 j5 h2 n0 O2 R2_2 R2_3 R2_4 R2_0 (by decide) R2_7 R2_13 u2 (Ne.symm v2) R2_5 u1 R2_10 R2_11 R2_16 v16 v15 u4 R2_9 R2_8 R2_12 R2_6) hZ (w_37 hw) (w_2 hw) (by decide) (by decide)) q10a q10c (g := (mkF m 104 #[iv t16, iv t17, iv t18, iv t19, iv t7, iv t20, iv t21, iv t22, iv t6, rv o0, .unset, .unset, .unset, .unset] [(.ref o0)])) rfl (by rw [hml]; rfl) (Steps.refl _) (argsL := []) (rest := []) (lenOf pd_6 rfl) rfl (by show 2 * 0 + _ ≤ _; exact Nat.le_of_eq rfl) (hb hby at_104) (fun _ _ => ⟨rfl, e2, (by decide : 9 + 0 ≤ _), (by decide : 41 + 0 ≤ _)⟩)
  dsimp only [Pt.U, Pt.locs, Pt.cells, Pt.slots] at X10 l10 y10 z10 st10 hQ10
  subst l10 y10 z10
  obtain ⟨h10, e10⟩ : ∃ z, T10.heap = z := ⟨_, rfl⟩
  rw [e10] at hQ10
  obtain ⟨rfl, N10q, K10, R10_0, R10_1, R10_2, R10_3, R10_4, R10_5, R10_6, R10_7, R10_8, R10_9, R10_10, R10_11, R10_12⟩ := hQ10
  have N10 := Fr.app N2 N10q
  have O10 := Old.keep O2 K10 (allS u2 (allS u1 (allS u4 all0)))
  have KK10 := Keep.trans KK2 K10 (allS (Or.inl (own_m 1 rfl)) (allS (Or.inl (own_m 2 rfl)) (allS (Or.inl (own_m 4 rfl)) all0)))
  have ne13 : o2 ≠ o7 := Nat.ne_of_lt (Nat.lt_of_lt_of_le (R1_12).lt sp2_o7)
  have ne14 : o0 ≠ o7 := Nat.ne_of_lt (Nat.lt_of_lt_of_le (R1_1).lt sp2_o7)
  have ne15 : o4 ≠ o7 := Nat.ne_of_lt (Nat.lt_of_lt_of_le (F5).lt sp2_o7)
  have F12 := (Arv.keep R2_0 K10 (ninS (Ne.symm ne13) (ninS (Ne.symm ne14) (ninS (Ne.symm ne15) nin0))))
  have ne17 : o2 ≠ o8 := Nat.ne_of_lt (Nat.lt_of_lt_of_le (R1_12).lt sp2_o8)
  have ne18 : o0 ≠ o8 := Nat.ne_of_lt (Nat.lt_of_lt_of_le (R1_1).lt sp2_o8)
  have ne19 : o4 ≠ o8 := Nat.ne_of_lt (Nat.lt_of_lt_of_le (F5).lt sp2_o8)
  have F16 := (Arv.keep R2_1 K10 (ninS (Ne.symm ne17) (ninS (Ne.symm ne18) (ninS (Ne.symm ne19) nin0))))
  obtain ⟨cq11, kq11, q11a, q11b, q11c⟩ := isOf hZ e10 R10_5
  obtain ⟨_, _, ⟨T11, L11, k11, n11⟩, -, X11, ⟨Lc11, hQ11, l11, y11, z11⟩, st11⟩ := X10.virtualBack hx (y := (⟨kB, "build", "()Lcom/example/rekurze/rekurze/numeric/SparseMatrix;"⟩ : MethodName)) (z := (⟨kB, "build", "()Lcom/example/rekurze/rekurze/numeric/SparseMatrix;"⟩ : MethodName)) hown (mvT hZ (w_59 hw)) (mvT hZ (w_60 hw)) (notFace_of_selects (args := #[]) (mvT hZ (w_62 hw))) (mvT hZ (w_62 hw)) (mvT hZ (w_61 hw)) (by decide) (backOf (W := 0) (rm10_0 l Z a0 hw [] t8 t9 t10 t6 (0 : Int32) (0 : Int32) t11 t12 t13 (own_pk t6 (t3 + (own_pt t6 0 (t7.toInt64))) (t4 + (own_pt t6 1 (t7.toInt64))) (t5 + (own_pt t6 2 (t7.toInt64)))) (0 : Int64) (0 : Int64) o0 o4 o7 o8 j6 j7 h10 n0 O10 R10_6 R10_10 R10_7 R10_3 R10_1 F12 R10_11 F16) hZ (w_63 hw) (w_2 hw) (by decide) (by decide)) q11a q11c (g := (mkF m 109 #[iv t16, iv t17, iv t18, iv t19, iv t7, iv t20, iv t21, iv t22, iv t6, rv o0, .unset, .unset, .unset, .unset] [(.ref o0)])) rfl (by rw [hml]; rfl) (Steps.refl _) (argsL := []) (rest := []) (lenOf pd_11 rfl) rfl (by show 2 * 0 + _ ≤ _; exact Nat.le_of_eq rfl) (hb hby at_109) (fun _ _ => ⟨rfl, e10, (by decide : 9 + 3 ≤ _), (by decide : 41 + 11 ≤ _)⟩)
  dsimp only [Pt.U, Pt.locs, Pt.cells, Pt.slots] at X11 l11 y11 z11 st11 hQ11
  subst l11 y11 z11
  obtain ⟨h11, e11⟩ : ∃ z, T11.heap = z := ⟨_, rfl⟩
  rw [e11] at hQ11
  obtain ⟨o9, o10, o11, j8, j9, rfl, N11q, K11, sp11_o9, sp11_o10, sp11_o11, ne11_o9_o10, ne11_o9_o11, ne11_o10_o11, R11_0, R11_1, R11_2, R11_3, R11_4, R11_5⟩ := hQ11
  have N11 := Fr.app N10 N11q
  have g20 : n0 ≤ o9 := Nat.le_trans (own_le O10) sp11_o9
  have s21 : h0.size ≤ o9 := Nat.le_trans (KK10).1 sp11_o9
  have g22 : n0 ≤ o10 := Nat.le_trans (own_le O10) sp11_o10
  have s23 : h0.size ≤ o10 := Nat.le_trans (KK10).1 sp11_o10
  have g24 : n0 ≤ o11 := Nat.le_trans (own_le O10) sp11_o11
  have s25 : h0.size ≤ o11 := Nat.le_trans (KK10).1 sp11_o11
  have O11 := Old.keep O10 K11 all0
  have KK11 := Keep.trans KK10 K11 all0
  have F27 := (Arv.keep R10_12 K11 nin0)
  obtain ⟨cq26, kq26, q26a, q26b, q26c⟩ := isOf hZ e11 R11_0
  obtain ⟨_, _, ⟨T26, L26, k26, n26⟩, -, X26, ⟨Lc26, hQ26, l26, y26, z26⟩, st26⟩ := X11.virtualBack hx (y := (⟨kM, "dense", "()[[D"⟩ : MethodName)) (z := (⟨kM, "dense", "()[[D"⟩ : MethodName)) hown (mvT hZ (w_91 hw)) (mvT hZ (w_92 hw)) (notFace_of_selects (args := #[]) (mvT hZ (w_94 hw))) (mvT hZ (w_94 hw)) (mvT hZ (w_93 hw)) (by decide) (backOf (W := 0) (rm15_0 l Z a0 hw [] t8 t9 t10 t6 t11 t12 t13 (own_pk t6 (t3 + (own_pt t6 0 (t7.toInt64))) (t4 + (own_pt t6 1 (t7.toInt64))) (t5 + (own_pt t6 2 (t7.toInt64)))) o9 o4 o10 o11 j5 j8 j9 h11 n0 O11 R11_1 F27 R11_0 R11_2 R11_4 R11_3 R11_5 d3 d4 d5 d0) hZ (w_95 hw) (w_66 hw) (by decide) (by decide)) q26a q26c (g := (mkF m 116 #[iv t16, iv t17, iv t18, iv t19, iv t7, iv t20, iv t21, iv t22, iv t6, rv o0, rv o9, .unset, .unset, .unset] [(.ref o9)])) rfl (by rw [hml]; rfl) (Steps.refl _) (argsL := []) (rest := []) (lenOf pd_13 rfl) rfl (by show 2 * 0 + _ ≤ _; exact Nat.le_of_eq rfl) (hb hby at_116) (fun _ _ => ⟨rfl, e11, (by decide : 12 + 4 ≤ _), (by decide : 52 + 12 ≤ _)⟩)
  dsimp only [Pt.U, Pt.locs, Pt.cells, Pt.slots] at X26 l26 y26 z26 st26 hQ26
  subst l26 y26 z26
  obtain ⟨h26, e26⟩ : ∃ z, T26.heap = z := ⟨_, rfl⟩
  rw [e26] at hQ26
  obtain ⟨o12, o13, o14, o15, j10, j11, rfl, N26q, K26, sp26_o12, sp26_o13, sp26_o14, sp26_o15, ne26_o12_o13, ne26_o12_o14, ne26_o12_o15, ne26_o13_o14, ne26_o13_o15, ne26_o14_o15, R26_0, R26_1, R26_2, R26_3⟩ := hQ26
  have N26 := Fr.app N11 N26q
  have g28 : n0 ≤ o12 := Nat.le_trans (own_le O11) sp26_o12
  have s29 : h0.size ≤ o12 := Nat.le_trans (KK11).1 sp26_o12
  have g30 : n0 ≤ o13 := Nat.le_trans (own_le O11) sp26_o13
  have s31 : h0.size ≤ o13 := Nat.le_trans (KK11).1 sp26_o13
  have g32 : n0 ≤ o14 := Nat.le_trans (own_le O11) sp26_o14
  have s33 : h0.size ≤ o14 := Nat.le_trans (KK11).1 sp26_o14
  have g34 : n0 ≤ o15 := Nat.le_trans (own_le O11) sp26_o15
  have s35 : h0.size ≤ o15 := Nat.le_trans (KK11).1 sp26_o15
  have O26 := Old.keep O11 K26 all0
  have KK26 := Keep.trans KK11 K26 all0
  have F36 := (Arv.keep (Arv.keep F12 K11 nin0) K26 nin0)
  have F37 := (Arv.keep (Arv.keep F16 K11 nin0) K26 nin0)
  have F38 := (Exa.keep R11_0 K26)
  have F39 := (Fld.keep R11_1 K26 nin0)
  have F40 := (Fld.keep R11_2 K26 nin0)
  have F41 := (Fld.keep R11_3 K26 nin0)
  have F42 := (Arv.keep R11_4 K26 nin0)
  have F43 := (Arv.keep R11_5 K26 nin0)
  have F44 := (Arv.keep (Arv.keep (Arv.keep R2_14 K10 (ninS v5 (ninS v4 (ninS (Ne.symm v17) nin0)))) K11 nin0) K26 nin0)
  have F45 := (Arv.keep (Arv.keep R10_0 K11 nin0) K26 nin0)
  have F46 := (Fld.keep (Fld.keep R10_8 K11 nin0) K26 nin0)
  have F47 := (Fld.keep (Fld.keep R10_4 K11 nin0) K26 nin0)
  have F48 := (Fld.keep (Fld.keep R10_2 K11 nin0) K26 nin0)
  have F49 := (Exa.keep (Exa.keep R10_5 K11) K26)
  have F50 := (Fld.keep (Fld.keep R10_9 K11 nin0) K26 nin0)
  have F51 := (Fld.keep (Fld.keep R10_10 K11 nin0) K26 nin0)
  have F52 := (Fld.keep (Fld.keep R10_7 K11 nin0) K26 nin0)
  have F53 := (Fld.keep (Fld.keep R10_3 K11 nin0) K26 nin0)
  have F54 := (Fld.keep (Fld.keep R10_11 K11 nin0) K26 nin0)
  have F55 := (Fld.keep (Fld.keep R10_1 K11 nin0) K26 nin0)
  have F56 := (Fld.keep (Fld.keep R10_6 K11 nin0) K26 nin0)
  have F57 := (Arv.keep (Arv.keep (Arv.keep R2_15 K10 (ninS (Ne.symm v1) (ninS (Ne.symm v0) (ninS (Ne.symm v14) nin0)))) K11 nin0) K26 nin0)
  have F58 := (Arv.keep F27 K26 nin0)
  have ne59 : o7 ≠ o9 := Nat.ne_of_lt (Nat.lt_of_lt_of_le (F12).lt sp11_o9)
  have ne60 : o7 ≠ o10 := Nat.ne_of_lt (Nat.lt_of_lt_of_le (F12).lt sp11_o10)
  have ne61 : o7 ≠ o11 := Nat.ne_of_lt (Nat.lt_of_lt_of_le (F12).lt sp11_o11)
  have ne62 : o7 ≠ o12 := Nat.ne_of_lt (Nat.lt_of_lt_of_le ((Arv.keep F12 K11 nin0)).lt sp26_o12)
  have ne63 : o7 ≠ o13 := Nat.ne_of_lt (Nat.lt_of_lt_of_le ((Arv.keep F12 K11 nin0)).lt sp26_o13)
  have ne64 : o7 ≠ o14 := Nat.ne_of_lt (Nat.lt_of_lt_of_le ((Arv.keep F12 K11 nin0)).lt sp26_o14)
  have ne65 : o7 ≠ o15 := Nat.ne_of_lt (Nat.lt_of_lt_of_le ((Arv.keep F12 K11 nin0)).lt sp26_o15)
  have ne66 : o8 ≠ o9 := Nat.ne_of_lt (Nat.lt_of_lt_of_le (F16).lt sp11_o9)
  have ne67 : o8 ≠ o10 := Nat.ne_of_lt (Nat.lt_of_lt_of_le (F16).lt sp11_o10)
  have ne68 : o8 ≠ o11 := Nat.ne_of_lt (Nat.lt_of_lt_of_le (F16).lt sp11_o11)
  have ne69 : o8 ≠ o12 := Nat.ne_of_lt (Nat.lt_of_lt_of_le ((Arv.keep F16 K11 nin0)).lt sp26_o12)
  have ne70 : o8 ≠ o13 := Nat.ne_of_lt (Nat.lt_of_lt_of_le ((Arv.keep F16 K11 nin0)).lt sp26_o13)
  have ne71 : o8 ≠ o14 := Nat.ne_of_lt (Nat.lt_of_lt_of_le ((Arv.keep F16 K11 nin0)).lt sp26_o14)
  have ne72 : o8 ≠ o15 := Nat.ne_of_lt (Nat.lt_of_lt_of_le ((Arv.keep F16 K11 nin0)).lt sp26_o15)
  have ne73 : o9 ≠ o12 := Nat.ne_of_lt (Nat.lt_of_lt_of_le (R11_0).lt sp26_o12)
  have ne74 : o9 ≠ o13 := Nat.ne_of_lt (Nat.lt_of_lt_of_le (R11_0).lt sp26_o13)
  have ne75 : o9 ≠ o14 := Nat.ne_of_lt (Nat.lt_of_lt_of_le (R11_0).lt sp26_o14)
  have ne76 : o9 ≠ o15 := Nat.ne_of_lt (Nat.lt_of_lt_of_le (R11_0).lt sp26_o15)
  have ne77 : o10 ≠ o12 := Nat.ne_of_lt (Nat.lt_of_lt_of_le (R11_4).lt sp26_o12)
  have ne78 : o10 ≠ o13 := Nat.ne_of_lt (Nat.lt_of_lt_of_le (R11_4).lt sp26_o13)
  have ne79 : o10 ≠ o14 := Nat.ne_of_lt (Nat.lt_of_lt_of_le (R11_4).lt sp26_o14)
  have ne80 : o10 ≠ o15 := Nat.ne_of_lt (Nat.lt_of_lt_of_le (R11_4).lt sp26_o15)
  have ne81 : o11 ≠ o12 := Nat.ne_of_lt (Nat.lt_of_lt_of_le (R11_5).lt sp26_o12)
  have ne82 : o11 ≠ o13 := Nat.ne_of_lt (Nat.lt_of_lt_of_le (R11_5).lt sp26_o13)
  have ne83 : o11 ≠ o14 := Nat.ne_of_lt (Nat.lt_of_lt_of_le (R11_5).lt sp26_o14)
  have ne84 : o11 ≠ o15 := Nat.ne_of_lt (Nat.lt_of_lt_of_le (R11_5).lt sp26_o15)
  refine ⟨T26, h26, _, o7, o8, o9, o10, o11, o12, o13, o14, o15, j6, j7, j8, j9, j10, j11, X26, e26, N26, KK26, s7, s9, s21, s23, s25, s29, s31, s33, s35, ne2_o7_o8, ne59, ne60, ne61, ne62, ne63, ne64, ne65, ne66, ne67, ne68, ne69, ne70, ne71, ne72, ne11_o9_o10, ne11_o9_o11, ne73, ne74, ne75, ne76, ne11_o10_o11, ne77, ne78, ne79, ne80, ne81, ne82, ne83, ne84, ne26_o12_o13, ne26_o12_o14, ne26_o12_o15, ne26_o13_o14, ne26_o13_o15, ne26_o14_o15, F36, F37, F38, F39, F40, F41, F42, F43, R26_0, R26_1, R26_2, R26_3, F44, F45, F46, F47, F48, F49, F50, F51, F52, F53, F54, F55, F56, F57, F58, fun target kt => ?_⟩
  show Steps p.tables e below (T0.setTop (mkF m 87 #[iv t16, iv t17, iv t18, iv t19, iv t7, iv t20, iv t21, iv t22, iv t6, rv o0, .unset, .unset, .unset, .unset] [])) _
  refine oa X0 hx hby at_87 rfl rfl rfl ?_
  refine oi X0 hx hby at_89 rfl rfl ?_
  refine oi X0 hx hby at_91 rfl rfl ?_
  refine XS.i2dS X0.here hx rfl (hb hby at_93) rfl (v := FP.l2d (t7.toInt64)) (i2d_w t7) ?_
  refine st1.trans ?_
  refine oa X1 hx hby at_97 rfl rfl rfl ?_
  refine st2.trans ?_
  refine oa X2 hx hby at_102 rfl rfl rfl ?_
  refine st10.trans ?_
  refine oa X10 hx hby at_107 rfl rfl rfl ?_
  refine st11.trans ?_
  refine XS.astore X11.here hx rfl (hb hby at_112) rfl rfl (l' := #[iv t16, iv t17, iv t18, iv t19, iv t7, iv t20, iv t21, iv t22, iv t6, rv o0, rv o9, .unset, .unset, .unset]) rfl ?_
  refine oa X11 hx hby at_114 rfl rfl rfl ?_
  refine st26.trans ?_
  refine XS.astore X26.here hx rfl (hb hby at_119) rfl rfl (l' := #[iv t16, iv t17, iv t18, iv t19, iv t7, iv t20, iv t21, iv t22, iv t6, rv o0, rv o9, rv o12, .unset, .unset]) rfl ?_
  exact kt
theorem sg_8 {p : Program} {l : Launch} {e : Env} {s : State} {m : MethodId} {args : Array Value} {below : List Frame} {meth : Method} {c : Code} {T0 : State} {locs : List Loc} {Z : State} {a0 : Array Value} {h0 : Heap} {n0 cn sn : Nat} (hw : HW a0 Z) (t0 t1 t2 t3 t4 t5 t6 t7 t8 : Int32) (o0 o1 o2 : Addr)
    (X0 : Stand p l e room_1 s m args below meth c T0 locs cn sn) (hcn : cn ≤ room_1.cells) (hsn : sn ≤ room_1.slots) (hx : p.tables.exec = Jvm.exec) (hZ : Z.Warmed39 s.vm) (hby : c.code = code) (hml : c.maxLocals = 14) (hown : s.vm.findClass kL = some m.cls) (e0 : T0.heap = h0) (N0 : Fr n0 locs) (OO : Old Z n0 h0) (d0 : ¬ (t0 = t1)) (d1 : ¬ (t2 = t1)) (d2 : ¬ (t2 = t0)) :
    ∃ (T' : State) (h' : Heap) (lc : List Loc), Stand p l e room_1 s m args below meth c T' lc cn sn ∧ T'.heap = h' ∧ Fr n0 lc ∧ Keep h0 h' [] ∧
      ∀ target, Steps p.tables e below (T'.setTop (mkF m 157 #[iv t3, iv t4, iv t5, iv t6, iv t7, iv t1, iv t0, iv t2, iv t8, rv o0, rv o1, rv o2, iv 3, .unset] [])) target → Steps p.tables e below (T0.setTop (mkF m 121 #[iv t3, iv t4, iv t5, iv t6, iv t7, iv t1, iv t0, iv t2, iv t8, rv o0, rv o1, rv o2, .unset, .unset] [])) target := by
  refine ⟨T0, h0, _, X0, e0, N0, (Keep.refl h0 []), fun target kt => ?_⟩
  show Steps p.tables e below (T0.setTop (mkF m 121 #[iv t3, iv t4, iv t5, iv t6, iv t7, iv t1, iv t0, iv t2, iv t8, rv o0, rv o1, rv o2, .unset, .unset] [])) _
  refine oK X0 hx hby at_121 rfl ?_
  refine oi X0 hx hby at_122 rfl rfl ?_
  refine oi X0 hx hby at_124 rfl rfl ?_
  refine XS.icmpNo X0.here hx rfl (hb hby at_126) rfl (feq d0).1 ?_
  refine oK X0 hx hby at_129 rfl ?_
  refine XS.goto X0.here hx rfl (pc0 := 130) (pc' := 134) rfl (hb hby at_130) (by decide) (by decide) ?_
  refine XS.iadd X0.here hx rfl (hb hby at_134) rfl ?_
  show Steps p.tables e below (T0.setTop (mkF m 135 #[iv t3, iv t4, iv t5, iv t6, iv t7, iv t1, iv t0, iv t2, iv t8, rv o0, rv o1, rv o2, .unset, .unset] [(.int ((1 : Int32) + (1 : Int32)))])) _
  rw [(by decide : ((1 : Int32) + (1 : Int32)) = (2 : Int32))]
  refine oi X0 hx hby at_135 rfl rfl ?_
  refine oi X0 hx hby at_137 rfl rfl ?_
  refine XS.icmpNo X0.here hx rfl (hb hby at_139) rfl (feq d1).1 ?_
  refine oi X0 hx hby at_142 rfl rfl ?_
  refine oi X0 hx hby at_144 rfl rfl ?_
  refine XS.icmpNo X0.here hx rfl (hb hby at_146) rfl (feq d2).1 ?_
  refine oK X0 hx hby at_149 rfl ?_
  refine XS.goto X0.here hx rfl (pc0 := 150) (pc' := 154) rfl (hb hby at_150) (by decide) (by decide) ?_
  refine XS.iadd X0.here hx rfl (hb hby at_154) rfl ?_
  show Steps p.tables e below (T0.setTop (mkF m 155 #[iv t3, iv t4, iv t5, iv t6, iv t7, iv t1, iv t0, iv t2, iv t8, rv o0, rv o1, rv o2, .unset, .unset] [(.int ((2 : Int32) + (1 : Int32)))])) _
  rw [(by decide : ((2 : Int32) + (1 : Int32)) = (3 : Int32))]
  refine XS.istore X0.here hx rfl (hb hby at_155) rfl (l' := #[iv t3, iv t4, iv t5, iv t6, iv t7, iv t1, iv t0, iv t2, iv t8, rv o0, rv o1, rv o2, iv 3, .unset]) rfl ?_
  exact kt
def Q17_0 (Z : State) (t0 t1 t2 t3 : Int32) (o0 o1 : Addr) (j0 : ClassId) (h0 : Heap) (n0 : Nat) (v : Option Value) (h : Heap) (L : List Loc) : Prop := v = some (.int t1) ∧ Fr n0 L ∧ h = h0
theorem rm17_0 (l : Launch) (Z : State) (a0 : Array Value) (hw : HW a0 Z) (ws : List Jvm.Cond) (t0 t1 t2 t3 : Int32) (o0 o1 : Addr) (j0 : ClassId) (h0 : Heap) (n0 : Nat) (OO : Old Z n0 h0) (f0 : fM10 Z h0 o0 (.ref o1)) (f1 : AI4 Z h0 o1 j0 t0 t1 t2 t3) :
    own_MF l Z h0 (⟨kM, "rowStart", "(I)I"⟩ : MethodName) ws prog_57_method_3_code 2 (some .int) ({ frames := 0, cells := 0, slots := 0, locals := 0 } : Room) #[(.ref o0), (.int 1)] (Q17_0 Z t0 t1 t2 t3 o0 o1 j0 h0 n0) := by
  refine MetFree.of_bodySF (plainFor_of_name pn_17) hisR ?_
  intro p e s m args below meth c s₁ Bd hml0 hP hK
  obtain ⟨rfl, hZ, hh⟩ := hP
  have hx := Bd.exec
  have hby := Bd.bytes
  have hml : c.maxLocals = 2 := hml0
  have hown : s.vm.findClass kM = some m.cls := findClass_of_methodNamed Bd.named
  have X0 : Stand p l e ({ frames := 0, cells := 0, slots := 0, locals := 0 } : Room) s m #[(.ref o0), (.int 1)] below meth c s₁ [] 0 0 := Stand.of_body Bd
  have e0 : s₁.heap = h0 := by rw [← hh, Bd.state]; rfl
  have N0 := Fr.nil n0
  obtain ⟨T1, X1, e1, st1⟩ := own_gF X0 hx hZ hown (w_85 hw) e0 f0 (g := (mkF m 1 #[rv o0, iv 1] [(.ref o0)])) rfl rfl (hb hby d17_1)
  obtain ⟨c2, r2, q2, S2, M2, H2, G2⟩ := id f1
  have i3 := inb_of (j := 1) S2 (by decide)
  have y4 : c2.slots[((1 : Int32)).toNatClampNeg]? = some (.int t1) := H2 1 (by rw [S2]; decide)
  obtain ⟨fs, hr, hrun, hended, hW, hsame⟩ := X1.leave (v := some (.int t1)) (fun h => by rw [Bd.returns] at h; cases h)
  refine ⟨_, _, (castTop (ef_17 m o0 1) ?_), hrun, hended, _, _, rfl, ?_, ⟨_, rfl⟩, hW, hsame.mono (by decide) (by decide)⟩
  · show Steps p.tables e below (s₁.setTop (mkF m 0 #[rv o0, iv 1] [])) _
    refine oA X0 hx hby d17_0 rfl rfl rfl ?_
    refine st1 _ ?_
    refine oI X1 hx hby d17_4 rfl rfl ?_
    refine oL X1 hx hZ e1 r2 i3 y4 (by exact hb hby d17_5) rfl rfl ?_
    exact retI X1 hx Bd.returns (hb hby d17_6) hr
  · show Q17_0 Z t0 t1 t2 t3 o0 o1 j0 h0 n0 _ T1.heap _
    exact ⟨rfl, N0, e1⟩
def Q17_1 (Z : State) (t0 t1 t2 t3 : Int32) (o0 o1 : Addr) (j0 : ClassId) (h0 : Heap) (n0 : Nat) (v : Option Value) (h : Heap) (L : List Loc) : Prop := v = some (.int t2) ∧ Fr n0 L ∧ h = h0
theorem rm17_1 (l : Launch) (Z : State) (a0 : Array Value) (hw : HW a0 Z) (ws : List Jvm.Cond) (t0 t1 t2 t3 : Int32) (o0 o1 : Addr) (j0 : ClassId) (h0 : Heap) (n0 : Nat) (OO : Old Z n0 h0) (f0 : fM10 Z h0 o0 (.ref o1)) (f1 : AI4 Z h0 o1 j0 t0 t1 t2 t3) :
    own_MF l Z h0 (⟨kM, "rowStart", "(I)I"⟩ : MethodName) ws prog_57_method_3_code 2 (some .int) ({ frames := 0, cells := 0, slots := 0, locals := 0 } : Room) #[(.ref o0), (.int 2)] (Q17_1 Z t0 t1 t2 t3 o0 o1 j0 h0 n0) := by
  refine MetFree.of_bodySF (plainFor_of_name pn_17) hisR ?_
  intro p e s m args below meth c s₁ Bd hml0 hP hK
  obtain ⟨rfl, hZ, hh⟩ := hP
  have hx := Bd.exec
  have hby := Bd.bytes
  have hml : c.maxLocals = 2 := hml0
  have hown : s.vm.findClass kM = some m.cls := findClass_of_methodNamed Bd.named
  have X0 : Stand p l e ({ frames := 0, cells := 0, slots := 0, locals := 0 } : Room) s m #[(.ref o0), (.int 2)] below meth c s₁ [] 0 0 := Stand.of_body Bd
  have e0 : s₁.heap = h0 := by rw [← hh, Bd.state]; rfl
  have N0 := Fr.nil n0
  obtain ⟨T1, X1, e1, st1⟩ := own_gF X0 hx hZ hown (w_85 hw) e0 f0 (g := (mkF m 1 #[rv o0, iv 2] [(.ref o0)])) rfl rfl (hb hby d17_1)
  obtain ⟨c2, r2, q2, S2, M2, H2, G2⟩ := id f1
  have i3 := inb_of (j := 2) S2 (by decide)
  have y4 : c2.slots[((2 : Int32)).toNatClampNeg]? = some (.int t2) := H2 2 (by rw [S2]; decide)
  obtain ⟨fs, hr, hrun, hended, hW, hsame⟩ := X1.leave (v := some (.int t2)) (fun h => by rw [Bd.returns] at h; cases h)
  refine ⟨_, _, (castTop (ef_17 m o0 2) ?_), hrun, hended, _, _, rfl, ?_, ⟨_, rfl⟩, hW, hsame.mono (by decide) (by decide)⟩
  · show Steps p.tables e below (s₁.setTop (mkF m 0 #[rv o0, iv 2] [])) _
    refine oA X0 hx hby d17_0 rfl rfl rfl ?_
    refine st1 _ ?_
    refine oI X1 hx hby d17_4 rfl rfl ?_
    refine oL X1 hx hZ e1 r2 i3 y4 (by exact hb hby d17_5) rfl rfl ?_
    exact retI X1 hx Bd.returns (hb hby d17_6) hr
  · show Q17_1 Z t0 t1 t2 t3 o0 o1 j0 h0 n0 _ T1.heap _
    exact ⟨rfl, N0, e1⟩
theorem sg_9 {p : Program} {l : Launch} {e : Env} {s : State} {m : MethodId} {args : Array Value} {below : List Frame} {meth : Method} {c : Code} {T0 : State} {locs : List Loc} {Z : State} {a0 : Array Value} {h0 : Heap} {n0 cn sn : Nat} (hw : HW a0 Z) (t0 t1 t2 t3 t4 t5 t6 t7 t8 t9 t10 : Int32) (o0 o1 o2 o3 o4 o5 o6 : Addr) (j0 j1 : ClassId)
    (X0 : Stand p l e room_1 s m args below meth c T0 locs cn sn) (hcn : cn ≤ room_1.cells) (hsn : sn ≤ room_1.slots) (hx : p.tables.exec = Jvm.exec) (hZ : Z.Warmed39 s.vm) (hby : c.code = code) (hml : c.maxLocals = 14) (hown : s.vm.findClass kL = some m.cls) (e0 : T0.heap = h0) (N0 : Fr n0 locs) (OO : Old Z n0 h0) (f0 : fM10 Z h0 o0 (.ref o1)) (f1 : AI4 Z h0 o1 j0 t0 3 4 t1) (f2 : Exa Z h0 o0 kM) (f3 : Arv Z h0 o2 j1 (.array .double) (3 : Int32) [(.ref o3), (.ref o4), (.ref o5)] .null) :
    ∃ (T' : State) (h' : Heap) (lc : List Loc), Stand p l e room_1 s m args below meth c T' lc cn sn ∧ T'.heap = h' ∧ Fr n0 lc ∧ Keep h0 h' [] ∧
      ∀ target, Steps p.tables e below (T'.setTop (mkF m 207 #[iv t2, iv t3, iv t4, iv t5, iv t6, iv t7, iv t8, iv t9, iv t10, rv o6, rv o0, rv o2, iv 3, iv 1] [])) target → Steps p.tables e below (T0.setTop (mkF m 157 #[iv t2, iv t3, iv t4, iv t5, iv t6, iv t7, iv t8, iv t9, iv t10, rv o6, rv o0, rv o2, iv 3, .unset] [])) target := by
  obtain ⟨cq1, kq1, q1a, q1b, q1c⟩ := isOf hZ e0 f2
  obtain ⟨_, _, ⟨T1, L1, k1, n1⟩, -, X1, ⟨Lc1, hQ1, l1, y1, z1⟩, st1⟩ := X0.virtualBack hx (y := (⟨kM, "rowStart", "(I)I"⟩ : MethodName)) (z := (⟨kM, "rowStart", "(I)I"⟩ : MethodName)) hown (mvT hZ (w_103 hw)) (mvT hZ (w_104 hw)) (notFace_of_selects (args := #[]) (mvT hZ (w_106 hw))) (mvT hZ (w_106 hw)) (mvT hZ (w_105 hw)) (by decide) (backOf (W := 0) (rm17_0 l Z a0 hw [] t0 (3 : Int32) (4 : Int32) t1 o0 o1 j0 h0 n0 OO f0 f1) hZ (w_107 hw) (w_66 hw) (by decide) (by decide)) q1a q1c (g := (mkF m 160 #[iv t2, iv t3, iv t4, iv t5, iv t6, iv t7, iv t8, iv t9, iv t10, rv o6, rv o0, rv o2, iv 3, .unset] [(.int 1), (.ref o0)])) rfl (by rw [hml]; rfl) (Steps.refl _) (argsL := [(.int 1)]) (rest := []) (lenOf pd_14 rfl) rfl (by show 2 * 0 + _ ≤ _; exact Nat.le_of_eq rfl) (hb hby at_160) (fun _ _ => ⟨rfl, e0, hcn, hsn⟩)
  dsimp only [Pt.U, Pt.locs, Pt.cells, Pt.slots] at X1 l1 y1 z1 st1 hQ1
  subst l1 y1 z1
  obtain ⟨rfl, N1q, e1⟩ := hQ1
  have N1 := Fr.app N0 N1q
  obtain ⟨cq2, kq2, q2a, q2b, q2c⟩ := isOf hZ e1 f2
  obtain ⟨_, _, ⟨T2, L2, k2, n2⟩, -, X2, ⟨Lc2, hQ2, l2, y2, z2⟩, st2⟩ := X1.virtualBack hx (y := (⟨kM, "rowStart", "(I)I"⟩ : MethodName)) (z := (⟨kM, "rowStart", "(I)I"⟩ : MethodName)) hown (mvT hZ (w_103 hw)) (mvT hZ (w_104 hw)) (notFace_of_selects (args := #[]) (mvT hZ (w_106 hw))) (mvT hZ (w_106 hw)) (mvT hZ (w_105 hw)) (by decide) (backOf (W := 0) (rm17_1 l Z a0 hw [] t0 (3 : Int32) (4 : Int32) t1 o0 o1 j0 h0 n0 OO f0 f1) hZ (w_107 hw) (w_66 hw) (by decide) (by decide)) q2a q2c (g := (mkF m 171 #[iv t2, iv t3, iv t4, iv t5, iv t6, iv t7, iv t8, iv t9, iv t10, rv o6, rv o0, rv o2, iv 3, .unset] [(.int 2), (.ref o0)])) rfl (by rw [hml]; rfl) (Steps.refl _) (argsL := [(.int 2)]) (rest := []) (lenOf pd_14 rfl) rfl (by show 2 * 0 + _ ≤ _; exact Nat.le_of_eq rfl) (hb hby at_171) (fun _ _ => ⟨rfl, e1, hcn, hsn⟩)
  dsimp only [Pt.U, Pt.locs, Pt.cells, Pt.slots] at X2 l2 y2 z2 st2 hQ2
  subst l2 y2 z2
  obtain ⟨rfl, N2q, e2⟩ := hQ2
  have N2 := Fr.app N1 N2q
  obtain ⟨c3, r3, q3, S3, M3, H3, G3⟩ := id f3
  refine ⟨T2, h0, _, X2, e2, N2, (Keep.refl h0 []), fun target kt => ?_⟩
  show Steps p.tables e below (T0.setTop (mkF m 157 #[iv t2, iv t3, iv t4, iv t5, iv t6, iv t7, iv t8, iv t9, iv t10, rv o6, rv o0, rv o2, iv 3, .unset] [])) _
  refine oa X0 hx hby at_157 rfl rfl rfl ?_
  refine oK X0 hx hby at_159 rfl ?_
  refine st1.trans ?_
  show Steps p.tables e below (T1.setTop (mkF m 163 #[iv t2, iv t3, iv t4, iv t5, iv t6, iv t7, iv t8, iv t9, iv t10, rv o6, rv o0, rv o2, iv 3, .unset] [(.int 3)])) _
  refine oi X1 hx hby at_163 rfl rfl ?_
  refine XS.icmpNo X1.here hx rfl (hb hby at_165) rfl (by decide) ?_
  refine oa X1 hx hby at_168 rfl rfl rfl ?_
  refine oK X1 hx hby at_170 rfl ?_
  refine st2.trans ?_
  show Steps p.tables e below (T2.setTop (mkF m 174 #[iv t2, iv t3, iv t4, iv t5, iv t6, iv t7, iv t8, iv t9, iv t10, rv o6, rv o0, rv o2, iv 3, .unset] [(.int 4)])) _
  refine oi X2 hx hby at_174 rfl rfl ?_
  refine oK X2 hx hby at_176 rfl ?_
  refine XS.iadd X2.here hx rfl (hb hby at_177) rfl ?_
  show Steps p.tables e below (T2.setTop (mkF m 178 #[iv t2, iv t3, iv t4, iv t5, iv t6, iv t7, iv t8, iv t9, iv t10, rv o6, rv o0, rv o2, iv 3, .unset] [(.int ((3 : Int32) + (1 : Int32))), (.int 4)])) _
  rw [(by decide : ((3 : Int32) + (1 : Int32)) = (4 : Int32))]
  refine XS.icmpNo X2.here hx rfl (hb hby at_178) rfl (by decide) ?_
  refine oK X2 hx hby at_181 rfl ?_
  refine XS.goto X2.here hx rfl (pc0 := 182) (pc' := 186) rfl (hb hby at_182) (by decide) (by decide) ?_
  refine XS.istore X2.here hx rfl (hb hby at_186) rfl (l' := #[iv t2, iv t3, iv t4, iv t5, iv t6, iv t7, iv t8, iv t9, iv t10, rv o6, rv o0, rv o2, iv 3, iv 1]) rfl ?_
  refine oi X2 hx hby at_188 rfl rfl ?_
  refine XS.ifNo X2.here hx rfl (hb hby at_190) rfl (by decide) ?_
  refine oa X2 hx hby at_193 rfl rfl rfl ?_
  refine X2.arraylength hx (by rw [e2]; exact r3.1) (State.isArrayOf_alike hZ.alike r3.2.1) (g := (mkF m 195 #[iv t2, iv t3, iv t4, iv t5, iv t6, iv t7, iv t8, iv t9, iv t10, rv o6, rv o0, rv o2, iv 3, iv 1] [(.ref o2)])) rfl rfl (hb hby at_195) _ ?_
  rw [len_of S3 M3]
  refine oK X2 hx hby at_196 rfl ?_
  refine XS.icmpNo X2.here hx rfl (hb hby at_197) rfl (by decide) ?_
  refine oK X2 hx hby at_200 rfl ?_
  refine XS.goto X2.here hx rfl (pc0 := 201) (pc' := 205) rfl (hb hby at_201) (by decide) (by decide) ?_
  refine XS.istore X2.here hx rfl (hb hby at_205) rfl (l' := #[iv t2, iv t3, iv t4, iv t5, iv t6, iv t7, iv t8, iv t9, iv t10, rv o6, rv o0, rv o2, iv 3, iv 1]) rfl ?_
  exact kt
def Q18_0 (Z : State) (t0 t1 t2 : Int32) (h0 : Heap) (n0 : Nat) (v : Option Value) (h : Heap) (L : List Loc) : Prop := v = some (.long (t2.toInt64)) ∧ Fr n0 L ∧ h = h0
theorem rm18_0 (l : Launch) (Z : State) (a0 : Array Value) (hw : HW a0 Z) (ws : List Jvm.Cond) (t0 t1 t2 : Int32) (h0 : Heap) (n0 : Nat) (OO : Old Z n0 h0) (hq0 : t0 = t1) :
    own_MF l Z h0 (⟨kL, "part", "(III)J"⟩ : MethodName) ws method_2_code 3 (some .long) ({ frames := 0, cells := 0, slots := 0, locals := 0 } : Room) #[(.int t0), (.int t1), (.int t2)] (Q18_0 Z t0 t1 t2 h0 n0) := by
  refine MetFree.of_bodySF (plainFor_of_name pn_18) hisR ?_
  intro p e s m args below meth c s₁ Bd hml0 hP hK
  obtain ⟨rfl, hZ, hh⟩ := hP
  have hx := Bd.exec
  have hby := Bd.bytes
  have hml : c.maxLocals = 3 := hml0
  have hown : s.vm.findClass kL = some m.cls := findClass_of_methodNamed Bd.named
  have X0 : Stand p l e ({ frames := 0, cells := 0, slots := 0, locals := 0 } : Room) s m #[(.int t0), (.int t1), (.int t2)] below meth c s₁ [] 0 0 := Stand.of_body Bd
  have e0 : s₁.heap = h0 := by rw [← hh, Bd.state]; rfl
  have N0 := Fr.nil n0
  obtain ⟨fs, hr, hrun, hended, hW, hsame⟩ := X0.leave (v := some (.long (t2.toInt64))) (fun h => by rw [Bd.returns] at h; cases h)
  refine ⟨_, _, (castTop (ef_18 m t0 t1 t2) ?_), hrun, hended, _, _, rfl, ?_, ⟨_, rfl⟩, hW, hsame.mono (by decide) (by decide)⟩
  · show Steps p.tables e below (s₁.setTop (mkF m 0 #[iv t0, iv t1, iv t2] [])) _
    refine oI X0 hx hby d18_0 rfl rfl ?_
    refine oI X0 hx hby d18_1 rfl rfl ?_
    refine XS.icmpNo X0.here hx rfl (hb hby d18_2) rfl (teq hq0).2 ?_
    refine oI X0 hx hby d18_5 rfl rfl ?_
    refine XS.i2l X0.here hx rfl (hb hby d18_6) rfl ?_
    refine XS.goto X0.here hx rfl (pc0 := 7) (pc' := 11) rfl (hb hby d18_7) (by decide) (by decide) ?_
    exact retOut X0 hx Bd.returns rfl (Or.inr (Or.inl ⟨rfl, rfl, _, rfl⟩)) (hb hby d18_11) hr
  · show Q18_0 Z t0 t1 t2 h0 n0 _ s₁.heap _
    exact ⟨rfl, N0, e0⟩
def Q18_1 (Z : State) (t0 t1 t2 : Int32) (h0 : Heap) (n0 : Nat) (v : Option Value) (h : Heap) (L : List Loc) : Prop := v = some (.long 0) ∧ Fr n0 L ∧ h = h0
theorem rm18_1 (l : Launch) (Z : State) (a0 : Array Value) (hw : HW a0 Z) (ws : List Jvm.Cond) (t0 t1 t2 : Int32) (h0 : Heap) (n0 : Nat) (OO : Old Z n0 h0) (hq0 : ¬ (t0 = t1)) :
    own_MF l Z h0 (⟨kL, "part", "(III)J"⟩ : MethodName) ws method_2_code 3 (some .long) ({ frames := 0, cells := 0, slots := 0, locals := 0 } : Room) #[(.int t0), (.int t1), (.int t2)] (Q18_1 Z t0 t1 t2 h0 n0) := by
  refine MetFree.of_bodySF (plainFor_of_name pn_18) hisR ?_
  intro p e s m args below meth c s₁ Bd hml0 hP hK
  obtain ⟨rfl, hZ, hh⟩ := hP
  have hx := Bd.exec
  have hby := Bd.bytes
  have hml : c.maxLocals = 3 := hml0
  have hown : s.vm.findClass kL = some m.cls := findClass_of_methodNamed Bd.named
  have X0 : Stand p l e ({ frames := 0, cells := 0, slots := 0, locals := 0 } : Room) s m #[(.int t0), (.int t1), (.int t2)] below meth c s₁ [] 0 0 := Stand.of_body Bd
  have e0 : s₁.heap = h0 := by rw [← hh, Bd.state]; rfl
  have N0 := Fr.nil n0
  obtain ⟨fs, hr, hrun, hended, hW, hsame⟩ := X0.leave (v := some (.long 0)) (fun h => by rw [Bd.returns] at h; cases h)
  refine ⟨_, _, (castTop (ef_18 m t0 t1 t2) ?_), hrun, hended, _, _, rfl, ?_, ⟨_, rfl⟩, hW, hsame.mono (by decide) (by decide)⟩
  · show Steps p.tables e below (s₁.setTop (mkF m 0 #[iv t0, iv t1, iv t2] [])) _
    refine oI X0 hx hby d18_0 rfl rfl ?_
    refine oI X0 hx hby d18_1 rfl rfl ?_
    refine XS.icmpYes X0.here hx rfl (pc0 := 2) (pc' := 10) rfl (hb hby d18_2) rfl (feq hq0).2 (by decide) (by decide) ?_
    refine XS.lconst X0.here hx rfl (hb hby d18_10) ?_
    exact retOut X0 hx Bd.returns rfl (Or.inr (Or.inl ⟨rfl, rfl, _, rfl⟩)) (hb hby d18_11) hr
  · show Q18_1 Z t0 t1 t2 h0 n0 _ s₁.heap _
    exact ⟨rfl, N0, e0⟩
def Q18_2 (Z : State) (t0 t1 t2 : Int32) (y0 : Int64) (h0 : Heap) (n0 : Nat) (v : Option Value) (h : Heap) (L : List Loc) : Prop := v = some (.long y0) ∧ Fr n0 L ∧ h = h0
theorem rm18_2 (l : Launch) (Z : State) (a0 : Array Value) (hw : HW a0 Z) (ws : List Jvm.Cond) (t0 t1 t2 : Int32) (h0 : Heap) (n0 : Nat) (OO : Old Z n0 h0) :
    own_MF l Z h0 (⟨kL, "part", "(III)J"⟩ : MethodName) ws method_2_code 3 (some .long) ({ frames := 0, cells := 0, slots := 0, locals := 0 } : Room) #[(.int t0), (.int t1), (.int t2)] (Q18_2 Z t0 t1 t2 (own_pt t0 t1 (t2.toInt64)) h0 n0) := by
  by_cases hq0 : t0 = t1
  · rw [(show (own_pt t0 t1 (t2.toInt64)) = (t2.toInt64) from own_pt_e _ hq0)]
    exact rm18_0 l Z a0 hw ws t0 t1 t2 h0 n0 OO hq0
  · rw [(show (own_pt t0 t1 (t2.toInt64)) = 0 from own_pt_n _ hq0)]
    exact rm18_1 l Z a0 hw ws t0 t1 t2 h0 n0 OO hq0
def Q19_0 (Z : State) (t0 t1 t2 t3 t4 t5 : Int64) (o0 : Addr) (j0 : ClassId) (h0 : Heap) (n0 : Nat) (v : Option Value) (h : Heap) (L : List Loc) : Prop := v = some (.int 1) ∧ Fr n0 L ∧ h = h0
theorem rm19_0 (l : Launch) (Z : State) (a0 : Array Value) (hw : HW a0 Z) (ws : List Jvm.Cond) (t0 t1 t2 t3 t4 t5 : Int64) (o0 : Addr) (j0 : ClassId) (h0 : Heap) (n0 : Nat) (OO : Old Z n0 h0) (f0 : AD3 Z h0 o0 j0 t0 t1 t2) (d0 : t0 = t3) (d1 : t1 = t4) (d2 : t2 = t5) :
    own_MF l Z h0 (⟨kL, "rowOk", "([DJJJ)Z"⟩ : MethodName) ws method_3_code 7 (some .boolean) ({ frames := 0, cells := 0, slots := 0, locals := 0 } : Room) #[(.ref o0), (.long t3), (.long t4), (.long t5)] (Q19_0 Z t0 t1 t2 t3 t4 t5 o0 j0 h0 n0) := by
  refine MetFree.of_bodySF (plainFor_of_name pn_19) hisR ?_
  intro p e s m args below meth c s₁ Bd hml0 hP hK
  obtain ⟨rfl, hZ, hh⟩ := hP
  have hx := Bd.exec
  have hby := Bd.bytes
  have hml : c.maxLocals = 7 := hml0
  have hown : s.vm.findClass kL = some m.cls := findClass_of_methodNamed Bd.named
  have X0 : Stand p l e ({ frames := 0, cells := 0, slots := 0, locals := 0 } : Room) s m #[(.ref o0), (.long t3), (.long t4), (.long t5)] below meth c s₁ [] 0 0 := Stand.of_body Bd
  have e0 : s₁.heap = h0 := by rw [← hh, Bd.state]; rfl
  have N0 := Fr.nil n0
  obtain ⟨c1, r1, q1, S1, M1, H1, G1⟩ := id f0
  obtain ⟨c2, r2, q2, S2, M2, H2, G2⟩ := id f0
  have i3 := inb_of (j := 0) S2 (by decide)
  have y4 : c2.slots[((0 : Int32)).toNatClampNeg]? = some (.double (FP.l2d t0)) := H2 0 (by rw [S2]; decide)
  obtain ⟨c5, r5, q5, S5, M5, H5, G5⟩ := id f0
  have i6 := inb_of (j := 1) S5 (by decide)
  have y7 : c5.slots[((1 : Int32)).toNatClampNeg]? = some (.double (FP.l2d t1)) := H5 1 (by rw [S5]; decide)
  obtain ⟨c8, r8, q8, S8, M8, H8, G8⟩ := id f0
  have i9 := inb_of (j := 2) S8 (by decide)
  have y10 : c8.slots[((2 : Int32)).toNatClampNeg]? = some (.double (FP.l2d t2)) := H8 2 (by rw [S8]; decide)
  obtain ⟨fs, hr, hrun, hended, hW, hsame⟩ := X0.leave (v := some (.int 1)) (fun h => by rw [Bd.returns] at h; cases h)
  refine ⟨_, _, (castTop (ef_19 m o0 t3 t4 t5) ?_), hrun, hended, _, _, rfl, ?_, ⟨_, rfl⟩, hW, hsame.mono (by decide) (by decide)⟩
  · show Steps p.tables e below (s₁.setTop (mkF m 0 #[rv o0, .val (.long t3), .second, .val (.long t4), .second, .val (.long t5), .second] [])) _
    refine oA X0 hx hby d19_0 rfl rfl rfl ?_
    refine X0.arraylength hx (by rw [e0]; exact r1.1) (State.isArrayOf_alike hZ.alike r1.2.1) (g := (mkF m 1 #[rv o0, .val (.long t3), .second, .val (.long t4), .second, .val (.long t5), .second] [(.ref o0)])) rfl rfl (hb hby d19_1) _ ?_
    rw [len_of S1 M1]
    refine oK X0 hx hby d19_2 rfl ?_
    refine XS.icmpNo X0.here hx rfl (hb hby d19_3) rfl (by decide) ?_
    refine oA X0 hx hby d19_6 rfl rfl rfl ?_
    refine oK X0 hx hby d19_7 rfl ?_
    refine oD X0 hx hZ e0 r2 i3 y4 (by exact hb hby d19_8) rfl rfl ?_
    refine XS.lloadN X0.here hx rfl (hb hby d19_9) rfl ?_
    refine XS.l2dS X0.here hx rfl (hb hby d19_10) rfl (v := FP.l2d t3) rfl ?_
    refine XS.dcmpS X0.here hx rfl (hb hby d19_11) rfl (v := (0 : Int32)) (dcmpV_eq (congrArg FP.l2d d0) (nn_w rfl) .l) ?_
    refine XS.ifNo X0.here hx rfl (hb hby d19_12) rfl (by decide) ?_
    refine oA X0 hx hby d19_15 rfl rfl rfl ?_
    refine oK X0 hx hby d19_16 rfl ?_
    refine oD X0 hx hZ e0 r5 i6 y7 (by exact hb hby d19_17) rfl rfl ?_
    refine XS.lloadN X0.here hx rfl (hb hby d19_18) rfl ?_
    refine XS.l2dS X0.here hx rfl (hb hby d19_19) rfl (v := FP.l2d t4) rfl ?_
    refine XS.dcmpS X0.here hx rfl (hb hby d19_20) rfl (v := (0 : Int32)) (dcmpV_eq (congrArg FP.l2d d1) (nn_w rfl) .l) ?_
    refine XS.ifNo X0.here hx rfl (hb hby d19_21) rfl (by decide) ?_
    refine oA X0 hx hby d19_24 rfl rfl rfl ?_
    refine oK X0 hx hby d19_25 rfl ?_
    refine oD X0 hx hZ e0 r8 i9 y10 (by exact hb hby d19_26) rfl rfl ?_
    refine XS.lload X0.here hx rfl (hb hby d19_27) rfl ?_
    refine XS.l2dS X0.here hx rfl (hb hby d19_29) rfl (v := FP.l2d t5) rfl ?_
    show Steps p.tables e below (s₁.setTop (mkF m 30 #[rv o0, .val (.long t3), .second, .val (.long t4), .second, .val (.long t5), .second] [(.double (FP.l2d t5)), (.double (FP.l2d t2))])) _
    refine XS.dcmpS X0.here hx rfl (hb hby d19_30) rfl (v := (0 : Int32)) (dcmpV_eq (congrArg FP.l2d d2) (nn_w rfl) .l) ?_
    refine XS.ifNo X0.here hx rfl (hb hby d19_31) rfl (by decide) ?_
    refine oK X0 hx hby d19_34 rfl ?_
    refine XS.goto X0.here hx rfl (pc0 := 35) (pc' := 39) rfl (hb hby d19_35) (by decide) (by decide) ?_
    exact retN X0 hx (t := .boolean) Bd.returns (by simp) (hb hby d19_39) hr
  · show Q19_0 Z t0 t1 t2 t3 t4 t5 o0 j0 h0 n0 _ s₁.heap _
    exact ⟨rfl, N0, e0⟩
theorem sg_10 {p : Program} {l : Launch} {e : Env} {s : State} {m : MethodId} {args : Array Value} {below : List Frame} {meth : Method} {c : Code} {T0 : State} {locs : List Loc} {Z : State} {a0 : Array Value} {h0 : Heap} {n0 cn sn : Nat} (hw : HW a0 Z) (t0 t1 t2 : Int64) (t3 t4 t5 t6 t7 t8 : Int32) (t9 t10 t11 : Int64) (t12 t13 : Int32) (t14 t15 t16 : Int64) (t17 t18 : Int32) (o0 o1 o2 o3 o4 o5 : Addr) (j0 j1 : ClassId)
    (X0 : Stand p l e room_1 s m args below meth c T0 locs cn sn) (hcn : cn ≤ room_1.cells) (hsn : sn ≤ room_1.slots) (hx : p.tables.exec = Jvm.exec) (hZ : Z.Warmed39 s.vm) (hby : c.code = code) (hml : c.maxLocals = 14) (hown : s.vm.findClass kL = some m.cls) (e0 : T0.heap = h0) (N0 : Fr n0 locs) (OO : Old Z n0 h0) (f0 : Arv Z h0 o0 j0 (.array .double) (3 : Int32) [(.ref o1), (.ref o2), (.ref o3)] .null) (f1 : AD3 Z h0 o1 j1 t0 t1 t2) (d0 : t0 = (((own_pt t3 0 (t4.toInt64)) + (own_pt t5 0 (t6.toInt64))) + (own_pt t7 0 (t8.toInt64)))) (d1 : t1 = (((own_pt t3 1 (t4.toInt64)) + (own_pt t5 1 (t6.toInt64))) + (own_pt t7 1 (t8.toInt64)))) (d2 : t2 = (((own_pt t3 2 (t4.toInt64)) + (own_pt t5 2 (t6.toInt64))) + (own_pt t7 2 (t8.toInt64)))) (f2 : AD3 Z h0 o2 j1 t9 t10 t11) (d3 : t9 = (own_pt t12 0 (t13.toInt64))) (d4 : t10 = (own_pt t12 1 (t13.toInt64))) (d5 : t11 = (own_pt t12 2 (t13.toInt64))) (f3 : AD3 Z h0 o3 j1 t14 t15 t16) (d6 : t14 = 0) (d7 : t15 = 0) (d8 : t16 = 0) :
    ∃ (T' : State) (h' : Heap) (lc : List Loc), Stand p l e room_1 s m args below meth c T' lc cn sn ∧ T'.heap = h' ∧ Fr n0 lc ∧ Keep h0 h' [] ∧
      ∀ target, Steps p.tables e below (T'.setTop (mkF m 369 #[iv t17, iv t4, iv t6, iv t8, iv t13, iv t3, iv t5, iv t7, iv t12, rv o4, rv o5, rv o0, iv t18, iv 1] [])) target → Steps p.tables e below (T0.setTop (mkF m 207 #[iv t17, iv t4, iv t6, iv t8, iv t13, iv t3, iv t5, iv t7, iv t12, rv o4, rv o5, rv o0, iv t18, iv 1] [])) target := by
  obtain ⟨c1, r1, q1, S1, M1, H1, G1⟩ := id f0
  have i2 := inb_of (j := 0) S1 (by decide)
  have y3 : c1.slots[((0 : Int32)).toNatClampNeg]? = some (.ref o1) := H1 0 (by rw [S1]; decide)
  obtain ⟨_, T4, h4, Lc4, X4, e4a, hQ4, st4⟩ := own_cS X0 hx hZ hown (w_108 hw) (w_109 hw) (w_110 hw) (w_111 hw) (by decide) (rm18_2 l Z a0 hw [] t3 (0 : Int32) t4 h0 n0 OO) e0 (W := 1) (by decide) (by decide) hcn hsn (g := (mkF m 220 #[iv t17, iv t4, iv t6, iv t8, iv t13, iv t3, iv t5, iv t7, iv t12, rv o4, rv o5, rv o0, iv t18, iv 1] [(.int t4), (.int 0), (.int t3), (.ref o1)])) rfl (by rw [hml]; rfl) (argsL := [(.int t3), (.int 0), (.int t4)]) (rest := [(.ref o1)]) (lenOf pd_15 rfl) rfl rfl rfl (hb hby at_220) rfl
  obtain ⟨rfl, N4q, z4⟩ := hQ4
  have e4 := e4a.trans z4
  have N4 := Fr.app N0 N4q
  obtain ⟨_, T5, h5, Lc5, X5, e5a, hQ5, st5⟩ := own_cS X4 hx hZ hown (w_108 hw) (w_109 hw) (w_110 hw) (w_111 hw) (by decide) (rm18_2 l Z a0 hw [] t5 (0 : Int32) t6 h0 n0 OO) e4 (W := 3) (by decide) (by decide) hcn hsn (g := (mkF m 227 #[iv t17, iv t4, iv t6, iv t8, iv t13, iv t3, iv t5, iv t7, iv t12, rv o4, rv o5, rv o0, iv t18, iv 1] [(.int t6), (.int 0), (.int t5), (.long (own_pt t3 0 (t4.toInt64))), (.ref o1)])) rfl (by rw [hml]; rfl) (argsL := [(.int t5), (.int 0), (.int t6)]) (rest := [(.long (own_pt t3 0 (t4.toInt64))), (.ref o1)]) (lenOf pd_15 rfl) rfl rfl rfl (hb hby at_227) rfl
  obtain ⟨rfl, N5q, z5⟩ := hQ5
  have e5 := e5a.trans z5
  have N5 := Fr.app N4 N5q
  obtain ⟨_, T6, h6, Lc6, X6, e6a, hQ6, st6⟩ := own_cS X5 hx hZ hown (w_108 hw) (w_109 hw) (w_110 hw) (w_111 hw) (by decide) (rm18_2 l Z a0 hw [] t7 (0 : Int32) t8 h0 n0 OO) e5 (W := 3) (by decide) (by decide) hcn hsn (g := (mkF m 235 #[iv t17, iv t4, iv t6, iv t8, iv t13, iv t3, iv t5, iv t7, iv t12, rv o4, rv o5, rv o0, iv t18, iv 1] [(.int t8), (.int 0), (.int t7), (.long ((own_pt t3 0 (t4.toInt64)) + (own_pt t5 0 (t6.toInt64)))), (.ref o1)])) rfl (by rw [hml]; rfl) (argsL := [(.int t7), (.int 0), (.int t8)]) (rest := [(.long ((own_pt t3 0 (t4.toInt64)) + (own_pt t5 0 (t6.toInt64)))), (.ref o1)]) (lenOf pd_15 rfl) rfl rfl rfl (hb hby at_235) rfl
  obtain ⟨rfl, N6q, z6⟩ := hQ6
  have e6 := e6a.trans z6
  have N6 := Fr.app N5 N6q
  obtain ⟨_, T7, h7, Lc7, X7, e7a, hQ7, st7⟩ := own_cS X6 hx hZ hown (w_108 hw) (w_109 hw) (w_110 hw) (w_111 hw) (by decide) (rm18_2 l Z a0 hw [] t3 (1 : Int32) t4 h0 n0 OO) e6 (W := 3) (by decide) (by decide) hcn hsn (g := (mkF m 243 #[iv t17, iv t4, iv t6, iv t8, iv t13, iv t3, iv t5, iv t7, iv t12, rv o4, rv o5, rv o0, iv t18, iv 1] [(.int t4), (.int 1), (.int t3), (.long (((own_pt t3 0 (t4.toInt64)) + (own_pt t5 0 (t6.toInt64))) + (own_pt t7 0 (t8.toInt64)))), (.ref o1)])) rfl (by rw [hml]; rfl) (argsL := [(.int t3), (.int 1), (.int t4)]) (rest := [(.long (((own_pt t3 0 (t4.toInt64)) + (own_pt t5 0 (t6.toInt64))) + (own_pt t7 0 (t8.toInt64)))), (.ref o1)]) (lenOf pd_15 rfl) rfl rfl rfl (hb hby at_243) rfl
  obtain ⟨rfl, N7q, z7⟩ := hQ7
  have e7 := e7a.trans z7
  have N7 := Fr.app N6 N7q
  obtain ⟨_, T8, h8, Lc8, X8, e8a, hQ8, st8⟩ := own_cS X7 hx hZ hown (w_108 hw) (w_109 hw) (w_110 hw) (w_111 hw) (by decide) (rm18_2 l Z a0 hw [] t5 (1 : Int32) t6 h0 n0 OO) e7 (W := 5) (by decide) (by decide) hcn hsn (g := (mkF m 250 #[iv t17, iv t4, iv t6, iv t8, iv t13, iv t3, iv t5, iv t7, iv t12, rv o4, rv o5, rv o0, iv t18, iv 1] [(.int t6), (.int 1), (.int t5), (.long (own_pt t3 1 (t4.toInt64))), (.long (((own_pt t3 0 (t4.toInt64)) + (own_pt t5 0 (t6.toInt64))) + (own_pt t7 0 (t8.toInt64)))), (.ref o1)])) rfl (by rw [hml]; rfl) (argsL := [(.int t5), (.int 1), (.int t6)]) (rest := [(.long (own_pt t3 1 (t4.toInt64))), (.long (((own_pt t3 0 (t4.toInt64)) + (own_pt t5 0 (t6.toInt64))) + (own_pt t7 0 (t8.toInt64)))), (.ref o1)]) (lenOf pd_15 rfl) rfl rfl rfl (hb hby at_250) rfl
  obtain ⟨rfl, N8q, z8⟩ := hQ8
  have e8 := e8a.trans z8
  have N8 := Fr.app N7 N8q
  obtain ⟨_, T9, h9, Lc9, X9, e9a, hQ9, st9⟩ := own_cS X8 hx hZ hown (w_108 hw) (w_109 hw) (w_110 hw) (w_111 hw) (by decide) (rm18_2 l Z a0 hw [] t7 (1 : Int32) t8 h0 n0 OO) e8 (W := 5) (by decide) (by decide) hcn hsn (g := (mkF m 258 #[iv t17, iv t4, iv t6, iv t8, iv t13, iv t3, iv t5, iv t7, iv t12, rv o4, rv o5, rv o0, iv t18, iv 1] [(.int t8), (.int 1), (.int t7), (.long ((own_pt t3 1 (t4.toInt64)) + (own_pt t5 1 (t6.toInt64)))), (.long (((own_pt t3 0 (t4.toInt64)) + (own_pt t5 0 (t6.toInt64))) + (own_pt t7 0 (t8.toInt64)))), (.ref o1)])) rfl (by rw [hml]; rfl) (argsL := [(.int t7), (.int 1), (.int t8)]) (rest := [(.long ((own_pt t3 1 (t4.toInt64)) + (own_pt t5 1 (t6.toInt64)))), (.long (((own_pt t3 0 (t4.toInt64)) + (own_pt t5 0 (t6.toInt64))) + (own_pt t7 0 (t8.toInt64)))), (.ref o1)]) (lenOf pd_15 rfl) rfl rfl rfl (hb hby at_258) rfl
  obtain ⟨rfl, N9q, z9⟩ := hQ9
  have e9 := e9a.trans z9
  have N9 := Fr.app N8 N9q
  obtain ⟨_, T10, h10, Lc10, X10, e10a, hQ10, st10⟩ := own_cS X9 hx hZ hown (w_108 hw) (w_109 hw) (w_110 hw) (w_111 hw) (by decide) (rm18_2 l Z a0 hw [] t3 (2 : Int32) t4 h0 n0 OO) e9 (W := 5) (by decide) (by decide) hcn hsn (g := (mkF m 266 #[iv t17, iv t4, iv t6, iv t8, iv t13, iv t3, iv t5, iv t7, iv t12, rv o4, rv o5, rv o0, iv t18, iv 1] [(.int t4), (.int 2), (.int t3), (.long (((own_pt t3 1 (t4.toInt64)) + (own_pt t5 1 (t6.toInt64))) + (own_pt t7 1 (t8.toInt64)))), (.long (((own_pt t3 0 (t4.toInt64)) + (own_pt t5 0 (t6.toInt64))) + (own_pt t7 0 (t8.toInt64)))), (.ref o1)])) rfl (by rw [hml]; rfl) (argsL := [(.int t3), (.int 2), (.int t4)]) (rest := [(.long (((own_pt t3 1 (t4.toInt64)) + (own_pt t5 1 (t6.toInt64))) + (own_pt t7 1 (t8.toInt64)))), (.long (((own_pt t3 0 (t4.toInt64)) + (own_pt t5 0 (t6.toInt64))) + (own_pt t7 0 (t8.toInt64)))), (.ref o1)]) (lenOf pd_15 rfl) rfl rfl rfl (hb hby at_266) rfl
  obtain ⟨rfl, N10q, z10⟩ := hQ10
  have e10 := e10a.trans z10
  have N10 := Fr.app N9 N10q
  obtain ⟨_, T11, h11, Lc11, X11, e11a, hQ11, st11⟩ := own_cS X10 hx hZ hown (w_108 hw) (w_109 hw) (w_110 hw) (w_111 hw) (by decide) (rm18_2 l Z a0 hw [] t5 (2 : Int32) t6 h0 n0 OO) e10 (W := 7) (by decide) (by decide) hcn hsn (g := (mkF m 273 #[iv t17, iv t4, iv t6, iv t8, iv t13, iv t3, iv t5, iv t7, iv t12, rv o4, rv o5, rv o0, iv t18, iv 1] [(.int t6), (.int 2), (.int t5), (.long (own_pt t3 2 (t4.toInt64))), (.long (((own_pt t3 1 (t4.toInt64)) + (own_pt t5 1 (t6.toInt64))) + (own_pt t7 1 (t8.toInt64)))), (.long (((own_pt t3 0 (t4.toInt64)) + (own_pt t5 0 (t6.toInt64))) + (own_pt t7 0 (t8.toInt64)))), (.ref o1)])) rfl (by rw [hml]; rfl) (argsL := [(.int t5), (.int 2), (.int t6)]) (rest := [(.long (own_pt t3 2 (t4.toInt64))), (.long (((own_pt t3 1 (t4.toInt64)) + (own_pt t5 1 (t6.toInt64))) + (own_pt t7 1 (t8.toInt64)))), (.long (((own_pt t3 0 (t4.toInt64)) + (own_pt t5 0 (t6.toInt64))) + (own_pt t7 0 (t8.toInt64)))), (.ref o1)]) (lenOf pd_15 rfl) rfl rfl rfl (hb hby at_273) rfl
  obtain ⟨rfl, N11q, z11⟩ := hQ11
  have e11 := e11a.trans z11
  have N11 := Fr.app N10 N11q
  obtain ⟨_, T12, h12, Lc12, X12, e12a, hQ12, st12⟩ := own_cS X11 hx hZ hown (w_108 hw) (w_109 hw) (w_110 hw) (w_111 hw) (by decide) (rm18_2 l Z a0 hw [] t7 (2 : Int32) t8 h0 n0 OO) e11 (W := 7) (by decide) (by decide) hcn hsn (g := (mkF m 281 #[iv t17, iv t4, iv t6, iv t8, iv t13, iv t3, iv t5, iv t7, iv t12, rv o4, rv o5, rv o0, iv t18, iv 1] [(.int t8), (.int 2), (.int t7), (.long ((own_pt t3 2 (t4.toInt64)) + (own_pt t5 2 (t6.toInt64)))), (.long (((own_pt t3 1 (t4.toInt64)) + (own_pt t5 1 (t6.toInt64))) + (own_pt t7 1 (t8.toInt64)))), (.long (((own_pt t3 0 (t4.toInt64)) + (own_pt t5 0 (t6.toInt64))) + (own_pt t7 0 (t8.toInt64)))), (.ref o1)])) rfl (by rw [hml]; rfl) (argsL := [(.int t7), (.int 2), (.int t8)]) (rest := [(.long ((own_pt t3 2 (t4.toInt64)) + (own_pt t5 2 (t6.toInt64)))), (.long (((own_pt t3 1 (t4.toInt64)) + (own_pt t5 1 (t6.toInt64))) + (own_pt t7 1 (t8.toInt64)))), (.long (((own_pt t3 0 (t4.toInt64)) + (own_pt t5 0 (t6.toInt64))) + (own_pt t7 0 (t8.toInt64)))), (.ref o1)]) (lenOf pd_15 rfl) rfl rfl rfl (hb hby at_281) rfl
  obtain ⟨rfl, N12q, z12⟩ := hQ12
  have e12 := e12a.trans z12
  have N12 := Fr.app N11 N12q
  obtain ⟨_, T13, h13, Lc13, X13, e13a, hQ13, st13⟩ := own_cS X12 hx hZ hown (w_112 hw) (w_113 hw) (w_110 hw) (w_114 hw) (by decide) (rm19_0 l Z a0 hw [] t0 t1 t2 (((own_pt t3 0 (t4.toInt64)) + (own_pt t5 0 (t6.toInt64))) + (own_pt t7 0 (t8.toInt64))) (((own_pt t3 1 (t4.toInt64)) + (own_pt t5 1 (t6.toInt64))) + (own_pt t7 1 (t8.toInt64))) (((own_pt t3 2 (t4.toInt64)) + (own_pt t5 2 (t6.toInt64))) + (own_pt t7 2 (t8.toInt64))) o1 j1 h0 n0 OO f1 d0 d1 d2) e12 (W := 0) (by decide) (by decide) hcn hsn (g := (mkF m 285 #[iv t17, iv t4, iv t6, iv t8, iv t13, iv t3, iv t5, iv t7, iv t12, rv o4, rv o5, rv o0, iv t18, iv 1] [(.long (((own_pt t3 2 (t4.toInt64)) + (own_pt t5 2 (t6.toInt64))) + (own_pt t7 2 (t8.toInt64)))), (.long (((own_pt t3 1 (t4.toInt64)) + (own_pt t5 1 (t6.toInt64))) + (own_pt t7 1 (t8.toInt64)))), (.long (((own_pt t3 0 (t4.toInt64)) + (own_pt t5 0 (t6.toInt64))) + (own_pt t7 0 (t8.toInt64)))), (.ref o1)])) rfl (by rw [hml]; rfl) (argsL := [(.ref o1), (.long (((own_pt t3 0 (t4.toInt64)) + (own_pt t5 0 (t6.toInt64))) + (own_pt t7 0 (t8.toInt64)))), (.long (((own_pt t3 1 (t4.toInt64)) + (own_pt t5 1 (t6.toInt64))) + (own_pt t7 1 (t8.toInt64)))), (.long (((own_pt t3 2 (t4.toInt64)) + (own_pt t5 2 (t6.toInt64))) + (own_pt t7 2 (t8.toInt64))))]) (rest := []) (lenOf pd_16 rfl) rfl rfl rfl (hb hby at_285) rfl
  obtain ⟨rfl, N13q, z13⟩ := hQ13
  have e13 := e13a.trans z13
  have N13 := Fr.app N12 N13q
  obtain ⟨c14, r14, q14, S14, M14, H14, G14⟩ := id f0
  have i15 := inb_of (j := 1) S14 (by decide)
  have y16 : c14.slots[((1 : Int32)).toNatClampNeg]? = some (.ref o2) := H14 1 (by rw [S14]; decide)
  obtain ⟨_, T17, h17, Lc17, X17, e17a, hQ17, st17⟩ := own_cS X13 hx hZ hown (w_108 hw) (w_109 hw) (w_110 hw) (w_111 hw) (by decide) (rm18_2 l Z a0 hw [] t12 (0 : Int32) t13 h0 n0 OO) e13 (W := 1) (by decide) (by decide) hcn hsn (g := (mkF m 312 #[iv t17, iv t4, iv t6, iv t8, iv t13, iv t3, iv t5, iv t7, iv t12, rv o4, rv o5, rv o0, iv t18, iv 1] [(.int t13), (.int 0), (.int t12), (.ref o2)])) rfl (by rw [hml]; rfl) (argsL := [(.int t12), (.int 0), (.int t13)]) (rest := [(.ref o2)]) (lenOf pd_15 rfl) rfl rfl rfl (hb hby at_312) rfl
  obtain ⟨rfl, N17q, z17⟩ := hQ17
  have e17 := e17a.trans z17
  have N17 := Fr.app N13 N17q
  obtain ⟨_, T18, h18, Lc18, X18, e18a, hQ18, st18⟩ := own_cS X17 hx hZ hown (w_108 hw) (w_109 hw) (w_110 hw) (w_111 hw) (by decide) (rm18_2 l Z a0 hw [] t12 (1 : Int32) t13 h0 n0 OO) e17 (W := 3) (by decide) (by decide) hcn hsn (g := (mkF m 320 #[iv t17, iv t4, iv t6, iv t8, iv t13, iv t3, iv t5, iv t7, iv t12, rv o4, rv o5, rv o0, iv t18, iv 1] [(.int t13), (.int 1), (.int t12), (.long (own_pt t12 0 (t13.toInt64))), (.ref o2)])) rfl (by rw [hml]; rfl) (argsL := [(.int t12), (.int 1), (.int t13)]) (rest := [(.long (own_pt t12 0 (t13.toInt64))), (.ref o2)]) (lenOf pd_15 rfl) rfl rfl rfl (hb hby at_320) rfl
  obtain ⟨rfl, N18q, z18⟩ := hQ18
  have e18 := e18a.trans z18
  have N18 := Fr.app N17 N18q
  obtain ⟨_, T19, h19, Lc19, X19, e19a, hQ19, st19⟩ := own_cS X18 hx hZ hown (w_108 hw) (w_109 hw) (w_110 hw) (w_111 hw) (by decide) (rm18_2 l Z a0 hw [] t12 (2 : Int32) t13 h0 n0 OO) e18 (W := 5) (by decide) (by decide) hcn hsn (g := (mkF m 328 #[iv t17, iv t4, iv t6, iv t8, iv t13, iv t3, iv t5, iv t7, iv t12, rv o4, rv o5, rv o0, iv t18, iv 1] [(.int t13), (.int 2), (.int t12), (.long (own_pt t12 1 (t13.toInt64))), (.long (own_pt t12 0 (t13.toInt64))), (.ref o2)])) rfl (by rw [hml]; rfl) (argsL := [(.int t12), (.int 2), (.int t13)]) (rest := [(.long (own_pt t12 1 (t13.toInt64))), (.long (own_pt t12 0 (t13.toInt64))), (.ref o2)]) (lenOf pd_15 rfl) rfl rfl rfl (hb hby at_328) rfl
  obtain ⟨rfl, N19q, z19⟩ := hQ19
  have e19 := e19a.trans z19
  have N19 := Fr.app N18 N19q
  obtain ⟨_, T20, h20, Lc20, X20, e20a, hQ20, st20⟩ := own_cS X19 hx hZ hown (w_112 hw) (w_113 hw) (w_110 hw) (w_114 hw) (by decide) (rm19_0 l Z a0 hw [] t9 t10 t11 (own_pt t12 0 (t13.toInt64)) (own_pt t12 1 (t13.toInt64)) (own_pt t12 2 (t13.toInt64)) o2 j1 h0 n0 OO f2 d3 d4 d5) e19 (W := 0) (by decide) (by decide) hcn hsn (g := (mkF m 331 #[iv t17, iv t4, iv t6, iv t8, iv t13, iv t3, iv t5, iv t7, iv t12, rv o4, rv o5, rv o0, iv t18, iv 1] [(.long (own_pt t12 2 (t13.toInt64))), (.long (own_pt t12 1 (t13.toInt64))), (.long (own_pt t12 0 (t13.toInt64))), (.ref o2)])) rfl (by rw [hml]; rfl) (argsL := [(.ref o2), (.long (own_pt t12 0 (t13.toInt64))), (.long (own_pt t12 1 (t13.toInt64))), (.long (own_pt t12 2 (t13.toInt64)))]) (rest := []) (lenOf pd_16 rfl) rfl rfl rfl (hb hby at_331) rfl
  obtain ⟨rfl, N20q, z20⟩ := hQ20
  have e20 := e20a.trans z20
  have N20 := Fr.app N19 N20q
  obtain ⟨c21, r21, q21, S21, M21, H21, G21⟩ := id f0
  have i22 := inb_of (j := 2) S21 (by decide)
  have y23 : c21.slots[((2 : Int32)).toNatClampNeg]? = some (.ref o3) := H21 2 (by rw [S21]; decide)
  obtain ⟨_, T24, h24, Lc24, X24, e24a, hQ24, st24⟩ := own_cS X20 hx hZ hown (w_112 hw) (w_113 hw) (w_110 hw) (w_114 hw) (by decide) (rm19_0 l Z a0 hw [] t14 t15 t16 (0 : Int64) (0 : Int64) (0 : Int64) o3 j1 h0 n0 OO f3 d6 d7 d8) e20 (W := 0) (by decide) (by decide) hcn hsn (g := (mkF m 356 #[iv t17, iv t4, iv t6, iv t8, iv t13, iv t3, iv t5, iv t7, iv t12, rv o4, rv o5, rv o0, iv t18, iv 1] [(.long 0), (.long 0), (.long 0), (.ref o3)])) rfl (by rw [hml]; rfl) (argsL := [(.ref o3), (.long 0), (.long 0), (.long 0)]) (rest := []) (lenOf pd_16 rfl) rfl rfl rfl (hb hby at_356) rfl
  obtain ⟨rfl, N24q, z24⟩ := hQ24
  have e24 := e24a.trans z24
  have N24 := Fr.app N20 N24q
  refine ⟨T24, h0, _, X24, e24, N24, (Keep.refl h0 []), fun target kt => ?_⟩
  show Steps p.tables e below (T0.setTop (mkF m 207 #[iv t17, iv t4, iv t6, iv t8, iv t13, iv t3, iv t5, iv t7, iv t12, rv o4, rv o5, rv o0, iv t18, iv 1] [])) _
  refine oi X0 hx hby at_207 rfl rfl ?_
  refine XS.ifNo X0.here hx rfl (hb hby at_209) rfl (by decide) ?_
  refine oa X0 hx hby at_212 rfl rfl rfl ?_
  refine oK X0 hx hby at_214 rfl ?_
  refine X0.aaload hx (j := (0 : Int32)) (v := (.ref o1)) (by rw [e0]; exact r1.1) (State.isArrayOf_alike hZ.alike r1.2.1) rfl r1.2.2 i2 y3 (g := (mkF m 215 #[iv t17, iv t4, iv t6, iv t8, iv t13, iv t3, iv t5, iv t7, iv t12, rv o4, rv o5, rv o0, iv t18, iv 1] [(.int 0), (.ref o0)])) rfl rfl (hb hby at_215) _ ?_
  refine oi X0 hx hby at_216 rfl rfl ?_
  refine oK X0 hx hby at_218 rfl ?_
  refine oI X0 hx hby at_219 rfl rfl ?_
  refine st4 _ ?_
  refine oi X4 hx hby at_223 rfl rfl ?_
  refine oK X4 hx hby at_225 rfl ?_
  refine oI X4 hx hby at_226 rfl rfl ?_
  refine st5 _ ?_
  refine XS.ladd X5.here hx rfl (hb hby at_230) rfl ?_
  refine oi X5 hx hby at_231 rfl rfl ?_
  refine oK X5 hx hby at_233 rfl ?_
  refine oI X5 hx hby at_234 rfl rfl ?_
  refine st6 _ ?_
  refine XS.ladd X6.here hx rfl (hb hby at_238) rfl ?_
  refine oi X6 hx hby at_239 rfl rfl ?_
  refine oK X6 hx hby at_241 rfl ?_
  refine oI X6 hx hby at_242 rfl rfl ?_
  refine st7 _ ?_
  refine oi X7 hx hby at_246 rfl rfl ?_
  show Steps p.tables e below (T7.setTop (mkF m 248 #[iv t17, iv t4, iv t6, iv t8, iv t13, iv t3, iv t5, iv t7, iv t12, rv o4, rv o5, rv o0, iv t18, iv 1] [(.int t5), (.long (own_pt t3 1 (t4.toInt64))), (.long (((own_pt t3 0 (t4.toInt64)) + (own_pt t5 0 (t6.toInt64))) + (own_pt t7 0 (t8.toInt64)))), (.ref o1)])) _
  refine oK X7 hx hby at_248 rfl ?_
  refine oI X7 hx hby at_249 rfl rfl ?_
  refine st8 _ ?_
  refine XS.ladd X8.here hx rfl (hb hby at_253) rfl ?_
  refine oi X8 hx hby at_254 rfl rfl ?_
  refine oK X8 hx hby at_256 rfl ?_
  refine oI X8 hx hby at_257 rfl rfl ?_
  refine st9 _ ?_
  refine XS.ladd X9.here hx rfl (hb hby at_261) rfl ?_
  refine oi X9 hx hby at_262 rfl rfl ?_
  refine oK X9 hx hby at_264 rfl ?_
  refine oI X9 hx hby at_265 rfl rfl ?_
  refine st10 _ ?_
  refine oi X10 hx hby at_269 rfl rfl ?_
  refine oK X10 hx hby at_271 rfl ?_
  refine oI X10 hx hby at_272 rfl rfl ?_
  refine st11 _ ?_
  refine XS.ladd X11.here hx rfl (hb hby at_276) rfl ?_
  refine oi X11 hx hby at_277 rfl rfl ?_
  refine oK X11 hx hby at_279 rfl ?_
  refine oI X11 hx hby at_280 rfl rfl ?_
  refine st12 _ ?_
  refine XS.ladd X12.here hx rfl (hb hby at_284) rfl ?_
  refine st13 _ ?_
  show Steps p.tables e below (T13.setTop (mkF m 288 #[iv t17, iv t4, iv t6, iv t8, iv t13, iv t3, iv t5, iv t7, iv t12, rv o4, rv o5, rv o0, iv t18, iv 1] [(.int 1)])) _
  refine XS.ifNo X13.here hx rfl (hb hby at_288) rfl (by decide) ?_
  refine oK X13 hx hby at_291 rfl ?_
  refine XS.goto X13.here hx rfl (pc0 := 292) (pc' := 296) rfl (hb hby at_292) (by decide) (by decide) ?_
  refine XS.istore X13.here hx rfl (hb hby at_296) rfl (l' := #[iv t17, iv t4, iv t6, iv t8, iv t13, iv t3, iv t5, iv t7, iv t12, rv o4, rv o5, rv o0, iv t18, iv 1]) rfl ?_
  refine oi X13 hx hby at_298 rfl rfl ?_
  refine XS.ifNo X13.here hx rfl (hb hby at_300) rfl (by decide) ?_
  refine oa X13 hx hby at_303 rfl rfl rfl ?_
  refine oK X13 hx hby at_305 rfl ?_
  refine X13.aaload hx (j := (1 : Int32)) (v := (.ref o2)) (by rw [e13]; exact r14.1) (State.isArrayOf_alike hZ.alike r14.2.1) rfl r14.2.2 i15 y16 (g := (mkF m 306 #[iv t17, iv t4, iv t6, iv t8, iv t13, iv t3, iv t5, iv t7, iv t12, rv o4, rv o5, rv o0, iv t18, iv 1] [(.int 1), (.ref o0)])) rfl rfl (hb hby at_306) _ ?_
  refine oi X13 hx hby at_307 rfl rfl ?_
  refine oK X13 hx hby at_309 rfl ?_
  refine oi X13 hx hby at_310 rfl rfl ?_
  refine st17 _ ?_
  refine oi X17 hx hby at_315 rfl rfl ?_
  refine oK X17 hx hby at_317 rfl ?_
  refine oi X17 hx hby at_318 rfl rfl ?_
  refine st18 _ ?_
  refine oi X18 hx hby at_323 rfl rfl ?_
  refine oK X18 hx hby at_325 rfl ?_
  refine oi X18 hx hby at_326 rfl rfl ?_
  refine st19 _ ?_
  refine st20 _ ?_
  refine XS.ifNo X20.here hx rfl (hb hby at_334) rfl (by decide) ?_
  refine oK X20 hx hby at_337 rfl ?_
  show Steps p.tables e below (T20.setTop (mkF m 338 #[iv t17, iv t4, iv t6, iv t8, iv t13, iv t3, iv t5, iv t7, iv t12, rv o4, rv o5, rv o0, iv t18, iv 1] [(.int 1)])) _
  refine XS.goto X20.here hx rfl (pc0 := 338) (pc' := 342) rfl (hb hby at_338) (by decide) (by decide) ?_
  refine XS.istore X20.here hx rfl (hb hby at_342) rfl (l' := #[iv t17, iv t4, iv t6, iv t8, iv t13, iv t3, iv t5, iv t7, iv t12, rv o4, rv o5, rv o0, iv t18, iv 1]) rfl ?_
  refine oi X20 hx hby at_344 rfl rfl ?_
  refine XS.ifNo X20.here hx rfl (hb hby at_346) rfl (by decide) ?_
  refine oa X20 hx hby at_349 rfl rfl rfl ?_
  refine oK X20 hx hby at_351 rfl ?_
  refine X20.aaload hx (j := (2 : Int32)) (v := (.ref o3)) (by rw [e20]; exact r21.1) (State.isArrayOf_alike hZ.alike r21.2.1) rfl r21.2.2 i22 y23 (g := (mkF m 352 #[iv t17, iv t4, iv t6, iv t8, iv t13, iv t3, iv t5, iv t7, iv t12, rv o4, rv o5, rv o0, iv t18, iv 1] [(.int 2), (.ref o0)])) rfl rfl (hb hby at_352) _ ?_
  refine XS.lconst X20.here hx rfl (hb hby at_353) ?_
  refine XS.lconst X20.here hx rfl (hb hby at_354) ?_
  refine XS.lconst X20.here hx rfl (hb hby at_355) ?_
  refine st24 _ ?_
  refine XS.ifNo X24.here hx rfl (hb hby at_359) rfl (by decide) ?_
  refine oK X24 hx hby at_362 rfl ?_
  refine XS.goto X24.here hx rfl (pc0 := 363) (pc' := 367) rfl (hb hby at_363) (by decide) (by decide) ?_
  refine XS.istore X24.here hx rfl (hb hby at_367) rfl (l' := #[iv t17, iv t4, iv t6, iv t8, iv t13, iv t3, iv t5, iv t7, iv t12, rv o4, rv o5, rv o0, iv t18, iv 1]) rfl ?_
  exact kt
theorem rm0_0 (l : Launch) (Z : State) (a0 : Array Value) (hw : HW a0 Z) (ws : List Jvm.Cond) (p0 p1 p2 p3 p4 p5 p6 p7 p8 : Int32) (h0 : Heap) (n0 : Nat) (OO : Old Z n0 h0) (hc5 : ((p0 &&& (255 : Int32)) % (3 : Int32)) = p5) (hc6 : ((((p0.toUInt32 >>> ((8 : Int32) &&& 31).toUInt32).toInt32) &&& (255 : Int32)) % (3 : Int32)) = p6) (hc7 : ((((p0.toUInt32 >>> ((16 : Int32) &&& 31).toUInt32).toInt32) &&& (255 : Int32)) % (3 : Int32)) = p7) (hc8 : ((((p0.toUInt32 >>> ((24 : Int32) &&& 31).toUInt32).toInt32) &&& (255 : Int32)) % (3 : Int32)) = p8) (i5 : own_in3 p5) (i6 : own_in3 p6) (i7 : own_in3 p7) (hd0 : (own_pi p6 (own_ui p5 0 1 0) (own_ui p5 1 1 0) (own_ui p5 2 1 0)) = (0 : Int32)) (hd1 : (own_pi p7 (own_ui p6 0 1 (own_ui p5 0 1 0)) (own_ui p6 1 1 (own_ui p5 1 1 0)) (own_ui p6 2 1 (own_ui p5 2 1 0))) = (0 : Int32)) (i8 : own_in3 p8) :
    MetFree l x (head1 (Jvm.Cond.code x code maxLocals ret :: ws) room_1) (fun a U => a = #[(.int p0), (.int p1), (.int p2), (.int p3), (.int p4)] ∧ Z.Warmed39 U.vm ∧ U.heap = h0) (fun _ _ _ _ _ => True) (fun _ U o U' => ∃ v L, o = .returned v ∧ (v = some (.int (1 : Int32)) ∧ Fr n0 L) ∧ FrameEnd U o U' L room_1.cells room_1.slots) := by
  refine MetFree.of_bodySF (plainFor_of_name pn_0) hisR ?_
  intro p e s m args below meth c s₁ Bd hml0 hP hK
  obtain ⟨rfl, hZ, hh⟩ := hP
  have hx := Bd.exec
  have hby := Bd.bytes
  have hml : c.maxLocals = 14 := hml0
  have hown : s.vm.findClass kL = some m.cls := findClass_of_methodNamed Bd.named
  have X0 : Stand p l e room_1 s m #[(.int p0), (.int p1), (.int p2), (.int p3), (.int p4)] below meth c s₁ [] 0 0 := Stand.of_body Bd
  have e0 : s₁.heap = h0 := by rw [← hh, Bd.state]; rfl
  have N0 := Fr.nil n0
  obtain ⟨T1, h1, lc1, b1, b2, b3, b4, b5, b6, b7, kb2, kb3, kb4, kb5, kb6, kb7, X1, e1, N1, K1, sp1_b1, sp1_b2, sp1_b3, sp1_b4, sp1_b5, sp1_b6, sp1_b7, ne1_b1_b2, ne1_b1_b3, ne1_b1_b4, ne1_b1_b5, ne1_b1_b6, ne1_b1_b7, ne1_b2_b3, ne1_b2_b4, ne1_b2_b5, ne1_b2_b6, ne1_b2_b7, ne1_b3_b4, ne1_b3_b5, ne1_b3_b6, ne1_b3_b7, ne1_b4_b5, ne1_b4_b6, ne1_b4_b7, ne1_b5_b6, ne1_b5_b7, ne1_b6_b7, R1_0, R1_1, R1_2, R1_3, R1_4, R1_5, R1_6, R1_7, R1_8, R1_9, R1_10, R1_11, R1_12, R1_13, R1_14, R1_15, R1_16, R1_17, R1_18, st1⟩ := sg_0 hw p5 p1 p0 p2 p3 p4 p6 p7 p8 X0 hx hZ hby hml hown e0 N0 OO i5 (own_q0 i5) own_q1
  have g2 : n0 ≤ b1 := Nat.le_trans (own_le OO) sp1_b1
  have g3 : n0 ≤ b2 := Nat.le_trans (own_le OO) sp1_b2
  have g4 : n0 ≤ b3 := Nat.le_trans (own_le OO) sp1_b3
  have g5 : n0 ≤ b4 := Nat.le_trans (own_le OO) sp1_b4
  have g6 : n0 ≤ b5 := Nat.le_trans (own_le OO) sp1_b5
  have g7 : n0 ≤ b6 := Nat.le_trans (own_le OO) sp1_b6
  have g8 : n0 ≤ b7 := Nat.le_trans (own_le OO) sp1_b7
  have O1 := Old.keep OO K1 all0
  obtain ⟨T9, h9, lc9, X9, e9, N9, K9, R9_0, R9_1, R9_2, R9_3, R9_4, R9_5, R9_6, R9_7, R9_8, R9_9, R9_10, R9_11, R9_12, R9_13, R9_14, R9_15, R9_16, R9_17, R9_18, st9⟩ := sg_6 hw p6 _ _ _ p7 p5 (0 : Int32) (0 : Int32) _ _ _ (3 : Int32) p2 p3 (0 : Int32) (0 : Int32) (0 : Int32) (0 : Int64) (0 : Int64) (0 : Int64) (0 : Int32) (0 : Int32) (0 : Int32) (0 : Int32) p0 p1 p4 p5 p8 b1 b3 b4 b2 b5 b6 b7 kb3 kb4 kb2 kb6 kb7 kb5 X1 (by decide) (by decide) hx hZ hby hml hown e1 N1 O1 R1_3 R1_12 R1_4 R1_8 R1_0 R1_13 R1_2 R1_11 R1_1 R1_5 R1_6 R1_7 R1_9 R1_10 i6 g4 ne1_b1_b3 g2 (Ne.symm ne1_b3_b4) (Ne.symm ne1_b1_b4) g5 ne1_b2_b3 (Ne.symm ne1_b1_b2) ne1_b2_b4 (own_q2 i6) own_q3 g3 i7 (own_q4 i7) own_q5 R1_16 R1_18 R1_14 R1_15 R1_17 (Ne.symm ne1_b3_b6) (Ne.symm ne1_b1_b6) (Ne.symm ne1_b4_b6) (Ne.symm ne1_b2_b6) g7 (own_s0_in i5 i6 i7) (Ne.symm ne1_b3_b7) (Ne.symm ne1_b1_b7) (Ne.symm ne1_b4_b7) (Ne.symm ne1_b2_b7) (Ne.symm ne1_b6_b7) g8 (own_s1_in i5 i6 i7) (own_s2_in i5 i6 i7) (Ne.symm ne1_b3_b5) (Ne.symm ne1_b1_b5) (Ne.symm ne1_b4_b5) (Ne.symm ne1_b2_b5) ne1_b5_b6 ne1_b5_b7 g6 hd0 hd1
  have O9 := Old.keep O1 K9 (allS g3 (allS g5 (allS g2 (allS g4 (allS g6 (allS g8 (allS g7 all0)))))))
  have F10 : AZ3 Z h9 b3 kb3 0 0 0 := own_cgI R9_13 (own_q6 i5 i6 i7 hd0 hd1).1 (own_q6 i5 i6 i7 hd0 hd1).2.1 (own_q6 i5 i6 i7 hd0 hd1).2.2
  have F11 : AD3 Z h9 b2 kb2 0 0 0 := own_cgD R9_0 (own_q7 i5 i6 i7 hd0 hd1).1 (own_q7 i5 i6 i7 hd0 hd1).2.1 (own_q7 i5 i6 i7 hd0 hd1).2.2
  obtain ⟨T12, h12, lc12, b8, b9, b10, b11, b12, b13, b14, b15, b16, kb8, kb9, kb11, kb12, kb13, kb14, X12, e12, N12, K12, sp12_b8, sp12_b9, sp12_b10, sp12_b11, sp12_b12, sp12_b13, sp12_b14, sp12_b15, sp12_b16, ne12_b8_b9, ne12_b8_b10, ne12_b8_b11, ne12_b8_b12, ne12_b8_b13, ne12_b8_b14, ne12_b8_b15, ne12_b8_b16, ne12_b9_b10, ne12_b9_b11, ne12_b9_b12, ne12_b9_b13, ne12_b9_b14, ne12_b9_b15, ne12_b9_b16, ne12_b10_b11, ne12_b10_b12, ne12_b10_b13, ne12_b10_b14, ne12_b10_b15, ne12_b10_b16, ne12_b11_b12, ne12_b11_b13, ne12_b11_b14, ne12_b11_b15, ne12_b11_b16, ne12_b12_b13, ne12_b12_b14, ne12_b12_b15, ne12_b12_b16, ne12_b13_b14, ne12_b13_b15, ne12_b13_b16, ne12_b14_b15, ne12_b14_b16, ne12_b15_b16, R12_0, R12_1, R12_2, R12_3, R12_4, R12_5, R12_6, R12_7, R12_8, R12_9, R12_10, R12_11, R12_12, R12_13, R12_14, R12_15, R12_16, R12_17, R12_18, R12_19, R12_20, R12_21, R12_22, R12_23, R12_24, R12_25, R12_26, st12⟩ := sg_7 hw _ _ _ (0 : Int64) (0 : Int64) (0 : Int64) p8 p4 _ _ _ _ _ _ (0 : Int32) (0 : Int32) p0 p1 p2 p3 p5 p6 p7 b1 b3 b4 b2 b5 b6 b7 kb3 kb4 kb2 kb6 kb7 kb5 X9 hx hZ hby hml hown e9 N9 O9 R9_2 F10 R9_3 R9_4 R9_5 R9_1 R9_6 F11 R9_7 R9_8 R9_9 R9_10 R9_11 R9_12 i8 g4 ne1_b1_b3 g2 (Ne.symm ne1_b3_b4) (Ne.symm ne1_b1_b4) g5 ne1_b2_b3 (Ne.symm ne1_b1_b2) ne1_b2_b4 (own_q8 i8) own_q9 g3 R9_17 R9_15 R9_14 (Ne.symm ne1_b3_b6) (Ne.symm ne1_b1_b6) (Ne.symm ne1_b4_b6) (Ne.symm ne1_b2_b6) (Ne.symm ne1_b3_b7) (Ne.symm ne1_b1_b7) (Ne.symm ne1_b4_b7) (Ne.symm ne1_b2_b7) (Ne.symm ne1_b3_b5) (Ne.symm ne1_b1_b5) (Ne.symm ne1_b4_b5) (Ne.symm ne1_b2_b5) g6 (own_s0_in i5 i6 i7) (own_s1_in i5 i6 i7) (own_s2_in i5 i6 i7)
  have g13 : n0 ≤ b8 := Nat.le_trans (own_le O9) sp12_b8
  have g14 : n0 ≤ b9 := Nat.le_trans (own_le O9) sp12_b9
  have g15 : n0 ≤ b10 := Nat.le_trans (own_le O9) sp12_b10
  have g16 : n0 ≤ b11 := Nat.le_trans (own_le O9) sp12_b11
  have g17 : n0 ≤ b12 := Nat.le_trans (own_le O9) sp12_b12
  have g18 : n0 ≤ b13 := Nat.le_trans (own_le O9) sp12_b13
  have g19 : n0 ≤ b14 := Nat.le_trans (own_le O9) sp12_b14
  have g20 : n0 ≤ b15 := Nat.le_trans (own_le O9) sp12_b15
  have g21 : n0 ≤ b16 := Nat.le_trans (own_le O9) sp12_b16
  have O12 := Old.keep O9 K12 (allS g3 (allS g5 (allS g2 (allS g4 (allS g6 all0)))))
  obtain ⟨T22, h22, lc22, X22, e22, N22, K22, st22⟩ := sg_8 hw p6 p5 p7 p0 p1 p2 p3 p4 p8 b1 b10 b13 X12 (by decide) (by decide) hx hZ hby hml hown e12 N12 O12 (own_q10 i5 i6 i7 hd0 hd1) (own_q11 i5 i6 i7 hd0 hd1) (own_q12 i5 i6 i7 hd0 hd1)
  have O22 := Old.keep O12 K22 all0
  have F24 := (Fld.keep R12_3 K22 nin0)
  have F25 := (Arv.keep R12_26 K22 nin0)
  have F26 := (Exa.keep R12_2 K22)
  have F27 := (Arv.keep R12_8 K22 nin0)
  obtain ⟨T23, h23, lc23, X23, e23, N23, K23, st23⟩ := sg_9 hw (0 : Int32) (4 : Int32) p0 p1 p2 p3 p4 p5 p6 p7 p8 b10 b5 b13 b14 b15 b16 b1 kb5 kb13 X22 (by decide) (by decide) hx hZ hby hml hown e22 N22 O22 F24 F25 F26 F27
  have O23 := Old.keep O22 K23 all0
  have F29 := (Arv.keep F27 K23 nin0)
  have F30 := (Arv.keep (Arv.keep R12_9 K22 nin0) K23 nin0)
  have F31 := (Arv.keep (Arv.keep R12_10 K22 nin0) K23 nin0)
  have F32 := (Arv.keep (Arv.keep R12_11 K22 nin0) K23 nin0)
  obtain ⟨T28, h28, lc28, X28, e28, N28, K28, st28⟩ := sg_10 hw _ _ _ p5 p1 p6 p2 p7 p3 _ _ _ p8 p4 (0 : Int64) (0 : Int64) (0 : Int64) p0 (3 : Int32) b13 b14 b15 b16 b1 b10 kb13 kb14 X23 (by decide) (by decide) hx hZ hby hml hown e23 N23 O23 F29 F30 (own_q13 i5 i6 i7 hd0 hd1) (own_q14 i5 i6 i7 hd0 hd1) (own_q15 i5 i6 i7 hd0 hd1) F31 (own_q16 i8) (own_q17 i8) (own_q18 i8) F32 (by decide) (by decide) (by decide)
  have O28 := Old.keep O23 K28 all0
  obtain ⟨fs, hr, hrun, hended, hW, hsame⟩ := X28.leave (v := some (.int 1)) (fun h => by rw [Bd.returns] at h; cases h)
  refine ⟨_, _, (castTop (ef_0 m p0 p1 p2 p3 p4) ?_), hrun, hended, _, _, rfl, ?_, ⟨_, rfl⟩, hW, hsame.mono (by decide) (by decide)⟩
  · show Steps p.tables e below (s₁.setTop (mkF m 0 #[iv p0, iv p1, iv p2, iv p3, iv p4, .unset, .unset, .unset, .unset, .unset, .unset, .unset, .unset, .unset] [])) _
    refine oI X0 hx hby at_0 rfl rfl ?_
    refine XS.sipush X0.here hx rfl (hb hby at_1) ?_
    refine XS.iand X0.here hx rfl (hb hby at_4) rfl ?_
    refine oK X0 hx hby at_5 rfl ?_
    refine iremM X0 hx rfl (hb hby at_6) rfl (by decide) ?_
    show Steps p.tables e below (s₁.setTop (mkF m 7 #[iv p0, iv p1, iv p2, iv p3, iv p4, .unset, .unset, .unset, .unset, .unset, .unset, .unset, .unset, .unset] [(.int ((p0 &&& (255 : Int32)) % (3 : Int32)))])) _
    rw [hc5]
    refine XS.istore X0.here hx rfl (hb hby at_7) rfl (l' := #[iv p0, iv p1, iv p2, iv p3, iv p4, iv p5, .unset, .unset, .unset, .unset, .unset, .unset, .unset, .unset]) rfl ?_
    refine oI X0 hx hby at_9 rfl rfl ?_
    refine XS.bipush X0.here hx rfl (hb hby at_10) ?_
    refine XS.iushr X0.here hx rfl (hb hby at_12) rfl ?_
    refine XS.sipush X0.here hx rfl (hb hby at_13) ?_
    refine XS.iand X0.here hx rfl (hb hby at_16) rfl ?_
    refine oK X0 hx hby at_17 rfl ?_
    refine iremM X0 hx rfl (hb hby at_18) rfl (by decide) ?_
    show Steps p.tables e below (s₁.setTop (mkF m 19 #[iv p0, iv p1, iv p2, iv p3, iv p4, iv p5, .unset, .unset, .unset, .unset, .unset, .unset, .unset, .unset] [(.int ((((p0.toUInt32 >>> ((8 : Int32) &&& 31).toUInt32).toInt32) &&& (255 : Int32)) % (3 : Int32)))])) _
    rw [hc6]
    refine XS.istore X0.here hx rfl (hb hby at_19) rfl (l' := #[iv p0, iv p1, iv p2, iv p3, iv p4, iv p5, iv p6, .unset, .unset, .unset, .unset, .unset, .unset, .unset]) rfl ?_
    refine oI X0 hx hby at_21 rfl rfl ?_
    refine XS.bipush X0.here hx rfl (hb hby at_22) ?_
    refine XS.iushr X0.here hx rfl (hb hby at_24) rfl ?_
    refine XS.sipush X0.here hx rfl (hb hby at_25) ?_
    refine XS.iand X0.here hx rfl (hb hby at_28) rfl ?_
    refine oK X0 hx hby at_29 rfl ?_
    refine iremM X0 hx rfl (hb hby at_30) rfl (by decide) ?_
    show Steps p.tables e below (s₁.setTop (mkF m 31 #[iv p0, iv p1, iv p2, iv p3, iv p4, iv p5, iv p6, .unset, .unset, .unset, .unset, .unset, .unset, .unset] [(.int ((((p0.toUInt32 >>> ((16 : Int32) &&& 31).toUInt32).toInt32) &&& (255 : Int32)) % (3 : Int32)))])) _
    rw [hc7]
    refine XS.istore X0.here hx rfl (hb hby at_31) rfl (l' := #[iv p0, iv p1, iv p2, iv p3, iv p4, iv p5, iv p6, iv p7, .unset, .unset, .unset, .unset, .unset, .unset]) rfl ?_
    refine oI X0 hx hby at_33 rfl rfl ?_
    refine XS.bipush X0.here hx rfl (hb hby at_34) ?_
    refine XS.iushr X0.here hx rfl (hb hby at_36) rfl ?_
    refine XS.sipush X0.here hx rfl (hb hby at_37) ?_
    refine XS.iand X0.here hx rfl (hb hby at_40) rfl ?_
    refine oK X0 hx hby at_41 rfl ?_
    refine iremM X0 hx rfl (hb hby at_42) rfl (by decide) ?_
    show Steps p.tables e below (s₁.setTop (mkF m 43 #[iv p0, iv p1, iv p2, iv p3, iv p4, iv p5, iv p6, iv p7, .unset, .unset, .unset, .unset, .unset, .unset] [(.int ((((p0.toUInt32 >>> ((24 : Int32) &&& 31).toUInt32).toInt32) &&& (255 : Int32)) % (3 : Int32)))])) _
    rw [hc8]
    refine XS.istore X0.here hx rfl (hb hby at_43) rfl (l' := #[iv p0, iv p1, iv p2, iv p3, iv p4, iv p5, iv p6, iv p7, iv p8, .unset, .unset, .unset, .unset, .unset]) rfl ?_
    show Steps p.tables e below (s₁.setTop (mkF m 45 #[iv p0, iv p1, iv p2, iv p3, iv p4, iv p5, iv p6, iv p7, iv p8, .unset, .unset, .unset, .unset, .unset] [])) _
    refine st1 _ ?_
    show Steps p.tables e below (T1.setTop (mkF m 64 #[iv p0, iv p1, iv p2, iv p3, iv p4, iv p5, iv p6, iv p7, iv p8, rv b1, .unset, .unset, .unset, .unset] [])) _
    refine st9 _ ?_
    show Steps p.tables e below (T9.setTop (mkF m 87 #[iv p0, iv p1, iv p2, iv p3, iv p4, iv p5, iv p6, iv p7, iv p8, rv b1, .unset, .unset, .unset, .unset] [])) _
    refine st12 _ ?_
    show Steps p.tables e below (T12.setTop (mkF m 121 #[iv p0, iv p1, iv p2, iv p3, iv p4, iv p5, iv p6, iv p7, iv p8, rv b1, rv b10, rv b13, .unset, .unset] [])) _
    refine st22 _ ?_
    show Steps p.tables e below (T22.setTop (mkF m 157 #[iv p0, iv p1, iv p2, iv p3, iv p4, iv p5, iv p6, iv p7, iv p8, rv b1, rv b10, rv b13, iv 3, .unset] [])) _
    refine st23 _ ?_
    show Steps p.tables e below (T23.setTop (mkF m 207 #[iv p0, iv p1, iv p2, iv p3, iv p4, iv p5, iv p6, iv p7, iv p8, rv b1, rv b10, rv b13, iv 3, iv 1] [])) _
    refine st28 _ ?_
    refine oi X28 hx hby at_369 rfl rfl ?_
    exact retN X28 hx (t := .boolean) Bd.returns (by simp) (hb hby at_371) hr
  · exact ⟨rfl, N28⟩
def Q3_3 (Z : State) (t0 t1 t2 t3 : Int32) (t4 t5 t6 t7 : Int64) (o0 o1 o2 : Addr) (j0 j1 : ClassId) (h0 : Heap) (n0 : Nat) (v : Option Value) (h : Heap) (L : List Loc) : Prop := v = none ∧ Fr n0 L ∧ Keep h0 h [o2] ∧ AD3 Z h o2 j1 (t4 + (own_pt t0 0 t7)) (t5 + (own_pt t0 1 t7)) (t6 + (own_pt t0 2 t7))
theorem rm3_3 (l : Launch) (Z : State) (a0 : Array Value) (hw : HW a0 Z) (ws : List Jvm.Cond) (t0 t1 t2 t3 : Int32) (t4 t5 t6 t7 : Int64) (o0 o1 o2 : Addr) (j0 j1 : ClassId) (h0 : Heap) (n0 : Nat) (OO : Old Z n0 h0) (f0 : fB2 Z h0 o0 (.ref o1)) (f1 : AZ3 Z h0 o1 j0 t1 t2 t3) (d0 : own_in3 t0) (f2 : fB1 Z h0 o0 (.ref o2)) (f3 : AD3 Z h0 o2 j1 t4 t5 t6) (d1 : B53 (own_pk t0 t4 t5 t6)) (d2 : B53 t7) (u0 : n0 ≤ o2) (hq0 : ¬ ((own_pi t0 t1 t2 t3) = (0 : Int32))) :
    own_MF l Z h0 (⟨kB, "add", "(ID)V"⟩ : MethodName) ws prog_58_method_2_code 4 none ({ frames := 0, cells := 0, slots := 0, locals := 0 } : Room) #[(.ref o0), (.int t0), (.double (FP.l2d t7))] (Q3_3 Z t0 t1 t2 t3 t4 t5 t6 t7 o0 o1 o2 j0 j1 h0 n0) := by
  refine MetFree.of_bodySF (plainFor_of_name pn_3) hisR ?_
  intro p e s m args below meth c s₁ Bd hml0 hP hK
  obtain ⟨rfl, hZ, hh⟩ := hP
  have hx := Bd.exec
  have hby := Bd.bytes
  have hml : c.maxLocals = 4 := hml0
  have hown : s.vm.findClass kB = some m.cls := findClass_of_methodNamed Bd.named
  have X0 : Stand p l e ({ frames := 0, cells := 0, slots := 0, locals := 0 } : Room) s m #[(.ref o0), (.int t0), (.double (FP.l2d t7))] below meth c s₁ [] 0 0 := Stand.of_body Bd
  have e0 : s₁.heap = h0 := by rw [← hh, Bd.state]; rfl
  have N0 := Fr.nil n0
  obtain ⟨T1, X1, e1, st1⟩ := own_gF X0 hx hZ hown (w_15 hw) e0 f0 (g := (mkF m 1 #[rv o0, iv t0, .val (.double (FP.l2d t7)), .second] [(.ref o0)])) rfl rfl (hb hby d3_1)
  obtain ⟨c2, r2, q2, S2, M2, H2, G2⟩ := id f1
  have i3 := own_inb (j := t0) S2 d0
  have y4 := own_rdI S2 H2 d0
  obtain ⟨T5, X5, e5, st5⟩ := own_gF X1 hx hZ hown (w_12 hw) e1 f2 (g := (mkF m 34 #[rv o0, iv t0, .val (.double (FP.l2d t7)), .second] [(.ref o0)])) rfl rfl (hb hby d3_34)
  obtain ⟨c6, r6, q6, S6, M6, H6, G6⟩ := id f3
  have i7 := own_inb (j := t0) S6 d0
  have y8 := own_rdD S6 H6 d0
  obtain ⟨c9, r9, q9, S9, M9, H9, G9⟩ := id f3
  have i10 := own_inb (j := t0) S9 d0
  obtain ⟨T11, h11, X11, e11, W11, st11⟩ := stD X5 hx hZ e5 r9 (j := t0) i10 (g := (mkF m 42 #[rv o0, iv t0, .val (.double (FP.l2d t7)), .second] [(.double (FP.l2d ((own_pk t0 t4 t5 t6) + t7))), (.int t0), (.ref o2)])) rfl rfl (hb hby d3_42)
  have O11 := Old.wr OO W11 u0
  have KK11 := Keep.wr (Keep.refl h0 [o2]) W11 (Or.inl (own_m 0 rfl))
  have N11 := Fr.snoc X11 N0 u0
  have F12 : AD3 Z h11 o2 j1 (t4 + (own_pt t0 0 t7)) (t5 + (own_pt t0 1 t7)) (t6 + (own_pt t0 2 t7)) := own_setP r9 q9 S9 M9 H9 G9 W11 d0
  obtain ⟨fs, hr, hrun, hended, hW, hsame⟩ := X11.leave (v := none) (fun _ => rfl)
  refine ⟨_, _, (castTop (ef_3 m o0 t0 (FP.l2d t7)) ?_), hrun, hended, _, _, rfl, ?_, ⟨_, rfl⟩, hW, hsame.mono (by decide) (by decide)⟩
  · show Steps p.tables e below (s₁.setTop (mkF m 0 #[rv o0, iv t0, .val (.double (FP.l2d t7)), .second] [])) _
    refine oA X0 hx hby d3_0 rfl rfl rfl ?_
    refine st1 _ ?_
    refine oI X1 hx hby d3_4 rfl rfl ?_
    refine X1.baloadBooleans hx (j := t0) (v := (.int (own_pi t0 t1 t2 t3))) (by rw [e1]; exact r2.1) (State.isArrayOf_alike hZ.alike r2.2.1) r2.2.2 i3 y4 (g := (mkF m 5 #[rv o0, iv t0, .val (.double (FP.l2d t7)), .second] [(.int t0), (.ref o1)])) rfl rfl (hb hby d3_5) _ ?_
    refine XS.ifYes X1.here hx rfl (pc0 := 6) (pc' := 33) rfl (hb hby d3_6) rfl ((if0 _ _).trans (feq hq0).2) (by decide) (by decide) ?_
    refine oA X1 hx hby d3_33 rfl rfl rfl ?_
    refine st5 _ ?_
    refine oI X5 hx hby d3_37 rfl rfl ?_
    refine XT.dup2 X5.here hx rfl (hb hby d3_38) rfl rfl rfl ?_
    refine oD X5 hx hZ e5 r6 i7 y8 (by exact hb hby d3_39) rfl rfl ?_
    refine XS.dloadN X5.here hx rfl (hb hby d3_40) rfl ?_
    refine XS.daddS X5.here hx rfl (hb hby d3_41) rfl (nn_w (dadd_w d1 d2)) (v := FP.l2d ((own_pk t0 t4 t5 t6) + t7)) (dadd_w d1 d2) ?_
    refine st11 _ ?_
    exact X11.returnOut hx Bd.returns (hb hby d3_43) hr
  · show Q3_3 Z t0 t1 t2 t3 t4 t5 t6 t7 o0 o1 o2 j0 j1 h0 n0 _ T11.heap _
    rw [e11]
    exact ⟨rfl, N11, KK11, F12⟩
def Q9_8 (Z : State) (t0 t1 t2 t3 : Int32) (o0 : Addr) (j0 : ClassId) (h0 : Heap) (n0 : Nat) (v : Option Value) (h : Heap) (L : List Loc) : Prop := v = none ∧ Fr n0 L ∧ Keep h0 h [o0] ∧ AI3 Z h o0 j0 t0 t1 t2
theorem rm9_8 (l : Launch) (Z : State) (a0 : Array Value) (hw : HW a0 Z) (ws : List Jvm.Cond) (t0 t1 t2 t3 : Int32) (o0 : Addr) (j0 : ClassId) (h0 : Heap) (n0 : Nat) (OO : Old Z n0 h0) (f0 : AI3 Z h0 o0 j0 t1 t0 t2) (u0 : n0 ≤ o0) (d0 : (1 : Int32) < t3) (d1 : ¬ ((2 : Int32) < t3)) (hq0 : t0 < t1) :
    own_MF l Z h0 (⟨"java/util/DualPivotQuicksort", "insertionSort", "([III)V"⟩ : MethodName) ws jdk_2529_method_6_code 6 none ({ frames := 0, cells := 0, slots := 0, locals := 0 } : Room) #[(.ref o0), (.int 0), (.int t3)] (Q9_8 Z t0 t1 t2 t3 o0 j0 h0 n0) := by
  refine MetFree.of_bodySF (plainFor_of_name pn_9) hisR ?_
  intro p e s m args below meth c s₁ Bd hml0 hP hK
  obtain ⟨rfl, hZ, hh⟩ := hP
  have hx := Bd.exec
  have hby := Bd.bytes
  have hml : c.maxLocals = 6 := hml0
  have hown : s.vm.findClass "java/util/DualPivotQuicksort" = some m.cls := findClass_of_methodNamed Bd.named
  have X0 : Stand p l e ({ frames := 0, cells := 0, slots := 0, locals := 0 } : Room) s m #[(.ref o0), (.int 0), (.int t3)] below meth c s₁ [] 0 0 := Stand.of_body Bd
  have e0 : s₁.heap = h0 := by rw [← hh, Bd.state]; rfl
  have N0 := Fr.nil n0
  obtain ⟨T1, h1, lc1, X1, e1, N1, K1, R1_0, st1⟩ := sg_1 hw t0 t1 t3 t2 o0 j0 X0 hx hZ hby hml hown e0 N0 OO d0 f0 u0 hq0
  have O1 := Old.keep OO K1 (allS u0 all0)
  have KK1 := Keep.trans (Keep.refl h0 [o0]) K1 (allS (Or.inl (own_m 0 rfl)) all0)
  obtain ⟨fs, hr, hrun, hended, hW, hsame⟩ := X1.leave (v := none) (fun _ => rfl)
  refine ⟨_, _, (castTop (ef_9 m o0 0 t3) ?_), hrun, hended, _, _, rfl, ?_, ⟨_, rfl⟩, hW, hsame.mono (by decide) (by decide)⟩
  · show Steps p.tables e below (s₁.setTop (mkF m 0 #[rv o0, iv 0, iv t3, .unset, .unset, .unset] [])) _
    refine oI X0 hx hby d9_0 rfl rfl ?_
    refine XS.istore X0.here hx rfl (hb hby d9_1) rfl (l' := #[rv o0, iv 0, iv t3, .unset, iv 0, .unset]) rfl ?_
    show Steps p.tables e below (s₁.setTop (mkF m 3 #[rv o0, iv 0, iv t3, .unset, iv 0, .unset] [])) _
    refine st1 _ ?_
    refine XS.iinc X1.here hx rfl (hb hby d9_3) rfl (l' := #[rv o0, iv 0, iv t3, iv (-1), iv ((1 : Int32) + (1 : Int32)), iv t0]) rfl ?_
    show Steps p.tables e below (T1.setTop (mkF m 6 #[rv o0, iv 0, iv t3, iv (-1), iv 2, iv t0] [])) _
    refine oi X1 hx hby d9_6 rfl rfl ?_
    refine oI X1 hx hby d9_8 rfl rfl ?_
    refine XS.icmpYes X1.here hx rfl (pc0 := 9) (pc' := 67) rfl (hb hby d9_9) rfl (flt d1).2.1 (by decide) (by decide) ?_
    exact X1.returnOut hx Bd.returns (hb hby d9_67) hr
  · show Q9_8 Z t0 t1 t2 t3 o0 j0 h0 n0 _ T1.heap _
    rw [e1]
    exact ⟨rfl, N1, KK1, R1_0⟩
def Q9_9 (Z : State) (t0 t1 t2 t3 : Int32) (o0 : Addr) (j0 : ClassId) (h0 : Heap) (n0 : Nat) (v : Option Value) (h : Heap) (L : List Loc) : Prop := v = none ∧ Fr n0 L ∧ Keep h0 h [o0] ∧ AI3 Z h o0 j0 t1 t0 t2
theorem rm9_9 (l : Launch) (Z : State) (a0 : Array Value) (hw : HW a0 Z) (ws : List Jvm.Cond) (t0 t1 t2 t3 : Int32) (o0 : Addr) (j0 : ClassId) (h0 : Heap) (n0 : Nat) (OO : Old Z n0 h0) (f0 : AI3 Z h0 o0 j0 t1 t0 t2) (u0 : n0 ≤ o0) (d0 : (1 : Int32) < t3) (d1 : ¬ ((2 : Int32) < t3)) (hq0 : ¬ (t0 < t1)) :
    own_MF l Z h0 (⟨"java/util/DualPivotQuicksort", "insertionSort", "([III)V"⟩ : MethodName) ws jdk_2529_method_6_code 6 none ({ frames := 0, cells := 0, slots := 0, locals := 0 } : Room) #[(.ref o0), (.int 0), (.int t3)] (Q9_9 Z t0 t1 t2 t3 o0 j0 h0 n0) := by
  refine MetFree.of_bodySF (plainFor_of_name pn_9) hisR ?_
  intro p e s m args below meth c s₁ Bd hml0 hP hK
  obtain ⟨rfl, hZ, hh⟩ := hP
  have hx := Bd.exec
  have hby := Bd.bytes
  have hml : c.maxLocals = 6 := hml0
  have hown : s.vm.findClass "java/util/DualPivotQuicksort" = some m.cls := findClass_of_methodNamed Bd.named
  have X0 : Stand p l e ({ frames := 0, cells := 0, slots := 0, locals := 0 } : Room) s m #[(.ref o0), (.int 0), (.int t3)] below meth c s₁ [] 0 0 := Stand.of_body Bd
  have e0 : s₁.heap = h0 := by rw [← hh, Bd.state]; rfl
  have N0 := Fr.nil n0
  obtain ⟨T1, h1, lc1, X1, e1, N1, K1, st1⟩ := sg_5 hw t0 t1 t3 t2 (0 : Int32) o0 j0 X0 hx hZ hby hml hown e0 N0 OO d0 f0 hq0
  have O1 := Old.keep OO K1 all0
  have KK1 := Keep.trans (Keep.refl h0 [o0]) K1 all0
  have F2 := (Arv.keep f0 K1 nin0)
  obtain ⟨fs, hr, hrun, hended, hW, hsame⟩ := X1.leave (v := none) (fun _ => rfl)
  refine ⟨_, _, (castTop (ef_9 m o0 0 t3) ?_), hrun, hended, _, _, rfl, ?_, ⟨_, rfl⟩, hW, hsame.mono (by decide) (by decide)⟩
  · show Steps p.tables e below (s₁.setTop (mkF m 0 #[rv o0, iv 0, iv t3, .unset, .unset, .unset] [])) _
    refine oI X0 hx hby d9_0 rfl rfl ?_
    refine XS.istore X0.here hx rfl (hb hby d9_1) rfl (l' := #[rv o0, iv 0, iv t3, .unset, iv 0, .unset]) rfl ?_
    show Steps p.tables e below (s₁.setTop (mkF m 3 #[rv o0, iv 0, iv t3, .unset, iv 0, .unset] [])) _
    refine st1 _ ?_
    refine XS.iinc X1.here hx rfl (hb hby d9_3) rfl (l' := #[rv o0, iv 0, iv t3, iv 1, iv ((1 : Int32) + (1 : Int32)), iv t0]) rfl ?_
    show Steps p.tables e below (T1.setTop (mkF m 6 #[rv o0, iv 0, iv t3, iv 1, iv 2, iv t0] [])) _
    refine oi X1 hx hby d9_6 rfl rfl ?_
    refine oI X1 hx hby d9_8 rfl rfl ?_
    refine XS.icmpYes X1.here hx rfl (pc0 := 9) (pc' := 67) rfl (hb hby d9_9) rfl (flt d1).2.1 (by decide) (by decide) ?_
    exact X1.returnOut hx Bd.returns (hb hby d9_67) hr
  · show Q9_9 Z t0 t1 t2 t3 o0 j0 h0 n0 _ T1.heap _
    rw [e1]
    exact ⟨rfl, N1, KK1, F2⟩
def Q9_10 (Z : State) (t0 t1 t2 t3 : Int32) (o0 : Addr) (j0 : ClassId) (y0 y1 : Int32) (h0 : Heap) (n0 : Nat) (v : Option Value) (h : Heap) (L : List Loc) : Prop := v = none ∧ Fr n0 L ∧ Keep h0 h [o0] ∧ AI3 Z h o0 j0 y0 y1 t3
theorem rm9_10 (l : Launch) (Z : State) (a0 : Array Value) (hw : HW a0 Z) (ws : List Jvm.Cond) (t0 t1 t2 t3 : Int32) (o0 : Addr) (j0 : ClassId) (h0 : Heap) (n0 : Nat) (OO : Old Z n0 h0) (f0 : AI3 Z h0 o0 j0 t1 t2 t3) (u0 : n0 ≤ o0) (d0 : (1 : Int32) < t0) (d1 : ¬ ((2 : Int32) < t0)) :
    own_MF l Z h0 (⟨"java/util/DualPivotQuicksort", "insertionSort", "([III)V"⟩ : MethodName) ws jdk_2529_method_6_code 6 none ({ frames := 0, cells := 0, slots := 0, locals := 0 } : Room) #[(.ref o0), (.int 0), (.int t0)] (Q9_10 Z t0 t1 t2 t3 o0 j0 (own_s3 t1 t2) (own_s4 t1 t2) h0 n0) := by
  by_cases hq0 : t2 < t1
  · rw [(show (own_s3 t1 t2) = t2 from by simp only [own_s3, hq0, ↓reduceIte]), (show (own_s4 t1 t2) = t1 from by simp only [own_s4, hq0, ↓reduceIte])]
    exact rm9_8 l Z a0 hw ws t2 t1 t3 t0 o0 j0 h0 n0 OO f0 u0 d0 d1 hq0
  · rw [(show (own_s3 t1 t2) = t1 from by simp only [own_s3, hq0, ↓reduceIte]), (show (own_s4 t1 t2) = t2 from by simp only [own_s4, hq0, ↓reduceIte])]
    exact rm9_9 l Z a0 hw ws t2 t1 t3 t0 o0 j0 h0 n0 OO f0 u0 d0 d1 hq0
def Q8_2 (Z : State) (t0 t1 t2 t3 t4 : Int32) (o0 : Addr) (j0 : ClassId) (h0 : Heap) (n0 : Nat) (v : Option Value) (h : Heap) (L : List Loc) : Prop := v = none ∧ Fr n0 L ∧ Keep h0 h [o0] ∧ AI3 Z h o0 j0 (own_s3 t2 t3) (own_s4 t2 t3) t4
theorem rm8_2 (l : Launch) (Z : State) (a0 : Array Value) (hw : HW a0 Z) (ws : List Jvm.Cond) (t0 t1 t2 t3 t4 : Int32) (o0 : Addr) (j0 : ClassId) (h0 : Heap) (n0 : Nat) (OO : Old Z n0 h0) (d0 : (t0 - (0 : Int32)) < ((65 : Int32) + t1)) (d1 : ¬ ((0 : Int32) < (t1 &&& (1 : Int32)))) (d2 : (t0 - (0 : Int32)) < (44 : Int32)) (f0 : AI3 Z h0 o0 j0 t2 t3 t4) (u0 : n0 ≤ o0) (d3 : (1 : Int32) < t0) (d4 : ¬ ((2 : Int32) < t0)) :
    own_MF l Z h0 (⟨"java/util/DualPivotQuicksort", "sort", "(Ljava/util/DualPivotQuicksort$Sorter;[IIII)V"⟩ : MethodName) ws jdk_2529_method_4_code 21 none ({ frames := 1, cells := 0, slots := 0, locals := 17 } : Room) #[.null, (.ref o0), (.int t1), (.int 0), (.int t0)] (Q8_2 Z t0 t1 t2 t3 t4 o0 j0 h0 n0) := by
  refine MetFree.of_bodySF (plainFor_of_name pn_8) hisR ?_
  intro p e s m args below meth c s₁ Bd hml0 hP hK
  obtain ⟨rfl, hZ, hh⟩ := hP
  have hx := Bd.exec
  have hby := Bd.bytes
  have hml : c.maxLocals = 21 := hml0
  have hown : s.vm.findClass "java/util/DualPivotQuicksort" = some m.cls := findClass_of_methodNamed Bd.named
  have X0 : Stand p l e ({ frames := 1, cells := 0, slots := 0, locals := 17 } : Room) s m #[.null, (.ref o0), (.int t1), (.int 0), (.int t0)] below meth c s₁ [] 0 0 := Stand.of_body Bd
  have e0 : s₁.heap = h0 := by rw [← hh, Bd.state]; rfl
  have N0 := Fr.nil n0
  obtain ⟨_, T1, h1, Lc1, X1, e1, hQ1, st1⟩ := own_cS X0 hx hZ hown (w_54 hw) (w_55 hw) (w_49 hw) (w_56 hw) (by decide) (rm9_10 l Z a0 hw [] t0 t2 t3 t4 o0 j0 h0 n0 OO f0 u0 d3 d4) e0 (W := 0) (by decide) (by decide) (by decide : 0 + 0 ≤ _) (by decide : 0 + 0 ≤ _) (g := (mkF m 57 #[.val .null, rv o0, iv t1, iv 0, iv t0, iv (t0 - (1 : Int32)), iv (t0 - (0 : Int32)), .unset, .unset, .unset, .unset, .unset, .unset, .unset, .unset, .unset, .unset, .unset, .unset, .unset, .unset] [(.int t0), (.int 0), (.ref o0)])) rfl (by rw [hml]; rfl) (argsL := [(.ref o0), (.int 0), (.int t0)]) (rest := []) (lenOf pd_3 rfl) rfl rfl rfl (hb hby d8_57) rfl
  obtain ⟨rfl, N1q, K1, R1_0⟩ := hQ1
  have N1 := Fr.app N0 N1q
  have O1 := Old.keep OO K1 (allS u0 all0)
  have KK1 := Keep.trans (Keep.refl h0 [o0]) K1 (allS (Or.inl (own_m 0 rfl)) all0)
  obtain ⟨fs, hr, hrun, hended, hW, hsame⟩ := X1.leave (v := none) (fun _ => rfl)
  refine ⟨_, _, (castTop (ef_8 m o0 t1 0 t0) ?_), hrun, hended, _, _, rfl, ?_, ⟨_, rfl⟩, hW, hsame.mono (by decide) (by decide)⟩
  · show Steps p.tables e below (s₁.setTop (mkF m 0 #[.val .null, rv o0, iv t1, iv 0, iv t0, .unset, .unset, .unset, .unset, .unset, .unset, .unset, .unset, .unset, .unset, .unset, .unset, .unset, .unset, .unset, .unset] [])) _
    refine oi X0 hx hby d8_0 rfl rfl ?_
    refine oK X0 hx hby d8_2 rfl ?_
    refine XS.isub X0.here hx rfl (hb hby d8_3) rfl ?_
    refine XS.istore X0.here hx rfl (hb hby d8_4) rfl (l' := #[.val .null, rv o0, iv t1, iv 0, iv t0, iv (t0 - (1 : Int32)), .unset, .unset, .unset, .unset, .unset, .unset, .unset, .unset, .unset, .unset, .unset, .unset, .unset, .unset, .unset]) rfl ?_
    refine oi X0 hx hby d8_6 rfl rfl ?_
    refine oI X0 hx hby d8_8 rfl rfl ?_
    refine XS.isub X0.here hx rfl (hb hby d8_9) rfl ?_
    refine XS.istore X0.here hx rfl (hb hby d8_10) rfl (l' := #[.val .null, rv o0, iv t1, iv 0, iv t0, iv (t0 - (1 : Int32)), iv (t0 - (0 : Int32)), .unset, .unset, .unset, .unset, .unset, .unset, .unset, .unset, .unset, .unset, .unset, .unset, .unset, .unset]) rfl ?_
    refine oi X0 hx hby d8_12 rfl rfl ?_
    refine XS.bipush X0.here hx rfl (hb hby d8_14) ?_
    refine oI X0 hx hby d8_16 rfl rfl ?_
    refine XS.iadd X0.here hx rfl (hb hby d8_17) rfl ?_
    refine XS.icmpNo X0.here hx rfl (hb hby d8_18) rfl (tlt d0).2.1 ?_
    refine oI X0 hx hby d8_21 rfl rfl ?_
    refine oK X0 hx hby d8_22 rfl ?_
    refine XS.iand X0.here hx rfl (hb hby d8_23) rfl ?_
    refine XS.ifYes X0.here hx rfl (pc0 := 24) (pc' := 46) rfl (hb hby d8_24) rfl ((if0 _ _).trans (flt d1).2.2.2) (by decide) (by decide) ?_
    refine oi X0 hx hby d8_46 rfl rfl ?_
    refine XS.bipush X0.here hx rfl (hb hby d8_48) ?_
    refine XS.icmpNo X0.here hx rfl (hb hby d8_50) rfl (tlt d2).2.1 ?_
    refine oA X0 hx hby d8_53 rfl rfl rfl ?_
    refine oI X0 hx hby d8_54 rfl rfl ?_
    refine oi X0 hx hby d8_55 rfl rfl ?_
    refine st1 _ ?_
    show Steps p.tables e below (T1.setTop (mkF m 60 #[.val .null, rv o0, iv t1, iv 0, iv t0, iv (t0 - (1 : Int32)), iv (t0 - (0 : Int32)), .unset, .unset, .unset, .unset, .unset, .unset, .unset, .unset, .unset, .unset, .unset, .unset, .unset, .unset] [])) _
    exact X1.returnOut hx Bd.returns (hb hby d8_60) hr
  · show Q8_2 Z t0 t1 t2 t3 t4 o0 j0 h0 n0 _ T1.heap _
    rw [e1]
    exact ⟨rfl, N1, KK1, R1_0⟩
def Q7_2 (Z : State) (t0 t1 t2 t3 t4 : Int32) (o0 : Addr) (j0 : ClassId) (h0 : Heap) (n0 : Nat) (v : Option Value) (h : Heap) (L : List Loc) : Prop := v = none ∧ Fr n0 L ∧ Keep h0 h [o0] ∧ AI3 Z h o0 j0 (own_s3 t1 t2) (own_s4 t1 t2) t3
theorem rm7_2 (l : Launch) (Z : State) (a0 : Array Value) (hw : HW a0 Z) (ws : List Jvm.Cond) (t0 t1 t2 t3 t4 : Int32) (o0 : Addr) (j0 : ClassId) (h0 : Heap) (n0 : Nat) (OO : Old Z n0 h0) (d0 : ¬ ((1 : Int32) < t0)) (f0 : AI3 Z h0 o0 j0 t1 t2 t3) (d1 : (t4 - (0 : Int32)) < ((65 : Int32) + 0)) (d2 : (t4 - (0 : Int32)) < (44 : Int32)) (u0 : n0 ≤ o0) (d3 : (1 : Int32) < t4) (d4 : ¬ ((2 : Int32) < t4)) :
    own_MF l Z h0 (⟨"java/util/DualPivotQuicksort", "sort", "([IIII)V"⟩ : MethodName) ws jdk_2529_method_3_code 7 none ({ frames := 2, cells := 0, slots := 0, locals := 49 } : Room) #[(.ref o0), (.int t0), (.int 0), (.int t4)] (Q7_2 Z t0 t1 t2 t3 t4 o0 j0 h0 n0) := by
  refine MetFree.of_bodySF (plainFor_of_name pn_7) hisR ?_
  intro p e s m args below meth c s₁ Bd hml0 hP hK
  obtain ⟨rfl, hZ, hh⟩ := hP
  have hx := Bd.exec
  have hby := Bd.bytes
  have hml : c.maxLocals = 7 := hml0
  have hown : s.vm.findClass "java/util/DualPivotQuicksort" = some m.cls := findClass_of_methodNamed Bd.named
  have X0 : Stand p l e ({ frames := 2, cells := 0, slots := 0, locals := 49 } : Room) s m #[(.ref o0), (.int t0), (.int 0), (.int t4)] below meth c s₁ [] 0 0 := Stand.of_body Bd
  have e0 : s₁.heap = h0 := by rw [← hh, Bd.state]; rfl
  have N0 := Fr.nil n0
  obtain ⟨_, T1, h1, Lc1, X1, e1, hQ1, st1⟩ := own_cS X0 hx hZ hown (w_51 hw) (w_52 hw) (w_49 hw) (w_53 hw) (by decide) (rm8_2 l Z a0 hw [] t4 (0 : Int32) t1 t2 t3 o0 j0 h0 n0 OO d1 (by decide) d2 f0 u0 d3 d4) e0 (W := 0) (by decide) (by decide) (by decide : 0 + 0 ≤ _) (by decide : 0 + 0 ≤ _) (g := (mkF m 73 #[rv o0, iv t0, iv 0, iv t4, iv (t4 - (0 : Int32)), .unset, .unset] [(.int t4), (.int 0), (.int 0), (.ref o0), .null])) rfl (by rw [hml]; rfl) (argsL := [.null, (.ref o0), (.int 0), (.int 0), (.int t4)]) (rest := []) (lenOf pd_4 rfl) rfl rfl rfl (hb hby d7_73) rfl
  obtain ⟨rfl, N1q, K1, R1_0⟩ := hQ1
  have N1 := Fr.app N0 N1q
  have O1 := Old.keep OO K1 (allS u0 all0)
  have KK1 := Keep.trans (Keep.refl h0 [o0]) K1 (allS (Or.inl (own_m 0 rfl)) all0)
  obtain ⟨fs, hr, hrun, hended, hW, hsame⟩ := X1.leave (v := none) (fun _ => rfl)
  refine ⟨_, _, (castTop (ef_7 m o0 t0 0 t4) ?_), hrun, hended, _, _, rfl, ?_, ⟨_, rfl⟩, hW, hsame.mono (by decide) (by decide)⟩
  · show Steps p.tables e below (s₁.setTop (mkF m 0 #[rv o0, iv t0, iv 0, iv t4, .unset, .unset, .unset] [])) _
    refine oI X0 hx hby d7_0 rfl rfl ?_
    refine oI X0 hx hby d7_1 rfl rfl ?_
    refine XS.isub X0.here hx rfl (hb hby d7_2) rfl ?_
    refine XS.istore X0.here hx rfl (hb hby d7_3) rfl (l' := #[rv o0, iv t0, iv 0, iv t4, iv (t4 - (0 : Int32)), .unset, .unset]) rfl ?_
    refine oI X0 hx hby d7_5 rfl rfl ?_
    refine oK X0 hx hby d7_6 rfl ?_
    refine XS.icmpYes X0.here hx rfl (pc0 := 7) (pc' := 68) rfl (hb hby d7_7) rfl (flt d0).2.2.2 (by decide) (by decide) ?_
    refine XS.aconstNull X0.here hx rfl (hb hby d7_68) ?_
    refine oA X0 hx hby d7_69 rfl rfl rfl ?_
    refine oK X0 hx hby d7_70 rfl ?_
    refine oI X0 hx hby d7_71 rfl rfl ?_
    refine oI X0 hx hby d7_72 rfl rfl ?_
    refine st1 _ ?_
    exact X1.returnOut hx Bd.returns (hb hby d7_76) hr
  · show Q7_2 Z t0 t1 t2 t3 t4 o0 j0 h0 n0 _ T1.heap _
    rw [e1]
    exact ⟨rfl, N1, KK1, R1_0⟩
def Q5_2 (Z : State) (t0 t1 t2 t3 : Int32) (o0 : Addr) (j0 : ClassId) (h0 : Heap) (n0 : Nat) (v : Option Value) (h : Heap) (L : List Loc) : Prop := v = none ∧ Fr n0 L ∧ Keep h0 h [o0] ∧ AI3 Z h o0 j0 (own_s3 t0 t1) (own_s4 t0 t1) t2
theorem rm5_2 (l : Launch) (Z : State) (a0 : Array Value) (hw : HW a0 Z) (ws : List Jvm.Cond) (t0 t1 t2 t3 : Int32) (o0 : Addr) (j0 : ClassId) (h0 : Heap) (n0 : Nat) (OO : Old Z n0 h0) (f0 : AI3 Z h0 o0 j0 t0 t1 t2) (d0 : ¬ (t3 < 0)) (d1 : ¬ (3 < t3)) (d2 : (t3 - (0 : Int32)) < ((65 : Int32) + 0)) (d3 : (t3 - (0 : Int32)) < (44 : Int32)) (u0 : n0 ≤ o0) (d4 : (1 : Int32) < t3) (d5 : ¬ ((2 : Int32) < t3)) :
    own_MF l Z h0 (⟨"java/util/Arrays", "sort", "([III)V"⟩ : MethodName) ws jdk_65_method_3_code 3 none ({ frames := 3, cells := 0, slots := 0, locals := 67 } : Room) #[(.ref o0), (.int 0), (.int t3)] (Q5_2 Z t0 t1 t2 t3 o0 j0 h0 n0) := by
  refine MetFree.of_bodySF (plainFor_of_name pn_5) hisR ?_
  intro p e s m args below meth c s₁ Bd hml0 hP hK
  obtain ⟨rfl, hZ, hh⟩ := hP
  have hx := Bd.exec
  have hby := Bd.bytes
  have hml : c.maxLocals = 3 := hml0
  have hown : s.vm.findClass "java/util/Arrays" = some m.cls := findClass_of_methodNamed Bd.named
  have X0 : Stand p l e ({ frames := 3, cells := 0, slots := 0, locals := 67 } : Room) s m #[(.ref o0), (.int 0), (.int t3)] below meth c s₁ [] 0 0 := Stand.of_body Bd
  have e0 : s₁.heap = h0 := by rw [← hh, Bd.state]; rfl
  have N0 := Fr.nil n0
  obtain ⟨c1, r1, q1, S1, M1, H1, G1⟩ := id f0
  obtain ⟨_, T2, h2, Lc2, X2, e2a, hQ2, st2⟩ := own_cS X0 hx hZ hown (w_44 hw) (w_45 hw) (w_42 hw) (w_46 hw) (by decide) (rm6_0 l Z a0 hw [] t3 (0 : Int32) (3 : Int32) h0 n0 OO d0 (by decide) d1) e0 (W := 0) (by decide) (by decide) (by decide : 0 + 0 ≤ _) (by decide : 0 + 0 ≤ _) (g := (mkF m 4 #[rv o0, iv 0, iv t3] [(.int t3), (.int 0), (.int 3)])) rfl (by rw [hml]; rfl) (argsL := [(.int 3), (.int 0), (.int t3)]) (rest := []) (lenOf pd_2 rfl) rfl rfl rfl (hb hby d5_4) rfl
  obtain ⟨rfl, N2q, z2⟩ := hQ2
  have e2 := e2a.trans z2
  have N2 := Fr.app N0 N2q
  obtain ⟨_, T3, h3, Lc3, X3, e3, hQ3, st3⟩ := own_cS X2 hx hZ hown (w_47 hw) (w_48 hw) (w_49 hw) (w_50 hw) (by decide) (rm7_2 l Z a0 hw [] (0 : Int32) t0 t1 t2 t3 o0 j0 h0 n0 OO (by decide) f0 d2 d3 u0 d4 d5) e2 (W := 0) (by decide) (by decide) (by decide : 0 + 0 ≤ _) (by decide : 0 + 0 ≤ _) (g := (mkF m 11 #[rv o0, iv 0, iv t3] [(.int t3), (.int 0), (.int 0), (.ref o0)])) rfl (by rw [hml]; rfl) (argsL := [(.ref o0), (.int 0), (.int 0), (.int t3)]) (rest := []) (lenOf pd_5 rfl) rfl rfl rfl (hb hby d5_11) rfl
  obtain ⟨rfl, N3q, K3, R3_0⟩ := hQ3
  have N3 := Fr.app N2 N3q
  have O3 := Old.keep OO K3 (allS u0 all0)
  have KK3 := Keep.trans (Keep.refl h0 [o0]) K3 (allS (Or.inl (own_m 0 rfl)) all0)
  obtain ⟨fs, hr, hrun, hended, hW, hsame⟩ := X3.leave (v := none) (fun _ => rfl)
  refine ⟨_, _, (castTop (ef_5 m o0 0 t3) ?_), hrun, hended, _, _, rfl, ?_, ⟨_, rfl⟩, hW, hsame.mono (by decide) (by decide)⟩
  · show Steps p.tables e below (s₁.setTop (mkF m 0 #[rv o0, iv 0, iv t3] [])) _
    refine oA X0 hx hby d5_0 rfl rfl rfl ?_
    refine X0.arraylength hx (by rw [e0]; exact r1.1) (State.isArrayOf_alike hZ.alike r1.2.1) (g := (mkF m 1 #[rv o0, iv 0, iv t3] [(.ref o0)])) rfl rfl (hb hby d5_1) _ ?_
    rw [len_of S1 M1]
    refine oI X0 hx hby d5_2 rfl rfl ?_
    refine oI X0 hx hby d5_3 rfl rfl ?_
    refine st2 _ ?_
    refine oA X2 hx hby d5_7 rfl rfl rfl ?_
    refine oK X2 hx hby d5_8 rfl ?_
    refine oI X2 hx hby d5_9 rfl rfl ?_
    refine oI X2 hx hby d5_10 rfl rfl ?_
    refine st3 _ ?_
    exact X3.returnOut hx Bd.returns (hb hby d5_14) hr
  · show Q5_2 Z t0 t1 t2 t3 o0 j0 h0 n0 _ T3.heap _
    rw [e3]
    exact ⟨rfl, N3, KK3, R3_0⟩
def Q4_3 (Z : State) (t0 t1 t2 t3 t4 t5 : Int32) (t6 t7 t8 t9 t10 t11 : Int64) (t12 t13 t14 t15 t16 t17 t18 t19 : Int32) (o0 o1 o2 o3 o4 o5 o6 : Addr) (j0 j1 j2 j3 j4 j5 : ClassId) (h0 : Heap) (n0 : Nat) (v : Option Value) (h : Heap) (L : List Loc) : Prop := v = none ∧ Fr n0 L ∧ Keep h0 h [o2, o1, o3, o0, o4, o5, o6] ∧ AI3 Z h o2 j1 (own_s3 t3 t4) (own_s4 t3 t4) t5 ∧ AI3 Z h o1 j0 (own_s3 t3 t4) (own_s4 t3 t4) t2 ∧ Exa Z h o1 "[I" ∧ AD3 Z h o3 j3 (own_pk (own_s3 t3 t4) t6 t7 t8) (own_pk (own_s4 t3 t4) (own_up (own_s3 t3 t4) 0 (0 : Int64) t6) (own_up (own_s3 t3 t4) 1 (0 : Int64) t7) (own_up (own_s3 t3 t4) 2 (0 : Int64) t8)) t11 ∧ Exa Z h o3 "[D" ∧ fB8 Z h o0 (.int 2) ∧ fB7 Z h o0 (.int 0) ∧ fB5 Z h o0 (.ref o1) ∧ fB3 Z h o0 (.ref o2) ∧ fB6 Z h o0 (.ref o3) ∧ fB1 Z h o0 (.ref o4) ∧ Exa Z h o0 kB ∧ fB2 Z h o0 (.ref o5) ∧ fB9 Z h o0 (.int 1) ∧ fB4 Z h o0 (.ref o6) ∧ fB0 Z h o0 (.int t19) ∧ AD3 Z h o4 j2 (own_up (own_s4 t3 t4) 0 (0 : Int64) (own_up (own_s3 t3 t4) 0 (0 : Int64) t6)) (own_up (own_s4 t3 t4) 1 (0 : Int64) (own_up (own_s3 t3 t4) 1 (0 : Int64) t7)) (own_up (own_s4 t3 t4) 2 (0 : Int64) (own_up (own_s3 t3 t4) 2 (0 : Int64) t8)) ∧ AZ3 Z h o5 j4 (own_ui (own_s4 t3 t4) 0 0 (own_ui (own_s3 t3 t4) 0 0 t12)) (own_ui (own_s4 t3 t4) 1 0 (own_ui (own_s3 t3 t4) 1 0 t13)) (own_ui (own_s4 t3 t4) 2 0 (own_ui (own_s3 t3 t4) 2 0 t14)) ∧ AI4 Z h o6 j5 t15 2 t17 t18
theorem rm4_3 (l : Launch) (Z : State) (a0 : Array Value) (hw : HW a0 Z) (ws : List Jvm.Cond) (t0 t1 t2 t3 t4 t5 : Int32) (t6 t7 t8 t9 t10 t11 : Int64) (t12 t13 t14 t15 t16 t17 t18 t19 : Int32) (o0 o1 o2 o3 o4 o5 o6 : Addr) (j0 j1 j2 j3 j4 j5 : ClassId) (h0 : Heap) (n0 : Nat) (OO : Old Z n0 h0) (f0 : fB8 Z h0 o0 (.int 0)) (f1 : fB7 Z h0 o0 (.int 2)) (f2 : fB5 Z h0 o0 (.ref o1)) (f3 : AI3 Z h0 o1 j0 t0 t1 t2) (f4 : fB3 Z h0 o0 (.ref o2)) (f5 : AI3 Z h0 o2 j1 t3 t4 t5) (u0 : n0 ≤ o2) (v0 : o0 ≠ o2) (v1 : o1 ≠ o2) (u1 : n0 ≤ o1) (f6 : fB6 Z h0 o0 (.ref o3)) (v2 : o0 ≠ o1) (f7 : fB1 Z h0 o0 (.ref o4)) (f8 : AD3 Z h0 o4 j2 t6 t7 t8) (v3 : o4 ≠ o2) (v4 : o4 ≠ o1) (d0 : own_in3 (own_s3 t3 t4)) (f9 : AD3 Z h0 o3 j3 t9 t10 t11) (v5 : o3 ≠ o2) (v6 : o3 ≠ o1) (u2 : n0 ≤ o3) (v7 : o0 ≠ o3) (f10 : Exa Z h0 o0 kB) (u3 : n0 ≤ o0) (v8 : o4 ≠ o3) (v9 : o4 ≠ o0) (u4 : n0 ≤ o4) (f11 : fB2 Z h0 o0 (.ref o5)) (f12 : AZ3 Z h0 o5 j4 t12 t13 t14) (v10 : o5 ≠ o2) (v11 : o5 ≠ o1) (v12 : o5 ≠ o3) (v13 : o5 ≠ o0) (v14 : o5 ≠ o4) (u5 : n0 ≤ o5) (d1 : own_in3 (own_s4 t3 t4)) (f13 : fB9 Z h0 o0 (.int 0)) (f14 : fB4 Z h0 o0 (.ref o6)) (f15 : AI4 Z h0 o6 j5 t15 t16 t17 t18) (v15 : o6 ≠ o2) (v16 : o6 ≠ o1) (v17 : o6 ≠ o3) (v18 : o6 ≠ o0) (v19 : o6 ≠ o4) (v20 : o6 ≠ o5) (u6 : n0 ≤ o6) (f16 : Exa Z h0 o1 "[I") (f17 : Exa Z h0 o3 "[D") (f18 : fB0 Z h0 o0 (.int t19)) :
    own_MF l Z h0 (⟨kB, "endRow", "()V"⟩ : MethodName) ws prog_58_method_3_code 3 none ({ frames := 4, cells := 0, slots := 0, locals := 81 } : Room) #[(.ref o0)] (Q4_3 Z t0 t1 t2 t3 t4 t5 t6 t7 t8 t9 t10 t11 t12 t13 t14 t15 t16 t17 t18 t19 o0 o1 o2 o3 o4 o5 o6 j0 j1 j2 j3 j4 j5 h0 n0) := by
  refine MetFree.of_bodySF (plainFor_of_name pn_4) hisR ?_
  intro p e s m args below meth c s₁ Bd hml0 hP hK
  obtain ⟨rfl, hZ, hh⟩ := hP
  have hx := Bd.exec
  have hby := Bd.bytes
  have hml : c.maxLocals = 3 := hml0
  have hown : s.vm.findClass kB = some m.cls := findClass_of_methodNamed Bd.named
  have X0 : Stand p l e ({ frames := 4, cells := 0, slots := 0, locals := 81 } : Room) s m #[(.ref o0)] below meth c s₁ [] 0 0 := Stand.of_body Bd
  have e0 : s₁.heap = h0 := by rw [← hh, Bd.state]; rfl
  have N0 := Fr.nil n0
  obtain ⟨T1, X1, e1, st1⟩ := own_gF X0 hx hZ hown (w_38 hw) e0 f0 (g := (mkF m 1 #[rv o0, .unset, .unset] [(.ref o0)])) rfl rfl (hb hby d4_1)
  obtain ⟨T2, X2, e2, st2⟩ := own_gF X1 hx hZ hown (w_31 hw) e1 f1 (g := (mkF m 5 #[rv o0, .unset, .unset] [(.ref o0), (.int 0)])) rfl rfl (hb hby d4_5)
  obtain ⟨T3, X3, e3, st3⟩ := own_gF X2 hx hZ hown (w_22 hw) e2 f2 (g := (mkF m 10 #[rv o0, .unset, .unset] [(.ref o0), (.int 2)])) rfl rfl (hb hby d4_10)
  obtain ⟨c4, r4, q4, S4, M4, H4, G4⟩ := id f3
  obtain ⟨T5, X5, e5, st5⟩ := own_gF X3 hx hZ hown (w_18 hw) e3 f4 (g := (mkF m 62 #[rv o0, .unset, .unset] [(.ref o0)])) rfl rfl (hb hby d4_62)
  obtain ⟨T6, X6, e6, st6⟩ := own_gF X5 hx hZ hown (w_31 hw) e5 f1 (g := (mkF m 67 #[rv o0, .unset, .unset] [(.ref o0), (.int 0), (.ref o2)])) rfl rfl (hb hby d4_67)
  obtain ⟨_, T7, h7, Lc7, X7, e7, hQ7, st7⟩ := own_cS X6 hx hZ hown (w_40 hw) (w_41 hw) (w_42 hw) (w_43 hw) (by decide) (rm5_2 l Z a0 hw [] t3 t4 t5 (2 : Int32) o2 j1 h0 n0 OO f5 (by decide) (by decide) (by decide) (by decide) u0 (by decide) (by decide)) e6 (W := 0) (by decide) (by decide) (by decide : 0 + 0 ≤ _) (by decide : 0 + 0 ≤ _) (g := (mkF m 70 #[rv o0, .unset, .unset] [(.int 2), (.int 0), (.ref o2)])) rfl (by rw [hml]; rfl) (argsL := [(.ref o2), (.int 0), (.int 2)]) (rest := []) (lenOf pd_3 rfl) rfl rfl rfl (hb hby d4_70) rfl
  obtain ⟨rfl, N7q, K7, R7_0⟩ := hQ7
  have N7 := Fr.app N0 N7q
  have O7 := Old.keep OO K7 (allS u0 all0)
  have KK7 := Keep.trans (Keep.refl h0 [o2, o1, o3, o0, o4, o5, o6]) K7 (allS (Or.inl (own_m 0 rfl)) all0)
  have F8 := (Fld.keep f1 K7 (ninS v0 nin0))
  obtain ⟨T9, X9, e9, st9⟩ := own_gF X7 hx hZ hown (w_31 hw) e7 F8 (g := (mkF m 77 #[rv o0, iv 0, .unset] [(.ref o0), (.int 0)])) rfl rfl (hb hby d4_77)
  have F10 := (Fld.keep f4 K7 (ninS v0 nin0))
  obtain ⟨T11, X11, e11, st11⟩ := own_gF X9 hx hZ hown (w_18 hw) e9 F10 (g := (mkF m 84 #[rv o0, iv 0, .unset] [(.ref o0)])) rfl rfl (hb hby d4_84)
  obtain ⟨c12, r12, q12, S12, M12, H12, G12⟩ := id R7_0
  have i13 := inb_of (j := 0) S12 (by decide)
  have y14 : c12.slots[((0 : Int32)).toNatClampNeg]? = some (.int (own_s3 t3 t4)) := H12 0 (by rw [S12]; decide)
  have F15 := (Fld.keep f2 K7 (ninS v0 nin0))
  obtain ⟨T16, X16, e16, st16⟩ := own_gF X11 hx hZ hown (w_22 hw) e11 F15 (g := (mkF m 91 #[rv o0, iv 0, iv (own_s3 t3 t4)] [(.ref o0)])) rfl rfl (hb hby d4_91)
  have F17 := (Fld.keep f0 K7 (ninS v0 nin0))
  obtain ⟨T18, X18, e18, st18⟩ := own_gF X16 hx hZ hown (w_38 hw) e16 F17 (g := (mkF m 95 #[rv o0, iv 0, iv (own_s3 t3 t4)] [(.ref o0), (.ref o1)])) rfl rfl (hb hby d4_95)
  have F20 := (Arv.keep f3 K7 (ninS v1 nin0))
  obtain ⟨c19, r19, q19, S19, M19, H19, G19⟩ := id F20
  have i21 := inb_of (j := 0) S19 (by decide)
  obtain ⟨T22, h22, X22, e22, W22, st22⟩ := stI X18 hx hZ e18 r19 (j := (0 : Int32)) i21 (g := (mkF m 99 #[rv o0, iv 0, iv (own_s3 t3 t4)] [(.int (own_s3 t3 t4)), (.int 0), (.ref o1)])) rfl rfl (hb hby d4_99)
  have O22 := Old.wr O7 W22 u1
  have KK22 := Keep.wr KK7 W22 (Or.inl (own_m 1 rfl))
  have N22 := Fr.snoc X22 N7 u1
  have F23 : AI3 Z h22 o1 j0 (own_s3 t3 t4) t1 t2 := Arv.set r19 q19 S19 M19 H19 G19 rfl W22 0 rfl (Nat.le_of_ble_eq_true rfl)
  have F24 := (Fld.other W22 (Fld.keep f6 K7 (ninS v0 nin0)) (Or.inl v2))
  obtain ⟨T25, X25, e25, st25⟩ := own_gF X22 hx hZ hown (w_24 hw) e22 F24 (g := (mkF m 101 #[rv o0, iv 0, iv (own_s3 t3 t4)] [(.ref o0)])) rfl rfl (hb hby d4_101)
  have F26 := (Fld.other W22 F17 (Or.inl v2))
  obtain ⟨T27, X27, e27, st27⟩ := own_gF X25 hx hZ hown (w_38 hw) e25 F26 (g := (mkF m 105 #[rv o0, iv 0, iv (own_s3 t3 t4)] [(.ref o0), (.ref o3)])) rfl rfl (hb hby d4_105)
  have F28 := (Fld.other W22 (Fld.keep f7 K7 (ninS v0 nin0)) (Or.inl v2))
  obtain ⟨T29, X29, e29, st29⟩ := own_gF X27 hx hZ hown (w_12 hw) e27 F28 (g := (mkF m 109 #[rv o0, iv 0, iv (own_s3 t3 t4)] [(.ref o0), (.int 0), (.ref o3)])) rfl rfl (hb hby d4_109)
  have F31 := (Arv.other (Arv.keep f8 K7 (ninS v3 nin0)) W22 v4)
  obtain ⟨c30, r30, q30, S30, M30, H30, G30⟩ := id F31
  have i32 := own_inb (j := (own_s3 t3 t4)) S30 d0
  have y33 := own_rdD S30 H30 d0
  have F35 := (Arv.other (Arv.keep f9 K7 (ninS v5 nin0)) W22 v6)
  obtain ⟨c34, r34, q34, S34, M34, H34, G34⟩ := id F35
  have i36 := inb_of (j := 0) S34 (by decide)
  obtain ⟨T37, h37, X37, e37, W37, st37⟩ := stD X29 hx hZ e29 r34 (j := (0 : Int32)) i36 (g := (mkF m 114 #[rv o0, iv 0, iv (own_s3 t3 t4)] [(.double (FP.l2d (own_pk (own_s3 t3 t4) t6 t7 t8))), (.int 0), (.ref o3)])) rfl rfl (hb hby d4_114)
  have O37 := Old.wr O22 W37 u2
  have KK37 := Keep.wr KK22 W37 (Or.inl (own_m 2 rfl))
  have N37 := Fr.snoc X37 N22 u2
  have F38 : AD3 Z h37 o3 j3 (own_pk (own_s3 t3 t4) t6 t7 t8) t10 t11 := Arv.set r34 q34 S34 M34 H34 G34 rfl W37 0 rfl (Nat.le_of_ble_eq_true rfl)
  have F39 := (Fld.other W37 F26 (Or.inl v7))
  obtain ⟨T40, X40, e40, st40⟩ := own_gF X37 hx hZ hown (w_38 hw) e37 F39 (g := (mkF m 117 #[rv o0, iv 0, iv (own_s3 t3 t4)] [(.ref o0), (.ref o0)])) rfl rfl (hb hby d4_117)
  have F41 := (Exa.wr W37 (Exa.wr W22 (Exa.keep f10 K7)))
  obtain ⟨T42, h42, X42, e42, W42, st42⟩ := putF X40 hx hZ hown (host := "") (Or.inl (w_38 hw)) Via.refl e40 F39 F41 (Or.inl (w_39 hw)) (w_1 hw) (ty := .int) (by decide) rfl rfl (g := (mkF m 122 #[rv o0, iv 0, iv (own_s3 t3 t4)] [(.int 1), (.ref o0)])) rfl rfl (hb hby d4_122)
  have O42 := Old.wr O37 W42 u3
  have KK42 := Keep.wr KK37 W42 (Or.inl (own_m 3 rfl))
  have N42 := Fr.snoc X42 N37 u3
  have F43 : fB8 Z h42 o0 (.int 1) := Fld.same W42 F39
  have F44 := (Fld.other W42 (Fld.other W37 F28 (Or.inl v7)) (Or.inr (n_13_39 hw)))
  obtain ⟨T45, X45, e45, st45⟩ := own_gF X42 hx hZ hown (w_12 hw) e42 F44 (g := (mkF m 126 #[rv o0, iv 0, iv (own_s3 t3 t4)] [(.ref o0)])) rfl rfl (hb hby d4_126)
  have F47 := (Arv.other (Arv.other F31 W37 v8) W42 v9)
  obtain ⟨c46, r46, q46, S46, M46, H46, G46⟩ := id F47
  have i48 := own_inb (j := (own_s3 t3 t4)) S46 d0
  obtain ⟨T49, h49, X49, e49, W49, st49⟩ := stD X45 hx hZ e45 r46 (j := (own_s3 t3 t4)) i48 (g := (mkF m 131 #[rv o0, iv 0, iv (own_s3 t3 t4)] [(.double (FP.l2d (0 : Int64))), (.int (own_s3 t3 t4)), (.ref o4)])) rfl rfl (hb hby d4_131)
  have O49 := Old.wr O42 W49 u4
  have KK49 := Keep.wr KK42 W49 (Or.inl (own_m 4 rfl))
  have N49 := Fr.snoc X49 N42 u4
  have F50 : AD3 Z h49 o4 j2 (own_up (own_s3 t3 t4) 0 (0 : Int64) t6) (own_up (own_s3 t3 t4) 1 (0 : Int64) t7) (own_up (own_s3 t3 t4) 2 (0 : Int64) t8) := own_setD r46 q46 S46 M46 H46 G46 W49 d0
  have F51 := (Fld.other W49 (Fld.other W42 (Fld.other W37 (Fld.other W22 (Fld.keep f11 K7 (ninS v0 nin0)) (Or.inl v2)) (Or.inl v7)) (Or.inr (n_16_39 hw))) (Or.inl (Ne.symm v9)))
  obtain ⟨T52, X52, e52, st52⟩ := own_gF X49 hx hZ hown (w_15 hw) e49 F51 (g := (mkF m 133 #[rv o0, iv 0, iv (own_s3 t3 t4)] [(.ref o0)])) rfl rfl (hb hby d4_133)
  have F54 := (Arv.other (Arv.other (Arv.other (Arv.other (Arv.keep f12 K7 (ninS v10 nin0)) W22 v11) W37 v12) W42 v13) W49 v14)
  obtain ⟨c53, r53, q53, S53, M53, H53, G53⟩ := id F54
  have i55 := own_inb (j := (own_s3 t3 t4)) S53 d0
  obtain ⟨T56, h56, X56, e56, W56, st56⟩ := stZ X52 hx hZ e52 r53 (j := (own_s3 t3 t4)) i55 (g := (mkF m 138 #[rv o0, iv 0, iv (own_s3 t3 t4)] [(.int 0), (.int (own_s3 t3 t4)), (.ref o5)])) rfl rfl (hb hby d4_138)
  have O56 := Old.wr O49 W56 u5
  have KK56 := Keep.wr KK49 W56 (Or.inl (own_m 5 rfl))
  have N56 := Fr.snoc X56 N49 u5
  have F57 : AZ3 Z h56 o5 j4 (own_ui (own_s3 t3 t4) 0 0 t12) (own_ui (own_s3 t3 t4) 1 0 t13) (own_ui (own_s3 t3 t4) 2 0 t14) := own_setI r53 q53 S53 M53 H53 G53 (by decide) W56 d0
  have F58 := (Fld.other W56 (Fld.other W49 (Fld.other W42 (Fld.other W37 (Fld.other W22 F8 (Or.inl v2)) (Or.inl v7)) (Or.inr (n_32_39 hw))) (Or.inl (Ne.symm v9))) (Or.inl (Ne.symm v13)))
  obtain ⟨T59, X59, e59, st59⟩ := own_gF X56 hx hZ hown (w_31 hw) e56 F58 (g := (mkF m 77 #[rv o0, iv 1, iv (own_s3 t3 t4)] [(.ref o0), (.int 1)])) rfl rfl (hb hby d4_77)
  have F60 := (Fld.other W56 (Fld.other W49 (Fld.other W42 (Fld.other W37 (Fld.other W22 F10 (Or.inl v2)) (Or.inl v7)) (Or.inr (n_19_39 hw))) (Or.inl (Ne.symm v9))) (Or.inl (Ne.symm v13)))
  obtain ⟨T61, X61, e61, st61⟩ := own_gF X59 hx hZ hown (w_18 hw) e59 F60 (g := (mkF m 84 #[rv o0, iv 1, iv (own_s3 t3 t4)] [(.ref o0)])) rfl rfl (hb hby d4_84)
  have F63 := (Arv.other (Arv.other (Arv.other (Arv.other (Arv.other R7_0 W22 (Ne.symm v1)) W37 (Ne.symm v5)) W42 (Ne.symm v0)) W49 (Ne.symm v3)) W56 (Ne.symm v10))
  obtain ⟨c62, r62, q62, S62, M62, H62, G62⟩ := id F63
  have i64 := inb_of (j := 1) S62 (by decide)
  have y65 : c62.slots[((1 : Int32)).toNatClampNeg]? = some (.int (own_s4 t3 t4)) := H62 1 (by rw [S62]; decide)
  have F66 := (Fld.other W56 (Fld.other W49 (Fld.other W42 (Fld.other W37 (Fld.other W22 F15 (Or.inl v2)) (Or.inl v7)) (Or.inr (n_23_39 hw))) (Or.inl (Ne.symm v9))) (Or.inl (Ne.symm v13)))
  obtain ⟨T67, X67, e67, st67⟩ := own_gF X61 hx hZ hown (w_22 hw) e61 F66 (g := (mkF m 91 #[rv o0, iv 1, iv (own_s4 t3 t4)] [(.ref o0)])) rfl rfl (hb hby d4_91)
  have F68 := (Fld.other W56 (Fld.other W49 F43 (Or.inl (Ne.symm v9))) (Or.inl (Ne.symm v13)))
  obtain ⟨T69, X69, e69, st69⟩ := own_gF X67 hx hZ hown (w_38 hw) e67 F68 (g := (mkF m 95 #[rv o0, iv 1, iv (own_s4 t3 t4)] [(.ref o0), (.ref o1)])) rfl rfl (hb hby d4_95)
  have F71 := (Arv.other (Arv.other (Arv.other (Arv.other F23 W37 (Ne.symm v6)) W42 (Ne.symm v2)) W49 (Ne.symm v4)) W56 (Ne.symm v11))
  obtain ⟨c70, r70, q70, S70, M70, H70, G70⟩ := id F71
  have i72 := inb_of (j := 1) S70 (by decide)
  obtain ⟨T73, h73, X73, e73, W73, st73⟩ := stI X69 hx hZ e69 r70 (j := (1 : Int32)) i72 (g := (mkF m 99 #[rv o0, iv 1, iv (own_s4 t3 t4)] [(.int (own_s4 t3 t4)), (.int 1), (.ref o1)])) rfl rfl (hb hby d4_99)
  have O73 := Old.wr O56 W73 u1
  have KK73 := Keep.wr KK56 W73 (Or.inl (own_m 1 rfl))
  have N73 := Fr.snoc X73 N56 u1
  have F74 : AI3 Z h73 o1 j0 (own_s3 t3 t4) (own_s4 t3 t4) t2 := Arv.set r70 q70 S70 M70 H70 G70 rfl W73 1 rfl (Nat.le_of_ble_eq_true rfl)
  have F75 := (Fld.other W73 (Fld.other W56 (Fld.other W49 (Fld.other W42 (Fld.other W37 F24 (Or.inl v7)) (Or.inr (n_25_39 hw))) (Or.inl (Ne.symm v9))) (Or.inl (Ne.symm v13))) (Or.inl v2))
  obtain ⟨T76, X76, e76, st76⟩ := own_gF X73 hx hZ hown (w_24 hw) e73 F75 (g := (mkF m 101 #[rv o0, iv 1, iv (own_s4 t3 t4)] [(.ref o0)])) rfl rfl (hb hby d4_101)
  have F77 := (Fld.other W73 F68 (Or.inl v2))
  obtain ⟨T78, X78, e78, st78⟩ := own_gF X76 hx hZ hown (w_38 hw) e76 F77 (g := (mkF m 105 #[rv o0, iv 1, iv (own_s4 t3 t4)] [(.ref o0), (.ref o3)])) rfl rfl (hb hby d4_105)
  have F79 := (Fld.other W73 (Fld.other W56 (Fld.other W49 F44 (Or.inl (Ne.symm v9))) (Or.inl (Ne.symm v13))) (Or.inl v2))
  obtain ⟨T80, X80, e80, st80⟩ := own_gF X78 hx hZ hown (w_12 hw) e78 F79 (g := (mkF m 109 #[rv o0, iv 1, iv (own_s4 t3 t4)] [(.ref o0), (.int 1), (.ref o3)])) rfl rfl (hb hby d4_109)
  have F82 := (Arv.other (Arv.other F50 W56 (Ne.symm v14)) W73 v4)
  obtain ⟨c81, r81, q81, S81, M81, H81, G81⟩ := id F82
  have i83 := own_inb (j := (own_s4 t3 t4)) S81 d1
  have y84 := own_rdD S81 H81 d1
  have F86 := (Arv.other (Arv.other (Arv.other (Arv.other F38 W42 (Ne.symm v7)) W49 (Ne.symm v8)) W56 (Ne.symm v12)) W73 v6)
  obtain ⟨c85, r85, q85, S85, M85, H85, G85⟩ := id F86
  have i87 := inb_of (j := 1) S85 (by decide)
  obtain ⟨T88, h88, X88, e88, W88, st88⟩ := stD X80 hx hZ e80 r85 (j := (1 : Int32)) i87 (g := (mkF m 114 #[rv o0, iv 1, iv (own_s4 t3 t4)] [(.double (FP.l2d (own_pk (own_s4 t3 t4) (own_up (own_s3 t3 t4) 0 (0 : Int64) t6) (own_up (own_s3 t3 t4) 1 (0 : Int64) t7) (own_up (own_s3 t3 t4) 2 (0 : Int64) t8)))), (.int 1), (.ref o3)])) rfl rfl (hb hby d4_114)
  have O88 := Old.wr O73 W88 u2
  have KK88 := Keep.wr KK73 W88 (Or.inl (own_m 2 rfl))
  have N88 := Fr.snoc X88 N73 u2
  have F89 : AD3 Z h88 o3 j3 (own_pk (own_s3 t3 t4) t6 t7 t8) (own_pk (own_s4 t3 t4) (own_up (own_s3 t3 t4) 0 (0 : Int64) t6) (own_up (own_s3 t3 t4) 1 (0 : Int64) t7) (own_up (own_s3 t3 t4) 2 (0 : Int64) t8)) t11 := Arv.set r85 q85 S85 M85 H85 G85 rfl W88 1 rfl (Nat.le_of_ble_eq_true rfl)
  have F90 := (Fld.other W88 F77 (Or.inl v7))
  obtain ⟨T91, X91, e91, st91⟩ := own_gF X88 hx hZ hown (w_38 hw) e88 F90 (g := (mkF m 117 #[rv o0, iv 1, iv (own_s4 t3 t4)] [(.ref o0), (.ref o0)])) rfl rfl (hb hby d4_117)
  have F92 := (Exa.wr W88 (Exa.wr W73 (Exa.wr W56 (Exa.wr W49 (Exa.wr W42 F41)))))
  obtain ⟨T93, h93, X93, e93, W93, st93⟩ := putF X91 hx hZ hown (host := "") (Or.inl (w_38 hw)) Via.refl e91 F90 F92 (Or.inl (w_39 hw)) (w_1 hw) (ty := .int) (by decide) rfl rfl (g := (mkF m 122 #[rv o0, iv 1, iv (own_s4 t3 t4)] [(.int 2), (.ref o0)])) rfl rfl (hb hby d4_122)
  have O93 := Old.wr O88 W93 u3
  have KK93 := Keep.wr KK88 W93 (Or.inl (own_m 3 rfl))
  have N93 := Fr.snoc X93 N88 u3
  have F94 : fB8 Z h93 o0 (.int 2) := Fld.same W93 F90
  have F95 := (Fld.other W93 (Fld.other W88 F79 (Or.inl v7)) (Or.inr (n_13_39 hw)))
  obtain ⟨T96, X96, e96, st96⟩ := own_gF X93 hx hZ hown (w_12 hw) e93 F95 (g := (mkF m 126 #[rv o0, iv 1, iv (own_s4 t3 t4)] [(.ref o0)])) rfl rfl (hb hby d4_126)
  have F98 := (Arv.other (Arv.other F82 W88 v8) W93 v9)
  obtain ⟨c97, r97, q97, S97, M97, H97, G97⟩ := id F98
  have i99 := own_inb (j := (own_s4 t3 t4)) S97 d1
  obtain ⟨T100, h100, X100, e100, W100, st100⟩ := stD X96 hx hZ e96 r97 (j := (own_s4 t3 t4)) i99 (g := (mkF m 131 #[rv o0, iv 1, iv (own_s4 t3 t4)] [(.double (FP.l2d (0 : Int64))), (.int (own_s4 t3 t4)), (.ref o4)])) rfl rfl (hb hby d4_131)
  have O100 := Old.wr O93 W100 u4
  have KK100 := Keep.wr KK93 W100 (Or.inl (own_m 4 rfl))
  have N100 := Fr.snoc X100 N93 u4
  have F101 : AD3 Z h100 o4 j2 (own_up (own_s4 t3 t4) 0 (0 : Int64) (own_up (own_s3 t3 t4) 0 (0 : Int64) t6)) (own_up (own_s4 t3 t4) 1 (0 : Int64) (own_up (own_s3 t3 t4) 1 (0 : Int64) t7)) (own_up (own_s4 t3 t4) 2 (0 : Int64) (own_up (own_s3 t3 t4) 2 (0 : Int64) t8)) := own_setD r97 q97 S97 M97 H97 G97 W100 d1
  have F102 := (Fld.other W100 (Fld.other W93 (Fld.other W88 (Fld.other W73 (Fld.other W56 F51 (Or.inl (Ne.symm v13))) (Or.inl v2)) (Or.inl v7)) (Or.inr (n_16_39 hw))) (Or.inl (Ne.symm v9)))
  obtain ⟨T103, X103, e103, st103⟩ := own_gF X100 hx hZ hown (w_15 hw) e100 F102 (g := (mkF m 133 #[rv o0, iv 1, iv (own_s4 t3 t4)] [(.ref o0)])) rfl rfl (hb hby d4_133)
  have F105 := (Arv.other (Arv.other (Arv.other (Arv.other F57 W73 v11) W88 v12) W93 v13) W100 v14)
  obtain ⟨c104, r104, q104, S104, M104, H104, G104⟩ := id F105
  have i106 := own_inb (j := (own_s4 t3 t4)) S104 d1
  obtain ⟨T107, h107, X107, e107, W107, st107⟩ := stZ X103 hx hZ e103 r104 (j := (own_s4 t3 t4)) i106 (g := (mkF m 138 #[rv o0, iv 1, iv (own_s4 t3 t4)] [(.int 0), (.int (own_s4 t3 t4)), (.ref o5)])) rfl rfl (hb hby d4_138)
  have O107 := Old.wr O100 W107 u5
  have KK107 := Keep.wr KK100 W107 (Or.inl (own_m 5 rfl))
  have N107 := Fr.snoc X107 N100 u5
  have F108 : AZ3 Z h107 o5 j4 (own_ui (own_s4 t3 t4) 0 0 (own_ui (own_s3 t3 t4) 0 0 t12)) (own_ui (own_s4 t3 t4) 1 0 (own_ui (own_s3 t3 t4) 1 0 t13)) (own_ui (own_s4 t3 t4) 2 0 (own_ui (own_s3 t3 t4) 2 0 t14)) := own_setI r104 q104 S104 M104 H104 G104 (by decide) W107 d1
  have F109 := (Fld.other W107 (Fld.other W100 (Fld.other W93 (Fld.other W88 (Fld.other W73 F58 (Or.inl v2)) (Or.inl v7)) (Or.inr (n_32_39 hw))) (Or.inl (Ne.symm v9))) (Or.inl (Ne.symm v13)))
  obtain ⟨T110, X110, e110, st110⟩ := own_gF X107 hx hZ hown (w_31 hw) e107 F109 (g := (mkF m 77 #[rv o0, iv 2, iv (own_s4 t3 t4)] [(.ref o0), (.int 2)])) rfl rfl (hb hby d4_77)
  have F111 := (Exa.wr W107 (Exa.wr W100 (Exa.wr W93 F92)))
  obtain ⟨T112, h112, X112, e112, W112, st112⟩ := putF X110 hx hZ hown (host := "") (Or.inl (w_31 hw)) Via.refl e110 F109 F111 (Or.inl (w_32 hw)) (w_1 hw) (ty := .int) (by decide) rfl rfl (g := (mkF m 147 #[rv o0, iv 2, iv (own_s4 t3 t4)] [(.int 0), (.ref o0)])) rfl rfl (hb hby d4_147)
  have O112 := Old.wr O107 W112 u3
  have KK112 := Keep.wr KK107 W112 (Or.inl (own_m 3 rfl))
  have N112 := Fr.snoc X112 N107 u3
  have F113 : fB7 Z h112 o0 (.int 0) := Fld.same W112 F109
  have F114 := (Fld.other W112 (Fld.other W107 (Fld.other W100 (Fld.other W93 (Fld.other W88 (Fld.other W73 (Fld.other W56 (Fld.other W49 (Fld.other W42 (Fld.other W37 (Fld.other W22 (Fld.keep f13 K7 (ninS v0 nin0)) (Or.inl v2)) (Or.inl v7)) (Or.inr (n_58_39 hw))) (Or.inl (Ne.symm v9))) (Or.inl (Ne.symm v13))) (Or.inl v2)) (Or.inl v7)) (Or.inr (n_58_39 hw))) (Or.inl (Ne.symm v9))) (Or.inl (Ne.symm v13))) (Or.inr (n_58_32 hw)))
  obtain ⟨T115, X115, e115, st115⟩ := own_gF X112 hx hZ hown (w_57 hw) e112 F114 (g := (mkF m 152 #[rv o0, iv 2, iv (own_s4 t3 t4)] [(.ref o0), (.ref o0)])) rfl rfl (hb hby d4_152)
  have F116 := (Exa.wr W112 F111)
  obtain ⟨T117, h117, X117, e117, W117, st117⟩ := putF X115 hx hZ hown (host := "") (Or.inl (w_57 hw)) Via.refl e115 F114 F116 (Or.inl (w_58 hw)) (w_1 hw) (ty := .int) (by decide) rfl rfl (g := (mkF m 157 #[rv o0, iv 2, iv (own_s4 t3 t4)] [(.int 1), (.ref o0)])) rfl rfl (hb hby d4_157)
  have O117 := Old.wr O112 W117 u3
  have KK117 := Keep.wr KK112 W117 (Or.inl (own_m 3 rfl))
  have N117 := Fr.snoc X117 N112 u3
  have F118 : fB9 Z h117 o0 (.int 1) := Fld.same W117 F114
  have F119 := (Fld.other W117 (Fld.other W112 (Fld.other W107 (Fld.other W100 (Fld.other W93 (Fld.other W88 (Fld.other W73 (Fld.other W56 (Fld.other W49 (Fld.other W42 (Fld.other W37 (Fld.other W22 (Fld.keep f14 K7 (ninS v0 nin0)) (Or.inl v2)) (Or.inl v7)) (Or.inr (n_21_39 hw))) (Or.inl (Ne.symm v9))) (Or.inl (Ne.symm v13))) (Or.inl v2)) (Or.inl v7)) (Or.inr (n_21_39 hw))) (Or.inl (Ne.symm v9))) (Or.inl (Ne.symm v13))) (Or.inr (n_21_32 hw))) (Or.inr (n_21_58 hw)))
  obtain ⟨T120, X120, e120, st120⟩ := own_gF X117 hx hZ hown (w_20 hw) e117 F119 (g := (mkF m 161 #[rv o0, iv 2, iv (own_s4 t3 t4)] [(.ref o0)])) rfl rfl (hb hby d4_161)
  obtain ⟨T121, X121, e121, st121⟩ := own_gF X120 hx hZ hown (w_57 hw) e120 F118 (g := (mkF m 165 #[rv o0, iv 2, iv (own_s4 t3 t4)] [(.ref o0), (.ref o6)])) rfl rfl (hb hby d4_165)
  have F122 := (Fld.other W117 (Fld.other W112 (Fld.other W107 (Fld.other W100 F94 (Or.inl (Ne.symm v9))) (Or.inl (Ne.symm v13))) (Or.inr (n_39_32 hw))) (Or.inr (n_39_58 hw)))
  obtain ⟨T123, X123, e123, st123⟩ := own_gF X121 hx hZ hown (w_38 hw) e121 F122 (g := (mkF m 169 #[rv o0, iv 2, iv (own_s4 t3 t4)] [(.ref o0), (.int 1), (.ref o6)])) rfl rfl (hb hby d4_169)
  have F125 := (Arv.other (Arv.other (Arv.other (Arv.other (Arv.other (Arv.other (Arv.other (Arv.other (Arv.other (Arv.other (Arv.other (Arv.other (Arv.keep f15 K7 (ninS v15 nin0)) W22 v16) W37 v17) W42 v18) W49 v19) W56 v20) W73 v16) W88 v17) W93 v18) W100 v19) W107 v20) W112 v18) W117 v18)
  obtain ⟨c124, r124, q124, S124, M124, H124, G124⟩ := id F125
  have i126 := inb_of (j := 1) S124 (by decide)
  obtain ⟨T127, h127, X127, e127, W127, st127⟩ := stI X123 hx hZ e123 r124 (j := (1 : Int32)) i126 (g := (mkF m 172 #[rv o0, iv 2, iv (own_s4 t3 t4)] [(.int 2), (.int 1), (.ref o6)])) rfl rfl (hb hby d4_172)
  have O127 := Old.wr O117 W127 u6
  have KK127 := Keep.wr KK117 W127 (Or.inl (own_m 6 rfl))
  have N127 := Fr.snoc X127 N117 u6
  have F128 : AI4 Z h127 o6 j5 t15 2 t17 t18 := Arv.set r124 q124 S124 M124 H124 G124 rfl W127 1 rfl (Nat.le_of_ble_eq_true rfl)
  have F129 := (Arv.other (Arv.other (Arv.other (Arv.other (Arv.other (Arv.other (Arv.other (Arv.other F63 W73 (Ne.symm v1)) W88 (Ne.symm v5)) W93 (Ne.symm v0)) W100 (Ne.symm v3)) W107 (Ne.symm v10)) W112 (Ne.symm v0)) W117 (Ne.symm v0)) W127 (Ne.symm v15))
  have F130 := (Arv.other (Arv.other (Arv.other (Arv.other (Arv.other (Arv.other (Arv.other F74 W88 (Ne.symm v6)) W93 (Ne.symm v2)) W100 (Ne.symm v4)) W107 (Ne.symm v11)) W112 (Ne.symm v2)) W117 (Ne.symm v2)) W127 (Ne.symm v16))
  have F131 := (Exa.wr W127 (Exa.wr W117 (Exa.wr W112 (Exa.wr W107 (Exa.wr W100 (Exa.wr W93 (Exa.wr W88 (Exa.wr W73 (Exa.wr W56 (Exa.wr W49 (Exa.wr W42 (Exa.wr W37 (Exa.wr W22 (Exa.keep f16 K7))))))))))))))
  have F132 := (Arv.other (Arv.other (Arv.other (Arv.other (Arv.other (Arv.other F89 W93 (Ne.symm v7)) W100 (Ne.symm v8)) W107 (Ne.symm v12)) W112 (Ne.symm v7)) W117 (Ne.symm v7)) W127 (Ne.symm v17))
  have F133 := (Exa.wr W127 (Exa.wr W117 (Exa.wr W112 (Exa.wr W107 (Exa.wr W100 (Exa.wr W93 (Exa.wr W88 (Exa.wr W73 (Exa.wr W56 (Exa.wr W49 (Exa.wr W42 (Exa.wr W37 (Exa.wr W22 (Exa.keep f17 K7))))))))))))))
  have F134 := (Fld.other W127 F122 (Or.inl (Ne.symm v18)))
  have F135 := (Fld.other W127 (Fld.other W117 F113 (Or.inr (n_32_58 hw))) (Or.inl (Ne.symm v18)))
  have F136 := (Fld.other W127 (Fld.other W117 (Fld.other W112 (Fld.other W107 (Fld.other W100 (Fld.other W93 (Fld.other W88 (Fld.other W73 F66 (Or.inl v2)) (Or.inl v7)) (Or.inr (n_23_39 hw))) (Or.inl (Ne.symm v9))) (Or.inl (Ne.symm v13))) (Or.inr (n_23_32 hw))) (Or.inr (n_23_58 hw))) (Or.inl (Ne.symm v18)))
  have F137 := (Fld.other W127 (Fld.other W117 (Fld.other W112 (Fld.other W107 (Fld.other W100 (Fld.other W93 (Fld.other W88 (Fld.other W73 F60 (Or.inl v2)) (Or.inl v7)) (Or.inr (n_19_39 hw))) (Or.inl (Ne.symm v9))) (Or.inl (Ne.symm v13))) (Or.inr (n_19_32 hw))) (Or.inr (n_19_58 hw))) (Or.inl (Ne.symm v18)))
  have F138 := (Fld.other W127 (Fld.other W117 (Fld.other W112 (Fld.other W107 (Fld.other W100 (Fld.other W93 (Fld.other W88 F75 (Or.inl v7)) (Or.inr (n_25_39 hw))) (Or.inl (Ne.symm v9))) (Or.inl (Ne.symm v13))) (Or.inr (n_25_32 hw))) (Or.inr (n_25_58 hw))) (Or.inl (Ne.symm v18)))
  have F139 := (Fld.other W127 (Fld.other W117 (Fld.other W112 (Fld.other W107 (Fld.other W100 F95 (Or.inl (Ne.symm v9))) (Or.inl (Ne.symm v13))) (Or.inr (n_13_32 hw))) (Or.inr (n_13_58 hw))) (Or.inl (Ne.symm v18)))
  have F140 := (Exa.wr W127 (Exa.wr W117 F116))
  have F141 := (Fld.other W127 (Fld.other W117 (Fld.other W112 (Fld.other W107 F102 (Or.inl (Ne.symm v13))) (Or.inr (n_16_32 hw))) (Or.inr (n_16_58 hw))) (Or.inl (Ne.symm v18)))
  have F142 := (Fld.other W127 F118 (Or.inl (Ne.symm v18)))
  have F143 := (Fld.other W127 F119 (Or.inl (Ne.symm v18)))
  have F144 := (Fld.other W127 (Fld.other W117 (Fld.other W112 (Fld.other W107 (Fld.other W100 (Fld.other W93 (Fld.other W88 (Fld.other W73 (Fld.other W56 (Fld.other W49 (Fld.other W42 (Fld.other W37 (Fld.other W22 (Fld.keep f18 K7 (ninS v0 nin0)) (Or.inl v2)) (Or.inl v7)) (Or.inr (n_10_39 hw))) (Or.inl (Ne.symm v9))) (Or.inl (Ne.symm v13))) (Or.inl v2)) (Or.inl v7)) (Or.inr (n_10_39 hw))) (Or.inl (Ne.symm v9))) (Or.inl (Ne.symm v13))) (Or.inr (n_10_32 hw))) (Or.inr (n_10_58 hw))) (Or.inl (Ne.symm v18)))
  have F145 := (Arv.other (Arv.other (Arv.other (Arv.other F101 W107 (Ne.symm v14)) W112 v9) W117 v9) W127 (Ne.symm v19))
  have F146 := (Arv.other (Arv.other (Arv.other F108 W112 v13) W117 v13) W127 (Ne.symm v20))
  obtain ⟨fs, hr, hrun, hended, hW, hsame⟩ := X127.leave (v := none) (fun _ => rfl)
  refine ⟨_, _, (castTop (ef_4 m o0) ?_), hrun, hended, _, _, rfl, ?_, ⟨_, rfl⟩, hW, hsame.mono (by decide) (by decide)⟩
  · show Steps p.tables e below (s₁.setTop (mkF m 0 #[rv o0, .unset, .unset] [])) _
    refine oA X0 hx hby d4_0 rfl rfl rfl ?_
    refine st1 _ ?_
    refine oA X1 hx hby d4_4 rfl rfl rfl ?_
    refine st2 _ ?_
    refine XS.iadd X2.here hx rfl (hb hby d4_8) rfl ?_
    show Steps p.tables e below (T2.setTop (mkF m 9 #[rv o0, .unset, .unset] [(.int ((0 : Int32) + (2 : Int32)))])) _
    rw [(by decide : ((0 : Int32) + (2 : Int32)) = (2 : Int32))]
    refine oA X2 hx hby d4_9 rfl rfl rfl ?_
    refine st3 _ ?_
    refine X3.arraylength hx (by rw [e3]; exact r4.1) (State.isArrayOf_alike hZ.alike r4.2.1) (g := (mkF m 13 #[rv o0, .unset, .unset] [(.ref o1), (.int 2)])) rfl rfl (hb hby d4_13) _ ?_
    rw [len_of S4 M4]
    refine XS.icmpYes X3.here hx rfl (pc0 := 14) (pc' := 61) rfl (hb hby d4_14) rfl (by decide) (by decide) (by decide) ?_
    refine oA X3 hx hby d4_61 rfl rfl rfl ?_
    refine st5 _ ?_
    refine oK X5 hx hby d4_65 rfl ?_
    refine oA X5 hx hby d4_66 rfl rfl rfl ?_
    refine st6 _ ?_
    refine st7 _ ?_
    refine oK X7 hx hby d4_73 rfl ?_
    refine XS.istoreN X7.here hx rfl (hb hby d4_74) rfl (l' := #[rv o0, iv 0, .unset]) rfl ?_
    refine oI X7 hx hby d4_75 rfl rfl ?_
    refine oA X7 hx hby d4_76 rfl rfl rfl ?_
    refine st9 _ ?_
    refine XS.icmpNo X9.here hx rfl (hb hby d4_80) rfl (by decide) ?_
    refine oA X9 hx hby d4_83 rfl rfl rfl ?_
    refine st11 _ ?_
    refine oI X11 hx hby d4_87 rfl rfl ?_
    refine oL X11 hx hZ e11 r12 i13 y14 (by exact hb hby d4_88) rfl rfl ?_
    refine XS.istoreN X11.here hx rfl (hb hby d4_89) rfl (l' := #[rv o0, iv 0, iv (own_s3 t3 t4)]) rfl ?_
    refine oA X11 hx hby d4_90 rfl rfl rfl ?_
    show Steps p.tables e below (T11.setTop (mkF m 91 #[rv o0, iv 0, iv (own_s3 t3 t4)] [(.ref o0)])) _
    refine st16 _ ?_
    refine oA X16 hx hby d4_94 rfl rfl rfl ?_
    refine st18 _ ?_
    refine oI X18 hx hby d4_98 rfl rfl ?_
    refine st22 _ ?_
    refine oA X22 hx hby d4_100 rfl rfl rfl ?_
    refine st25 _ ?_
    refine oA X25 hx hby d4_104 rfl rfl rfl ?_
    refine st27 _ ?_
    refine oA X27 hx hby d4_108 rfl rfl rfl ?_
    refine st29 _ ?_
    refine oI X29 hx hby d4_112 rfl rfl ?_
    refine oD X29 hx hZ e29 r30 i32 y33 (by exact hb hby d4_113) rfl rfl ?_
    refine st37 _ ?_
    refine oA X37 hx hby d4_115 rfl rfl rfl ?_
    refine XS.dup X37.here hx rfl (hb hby d4_116) rfl rfl ?_
    refine st40 _ ?_
    refine oK X40 hx hby d4_120 rfl ?_
    refine XS.iadd X40.here hx rfl (hb hby d4_121) rfl ?_
    show Steps p.tables e below (T40.setTop (mkF m 122 #[rv o0, iv 0, iv (own_s3 t3 t4)] [(.int ((0 : Int32) + (1 : Int32))), (.ref o0)])) _
    rw [(by decide : ((0 : Int32) + (1 : Int32)) = (1 : Int32))]
    refine st42 _ ?_
    refine oA X42 hx hby d4_125 rfl rfl rfl ?_
    refine st45 _ ?_
    refine oI X45 hx hby d4_129 rfl rfl ?_
    refine XS.dconst0 X45.here hx rfl (hb hby d4_130) (v := FP.l2d (0 : Int64)) own_dz ?_
    refine st49 _ ?_
    refine oA X49 hx hby d4_132 rfl rfl rfl ?_
    refine st52 _ ?_
    refine oI X52 hx hby d4_136 rfl rfl ?_
    refine oK X52 hx hby d4_137 rfl ?_
    refine st56 _ ?_
    refine XS.iinc X56.here hx rfl (hb hby d4_139) rfl (l' := #[rv o0, iv ((0 : Int32) + (1 : Int32)), iv (own_s3 t3 t4)]) rfl ?_
    show Steps p.tables e below (T56.setTop (mkF m 142 #[rv o0, iv 1, iv (own_s3 t3 t4)] [])) _
    refine XS.goto X56.here hx rfl (pc0 := 142) (pc' := 75) rfl (hb hby d4_142) (by decide) (by decide) ?_
    refine oI X56 hx hby d4_75 rfl rfl ?_
    refine oA X56 hx hby d4_76 rfl rfl rfl ?_
    refine st59 _ ?_
    refine XS.icmpNo X59.here hx rfl (hb hby d4_80) rfl (by decide) ?_
    refine oA X59 hx hby d4_83 rfl rfl rfl ?_
    refine st61 _ ?_
    refine oI X61 hx hby d4_87 rfl rfl ?_
    refine oL X61 hx hZ e61 r62 i64 y65 (by exact hb hby d4_88) rfl rfl ?_
    refine XS.istoreN X61.here hx rfl (hb hby d4_89) rfl (l' := #[rv o0, iv 1, iv (own_s4 t3 t4)]) rfl ?_
    refine oA X61 hx hby d4_90 rfl rfl rfl ?_
    refine st67 _ ?_
    refine oA X67 hx hby d4_94 rfl rfl rfl ?_
    refine st69 _ ?_
    refine oI X69 hx hby d4_98 rfl rfl ?_
    refine st73 _ ?_
    refine oA X73 hx hby d4_100 rfl rfl rfl ?_
    refine st76 _ ?_
    refine oA X76 hx hby d4_104 rfl rfl rfl ?_
    refine st78 _ ?_
    refine oA X78 hx hby d4_108 rfl rfl rfl ?_
    refine st80 _ ?_
    refine oI X80 hx hby d4_112 rfl rfl ?_
    refine oD X80 hx hZ e80 r81 i83 y84 (by exact hb hby d4_113) rfl rfl ?_
    show Steps p.tables e below (T80.setTop (mkF m 114 #[rv o0, iv 1, iv (own_s4 t3 t4)] [(.double (FP.l2d (own_pk (own_s4 t3 t4) (own_up (own_s3 t3 t4) 0 (0 : Int64) t6) (own_up (own_s3 t3 t4) 1 (0 : Int64) t7) (own_up (own_s3 t3 t4) 2 (0 : Int64) t8)))), (.int 1), (.ref o3)])) _
    refine st88 _ ?_
    refine oA X88 hx hby d4_115 rfl rfl rfl ?_
    refine XS.dup X88.here hx rfl (hb hby d4_116) rfl rfl ?_
    refine st91 _ ?_
    refine oK X91 hx hby d4_120 rfl ?_
    refine XS.iadd X91.here hx rfl (hb hby d4_121) rfl ?_
    show Steps p.tables e below (T91.setTop (mkF m 122 #[rv o0, iv 1, iv (own_s4 t3 t4)] [(.int ((1 : Int32) + (1 : Int32))), (.ref o0)])) _
    rw [(by decide : ((1 : Int32) + (1 : Int32)) = (2 : Int32))]
    refine st93 _ ?_
    refine oA X93 hx hby d4_125 rfl rfl rfl ?_
    refine st96 _ ?_
    refine oI X96 hx hby d4_129 rfl rfl ?_
    refine XS.dconst0 X96.here hx rfl (hb hby d4_130) (v := FP.l2d (0 : Int64)) own_dz ?_
    refine st100 _ ?_
    refine oA X100 hx hby d4_132 rfl rfl rfl ?_
    refine st103 _ ?_
    refine oI X103 hx hby d4_136 rfl rfl ?_
    refine oK X103 hx hby d4_137 rfl ?_
    refine st107 _ ?_
    refine XS.iinc X107.here hx rfl (hb hby d4_139) rfl (l' := #[rv o0, iv ((1 : Int32) + (1 : Int32)), iv (own_s4 t3 t4)]) rfl ?_
    show Steps p.tables e below (T107.setTop (mkF m 142 #[rv o0, iv 2, iv (own_s4 t3 t4)] [])) _
    refine XS.goto X107.here hx rfl (pc0 := 142) (pc' := 75) rfl (hb hby d4_142) (by decide) (by decide) ?_
    refine oI X107 hx hby d4_75 rfl rfl ?_
    refine oA X107 hx hby d4_76 rfl rfl rfl ?_
    refine st110 _ ?_
    refine XS.icmpYes X110.here hx rfl (pc0 := 80) (pc' := 145) rfl (hb hby d4_80) rfl (by decide) (by decide) (by decide) ?_
    refine oA X110 hx hby d4_145 rfl rfl rfl ?_
    refine oK X110 hx hby d4_146 rfl ?_
    refine st112 _ ?_
    refine oA X112 hx hby d4_150 rfl rfl rfl ?_
    refine XS.dup X112.here hx rfl (hb hby d4_151) rfl rfl ?_
    refine st115 _ ?_
    refine oK X115 hx hby d4_155 rfl ?_
    refine XS.iadd X115.here hx rfl (hb hby d4_156) rfl ?_
    show Steps p.tables e below (T115.setTop (mkF m 157 #[rv o0, iv 2, iv (own_s4 t3 t4)] [(.int ((0 : Int32) + (1 : Int32))), (.ref o0)])) _
    rw [(by decide : ((0 : Int32) + (1 : Int32)) = (1 : Int32))]
    refine st117 _ ?_
    refine oA X117 hx hby d4_160 rfl rfl rfl ?_
    refine st120 _ ?_
    refine oA X120 hx hby d4_164 rfl rfl rfl ?_
    refine st121 _ ?_
    refine oA X121 hx hby d4_168 rfl rfl rfl ?_
    refine st123 _ ?_
    refine st127 _ ?_
    exact X127.returnOut hx Bd.returns (hb hby d4_173) hr
  · show Q4_3 Z t0 t1 t2 t3 t4 t5 t6 t7 t8 t9 t10 t11 t12 t13 t14 t15 t16 t17 t18 t19 o0 o1 o2 o3 o4 o5 o6 j0 j1 j2 j3 j4 j5 h0 n0 _ T127.heap _
    rw [e127]
    exact ⟨rfl, N127, KK127, F129, F130, F131, F132, F133, F134, F135, F136, F137, F138, F139, F140, F141, F142, F143, F144, F145, F146, F128⟩
theorem sg_11 {p : Program} {l : Launch} {e : Env} {s : State} {m : MethodId} {args : Array Value} {below : List Frame} {meth : Method} {c : Code} {T0 : State} {locs : List Loc} {Z : State} {a0 : Array Value} {h0 : Heap} {n0 cn sn : Nat} (hw : HW a0 Z) (t0 t1 t2 t3 t4 t5 t6 t7 : Int32) (t8 t9 t10 : Int64) (t11 t12 t13 t14 t15 t16 : Int32) (t17 t18 t19 : Int64) (t20 t21 t22 t23 t24 t25 t26 t27 t28 : Int32) (o0 o1 o2 o3 o4 o5 o6 : Addr) (j0 j1 j2 j3 j4 j5 : ClassId)
    (X0 : Stand p l e room_1 s m args below meth c T0 locs cn sn) (hcn : cn ≤ room_1.cells) (hsn : sn ≤ room_1.slots) (hx : p.tables.exec = Jvm.exec) (hZ : Z.Warmed39 s.vm) (hby : c.code = code) (hml : c.maxLocals = 14) (hown : s.vm.findClass kL = some m.cls) (e0 : T0.heap = h0) (N0 : Fr n0 locs) (OO : Old Z n0 h0) (f0 : fB2 Z h0 o0 (.ref o1)) (f1 : AZ3 Z h0 o1 j0 t1 t2 t3) (f2 : fB3 Z h0 o0 (.ref o2)) (f3 : fB7 Z h0 o0 (.int 1)) (f4 : Exa Z h0 o0 kB) (f5 : AI3 Z h0 o2 j1 t5 t6 t7) (f6 : fB1 Z h0 o0 (.ref o3)) (f7 : AD3 Z h0 o3 j2 t8 t9 t10) (f8 : fB0 Z h0 o0 (.int t11)) (f9 : fB4 Z h0 o0 (.ref o4)) (f10 : fB5 Z h0 o0 (.ref o5)) (f11 : fB6 Z h0 o0 (.ref o6)) (f12 : fB8 Z h0 o0 (.int 0)) (f13 : fB9 Z h0 o0 (.int 0)) (d0 : own_in3 t0) (u0 : n0 ≤ o1) (v0 : o0 ≠ o1) (u1 : n0 ≤ o0) (v1 : o2 ≠ o1) (v2 : o2 ≠ o0) (u2 : n0 ≤ o2) (v3 : o3 ≠ o1) (v4 : o3 ≠ o0) (v5 : o3 ≠ o2) (d1 : B53 (own_pk t0 t8 t9 t10)) (d2 : B53 (t12.toInt64)) (u3 : n0 ≤ o3) (d3 : own_in3 t4) (d4 : B53 (own_pk t4 (t8 + (own_pt t0 0 (t12.toInt64))) (t9 + (own_pt t0 1 (t12.toInt64))) (t10 + (own_pt t0 2 (t12.toInt64))))) (d5 : B53 (t13.toInt64)) (f14 : AI3 Z h0 o5 j3 t14 t15 t16) (f15 : AD3 Z h0 o6 j4 t17 t18 t19) (f16 : AI4 Z h0 o4 j5 t20 t21 t22 t23) (f17 : Exa Z h0 o5 "[I") (f18 : Exa Z h0 o6 "[D") (v6 : o5 ≠ o1) (v7 : o5 ≠ o0) (v8 : o5 ≠ o2) (v9 : o5 ≠ o3) (u4 : n0 ≤ o5) (d6 : own_in3 (own_s3 t5 t0)) (v10 : o6 ≠ o1) (v11 : o6 ≠ o0) (v12 : o6 ≠ o2) (v13 : o6 ≠ o3) (v14 : o6 ≠ o5) (u5 : n0 ≤ o6) (d7 : own_in3 (own_s4 t5 t0)) (v15 : o4 ≠ o1) (v16 : o4 ≠ o0) (v17 : o4 ≠ o2) (v18 : o4 ≠ o3) (v19 : o4 ≠ o5) (v20 : o4 ≠ o6) (u6 : n0 ≤ o4) (hq0 : (own_pi t0 t1 t2 t3) = (0 : Int32)) (hq1 : ¬ ((own_pi t4 (own_ui t0 0 1 t1) (own_ui t0 1 1 t2) (own_ui t0 2 1 t3)) = (0 : Int32))) :
    ∃ (T' : State) (h' : Heap) (lc : List Loc), Stand p l e room_1 s m args below meth c T' lc cn sn ∧ T'.heap = h' ∧ Fr n0 lc ∧ Keep h0 h' [o3, o2, o0, o1, o4, o6, o5] ∧ AD3 Z h' o3 j2 (own_up (own_s4 t5 t0) 0 (0 : Int64) (own_up (own_s3 t5 t0) 0 (0 : Int64) ((t8 + (own_pt t0 0 (t12.toInt64))) + (own_pt t4 0 (t13.toInt64))))) (own_up (own_s4 t5 t0) 1 (0 : Int64) (own_up (own_s3 t5 t0) 1 (0 : Int64) ((t9 + (own_pt t0 1 (t12.toInt64))) + (own_pt t4 1 (t13.toInt64))))) (own_up (own_s4 t5 t0) 2 (0 : Int64) (own_up (own_s3 t5 t0) 2 (0 : Int64) ((t10 + (own_pt t0 2 (t12.toInt64))) + (own_pt t4 2 (t13.toInt64))))) ∧ AI3 Z h' o2 j1 (own_s3 t5 t0) (own_s4 t5 t0) t7 ∧ fB2 Z h' o0 (.ref o1) ∧ fB3 Z h' o0 (.ref o2) ∧ fB7 Z h' o0 (.int 0) ∧ Exa Z h' o0 kB ∧ fB1 Z h' o0 (.ref o3) ∧ fB0 Z h' o0 (.int t11) ∧ fB4 Z h' o0 (.ref o4) ∧ fB5 Z h' o0 (.ref o5) ∧ fB6 Z h' o0 (.ref o6) ∧ fB8 Z h' o0 (.int 2) ∧ fB9 Z h' o0 (.int 1) ∧ AZ3 Z h' o1 j0 (own_ui (own_s4 t5 t0) 0 0 (own_ui (own_s3 t5 t0) 0 0 (own_ui t0 0 1 t1))) (own_ui (own_s4 t5 t0) 1 0 (own_ui (own_s3 t5 t0) 1 0 (own_ui t0 1 1 t2))) (own_ui (own_s4 t5 t0) 2 0 (own_ui (own_s3 t5 t0) 2 0 (own_ui t0 2 1 t3))) ∧ AI4 Z h' o4 j5 t20 2 t22 t23 ∧ AD3 Z h' o6 j4 (own_pk (own_s3 t5 t0) ((t8 + (own_pt t0 0 (t12.toInt64))) + (own_pt t4 0 (t13.toInt64))) ((t9 + (own_pt t0 1 (t12.toInt64))) + (own_pt t4 1 (t13.toInt64))) ((t10 + (own_pt t0 2 (t12.toInt64))) + (own_pt t4 2 (t13.toInt64)))) (own_pk (own_s4 t5 t0) (own_up (own_s3 t5 t0) 0 (0 : Int64) ((t8 + (own_pt t0 0 (t12.toInt64))) + (own_pt t4 0 (t13.toInt64)))) (own_up (own_s3 t5 t0) 1 (0 : Int64) ((t9 + (own_pt t0 1 (t12.toInt64))) + (own_pt t4 1 (t13.toInt64)))) (own_up (own_s3 t5 t0) 2 (0 : Int64) ((t10 + (own_pt t0 2 (t12.toInt64))) + (own_pt t4 2 (t13.toInt64))))) t19 ∧ Exa Z h' o6 "[D" ∧ AI3 Z h' o5 j3 (own_s3 t5 t0) (own_s4 t5 t0) t16 ∧ Exa Z h' o5 "[I" ∧
      ∀ target, Steps p.tables e below (T'.setTop (mkF m 87 #[iv t24, iv t25, iv t12, iv t13, iv t26, iv t27, iv t0, iv t4, iv t28, rv o0, .unset, .unset, .unset, .unset] [])) target → Steps p.tables e below (T0.setTop (mkF m 64 #[iv t24, iv t25, iv t12, iv t13, iv t26, iv t27, iv t0, iv t4, iv t28, rv o0, .unset, .unset, .unset, .unset] [])) target := by
  obtain ⟨cq1, kq1, q1a, q1b, q1c⟩ := isOf hZ e0 f4
  obtain ⟨_, _, ⟨T1, L1, k1, n1⟩, -, X1, ⟨Lc1, hQ1, l1, y1, z1⟩, st1⟩ := X0.virtualBack hx (y := (⟨kB, "add", "(ID)V"⟩ : MethodName)) (z := (⟨kB, "add", "(ID)V"⟩ : MethodName)) hown (mvT hZ (w_26 hw)) (mvT hZ (w_27 hw)) (notFace_of_selects (args := #[]) (mvT hZ (w_29 hw))) (mvT hZ (w_29 hw)) (mvT hZ (w_28 hw)) (by decide) (backOf (W := 0) (rm3_1 l Z a0 hw [] t0 t1 t2 t3 t5 t6 t7 t8 t9 t10 (t12.toInt64) t11 (0 : Int32) (0 : Int32) o0 o1 o2 o3 o4 o5 o6 j0 j1 j2 h0 n0 OO f0 f1 d0 u0 f2 v0 f3 f4 u1 f5 v1 v2 u2 f6 f7 v3 v4 v5 d1 d2 u3 f8 f9 f10 f11 f12 f13 hq0) hZ (w_30 hw) (w_2 hw) (by decide) (by decide)) q1a q1c (g := (mkF m 70 #[iv t24, iv t25, iv t12, iv t13, iv t26, iv t27, iv t0, iv t4, iv t28, rv o0, .unset, .unset, .unset, .unset] [(.double (FP.l2d (t12.toInt64))), (.int t0), (.ref o0)])) rfl (by rw [hml]; rfl) (Steps.refl _) (argsL := [(.int t0), (.double (FP.l2d (t12.toInt64)))]) (rest := []) (lenOf pd_1 rfl) rfl (by show 2 * 0 + _ ≤ _; exact Nat.le_of_eq rfl) (hb hby at_70) (fun _ _ => ⟨rfl, e0, hcn, hsn⟩)
  dsimp only [Pt.U, Pt.locs, Pt.cells, Pt.slots] at X1 l1 y1 z1 st1 hQ1
  subst l1 y1 z1
  obtain ⟨h1, e1⟩ : ∃ z, T1.heap = z := ⟨_, rfl⟩
  rw [e1] at hQ1
  obtain ⟨rfl, N1q, K1, R1_0, R1_1, R1_2, R1_3, R1_4, R1_5, R1_6, R1_7, R1_8, R1_9, R1_10, R1_11, R1_12, R1_13⟩ := hQ1
  have N1 := Fr.app N0 N1q
  have O1 := Old.keep OO K1 (allS u0 (allS u1 (allS u2 (allS u3 all0))))
  have KK1 := Keep.trans (Keep.refl h0 [o3, o2, o0, o1, o4, o6, o5]) K1 (allS (Or.inl (own_m 3 rfl)) (allS (Or.inl (own_m 2 rfl)) (allS (Or.inl (own_m 1 rfl)) (allS (Or.inl (own_m 0 rfl)) all0))))
  obtain ⟨cq2, kq2, q2a, q2b, q2c⟩ := isOf hZ e1 R1_4
  obtain ⟨_, _, ⟨T2, L2, k2, n2⟩, -, X2, ⟨Lc2, hQ2, l2, y2, z2⟩, st2⟩ := X1.virtualBack hx (y := (⟨kB, "add", "(ID)V"⟩ : MethodName)) (z := (⟨kB, "add", "(ID)V"⟩ : MethodName)) hown (mvT hZ (w_26 hw)) (mvT hZ (w_27 hw)) (notFace_of_selects (args := #[]) (mvT hZ (w_29 hw))) (mvT hZ (w_29 hw)) (mvT hZ (w_28 hw)) (by decide) (backOf (W := 0) (rm3_3 l Z a0 hw [] t4 (own_ui t0 0 1 t1) (own_ui t0 1 1 t2) (own_ui t0 2 1 t3) (t8 + (own_pt t0 0 (t12.toInt64))) (t9 + (own_pt t0 1 (t12.toInt64))) (t10 + (own_pt t0 2 (t12.toInt64))) (t13.toInt64) o0 o1 o3 j0 j2 h1 n0 O1 R1_1 R1_0 d3 R1_5 R1_13 d4 d5 u3 hq1) hZ (w_30 hw) (w_2 hw) (by decide) (by decide)) q2a q2c (g := (mkF m 79 #[iv t24, iv t25, iv t12, iv t13, iv t26, iv t27, iv t0, iv t4, iv t28, rv o0, .unset, .unset, .unset, .unset] [(.double (FP.l2d (t13.toInt64))), (.int t4), (.ref o0)])) rfl (by rw [hml]; rfl) (Steps.refl _) (argsL := [(.int t4), (.double (FP.l2d (t13.toInt64)))]) (rest := []) (lenOf pd_1 rfl) rfl (by show 2 * 0 + _ ≤ _; exact Nat.le_of_eq rfl) (hb hby at_79) (fun _ _ => ⟨rfl, e1, hcn, hsn⟩)
  dsimp only [Pt.U, Pt.locs, Pt.cells, Pt.slots] at X2 l2 y2 z2 st2 hQ2
  subst l2 y2 z2
  obtain ⟨h2, e2⟩ : ∃ z, T2.heap = z := ⟨_, rfl⟩
  rw [e2] at hQ2
  obtain ⟨rfl, N2q, K2, R2_0⟩ := hQ2
  have N2 := Fr.app N1 N2q
  have O2 := Old.keep O1 K2 (allS u3 all0)
  have KK2 := Keep.trans KK1 K2 (allS (Or.inl (own_m 0 rfl)) all0)
  have F4 := (Fld.keep R1_10 K2 (ninS (Ne.symm v4) nin0))
  have F5 := (Fld.keep R1_3 K2 (ninS (Ne.symm v4) nin0))
  have F6 := (Fld.keep R1_8 K2 (ninS (Ne.symm v4) nin0))
  have F7 := (Arv.keep (Arv.keep f14 K1 (ninS v6 (ninS v7 (ninS v8 (ninS v9 nin0))))) K2 (ninS v9 nin0))
  have F8 := (Fld.keep R1_2 K2 (ninS (Ne.symm v4) nin0))
  have F9 := (Arv.keep R1_12 K2 (ninS (Ne.symm v5) nin0))
  have F10 := (Fld.keep R1_9 K2 (ninS (Ne.symm v4) nin0))
  have F11 := (Fld.keep R1_5 K2 (ninS (Ne.symm v4) nin0))
  have F12 := (Arv.keep (Arv.keep f15 K1 (ninS v10 (ninS v11 (ninS v12 (ninS v13 nin0))))) K2 (ninS v13 nin0))
  have F13 := (Exa.keep R1_4 K2)
  have F14 := (Fld.keep R1_1 K2 (ninS (Ne.symm v4) nin0))
  have F15 := (Arv.keep R1_0 K2 (ninS (Ne.symm v3) nin0))
  have F16 := (Fld.keep R1_11 K2 (ninS (Ne.symm v4) nin0))
  have F17 := (Fld.keep R1_7 K2 (ninS (Ne.symm v4) nin0))
  have F18 := (Arv.keep (Arv.keep f16 K1 (ninS v15 (ninS v16 (ninS v17 (ninS v18 nin0))))) K2 (ninS v18 nin0))
  have F19 := (Exa.keep (Exa.keep f17 K1) K2)
  have F20 := (Exa.keep (Exa.keep f18 K1) K2)
  have F21 := (Fld.keep R1_6 K2 (ninS (Ne.symm v4) nin0))
  obtain ⟨cq3, kq3, q3a, q3b, q3c⟩ := isOf hZ e2 F13
  obtain ⟨_, _, ⟨T3, L3, k3, n3⟩, -, X3, ⟨Lc3, hQ3, l3, y3, z3⟩, st3⟩ := X2.virtualBack hx (y := (⟨kB, "endRow", "()V"⟩ : MethodName)) (z := (⟨kB, "endRow", "()V"⟩ : MethodName)) hown (mvT hZ (w_33 hw)) (mvT hZ (w_34 hw)) (notFace_of_selects (args := #[]) (mvT hZ (w_36 hw))) (mvT hZ (w_36 hw)) (mvT hZ (w_35 hw)) (by decide) (backOf (W := 0) (rm4_3 l Z a0 hw [] t14 t15 t16 t5 t0 t7 ((t8 + (own_pt t0 0 (t12.toInt64))) + (own_pt t4 0 (t13.toInt64))) ((t9 + (own_pt t0 1 (t12.toInt64))) + (own_pt t4 1 (t13.toInt64))) ((t10 + (own_pt t0 2 (t12.toInt64))) + (own_pt t4 2 (t13.toInt64))) t17 t18 t19 (own_ui t0 0 1 t1) (own_ui t0 1 1 t2) (own_ui t0 2 1 t3) t20 t21 t22 t23 t11 o0 o5 o2 o6 o3 o1 o4 j3 j1 j2 j4 j0 j5 h2 n0 O2 F4 F5 F6 F7 F8 F9 u2 (Ne.symm v2) v8 u4 F10 (Ne.symm v7) F11 R2_0 v5 (Ne.symm v9) d6 F12 v12 v14 u5 (Ne.symm v11) F13 u1 (Ne.symm v13) v4 u3 F14 F15 (Ne.symm v1) (Ne.symm v6) (Ne.symm v10) (Ne.symm v0) (Ne.symm v3) u0 d7 F16 F17 F18 v17 v19 v20 v16 v18 v15 u6 F19 F20 F21) hZ (w_37 hw) (w_2 hw) (by decide) (by decide)) q3a q3c (g := (mkF m 84 #[iv t24, iv t25, iv t12, iv t13, iv t26, iv t27, iv t0, iv t4, iv t28, rv o0, .unset, .unset, .unset, .unset] [(.ref o0)])) rfl (by rw [hml]; rfl) (Steps.refl _) (argsL := []) (rest := []) (lenOf pd_6 rfl) rfl (by show 2 * 0 + _ ≤ _; exact Nat.le_of_eq rfl) (hb hby at_84) (fun _ _ => ⟨rfl, e2, hcn, hsn⟩)
  dsimp only [Pt.U, Pt.locs, Pt.cells, Pt.slots] at X3 l3 y3 z3 st3 hQ3
  subst l3 y3 z3
  obtain ⟨h3, e3⟩ : ∃ z, T3.heap = z := ⟨_, rfl⟩
  rw [e3] at hQ3
  obtain ⟨rfl, N3q, K3, R3_0, R3_1, R3_2, R3_3, R3_4, R3_5, R3_6, R3_7, R3_8, R3_9, R3_10, R3_11, R3_12, R3_13, R3_14, R3_15, R3_16, R3_17, R3_18⟩ := hQ3
  have N3 := Fr.app N2 N3q
  have O3 := Old.keep O2 K3 (allS u2 (allS u4 (allS u5 (allS u1 (allS u3 (allS u0 (allS u6 all0)))))))
  have KK3 := Keep.trans KK2 K3 (allS (Or.inl (own_m 1 rfl)) (allS (Or.inl (own_m 6 rfl)) (allS (Or.inl (own_m 5 rfl)) (allS (Or.inl (own_m 2 rfl)) (allS (Or.inl (own_m 0 rfl)) (allS (Or.inl (own_m 3 rfl)) (allS (Or.inl (own_m 4 rfl)) all0)))))))
  refine ⟨T3, h3, _, X3, e3, N3, KK3, R3_16, R3_0, R3_12, R3_8, R3_6, R3_11, R3_10, R3_15, R3_14, R3_7, R3_9, R3_5, R3_13, R3_17, R3_18, R3_3, R3_4, R3_1, R3_2, fun target kt => ?_⟩
  show Steps p.tables e below (T0.setTop (mkF m 64 #[iv t24, iv t25, iv t12, iv t13, iv t26, iv t27, iv t0, iv t4, iv t28, rv o0, .unset, .unset, .unset, .unset] [])) _
  refine oa X0 hx hby at_64 rfl rfl rfl ?_
  refine oi X0 hx hby at_66 rfl rfl ?_
  refine oI X0 hx hby at_68 rfl rfl ?_
  refine XS.i2dS X0.here hx rfl (hb hby at_69) rfl (v := FP.l2d (t12.toInt64)) (i2d_w t12) ?_
  refine st1.trans ?_
  refine oa X1 hx hby at_73 rfl rfl rfl ?_
  refine oi X1 hx hby at_75 rfl rfl ?_
  refine oI X1 hx hby at_77 rfl rfl ?_
  refine XS.i2dS X1.here hx rfl (hb hby at_78) rfl (v := FP.l2d (t13.toInt64)) (i2d_w t13) ?_
  refine st2.trans ?_
  refine oa X2 hx hby at_82 rfl rfl rfl ?_
  refine st3.trans ?_
  exact kt
def Q4_4 (Z : State) (t0 t1 t2 t3 t4 t5 t6 : Int32) (t7 t8 t9 t10 t11 t12 : Int64) (t13 t14 t15 t16 t17 t18 t19 t20 : Int32) (o0 o1 o2 o3 o4 o5 o6 : Addr) (j0 j1 j2 j3 j4 j5 : ClassId) (h0 : Heap) (n0 : Nat) (v : Option Value) (h : Heap) (L : List Loc) : Prop := v = none ∧ Fr n0 L ∧ Keep h0 h [o2, o1, o3, o0, o4, o5, o6] ∧ AI3 Z h o2 j1 t4 t5 t6 ∧ AI3 Z h o1 j0 (own_ui t0 0 t4 t1) (own_ui t0 1 t4 t2) (own_ui t0 2 t4 t3) ∧ Exa Z h o1 "[I" ∧ AD3 Z h o3 j3 (own_up t0 0 (own_pk t4 t7 t8 t9) t10) (own_up t0 1 (own_pk t4 t7 t8 t9) t11) (own_up t0 2 (own_pk t4 t7 t8 t9) t12) ∧ Exa Z h o3 "[D" ∧ fB8 Z h o0 (.int (t0 + (1 : Int32))) ∧ fB7 Z h o0 (.int 0) ∧ fB5 Z h o0 (.ref o1) ∧ fB3 Z h o0 (.ref o2) ∧ fB9 Z h o0 (.int 2) ∧ fB6 Z h o0 (.ref o3) ∧ fB1 Z h o0 (.ref o4) ∧ Exa Z h o0 kB ∧ fB2 Z h o0 (.ref o5) ∧ fB4 Z h o0 (.ref o6) ∧ fB0 Z h o0 (.int t20) ∧ AD3 Z h o4 j2 (own_up t4 0 (0 : Int64) t7) (own_up t4 1 (0 : Int64) t8) (own_up t4 2 (0 : Int64) t9) ∧ AZ3 Z h o5 j4 (own_ui t4 0 0 t13) (own_ui t4 1 0 t14) (own_ui t4 2 0 t15) ∧ AI4 Z h o6 j5 t16 t17 (t0 + (1 : Int32)) t19
theorem rm4_4 (l : Launch) (Z : State) (a0 : Array Value) (hw : HW a0 Z) (ws : List Jvm.Cond) (t0 t1 t2 t3 t4 t5 t6 : Int32) (t7 t8 t9 t10 t11 t12 : Int64) (t13 t14 t15 t16 t17 t18 t19 t20 : Int32) (o0 o1 o2 o3 o4 o5 o6 : Addr) (j0 j1 j2 j3 j4 j5 : ClassId) (h0 : Heap) (n0 : Nat) (OO : Old Z n0 h0) (f0 : fB8 Z h0 o0 (.int t0)) (f1 : fB7 Z h0 o0 (.int 1)) (f2 : fB5 Z h0 o0 (.ref o1)) (f3 : AI3 Z h0 o1 j0 t1 t2 t3) (d0 : ¬ ((3 : Int32) < (t0 + (1 : Int32)))) (f4 : fB3 Z h0 o0 (.ref o2)) (f5 : AI3 Z h0 o2 j1 t4 t5 t6) (u0 : n0 ≤ o2) (v0 : o0 ≠ o2) (f6 : fB9 Z h0 o0 (.int 1)) (v1 : o1 ≠ o2) (d1 : own_in3 t0) (u1 : n0 ≤ o1) (f7 : fB6 Z h0 o0 (.ref o3)) (v2 : o0 ≠ o1) (f8 : fB1 Z h0 o0 (.ref o4)) (f9 : AD3 Z h0 o4 j2 t7 t8 t9) (v3 : o4 ≠ o2) (v4 : o4 ≠ o1) (d2 : own_in3 t4) (f10 : AD3 Z h0 o3 j3 t10 t11 t12) (v5 : o3 ≠ o2) (v6 : o3 ≠ o1) (u2 : n0 ≤ o3) (v7 : o0 ≠ o3) (f11 : Exa Z h0 o0 kB) (u3 : n0 ≤ o0) (v8 : o4 ≠ o3) (v9 : o4 ≠ o0) (u4 : n0 ≤ o4) (f12 : fB2 Z h0 o0 (.ref o5)) (f13 : AZ3 Z h0 o5 j4 t13 t14 t15) (v10 : o5 ≠ o2) (v11 : o5 ≠ o1) (v12 : o5 ≠ o3) (v13 : o5 ≠ o0) (v14 : o5 ≠ o4) (u5 : n0 ≤ o5) (f14 : fB4 Z h0 o0 (.ref o6)) (f15 : AI4 Z h0 o6 j5 t16 t17 t18 t19) (v15 : o6 ≠ o2) (v16 : o6 ≠ o1) (v17 : o6 ≠ o3) (v18 : o6 ≠ o0) (v19 : o6 ≠ o4) (v20 : o6 ≠ o5) (u6 : n0 ≤ o6) (f16 : Exa Z h0 o1 "[I") (f17 : Exa Z h0 o3 "[D") (f18 : fB0 Z h0 o0 (.int t20)) :
    own_MF l Z h0 (⟨kB, "endRow", "()V"⟩ : MethodName) ws prog_58_method_3_code 3 none ({ frames := 4, cells := 0, slots := 0, locals := 81 } : Room) #[(.ref o0)] (Q4_4 Z t0 t1 t2 t3 t4 t5 t6 t7 t8 t9 t10 t11 t12 t13 t14 t15 t16 t17 t18 t19 t20 o0 o1 o2 o3 o4 o5 o6 j0 j1 j2 j3 j4 j5 h0 n0) := by
  refine MetFree.of_bodySF (plainFor_of_name pn_4) hisR ?_
  intro p e s m args below meth c s₁ Bd hml0 hP hK
  obtain ⟨rfl, hZ, hh⟩ := hP
  have hx := Bd.exec
  have hby := Bd.bytes
  have hml : c.maxLocals = 3 := hml0
  have hown : s.vm.findClass kB = some m.cls := findClass_of_methodNamed Bd.named
  have X0 : Stand p l e ({ frames := 4, cells := 0, slots := 0, locals := 81 } : Room) s m #[(.ref o0)] below meth c s₁ [] 0 0 := Stand.of_body Bd
  have e0 : s₁.heap = h0 := by rw [← hh, Bd.state]; rfl
  have N0 := Fr.nil n0
  obtain ⟨T1, X1, e1, st1⟩ := own_gF X0 hx hZ hown (w_38 hw) e0 f0 (g := (mkF m 1 #[rv o0, .unset, .unset] [(.ref o0)])) rfl rfl (hb hby d4_1)
  obtain ⟨T2, X2, e2, st2⟩ := own_gF X1 hx hZ hown (w_31 hw) e1 f1 (g := (mkF m 5 #[rv o0, .unset, .unset] [(.ref o0), (.int t0)])) rfl rfl (hb hby d4_5)
  obtain ⟨T3, X3, e3, st3⟩ := own_gF X2 hx hZ hown (w_22 hw) e2 f2 (g := (mkF m 10 #[rv o0, .unset, .unset] [(.ref o0), (.int (t0 + (1 : Int32)))])) rfl rfl (hb hby d4_10)
  obtain ⟨c4, r4, q4, S4, M4, H4, G4⟩ := id f3
  obtain ⟨T5, X5, e5, st5⟩ := own_gF X3 hx hZ hown (w_18 hw) e3 f4 (g := (mkF m 62 #[rv o0, .unset, .unset] [(.ref o0)])) rfl rfl (hb hby d4_62)
  obtain ⟨T6, X6, e6, st6⟩ := own_gF X5 hx hZ hown (w_31 hw) e5 f1 (g := (mkF m 67 #[rv o0, .unset, .unset] [(.ref o0), (.int 0), (.ref o2)])) rfl rfl (hb hby d4_67)
  obtain ⟨_, T7, h7, Lc7, X7, e7, hQ7, st7⟩ := own_cS X6 hx hZ hown (w_40 hw) (w_41 hw) (w_42 hw) (w_43 hw) (by decide) (rm5_1 l Z a0 hw [] t4 t5 t6 (1 : Int32) (0 : Int32) o2 j1 h0 n0 OO f5 (by decide) (by decide) (by decide) (by decide) (by decide) u0 (by decide)) e6 (W := 0) (by decide) (by decide) (by decide : 0 + 0 ≤ _) (by decide : 0 + 0 ≤ _) (g := (mkF m 70 #[rv o0, .unset, .unset] [(.int 1), (.int 0), (.ref o2)])) rfl (by rw [hml]; rfl) (argsL := [(.ref o2), (.int 0), (.int 1)]) (rest := []) (lenOf pd_3 rfl) rfl rfl rfl (hb hby d4_70) rfl
  obtain ⟨rfl, N7q, K7, R7_0⟩ := hQ7
  have N7 := Fr.app N0 N7q
  have O7 := Old.keep OO K7 (allS u0 all0)
  have KK7 := Keep.trans (Keep.refl h0 [o2, o1, o3, o0, o4, o5, o6]) K7 (allS (Or.inl (own_m 0 rfl)) all0)
  have F8 := (Fld.keep f1 K7 (ninS v0 nin0))
  obtain ⟨T9, X9, e9, st9⟩ := own_gF X7 hx hZ hown (w_31 hw) e7 F8 (g := (mkF m 77 #[rv o0, iv 0, .unset] [(.ref o0), (.int 0)])) rfl rfl (hb hby d4_77)
  have F10 := (Fld.keep f4 K7 (ninS v0 nin0))
  obtain ⟨T11, X11, e11, st11⟩ := own_gF X9 hx hZ hown (w_18 hw) e9 F10 (g := (mkF m 84 #[rv o0, iv 0, .unset] [(.ref o0)])) rfl rfl (hb hby d4_84)
  obtain ⟨c12, r12, q12, S12, M12, H12, G12⟩ := id R7_0
  have i13 := inb_of (j := 0) S12 (by decide)
  have y14 : c12.slots[((0 : Int32)).toNatClampNeg]? = some (.int t4) := H12 0 (by rw [S12]; decide)
  have F15 := (Fld.keep f2 K7 (ninS v0 nin0))
  obtain ⟨T16, X16, e16, st16⟩ := own_gF X11 hx hZ hown (w_22 hw) e11 F15 (g := (mkF m 91 #[rv o0, iv 0, iv t4] [(.ref o0)])) rfl rfl (hb hby d4_91)
  have F17 := (Fld.keep f0 K7 (ninS v0 nin0))
  obtain ⟨T18, X18, e18, st18⟩ := own_gF X16 hx hZ hown (w_38 hw) e16 F17 (g := (mkF m 95 #[rv o0, iv 0, iv t4] [(.ref o0), (.ref o1)])) rfl rfl (hb hby d4_95)
  have F20 := (Arv.keep f3 K7 (ninS v1 nin0))
  obtain ⟨c19, r19, q19, S19, M19, H19, G19⟩ := id F20
  have i21 := own_inb (j := t0) S19 d1
  obtain ⟨T22, h22, X22, e22, W22, st22⟩ := stI X18 hx hZ e18 r19 (j := t0) i21 (g := (mkF m 99 #[rv o0, iv 0, iv t4] [(.int t4), (.int t0), (.ref o1)])) rfl rfl (hb hby d4_99)
  have O22 := Old.wr O7 W22 u1
  have KK22 := Keep.wr KK7 W22 (Or.inl (own_m 1 rfl))
  have N22 := Fr.snoc X22 N7 u1
  have F23 : AI3 Z h22 o1 j0 (own_ui t0 0 t4 t1) (own_ui t0 1 t4 t2) (own_ui t0 2 t4 t3) := own_setI r19 q19 S19 M19 H19 G19 rfl W22 d1
  have F24 := (Fld.other W22 (Fld.keep f7 K7 (ninS v0 nin0)) (Or.inl v2))
  obtain ⟨T25, X25, e25, st25⟩ := own_gF X22 hx hZ hown (w_24 hw) e22 F24 (g := (mkF m 101 #[rv o0, iv 0, iv t4] [(.ref o0)])) rfl rfl (hb hby d4_101)
  have F26 := (Fld.other W22 F17 (Or.inl v2))
  obtain ⟨T27, X27, e27, st27⟩ := own_gF X25 hx hZ hown (w_38 hw) e25 F26 (g := (mkF m 105 #[rv o0, iv 0, iv t4] [(.ref o0), (.ref o3)])) rfl rfl (hb hby d4_105)
  have F28 := (Fld.other W22 (Fld.keep f8 K7 (ninS v0 nin0)) (Or.inl v2))
  obtain ⟨T29, X29, e29, st29⟩ := own_gF X27 hx hZ hown (w_12 hw) e27 F28 (g := (mkF m 109 #[rv o0, iv 0, iv t4] [(.ref o0), (.int t0), (.ref o3)])) rfl rfl (hb hby d4_109)
  have F31 := (Arv.other (Arv.keep f9 K7 (ninS v3 nin0)) W22 v4)
  obtain ⟨c30, r30, q30, S30, M30, H30, G30⟩ := id F31
  have i32 := own_inb (j := t4) S30 d2
  have y33 := own_rdD S30 H30 d2
  have F35 := (Arv.other (Arv.keep f10 K7 (ninS v5 nin0)) W22 v6)
  obtain ⟨c34, r34, q34, S34, M34, H34, G34⟩ := id F35
  have i36 := own_inb (j := t0) S34 d1
  obtain ⟨T37, h37, X37, e37, W37, st37⟩ := stD X29 hx hZ e29 r34 (j := t0) i36 (g := (mkF m 114 #[rv o0, iv 0, iv t4] [(.double (FP.l2d (own_pk t4 t7 t8 t9))), (.int t0), (.ref o3)])) rfl rfl (hb hby d4_114)
  have O37 := Old.wr O22 W37 u2
  have KK37 := Keep.wr KK22 W37 (Or.inl (own_m 2 rfl))
  have N37 := Fr.snoc X37 N22 u2
  have F38 : AD3 Z h37 o3 j3 (own_up t0 0 (own_pk t4 t7 t8 t9) t10) (own_up t0 1 (own_pk t4 t7 t8 t9) t11) (own_up t0 2 (own_pk t4 t7 t8 t9) t12) := own_setD r34 q34 S34 M34 H34 G34 W37 d1
  have F39 := (Fld.other W37 F26 (Or.inl v7))
  obtain ⟨T40, X40, e40, st40⟩ := own_gF X37 hx hZ hown (w_38 hw) e37 F39 (g := (mkF m 117 #[rv o0, iv 0, iv t4] [(.ref o0), (.ref o0)])) rfl rfl (hb hby d4_117)
  have F41 := (Exa.wr W37 (Exa.wr W22 (Exa.keep f11 K7)))
  obtain ⟨T42, h42, X42, e42, W42, st42⟩ := putF X40 hx hZ hown (host := "") (Or.inl (w_38 hw)) Via.refl e40 F39 F41 (Or.inl (w_39 hw)) (w_1 hw) (ty := .int) (by decide) rfl rfl (g := (mkF m 122 #[rv o0, iv 0, iv t4] [(.int (t0 + (1 : Int32))), (.ref o0)])) rfl rfl (hb hby d4_122)
  have O42 := Old.wr O37 W42 u3
  have KK42 := Keep.wr KK37 W42 (Or.inl (own_m 3 rfl))
  have N42 := Fr.snoc X42 N37 u3
  have F43 : fB8 Z h42 o0 (.int (t0 + (1 : Int32))) := Fld.same W42 F39
  have F44 := (Fld.other W42 (Fld.other W37 F28 (Or.inl v7)) (Or.inr (n_13_39 hw)))
  obtain ⟨T45, X45, e45, st45⟩ := own_gF X42 hx hZ hown (w_12 hw) e42 F44 (g := (mkF m 126 #[rv o0, iv 0, iv t4] [(.ref o0)])) rfl rfl (hb hby d4_126)
  have F47 := (Arv.other (Arv.other F31 W37 v8) W42 v9)
  obtain ⟨c46, r46, q46, S46, M46, H46, G46⟩ := id F47
  have i48 := own_inb (j := t4) S46 d2
  obtain ⟨T49, h49, X49, e49, W49, st49⟩ := stD X45 hx hZ e45 r46 (j := t4) i48 (g := (mkF m 131 #[rv o0, iv 0, iv t4] [(.double (FP.l2d (0 : Int64))), (.int t4), (.ref o4)])) rfl rfl (hb hby d4_131)
  have O49 := Old.wr O42 W49 u4
  have KK49 := Keep.wr KK42 W49 (Or.inl (own_m 4 rfl))
  have N49 := Fr.snoc X49 N42 u4
  have F50 : AD3 Z h49 o4 j2 (own_up t4 0 (0 : Int64) t7) (own_up t4 1 (0 : Int64) t8) (own_up t4 2 (0 : Int64) t9) := own_setD r46 q46 S46 M46 H46 G46 W49 d2
  have F51 := (Fld.other W49 (Fld.other W42 (Fld.other W37 (Fld.other W22 (Fld.keep f12 K7 (ninS v0 nin0)) (Or.inl v2)) (Or.inl v7)) (Or.inr (n_16_39 hw))) (Or.inl (Ne.symm v9)))
  obtain ⟨T52, X52, e52, st52⟩ := own_gF X49 hx hZ hown (w_15 hw) e49 F51 (g := (mkF m 133 #[rv o0, iv 0, iv t4] [(.ref o0)])) rfl rfl (hb hby d4_133)
  have F54 := (Arv.other (Arv.other (Arv.other (Arv.other (Arv.keep f13 K7 (ninS v10 nin0)) W22 v11) W37 v12) W42 v13) W49 v14)
  obtain ⟨c53, r53, q53, S53, M53, H53, G53⟩ := id F54
  have i55 := own_inb (j := t4) S53 d2
  obtain ⟨T56, h56, X56, e56, W56, st56⟩ := stZ X52 hx hZ e52 r53 (j := t4) i55 (g := (mkF m 138 #[rv o0, iv 0, iv t4] [(.int 0), (.int t4), (.ref o5)])) rfl rfl (hb hby d4_138)
  have O56 := Old.wr O49 W56 u5
  have KK56 := Keep.wr KK49 W56 (Or.inl (own_m 5 rfl))
  have N56 := Fr.snoc X56 N49 u5
  have F57 : AZ3 Z h56 o5 j4 (own_ui t4 0 0 t13) (own_ui t4 1 0 t14) (own_ui t4 2 0 t15) := own_setI r53 q53 S53 M53 H53 G53 (by decide) W56 d2
  have F58 := (Fld.other W56 (Fld.other W49 (Fld.other W42 (Fld.other W37 (Fld.other W22 F8 (Or.inl v2)) (Or.inl v7)) (Or.inr (n_32_39 hw))) (Or.inl (Ne.symm v9))) (Or.inl (Ne.symm v13)))
  obtain ⟨T59, X59, e59, st59⟩ := own_gF X56 hx hZ hown (w_31 hw) e56 F58 (g := (mkF m 77 #[rv o0, iv 1, iv t4] [(.ref o0), (.int 1)])) rfl rfl (hb hby d4_77)
  have F60 := (Exa.wr W56 (Exa.wr W49 (Exa.wr W42 F41)))
  obtain ⟨T61, h61, X61, e61, W61, st61⟩ := putF X59 hx hZ hown (host := "") (Or.inl (w_31 hw)) Via.refl e59 F58 F60 (Or.inl (w_32 hw)) (w_1 hw) (ty := .int) (by decide) rfl rfl (g := (mkF m 147 #[rv o0, iv 1, iv t4] [(.int 0), (.ref o0)])) rfl rfl (hb hby d4_147)
  have O61 := Old.wr O56 W61 u3
  have KK61 := Keep.wr KK56 W61 (Or.inl (own_m 3 rfl))
  have N61 := Fr.snoc X61 N56 u3
  have F62 : fB7 Z h61 o0 (.int 0) := Fld.same W61 F58
  have F63 := (Fld.other W61 (Fld.other W56 (Fld.other W49 (Fld.other W42 (Fld.other W37 (Fld.other W22 (Fld.keep f6 K7 (ninS v0 nin0)) (Or.inl v2)) (Or.inl v7)) (Or.inr (n_58_39 hw))) (Or.inl (Ne.symm v9))) (Or.inl (Ne.symm v13))) (Or.inr (n_58_32 hw)))
  obtain ⟨T64, X64, e64, st64⟩ := own_gF X61 hx hZ hown (w_57 hw) e61 F63 (g := (mkF m 152 #[rv o0, iv 1, iv t4] [(.ref o0), (.ref o0)])) rfl rfl (hb hby d4_152)
  have F65 := (Exa.wr W61 F60)
  obtain ⟨T66, h66, X66, e66, W66, st66⟩ := putF X64 hx hZ hown (host := "") (Or.inl (w_57 hw)) Via.refl e64 F63 F65 (Or.inl (w_58 hw)) (w_1 hw) (ty := .int) (by decide) rfl rfl (g := (mkF m 157 #[rv o0, iv 1, iv t4] [(.int 2), (.ref o0)])) rfl rfl (hb hby d4_157)
  have O66 := Old.wr O61 W66 u3
  have KK66 := Keep.wr KK61 W66 (Or.inl (own_m 3 rfl))
  have N66 := Fr.snoc X66 N61 u3
  have F67 : fB9 Z h66 o0 (.int 2) := Fld.same W66 F63
  have F68 := (Fld.other W66 (Fld.other W61 (Fld.other W56 (Fld.other W49 (Fld.other W42 (Fld.other W37 (Fld.other W22 (Fld.keep f14 K7 (ninS v0 nin0)) (Or.inl v2)) (Or.inl v7)) (Or.inr (n_21_39 hw))) (Or.inl (Ne.symm v9))) (Or.inl (Ne.symm v13))) (Or.inr (n_21_32 hw))) (Or.inr (n_21_58 hw)))
  obtain ⟨T69, X69, e69, st69⟩ := own_gF X66 hx hZ hown (w_20 hw) e66 F68 (g := (mkF m 161 #[rv o0, iv 1, iv t4] [(.ref o0)])) rfl rfl (hb hby d4_161)
  obtain ⟨T70, X70, e70, st70⟩ := own_gF X69 hx hZ hown (w_57 hw) e69 F67 (g := (mkF m 165 #[rv o0, iv 1, iv t4] [(.ref o0), (.ref o6)])) rfl rfl (hb hby d4_165)
  have F71 := (Fld.other W66 (Fld.other W61 (Fld.other W56 (Fld.other W49 F43 (Or.inl (Ne.symm v9))) (Or.inl (Ne.symm v13))) (Or.inr (n_39_32 hw))) (Or.inr (n_39_58 hw)))
  obtain ⟨T72, X72, e72, st72⟩ := own_gF X70 hx hZ hown (w_38 hw) e70 F71 (g := (mkF m 169 #[rv o0, iv 1, iv t4] [(.ref o0), (.int 2), (.ref o6)])) rfl rfl (hb hby d4_169)
  have F74 := (Arv.other (Arv.other (Arv.other (Arv.other (Arv.other (Arv.other (Arv.other (Arv.keep f15 K7 (ninS v15 nin0)) W22 v16) W37 v17) W42 v18) W49 v19) W56 v20) W61 v18) W66 v18)
  obtain ⟨c73, r73, q73, S73, M73, H73, G73⟩ := id F74
  have i75 := inb_of (j := 2) S73 (by decide)
  obtain ⟨T76, h76, X76, e76, W76, st76⟩ := stI X72 hx hZ e72 r73 (j := (2 : Int32)) i75 (g := (mkF m 172 #[rv o0, iv 1, iv t4] [(.int (t0 + (1 : Int32))), (.int 2), (.ref o6)])) rfl rfl (hb hby d4_172)
  have O76 := Old.wr O66 W76 u6
  have KK76 := Keep.wr KK66 W76 (Or.inl (own_m 6 rfl))
  have N76 := Fr.snoc X76 N66 u6
  have F77 : AI4 Z h76 o6 j5 t16 t17 (t0 + (1 : Int32)) t19 := Arv.set r73 q73 S73 M73 H73 G73 rfl W76 2 rfl (Nat.le_of_ble_eq_true rfl)
  have F78 := (Arv.other (Arv.other (Arv.other (Arv.other (Arv.other (Arv.other (Arv.other (Arv.other R7_0 W22 (Ne.symm v1)) W37 (Ne.symm v5)) W42 (Ne.symm v0)) W49 (Ne.symm v3)) W56 (Ne.symm v10)) W61 (Ne.symm v0)) W66 (Ne.symm v0)) W76 (Ne.symm v15))
  have F79 := (Arv.other (Arv.other (Arv.other (Arv.other (Arv.other (Arv.other (Arv.other F23 W37 (Ne.symm v6)) W42 (Ne.symm v2)) W49 (Ne.symm v4)) W56 (Ne.symm v11)) W61 (Ne.symm v2)) W66 (Ne.symm v2)) W76 (Ne.symm v16))
  have F80 := (Exa.wr W76 (Exa.wr W66 (Exa.wr W61 (Exa.wr W56 (Exa.wr W49 (Exa.wr W42 (Exa.wr W37 (Exa.wr W22 (Exa.keep f16 K7)))))))))
  have F81 := (Arv.other (Arv.other (Arv.other (Arv.other (Arv.other (Arv.other F38 W42 (Ne.symm v7)) W49 (Ne.symm v8)) W56 (Ne.symm v12)) W61 (Ne.symm v7)) W66 (Ne.symm v7)) W76 (Ne.symm v17))
  have F82 := (Exa.wr W76 (Exa.wr W66 (Exa.wr W61 (Exa.wr W56 (Exa.wr W49 (Exa.wr W42 (Exa.wr W37 (Exa.wr W22 (Exa.keep f17 K7)))))))))
  have F83 := (Fld.other W76 F71 (Or.inl (Ne.symm v18)))
  have F84 := (Fld.other W76 (Fld.other W66 F62 (Or.inr (n_32_58 hw))) (Or.inl (Ne.symm v18)))
  have F85 := (Fld.other W76 (Fld.other W66 (Fld.other W61 (Fld.other W56 (Fld.other W49 (Fld.other W42 (Fld.other W37 (Fld.other W22 F15 (Or.inl v2)) (Or.inl v7)) (Or.inr (n_23_39 hw))) (Or.inl (Ne.symm v9))) (Or.inl (Ne.symm v13))) (Or.inr (n_23_32 hw))) (Or.inr (n_23_58 hw))) (Or.inl (Ne.symm v18)))
  have F86 := (Fld.other W76 (Fld.other W66 (Fld.other W61 (Fld.other W56 (Fld.other W49 (Fld.other W42 (Fld.other W37 (Fld.other W22 F10 (Or.inl v2)) (Or.inl v7)) (Or.inr (n_19_39 hw))) (Or.inl (Ne.symm v9))) (Or.inl (Ne.symm v13))) (Or.inr (n_19_32 hw))) (Or.inr (n_19_58 hw))) (Or.inl (Ne.symm v18)))
  have F87 := (Fld.other W76 F67 (Or.inl (Ne.symm v18)))
  have F88 := (Fld.other W76 (Fld.other W66 (Fld.other W61 (Fld.other W56 (Fld.other W49 (Fld.other W42 (Fld.other W37 F24 (Or.inl v7)) (Or.inr (n_25_39 hw))) (Or.inl (Ne.symm v9))) (Or.inl (Ne.symm v13))) (Or.inr (n_25_32 hw))) (Or.inr (n_25_58 hw))) (Or.inl (Ne.symm v18)))
  have F89 := (Fld.other W76 (Fld.other W66 (Fld.other W61 (Fld.other W56 (Fld.other W49 F44 (Or.inl (Ne.symm v9))) (Or.inl (Ne.symm v13))) (Or.inr (n_13_32 hw))) (Or.inr (n_13_58 hw))) (Or.inl (Ne.symm v18)))
  have F90 := (Exa.wr W76 (Exa.wr W66 F65))
  have F91 := (Fld.other W76 (Fld.other W66 (Fld.other W61 (Fld.other W56 F51 (Or.inl (Ne.symm v13))) (Or.inr (n_16_32 hw))) (Or.inr (n_16_58 hw))) (Or.inl (Ne.symm v18)))
  have F92 := (Fld.other W76 F68 (Or.inl (Ne.symm v18)))
  have F93 := (Fld.other W76 (Fld.other W66 (Fld.other W61 (Fld.other W56 (Fld.other W49 (Fld.other W42 (Fld.other W37 (Fld.other W22 (Fld.keep f18 K7 (ninS v0 nin0)) (Or.inl v2)) (Or.inl v7)) (Or.inr (n_10_39 hw))) (Or.inl (Ne.symm v9))) (Or.inl (Ne.symm v13))) (Or.inr (n_10_32 hw))) (Or.inr (n_10_58 hw))) (Or.inl (Ne.symm v18)))
  have F94 := (Arv.other (Arv.other (Arv.other (Arv.other F50 W56 (Ne.symm v14)) W61 v9) W66 v9) W76 (Ne.symm v19))
  have F95 := (Arv.other (Arv.other (Arv.other F57 W61 v13) W66 v13) W76 (Ne.symm v20))
  obtain ⟨fs, hr, hrun, hended, hW, hsame⟩ := X76.leave (v := none) (fun _ => rfl)
  refine ⟨_, _, (castTop (ef_4 m o0) ?_), hrun, hended, _, _, rfl, ?_, ⟨_, rfl⟩, hW, hsame.mono (by decide) (by decide)⟩
  · show Steps p.tables e below (s₁.setTop (mkF m 0 #[rv o0, .unset, .unset] [])) _
    refine oA X0 hx hby d4_0 rfl rfl rfl ?_
    refine st1 _ ?_
    refine oA X1 hx hby d4_4 rfl rfl rfl ?_
    refine st2 _ ?_
    refine XS.iadd X2.here hx rfl (hb hby d4_8) rfl ?_
    refine oA X2 hx hby d4_9 rfl rfl rfl ?_
    refine st3 _ ?_
    refine X3.arraylength hx (by rw [e3]; exact r4.1) (State.isArrayOf_alike hZ.alike r4.2.1) (g := (mkF m 13 #[rv o0, .unset, .unset] [(.ref o1), (.int (t0 + (1 : Int32)))])) rfl rfl (hb hby d4_13) _ ?_
    rw [len_of S4 M4]
    refine XS.icmpYes X3.here hx rfl (pc0 := 14) (pc' := 61) rfl (hb hby d4_14) rfl (flt d0).2.2.2 (by decide) (by decide) ?_
    refine oA X3 hx hby d4_61 rfl rfl rfl ?_
    refine st5 _ ?_
    refine oK X5 hx hby d4_65 rfl ?_
    refine oA X5 hx hby d4_66 rfl rfl rfl ?_
    refine st6 _ ?_
    refine st7 _ ?_
    refine oK X7 hx hby d4_73 rfl ?_
    refine XS.istoreN X7.here hx rfl (hb hby d4_74) rfl (l' := #[rv o0, iv 0, .unset]) rfl ?_
    refine oI X7 hx hby d4_75 rfl rfl ?_
    refine oA X7 hx hby d4_76 rfl rfl rfl ?_
    refine st9 _ ?_
    refine XS.icmpNo X9.here hx rfl (hb hby d4_80) rfl (by decide) ?_
    refine oA X9 hx hby d4_83 rfl rfl rfl ?_
    refine st11 _ ?_
    show Steps p.tables e below (T11.setTop (mkF m 87 #[rv o0, iv 0, .unset] [(.ref o2)])) _
    refine oI X11 hx hby d4_87 rfl rfl ?_
    refine oL X11 hx hZ e11 r12 i13 y14 (by exact hb hby d4_88) rfl rfl ?_
    refine XS.istoreN X11.here hx rfl (hb hby d4_89) rfl (l' := #[rv o0, iv 0, iv t4]) rfl ?_
    refine oA X11 hx hby d4_90 rfl rfl rfl ?_
    refine st16 _ ?_
    refine oA X16 hx hby d4_94 rfl rfl rfl ?_
    refine st18 _ ?_
    refine oI X18 hx hby d4_98 rfl rfl ?_
    refine st22 _ ?_
    refine oA X22 hx hby d4_100 rfl rfl rfl ?_
    refine st25 _ ?_
    refine oA X25 hx hby d4_104 rfl rfl rfl ?_
    refine st27 _ ?_
    refine oA X27 hx hby d4_108 rfl rfl rfl ?_
    refine st29 _ ?_
    refine oI X29 hx hby d4_112 rfl rfl ?_
    refine oD X29 hx hZ e29 r30 i32 y33 (by exact hb hby d4_113) rfl rfl ?_
    refine st37 _ ?_
    refine oA X37 hx hby d4_115 rfl rfl rfl ?_
    refine XS.dup X37.here hx rfl (hb hby d4_116) rfl rfl ?_
    refine st40 _ ?_
    refine oK X40 hx hby d4_120 rfl ?_
    refine XS.iadd X40.here hx rfl (hb hby d4_121) rfl ?_
    refine st42 _ ?_
    show Steps p.tables e below (T42.setTop (mkF m 125 #[rv o0, iv 0, iv t4] [])) _
    refine oA X42 hx hby d4_125 rfl rfl rfl ?_
    refine st45 _ ?_
    refine oI X45 hx hby d4_129 rfl rfl ?_
    refine XS.dconst0 X45.here hx rfl (hb hby d4_130) (v := FP.l2d (0 : Int64)) own_dz ?_
    refine st49 _ ?_
    refine oA X49 hx hby d4_132 rfl rfl rfl ?_
    refine st52 _ ?_
    refine oI X52 hx hby d4_136 rfl rfl ?_
    refine oK X52 hx hby d4_137 rfl ?_
    refine st56 _ ?_
    refine XS.iinc X56.here hx rfl (hb hby d4_139) rfl (l' := #[rv o0, iv ((0 : Int32) + (1 : Int32)), iv t4]) rfl ?_
    show Steps p.tables e below (T56.setTop (mkF m 142 #[rv o0, iv 1, iv t4] [])) _
    refine XS.goto X56.here hx rfl (pc0 := 142) (pc' := 75) rfl (hb hby d4_142) (by decide) (by decide) ?_
    refine oI X56 hx hby d4_75 rfl rfl ?_
    refine oA X56 hx hby d4_76 rfl rfl rfl ?_
    refine st59 _ ?_
    refine XS.icmpYes X59.here hx rfl (pc0 := 80) (pc' := 145) rfl (hb hby d4_80) rfl (by decide) (by decide) (by decide) ?_
    refine oA X59 hx hby d4_145 rfl rfl rfl ?_
    refine oK X59 hx hby d4_146 rfl ?_
    refine st61 _ ?_
    refine oA X61 hx hby d4_150 rfl rfl rfl ?_
    refine XS.dup X61.here hx rfl (hb hby d4_151) rfl rfl ?_
    refine st64 _ ?_
    refine oK X64 hx hby d4_155 rfl ?_
    refine XS.iadd X64.here hx rfl (hb hby d4_156) rfl ?_
    show Steps p.tables e below (T64.setTop (mkF m 157 #[rv o0, iv 1, iv t4] [(.int ((1 : Int32) + (1 : Int32))), (.ref o0)])) _
    rw [(by decide : ((1 : Int32) + (1 : Int32)) = (2 : Int32))]
    refine st66 _ ?_
    refine oA X66 hx hby d4_160 rfl rfl rfl ?_
    refine st69 _ ?_
    refine oA X69 hx hby d4_164 rfl rfl rfl ?_
    refine st70 _ ?_
    refine oA X70 hx hby d4_168 rfl rfl rfl ?_
    refine st72 _ ?_
    refine st76 _ ?_
    exact X76.returnOut hx Bd.returns (hb hby d4_173) hr
  · show Q4_4 Z t0 t1 t2 t3 t4 t5 t6 t7 t8 t9 t10 t11 t12 t13 t14 t15 t16 t17 t18 t19 t20 o0 o1 o2 o3 o4 o5 o6 j0 j1 j2 j3 j4 j5 h0 n0 _ T76.heap _
    rw [e76]
    exact ⟨rfl, N76, KK76, F78, F79, F80, F81, F82, F83, F84, F85, F86, F87, F88, F89, F90, F91, F92, F93, F94, F95, F77⟩
def Q4_5 (Z : State) (t0 t1 t2 t3 t4 t5 t6 t7 t8 t9 t10 t11 : Int32) (o0 o1 o2 o3 o4 o5 o6 : Addr) (j0 j1 j2 : ClassId) (h0 : Heap) (n0 : Nat) (v : Option Value) (h : Heap) (L : List Loc) : Prop := v = none ∧ Fr n0 L ∧ Keep h0 h [o2, o0, o3] ∧ AI3 Z h o2 j1 t4 t5 t6 ∧ fB8 Z h o0 (.int t0) ∧ fB7 Z h o0 (.int 0) ∧ fB5 Z h o0 (.ref o1) ∧ fB3 Z h o0 (.ref o2) ∧ Exa Z h o0 kB ∧ fB9 Z h o0 (.int 3) ∧ fB4 Z h o0 (.ref o3) ∧ fB2 Z h o0 (.ref o4) ∧ fB1 Z h o0 (.ref o5) ∧ fB0 Z h o0 (.int t11) ∧ fB6 Z h o0 (.ref o6) ∧ AI4 Z h o3 j2 t7 t8 t9 t0
theorem rm4_5 (l : Launch) (Z : State) (a0 : Array Value) (hw : HW a0 Z) (ws : List Jvm.Cond) (t0 t1 t2 t3 t4 t5 t6 t7 t8 t9 t10 t11 : Int32) (o0 o1 o2 o3 o4 o5 o6 : Addr) (j0 j1 j2 : ClassId) (h0 : Heap) (n0 : Nat) (OO : Old Z n0 h0) (f0 : fB8 Z h0 o0 (.int t0)) (f1 : fB7 Z h0 o0 (.int 0)) (f2 : fB5 Z h0 o0 (.ref o1)) (f3 : AI3 Z h0 o1 j0 t1 t2 t3) (d0 : ¬ ((3 : Int32) < (t0 + (0 : Int32)))) (f4 : fB3 Z h0 o0 (.ref o2)) (f5 : AI3 Z h0 o2 j1 t4 t5 t6) (u0 : n0 ≤ o2) (v0 : o0 ≠ o2) (f6 : Exa Z h0 o0 kB) (u1 : n0 ≤ o0) (f7 : fB9 Z h0 o0 (.int 2)) (f8 : fB4 Z h0 o0 (.ref o3)) (f9 : AI4 Z h0 o3 j2 t7 t8 t9 t10) (v1 : o3 ≠ o2) (v2 : o3 ≠ o0) (u2 : n0 ≤ o3) (f10 : fB2 Z h0 o0 (.ref o4)) (f11 : fB1 Z h0 o0 (.ref o5)) (f12 : fB0 Z h0 o0 (.int t11)) (f13 : fB6 Z h0 o0 (.ref o6)) :
    own_MF l Z h0 (⟨kB, "endRow", "()V"⟩ : MethodName) ws prog_58_method_3_code 3 none ({ frames := 4, cells := 0, slots := 0, locals := 81 } : Room) #[(.ref o0)] (Q4_5 Z t0 t1 t2 t3 t4 t5 t6 t7 t8 t9 t10 t11 o0 o1 o2 o3 o4 o5 o6 j0 j1 j2 h0 n0) := by
  refine MetFree.of_bodySF (plainFor_of_name pn_4) hisR ?_
  intro p e s m args below meth c s₁ Bd hml0 hP hK
  obtain ⟨rfl, hZ, hh⟩ := hP
  have hx := Bd.exec
  have hby := Bd.bytes
  have hml : c.maxLocals = 3 := hml0
  have hown : s.vm.findClass kB = some m.cls := findClass_of_methodNamed Bd.named
  have X0 : Stand p l e ({ frames := 4, cells := 0, slots := 0, locals := 81 } : Room) s m #[(.ref o0)] below meth c s₁ [] 0 0 := Stand.of_body Bd
  have e0 : s₁.heap = h0 := by rw [← hh, Bd.state]; rfl
  have N0 := Fr.nil n0
  obtain ⟨T1, X1, e1, st1⟩ := own_gF X0 hx hZ hown (w_38 hw) e0 f0 (g := (mkF m 1 #[rv o0, .unset, .unset] [(.ref o0)])) rfl rfl (hb hby d4_1)
  obtain ⟨T2, X2, e2, st2⟩ := own_gF X1 hx hZ hown (w_31 hw) e1 f1 (g := (mkF m 5 #[rv o0, .unset, .unset] [(.ref o0), (.int t0)])) rfl rfl (hb hby d4_5)
  obtain ⟨T3, X3, e3, st3⟩ := own_gF X2 hx hZ hown (w_22 hw) e2 f2 (g := (mkF m 10 #[rv o0, .unset, .unset] [(.ref o0), (.int (t0 + (0 : Int32)))])) rfl rfl (hb hby d4_10)
  obtain ⟨c4, r4, q4, S4, M4, H4, G4⟩ := id f3
  obtain ⟨T5, X5, e5, st5⟩ := own_gF X3 hx hZ hown (w_18 hw) e3 f4 (g := (mkF m 62 #[rv o0, .unset, .unset] [(.ref o0)])) rfl rfl (hb hby d4_62)
  obtain ⟨T6, X6, e6, st6⟩ := own_gF X5 hx hZ hown (w_31 hw) e5 f1 (g := (mkF m 67 #[rv o0, .unset, .unset] [(.ref o0), (.int 0), (.ref o2)])) rfl rfl (hb hby d4_67)
  obtain ⟨_, T7, h7, Lc7, X7, e7, hQ7, st7⟩ := own_cS X6 hx hZ hown (w_40 hw) (w_41 hw) (w_42 hw) (w_43 hw) (by decide) (rm5_1 l Z a0 hw [] t4 t5 t6 (0 : Int32) (0 : Int32) o2 j1 h0 n0 OO f5 (by decide) (by decide) (by decide) (by decide) (by decide) u0 (by decide)) e6 (W := 0) (by decide) (by decide) (by decide : 0 + 0 ≤ _) (by decide : 0 + 0 ≤ _) (g := (mkF m 70 #[rv o0, .unset, .unset] [(.int 0), (.int 0), (.ref o2)])) rfl (by rw [hml]; rfl) (argsL := [(.ref o2), (.int 0), (.int 0)]) (rest := []) (lenOf pd_3 rfl) rfl rfl rfl (hb hby d4_70) rfl
  obtain ⟨rfl, N7q, K7, R7_0⟩ := hQ7
  have N7 := Fr.app N0 N7q
  have O7 := Old.keep OO K7 (allS u0 all0)
  have KK7 := Keep.trans (Keep.refl h0 [o2, o0, o3]) K7 (allS (Or.inl (own_m 0 rfl)) all0)
  have F8 := (Fld.keep f1 K7 (ninS v0 nin0))
  obtain ⟨T9, X9, e9, st9⟩ := own_gF X7 hx hZ hown (w_31 hw) e7 F8 (g := (mkF m 77 #[rv o0, iv 0, .unset] [(.ref o0), (.int 0)])) rfl rfl (hb hby d4_77)
  have F10 := (Exa.keep f6 K7)
  obtain ⟨T11, h11, X11, e11, W11, st11⟩ := putF X9 hx hZ hown (host := "") (Or.inl (w_31 hw)) Via.refl e9 F8 F10 (Or.inl (w_32 hw)) (w_1 hw) (ty := .int) (by decide) rfl rfl (g := (mkF m 147 #[rv o0, iv 0, .unset] [(.int 0), (.ref o0)])) rfl rfl (hb hby d4_147)
  have O11 := Old.wr O7 W11 u1
  have KK11 := Keep.wr KK7 W11 (Or.inl (own_m 1 rfl))
  have N11 := Fr.snoc X11 N7 u1
  have F12 : fB7 Z h11 o0 (.int 0) := Fld.same W11 F8
  have F13 := (Fld.other W11 (Fld.keep f7 K7 (ninS v0 nin0)) (Or.inr (n_58_32 hw)))
  obtain ⟨T14, X14, e14, st14⟩ := own_gF X11 hx hZ hown (w_57 hw) e11 F13 (g := (mkF m 152 #[rv o0, iv 0, .unset] [(.ref o0), (.ref o0)])) rfl rfl (hb hby d4_152)
  have F15 := (Exa.wr W11 F10)
  obtain ⟨T16, h16, X16, e16, W16, st16⟩ := putF X14 hx hZ hown (host := "") (Or.inl (w_57 hw)) Via.refl e14 F13 F15 (Or.inl (w_58 hw)) (w_1 hw) (ty := .int) (by decide) rfl rfl (g := (mkF m 157 #[rv o0, iv 0, .unset] [(.int 3), (.ref o0)])) rfl rfl (hb hby d4_157)
  have O16 := Old.wr O11 W16 u1
  have KK16 := Keep.wr KK11 W16 (Or.inl (own_m 1 rfl))
  have N16 := Fr.snoc X16 N11 u1
  have F17 : fB9 Z h16 o0 (.int 3) := Fld.same W16 F13
  have F18 := (Fld.other W16 (Fld.other W11 (Fld.keep f8 K7 (ninS v0 nin0)) (Or.inr (n_21_32 hw))) (Or.inr (n_21_58 hw)))
  obtain ⟨T19, X19, e19, st19⟩ := own_gF X16 hx hZ hown (w_20 hw) e16 F18 (g := (mkF m 161 #[rv o0, iv 0, .unset] [(.ref o0)])) rfl rfl (hb hby d4_161)
  obtain ⟨T20, X20, e20, st20⟩ := own_gF X19 hx hZ hown (w_57 hw) e19 F17 (g := (mkF m 165 #[rv o0, iv 0, .unset] [(.ref o0), (.ref o3)])) rfl rfl (hb hby d4_165)
  have F21 := (Fld.other W16 (Fld.other W11 (Fld.keep f0 K7 (ninS v0 nin0)) (Or.inr (n_39_32 hw))) (Or.inr (n_39_58 hw)))
  obtain ⟨T22, X22, e22, st22⟩ := own_gF X20 hx hZ hown (w_38 hw) e20 F21 (g := (mkF m 169 #[rv o0, iv 0, .unset] [(.ref o0), (.int 3), (.ref o3)])) rfl rfl (hb hby d4_169)
  have F24 := (Arv.other (Arv.other (Arv.keep f9 K7 (ninS v1 nin0)) W11 v2) W16 v2)
  obtain ⟨c23, r23, q23, S23, M23, H23, G23⟩ := id F24
  have i25 := inb_of (j := 3) S23 (by decide)
  obtain ⟨T26, h26, X26, e26, W26, st26⟩ := stI X22 hx hZ e22 r23 (j := (3 : Int32)) i25 (g := (mkF m 172 #[rv o0, iv 0, .unset] [(.int t0), (.int 3), (.ref o3)])) rfl rfl (hb hby d4_172)
  have O26 := Old.wr O16 W26 u2
  have KK26 := Keep.wr KK16 W26 (Or.inl (own_m 2 rfl))
  have N26 := Fr.snoc X26 N16 u2
  have F27 : AI4 Z h26 o3 j2 t7 t8 t9 t0 := Arv.set r23 q23 S23 M23 H23 G23 rfl W26 3 rfl (Nat.le_of_ble_eq_true rfl)
  have F28 := (Arv.other (Arv.other (Arv.other R7_0 W11 (Ne.symm v0)) W16 (Ne.symm v0)) W26 (Ne.symm v1))
  have F29 := (Fld.other W26 F21 (Or.inl (Ne.symm v2)))
  have F30 := (Fld.other W26 (Fld.other W16 F12 (Or.inr (n_32_58 hw))) (Or.inl (Ne.symm v2)))
  have F31 := (Fld.other W26 (Fld.other W16 (Fld.other W11 (Fld.keep f2 K7 (ninS v0 nin0)) (Or.inr (n_23_32 hw))) (Or.inr (n_23_58 hw))) (Or.inl (Ne.symm v2)))
  have F32 := (Fld.other W26 (Fld.other W16 (Fld.other W11 (Fld.keep f4 K7 (ninS v0 nin0)) (Or.inr (n_19_32 hw))) (Or.inr (n_19_58 hw))) (Or.inl (Ne.symm v2)))
  have F33 := (Exa.wr W26 (Exa.wr W16 F15))
  have F34 := (Fld.other W26 F17 (Or.inl (Ne.symm v2)))
  have F35 := (Fld.other W26 F18 (Or.inl (Ne.symm v2)))
  have F36 := (Fld.other W26 (Fld.other W16 (Fld.other W11 (Fld.keep f10 K7 (ninS v0 nin0)) (Or.inr (n_16_32 hw))) (Or.inr (n_16_58 hw))) (Or.inl (Ne.symm v2)))
  have F37 := (Fld.other W26 (Fld.other W16 (Fld.other W11 (Fld.keep f11 K7 (ninS v0 nin0)) (Or.inr (n_13_32 hw))) (Or.inr (n_13_58 hw))) (Or.inl (Ne.symm v2)))
  have F38 := (Fld.other W26 (Fld.other W16 (Fld.other W11 (Fld.keep f12 K7 (ninS v0 nin0)) (Or.inr (n_10_32 hw))) (Or.inr (n_10_58 hw))) (Or.inl (Ne.symm v2)))
  have F39 := (Fld.other W26 (Fld.other W16 (Fld.other W11 (Fld.keep f13 K7 (ninS v0 nin0)) (Or.inr (n_25_32 hw))) (Or.inr (n_25_58 hw))) (Or.inl (Ne.symm v2)))
  obtain ⟨fs, hr, hrun, hended, hW, hsame⟩ := X26.leave (v := none) (fun _ => rfl)
  refine ⟨_, _, (castTop (ef_4 m o0) ?_), hrun, hended, _, _, rfl, ?_, ⟨_, rfl⟩, hW, hsame.mono (by decide) (by decide)⟩
  · show Steps p.tables e below (s₁.setTop (mkF m 0 #[rv o0, .unset, .unset] [])) _
    refine oA X0 hx hby d4_0 rfl rfl rfl ?_
    refine st1 _ ?_
    refine oA X1 hx hby d4_4 rfl rfl rfl ?_
    refine st2 _ ?_
    refine XS.iadd X2.here hx rfl (hb hby d4_8) rfl ?_
    refine oA X2 hx hby d4_9 rfl rfl rfl ?_
    refine st3 _ ?_
    refine X3.arraylength hx (by rw [e3]; exact r4.1) (State.isArrayOf_alike hZ.alike r4.2.1) (g := (mkF m 13 #[rv o0, .unset, .unset] [(.ref o1), (.int (t0 + (0 : Int32)))])) rfl rfl (hb hby d4_13) _ ?_
    rw [len_of S4 M4]
    refine XS.icmpYes X3.here hx rfl (pc0 := 14) (pc' := 61) rfl (hb hby d4_14) rfl (flt d0).2.2.2 (by decide) (by decide) ?_
    refine oA X3 hx hby d4_61 rfl rfl rfl ?_
    refine st5 _ ?_
    refine oK X5 hx hby d4_65 rfl ?_
    refine oA X5 hx hby d4_66 rfl rfl rfl ?_
    refine st6 _ ?_
    refine st7 _ ?_
    refine oK X7 hx hby d4_73 rfl ?_
    refine XS.istoreN X7.here hx rfl (hb hby d4_74) rfl (l' := #[rv o0, iv 0, .unset]) rfl ?_
    refine oI X7 hx hby d4_75 rfl rfl ?_
    refine oA X7 hx hby d4_76 rfl rfl rfl ?_
    refine st9 _ ?_
    refine XS.icmpYes X9.here hx rfl (pc0 := 80) (pc' := 145) rfl (hb hby d4_80) rfl (by decide) (by decide) (by decide) ?_
    refine oA X9 hx hby d4_145 rfl rfl rfl ?_
    refine oK X9 hx hby d4_146 rfl ?_
    show Steps p.tables e below (T9.setTop (mkF m 147 #[rv o0, iv 0, .unset] [(.int 0), (.ref o0)])) _
    refine st11 _ ?_
    refine oA X11 hx hby d4_150 rfl rfl rfl ?_
    refine XS.dup X11.here hx rfl (hb hby d4_151) rfl rfl ?_
    refine st14 _ ?_
    refine oK X14 hx hby d4_155 rfl ?_
    refine XS.iadd X14.here hx rfl (hb hby d4_156) rfl ?_
    show Steps p.tables e below (T14.setTop (mkF m 157 #[rv o0, iv 0, .unset] [(.int ((2 : Int32) + (1 : Int32))), (.ref o0)])) _
    rw [(by decide : ((2 : Int32) + (1 : Int32)) = (3 : Int32))]
    refine st16 _ ?_
    refine oA X16 hx hby d4_160 rfl rfl rfl ?_
    refine st19 _ ?_
    refine oA X19 hx hby d4_164 rfl rfl rfl ?_
    refine st20 _ ?_
    refine oA X20 hx hby d4_168 rfl rfl rfl ?_
    refine st22 _ ?_
    refine st26 _ ?_
    exact X26.returnOut hx Bd.returns (hb hby d4_173) hr
  · show Q4_5 Z t0 t1 t2 t3 t4 t5 t6 t7 t8 t9 t10 t11 o0 o1 o2 o3 o4 o5 o6 j0 j1 j2 h0 n0 _ T26.heap _
    rw [e26]
    exact ⟨rfl, N26, KK26, F28, F29, F30, F31, F32, F33, F34, F35, F36, F37, F38, F39, F27⟩
def Q11_2 (Z : State) (t0 t1 t2 : Int32) (o0 : Addr) (j0 : ClassId) (h0 : Heap) (n0 : Nat) (v : Option Value) (h : Heap) (L : List Loc) : Prop := ∃ (o1 : Addr), v = some (.ref o1) ∧ Fr n0 L ∧ Keep h0 h [] ∧ h0.size ≤ o1 ∧ Exa Z h o1 "[I" ∧ AI3 Z h o1 j0 t0 t1 t2
theorem rm11_2 (l : Launch) (Z : State) (a0 : Array Value) (hw : HW a0 Z) (ws : List Jvm.Cond) (t0 t1 t2 : Int32) (o0 : Addr) (j0 : ClassId) (h0 : Heap) (n0 : Nat) (OO : Old Z n0 h0) (f0 : AI3 Z h0 o0 j0 t0 t1 t2) (f1 : Exa Z h0 o0 "[I") :
    own_MF l Z h0 (⟨"java/util/Arrays", "copyOf", "([II)[I"⟩ : MethodName) ws jdk_65_method_123_code 3 (some (.array .int)) ({ frames := 1, cells := 1, slots := 3, locals := 14 } : Room) #[(.ref o0), (.int 3)] (Q11_2 Z t0 t1 t2 o0 j0 h0 n0) := by
  refine MetFree.of_bodySF (plainFor_of_name pn_11) hisR ?_
  intro p e s m args below meth c s₁ Bd hml0 hP hK
  obtain ⟨rfl, hZ, hh⟩ := hP
  have hx := Bd.exec
  have hby := Bd.bytes
  have hml : c.maxLocals = 3 := hml0
  have hown : s.vm.findClass "java/util/Arrays" = some m.cls := findClass_of_methodNamed Bd.named
  have X0 : Stand p l e ({ frames := 1, cells := 1, slots := 3, locals := 14 } : Room) s m #[(.ref o0), (.int 3)] below meth c s₁ [] 0 0 := Stand.of_body Bd
  have e0 : s₁.heap = h0 := by rw [← hh, Bd.state]; rfl
  have N0 := Fr.nil n0
  obtain ⟨c1, r1, q1, S1, M1, H1, G1⟩ := id f0
  obtain ⟨T2, h2, X2, e2, E2, A2, B2, st2⟩ := cloneH X0 hx hZ hown (w_115 hw) (w_116 hw) (w_120 hw) (w_118 hw) (w_119 hw) (w_121 hw) e0 (Arv.arh f0) f1 (g := (mkF m 7 #[rv o0, iv 3, .unset] [(.ref o0)])) rfl (by rw [hml]; rfl) (rest := []) rfl (hb hby d11_7) (by decide) (W := 0) (by show 2 * 0 + _ ≤ _; exact Nat.le_of_eq rfl) (by decide) (cap := 3) (by decide) (by decide) (by decide)
  obtain ⟨o1, g2⟩ : ∃ z, z = h0.size := ⟨_, rfl⟩
  rw [← g2] at A2 B2 st2
  have g3 : n0 ≤ o1 := Nat.le_trans (own_le OO) (Nat.le_of_eq g2.symm)
  have s4 : h0.size ≤ o1 := Nat.le_trans ((Keep.refl h0 [])).1 (Nat.le_of_eq g2.symm)
  have O2 := Old.ext OO E2
  have KK2 := Keep.ext (Keep.refl h0 []) E2
  have F5 : AI3 Z h2 o1 j0 t0 t1 t2 := A2
  obtain ⟨T6, X6, e6, st6⟩ := castY X2 hx hZ hown (w_122 hw) e2 (Ins.self B2) (g := (mkF m 10 #[rv o0, iv 3, .unset] [(.ref o1)])) rfl rfl (hb hby d11_10)
  obtain ⟨fs, hr, hrun, hended, hW, hsame⟩ := X6.leave (v := some (.ref o1)) (fun h => by rw [Bd.returns] at h; cases h)
  refine ⟨_, _, (castTop (ef_11 m o0 3) ?_), hrun, hended, _, _, rfl, ?_, ⟨_, rfl⟩, hW, hsame.mono (by decide) (by decide)⟩
  · show Steps p.tables e below (s₁.setTop (mkF m 0 #[rv o0, iv 3, .unset] [])) _
    refine oI X0 hx hby d11_0 rfl rfl ?_
    refine oA X0 hx hby d11_1 rfl rfl rfl ?_
    refine X0.arraylength hx (by rw [e0]; exact r1.1) (State.isArrayOf_alike hZ.alike r1.2.1) (g := (mkF m 2 #[rv o0, iv 3, .unset] [(.ref o0), (.int 3)])) rfl rfl (hb hby d11_2) _ ?_
    rw [len_of S1 M1]
    refine XS.icmpNo X0.here hx rfl (hb hby d11_3) rfl (by decide) ?_
    refine oA X0 hx hby d11_6 rfl rfl rfl ?_
    refine st2 _ ?_
    refine st6 _ ?_
    exact retOut X6 hx Bd.returns rfl (Or.inr (Or.inr (Or.inr (Or.inr ⟨rfl, rfl, rfl⟩)))) (hb hby d11_13) hr
  · show Q11_2 Z t0 t1 t2 o0 j0 h0 n0 _ T6.heap _
    rw [e6]
    exact ⟨o1, rfl, N0, KK2, s4, B2, F5⟩
def Q13_2 (Z : State) (t0 t1 t2 : Int64) (o0 : Addr) (j0 : ClassId) (h0 : Heap) (n0 : Nat) (v : Option Value) (h : Heap) (L : List Loc) : Prop := ∃ (o1 : Addr), v = some (.ref o1) ∧ Fr n0 L ∧ Keep h0 h [] ∧ h0.size ≤ o1 ∧ Exa Z h o1 "[D" ∧ AD3 Z h o1 j0 t0 t1 t2
theorem rm13_2 (l : Launch) (Z : State) (a0 : Array Value) (hw : HW a0 Z) (ws : List Jvm.Cond) (t0 t1 t2 : Int64) (o0 : Addr) (j0 : ClassId) (h0 : Heap) (n0 : Nat) (OO : Old Z n0 h0) (f0 : AD3 Z h0 o0 j0 t0 t1 t2) (f1 : Exa Z h0 o0 "[D") :
    own_MF l Z h0 (⟨"java/util/Arrays", "copyOf", "([DI)[D"⟩ : MethodName) ws jdk_65_method_127_code 3 (some (.array .double)) ({ frames := 1, cells := 1, slots := 3, locals := 14 } : Room) #[(.ref o0), (.int 3)] (Q13_2 Z t0 t1 t2 o0 j0 h0 n0) := by
  refine MetFree.of_bodySF (plainFor_of_name pn_13) hisR ?_
  intro p e s m args below meth c s₁ Bd hml0 hP hK
  obtain ⟨rfl, hZ, hh⟩ := hP
  have hx := Bd.exec
  have hby := Bd.bytes
  have hml : c.maxLocals = 3 := hml0
  have hown : s.vm.findClass "java/util/Arrays" = some m.cls := findClass_of_methodNamed Bd.named
  have X0 : Stand p l e ({ frames := 1, cells := 1, slots := 3, locals := 14 } : Room) s m #[(.ref o0), (.int 3)] below meth c s₁ [] 0 0 := Stand.of_body Bd
  have e0 : s₁.heap = h0 := by rw [← hh, Bd.state]; rfl
  have N0 := Fr.nil n0
  obtain ⟨c1, r1, q1, S1, M1, H1, G1⟩ := id f0
  obtain ⟨T2, h2, X2, e2, E2, A2, B2, st2⟩ := cloneH X0 hx hZ hown (w_124 hw) (w_125 hw) (w_120 hw) (w_118 hw) (w_126 hw) (w_127 hw) e0 (Arv.arh f0) f1 (g := (mkF m 7 #[rv o0, iv 3, .unset] [(.ref o0)])) rfl (by rw [hml]; rfl) (rest := []) rfl (hb hby d13_7) (by decide) (W := 0) (by show 2 * 0 + _ ≤ _; exact Nat.le_of_eq rfl) (by decide) (cap := 3) (by decide) (by decide) (by decide)
  obtain ⟨o1, g2⟩ : ∃ z, z = h0.size := ⟨_, rfl⟩
  rw [← g2] at A2 B2 st2
  have g3 : n0 ≤ o1 := Nat.le_trans (own_le OO) (Nat.le_of_eq g2.symm)
  have s4 : h0.size ≤ o1 := Nat.le_trans ((Keep.refl h0 [])).1 (Nat.le_of_eq g2.symm)
  have O2 := Old.ext OO E2
  have KK2 := Keep.ext (Keep.refl h0 []) E2
  have F5 : AD3 Z h2 o1 j0 t0 t1 t2 := A2
  obtain ⟨T6, X6, e6, st6⟩ := castY X2 hx hZ hown (w_128 hw) e2 (Ins.self B2) (g := (mkF m 10 #[rv o0, iv 3, .unset] [(.ref o1)])) rfl rfl (hb hby d13_10)
  obtain ⟨fs, hr, hrun, hended, hW, hsame⟩ := X6.leave (v := some (.ref o1)) (fun h => by rw [Bd.returns] at h; cases h)
  refine ⟨_, _, (castTop (ef_13 m o0 3) ?_), hrun, hended, _, _, rfl, ?_, ⟨_, rfl⟩, hW, hsame.mono (by decide) (by decide)⟩
  · show Steps p.tables e below (s₁.setTop (mkF m 0 #[rv o0, iv 3, .unset] [])) _
    refine oI X0 hx hby d13_0 rfl rfl ?_
    refine oA X0 hx hby d13_1 rfl rfl rfl ?_
    refine X0.arraylength hx (by rw [e0]; exact r1.1) (State.isArrayOf_alike hZ.alike r1.2.1) (g := (mkF m 2 #[rv o0, iv 3, .unset] [(.ref o0), (.int 3)])) rfl rfl (hb hby d13_2) _ ?_
    rw [len_of S1 M1]
    refine XS.icmpNo X0.here hx rfl (hb hby d13_3) rfl (by decide) ?_
    refine oA X0 hx hby d13_6 rfl rfl rfl ?_
    refine st2 _ ?_
    refine st6 _ ?_
    exact retOut X6 hx Bd.returns rfl (Or.inr (Or.inr (Or.inr (Or.inr ⟨rfl, rfl, rfl⟩)))) (hb hby d13_13) hr
  · show Q13_2 Z t0 t1 t2 o0 j0 h0 n0 _ T6.heap _
    rw [e6]
    exact ⟨o1, rfl, N0, KK2, s4, B2, F5⟩
def Q10_1 (Z : State) (t0 t1 t2 : Int32) (t3 t4 t5 : Int64) (o0 o1 o2 o3 : Addr) (j0 j1 : ClassId) (h0 : Heap) (n0 : Nat) (v : Option Value) (h : Heap) (L : List Loc) : Prop := ∃ (o4 o5 o6 : Addr), v = some (.ref o4) ∧ Fr n0 L ∧ Keep h0 h [] ∧ h0.size ≤ o4 ∧ h0.size ≤ o5 ∧ h0.size ≤ o6 ∧ o4 ≠ o5 ∧ o4 ≠ o6 ∧ o5 ≠ o6 ∧ Exa Z h o4 kM ∧ fM10 Z h o4 (.ref o1) ∧ fM11 Z h o4 (.ref o5) ∧ fM12 Z h o4 (.ref o6) ∧ Exa Z h o5 "[I" ∧ AI3 Z h o5 j0 t0 t1 t2 ∧ Exa Z h o6 "[D" ∧ AD3 Z h o6 j1 t3 t4 t5
theorem rm10_1 (l : Launch) (Z : State) (a0 : Array Value) (hw : HW a0 Z) (ws : List Jvm.Cond) (t0 t1 t2 : Int32) (t3 t4 t5 : Int64) (o0 o1 o2 o3 : Addr) (j0 j1 : ClassId) (h0 : Heap) (n0 : Nat) (OO : Old Z n0 h0) (f0 : fB9 Z h0 o0 (.int 3)) (f1 : fB0 Z h0 o0 (.int 3)) (f2 : fB4 Z h0 o0 (.ref o1)) (f3 : fB5 Z h0 o0 (.ref o2)) (f4 : fB8 Z h0 o0 (.int 3)) (f5 : AI3 Z h0 o2 j0 t0 t1 t2) (f6 : Exa Z h0 o2 "[I") (f7 : fB6 Z h0 o0 (.ref o3)) (f8 : AD3 Z h0 o3 j1 t3 t4 t5) (f9 : Exa Z h0 o3 "[D") :
    own_MF l Z h0 (⟨kB, "build", "()Lcom/example/rekurze/rekurze/numeric/SparseMatrix;"⟩ : MethodName) ws prog_58_method_4_code 1 (some (.object kM)) ({ frames := 2, cells := 3, slots := 9, locals := 32 } : Room) #[(.ref o0)] (Q10_1 Z t0 t1 t2 t3 t4 t5 o0 o1 o2 o3 j0 j1 h0 n0) := by
  refine MetFree.of_bodySF (plainFor_of_name pn_10) hisR ?_
  intro p e s m args below meth c s₁ Bd hml0 hP hK
  obtain ⟨rfl, hZ, hh⟩ := hP
  have hx := Bd.exec
  have hby := Bd.bytes
  have hml : c.maxLocals = 1 := hml0
  have hown : s.vm.findClass kB = some m.cls := findClass_of_methodNamed Bd.named
  have X0 : Stand p l e ({ frames := 2, cells := 3, slots := 9, locals := 32 } : Room) s m #[(.ref o0)] below meth c s₁ [] 0 0 := Stand.of_body Bd
  have e0 : s₁.heap = h0 := by rw [← hh, Bd.state]; rfl
  have N0 := Fr.nil n0
  obtain ⟨T1, X1, e1, st1⟩ := own_gF X0 hx hZ hown (w_57 hw) e0 f0 (g := (mkF m 1 #[rv o0] [(.ref o0)])) rfl rfl (hb hby d10_1)
  obtain ⟨T2, X2, e2, st2⟩ := own_gF X1 hx hZ hown (w_9 hw) e1 f1 (g := (mkF m 5 #[rv o0] [(.ref o0), (.int 3)])) rfl rfl (hb hby d10_5)
  obtain ⟨T3, h3, X3, e3, E3, A3, D3, -, st3⟩ := newO X2 hx hZ hown (w_64 hw) (w_65 hw) (w_66 hw) e2 (g := (mkF m 32 #[rv o0] [])) rfl (hb hby d10_32) (by decide) (by decide)
  obtain ⟨o4, g3⟩ : ∃ z, z = h0.size := ⟨_, rfl⟩
  rw [← g3] at A3 D3 st3
  have g4 : n0 ≤ o4 := Nat.le_trans (own_le OO) (Nat.le_of_eq g3.symm)
  have s5 : h0.size ≤ o4 := Nat.le_trans ((Keep.refl h0 [])).1 (Nat.le_of_eq g3.symm)
  have O3 := Old.ext OO E3
  have KK3 := Keep.ext (Keep.refl h0 []) E3
  have F6 : fM10 Z h3 o4 .null := D3 (Or.inr (w_86 hw)) (ty := (.array .int)) (by decide)
  have F7 : fM11 Z h3 o4 .null := D3 (Or.inr (w_88 hw)) (ty := (.array .int)) (by decide)
  have F8 : fM12 Z h3 o4 .null := D3 (Or.inr (w_90 hw)) (ty := (.array .double)) (by decide)
  have F9 := (Fld.ext E3 f2)
  obtain ⟨T10, X10, e10, st10⟩ := own_gF X3 hx hZ hown (w_20 hw) e3 F9 (g := (mkF m 37 #[rv o0] [(.ref o0), (.ref o4), (.ref o4)])) rfl rfl (hb hby d10_37)
  have F11 := (Fld.ext E3 f3)
  obtain ⟨T12, X12, e12, st12⟩ := own_gF X10 hx hZ hown (w_22 hw) e10 F11 (g := (mkF m 41 #[rv o0] [(.ref o0), (.ref o1), (.ref o4), (.ref o4)])) rfl rfl (hb hby d10_41)
  have F13 := (Fld.ext E3 f4)
  obtain ⟨T14, X14, e14, st14⟩ := own_gF X12 hx hZ hown (w_38 hw) e12 F13 (g := (mkF m 45 #[rv o0] [(.ref o0), (.ref o2), (.ref o1), (.ref o4), (.ref o4)])) rfl rfl (hb hby d10_45)
  have F16 := (Arv.ext f5 E3)
  have F17 := (Exa.ext E3 f6)
  obtain ⟨_, T15, h15, Lc15, X15, e15, hQ15, st15⟩ := own_cS X14 hx hZ hown (w_67 hw) (w_68 hw) (w_42 hw) (w_69 hw) (by decide) (rm11_2 l Z a0 hw [] t0 t1 t2 o2 j0 h3 n0 O3 F16 F17) e14 (W := 3) (by decide) (by decide) (by decide : 1 + 1 ≤ _) (by decide : 3 + 3 ≤ _) (g := (mkF m 48 #[rv o0] [(.int 3), (.ref o2), (.ref o1), (.ref o4), (.ref o4)])) rfl (by rw [hml]; rfl) (argsL := [(.ref o2), (.int 3)]) (rest := [(.ref o1), (.ref o4), (.ref o4)]) (lenOf pd_8 rfl) rfl rfl rfl (hb hby d10_48) rfl
  obtain ⟨o5, rfl, N15q, K15, sp15_o5, R15_0, R15_1⟩ := hQ15
  have N15 := Fr.app N0 N15q
  have g18 : n0 ≤ o5 := Nat.le_trans (own_le O3) sp15_o5
  have s19 : h0.size ≤ o5 := Nat.le_trans (KK3).1 sp15_o5
  have O15 := Old.keep O3 K15 all0
  have KK15 := Keep.trans KK3 K15 all0
  have F20 := (Fld.keep (Fld.ext E3 f7) K15 nin0)
  obtain ⟨T21, X21, e21, st21⟩ := own_gF X15 hx hZ hown (w_24 hw) e15 F20 (g := (mkF m 52 #[rv o0] [(.ref o0), (.ref o5), (.ref o1), (.ref o4), (.ref o4)])) rfl rfl (hb hby d10_52)
  have F22 := (Fld.keep F13 K15 nin0)
  obtain ⟨T23, X23, e23, st23⟩ := own_gF X21 hx hZ hown (w_38 hw) e21 F22 (g := (mkF m 56 #[rv o0] [(.ref o0), (.ref o3), (.ref o5), (.ref o1), (.ref o4), (.ref o4)])) rfl rfl (hb hby d10_56)
  have F25 := (Arv.keep (Arv.ext f8 E3) K15 nin0)
  have F26 := (Exa.keep (Exa.ext E3 f9) K15)
  obtain ⟨_, T24, h24, Lc24, X24, e24, hQ24, st24⟩ := own_cS X23 hx hZ hown (w_78 hw) (w_79 hw) (w_42 hw) (w_80 hw) (by decide) (rm13_2 l Z a0 hw [] t3 t4 t5 o3 j1 h15 n0 O15 F25 F26) e23 (W := 4) (by decide) (by decide) (by decide : 2 + 1 ≤ _) (by decide : 6 + 3 ≤ _) (g := (mkF m 59 #[rv o0] [(.int 3), (.ref o3), (.ref o5), (.ref o1), (.ref o4), (.ref o4)])) rfl (by rw [hml]; rfl) (argsL := [(.ref o3), (.int 3)]) (rest := [(.ref o5), (.ref o1), (.ref o4), (.ref o4)]) (lenOf pd_9 rfl) rfl rfl rfl (hb hby d10_59) rfl
  obtain ⟨o6, rfl, N24q, K24, sp24_o6, R24_0, R24_1⟩ := hQ24
  have N24 := Fr.app N15 N24q
  have g27 : n0 ≤ o6 := Nat.le_trans (own_le O15) sp24_o6
  have s28 : h0.size ≤ o6 := Nat.le_trans (KK15).1 sp24_o6
  have O24 := Old.keep O15 K24 all0
  have KK24 := Keep.trans KK15 K24 all0
  have F30 := (Fld.keep (Fld.keep F6 K15 nin0) K24 nin0)
  have F31 := (Exa.keep (Exa.keep A3 K15) K24)
  have F32 := (Fld.keep (Fld.keep F7 K15 nin0) K24 nin0)
  have F33 := (Fld.keep (Fld.keep F8 K15 nin0) K24 nin0)
  obtain ⟨_, _, ⟨T29, L29, k29, n29⟩, -, X29, ⟨Lc29, hQ29, l29, y29, z29⟩, st29⟩ := specialBackNest X24 hx (y := (⟨kM, "<init>", "([I[I[D)V"⟩ : MethodName)) rfl hown (own_mvMN hZ (w_81 hw)) (mvT hZ (w_82 hw)) (mvT hZ (w_83 hw)) (by decide) (backOf (W := 1) (rm14_0 l Z a0 hw [] o4 o1 o5 o6 h24 n0 O24 F30 F31 g4 F32 F33) hZ (w_83 hw) (w_66 hw) (by decide) (by decide)) (g := (mkF m 62 #[rv o0] [(.ref o6), (.ref o5), (.ref o1), (.ref o4), (.ref o4)])) rfl (by rw [hml]; rfl) (Steps.refl _) (a := o4) (argsL := [(.ref o1), (.ref o5), (.ref o6)]) (rest := [(.ref o4)]) (lenOf pd_10 rfl) rfl (by show 2 * 0 + _ ≤ _; exact Nat.le_of_eq rfl) (hb hby d10_62) (fun _ _ => ⟨rfl, e24, (by decide : 3 + 0 ≤ _), (by decide : 9 + 0 ≤ _)⟩)
  dsimp only [Pt.U, Pt.locs, Pt.cells, Pt.slots] at X29 l29 y29 z29 st29 hQ29
  subst l29 y29 z29
  obtain ⟨h29, e29⟩ : ∃ z, T29.heap = z := ⟨_, rfl⟩
  rw [e29] at hQ29
  obtain ⟨rfl, N29q, K29, R29_0, R29_1, R29_2, R29_3⟩ := hQ29
  have N29 := Fr.app N24 N29q
  have O29 := Old.keep O24 K29 (allS g4 all0)
  have KK29 := Keep.trans KK24 K29 (allS (Or.inr s5) all0)
  have F34 := (Exa.keep (Exa.keep R15_0 K24) K29)
  have ne36 : o4 ≠ o5 := Nat.ne_of_lt (Nat.lt_of_lt_of_le (A3).lt sp15_o5)
  have F35 := (Arv.keep (Arv.keep R15_1 K24 nin0) K29 (ninS (Ne.symm ne36) nin0))
  have F37 := (Exa.keep R24_0 K29)
  have ne39 : o4 ≠ o6 := Nat.ne_of_lt (Nat.lt_of_lt_of_le ((Exa.keep A3 K15)).lt sp24_o6)
  have F38 := (Arv.keep R24_1 K29 (ninS (Ne.symm ne39) nin0))
  have ne40 : o5 ≠ o6 := Nat.ne_of_lt (Nat.lt_of_lt_of_le (R15_0).lt sp24_o6)
  obtain ⟨fs, hr, hrun, hended, hW, hsame⟩ := X29.leave (v := some (.ref o4)) (fun h => by rw [Bd.returns] at h; cases h)
  refine ⟨_, _, (castTop (ef_10 m o0) ?_), hrun, hended, _, _, rfl, ?_, ⟨_, rfl⟩, hW, hsame.mono (by decide) (by decide)⟩
  · show Steps p.tables e below (s₁.setTop (mkF m 0 #[rv o0] [])) _
    refine oA X0 hx hby d10_0 rfl rfl rfl ?_
    refine st1 _ ?_
    refine oA X1 hx hby d10_4 rfl rfl rfl ?_
    refine st2 _ ?_
    refine XS.icmpYes X2.here hx rfl (pc0 := 8) (pc' := 32) rfl (hb hby d10_8) rfl (by decide) (by decide) (by decide) ?_
    refine st3 _ ?_
    refine XS.dup X3.here hx rfl (hb hby d10_35) rfl rfl ?_
    refine oA X3 hx hby d10_36 rfl rfl rfl ?_
    refine st10 _ ?_
    refine oA X10 hx hby d10_40 rfl rfl rfl ?_
    refine st12 _ ?_
    refine oA X12 hx hby d10_44 rfl rfl rfl ?_
    refine st14 _ ?_
    refine st15 _ ?_
    refine oA X15 hx hby d10_51 rfl rfl rfl ?_
    refine st21 _ ?_
    refine oA X21 hx hby d10_55 rfl rfl rfl ?_
    refine st23 _ ?_
    refine st24 _ ?_
    refine st29.trans ?_
    exact retOut X29 hx Bd.returns rfl (Or.inr (Or.inr (Or.inr (Or.inr ⟨rfl, rfl, rfl⟩)))) (hb hby d10_65) hr
  · show Q10_1 Z t0 t1 t2 t3 t4 t5 o0 o1 o2 o3 j0 j1 h0 n0 _ T29.heap _
    rw [e29]
    exact ⟨o4, o5, o6, rfl, N29, KK29, s5, s19, s28, ne36, ne39, ne40, R29_1, R29_0, R29_2, R29_3, F34, F35, F37, F38⟩
def Q15_1 (Z : State) (t0 t1 t2 : Int32) (t3 t4 t5 : Int64) (o0 o1 o2 o3 : Addr) (j0 j1 j2 : ClassId) (h0 : Heap) (n0 : Nat) (v : Option Value) (h : Heap) (L : List Loc) : Prop := ∃ (o4 o5 o6 o7 : Addr) (j3 j4 : ClassId), v = some (.ref o4) ∧ Fr n0 L ∧ Keep h0 h [] ∧ h0.size ≤ o4 ∧ h0.size ≤ o5 ∧ h0.size ≤ o6 ∧ h0.size ≤ o7 ∧ o4 ≠ o5 ∧ o4 ≠ o6 ∧ o4 ≠ o7 ∧ o5 ≠ o6 ∧ o5 ≠ o7 ∧ o6 ≠ o7 ∧ Arv Z h o4 j3 (.array .double) (3 : Int32) [(.ref o5), (.ref o6), (.ref o7)] .null ∧ AD3 Z h o5 j4 (own_up t1 0 t4 (own_up t0 0 t3 (0 : Int64))) (own_up t1 1 t4 (own_up t0 1 t3 (0 : Int64))) (own_up t1 2 t4 (own_up t0 2 t3 (0 : Int64))) ∧ AD3 Z h o6 j4 (own_up t2 0 t5 (0 : Int64)) (own_up t2 1 t5 (0 : Int64)) (own_up t2 2 t5 (0 : Int64)) ∧ AD3 Z h o7 j4 0 0 0
theorem rm15_1 (l : Launch) (Z : State) (a0 : Array Value) (hw : HW a0 Z) (ws : List Jvm.Cond) (t0 t1 t2 : Int32) (t3 t4 t5 : Int64) (o0 o1 o2 o3 : Addr) (j0 j1 j2 : ClassId) (h0 : Heap) (n0 : Nat) (OO : Old Z n0 h0) (f0 : fM10 Z h0 o0 (.ref o1)) (f1 : AI4 Z h0 o1 j0 0 2 3 3) (f2 : Exa Z h0 o0 kM) (f3 : fM11 Z h0 o0 (.ref o2)) (f4 : AI3 Z h0 o2 j1 t0 t1 t2) (f5 : fM12 Z h0 o0 (.ref o3)) (f6 : AD3 Z h0 o3 j2 t3 t4 t5) (d0 : own_in3 t0) (d1 : own_in3 t1) (d2 : own_in3 t2) :
    own_MF l Z h0 (⟨kM, "dense", "()[[D"⟩ : MethodName) ws prog_57_method_6_code 5 (some (.array (.array .double))) ({ frames := 1, cells := 4, slots := 12, locals := 12 } : Room) #[(.ref o0)] (Q15_1 Z t0 t1 t2 t3 t4 t5 o0 o1 o2 o3 j0 j1 j2 h0 n0) := by
  refine MetFree.of_bodySF (plainFor_of_name pn_15) hisR ?_
  intro p e s m args below meth c s₁ Bd hml0 hP hK
  obtain ⟨rfl, hZ, hh⟩ := hP
  have hx := Bd.exec
  have hby := Bd.bytes
  have hml : c.maxLocals = 5 := hml0
  have hown : s.vm.findClass kM = some m.cls := findClass_of_methodNamed Bd.named
  have X0 : Stand p l e ({ frames := 1, cells := 4, slots := 12, locals := 12 } : Room) s m #[(.ref o0)] below meth c s₁ [] 0 0 := Stand.of_body Bd
  have e0 : s₁.heap = h0 := by rw [← hh, Bd.state]; rfl
  have N0 := Fr.nil n0
  obtain ⟨cq1, kq1, q1a, q1b, q1c⟩ := isOf hZ e0 f2
  obtain ⟨_, _, ⟨T1, L1, k1, n1⟩, -, X1, ⟨Lc1, hQ1, l1, y1, z1⟩, st1⟩ := X0.virtualBack hx (y := (⟨kM, "size", "()I"⟩ : MethodName)) (z := (⟨kM, "size", "()I"⟩ : MethodName)) hown (mvT hZ (w_96 hw)) (mvT hZ (w_97 hw)) (notFace_of_selects (args := #[]) (mvT hZ (w_99 hw))) (mvT hZ (w_99 hw)) (mvT hZ (w_98 hw)) (by decide) (backOf (W := 0) (rm16_0 l Z a0 hw [] (0 : Int32) (2 : Int32) (3 : Int32) (3 : Int32) o0 o1 j0 h0 n0 OO f0 f1) hZ (w_100 hw) (w_66 hw) (by decide) (by decide)) q1a q1c (g := (mkF m 1 #[rv o0, .unset, .unset, .unset, .unset] [(.ref o0)])) rfl (by rw [hml]; rfl) (Steps.refl _) (argsL := []) (rest := []) (lenOf pd_12 rfl) rfl (by show 2 * 0 + _ ≤ _; exact Nat.le_of_eq rfl) (hb hby d15_1) (fun _ _ => ⟨rfl, e0, (by decide : 0 + 0 ≤ _), (by decide : 0 + 0 ≤ _)⟩)
  dsimp only [Pt.U, Pt.locs, Pt.cells, Pt.slots] at X1 l1 y1 z1 st1 hQ1
  subst l1 y1 z1
  obtain ⟨rfl, N1q, e1⟩ := hQ1
  have N1 := Fr.app N0 N1q
  obtain ⟨T2, h2, j3, j4, X2, e2, E2, A2, O2v, B2, I2, st2⟩ := gridM X1 hx hZ hown (C := "[D") (ad := "[[D") (ty := .double) rfl rfl (w_101 hw) (w_102 hw) (w_11 hw) e1 (g := (mkF m 7 #[rv o0, iv 3, .unset, .unset, .unset] [(.int 3), (.int 3)])) rfl (hb hby d15_7) rfl (by decide) (by decide) (N := 3) rfl (xs := [h0.size + 1 + 0, h0.size + 1 + 1, h0.size + 1 + 2]) (by rfl) (cap := 3) (by decide) (by decide) (by decide) rfl rfl (by decide) (by decide)
  obtain ⟨o4, g2⟩ : ∃ z, z = h0.size := ⟨_, rfl⟩
  obtain ⟨o5, g2_0⟩ : ∃ z, z = h0.size + 1 + 0 := ⟨_, rfl⟩
  obtain ⟨o6, g2_1⟩ : ∃ z, z = h0.size + 1 + 1 := ⟨_, rfl⟩
  obtain ⟨o7, g2_2⟩ : ∃ z, z = h0.size + 1 + 2 := ⟨_, rfl⟩
  rw [← g2_2, ← g2_1, ← g2_0] at A2 I2
  rw [← g2] at A2 B2 st2
  have g3 : n0 ≤ o4 := Nat.le_trans (own_le OO) (Nat.le_of_eq g2.symm)
  have s4 : h0.size ≤ o4 := Nat.le_trans ((Keep.refl h0 [])).1 (Nat.le_of_eq g2.symm)
  have g5 : n0 ≤ o5 := Nat.le_trans (own_le OO) (Nat.le_trans (Nat.le_add_right _ _) (Nat.le_of_eq ((Nat.add_assoc _ _ _).symm.trans g2_0.symm)))
  have s6 : h0.size ≤ o5 := Nat.le_trans ((Keep.refl h0 [])).1 (Nat.le_trans (Nat.le_add_right _ _) (Nat.le_of_eq ((Nat.add_assoc _ _ _).symm.trans g2_0.symm)))
  have g7 : n0 ≤ o6 := Nat.le_trans (own_le OO) (Nat.le_trans (Nat.le_add_right _ _) (Nat.le_of_eq ((Nat.add_assoc _ _ _).symm.trans g2_1.symm)))
  have s8 : h0.size ≤ o6 := Nat.le_trans ((Keep.refl h0 [])).1 (Nat.le_trans (Nat.le_add_right _ _) (Nat.le_of_eq ((Nat.add_assoc _ _ _).symm.trans g2_1.symm)))
  have g9 : n0 ≤ o7 := Nat.le_trans (own_le OO) (Nat.le_trans (Nat.le_add_right _ _) (Nat.le_of_eq ((Nat.add_assoc _ _ _).symm.trans g2_2.symm)))
  have s10 : h0.size ≤ o7 := Nat.le_trans ((Keep.refl h0 [])).1 (Nat.le_trans (Nat.le_add_right _ _) (Nat.le_of_eq ((Nat.add_assoc _ _ _).symm.trans g2_2.symm)))
  have ne11 : o4 ≠ o5 := by rw [g2, g2_0]; omega
  have ne12 : o4 ≠ o6 := by rw [g2, g2_1]; omega
  have ne13 : o4 ≠ o7 := by rw [g2, g2_2]; omega
  have ne14 : o5 ≠ o6 := by rw [g2_0, g2_1]; omega
  have ne15 : o5 ≠ o7 := by rw [g2_0, g2_2]; omega
  have ne16 : o6 ≠ o7 := by rw [g2_1, g2_2]; omega
  have O2 := Old.ext OO E2
  have KK2 := Keep.ext (Keep.refl h0 []) E2
  have F17 : Arv Z h2 o4 j3 (.array .double) (3 : Int32) [(.ref o5), (.ref o6), (.ref o7)] .null := A2
  have F18 : AD3 Z h2 o5 j4 0 0 0 := (Arv.newD (I2 0 o5 rfl).1 (by decide)).pad (pad_rep [] (.double (FP.l2d (0 : Int64))) 3)
  have F19 : AD3 Z h2 o6 j4 0 0 0 := (Arv.newD (I2 1 o6 rfl).1 (by decide)).pad (pad_rep [] (.double (FP.l2d (0 : Int64))) 3)
  have F20 : AD3 Z h2 o7 j4 0 0 0 := (Arv.newD (I2 2 o7 rfl).1 (by decide)).pad (pad_rep [] (.double (FP.l2d (0 : Int64))) 3)
  have F21 := (Fld.ext E2 f0)
  obtain ⟨T22, X22, e22, st22⟩ := own_gF X2 hx hZ hown (w_85 hw) e2 F21 (g := (mkF m 20 #[rv o0, iv 3, rv o4, iv 0, .unset] [(.ref o0)])) rfl rfl (hb hby d15_20)
  have F24 := (Arv.ext f1 E2)
  obtain ⟨c23, r23, q23, S23, M23, H23, G23⟩ := id F24
  have i25 := inb_of (j := 0) S23 (by decide)
  have y26 : c23.slots[((0 : Int32)).toNatClampNeg]? = some (.int 0) := H23 0 (by rw [S23]; decide)
  obtain ⟨T27, X27, e27, st27⟩ := own_gF X22 hx hZ hown (w_85 hw) e22 F21 (g := (mkF m 30 #[rv o0, iv 3, rv o4, iv 0, iv 0] [(.ref o0), (.int 0)])) rfl rfl (hb hby d15_30)
  obtain ⟨c28, r28, q28, S28, M28, H28, G28⟩ := id F24
  have i29 := inb_of (j := 1) S28 (by decide)
  have y30 : c28.slots[((1 : Int32)).toNatClampNeg]? = some (.int 2) := H28 1 (by rw [S28]; decide)
  obtain ⟨c31, r31, q31, S31, M31, H31, G31⟩ := id F17
  have i32 := inb_of (j := 0) S31 (by decide)
  have y33 : c31.slots[((0 : Int32)).toNatClampNeg]? = some (.ref o5) := H31 0 (by rw [S31]; decide)
  have F34 := (Fld.ext E2 f3)
  obtain ⟨T35, X35, e35, st35⟩ := own_gF X27 hx hZ hown (w_87 hw) e27 F34 (g := (mkF m 44 #[rv o0, iv 3, rv o4, iv 0, iv 0] [(.ref o0), (.ref o5)])) rfl rfl (hb hby d15_44)
  have F37 := (Arv.ext f4 E2)
  obtain ⟨c36, r36, q36, S36, M36, H36, G36⟩ := id F37
  have i38 := inb_of (j := 0) S36 (by decide)
  have y39 : c36.slots[((0 : Int32)).toNatClampNeg]? = some (.int t0) := H36 0 (by rw [S36]; decide)
  have F40 := (Fld.ext E2 f5)
  obtain ⟨T41, X41, e41, st41⟩ := own_gF X35 hx hZ hown (w_89 hw) e35 F40 (g := (mkF m 51 #[rv o0, iv 3, rv o4, iv 0, iv 0] [(.ref o0), (.int t0), (.ref o5)])) rfl rfl (hb hby d15_51)
  have F43 := (Arv.ext f6 E2)
  obtain ⟨c42, r42, q42, S42, M42, H42, G42⟩ := id F43
  have i44 := inb_of (j := 0) S42 (by decide)
  have y45 : c42.slots[((0 : Int32)).toNatClampNeg]? = some (.double (FP.l2d t3)) := H42 0 (by rw [S42]; decide)
  obtain ⟨c46, r46, q46, S46, M46, H46, G46⟩ := id F18
  have i47 := own_inb (j := t0) S46 d0
  obtain ⟨T48, h48, X48, e48, W48, st48⟩ := stD X41 hx hZ e41 r46 (j := t0) i47 (g := (mkF m 57 #[rv o0, iv 3, rv o4, iv 0, iv 0] [(.double (FP.l2d t3)), (.int t0), (.ref o5)])) rfl rfl (hb hby d15_57)
  have O48 := Old.wr O2 W48 g5
  have KK48 := Keep.wr KK2 W48 (Or.inr s6)
  have N48 := Fr.snoc X48 N1 g5
  have F49 : AD3 Z h48 o5 j4 (own_up t0 0 t3 (0 : Int64)) (own_up t0 1 t3 (0 : Int64)) (own_up t0 2 t3 (0 : Int64)) := own_setD r46 q46 S46 M46 H46 G46 W48 d0
  have ne51 : o0 ≠ o5 := Nat.ne_of_lt (Nat.lt_of_lt_of_le (f0).lt (Nat.le_trans (Nat.le_add_right _ _) (Nat.le_of_eq ((Nat.add_assoc _ _ _).symm.trans g2_0.symm))))
  have F50 := (Fld.other W48 F21 (Or.inl ne51))
  obtain ⟨T52, X52, e52, st52⟩ := own_gF X48 hx hZ hown (w_85 hw) e48 F50 (g := (mkF m 30 #[rv o0, iv 3, rv o4, iv 0, iv 1] [(.ref o0), (.int 1)])) rfl rfl (hb hby d15_30)
  have ne55 : o1 ≠ o5 := Nat.ne_of_lt (Nat.lt_of_lt_of_le (f1).lt (Nat.le_trans (Nat.le_add_right _ _) (Nat.le_of_eq ((Nat.add_assoc _ _ _).symm.trans g2_0.symm))))
  have F54 := (Arv.other F24 W48 ne55)
  obtain ⟨c53, r53, q53, S53, M53, H53, G53⟩ := id F54
  have i56 := inb_of (j := 1) S53 (by decide)
  have y57 : c53.slots[((1 : Int32)).toNatClampNeg]? = some (.int 2) := H53 1 (by rw [S53]; decide)
  have F59 := (Arv.other F17 W48 ne11)
  obtain ⟨c58, r58, q58, S58, M58, H58, G58⟩ := id F59
  have i60 := inb_of (j := 0) S58 (by decide)
  have y61 : c58.slots[((0 : Int32)).toNatClampNeg]? = some (.ref o5) := H58 0 (by rw [S58]; decide)
  have F62 := (Fld.other W48 F34 (Or.inl ne51))
  obtain ⟨T63, X63, e63, st63⟩ := own_gF X52 hx hZ hown (w_87 hw) e52 F62 (g := (mkF m 44 #[rv o0, iv 3, rv o4, iv 0, iv 1] [(.ref o0), (.ref o5)])) rfl rfl (hb hby d15_44)
  have ne66 : o2 ≠ o5 := Nat.ne_of_lt (Nat.lt_of_lt_of_le (f4).lt (Nat.le_trans (Nat.le_add_right _ _) (Nat.le_of_eq ((Nat.add_assoc _ _ _).symm.trans g2_0.symm))))
  have F65 := (Arv.other F37 W48 ne66)
  obtain ⟨c64, r64, q64, S64, M64, H64, G64⟩ := id F65
  have i67 := inb_of (j := 1) S64 (by decide)
  have y68 : c64.slots[((1 : Int32)).toNatClampNeg]? = some (.int t1) := H64 1 (by rw [S64]; decide)
  have F69 := (Fld.other W48 F40 (Or.inl ne51))
  obtain ⟨T70, X70, e70, st70⟩ := own_gF X63 hx hZ hown (w_89 hw) e63 F69 (g := (mkF m 51 #[rv o0, iv 3, rv o4, iv 0, iv 1] [(.ref o0), (.int t1), (.ref o5)])) rfl rfl (hb hby d15_51)
  have ne73 : o3 ≠ o5 := Nat.ne_of_lt (Nat.lt_of_lt_of_le (f6).lt (Nat.le_trans (Nat.le_add_right _ _) (Nat.le_of_eq ((Nat.add_assoc _ _ _).symm.trans g2_0.symm))))
  have F72 := (Arv.other F43 W48 ne73)
  obtain ⟨c71, r71, q71, S71, M71, H71, G71⟩ := id F72
  have i74 := inb_of (j := 1) S71 (by decide)
  have y75 : c71.slots[((1 : Int32)).toNatClampNeg]? = some (.double (FP.l2d t4)) := H71 1 (by rw [S71]; decide)
  obtain ⟨c76, r76, q76, S76, M76, H76, G76⟩ := id F49
  have i77 := own_inb (j := t1) S76 d1
  obtain ⟨T78, h78, X78, e78, W78, st78⟩ := stD X70 hx hZ e70 r76 (j := t1) i77 (g := (mkF m 57 #[rv o0, iv 3, rv o4, iv 0, iv 1] [(.double (FP.l2d t4)), (.int t1), (.ref o5)])) rfl rfl (hb hby d15_57)
  have O78 := Old.wr O48 W78 g5
  have KK78 := Keep.wr KK48 W78 (Or.inr s6)
  have N78 := Fr.snoc X78 N48 g5
  have F79 : AD3 Z h78 o5 j4 (own_up t1 0 t4 (own_up t0 0 t3 (0 : Int64))) (own_up t1 1 t4 (own_up t0 1 t3 (0 : Int64))) (own_up t1 2 t4 (own_up t0 2 t3 (0 : Int64))) := own_setD r76 q76 S76 M76 H76 G76 W78 d1
  have F80 := (Fld.other W78 F50 (Or.inl ne51))
  obtain ⟨T81, X81, e81, st81⟩ := own_gF X78 hx hZ hown (w_85 hw) e78 F80 (g := (mkF m 30 #[rv o0, iv 3, rv o4, iv 0, iv 2] [(.ref o0), (.int 2)])) rfl rfl (hb hby d15_30)
  have F83 := (Arv.other F54 W78 ne55)
  obtain ⟨c82, r82, q82, S82, M82, H82, G82⟩ := id F83
  have i84 := inb_of (j := 1) S82 (by decide)
  have y85 : c82.slots[((1 : Int32)).toNatClampNeg]? = some (.int 2) := H82 1 (by rw [S82]; decide)
  obtain ⟨T86, X86, e86, st86⟩ := own_gF X81 hx hZ hown (w_85 hw) e81 F80 (g := (mkF m 20 #[rv o0, iv 3, rv o4, iv 1, iv 2] [(.ref o0)])) rfl rfl (hb hby d15_20)
  obtain ⟨c87, r87, q87, S87, M87, H87, G87⟩ := id F83
  have i88 := inb_of (j := 1) S87 (by decide)
  have y89 : c87.slots[((1 : Int32)).toNatClampNeg]? = some (.int 2) := H87 1 (by rw [S87]; decide)
  obtain ⟨T90, X90, e90, st90⟩ := own_gF X86 hx hZ hown (w_85 hw) e86 F80 (g := (mkF m 30 #[rv o0, iv 3, rv o4, iv 1, iv 2] [(.ref o0), (.int 2)])) rfl rfl (hb hby d15_30)
  obtain ⟨c91, r91, q91, S91, M91, H91, G91⟩ := id F83
  have i92 := inb_of (j := 2) S91 (by decide)
  have y93 : c91.slots[((2 : Int32)).toNatClampNeg]? = some (.int 3) := H91 2 (by rw [S91]; decide)
  have F95 := (Arv.other F59 W78 ne11)
  obtain ⟨c94, r94, q94, S94, M94, H94, G94⟩ := id F95
  have i96 := inb_of (j := 1) S94 (by decide)
  have y97 : c94.slots[((1 : Int32)).toNatClampNeg]? = some (.ref o6) := H94 1 (by rw [S94]; decide)
  have F98 := (Fld.other W78 F62 (Or.inl ne51))
  obtain ⟨T99, X99, e99, st99⟩ := own_gF X90 hx hZ hown (w_87 hw) e90 F98 (g := (mkF m 44 #[rv o0, iv 3, rv o4, iv 1, iv 2] [(.ref o0), (.ref o6)])) rfl rfl (hb hby d15_44)
  have F101 := (Arv.other F65 W78 ne66)
  obtain ⟨c100, r100, q100, S100, M100, H100, G100⟩ := id F101
  have i102 := inb_of (j := 2) S100 (by decide)
  have y103 : c100.slots[((2 : Int32)).toNatClampNeg]? = some (.int t2) := H100 2 (by rw [S100]; decide)
  have F104 := (Fld.other W78 F69 (Or.inl ne51))
  obtain ⟨T105, X105, e105, st105⟩ := own_gF X99 hx hZ hown (w_89 hw) e99 F104 (g := (mkF m 51 #[rv o0, iv 3, rv o4, iv 1, iv 2] [(.ref o0), (.int t2), (.ref o6)])) rfl rfl (hb hby d15_51)
  have F107 := (Arv.other F72 W78 ne73)
  obtain ⟨c106, r106, q106, S106, M106, H106, G106⟩ := id F107
  have i108 := inb_of (j := 2) S106 (by decide)
  have y109 : c106.slots[((2 : Int32)).toNatClampNeg]? = some (.double (FP.l2d t5)) := H106 2 (by rw [S106]; decide)
  have F111 := (Arv.other (Arv.other F19 W48 (Ne.symm ne14)) W78 (Ne.symm ne14))
  obtain ⟨c110, r110, q110, S110, M110, H110, G110⟩ := id F111
  have i112 := own_inb (j := t2) S110 d2
  obtain ⟨T113, h113, X113, e113, W113, st113⟩ := stD X105 hx hZ e105 r110 (j := t2) i112 (g := (mkF m 57 #[rv o0, iv 3, rv o4, iv 1, iv 2] [(.double (FP.l2d t5)), (.int t2), (.ref o6)])) rfl rfl (hb hby d15_57)
  have O113 := Old.wr O78 W113 g7
  have KK113 := Keep.wr KK78 W113 (Or.inr s8)
  have N113 := Fr.snoc X113 N78 g7
  have F114 : AD3 Z h113 o6 j4 (own_up t2 0 t5 (0 : Int64)) (own_up t2 1 t5 (0 : Int64)) (own_up t2 2 t5 (0 : Int64)) := own_setD r110 q110 S110 M110 H110 G110 W113 d2
  have ne116 : o0 ≠ o6 := Nat.ne_of_lt (Nat.lt_of_lt_of_le (f0).lt (Nat.le_trans (Nat.le_add_right _ _) (Nat.le_of_eq ((Nat.add_assoc _ _ _).symm.trans g2_1.symm))))
  have F115 := (Fld.other W113 F80 (Or.inl ne116))
  obtain ⟨T117, X117, e117, st117⟩ := own_gF X113 hx hZ hown (w_85 hw) e113 F115 (g := (mkF m 30 #[rv o0, iv 3, rv o4, iv 1, iv 3] [(.ref o0), (.int 3)])) rfl rfl (hb hby d15_30)
  have ne120 : o1 ≠ o6 := Nat.ne_of_lt (Nat.lt_of_lt_of_le (f1).lt (Nat.le_trans (Nat.le_add_right _ _) (Nat.le_of_eq ((Nat.add_assoc _ _ _).symm.trans g2_1.symm))))
  have F119 := (Arv.other F83 W113 ne120)
  obtain ⟨c118, r118, q118, S118, M118, H118, G118⟩ := id F119
  have i121 := inb_of (j := 2) S118 (by decide)
  have y122 : c118.slots[((2 : Int32)).toNatClampNeg]? = some (.int 3) := H118 2 (by rw [S118]; decide)
  obtain ⟨T123, X123, e123, st123⟩ := own_gF X117 hx hZ hown (w_85 hw) e117 F115 (g := (mkF m 20 #[rv o0, iv 3, rv o4, iv 2, iv 3] [(.ref o0)])) rfl rfl (hb hby d15_20)
  obtain ⟨c124, r124, q124, S124, M124, H124, G124⟩ := id F119
  have i125 := inb_of (j := 2) S124 (by decide)
  have y126 : c124.slots[((2 : Int32)).toNatClampNeg]? = some (.int 3) := H124 2 (by rw [S124]; decide)
  obtain ⟨T127, X127, e127, st127⟩ := own_gF X123 hx hZ hown (w_85 hw) e123 F115 (g := (mkF m 30 #[rv o0, iv 3, rv o4, iv 2, iv 3] [(.ref o0), (.int 3)])) rfl rfl (hb hby d15_30)
  obtain ⟨c128, r128, q128, S128, M128, H128, G128⟩ := id F119
  have i129 := inb_of (j := 3) S128 (by decide)
  have y130 : c128.slots[((3 : Int32)).toNatClampNeg]? = some (.int 3) := H128 3 (by rw [S128]; decide)
  have F131 := (Arv.other F95 W113 ne12)
  have F132 := (Arv.other F79 W113 ne14)
  have F133 := (Arv.other (Arv.other (Arv.other F20 W48 (Ne.symm ne15)) W78 (Ne.symm ne15)) W113 (Ne.symm ne16))
  obtain ⟨fs, hr, hrun, hended, hW, hsame⟩ := X127.leave (v := some (.ref o4)) (fun h => by rw [Bd.returns] at h; cases h)
  refine ⟨_, _, (castTop (ef_15 m o0) ?_), hrun, hended, _, _, rfl, ?_, ⟨_, rfl⟩, hW, hsame.mono (by decide) (by decide)⟩
  · show Steps p.tables e below (s₁.setTop (mkF m 0 #[rv o0, .unset, .unset, .unset, .unset] [])) _
    refine oA X0 hx hby d15_0 rfl rfl rfl ?_
    refine st1.trans ?_
    refine XS.istoreN X1.here hx rfl (hb hby d15_4) rfl (l' := #[rv o0, iv 3, .unset, .unset, .unset]) rfl ?_
    refine oI X1 hx hby d15_5 rfl rfl ?_
    refine oI X1 hx hby d15_6 rfl rfl ?_
    refine st2 _ ?_
    refine XS.astoreN X2.here hx rfl (hb hby d15_11) rfl rfl (l' := #[rv o0, iv 3, rv o4, .unset, .unset]) rfl ?_
    refine oK X2 hx hby d15_12 rfl ?_
    refine XS.istoreN X2.here hx rfl (hb hby d15_13) rfl (l' := #[rv o0, iv 3, rv o4, iv 0, .unset]) rfl ?_
    refine oI X2 hx hby d15_14 rfl rfl ?_
    refine oI X2 hx hby d15_15 rfl rfl ?_
    refine XS.icmpNo X2.here hx rfl (hb hby d15_16) rfl (by decide) ?_
    refine oA X2 hx hby d15_19 rfl rfl rfl ?_
    refine st22 _ ?_
    refine oI X22 hx hby d15_23 rfl rfl ?_
    refine oL X22 hx hZ e22 r23 i25 y26 (by exact hb hby d15_24) rfl rfl ?_
    refine XS.istore X22.here hx rfl (hb hby d15_25) rfl (l' := #[rv o0, iv 3, rv o4, iv 0, iv 0]) rfl ?_
    refine oi X22 hx hby d15_27 rfl rfl ?_
    refine oA X22 hx hby d15_29 rfl rfl rfl ?_
    refine st27 _ ?_
    refine oI X27 hx hby d15_33 rfl rfl ?_
    refine oK X27 hx hby d15_34 rfl ?_
    refine XS.iadd X27.here hx rfl (hb hby d15_35) rfl ?_
    show Steps p.tables e below (T27.setTop (mkF m 36 #[rv o0, iv 3, rv o4, iv 0, iv 0] [(.int ((0 : Int32) + (1 : Int32))), (.ref o1), (.int 0)])) _
    rw [(by decide : ((0 : Int32) + (1 : Int32)) = (1 : Int32))]
    refine oL X27 hx hZ e27 r28 i29 y30 (by exact hb hby d15_36) rfl rfl ?_
    refine XS.icmpNo X27.here hx rfl (hb hby d15_37) rfl (by decide) ?_
    refine oA X27 hx hby d15_40 rfl rfl rfl ?_
    refine oI X27 hx hby d15_41 rfl rfl ?_
    refine X27.aaload hx (j := (0 : Int32)) (v := (.ref o5)) (by rw [e27]; exact r31.1) (State.isArrayOf_alike hZ.alike r31.2.1) rfl r31.2.2 i32 y33 (g := (mkF m 42 #[rv o0, iv 3, rv o4, iv 0, iv 0] [(.int 0), (.ref o4)])) rfl rfl (hb hby d15_42) _ ?_
    refine oA X27 hx hby d15_43 rfl rfl rfl ?_
    refine st35 _ ?_
    refine oi X35 hx hby d15_47 rfl rfl ?_
    refine oL X35 hx hZ e35 r36 i38 y39 (by exact hb hby d15_49) rfl rfl ?_
    refine oA X35 hx hby d15_50 rfl rfl rfl ?_
    refine st41 _ ?_
    refine oi X41 hx hby d15_54 rfl rfl ?_
    refine oD X41 hx hZ e41 r42 i44 y45 (by exact hb hby d15_56) rfl rfl ?_
    refine st48 _ ?_
    refine XS.iinc X48.here hx rfl (hb hby d15_58) rfl (l' := #[rv o0, iv 3, rv o4, iv 0, iv ((0 : Int32) + (1 : Int32))]) rfl ?_
    show Steps p.tables e below (T48.setTop (mkF m 61 #[rv o0, iv 3, rv o4, iv 0, iv 1] [])) _
    refine XS.goto X48.here hx rfl (pc0 := 61) (pc' := 27) rfl (hb hby d15_61) (by decide) (by decide) ?_
    refine oi X48 hx hby d15_27 rfl rfl ?_
    refine oA X48 hx hby d15_29 rfl rfl rfl ?_
    refine st52 _ ?_
    refine oI X52 hx hby d15_33 rfl rfl ?_
    refine oK X52 hx hby d15_34 rfl ?_
    refine XS.iadd X52.here hx rfl (hb hby d15_35) rfl ?_
    show Steps p.tables e below (T52.setTop (mkF m 36 #[rv o0, iv 3, rv o4, iv 0, iv 1] [(.int ((0 : Int32) + (1 : Int32))), (.ref o1), (.int 1)])) _
    rw [(by decide : ((0 : Int32) + (1 : Int32)) = (1 : Int32))]
    refine oL X52 hx hZ e52 r53 i56 y57 (by exact hb hby d15_36) rfl rfl ?_
    refine XS.icmpNo X52.here hx rfl (hb hby d15_37) rfl (by decide) ?_
    refine oA X52 hx hby d15_40 rfl rfl rfl ?_
    refine oI X52 hx hby d15_41 rfl rfl ?_
    refine X52.aaload hx (j := (0 : Int32)) (v := (.ref o5)) (by rw [e52]; exact r58.1) (State.isArrayOf_alike hZ.alike r58.2.1) rfl r58.2.2 i60 y61 (g := (mkF m 42 #[rv o0, iv 3, rv o4, iv 0, iv 1] [(.int 0), (.ref o4)])) rfl rfl (hb hby d15_42) _ ?_
    refine oA X52 hx hby d15_43 rfl rfl rfl ?_
    refine st63 _ ?_
    refine oi X63 hx hby d15_47 rfl rfl ?_
    refine oL X63 hx hZ e63 r64 i67 y68 (by exact hb hby d15_49) rfl rfl ?_
    refine oA X63 hx hby d15_50 rfl rfl rfl ?_
    refine st70 _ ?_
    refine oi X70 hx hby d15_54 rfl rfl ?_
    refine oD X70 hx hZ e70 r71 i74 y75 (by exact hb hby d15_56) rfl rfl ?_
    refine st78 _ ?_
    refine XS.iinc X78.here hx rfl (hb hby d15_58) rfl (l' := #[rv o0, iv 3, rv o4, iv 0, iv ((1 : Int32) + (1 : Int32))]) rfl ?_
    show Steps p.tables e below (T78.setTop (mkF m 61 #[rv o0, iv 3, rv o4, iv 0, iv 2] [])) _
    refine XS.goto X78.here hx rfl (pc0 := 61) (pc' := 27) rfl (hb hby d15_61) (by decide) (by decide) ?_
    refine oi X78 hx hby d15_27 rfl rfl ?_
    refine oA X78 hx hby d15_29 rfl rfl rfl ?_
    refine st81 _ ?_
    refine oI X81 hx hby d15_33 rfl rfl ?_
    refine oK X81 hx hby d15_34 rfl ?_
    refine XS.iadd X81.here hx rfl (hb hby d15_35) rfl ?_
    show Steps p.tables e below (T81.setTop (mkF m 36 #[rv o0, iv 3, rv o4, iv 0, iv 2] [(.int ((0 : Int32) + (1 : Int32))), (.ref o1), (.int 2)])) _
    rw [(by decide : ((0 : Int32) + (1 : Int32)) = (1 : Int32))]
    refine oL X81 hx hZ e81 r82 i84 y85 (by exact hb hby d15_36) rfl rfl ?_
    refine XS.icmpYes X81.here hx rfl (pc0 := 37) (pc' := 64) rfl (hb hby d15_37) rfl (by decide) (by decide) (by decide) ?_
    refine XS.iinc X81.here hx rfl (hb hby d15_64) rfl (l' := #[rv o0, iv 3, rv o4, iv ((0 : Int32) + (1 : Int32)), iv 2]) rfl ?_
    show Steps p.tables e below (T81.setTop (mkF m 67 #[rv o0, iv 3, rv o4, iv 1, iv 2] [])) _
    refine XS.goto X81.here hx rfl (pc0 := 67) (pc' := 14) rfl (hb hby d15_67) (by decide) (by decide) ?_
    refine oI X81 hx hby d15_14 rfl rfl ?_
    refine oI X81 hx hby d15_15 rfl rfl ?_
    refine XS.icmpNo X81.here hx rfl (hb hby d15_16) rfl (by decide) ?_
    refine oA X81 hx hby d15_19 rfl rfl rfl ?_
    refine st86 _ ?_
    refine oI X86 hx hby d15_23 rfl rfl ?_
    refine oL X86 hx hZ e86 r87 i88 y89 (by exact hb hby d15_24) rfl rfl ?_
    refine XS.istore X86.here hx rfl (hb hby d15_25) rfl (l' := #[rv o0, iv 3, rv o4, iv 1, iv 2]) rfl ?_
    refine oi X86 hx hby d15_27 rfl rfl ?_
    refine oA X86 hx hby d15_29 rfl rfl rfl ?_
    refine st90 _ ?_
    refine oI X90 hx hby d15_33 rfl rfl ?_
    refine oK X90 hx hby d15_34 rfl ?_
    refine XS.iadd X90.here hx rfl (hb hby d15_35) rfl ?_
    show Steps p.tables e below (T90.setTop (mkF m 36 #[rv o0, iv 3, rv o4, iv 1, iv 2] [(.int ((1 : Int32) + (1 : Int32))), (.ref o1), (.int 2)])) _
    rw [(by decide : ((1 : Int32) + (1 : Int32)) = (2 : Int32))]
    refine oL X90 hx hZ e90 r91 i92 y93 (by exact hb hby d15_36) rfl rfl ?_
    refine XS.icmpNo X90.here hx rfl (hb hby d15_37) rfl (by decide) ?_
    refine oA X90 hx hby d15_40 rfl rfl rfl ?_
    refine oI X90 hx hby d15_41 rfl rfl ?_
    refine X90.aaload hx (j := (1 : Int32)) (v := (.ref o6)) (by rw [e90]; exact r94.1) (State.isArrayOf_alike hZ.alike r94.2.1) rfl r94.2.2 i96 y97 (g := (mkF m 42 #[rv o0, iv 3, rv o4, iv 1, iv 2] [(.int 1), (.ref o4)])) rfl rfl (hb hby d15_42) _ ?_
    refine oA X90 hx hby d15_43 rfl rfl rfl ?_
    refine st99 _ ?_
    refine oi X99 hx hby d15_47 rfl rfl ?_
    refine oL X99 hx hZ e99 r100 i102 y103 (by exact hb hby d15_49) rfl rfl ?_
    refine oA X99 hx hby d15_50 rfl rfl rfl ?_
    refine st105 _ ?_
    refine oi X105 hx hby d15_54 rfl rfl ?_
    refine oD X105 hx hZ e105 r106 i108 y109 (by exact hb hby d15_56) rfl rfl ?_
    refine st113 _ ?_
    refine XS.iinc X113.here hx rfl (hb hby d15_58) rfl (l' := #[rv o0, iv 3, rv o4, iv 1, iv ((2 : Int32) + (1 : Int32))]) rfl ?_
    show Steps p.tables e below (T113.setTop (mkF m 61 #[rv o0, iv 3, rv o4, iv 1, iv 3] [])) _
    refine XS.goto X113.here hx rfl (pc0 := 61) (pc' := 27) rfl (hb hby d15_61) (by decide) (by decide) ?_
    refine oi X113 hx hby d15_27 rfl rfl ?_
    refine oA X113 hx hby d15_29 rfl rfl rfl ?_
    refine st117 _ ?_
    refine oI X117 hx hby d15_33 rfl rfl ?_
    refine oK X117 hx hby d15_34 rfl ?_
    refine XS.iadd X117.here hx rfl (hb hby d15_35) rfl ?_
    show Steps p.tables e below (T117.setTop (mkF m 36 #[rv o0, iv 3, rv o4, iv 1, iv 3] [(.int ((1 : Int32) + (1 : Int32))), (.ref o1), (.int 3)])) _
    rw [(by decide : ((1 : Int32) + (1 : Int32)) = (2 : Int32))]
    refine oL X117 hx hZ e117 r118 i121 y122 (by exact hb hby d15_36) rfl rfl ?_
    refine XS.icmpYes X117.here hx rfl (pc0 := 37) (pc' := 64) rfl (hb hby d15_37) rfl (by decide) (by decide) (by decide) ?_
    refine XS.iinc X117.here hx rfl (hb hby d15_64) rfl (l' := #[rv o0, iv 3, rv o4, iv ((1 : Int32) + (1 : Int32)), iv 3]) rfl ?_
    show Steps p.tables e below (T117.setTop (mkF m 67 #[rv o0, iv 3, rv o4, iv 2, iv 3] [])) _
    refine XS.goto X117.here hx rfl (pc0 := 67) (pc' := 14) rfl (hb hby d15_67) (by decide) (by decide) ?_
    refine oI X117 hx hby d15_14 rfl rfl ?_
    refine oI X117 hx hby d15_15 rfl rfl ?_
    refine XS.icmpNo X117.here hx rfl (hb hby d15_16) rfl (by decide) ?_
    refine oA X117 hx hby d15_19 rfl rfl rfl ?_
    refine st123 _ ?_
    refine oI X123 hx hby d15_23 rfl rfl ?_
    refine oL X123 hx hZ e123 r124 i125 y126 (by exact hb hby d15_24) rfl rfl ?_
    refine XS.istore X123.here hx rfl (hb hby d15_25) rfl (l' := #[rv o0, iv 3, rv o4, iv 2, iv 3]) rfl ?_
    refine oi X123 hx hby d15_27 rfl rfl ?_
    refine oA X123 hx hby d15_29 rfl rfl rfl ?_
    refine st127 _ ?_
    refine oI X127 hx hby d15_33 rfl rfl ?_
    refine oK X127 hx hby d15_34 rfl ?_
    refine XS.iadd X127.here hx rfl (hb hby d15_35) rfl ?_
    show Steps p.tables e below (T127.setTop (mkF m 36 #[rv o0, iv 3, rv o4, iv 2, iv 3] [(.int ((2 : Int32) + (1 : Int32))), (.ref o1), (.int 3)])) _
    rw [(by decide : ((2 : Int32) + (1 : Int32)) = (3 : Int32))]
    refine oL X127 hx hZ e127 r128 i129 y130 (by exact hb hby d15_36) rfl rfl ?_
    refine XS.icmpYes X127.here hx rfl (pc0 := 37) (pc' := 64) rfl (hb hby d15_37) rfl (by decide) (by decide) (by decide) ?_
    refine XS.iinc X127.here hx rfl (hb hby d15_64) rfl (l' := #[rv o0, iv 3, rv o4, iv ((2 : Int32) + (1 : Int32)), iv 3]) rfl ?_
    show Steps p.tables e below (T127.setTop (mkF m 67 #[rv o0, iv 3, rv o4, iv 3, iv 3] [])) _
    refine XS.goto X127.here hx rfl (pc0 := 67) (pc' := 14) rfl (hb hby d15_67) (by decide) (by decide) ?_
    refine oI X127 hx hby d15_14 rfl rfl ?_
    refine oI X127 hx hby d15_15 rfl rfl ?_
    refine XS.icmpYes X127.here hx rfl (pc0 := 16) (pc' := 70) rfl (hb hby d15_16) rfl (by decide) (by decide) (by decide) ?_
    refine oA X127 hx hby d15_70 rfl rfl rfl ?_
    exact retOut X127 hx Bd.returns rfl (Or.inr (Or.inr (Or.inr (Or.inr ⟨rfl, rfl, rfl⟩)))) (hb hby d15_71) hr
  · show Q15_1 Z t0 t1 t2 t3 t4 t5 o0 o1 o2 o3 j0 j1 j2 h0 n0 _ T127.heap _
    rw [e127]
    exact ⟨o4, o5, o6, o7, j3, j4, rfl, N113, KK113, s4, s6, s8, s10, ne11, ne12, ne13, ne14, ne15, ne16, F131, F132, F114, F133⟩
theorem sg_12 {p : Program} {l : Launch} {e : Env} {s : State} {m : MethodId} {args : Array Value} {below : List Frame} {meth : Method} {c : Code} {T0 : State} {locs : List Loc} {Z : State} {a0 : Array Value} {h0 : Heap} {n0 : Nat} (hw : HW a0 Z) (t0 t1 t2 : Int32) (t3 t4 t5 : Int64) (t6 t7 t8 t9 t10 : Int32) (t11 t12 t13 : Int64) (t14 t15 t16 t17 t18 t19 t20 t21 t22 : Int32) (o0 o1 o2 o3 o4 o5 o6 : Addr) (j0 j1 j2 j3 j4 j5 : ClassId)
    (X0 : Stand p l e room_1 s m args below meth c T0 locs 7 29) (hx : p.tables.exec = Jvm.exec) (hZ : Z.Warmed39 s.vm) (hby : c.code = code) (hml : c.maxLocals = 14) (hown : s.vm.findClass kL = some m.cls) (e0 : T0.heap = h0) (N0 : Fr n0 locs) (OO : Old Z n0 h0) (f0 : fB2 Z h0 o0 (.ref o1)) (f1 : AZ3 Z h0 o1 j0 0 0 0) (f2 : fB3 Z h0 o0 (.ref o2)) (f3 : fB7 Z h0 o0 (.int 0)) (f4 : Exa Z h0 o0 kB) (f5 : AI3 Z h0 o2 j1 t0 t1 t2) (f6 : fB1 Z h0 o0 (.ref o3)) (f7 : AD3 Z h0 o3 j2 t3 t4 t5) (f8 : fB0 Z h0 o0 (.int 3)) (f9 : fB4 Z h0 o0 (.ref o4)) (f10 : fB5 Z h0 o0 (.ref o5)) (f11 : fB6 Z h0 o0 (.ref o6)) (f12 : fB8 Z h0 o0 (.int 2)) (f13 : fB9 Z h0 o0 (.int 1)) (d0 : own_in3 t6) (u0 : n0 ≤ o1) (v0 : o0 ≠ o1) (u1 : n0 ≤ o0) (v1 : o2 ≠ o1) (v2 : o2 ≠ o0) (u2 : n0 ≤ o2) (v3 : o3 ≠ o1) (v4 : o3 ≠ o0) (v5 : o3 ≠ o2) (d1 : B53 (own_pk t6 t3 t4 t5)) (d2 : B53 (t7.toInt64)) (u3 : n0 ≤ o3) (f14 : AI3 Z h0 o5 j3 t8 t9 t10) (f15 : AD3 Z h0 o6 j4 t11 t12 t13) (f16 : AI4 Z h0 o4 j5 0 2 t14 t15) (f17 : Exa Z h0 o5 "[I") (f18 : Exa Z h0 o6 "[D") (v6 : o5 ≠ o1) (v7 : o5 ≠ o0) (v8 : o5 ≠ o2) (v9 : o5 ≠ o3) (u4 : n0 ≤ o5) (v10 : o6 ≠ o1) (v11 : o6 ≠ o0) (v12 : o6 ≠ o2) (v13 : o6 ≠ o3) (v14 : o6 ≠ o5) (u5 : n0 ≤ o6) (v15 : o4 ≠ o1) (v16 : o4 ≠ o0) (v17 : o4 ≠ o2) (v18 : o4 ≠ o3) (v19 : o4 ≠ o5) (v20 : o4 ≠ o6) (u6 : n0 ≤ o4) (d3 : own_in3 (own_ui 2 0 t6 t8)) (d4 : own_in3 (own_ui 2 1 t6 t9)) (d5 : own_in3 (own_ui 2 2 t6 t10)) :
    ∃ (T' : State) (h' : Heap) (lc : List Loc) (o7 o8 o9 o10 o11 o12 o13 : Addr) (j6 j7 : ClassId), Stand p l e room_1 s m args below meth c T' lc 14 50 ∧ T'.heap = h' ∧ Fr n0 lc ∧ Keep h0 h' [o3, o2, o0, o1, o4, o6, o5] ∧ h0.size ≤ o7 ∧ h0.size ≤ o8 ∧ h0.size ≤ o9 ∧ h0.size ≤ o10 ∧ h0.size ≤ o11 ∧ h0.size ≤ o12 ∧ h0.size ≤ o13 ∧ o7 ≠ o8 ∧ o7 ≠ o9 ∧ o7 ≠ o10 ∧ o7 ≠ o11 ∧ o7 ≠ o12 ∧ o7 ≠ o13 ∧ o8 ≠ o9 ∧ o8 ≠ o10 ∧ o8 ≠ o11 ∧ o8 ≠ o12 ∧ o8 ≠ o13 ∧ o9 ≠ o10 ∧ o9 ≠ o11 ∧ o9 ≠ o12 ∧ o9 ≠ o13 ∧ o10 ≠ o11 ∧ o10 ≠ o12 ∧ o10 ≠ o13 ∧ o11 ≠ o12 ∧ o11 ≠ o13 ∧ o12 ≠ o13 ∧ Exa Z h' o7 kM ∧ fM10 Z h' o7 (.ref o4) ∧ fM11 Z h' o7 (.ref o8) ∧ fM12 Z h' o7 (.ref o9) ∧ Exa Z h' o8 "[I" ∧ AI3 Z h' o8 j3 (own_ui 2 0 t6 t8) (own_ui 2 1 t6 t9) (own_ui 2 2 t6 t10) ∧ Exa Z h' o9 "[D" ∧ AD3 Z h' o9 j4 (own_up 2 0 (own_pk t6 (t3 + (own_pt t6 0 (t7.toInt64))) (t4 + (own_pt t6 1 (t7.toInt64))) (t5 + (own_pt t6 2 (t7.toInt64)))) t11) (own_up 2 1 (own_pk t6 (t3 + (own_pt t6 0 (t7.toInt64))) (t4 + (own_pt t6 1 (t7.toInt64))) (t5 + (own_pt t6 2 (t7.toInt64)))) t12) (own_up 2 2 (own_pk t6 (t3 + (own_pt t6 0 (t7.toInt64))) (t4 + (own_pt t6 1 (t7.toInt64))) (t5 + (own_pt t6 2 (t7.toInt64)))) t13) ∧ Arv Z h' o10 j6 (.array .double) (3 : Int32) [(.ref o11), (.ref o12), (.ref o13)] .null ∧ AD3 Z h' o11 j7 (own_up (own_ui 2 1 t6 t9) 0 (own_up 2 1 (own_pk t6 (t3 + (own_pt t6 0 (t7.toInt64))) (t4 + (own_pt t6 1 (t7.toInt64))) (t5 + (own_pt t6 2 (t7.toInt64)))) t12) (own_up (own_ui 2 0 t6 t8) 0 (own_up 2 0 (own_pk t6 (t3 + (own_pt t6 0 (t7.toInt64))) (t4 + (own_pt t6 1 (t7.toInt64))) (t5 + (own_pt t6 2 (t7.toInt64)))) t11) (0 : Int64))) (own_up (own_ui 2 1 t6 t9) 1 (own_up 2 1 (own_pk t6 (t3 + (own_pt t6 0 (t7.toInt64))) (t4 + (own_pt t6 1 (t7.toInt64))) (t5 + (own_pt t6 2 (t7.toInt64)))) t12) (own_up (own_ui 2 0 t6 t8) 1 (own_up 2 0 (own_pk t6 (t3 + (own_pt t6 0 (t7.toInt64))) (t4 + (own_pt t6 1 (t7.toInt64))) (t5 + (own_pt t6 2 (t7.toInt64)))) t11) (0 : Int64))) (own_up (own_ui 2 1 t6 t9) 2 (own_up 2 1 (own_pk t6 (t3 + (own_pt t6 0 (t7.toInt64))) (t4 + (own_pt t6 1 (t7.toInt64))) (t5 + (own_pt t6 2 (t7.toInt64)))) t12) (own_up (own_ui 2 0 t6 t8) 2 (own_up 2 0 (own_pk t6 (t3 + (own_pt t6 0 (t7.toInt64))) (t4 + (own_pt t6 1 (t7.toInt64))) (t5 + (own_pt t6 2 (t7.toInt64)))) t11) (0 : Int64))) ∧ AD3 Z h' o12 j7 (own_up (own_ui 2 2 t6 t10) 0 (own_up 2 2 (own_pk t6 (t3 + (own_pt t6 0 (t7.toInt64))) (t4 + (own_pt t6 1 (t7.toInt64))) (t5 + (own_pt t6 2 (t7.toInt64)))) t13) (0 : Int64)) (own_up (own_ui 2 2 t6 t10) 1 (own_up 2 2 (own_pk t6 (t3 + (own_pt t6 0 (t7.toInt64))) (t4 + (own_pt t6 1 (t7.toInt64))) (t5 + (own_pt t6 2 (t7.toInt64)))) t13) (0 : Int64)) (own_up (own_ui 2 2 t6 t10) 2 (own_up 2 2 (own_pk t6 (t3 + (own_pt t6 0 (t7.toInt64))) (t4 + (own_pt t6 1 (t7.toInt64))) (t5 + (own_pt t6 2 (t7.toInt64)))) t13) (0 : Int64)) ∧ AD3 Z h' o13 j7 0 0 0 ∧ AD3 Z h' o3 j2 (own_up t6 0 (0 : Int64) (t3 + (own_pt t6 0 (t7.toInt64)))) (own_up t6 1 (0 : Int64) (t4 + (own_pt t6 1 (t7.toInt64)))) (own_up t6 2 (0 : Int64) (t5 + (own_pt t6 2 (t7.toInt64)))) ∧ AI3 Z h' o2 j1 t6 t1 t2 ∧ fB2 Z h' o0 (.ref o1) ∧ fB3 Z h' o0 (.ref o2) ∧ fB7 Z h' o0 (.int 0) ∧ Exa Z h' o0 kB ∧ fB1 Z h' o0 (.ref o3) ∧ fB0 Z h' o0 (.int 3) ∧ fB4 Z h' o0 (.ref o4) ∧ fB5 Z h' o0 (.ref o5) ∧ fB6 Z h' o0 (.ref o6) ∧ fB8 Z h' o0 (.int 3) ∧ fB9 Z h' o0 (.int 3) ∧ AZ3 Z h' o1 j0 (own_ui t6 0 0 (own_ui t6 0 1 0)) (own_ui t6 1 0 (own_ui t6 1 1 0)) (own_ui t6 2 0 (own_ui t6 2 1 0)) ∧ AI4 Z h' o4 j5 0 2 3 3 ∧ AD3 Z h' o6 j4 (own_up 2 0 (own_pk t6 (t3 + (own_pt t6 0 (t7.toInt64))) (t4 + (own_pt t6 1 (t7.toInt64))) (t5 + (own_pt t6 2 (t7.toInt64)))) t11) (own_up 2 1 (own_pk t6 (t3 + (own_pt t6 0 (t7.toInt64))) (t4 + (own_pt t6 1 (t7.toInt64))) (t5 + (own_pt t6 2 (t7.toInt64)))) t12) (own_up 2 2 (own_pk t6 (t3 + (own_pt t6 0 (t7.toInt64))) (t4 + (own_pt t6 1 (t7.toInt64))) (t5 + (own_pt t6 2 (t7.toInt64)))) t13) ∧ Exa Z h' o6 "[D" ∧ AI3 Z h' o5 j3 (own_ui 2 0 t6 t8) (own_ui 2 1 t6 t9) (own_ui 2 2 t6 t10) ∧ Exa Z h' o5 "[I" ∧
      ∀ target, Steps p.tables e below (T'.setTop (mkF m 121 #[iv t16, iv t17, iv t18, iv t19, iv t7, iv t20, iv t21, iv t22, iv t6, rv o0, rv o7, rv o10, .unset, .unset] [])) target → Steps p.tables e below (T0.setTop (mkF m 87 #[iv t16, iv t17, iv t18, iv t19, iv t7, iv t20, iv t21, iv t22, iv t6, rv o0, .unset, .unset, .unset, .unset] [])) target := by
  obtain ⟨cq1, kq1, q1a, q1b, q1c⟩ := isOf hZ e0 f4
  obtain ⟨_, _, ⟨T1, L1, k1, n1⟩, -, X1, ⟨Lc1, hQ1, l1, y1, z1⟩, st1⟩ := X0.virtualBack hx (y := (⟨kB, "add", "(ID)V"⟩ : MethodName)) (z := (⟨kB, "add", "(ID)V"⟩ : MethodName)) hown (mvT hZ (w_26 hw)) (mvT hZ (w_27 hw)) (notFace_of_selects (args := #[]) (mvT hZ (w_29 hw))) (mvT hZ (w_29 hw)) (mvT hZ (w_28 hw)) (by decide) (backOf (W := 0) (rm3_0 l Z a0 hw [] t6 t0 t1 t2 t3 t4 t5 (t7.toInt64) (3 : Int32) (2 : Int32) (1 : Int32) o0 o1 o2 o3 o4 o5 o6 j0 j1 j2 h0 n0 OO f0 f1 d0 u0 f2 v0 f3 f4 u1 f5 v1 v2 u2 f6 f7 v3 v4 v5 d1 d2 u3 f8 f9 f10 f11 f12 f13) hZ (w_30 hw) (w_2 hw) (by decide) (by decide)) q1a q1c (g := (mkF m 94 #[iv t16, iv t17, iv t18, iv t19, iv t7, iv t20, iv t21, iv t22, iv t6, rv o0, .unset, .unset, .unset, .unset] [(.double (FP.l2d (t7.toInt64))), (.int t6), (.ref o0)])) rfl (by rw [hml]; rfl) (Steps.refl _) (argsL := [(.int t6), (.double (FP.l2d (t7.toInt64)))]) (rest := []) (lenOf pd_1 rfl) rfl (by show 2 * 0 + _ ≤ _; exact Nat.le_of_eq rfl) (hb hby at_94) (fun _ _ => ⟨rfl, e0, (by decide : 7 + 0 ≤ _), (by decide : 29 + 0 ≤ _)⟩)
  dsimp only [Pt.U, Pt.locs, Pt.cells, Pt.slots] at X1 l1 y1 z1 st1 hQ1
  subst l1 y1 z1
  obtain ⟨h1, e1⟩ : ∃ z, T1.heap = z := ⟨_, rfl⟩
  rw [e1] at hQ1
  obtain ⟨rfl, N1q, K1, R1_0, R1_1, R1_2, R1_3, R1_4, R1_5, R1_6, R1_7, R1_8, R1_9, R1_10, R1_11, R1_12, R1_13⟩ := hQ1
  have N1 := Fr.app N0 N1q
  have O1 := Old.keep OO K1 (allS u0 (allS u1 (allS u2 (allS u3 all0))))
  have KK1 := Keep.trans (Keep.refl h0 [o3, o2, o0, o1, o4, o6, o5]) K1 (allS (Or.inl (own_m 3 rfl)) (allS (Or.inl (own_m 2 rfl)) (allS (Or.inl (own_m 1 rfl)) (allS (Or.inl (own_m 0 rfl)) all0))))
  have F3 := (Arv.keep f14 K1 (ninS v6 (ninS v7 (ninS v8 (ninS v9 nin0)))))
  have F4 := (Arv.keep f15 K1 (ninS v10 (ninS v11 (ninS v12 (ninS v13 nin0)))))
  have F5 := (Arv.keep f16 K1 (ninS v15 (ninS v16 (ninS v17 (ninS v18 nin0)))))
  have F6 := (Exa.keep f17 K1)
  have F7 := (Exa.keep f18 K1)
  obtain ⟨cq2, kq2, q2a, q2b, q2c⟩ := isOf hZ e1 R1_4
  obtain ⟨_, _, ⟨T2, L2, k2, n2⟩, -, X2, ⟨Lc2, hQ2, l2, y2, z2⟩, st2⟩ := X1.virtualBack hx (y := (⟨kB, "endRow", "()V"⟩ : MethodName)) (z := (⟨kB, "endRow", "()V"⟩ : MethodName)) hown (mvT hZ (w_33 hw)) (mvT hZ (w_34 hw)) (notFace_of_selects (args := #[]) (mvT hZ (w_36 hw))) (mvT hZ (w_36 hw)) (mvT hZ (w_35 hw)) (by decide) (backOf (W := 0) (rm4_4 l Z a0 hw [] (2 : Int32) t8 t9 t10 t6 t1 t2 (t3 + (own_pt t6 0 (t7.toInt64))) (t4 + (own_pt t6 1 (t7.toInt64))) (t5 + (own_pt t6 2 (t7.toInt64))) t11 t12 t13 (own_ui t6 0 1 0) (own_ui t6 1 1 0) (own_ui t6 2 1 0) (0 : Int32) (2 : Int32) t14 t15 (3 : Int32) o0 o5 o2 o6 o3 o1 o4 j3 j1 j2 j4 j0 j5 h1 n0 O1 R1_10 R1_3 R1_8 F3 (by decide) R1_2 R1_12 u2 (Ne.symm v2) R1_11 v8 (by decide) u4 R1_9 (Ne.symm v7) R1_5 R1_13 v5 (Ne.symm v9) d0 F4 v12 v14 u5 (Ne.symm v11) R1_4 u1 (Ne.symm v13) v4 u3 R1_1 R1_0 (Ne.symm v1) (Ne.symm v6) (Ne.symm v10) (Ne.symm v0) (Ne.symm v3) u0 R1_7 F5 v17 v19 v20 v16 v18 v15 u6 F6 F7 R1_6) hZ (w_37 hw) (w_2 hw) (by decide) (by decide)) q2a q2c (g := (mkF m 99 #[iv t16, iv t17, iv t18, iv t19, iv t7, iv t20, iv t21, iv t22, iv t6, rv o0, .unset, .unset, .unset, .unset] [(.ref o0)])) rfl (by rw [hml]; rfl) (Steps.refl _) (argsL := []) (rest := []) (lenOf pd_6 rfl) rfl (by show 2 * 0 + _ ≤ _; exact Nat.le_of_eq rfl) (hb hby at_99) (fun _ _ => ⟨rfl, e1, (by decide : 7 + 0 ≤ _), (by decide : 29 + 0 ≤ _)⟩)
  dsimp only [Pt.U, Pt.locs, Pt.cells, Pt.slots] at X2 l2 y2 z2 st2 hQ2
  subst l2 y2 z2
  obtain ⟨h2, e2⟩ : ∃ z, T2.heap = z := ⟨_, rfl⟩
  rw [e2] at hQ2
  obtain ⟨rfl, N2q, K2, R2_0, R2_1, R2_2, R2_3, R2_4, R2_5, R2_6, R2_7, R2_8, R2_9, R2_10, R2_11, R2_12, R2_13, R2_14, R2_15, R2_16, R2_17, R2_18⟩ := hQ2
  have N2 := Fr.app N1 N2q
  have O2 := Old.keep O1 K2 (allS u2 (allS u4 (allS u5 (allS u1 (allS u3 (allS u0 (allS u6 all0)))))))
  have KK2 := Keep.trans KK1 K2 (allS (Or.inl (own_m 1 rfl)) (allS (Or.inl (own_m 6 rfl)) (allS (Or.inl (own_m 5 rfl)) (allS (Or.inl (own_m 2 rfl)) (allS (Or.inl (own_m 0 rfl)) (allS (Or.inl (own_m 3 rfl)) (allS (Or.inl (own_m 4 rfl)) all0)))))))
  have F8 : fB8 Z h2 o0 (.int 3) := R2_5
  have F9 : AI4 Z h2 o4 j5 0 2 3 t15 := R2_18
  obtain ⟨cq10, kq10, q10a, q10b, q10c⟩ := isOf hZ e2 R2_12
  obtain ⟨_, _, ⟨T10, L10, k10, n10⟩, -, X10, ⟨Lc10, hQ10, l10, y10, z10⟩, st10⟩ := X2.virtualBack hx (y := (⟨kB, "endRow", "()V"⟩ : MethodName)) (z := (⟨kB, "endRow", "()V"⟩ : MethodName)) hown (mvT hZ (w_33 hw)) (mvT hZ (w_34 hw)) (notFace_of_selects (args := #[]) (mvT hZ (w_36 hw))) (mvT hZ (w_36 hw)) (mvT hZ (w_35 hw)) (by decide) (backOf (W := 0) (rm4_5 l Z a0 hw [] (3 : Int32) (own_ui 2 0 t6 t8) (own_ui 2 1 t6 t9) (own_ui 2 2 t6 t10) t6 t1 t2 (0 : Int32) (2 : Int32) (3 : Int32) t15 (3 : Int32) o0 o5 o2 o4 o1 o3 o6 j3 j1 j5 h2 n0 O2 F8 R2_6 R2_7 R2_1 (by decide) R2_8 R2_0 u2 (Ne.symm v2) R2_12 u1 R2_9 R2_14 F9 v17 v16 u6 R2_13 R2_11 R2_15 R2_10) hZ (w_37 hw) (w_2 hw) (by decide) (by decide)) q10a q10c (g := (mkF m 104 #[iv t16, iv t17, iv t18, iv t19, iv t7, iv t20, iv t21, iv t22, iv t6, rv o0, .unset, .unset, .unset, .unset] [(.ref o0)])) rfl (by rw [hml]; rfl) (Steps.refl _) (argsL := []) (rest := []) (lenOf pd_6 rfl) rfl (by show 2 * 0 + _ ≤ _; exact Nat.le_of_eq rfl) (hb hby at_104) (fun _ _ => ⟨rfl, e2, (by decide : 7 + 0 ≤ _), (by decide : 29 + 0 ≤ _)⟩)
  dsimp only [Pt.U, Pt.locs, Pt.cells, Pt.slots] at X10 l10 y10 z10 st10 hQ10
  subst l10 y10 z10
  obtain ⟨h10, e10⟩ : ∃ z, T10.heap = z := ⟨_, rfl⟩
  rw [e10] at hQ10
  obtain ⟨rfl, N10q, K10, R10_0, R10_1, R10_2, R10_3, R10_4, R10_5, R10_6, R10_7, R10_8, R10_9, R10_10, R10_11, R10_12⟩ := hQ10
  have N10 := Fr.app N2 N10q
  have O10 := Old.keep O2 K10 (allS u2 (allS u1 (allS u6 all0)))
  have KK10 := Keep.trans KK2 K10 (allS (Or.inl (own_m 1 rfl)) (allS (Or.inl (own_m 2 rfl)) (allS (Or.inl (own_m 4 rfl)) all0)))
  have F12 := (Arv.keep R2_1 K10 (ninS v8 (ninS v7 (ninS (Ne.symm v19) nin0))))
  have F13 := (Exa.keep R2_2 K10)
  have F14 := (Arv.keep R2_3 K10 (ninS v12 (ninS v11 (ninS (Ne.symm v20) nin0))))
  have F15 := (Exa.keep R2_4 K10)
  obtain ⟨cq11, kq11, q11a, q11b, q11c⟩ := isOf hZ e10 R10_5
  obtain ⟨_, _, ⟨T11, L11, k11, n11⟩, -, X11, ⟨Lc11, hQ11, l11, y11, z11⟩, st11⟩ := X10.virtualBack hx (y := (⟨kB, "build", "()Lcom/example/rekurze/rekurze/numeric/SparseMatrix;"⟩ : MethodName)) (z := (⟨kB, "build", "()Lcom/example/rekurze/rekurze/numeric/SparseMatrix;"⟩ : MethodName)) hown (mvT hZ (w_59 hw)) (mvT hZ (w_60 hw)) (notFace_of_selects (args := #[]) (mvT hZ (w_62 hw))) (mvT hZ (w_62 hw)) (mvT hZ (w_61 hw)) (by decide) (backOf (W := 0) (rm10_1 l Z a0 hw [] (own_ui 2 0 t6 t8) (own_ui 2 1 t6 t9) (own_ui 2 2 t6 t10) (own_up 2 0 (own_pk t6 (t3 + (own_pt t6 0 (t7.toInt64))) (t4 + (own_pt t6 1 (t7.toInt64))) (t5 + (own_pt t6 2 (t7.toInt64)))) t11) (own_up 2 1 (own_pk t6 (t3 + (own_pt t6 0 (t7.toInt64))) (t4 + (own_pt t6 1 (t7.toInt64))) (t5 + (own_pt t6 2 (t7.toInt64)))) t12) (own_up 2 2 (own_pk t6 (t3 + (own_pt t6 0 (t7.toInt64))) (t4 + (own_pt t6 1 (t7.toInt64))) (t5 + (own_pt t6 2 (t7.toInt64)))) t13) o0 o4 o5 o6 j3 j4 h10 n0 O10 R10_6 R10_10 R10_7 R10_3 R10_1 F12 F13 R10_11 F14 F15) hZ (w_63 hw) (w_2 hw) (by decide) (by decide)) q11a q11c (g := (mkF m 109 #[iv t16, iv t17, iv t18, iv t19, iv t7, iv t20, iv t21, iv t22, iv t6, rv o0, .unset, .unset, .unset, .unset] [(.ref o0)])) rfl (by rw [hml]; rfl) (Steps.refl _) (argsL := []) (rest := []) (lenOf pd_11 rfl) rfl (by show 2 * 0 + _ ≤ _; exact Nat.le_of_eq rfl) (hb hby at_109) (fun _ _ => ⟨rfl, e10, (by decide : 7 + 3 ≤ _), (by decide : 29 + 9 ≤ _)⟩)
  dsimp only [Pt.U, Pt.locs, Pt.cells, Pt.slots] at X11 l11 y11 z11 st11 hQ11
  subst l11 y11 z11
  obtain ⟨h11, e11⟩ : ∃ z, T11.heap = z := ⟨_, rfl⟩
  rw [e11] at hQ11
  obtain ⟨o7, o8, o9, rfl, N11q, K11, sp11_o7, sp11_o8, sp11_o9, ne11_o7_o8, ne11_o7_o9, ne11_o8_o9, R11_0, R11_1, R11_2, R11_3, R11_4, R11_5, R11_6, R11_7⟩ := hQ11
  have N11 := Fr.app N10 N11q
  have g16 : n0 ≤ o7 := Nat.le_trans (own_le O10) sp11_o7
  have s17 : h0.size ≤ o7 := Nat.le_trans (KK10).1 sp11_o7
  have g18 : n0 ≤ o8 := Nat.le_trans (own_le O10) sp11_o8
  have s19 : h0.size ≤ o8 := Nat.le_trans (KK10).1 sp11_o8
  have g20 : n0 ≤ o9 := Nat.le_trans (own_le O10) sp11_o9
  have s21 : h0.size ≤ o9 := Nat.le_trans (KK10).1 sp11_o9
  have O11 := Old.keep O10 K11 all0
  have KK11 := Keep.trans KK10 K11 all0
  have F23 := (Arv.keep R10_12 K11 nin0)
  obtain ⟨cq22, kq22, q22a, q22b, q22c⟩ := isOf hZ e11 R11_0
  obtain ⟨_, _, ⟨T22, L22, k22, n22⟩, -, X22, ⟨Lc22, hQ22, l22, y22, z22⟩, st22⟩ := X11.virtualBack hx (y := (⟨kM, "dense", "()[[D"⟩ : MethodName)) (z := (⟨kM, "dense", "()[[D"⟩ : MethodName)) hown (mvT hZ (w_91 hw)) (mvT hZ (w_92 hw)) (notFace_of_selects (args := #[]) (mvT hZ (w_94 hw))) (mvT hZ (w_94 hw)) (mvT hZ (w_93 hw)) (by decide) (backOf (W := 0) (rm15_1 l Z a0 hw [] (own_ui 2 0 t6 t8) (own_ui 2 1 t6 t9) (own_ui 2 2 t6 t10) (own_up 2 0 (own_pk t6 (t3 + (own_pt t6 0 (t7.toInt64))) (t4 + (own_pt t6 1 (t7.toInt64))) (t5 + (own_pt t6 2 (t7.toInt64)))) t11) (own_up 2 1 (own_pk t6 (t3 + (own_pt t6 0 (t7.toInt64))) (t4 + (own_pt t6 1 (t7.toInt64))) (t5 + (own_pt t6 2 (t7.toInt64)))) t12) (own_up 2 2 (own_pk t6 (t3 + (own_pt t6 0 (t7.toInt64))) (t4 + (own_pt t6 1 (t7.toInt64))) (t5 + (own_pt t6 2 (t7.toInt64)))) t13) o7 o4 o8 o9 j5 j3 j4 h11 n0 O11 R11_1 F23 R11_0 R11_2 R11_5 R11_3 R11_7 d3 d4 d5) hZ (w_95 hw) (w_66 hw) (by decide) (by decide)) q22a q22c (g := (mkF m 116 #[iv t16, iv t17, iv t18, iv t19, iv t7, iv t20, iv t21, iv t22, iv t6, rv o0, rv o7, .unset, .unset, .unset] [(.ref o7)])) rfl (by rw [hml]; rfl) (Steps.refl _) (argsL := []) (rest := []) (lenOf pd_13 rfl) rfl (by show 2 * 0 + _ ≤ _; exact Nat.le_of_eq rfl) (hb hby at_116) (fun _ _ => ⟨rfl, e11, (by decide : 10 + 4 ≤ _), (by decide : 38 + 12 ≤ _)⟩)
  dsimp only [Pt.U, Pt.locs, Pt.cells, Pt.slots] at X22 l22 y22 z22 st22 hQ22
  subst l22 y22 z22
  obtain ⟨h22, e22⟩ : ∃ z, T22.heap = z := ⟨_, rfl⟩
  rw [e22] at hQ22
  obtain ⟨o10, o11, o12, o13, j6, j7, rfl, N22q, K22, sp22_o10, sp22_o11, sp22_o12, sp22_o13, ne22_o10_o11, ne22_o10_o12, ne22_o10_o13, ne22_o11_o12, ne22_o11_o13, ne22_o12_o13, R22_0, R22_1, R22_2, R22_3⟩ := hQ22
  have N22 := Fr.app N11 N22q
  have g24 : n0 ≤ o10 := Nat.le_trans (own_le O11) sp22_o10
  have s25 : h0.size ≤ o10 := Nat.le_trans (KK11).1 sp22_o10
  have g26 : n0 ≤ o11 := Nat.le_trans (own_le O11) sp22_o11
  have s27 : h0.size ≤ o11 := Nat.le_trans (KK11).1 sp22_o11
  have g28 : n0 ≤ o12 := Nat.le_trans (own_le O11) sp22_o12
  have s29 : h0.size ≤ o12 := Nat.le_trans (KK11).1 sp22_o12
  have g30 : n0 ≤ o13 := Nat.le_trans (own_le O11) sp22_o13
  have s31 : h0.size ≤ o13 := Nat.le_trans (KK11).1 sp22_o13
  have O22 := Old.keep O11 K22 all0
  have KK22 := Keep.trans KK11 K22 all0
  have F32 := (Exa.keep R11_0 K22)
  have F33 := (Fld.keep R11_1 K22 nin0)
  have F34 := (Fld.keep R11_2 K22 nin0)
  have F35 := (Fld.keep R11_3 K22 nin0)
  have F36 := (Exa.keep R11_4 K22)
  have F37 := (Arv.keep R11_5 K22 nin0)
  have F38 := (Exa.keep R11_6 K22)
  have F39 := (Arv.keep R11_7 K22 nin0)
  have F40 := (Arv.keep (Arv.keep (Arv.keep R2_16 K10 (ninS v5 (ninS v4 (ninS (Ne.symm v18) nin0)))) K11 nin0) K22 nin0)
  have F41 := (Arv.keep (Arv.keep R10_0 K11 nin0) K22 nin0)
  have F42 := (Fld.keep (Fld.keep R10_8 K11 nin0) K22 nin0)
  have F43 := (Fld.keep (Fld.keep R10_4 K11 nin0) K22 nin0)
  have F44 := (Fld.keep (Fld.keep R10_2 K11 nin0) K22 nin0)
  have F45 := (Exa.keep (Exa.keep R10_5 K11) K22)
  have F46 := (Fld.keep (Fld.keep R10_9 K11 nin0) K22 nin0)
  have F47 := (Fld.keep (Fld.keep R10_10 K11 nin0) K22 nin0)
  have F48 := (Fld.keep (Fld.keep R10_7 K11 nin0) K22 nin0)
  have F49 := (Fld.keep (Fld.keep R10_3 K11 nin0) K22 nin0)
  have F50 := (Fld.keep (Fld.keep R10_11 K11 nin0) K22 nin0)
  have F51 := (Fld.keep (Fld.keep R10_1 K11 nin0) K22 nin0)
  have F52 := (Fld.keep (Fld.keep R10_6 K11 nin0) K22 nin0)
  have F53 := (Arv.keep (Arv.keep (Arv.keep R2_17 K10 (ninS (Ne.symm v1) (ninS (Ne.symm v0) (ninS (Ne.symm v15) nin0)))) K11 nin0) K22 nin0)
  have F54 := (Arv.keep F23 K22 nin0)
  have F55 := (Arv.keep (Arv.keep F14 K11 nin0) K22 nin0)
  have F56 := (Exa.keep (Exa.keep F15 K11) K22)
  have F57 := (Arv.keep (Arv.keep F12 K11 nin0) K22 nin0)
  have F58 := (Exa.keep (Exa.keep F13 K11) K22)
  have ne59 : o7 ≠ o10 := Nat.ne_of_lt (Nat.lt_of_lt_of_le (R11_0).lt sp22_o10)
  have ne60 : o7 ≠ o11 := Nat.ne_of_lt (Nat.lt_of_lt_of_le (R11_0).lt sp22_o11)
  have ne61 : o7 ≠ o12 := Nat.ne_of_lt (Nat.lt_of_lt_of_le (R11_0).lt sp22_o12)
  have ne62 : o7 ≠ o13 := Nat.ne_of_lt (Nat.lt_of_lt_of_le (R11_0).lt sp22_o13)
  have ne63 : o8 ≠ o10 := Nat.ne_of_lt (Nat.lt_of_lt_of_le (R11_4).lt sp22_o10)
  have ne64 : o8 ≠ o11 := Nat.ne_of_lt (Nat.lt_of_lt_of_le (R11_4).lt sp22_o11)
  have ne65 : o8 ≠ o12 := Nat.ne_of_lt (Nat.lt_of_lt_of_le (R11_4).lt sp22_o12)
  have ne66 : o8 ≠ o13 := Nat.ne_of_lt (Nat.lt_of_lt_of_le (R11_4).lt sp22_o13)
  have ne67 : o9 ≠ o10 := Nat.ne_of_lt (Nat.lt_of_lt_of_le (R11_6).lt sp22_o10)
  have ne68 : o9 ≠ o11 := Nat.ne_of_lt (Nat.lt_of_lt_of_le (R11_6).lt sp22_o11)
  have ne69 : o9 ≠ o12 := Nat.ne_of_lt (Nat.lt_of_lt_of_le (R11_6).lt sp22_o12)
  have ne70 : o9 ≠ o13 := Nat.ne_of_lt (Nat.lt_of_lt_of_le (R11_6).lt sp22_o13)
  refine ⟨T22, h22, _, o7, o8, o9, o10, o11, o12, o13, j6, j7, X22, e22, N22, KK22, s17, s19, s21, s25, s27, s29, s31, ne11_o7_o8, ne11_o7_o9, ne59, ne60, ne61, ne62, ne11_o8_o9, ne63, ne64, ne65, ne66, ne67, ne68, ne69, ne70, ne22_o10_o11, ne22_o10_o12, ne22_o10_o13, ne22_o11_o12, ne22_o11_o13, ne22_o12_o13, F32, F33, F34, F35, F36, F37, F38, F39, R22_0, R22_1, R22_2, R22_3, F40, F41, F42, F43, F44, F45, F46, F47, F48, F49, F50, F51, F52, F53, F54, F55, F56, F57, F58, fun target kt => ?_⟩
  show Steps p.tables e below (T0.setTop (mkF m 87 #[iv t16, iv t17, iv t18, iv t19, iv t7, iv t20, iv t21, iv t22, iv t6, rv o0, .unset, .unset, .unset, .unset] [])) _
  refine oa X0 hx hby at_87 rfl rfl rfl ?_
  refine oi X0 hx hby at_89 rfl rfl ?_
  refine oi X0 hx hby at_91 rfl rfl ?_
  refine XS.i2dS X0.here hx rfl (hb hby at_93) rfl (v := FP.l2d (t7.toInt64)) (i2d_w t7) ?_
  refine st1.trans ?_
  refine oa X1 hx hby at_97 rfl rfl rfl ?_
  refine st2.trans ?_
  refine oa X2 hx hby at_102 rfl rfl rfl ?_
  refine st10.trans ?_
  refine oa X10 hx hby at_107 rfl rfl rfl ?_
  refine st11.trans ?_
  refine XS.astore X11.here hx rfl (hb hby at_112) rfl rfl (l' := #[iv t16, iv t17, iv t18, iv t19, iv t7, iv t20, iv t21, iv t22, iv t6, rv o0, rv o7, .unset, .unset, .unset]) rfl ?_
  refine oa X11 hx hby at_114 rfl rfl rfl ?_
  refine st22.trans ?_
  refine XS.astore X22.here hx rfl (hb hby at_119) rfl rfl (l' := #[iv t16, iv t17, iv t18, iv t19, iv t7, iv t20, iv t21, iv t22, iv t6, rv o0, rv o7, rv o10, .unset, .unset]) rfl ?_
  exact kt
theorem sg_13 {p : Program} {l : Launch} {e : Env} {s : State} {m : MethodId} {args : Array Value} {below : List Frame} {meth : Method} {c : Code} {T0 : State} {locs : List Loc} {Z : State} {a0 : Array Value} {h0 : Heap} {n0 cn sn : Nat} (hw : HW a0 Z) (t0 t1 t2 t3 t4 t5 t6 t7 t8 : Int32) (o0 o1 o2 : Addr)
    (X0 : Stand p l e room_1 s m args below meth c T0 locs cn sn) (hcn : cn ≤ room_1.cells) (hsn : sn ≤ room_1.slots) (hx : p.tables.exec = Jvm.exec) (hZ : Z.Warmed39 s.vm) (hby : c.code = code) (hml : c.maxLocals = 14) (hown : s.vm.findClass kL = some m.cls) (e0 : T0.heap = h0) (N0 : Fr n0 locs) (OO : Old Z n0 h0) (d0 : ¬ (t2 = t1)) (hq0 : t0 = t1) :
    ∃ (T' : State) (h' : Heap) (lc : List Loc), Stand p l e room_1 s m args below meth c T' lc cn sn ∧ T'.heap = h' ∧ Fr n0 lc ∧ Keep h0 h' [] ∧
      ∀ target, Steps p.tables e below (T'.setTop (mkF m 157 #[iv t3, iv t4, iv t5, iv t6, iv t7, iv t1, iv t2, iv t0, iv t8, rv o0, rv o1, rv o2, iv 2, .unset] [])) target → Steps p.tables e below (T0.setTop (mkF m 121 #[iv t3, iv t4, iv t5, iv t6, iv t7, iv t1, iv t2, iv t0, iv t8, rv o0, rv o1, rv o2, .unset, .unset] [])) target := by
  refine ⟨T0, h0, _, X0, e0, N0, (Keep.refl h0 []), fun target kt => ?_⟩
  show Steps p.tables e below (T0.setTop (mkF m 121 #[iv t3, iv t4, iv t5, iv t6, iv t7, iv t1, iv t2, iv t0, iv t8, rv o0, rv o1, rv o2, .unset, .unset] [])) _
  refine oK X0 hx hby at_121 rfl ?_
  refine oi X0 hx hby at_122 rfl rfl ?_
  refine oi X0 hx hby at_124 rfl rfl ?_
  refine XS.icmpNo X0.here hx rfl (hb hby at_126) rfl (feq d0).1 ?_
  refine oK X0 hx hby at_129 rfl ?_
  refine XS.goto X0.here hx rfl (pc0 := 130) (pc' := 134) rfl (hb hby at_130) (by decide) (by decide) ?_
  refine XS.iadd X0.here hx rfl (hb hby at_134) rfl ?_
  show Steps p.tables e below (T0.setTop (mkF m 135 #[iv t3, iv t4, iv t5, iv t6, iv t7, iv t1, iv t2, iv t0, iv t8, rv o0, rv o1, rv o2, .unset, .unset] [(.int ((1 : Int32) + (1 : Int32)))])) _
  rw [(by decide : ((1 : Int32) + (1 : Int32)) = (2 : Int32))]
  refine oi X0 hx hby at_135 rfl rfl ?_
  refine oi X0 hx hby at_137 rfl rfl ?_
  refine XS.icmpYes X0.here hx rfl (pc0 := 139) (pc' := 153) rfl (hb hby at_139) rfl (teq hq0).1 (by decide) (by decide) ?_
  refine oK X0 hx hby at_153 rfl ?_
  refine XS.iadd X0.here hx rfl (hb hby at_154) rfl ?_
  show Steps p.tables e below (T0.setTop (mkF m 155 #[iv t3, iv t4, iv t5, iv t6, iv t7, iv t1, iv t2, iv t0, iv t8, rv o0, rv o1, rv o2, .unset, .unset] [(.int ((2 : Int32) + (0 : Int32)))])) _
  rw [(by decide : ((2 : Int32) + (0 : Int32)) = (2 : Int32))]
  refine XS.istore X0.here hx rfl (hb hby at_155) rfl (l' := #[iv t3, iv t4, iv t5, iv t6, iv t7, iv t1, iv t2, iv t0, iv t8, rv o0, rv o1, rv o2, iv 2, .unset]) rfl ?_
  exact kt
theorem sg_14 {p : Program} {l : Launch} {e : Env} {s : State} {m : MethodId} {args : Array Value} {below : List Frame} {meth : Method} {c : Code} {T0 : State} {locs : List Loc} {Z : State} {a0 : Array Value} {h0 : Heap} {n0 cn sn : Nat} (hw : HW a0 Z) (t0 t1 t2 t3 t4 t5 t6 t7 t8 t9 t10 : Int32) (o0 o1 o2 o3 o4 o5 o6 : Addr) (j0 j1 : ClassId)
    (X0 : Stand p l e room_1 s m args below meth c T0 locs cn sn) (hcn : cn ≤ room_1.cells) (hsn : sn ≤ room_1.slots) (hx : p.tables.exec = Jvm.exec) (hZ : Z.Warmed39 s.vm) (hby : c.code = code) (hml : c.maxLocals = 14) (hown : s.vm.findClass kL = some m.cls) (e0 : T0.heap = h0) (N0 : Fr n0 locs) (OO : Old Z n0 h0) (f0 : fM10 Z h0 o0 (.ref o1)) (f1 : AI4 Z h0 o1 j0 t0 2 3 t1) (f2 : Exa Z h0 o0 kM) (f3 : Arv Z h0 o2 j1 (.array .double) (3 : Int32) [(.ref o3), (.ref o4), (.ref o5)] .null) :
    ∃ (T' : State) (h' : Heap) (lc : List Loc), Stand p l e room_1 s m args below meth c T' lc cn sn ∧ T'.heap = h' ∧ Fr n0 lc ∧ Keep h0 h' [] ∧
      ∀ target, Steps p.tables e below (T'.setTop (mkF m 207 #[iv t2, iv t3, iv t4, iv t5, iv t6, iv t7, iv t8, iv t9, iv t10, rv o6, rv o0, rv o2, iv 2, iv 1] [])) target → Steps p.tables e below (T0.setTop (mkF m 157 #[iv t2, iv t3, iv t4, iv t5, iv t6, iv t7, iv t8, iv t9, iv t10, rv o6, rv o0, rv o2, iv 2, .unset] [])) target := by
  obtain ⟨cq1, kq1, q1a, q1b, q1c⟩ := isOf hZ e0 f2
  obtain ⟨_, _, ⟨T1, L1, k1, n1⟩, -, X1, ⟨Lc1, hQ1, l1, y1, z1⟩, st1⟩ := X0.virtualBack hx (y := (⟨kM, "rowStart", "(I)I"⟩ : MethodName)) (z := (⟨kM, "rowStart", "(I)I"⟩ : MethodName)) hown (mvT hZ (w_103 hw)) (mvT hZ (w_104 hw)) (notFace_of_selects (args := #[]) (mvT hZ (w_106 hw))) (mvT hZ (w_106 hw)) (mvT hZ (w_105 hw)) (by decide) (backOf (W := 0) (rm17_0 l Z a0 hw [] t0 (2 : Int32) (3 : Int32) t1 o0 o1 j0 h0 n0 OO f0 f1) hZ (w_107 hw) (w_66 hw) (by decide) (by decide)) q1a q1c (g := (mkF m 160 #[iv t2, iv t3, iv t4, iv t5, iv t6, iv t7, iv t8, iv t9, iv t10, rv o6, rv o0, rv o2, iv 2, .unset] [(.int 1), (.ref o0)])) rfl (by rw [hml]; rfl) (Steps.refl _) (argsL := [(.int 1)]) (rest := []) (lenOf pd_14 rfl) rfl (by show 2 * 0 + _ ≤ _; exact Nat.le_of_eq rfl) (hb hby at_160) (fun _ _ => ⟨rfl, e0, hcn, hsn⟩)
  dsimp only [Pt.U, Pt.locs, Pt.cells, Pt.slots] at X1 l1 y1 z1 st1 hQ1
  subst l1 y1 z1
  obtain ⟨rfl, N1q, e1⟩ := hQ1
  have N1 := Fr.app N0 N1q
  obtain ⟨cq2, kq2, q2a, q2b, q2c⟩ := isOf hZ e1 f2
  obtain ⟨_, _, ⟨T2, L2, k2, n2⟩, -, X2, ⟨Lc2, hQ2, l2, y2, z2⟩, st2⟩ := X1.virtualBack hx (y := (⟨kM, "rowStart", "(I)I"⟩ : MethodName)) (z := (⟨kM, "rowStart", "(I)I"⟩ : MethodName)) hown (mvT hZ (w_103 hw)) (mvT hZ (w_104 hw)) (notFace_of_selects (args := #[]) (mvT hZ (w_106 hw))) (mvT hZ (w_106 hw)) (mvT hZ (w_105 hw)) (by decide) (backOf (W := 0) (rm17_1 l Z a0 hw [] t0 (2 : Int32) (3 : Int32) t1 o0 o1 j0 h0 n0 OO f0 f1) hZ (w_107 hw) (w_66 hw) (by decide) (by decide)) q2a q2c (g := (mkF m 171 #[iv t2, iv t3, iv t4, iv t5, iv t6, iv t7, iv t8, iv t9, iv t10, rv o6, rv o0, rv o2, iv 2, .unset] [(.int 2), (.ref o0)])) rfl (by rw [hml]; rfl) (Steps.refl _) (argsL := [(.int 2)]) (rest := []) (lenOf pd_14 rfl) rfl (by show 2 * 0 + _ ≤ _; exact Nat.le_of_eq rfl) (hb hby at_171) (fun _ _ => ⟨rfl, e1, hcn, hsn⟩)
  dsimp only [Pt.U, Pt.locs, Pt.cells, Pt.slots] at X2 l2 y2 z2 st2 hQ2
  subst l2 y2 z2
  obtain ⟨rfl, N2q, e2⟩ := hQ2
  have N2 := Fr.app N1 N2q
  obtain ⟨c3, r3, q3, S3, M3, H3, G3⟩ := id f3
  refine ⟨T2, h0, _, X2, e2, N2, (Keep.refl h0 []), fun target kt => ?_⟩
  show Steps p.tables e below (T0.setTop (mkF m 157 #[iv t2, iv t3, iv t4, iv t5, iv t6, iv t7, iv t8, iv t9, iv t10, rv o6, rv o0, rv o2, iv 2, .unset] [])) _
  refine oa X0 hx hby at_157 rfl rfl rfl ?_
  refine oK X0 hx hby at_159 rfl ?_
  refine st1.trans ?_
  show Steps p.tables e below (T1.setTop (mkF m 163 #[iv t2, iv t3, iv t4, iv t5, iv t6, iv t7, iv t8, iv t9, iv t10, rv o6, rv o0, rv o2, iv 2, .unset] [(.int 2)])) _
  refine oi X1 hx hby at_163 rfl rfl ?_
  refine XS.icmpNo X1.here hx rfl (hb hby at_165) rfl (by decide) ?_
  refine oa X1 hx hby at_168 rfl rfl rfl ?_
  refine oK X1 hx hby at_170 rfl ?_
  refine st2.trans ?_
  show Steps p.tables e below (T2.setTop (mkF m 174 #[iv t2, iv t3, iv t4, iv t5, iv t6, iv t7, iv t8, iv t9, iv t10, rv o6, rv o0, rv o2, iv 2, .unset] [(.int 3)])) _
  refine oi X2 hx hby at_174 rfl rfl ?_
  refine oK X2 hx hby at_176 rfl ?_
  refine XS.iadd X2.here hx rfl (hb hby at_177) rfl ?_
  show Steps p.tables e below (T2.setTop (mkF m 178 #[iv t2, iv t3, iv t4, iv t5, iv t6, iv t7, iv t8, iv t9, iv t10, rv o6, rv o0, rv o2, iv 2, .unset] [(.int ((2 : Int32) + (1 : Int32))), (.int 3)])) _
  rw [(by decide : ((2 : Int32) + (1 : Int32)) = (3 : Int32))]
  refine XS.icmpNo X2.here hx rfl (hb hby at_178) rfl (by decide) ?_
  refine oK X2 hx hby at_181 rfl ?_
  refine XS.goto X2.here hx rfl (pc0 := 182) (pc' := 186) rfl (hb hby at_182) (by decide) (by decide) ?_
  refine XS.istore X2.here hx rfl (hb hby at_186) rfl (l' := #[iv t2, iv t3, iv t4, iv t5, iv t6, iv t7, iv t8, iv t9, iv t10, rv o6, rv o0, rv o2, iv 2, iv 1]) rfl ?_
  refine oi X2 hx hby at_188 rfl rfl ?_
  refine XS.ifNo X2.here hx rfl (hb hby at_190) rfl (by decide) ?_
  refine oa X2 hx hby at_193 rfl rfl rfl ?_
  refine X2.arraylength hx (by rw [e2]; exact r3.1) (State.isArrayOf_alike hZ.alike r3.2.1) (g := (mkF m 195 #[iv t2, iv t3, iv t4, iv t5, iv t6, iv t7, iv t8, iv t9, iv t10, rv o6, rv o0, rv o2, iv 2, iv 1] [(.ref o2)])) rfl rfl (hb hby at_195) _ ?_
  rw [len_of S3 M3]
  refine oK X2 hx hby at_196 rfl ?_
  refine XS.icmpNo X2.here hx rfl (hb hby at_197) rfl (by decide) ?_
  refine oK X2 hx hby at_200 rfl ?_
  refine XS.goto X2.here hx rfl (pc0 := 201) (pc' := 205) rfl (hb hby at_201) (by decide) (by decide) ?_
  refine XS.istore X2.here hx rfl (hb hby at_205) rfl (l' := #[iv t2, iv t3, iv t4, iv t5, iv t6, iv t7, iv t8, iv t9, iv t10, rv o6, rv o0, rv o2, iv 2, iv 1]) rfl ?_
  exact kt
theorem rm0_1 (l : Launch) (Z : State) (a0 : Array Value) (hw : HW a0 Z) (ws : List Jvm.Cond) (p0 p1 p2 p3 p4 p5 p6 p7 p8 : Int32) (h0 : Heap) (n0 : Nat) (OO : Old Z n0 h0) (hc5 : ((p0 &&& (255 : Int32)) % (3 : Int32)) = p5) (hc6 : ((((p0.toUInt32 >>> ((8 : Int32) &&& 31).toUInt32).toInt32) &&& (255 : Int32)) % (3 : Int32)) = p6) (hc7 : ((((p0.toUInt32 >>> ((16 : Int32) &&& 31).toUInt32).toInt32) &&& (255 : Int32)) % (3 : Int32)) = p7) (hc8 : ((((p0.toUInt32 >>> ((24 : Int32) &&& 31).toUInt32).toInt32) &&& (255 : Int32)) % (3 : Int32)) = p8) (i5 : own_in3 p5) (i6 : own_in3 p6) (i7 : own_in3 p7) (hd0 : (own_pi p6 (own_ui p5 0 1 0) (own_ui p5 1 1 0) (own_ui p5 2 1 0)) = (0 : Int32)) (hd1 : ¬ ((own_pi p7 (own_ui p6 0 1 (own_ui p5 0 1 0)) (own_ui p6 1 1 (own_ui p5 1 1 0)) (own_ui p6 2 1 (own_ui p5 2 1 0))) = (0 : Int32))) (i8 : own_in3 p8) (hd2 : p7 = p5) :
    MetFree l x (head1 (Jvm.Cond.code x code maxLocals ret :: ws) room_1) (fun a U => a = #[(.int p0), (.int p1), (.int p2), (.int p3), (.int p4)] ∧ Z.Warmed39 U.vm ∧ U.heap = h0) (fun _ _ _ _ _ => True) (fun _ U o U' => ∃ v L, o = .returned v ∧ (v = some (.int (1 : Int32)) ∧ Fr n0 L) ∧ FrameEnd U o U' L room_1.cells room_1.slots) := by
  refine MetFree.of_bodySF (plainFor_of_name pn_0) hisR ?_
  intro p e s m args below meth c s₁ Bd hml0 hP hK
  obtain ⟨rfl, hZ, hh⟩ := hP
  have hx := Bd.exec
  have hby := Bd.bytes
  have hml : c.maxLocals = 14 := hml0
  have hown : s.vm.findClass kL = some m.cls := findClass_of_methodNamed Bd.named
  have X0 : Stand p l e room_1 s m #[(.int p0), (.int p1), (.int p2), (.int p3), (.int p4)] below meth c s₁ [] 0 0 := Stand.of_body Bd
  have e0 : s₁.heap = h0 := by rw [← hh, Bd.state]; rfl
  have N0 := Fr.nil n0
  obtain ⟨T1, h1, lc1, b1, b2, b3, b4, b5, b6, b7, kb2, kb3, kb4, kb5, kb6, kb7, X1, e1, N1, K1, sp1_b1, sp1_b2, sp1_b3, sp1_b4, sp1_b5, sp1_b6, sp1_b7, ne1_b1_b2, ne1_b1_b3, ne1_b1_b4, ne1_b1_b5, ne1_b1_b6, ne1_b1_b7, ne1_b2_b3, ne1_b2_b4, ne1_b2_b5, ne1_b2_b6, ne1_b2_b7, ne1_b3_b4, ne1_b3_b5, ne1_b3_b6, ne1_b3_b7, ne1_b4_b5, ne1_b4_b6, ne1_b4_b7, ne1_b5_b6, ne1_b5_b7, ne1_b6_b7, R1_0, R1_1, R1_2, R1_3, R1_4, R1_5, R1_6, R1_7, R1_8, R1_9, R1_10, R1_11, R1_12, R1_13, R1_14, R1_15, R1_16, R1_17, R1_18, st1⟩ := sg_0 hw p5 p1 p0 p2 p3 p4 p6 p7 p8 X0 hx hZ hby hml hown e0 N0 OO i5 (own_q0 i5) own_q1
  have g2 : n0 ≤ b1 := Nat.le_trans (own_le OO) sp1_b1
  have g3 : n0 ≤ b2 := Nat.le_trans (own_le OO) sp1_b2
  have g4 : n0 ≤ b3 := Nat.le_trans (own_le OO) sp1_b3
  have g5 : n0 ≤ b4 := Nat.le_trans (own_le OO) sp1_b4
  have g6 : n0 ≤ b5 := Nat.le_trans (own_le OO) sp1_b5
  have g7 : n0 ≤ b6 := Nat.le_trans (own_le OO) sp1_b6
  have g8 : n0 ≤ b7 := Nat.le_trans (own_le OO) sp1_b7
  have O1 := Old.keep OO K1 all0
  obtain ⟨T9, h9, lc9, X9, e9, N9, K9, R9_0, R9_1, R9_2, R9_3, R9_4, R9_5, R9_6, R9_7, R9_8, R9_9, R9_10, R9_11, R9_12, R9_13, R9_14, R9_15, R9_16, R9_17, R9_18, st9⟩ := sg_11 hw p6 _ _ _ p7 p5 (0 : Int32) (0 : Int32) _ _ _ (3 : Int32) p2 p3 (0 : Int32) (0 : Int32) (0 : Int32) (0 : Int64) (0 : Int64) (0 : Int64) (0 : Int32) (0 : Int32) (0 : Int32) (0 : Int32) p0 p1 p4 p5 p8 b1 b3 b4 b2 b5 b6 b7 kb3 kb4 kb2 kb6 kb7 kb5 X1 (by decide) (by decide) hx hZ hby hml hown e1 N1 O1 R1_3 R1_12 R1_4 R1_8 R1_0 R1_13 R1_2 R1_11 R1_1 R1_5 R1_6 R1_7 R1_9 R1_10 i6 g4 ne1_b1_b3 g2 (Ne.symm ne1_b3_b4) (Ne.symm ne1_b1_b4) g5 ne1_b2_b3 (Ne.symm ne1_b1_b2) ne1_b2_b4 (own_q2 i6) own_q3 g3 i7 (own_q4 i7) own_q5 R1_16 R1_18 R1_14 R1_15 R1_17 (Ne.symm ne1_b3_b6) (Ne.symm ne1_b1_b6) (Ne.symm ne1_b4_b6) (Ne.symm ne1_b2_b6) g7 (own_s3_in i5 i6) (Ne.symm ne1_b3_b7) (Ne.symm ne1_b1_b7) (Ne.symm ne1_b4_b7) (Ne.symm ne1_b2_b7) (Ne.symm ne1_b6_b7) g8 (own_s4_in i5 i6) (Ne.symm ne1_b3_b5) (Ne.symm ne1_b1_b5) (Ne.symm ne1_b4_b5) (Ne.symm ne1_b2_b5) ne1_b5_b6 ne1_b5_b7 g6 hd0 hd1
  have O9 := Old.keep O1 K9 (allS g3 (allS g5 (allS g2 (allS g4 (allS g6 (allS g8 (allS g7 all0)))))))
  have F10 : AD3 Z h9 b7 kb7 (own_pk (own_s3 p5 p6) ((((0 : Int64) + (own_pt p5 0 (p1.toInt64))) + (own_pt p6 0 (p2.toInt64))) + (own_pt p7 0 (p3.toInt64))) ((((0 : Int64) + (own_pt p5 1 (p1.toInt64))) + (own_pt p6 1 (p2.toInt64))) + (own_pt p7 1 (p3.toInt64))) ((((0 : Int64) + (own_pt p5 2 (p1.toInt64))) + (own_pt p6 2 (p2.toInt64))) + (own_pt p7 2 (p3.toInt64)))) (own_pk (own_s4 p5 p6) (own_up (own_s3 p5 p6) 0 (0 : Int64) ((((0 : Int64) + (own_pt p5 0 (p1.toInt64))) + (own_pt p6 0 (p2.toInt64))) + (own_pt p7 0 (p3.toInt64)))) (own_up (own_s3 p5 p6) 1 (0 : Int64) ((((0 : Int64) + (own_pt p5 1 (p1.toInt64))) + (own_pt p6 1 (p2.toInt64))) + (own_pt p7 1 (p3.toInt64)))) (own_up (own_s3 p5 p6) 2 (0 : Int64) ((((0 : Int64) + (own_pt p5 2 (p1.toInt64))) + (own_pt p6 2 (p2.toInt64))) + (own_pt p7 2 (p3.toInt64))))) 0 := R9_15
  have F11 : AZ3 Z h9 b3 kb3 0 0 0 := own_cgI R9_13 (own_q19 i5 i6 i7 hd0 hd1).1 (own_q19 i5 i6 i7 hd0 hd1).2.1 (own_q19 i5 i6 i7 hd0 hd1).2.2
  have F12 : AD3 Z h9 b2 kb2 0 0 0 := own_cgD R9_0 (own_q20 i5 i6 i7 hd0 hd1).1 (own_q20 i5 i6 i7 hd0 hd1).2.1 (own_q20 i5 i6 i7 hd0 hd1).2.2
  obtain ⟨T13, h13, lc13, b8, b9, b10, b11, b12, b13, b14, kb11, kb12, X13, e13, N13, K13, sp13_b8, sp13_b9, sp13_b10, sp13_b11, sp13_b12, sp13_b13, sp13_b14, ne13_b8_b9, ne13_b8_b10, ne13_b8_b11, ne13_b8_b12, ne13_b8_b13, ne13_b8_b14, ne13_b9_b10, ne13_b9_b11, ne13_b9_b12, ne13_b9_b13, ne13_b9_b14, ne13_b10_b11, ne13_b10_b12, ne13_b10_b13, ne13_b10_b14, ne13_b11_b12, ne13_b11_b13, ne13_b11_b14, ne13_b12_b13, ne13_b12_b14, ne13_b13_b14, R13_0, R13_1, R13_2, R13_3, R13_4, R13_5, R13_6, R13_7, R13_8, R13_9, R13_10, R13_11, R13_12, R13_13, R13_14, R13_15, R13_16, R13_17, R13_18, R13_19, R13_20, R13_21, R13_22, R13_23, R13_24, R13_25, R13_26, R13_27, R13_28, R13_29, R13_30, st13⟩ := sg_12 hw (own_s3 p5 p6) (own_s4 p5 p6) (0 : Int32) (0 : Int64) (0 : Int64) (0 : Int64) p8 p4 (own_s3 p5 p6) (own_s4 p5 p6) (0 : Int32) _ _ (0 : Int64) (0 : Int32) (0 : Int32) p0 p1 p2 p3 p5 p6 p7 b1 b3 b4 b2 b5 b6 b7 kb3 kb4 kb2 kb6 kb7 kb5 X9 hx hZ hby hml hown e9 N9 O9 R9_2 F11 R9_3 R9_4 R9_5 R9_1 R9_6 F12 R9_7 R9_8 R9_9 R9_10 R9_11 R9_12 i8 g4 ne1_b1_b3 g2 (Ne.symm ne1_b3_b4) (Ne.symm ne1_b1_b4) g5 ne1_b2_b3 (Ne.symm ne1_b1_b2) ne1_b2_b4 (own_q8 i8) own_q9 g3 R9_17 F10 R9_14 R9_18 R9_16 (Ne.symm ne1_b3_b6) (Ne.symm ne1_b1_b6) (Ne.symm ne1_b4_b6) (Ne.symm ne1_b2_b6) g7 (Ne.symm ne1_b3_b7) (Ne.symm ne1_b1_b7) (Ne.symm ne1_b4_b7) (Ne.symm ne1_b2_b7) (Ne.symm ne1_b6_b7) g8 (Ne.symm ne1_b3_b5) (Ne.symm ne1_b1_b5) (Ne.symm ne1_b4_b5) (Ne.symm ne1_b2_b5) ne1_b5_b6 ne1_b5_b7 g6 (own_iun p8 (by decide) (own_s3_in i5 i6)) (own_iun p8 (by decide) (own_s4_in i5 i6)) (own_iue 0 i8)
  have g14 : n0 ≤ b8 := Nat.le_trans (own_le O9) sp13_b8
  have g15 : n0 ≤ b9 := Nat.le_trans (own_le O9) sp13_b9
  have g16 : n0 ≤ b10 := Nat.le_trans (own_le O9) sp13_b10
  have g17 : n0 ≤ b11 := Nat.le_trans (own_le O9) sp13_b11
  have g18 : n0 ≤ b12 := Nat.le_trans (own_le O9) sp13_b12
  have g19 : n0 ≤ b13 := Nat.le_trans (own_le O9) sp13_b13
  have g20 : n0 ≤ b14 := Nat.le_trans (own_le O9) sp13_b14
  have O13 := Old.keep O9 K13 (allS g3 (allS g5 (allS g2 (allS g4 (allS g6 (allS g8 (allS g7 all0)))))))
  obtain ⟨T21, h21, lc21, X21, e21, N21, K21, st21⟩ := sg_13 hw p7 p5 p6 p0 p1 p2 p3 p4 p8 b1 b8 b11 X13 (by decide) (by decide) hx hZ hby hml hown e13 N13 O13 (own_q21 i5 i6 i7 hd0 hd1 hd2) hd2
  have O21 := Old.keep O13 K21 all0
  have F23 := (Fld.keep R13_1 K21 nin0)
  have F24 := (Arv.keep R13_26 K21 nin0)
  have F25 := (Exa.keep R13_0 K21)
  have F26 := (Arv.keep R13_8 K21 nin0)
  obtain ⟨T22, h22, lc22, X22, e22, N22, K22, st22⟩ := sg_14 hw (0 : Int32) (3 : Int32) p0 p1 p2 p3 p4 p5 p6 p7 p8 b8 b5 b11 b12 b13 b14 b1 kb5 kb11 X21 (by decide) (by decide) hx hZ hby hml hown e21 N21 O21 F23 F24 F25 F26
  have O22 := Old.keep O21 K22 all0
  have F28 := (Arv.keep F26 K22 nin0)
  have F29 := (Arv.keep (Arv.keep R13_9 K21 nin0) K22 nin0)
  have F30 := (Arv.keep (Arv.keep R13_10 K21 nin0) K22 nin0)
  have F31 := (Arv.keep (Arv.keep R13_11 K21 nin0) K22 nin0)
  obtain ⟨T27, h27, lc27, X27, e27, N27, K27, st27⟩ := sg_10 hw _ _ _ p5 p1 p6 p2 p7 p3 _ _ _ p8 p4 (0 : Int64) (0 : Int64) (0 : Int64) p0 (2 : Int32) b11 b12 b13 b14 b1 b8 kb11 kb12 X22 (by decide) (by decide) hx hZ hby hml hown e22 N22 O22 F28 F29 (own_q22 i5 i6 i7 i8 hd0 hd1 hd2) (own_q23 i5 i6 i7 i8 hd0 hd1 hd2) (own_q24 i5 i6 i7 i8 hd0 hd1 hd2) F30 (own_q25 i8) (own_q26 i8) (own_q27 i8) F31 (by decide) (by decide) (by decide)
  have O27 := Old.keep O22 K27 all0
  obtain ⟨fs, hr, hrun, hended, hW, hsame⟩ := X27.leave (v := some (.int 1)) (fun h => by rw [Bd.returns] at h; cases h)
  refine ⟨_, _, (castTop (ef_0 m p0 p1 p2 p3 p4) ?_), hrun, hended, _, _, rfl, ?_, ⟨_, rfl⟩, hW, hsame.mono (by decide) (by decide)⟩
  · show Steps p.tables e below (s₁.setTop (mkF m 0 #[iv p0, iv p1, iv p2, iv p3, iv p4, .unset, .unset, .unset, .unset, .unset, .unset, .unset, .unset, .unset] [])) _
    refine oI X0 hx hby at_0 rfl rfl ?_
    refine XS.sipush X0.here hx rfl (hb hby at_1) ?_
    refine XS.iand X0.here hx rfl (hb hby at_4) rfl ?_
    refine oK X0 hx hby at_5 rfl ?_
    refine iremM X0 hx rfl (hb hby at_6) rfl (by decide) ?_
    show Steps p.tables e below (s₁.setTop (mkF m 7 #[iv p0, iv p1, iv p2, iv p3, iv p4, .unset, .unset, .unset, .unset, .unset, .unset, .unset, .unset, .unset] [(.int ((p0 &&& (255 : Int32)) % (3 : Int32)))])) _
    rw [hc5]
    refine XS.istore X0.here hx rfl (hb hby at_7) rfl (l' := #[iv p0, iv p1, iv p2, iv p3, iv p4, iv p5, .unset, .unset, .unset, .unset, .unset, .unset, .unset, .unset]) rfl ?_
    refine oI X0 hx hby at_9 rfl rfl ?_
    refine XS.bipush X0.here hx rfl (hb hby at_10) ?_
    refine XS.iushr X0.here hx rfl (hb hby at_12) rfl ?_
    refine XS.sipush X0.here hx rfl (hb hby at_13) ?_
    refine XS.iand X0.here hx rfl (hb hby at_16) rfl ?_
    refine oK X0 hx hby at_17 rfl ?_
    refine iremM X0 hx rfl (hb hby at_18) rfl (by decide) ?_
    show Steps p.tables e below (s₁.setTop (mkF m 19 #[iv p0, iv p1, iv p2, iv p3, iv p4, iv p5, .unset, .unset, .unset, .unset, .unset, .unset, .unset, .unset] [(.int ((((p0.toUInt32 >>> ((8 : Int32) &&& 31).toUInt32).toInt32) &&& (255 : Int32)) % (3 : Int32)))])) _
    rw [hc6]
    refine XS.istore X0.here hx rfl (hb hby at_19) rfl (l' := #[iv p0, iv p1, iv p2, iv p3, iv p4, iv p5, iv p6, .unset, .unset, .unset, .unset, .unset, .unset, .unset]) rfl ?_
    refine oI X0 hx hby at_21 rfl rfl ?_
    refine XS.bipush X0.here hx rfl (hb hby at_22) ?_
    refine XS.iushr X0.here hx rfl (hb hby at_24) rfl ?_
    refine XS.sipush X0.here hx rfl (hb hby at_25) ?_
    refine XS.iand X0.here hx rfl (hb hby at_28) rfl ?_
    refine oK X0 hx hby at_29 rfl ?_
    refine iremM X0 hx rfl (hb hby at_30) rfl (by decide) ?_
    show Steps p.tables e below (s₁.setTop (mkF m 31 #[iv p0, iv p1, iv p2, iv p3, iv p4, iv p5, iv p6, .unset, .unset, .unset, .unset, .unset, .unset, .unset] [(.int ((((p0.toUInt32 >>> ((16 : Int32) &&& 31).toUInt32).toInt32) &&& (255 : Int32)) % (3 : Int32)))])) _
    rw [hc7]
    refine XS.istore X0.here hx rfl (hb hby at_31) rfl (l' := #[iv p0, iv p1, iv p2, iv p3, iv p4, iv p5, iv p6, iv p7, .unset, .unset, .unset, .unset, .unset, .unset]) rfl ?_
    refine oI X0 hx hby at_33 rfl rfl ?_
    refine XS.bipush X0.here hx rfl (hb hby at_34) ?_
    refine XS.iushr X0.here hx rfl (hb hby at_36) rfl ?_
    refine XS.sipush X0.here hx rfl (hb hby at_37) ?_
    refine XS.iand X0.here hx rfl (hb hby at_40) rfl ?_
    refine oK X0 hx hby at_41 rfl ?_
    refine iremM X0 hx rfl (hb hby at_42) rfl (by decide) ?_
    show Steps p.tables e below (s₁.setTop (mkF m 43 #[iv p0, iv p1, iv p2, iv p3, iv p4, iv p5, iv p6, iv p7, .unset, .unset, .unset, .unset, .unset, .unset] [(.int ((((p0.toUInt32 >>> ((24 : Int32) &&& 31).toUInt32).toInt32) &&& (255 : Int32)) % (3 : Int32)))])) _
    rw [hc8]
    refine XS.istore X0.here hx rfl (hb hby at_43) rfl (l' := #[iv p0, iv p1, iv p2, iv p3, iv p4, iv p5, iv p6, iv p7, iv p8, .unset, .unset, .unset, .unset, .unset]) rfl ?_
    show Steps p.tables e below (s₁.setTop (mkF m 45 #[iv p0, iv p1, iv p2, iv p3, iv p4, iv p5, iv p6, iv p7, iv p8, .unset, .unset, .unset, .unset, .unset] [])) _
    refine st1 _ ?_
    show Steps p.tables e below (T1.setTop (mkF m 64 #[iv p0, iv p1, iv p2, iv p3, iv p4, iv p5, iv p6, iv p7, iv p8, rv b1, .unset, .unset, .unset, .unset] [])) _
    refine st9 _ ?_
    show Steps p.tables e below (T9.setTop (mkF m 87 #[iv p0, iv p1, iv p2, iv p3, iv p4, iv p5, iv p6, iv p7, iv p8, rv b1, .unset, .unset, .unset, .unset] [])) _
    refine st13 _ ?_
    show Steps p.tables e below (T13.setTop (mkF m 121 #[iv p0, iv p1, iv p2, iv p3, iv p4, iv p5, iv p6, iv p7, iv p8, rv b1, rv b8, rv b11, .unset, .unset] [])) _
    refine st21 _ ?_
    show Steps p.tables e below (T21.setTop (mkF m 157 #[iv p0, iv p1, iv p2, iv p3, iv p4, iv p5, iv p6, iv p7, iv p8, rv b1, rv b8, rv b11, iv 2, .unset] [])) _
    refine st22 _ ?_
    show Steps p.tables e below (T22.setTop (mkF m 207 #[iv p0, iv p1, iv p2, iv p3, iv p4, iv p5, iv p6, iv p7, iv p8, rv b1, rv b8, rv b11, iv 2, iv 1] [])) _
    refine st27 _ ?_
    refine oi X27 hx hby at_369 rfl rfl ?_
    exact retN X27 hx (t := .boolean) Bd.returns (by simp) (hb hby at_371) hr
  · exact ⟨rfl, N27⟩
theorem sg_15 {p : Program} {l : Launch} {e : Env} {s : State} {m : MethodId} {args : Array Value} {below : List Frame} {meth : Method} {c : Code} {T0 : State} {locs : List Loc} {Z : State} {a0 : Array Value} {h0 : Heap} {n0 cn sn : Nat} (hw : HW a0 Z) (t0 t1 t2 t3 t4 t5 t6 t7 t8 : Int32) (o0 o1 o2 : Addr)
    (X0 : Stand p l e room_1 s m args below meth c T0 locs cn sn) (hcn : cn ≤ room_1.cells) (hsn : sn ≤ room_1.slots) (hx : p.tables.exec = Jvm.exec) (hZ : Z.Warmed39 s.vm) (hby : c.code = code) (hml : c.maxLocals = 14) (hown : s.vm.findClass kL = some m.cls) (e0 : T0.heap = h0) (N0 : Fr n0 locs) (OO : Old Z n0 h0) (d0 : ¬ (t2 = t1)) (d1 : t0 = t2) (hq0 : ¬ (t0 = t1)) :
    ∃ (T' : State) (h' : Heap) (lc : List Loc), Stand p l e room_1 s m args below meth c T' lc cn sn ∧ T'.heap = h' ∧ Fr n0 lc ∧ Keep h0 h' [] ∧
      ∀ target, Steps p.tables e below (T'.setTop (mkF m 157 #[iv t3, iv t4, iv t5, iv t6, iv t7, iv t1, iv t2, iv t0, iv t8, rv o0, rv o1, rv o2, iv 2, .unset] [])) target → Steps p.tables e below (T0.setTop (mkF m 121 #[iv t3, iv t4, iv t5, iv t6, iv t7, iv t1, iv t2, iv t0, iv t8, rv o0, rv o1, rv o2, .unset, .unset] [])) target := by
  refine ⟨T0, h0, _, X0, e0, N0, (Keep.refl h0 []), fun target kt => ?_⟩
  show Steps p.tables e below (T0.setTop (mkF m 121 #[iv t3, iv t4, iv t5, iv t6, iv t7, iv t1, iv t2, iv t0, iv t8, rv o0, rv o1, rv o2, .unset, .unset] [])) _
  refine oK X0 hx hby at_121 rfl ?_
  refine oi X0 hx hby at_122 rfl rfl ?_
  refine oi X0 hx hby at_124 rfl rfl ?_
  refine XS.icmpNo X0.here hx rfl (hb hby at_126) rfl (feq d0).1 ?_
  refine oK X0 hx hby at_129 rfl ?_
  refine XS.goto X0.here hx rfl (pc0 := 130) (pc' := 134) rfl (hb hby at_130) (by decide) (by decide) ?_
  refine XS.iadd X0.here hx rfl (hb hby at_134) rfl ?_
  show Steps p.tables e below (T0.setTop (mkF m 135 #[iv t3, iv t4, iv t5, iv t6, iv t7, iv t1, iv t2, iv t0, iv t8, rv o0, rv o1, rv o2, .unset, .unset] [(.int ((1 : Int32) + (1 : Int32)))])) _
  rw [(by decide : ((1 : Int32) + (1 : Int32)) = (2 : Int32))]
  refine oi X0 hx hby at_135 rfl rfl ?_
  refine oi X0 hx hby at_137 rfl rfl ?_
  refine XS.icmpNo X0.here hx rfl (hb hby at_139) rfl (feq hq0).1 ?_
  refine oi X0 hx hby at_142 rfl rfl ?_
  refine oi X0 hx hby at_144 rfl rfl ?_
  refine XS.icmpYes X0.here hx rfl (pc0 := 146) (pc' := 153) rfl (hb hby at_146) rfl (teq d1).1 (by decide) (by decide) ?_
  refine oK X0 hx hby at_153 rfl ?_
  refine XS.iadd X0.here hx rfl (hb hby at_154) rfl ?_
  show Steps p.tables e below (T0.setTop (mkF m 155 #[iv t3, iv t4, iv t5, iv t6, iv t7, iv t1, iv t2, iv t0, iv t8, rv o0, rv o1, rv o2, .unset, .unset] [(.int ((2 : Int32) + (0 : Int32)))])) _
  rw [(by decide : ((2 : Int32) + (0 : Int32)) = (2 : Int32))]
  refine XS.istore X0.here hx rfl (hb hby at_155) rfl (l' := #[iv t3, iv t4, iv t5, iv t6, iv t7, iv t1, iv t2, iv t0, iv t8, rv o0, rv o1, rv o2, iv 2, .unset]) rfl ?_
  exact kt
theorem rm0_2 (l : Launch) (Z : State) (a0 : Array Value) (hw : HW a0 Z) (ws : List Jvm.Cond) (p0 p1 p2 p3 p4 p5 p6 p7 p8 : Int32) (h0 : Heap) (n0 : Nat) (OO : Old Z n0 h0) (hc5 : ((p0 &&& (255 : Int32)) % (3 : Int32)) = p5) (hc6 : ((((p0.toUInt32 >>> ((8 : Int32) &&& 31).toUInt32).toInt32) &&& (255 : Int32)) % (3 : Int32)) = p6) (hc7 : ((((p0.toUInt32 >>> ((16 : Int32) &&& 31).toUInt32).toInt32) &&& (255 : Int32)) % (3 : Int32)) = p7) (hc8 : ((((p0.toUInt32 >>> ((24 : Int32) &&& 31).toUInt32).toInt32) &&& (255 : Int32)) % (3 : Int32)) = p8) (i5 : own_in3 p5) (i6 : own_in3 p6) (i7 : own_in3 p7) (hd0 : (own_pi p6 (own_ui p5 0 1 0) (own_ui p5 1 1 0) (own_ui p5 2 1 0)) = (0 : Int32)) (hd1 : ¬ ((own_pi p7 (own_ui p6 0 1 (own_ui p5 0 1 0)) (own_ui p6 1 1 (own_ui p5 1 1 0)) (own_ui p6 2 1 (own_ui p5 2 1 0))) = (0 : Int32))) (i8 : own_in3 p8) (hd2 : ¬ (p7 = p5)) :
    MetFree l x (head1 (Jvm.Cond.code x code maxLocals ret :: ws) room_1) (fun a U => a = #[(.int p0), (.int p1), (.int p2), (.int p3), (.int p4)] ∧ Z.Warmed39 U.vm ∧ U.heap = h0) (fun _ _ _ _ _ => True) (fun _ U o U' => ∃ v L, o = .returned v ∧ (v = some (.int (1 : Int32)) ∧ Fr n0 L) ∧ FrameEnd U o U' L room_1.cells room_1.slots) := by
  refine MetFree.of_bodySF (plainFor_of_name pn_0) hisR ?_
  intro p e s m args below meth c s₁ Bd hml0 hP hK
  obtain ⟨rfl, hZ, hh⟩ := hP
  have hx := Bd.exec
  have hby := Bd.bytes
  have hml : c.maxLocals = 14 := hml0
  have hown : s.vm.findClass kL = some m.cls := findClass_of_methodNamed Bd.named
  have X0 : Stand p l e room_1 s m #[(.int p0), (.int p1), (.int p2), (.int p3), (.int p4)] below meth c s₁ [] 0 0 := Stand.of_body Bd
  have e0 : s₁.heap = h0 := by rw [← hh, Bd.state]; rfl
  have N0 := Fr.nil n0
  obtain ⟨T1, h1, lc1, b1, b2, b3, b4, b5, b6, b7, kb2, kb3, kb4, kb5, kb6, kb7, X1, e1, N1, K1, sp1_b1, sp1_b2, sp1_b3, sp1_b4, sp1_b5, sp1_b6, sp1_b7, ne1_b1_b2, ne1_b1_b3, ne1_b1_b4, ne1_b1_b5, ne1_b1_b6, ne1_b1_b7, ne1_b2_b3, ne1_b2_b4, ne1_b2_b5, ne1_b2_b6, ne1_b2_b7, ne1_b3_b4, ne1_b3_b5, ne1_b3_b6, ne1_b3_b7, ne1_b4_b5, ne1_b4_b6, ne1_b4_b7, ne1_b5_b6, ne1_b5_b7, ne1_b6_b7, R1_0, R1_1, R1_2, R1_3, R1_4, R1_5, R1_6, R1_7, R1_8, R1_9, R1_10, R1_11, R1_12, R1_13, R1_14, R1_15, R1_16, R1_17, R1_18, st1⟩ := sg_0 hw p5 p1 p0 p2 p3 p4 p6 p7 p8 X0 hx hZ hby hml hown e0 N0 OO i5 (own_q0 i5) own_q1
  have g2 : n0 ≤ b1 := Nat.le_trans (own_le OO) sp1_b1
  have g3 : n0 ≤ b2 := Nat.le_trans (own_le OO) sp1_b2
  have g4 : n0 ≤ b3 := Nat.le_trans (own_le OO) sp1_b3
  have g5 : n0 ≤ b4 := Nat.le_trans (own_le OO) sp1_b4
  have g6 : n0 ≤ b5 := Nat.le_trans (own_le OO) sp1_b5
  have g7 : n0 ≤ b6 := Nat.le_trans (own_le OO) sp1_b6
  have g8 : n0 ≤ b7 := Nat.le_trans (own_le OO) sp1_b7
  have O1 := Old.keep OO K1 all0
  obtain ⟨T9, h9, lc9, X9, e9, N9, K9, R9_0, R9_1, R9_2, R9_3, R9_4, R9_5, R9_6, R9_7, R9_8, R9_9, R9_10, R9_11, R9_12, R9_13, R9_14, R9_15, R9_16, R9_17, R9_18, st9⟩ := sg_11 hw p6 _ _ _ p7 p5 (0 : Int32) (0 : Int32) _ _ _ (3 : Int32) p2 p3 (0 : Int32) (0 : Int32) (0 : Int32) (0 : Int64) (0 : Int64) (0 : Int64) (0 : Int32) (0 : Int32) (0 : Int32) (0 : Int32) p0 p1 p4 p5 p8 b1 b3 b4 b2 b5 b6 b7 kb3 kb4 kb2 kb6 kb7 kb5 X1 (by decide) (by decide) hx hZ hby hml hown e1 N1 O1 R1_3 R1_12 R1_4 R1_8 R1_0 R1_13 R1_2 R1_11 R1_1 R1_5 R1_6 R1_7 R1_9 R1_10 i6 g4 ne1_b1_b3 g2 (Ne.symm ne1_b3_b4) (Ne.symm ne1_b1_b4) g5 ne1_b2_b3 (Ne.symm ne1_b1_b2) ne1_b2_b4 (own_q2 i6) own_q3 g3 i7 (own_q4 i7) own_q5 R1_16 R1_18 R1_14 R1_15 R1_17 (Ne.symm ne1_b3_b6) (Ne.symm ne1_b1_b6) (Ne.symm ne1_b4_b6) (Ne.symm ne1_b2_b6) g7 (own_s3_in i5 i6) (Ne.symm ne1_b3_b7) (Ne.symm ne1_b1_b7) (Ne.symm ne1_b4_b7) (Ne.symm ne1_b2_b7) (Ne.symm ne1_b6_b7) g8 (own_s4_in i5 i6) (Ne.symm ne1_b3_b5) (Ne.symm ne1_b1_b5) (Ne.symm ne1_b4_b5) (Ne.symm ne1_b2_b5) ne1_b5_b6 ne1_b5_b7 g6 hd0 hd1
  have O9 := Old.keep O1 K9 (allS g3 (allS g5 (allS g2 (allS g4 (allS g6 (allS g8 (allS g7 all0)))))))
  have F10 : AD3 Z h9 b7 kb7 (own_pk (own_s3 p5 p6) ((((0 : Int64) + (own_pt p5 0 (p1.toInt64))) + (own_pt p6 0 (p2.toInt64))) + (own_pt p7 0 (p3.toInt64))) ((((0 : Int64) + (own_pt p5 1 (p1.toInt64))) + (own_pt p6 1 (p2.toInt64))) + (own_pt p7 1 (p3.toInt64))) ((((0 : Int64) + (own_pt p5 2 (p1.toInt64))) + (own_pt p6 2 (p2.toInt64))) + (own_pt p7 2 (p3.toInt64)))) (own_pk (own_s4 p5 p6) (own_up (own_s3 p5 p6) 0 (0 : Int64) ((((0 : Int64) + (own_pt p5 0 (p1.toInt64))) + (own_pt p6 0 (p2.toInt64))) + (own_pt p7 0 (p3.toInt64)))) (own_up (own_s3 p5 p6) 1 (0 : Int64) ((((0 : Int64) + (own_pt p5 1 (p1.toInt64))) + (own_pt p6 1 (p2.toInt64))) + (own_pt p7 1 (p3.toInt64)))) (own_up (own_s3 p5 p6) 2 (0 : Int64) ((((0 : Int64) + (own_pt p5 2 (p1.toInt64))) + (own_pt p6 2 (p2.toInt64))) + (own_pt p7 2 (p3.toInt64))))) 0 := R9_15
  have F11 : AZ3 Z h9 b3 kb3 0 0 0 := own_cgI R9_13 (own_q19 i5 i6 i7 hd0 hd1).1 (own_q19 i5 i6 i7 hd0 hd1).2.1 (own_q19 i5 i6 i7 hd0 hd1).2.2
  have F12 : AD3 Z h9 b2 kb2 0 0 0 := own_cgD R9_0 (own_q20 i5 i6 i7 hd0 hd1).1 (own_q20 i5 i6 i7 hd0 hd1).2.1 (own_q20 i5 i6 i7 hd0 hd1).2.2
  obtain ⟨T13, h13, lc13, b8, b9, b10, b11, b12, b13, b14, kb11, kb12, X13, e13, N13, K13, sp13_b8, sp13_b9, sp13_b10, sp13_b11, sp13_b12, sp13_b13, sp13_b14, ne13_b8_b9, ne13_b8_b10, ne13_b8_b11, ne13_b8_b12, ne13_b8_b13, ne13_b8_b14, ne13_b9_b10, ne13_b9_b11, ne13_b9_b12, ne13_b9_b13, ne13_b9_b14, ne13_b10_b11, ne13_b10_b12, ne13_b10_b13, ne13_b10_b14, ne13_b11_b12, ne13_b11_b13, ne13_b11_b14, ne13_b12_b13, ne13_b12_b14, ne13_b13_b14, R13_0, R13_1, R13_2, R13_3, R13_4, R13_5, R13_6, R13_7, R13_8, R13_9, R13_10, R13_11, R13_12, R13_13, R13_14, R13_15, R13_16, R13_17, R13_18, R13_19, R13_20, R13_21, R13_22, R13_23, R13_24, R13_25, R13_26, R13_27, R13_28, R13_29, R13_30, st13⟩ := sg_12 hw (own_s3 p5 p6) (own_s4 p5 p6) (0 : Int32) (0 : Int64) (0 : Int64) (0 : Int64) p8 p4 (own_s3 p5 p6) (own_s4 p5 p6) (0 : Int32) _ _ (0 : Int64) (0 : Int32) (0 : Int32) p0 p1 p2 p3 p5 p6 p7 b1 b3 b4 b2 b5 b6 b7 kb3 kb4 kb2 kb6 kb7 kb5 X9 hx hZ hby hml hown e9 N9 O9 R9_2 F11 R9_3 R9_4 R9_5 R9_1 R9_6 F12 R9_7 R9_8 R9_9 R9_10 R9_11 R9_12 i8 g4 ne1_b1_b3 g2 (Ne.symm ne1_b3_b4) (Ne.symm ne1_b1_b4) g5 ne1_b2_b3 (Ne.symm ne1_b1_b2) ne1_b2_b4 (own_q8 i8) own_q9 g3 R9_17 F10 R9_14 R9_18 R9_16 (Ne.symm ne1_b3_b6) (Ne.symm ne1_b1_b6) (Ne.symm ne1_b4_b6) (Ne.symm ne1_b2_b6) g7 (Ne.symm ne1_b3_b7) (Ne.symm ne1_b1_b7) (Ne.symm ne1_b4_b7) (Ne.symm ne1_b2_b7) (Ne.symm ne1_b6_b7) g8 (Ne.symm ne1_b3_b5) (Ne.symm ne1_b1_b5) (Ne.symm ne1_b4_b5) (Ne.symm ne1_b2_b5) ne1_b5_b6 ne1_b5_b7 g6 (own_iun p8 (by decide) (own_s3_in i5 i6)) (own_iun p8 (by decide) (own_s4_in i5 i6)) (own_iue 0 i8)
  have g14 : n0 ≤ b8 := Nat.le_trans (own_le O9) sp13_b8
  have g15 : n0 ≤ b9 := Nat.le_trans (own_le O9) sp13_b9
  have g16 : n0 ≤ b10 := Nat.le_trans (own_le O9) sp13_b10
  have g17 : n0 ≤ b11 := Nat.le_trans (own_le O9) sp13_b11
  have g18 : n0 ≤ b12 := Nat.le_trans (own_le O9) sp13_b12
  have g19 : n0 ≤ b13 := Nat.le_trans (own_le O9) sp13_b13
  have g20 : n0 ≤ b14 := Nat.le_trans (own_le O9) sp13_b14
  have O13 := Old.keep O9 K13 (allS g3 (allS g5 (allS g2 (allS g4 (allS g6 (allS g8 (allS g7 all0)))))))
  obtain ⟨T21, h21, lc21, X21, e21, N21, K21, st21⟩ := sg_15 hw p7 p5 p6 p0 p1 p2 p3 p4 p8 b1 b8 b11 X13 (by decide) (by decide) hx hZ hby hml hown e13 N13 O13 (own_q28 i5 i6 i7 hd0 hd1 hd2) (own_q29 i5 i6 i7 hd0 hd1 hd2) hd2
  have O21 := Old.keep O13 K21 all0
  have F23 := (Fld.keep R13_1 K21 nin0)
  have F24 := (Arv.keep R13_26 K21 nin0)
  have F25 := (Exa.keep R13_0 K21)
  have F26 := (Arv.keep R13_8 K21 nin0)
  obtain ⟨T22, h22, lc22, X22, e22, N22, K22, st22⟩ := sg_14 hw (0 : Int32) (3 : Int32) p0 p1 p2 p3 p4 p5 p6 p7 p8 b8 b5 b11 b12 b13 b14 b1 kb5 kb11 X21 (by decide) (by decide) hx hZ hby hml hown e21 N21 O21 F23 F24 F25 F26
  have O22 := Old.keep O21 K22 all0
  have F28 := (Arv.keep F26 K22 nin0)
  have F29 := (Arv.keep (Arv.keep R13_9 K21 nin0) K22 nin0)
  have F30 := (Arv.keep (Arv.keep R13_10 K21 nin0) K22 nin0)
  have F31 := (Arv.keep (Arv.keep R13_11 K21 nin0) K22 nin0)
  obtain ⟨T27, h27, lc27, X27, e27, N27, K27, st27⟩ := sg_10 hw _ _ _ p5 p1 p6 p2 p7 p3 _ _ _ p8 p4 (0 : Int64) (0 : Int64) (0 : Int64) p0 (2 : Int32) b11 b12 b13 b14 b1 b8 kb11 kb12 X22 (by decide) (by decide) hx hZ hby hml hown e22 N22 O22 F28 F29 (own_q30 i5 i6 i7 i8 hd0 hd1 hd2) (own_q31 i5 i6 i7 i8 hd0 hd1 hd2) (own_q32 i5 i6 i7 i8 hd0 hd1 hd2) F30 (own_q25 i8) (own_q26 i8) (own_q27 i8) F31 (by decide) (by decide) (by decide)
  have O27 := Old.keep O22 K27 all0
  obtain ⟨fs, hr, hrun, hended, hW, hsame⟩ := X27.leave (v := some (.int 1)) (fun h => by rw [Bd.returns] at h; cases h)
  refine ⟨_, _, (castTop (ef_0 m p0 p1 p2 p3 p4) ?_), hrun, hended, _, _, rfl, ?_, ⟨_, rfl⟩, hW, hsame.mono (by decide) (by decide)⟩
  · show Steps p.tables e below (s₁.setTop (mkF m 0 #[iv p0, iv p1, iv p2, iv p3, iv p4, .unset, .unset, .unset, .unset, .unset, .unset, .unset, .unset, .unset] [])) _
    refine oI X0 hx hby at_0 rfl rfl ?_
    refine XS.sipush X0.here hx rfl (hb hby at_1) ?_
    refine XS.iand X0.here hx rfl (hb hby at_4) rfl ?_
    refine oK X0 hx hby at_5 rfl ?_
    refine iremM X0 hx rfl (hb hby at_6) rfl (by decide) ?_
    show Steps p.tables e below (s₁.setTop (mkF m 7 #[iv p0, iv p1, iv p2, iv p3, iv p4, .unset, .unset, .unset, .unset, .unset, .unset, .unset, .unset, .unset] [(.int ((p0 &&& (255 : Int32)) % (3 : Int32)))])) _
    rw [hc5]
    refine XS.istore X0.here hx rfl (hb hby at_7) rfl (l' := #[iv p0, iv p1, iv p2, iv p3, iv p4, iv p5, .unset, .unset, .unset, .unset, .unset, .unset, .unset, .unset]) rfl ?_
    refine oI X0 hx hby at_9 rfl rfl ?_
    refine XS.bipush X0.here hx rfl (hb hby at_10) ?_
    refine XS.iushr X0.here hx rfl (hb hby at_12) rfl ?_
    refine XS.sipush X0.here hx rfl (hb hby at_13) ?_
    refine XS.iand X0.here hx rfl (hb hby at_16) rfl ?_
    refine oK X0 hx hby at_17 rfl ?_
    refine iremM X0 hx rfl (hb hby at_18) rfl (by decide) ?_
    show Steps p.tables e below (s₁.setTop (mkF m 19 #[iv p0, iv p1, iv p2, iv p3, iv p4, iv p5, .unset, .unset, .unset, .unset, .unset, .unset, .unset, .unset] [(.int ((((p0.toUInt32 >>> ((8 : Int32) &&& 31).toUInt32).toInt32) &&& (255 : Int32)) % (3 : Int32)))])) _
    rw [hc6]
    refine XS.istore X0.here hx rfl (hb hby at_19) rfl (l' := #[iv p0, iv p1, iv p2, iv p3, iv p4, iv p5, iv p6, .unset, .unset, .unset, .unset, .unset, .unset, .unset]) rfl ?_
    refine oI X0 hx hby at_21 rfl rfl ?_
    refine XS.bipush X0.here hx rfl (hb hby at_22) ?_
    refine XS.iushr X0.here hx rfl (hb hby at_24) rfl ?_
    refine XS.sipush X0.here hx rfl (hb hby at_25) ?_
    refine XS.iand X0.here hx rfl (hb hby at_28) rfl ?_
    refine oK X0 hx hby at_29 rfl ?_
    refine iremM X0 hx rfl (hb hby at_30) rfl (by decide) ?_
    show Steps p.tables e below (s₁.setTop (mkF m 31 #[iv p0, iv p1, iv p2, iv p3, iv p4, iv p5, iv p6, .unset, .unset, .unset, .unset, .unset, .unset, .unset] [(.int ((((p0.toUInt32 >>> ((16 : Int32) &&& 31).toUInt32).toInt32) &&& (255 : Int32)) % (3 : Int32)))])) _
    rw [hc7]
    refine XS.istore X0.here hx rfl (hb hby at_31) rfl (l' := #[iv p0, iv p1, iv p2, iv p3, iv p4, iv p5, iv p6, iv p7, .unset, .unset, .unset, .unset, .unset, .unset]) rfl ?_
    refine oI X0 hx hby at_33 rfl rfl ?_
    refine XS.bipush X0.here hx rfl (hb hby at_34) ?_
    refine XS.iushr X0.here hx rfl (hb hby at_36) rfl ?_
    refine XS.sipush X0.here hx rfl (hb hby at_37) ?_
    refine XS.iand X0.here hx rfl (hb hby at_40) rfl ?_
    refine oK X0 hx hby at_41 rfl ?_
    refine iremM X0 hx rfl (hb hby at_42) rfl (by decide) ?_
    show Steps p.tables e below (s₁.setTop (mkF m 43 #[iv p0, iv p1, iv p2, iv p3, iv p4, iv p5, iv p6, iv p7, .unset, .unset, .unset, .unset, .unset, .unset] [(.int ((((p0.toUInt32 >>> ((24 : Int32) &&& 31).toUInt32).toInt32) &&& (255 : Int32)) % (3 : Int32)))])) _
    rw [hc8]
    refine XS.istore X0.here hx rfl (hb hby at_43) rfl (l' := #[iv p0, iv p1, iv p2, iv p3, iv p4, iv p5, iv p6, iv p7, iv p8, .unset, .unset, .unset, .unset, .unset]) rfl ?_
    show Steps p.tables e below (s₁.setTop (mkF m 45 #[iv p0, iv p1, iv p2, iv p3, iv p4, iv p5, iv p6, iv p7, iv p8, .unset, .unset, .unset, .unset, .unset] [])) _
    refine st1 _ ?_
    show Steps p.tables e below (T1.setTop (mkF m 64 #[iv p0, iv p1, iv p2, iv p3, iv p4, iv p5, iv p6, iv p7, iv p8, rv b1, .unset, .unset, .unset, .unset] [])) _
    refine st9 _ ?_
    show Steps p.tables e below (T9.setTop (mkF m 87 #[iv p0, iv p1, iv p2, iv p3, iv p4, iv p5, iv p6, iv p7, iv p8, rv b1, .unset, .unset, .unset, .unset] [])) _
    refine st13 _ ?_
    show Steps p.tables e below (T13.setTop (mkF m 121 #[iv p0, iv p1, iv p2, iv p3, iv p4, iv p5, iv p6, iv p7, iv p8, rv b1, rv b8, rv b11, .unset, .unset] [])) _
    refine st21 _ ?_
    show Steps p.tables e below (T21.setTop (mkF m 157 #[iv p0, iv p1, iv p2, iv p3, iv p4, iv p5, iv p6, iv p7, iv p8, rv b1, rv b8, rv b11, iv 2, .unset] [])) _
    refine st22 _ ?_
    show Steps p.tables e below (T22.setTop (mkF m 207 #[iv p0, iv p1, iv p2, iv p3, iv p4, iv p5, iv p6, iv p7, iv p8, rv b1, rv b8, rv b11, iv 2, iv 1] [])) _
    refine st27 _ ?_
    refine oi X27 hx hby at_369 rfl rfl ?_
    exact retN X27 hx (t := .boolean) Bd.returns (by simp) (hb hby at_371) hr
  · exact ⟨rfl, N27⟩
theorem sg_16 {p : Program} {l : Launch} {e : Env} {s : State} {m : MethodId} {args : Array Value} {below : List Frame} {meth : Method} {c : Code} {T0 : State} {locs : List Loc} {Z : State} {a0 : Array Value} {h0 : Heap} {n0 cn sn : Nat} (hw : HW a0 Z) (t0 t1 t2 t3 t4 : Int32) (t5 t6 t7 : Int64) (t8 t9 t10 t11 t12 t13 t14 t15 t16 : Int32) (t17 t18 t19 : Int64) (t20 t21 t22 t23 t24 t25 t26 t27 t28 : Int32) (o0 o1 o2 o3 o4 o5 o6 : Addr) (j0 j1 j2 j3 j4 j5 : ClassId)
    (X0 : Stand p l e room_1 s m args below meth c T0 locs cn sn) (hcn : cn ≤ room_1.cells) (hsn : sn ≤ room_1.slots) (hx : p.tables.exec = Jvm.exec) (hZ : Z.Warmed39 s.vm) (hby : c.code = code) (hml : c.maxLocals = 14) (hown : s.vm.findClass kL = some m.cls) (e0 : T0.heap = h0) (N0 : Fr n0 locs) (OO : Old Z n0 h0) (f0 : fB2 Z h0 o0 (.ref o1)) (f1 : AZ3 Z h0 o1 j0 t1 t2 t3) (f2 : fB1 Z h0 o0 (.ref o2)) (f3 : AD3 Z h0 o2 j1 t5 t6 t7) (d0 : own_in3 t0) (d1 : B53 (own_pk t0 t5 t6 t7)) (d2 : B53 (t8.toInt64)) (u0 : n0 ≤ o2) (f4 : Exa Z h0 o0 kB) (f5 : fB3 Z h0 o0 (.ref o3)) (f6 : fB7 Z h0 o0 (.int 1)) (f7 : AI3 Z h0 o3 j2 t9 t10 t11) (f8 : fB0 Z h0 o0 (.int t12)) (f9 : fB4 Z h0 o0 (.ref o4)) (f10 : fB5 Z h0 o0 (.ref o5)) (f11 : fB6 Z h0 o0 (.ref o6)) (f12 : fB8 Z h0 o0 (.int 0)) (f13 : fB9 Z h0 o0 (.int 0)) (v0 : o0 ≠ o2) (v1 : o1 ≠ o2) (d3 : own_in3 t4) (u1 : n0 ≤ o1) (v2 : o0 ≠ o1) (u2 : n0 ≤ o0) (v3 : o3 ≠ o2) (v4 : o3 ≠ o1) (v5 : o3 ≠ o0) (u3 : n0 ≤ o3) (d4 : B53 (own_pk t4 (t5 + (own_pt t0 0 (t8.toInt64))) (t6 + (own_pt t0 1 (t8.toInt64))) (t7 + (own_pt t0 2 (t8.toInt64))))) (d5 : B53 (t13.toInt64)) (f14 : AI3 Z h0 o5 j3 t14 t15 t16) (f15 : AD3 Z h0 o6 j4 t17 t18 t19) (f16 : AI4 Z h0 o4 j5 t20 t21 t22 t23) (f17 : Exa Z h0 o5 "[I") (f18 : Exa Z h0 o6 "[D") (v6 : o5 ≠ o2) (v7 : o5 ≠ o1) (v8 : o5 ≠ o0) (v9 : o5 ≠ o3) (u4 : n0 ≤ o5) (d6 : own_in3 (own_s3 t9 t4)) (v10 : o6 ≠ o2) (v11 : o6 ≠ o1) (v12 : o6 ≠ o0) (v13 : o6 ≠ o3) (v14 : o6 ≠ o5) (u5 : n0 ≤ o6) (d7 : own_in3 (own_s4 t9 t4)) (v15 : o4 ≠ o2) (v16 : o4 ≠ o1) (v17 : o4 ≠ o0) (v18 : o4 ≠ o3) (v19 : o4 ≠ o5) (v20 : o4 ≠ o6) (u6 : n0 ≤ o4) (hq0 : ¬ ((own_pi t0 t1 t2 t3) = (0 : Int32))) (hq1 : (own_pi t4 t1 t2 t3) = (0 : Int32)) :
    ∃ (T' : State) (h' : Heap) (lc : List Loc), Stand p l e room_1 s m args below meth c T' lc cn sn ∧ T'.heap = h' ∧ Fr n0 lc ∧ Keep h0 h' [o2, o3, o0, o1, o4, o6, o5] ∧ AD3 Z h' o2 j1 (own_up (own_s4 t9 t4) 0 (0 : Int64) (own_up (own_s3 t9 t4) 0 (0 : Int64) ((t5 + (own_pt t0 0 (t8.toInt64))) + (own_pt t4 0 (t13.toInt64))))) (own_up (own_s4 t9 t4) 1 (0 : Int64) (own_up (own_s3 t9 t4) 1 (0 : Int64) ((t6 + (own_pt t0 1 (t8.toInt64))) + (own_pt t4 1 (t13.toInt64))))) (own_up (own_s4 t9 t4) 2 (0 : Int64) (own_up (own_s3 t9 t4) 2 (0 : Int64) ((t7 + (own_pt t0 2 (t8.toInt64))) + (own_pt t4 2 (t13.toInt64))))) ∧ AI3 Z h' o3 j2 (own_s3 t9 t4) (own_s4 t9 t4) t11 ∧ fB2 Z h' o0 (.ref o1) ∧ fB1 Z h' o0 (.ref o2) ∧ Exa Z h' o0 kB ∧ fB3 Z h' o0 (.ref o3) ∧ fB7 Z h' o0 (.int 0) ∧ fB0 Z h' o0 (.int t12) ∧ fB4 Z h' o0 (.ref o4) ∧ fB5 Z h' o0 (.ref o5) ∧ fB6 Z h' o0 (.ref o6) ∧ fB8 Z h' o0 (.int 2) ∧ fB9 Z h' o0 (.int 1) ∧ AZ3 Z h' o1 j0 (own_ui (own_s4 t9 t4) 0 0 (own_ui (own_s3 t9 t4) 0 0 (own_ui t4 0 1 t1))) (own_ui (own_s4 t9 t4) 1 0 (own_ui (own_s3 t9 t4) 1 0 (own_ui t4 1 1 t2))) (own_ui (own_s4 t9 t4) 2 0 (own_ui (own_s3 t9 t4) 2 0 (own_ui t4 2 1 t3))) ∧ AI4 Z h' o4 j5 t20 2 t22 t23 ∧ AD3 Z h' o6 j4 (own_pk (own_s3 t9 t4) ((t5 + (own_pt t0 0 (t8.toInt64))) + (own_pt t4 0 (t13.toInt64))) ((t6 + (own_pt t0 1 (t8.toInt64))) + (own_pt t4 1 (t13.toInt64))) ((t7 + (own_pt t0 2 (t8.toInt64))) + (own_pt t4 2 (t13.toInt64)))) (own_pk (own_s4 t9 t4) (own_up (own_s3 t9 t4) 0 (0 : Int64) ((t5 + (own_pt t0 0 (t8.toInt64))) + (own_pt t4 0 (t13.toInt64)))) (own_up (own_s3 t9 t4) 1 (0 : Int64) ((t6 + (own_pt t0 1 (t8.toInt64))) + (own_pt t4 1 (t13.toInt64)))) (own_up (own_s3 t9 t4) 2 (0 : Int64) ((t7 + (own_pt t0 2 (t8.toInt64))) + (own_pt t4 2 (t13.toInt64))))) t19 ∧ Exa Z h' o6 "[D" ∧ AI3 Z h' o5 j3 (own_s3 t9 t4) (own_s4 t9 t4) t16 ∧ Exa Z h' o5 "[I" ∧
      ∀ target, Steps p.tables e below (T'.setTop (mkF m 87 #[iv t24, iv t25, iv t8, iv t13, iv t26, iv t27, iv t0, iv t4, iv t28, rv o0, .unset, .unset, .unset, .unset] [])) target → Steps p.tables e below (T0.setTop (mkF m 64 #[iv t24, iv t25, iv t8, iv t13, iv t26, iv t27, iv t0, iv t4, iv t28, rv o0, .unset, .unset, .unset, .unset] [])) target := by
  obtain ⟨cq1, kq1, q1a, q1b, q1c⟩ := isOf hZ e0 f4
  obtain ⟨_, _, ⟨T1, L1, k1, n1⟩, -, X1, ⟨Lc1, hQ1, l1, y1, z1⟩, st1⟩ := X0.virtualBack hx (y := (⟨kB, "add", "(ID)V"⟩ : MethodName)) (z := (⟨kB, "add", "(ID)V"⟩ : MethodName)) hown (mvT hZ (w_26 hw)) (mvT hZ (w_27 hw)) (notFace_of_selects (args := #[]) (mvT hZ (w_29 hw))) (mvT hZ (w_29 hw)) (mvT hZ (w_28 hw)) (by decide) (backOf (W := 0) (rm3_3 l Z a0 hw [] t0 t1 t2 t3 t5 t6 t7 (t8.toInt64) o0 o1 o2 j0 j1 h0 n0 OO f0 f1 d0 f2 f3 d1 d2 u0 hq0) hZ (w_30 hw) (w_2 hw) (by decide) (by decide)) q1a q1c (g := (mkF m 70 #[iv t24, iv t25, iv t8, iv t13, iv t26, iv t27, iv t0, iv t4, iv t28, rv o0, .unset, .unset, .unset, .unset] [(.double (FP.l2d (t8.toInt64))), (.int t0), (.ref o0)])) rfl (by rw [hml]; rfl) (Steps.refl _) (argsL := [(.int t0), (.double (FP.l2d (t8.toInt64)))]) (rest := []) (lenOf pd_1 rfl) rfl (by show 2 * 0 + _ ≤ _; exact Nat.le_of_eq rfl) (hb hby at_70) (fun _ _ => ⟨rfl, e0, hcn, hsn⟩)
  dsimp only [Pt.U, Pt.locs, Pt.cells, Pt.slots] at X1 l1 y1 z1 st1 hQ1
  subst l1 y1 z1
  obtain ⟨h1, e1⟩ : ∃ z, T1.heap = z := ⟨_, rfl⟩
  rw [e1] at hQ1
  obtain ⟨rfl, N1q, K1, R1_0⟩ := hQ1
  have N1 := Fr.app N0 N1q
  have O1 := Old.keep OO K1 (allS u0 all0)
  have KK1 := Keep.trans (Keep.refl h0 [o2, o3, o0, o1, o4, o6, o5]) K1 (allS (Or.inl (own_m 0 rfl)) all0)
  have F3 := (Fld.keep f0 K1 (ninS v0 nin0))
  have F4 := (Arv.keep f1 K1 (ninS v1 nin0))
  have F5 := (Fld.keep f5 K1 (ninS v0 nin0))
  have F6 := (Fld.keep f6 K1 (ninS v0 nin0))
  have F7 := (Exa.keep f4 K1)
  have F8 := (Arv.keep f7 K1 (ninS v3 nin0))
  have F9 := (Fld.keep f2 K1 (ninS v0 nin0))
  have F10 := (Fld.keep f8 K1 (ninS v0 nin0))
  have F11 := (Fld.keep f9 K1 (ninS v0 nin0))
  have F12 := (Fld.keep f10 K1 (ninS v0 nin0))
  have F13 := (Fld.keep f11 K1 (ninS v0 nin0))
  have F14 := (Fld.keep f12 K1 (ninS v0 nin0))
  have F15 := (Fld.keep f13 K1 (ninS v0 nin0))
  obtain ⟨cq2, kq2, q2a, q2b, q2c⟩ := isOf hZ e1 F7
  obtain ⟨_, _, ⟨T2, L2, k2, n2⟩, -, X2, ⟨Lc2, hQ2, l2, y2, z2⟩, st2⟩ := X1.virtualBack hx (y := (⟨kB, "add", "(ID)V"⟩ : MethodName)) (z := (⟨kB, "add", "(ID)V"⟩ : MethodName)) hown (mvT hZ (w_26 hw)) (mvT hZ (w_27 hw)) (notFace_of_selects (args := #[]) (mvT hZ (w_29 hw))) (mvT hZ (w_29 hw)) (mvT hZ (w_28 hw)) (by decide) (backOf (W := 0) (rm3_1 l Z a0 hw [] t4 t1 t2 t3 t9 t10 t11 (t5 + (own_pt t0 0 (t8.toInt64))) (t6 + (own_pt t0 1 (t8.toInt64))) (t7 + (own_pt t0 2 (t8.toInt64))) (t13.toInt64) t12 (0 : Int32) (0 : Int32) o0 o1 o3 o2 o4 o5 o6 j0 j2 j1 h1 n0 O1 F3 F4 d3 u1 F5 v2 F6 F7 u2 F8 v4 v5 u3 F9 R1_0 (Ne.symm v1) (Ne.symm v0) (Ne.symm v3) d4 d5 u0 F10 F11 F12 F13 F14 F15 hq1) hZ (w_30 hw) (w_2 hw) (by decide) (by decide)) q2a q2c (g := (mkF m 79 #[iv t24, iv t25, iv t8, iv t13, iv t26, iv t27, iv t0, iv t4, iv t28, rv o0, .unset, .unset, .unset, .unset] [(.double (FP.l2d (t13.toInt64))), (.int t4), (.ref o0)])) rfl (by rw [hml]; rfl) (Steps.refl _) (argsL := [(.int t4), (.double (FP.l2d (t13.toInt64)))]) (rest := []) (lenOf pd_1 rfl) rfl (by show 2 * 0 + _ ≤ _; exact Nat.le_of_eq rfl) (hb hby at_79) (fun _ _ => ⟨rfl, e1, hcn, hsn⟩)
  dsimp only [Pt.U, Pt.locs, Pt.cells, Pt.slots] at X2 l2 y2 z2 st2 hQ2
  subst l2 y2 z2
  obtain ⟨h2, e2⟩ : ∃ z, T2.heap = z := ⟨_, rfl⟩
  rw [e2] at hQ2
  obtain ⟨rfl, N2q, K2, R2_0, R2_1, R2_2, R2_3, R2_4, R2_5, R2_6, R2_7, R2_8, R2_9, R2_10, R2_11, R2_12, R2_13⟩ := hQ2
  have N2 := Fr.app N1 N2q
  have O2 := Old.keep O1 K2 (allS u1 (allS u2 (allS u3 (allS u0 all0))))
  have KK2 := Keep.trans KK1 K2 (allS (Or.inl (own_m 3 rfl)) (allS (Or.inl (own_m 2 rfl)) (allS (Or.inl (own_m 1 rfl)) (allS (Or.inl (own_m 0 rfl)) all0))))
  have F17 := (Arv.keep (Arv.keep f14 K1 (ninS v6 nin0)) K2 (ninS v7 (ninS v8 (ninS v9 (ninS v6 nin0)))))
  have F18 := (Arv.keep (Arv.keep f15 K1 (ninS v10 nin0)) K2 (ninS v11 (ninS v12 (ninS v13 (ninS v10 nin0)))))
  have F19 := (Arv.keep (Arv.keep f16 K1 (ninS v15 nin0)) K2 (ninS v16 (ninS v17 (ninS v18 (ninS v15 nin0)))))
  have F20 := (Exa.keep (Exa.keep f17 K1) K2)
  have F21 := (Exa.keep (Exa.keep f18 K1) K2)
  obtain ⟨cq16, kq16, q16a, q16b, q16c⟩ := isOf hZ e2 R2_4
  obtain ⟨_, _, ⟨T16, L16, k16, n16⟩, -, X16, ⟨Lc16, hQ16, l16, y16, z16⟩, st16⟩ := X2.virtualBack hx (y := (⟨kB, "endRow", "()V"⟩ : MethodName)) (z := (⟨kB, "endRow", "()V"⟩ : MethodName)) hown (mvT hZ (w_33 hw)) (mvT hZ (w_34 hw)) (notFace_of_selects (args := #[]) (mvT hZ (w_36 hw))) (mvT hZ (w_36 hw)) (mvT hZ (w_35 hw)) (by decide) (backOf (W := 0) (rm4_3 l Z a0 hw [] t14 t15 t16 t9 t4 t11 ((t5 + (own_pt t0 0 (t8.toInt64))) + (own_pt t4 0 (t13.toInt64))) ((t6 + (own_pt t0 1 (t8.toInt64))) + (own_pt t4 1 (t13.toInt64))) ((t7 + (own_pt t0 2 (t8.toInt64))) + (own_pt t4 2 (t13.toInt64))) t17 t18 t19 (own_ui t4 0 1 t1) (own_ui t4 1 1 t2) (own_ui t4 2 1 t3) t20 t21 t22 t23 t12 o0 o5 o3 o6 o2 o1 o4 j3 j2 j1 j4 j0 j5 h2 n0 O2 R2_10 R2_3 R2_8 F17 R2_2 R2_12 u3 (Ne.symm v5) v9 u4 R2_9 (Ne.symm v8) R2_5 R2_13 (Ne.symm v3) (Ne.symm v6) d6 F18 v13 v14 u5 (Ne.symm v12) R2_4 u2 (Ne.symm v10) (Ne.symm v0) u0 R2_1 R2_0 (Ne.symm v4) (Ne.symm v7) (Ne.symm v11) (Ne.symm v2) v1 u1 d7 R2_11 R2_7 F19 v18 v19 v20 v17 v15 v16 u6 F20 F21 R2_6) hZ (w_37 hw) (w_2 hw) (by decide) (by decide)) q16a q16c (g := (mkF m 84 #[iv t24, iv t25, iv t8, iv t13, iv t26, iv t27, iv t0, iv t4, iv t28, rv o0, .unset, .unset, .unset, .unset] [(.ref o0)])) rfl (by rw [hml]; rfl) (Steps.refl _) (argsL := []) (rest := []) (lenOf pd_6 rfl) rfl (by show 2 * 0 + _ ≤ _; exact Nat.le_of_eq rfl) (hb hby at_84) (fun _ _ => ⟨rfl, e2, hcn, hsn⟩)
  dsimp only [Pt.U, Pt.locs, Pt.cells, Pt.slots] at X16 l16 y16 z16 st16 hQ16
  subst l16 y16 z16
  obtain ⟨h16, e16⟩ : ∃ z, T16.heap = z := ⟨_, rfl⟩
  rw [e16] at hQ16
  obtain ⟨rfl, N16q, K16, R16_0, R16_1, R16_2, R16_3, R16_4, R16_5, R16_6, R16_7, R16_8, R16_9, R16_10, R16_11, R16_12, R16_13, R16_14, R16_15, R16_16, R16_17, R16_18⟩ := hQ16
  have N16 := Fr.app N2 N16q
  have O16 := Old.keep O2 K16 (allS u3 (allS u4 (allS u5 (allS u2 (allS u0 (allS u1 (allS u6 all0)))))))
  have KK16 := Keep.trans KK2 K16 (allS (Or.inl (own_m 1 rfl)) (allS (Or.inl (own_m 6 rfl)) (allS (Or.inl (own_m 5 rfl)) (allS (Or.inl (own_m 2 rfl)) (allS (Or.inl (own_m 0 rfl)) (allS (Or.inl (own_m 3 rfl)) (allS (Or.inl (own_m 4 rfl)) all0)))))))
  refine ⟨T16, h16, _, X16, e16, N16, KK16, R16_16, R16_0, R16_12, R16_10, R16_11, R16_8, R16_6, R16_15, R16_14, R16_7, R16_9, R16_5, R16_13, R16_17, R16_18, R16_3, R16_4, R16_1, R16_2, fun target kt => ?_⟩
  show Steps p.tables e below (T0.setTop (mkF m 64 #[iv t24, iv t25, iv t8, iv t13, iv t26, iv t27, iv t0, iv t4, iv t28, rv o0, .unset, .unset, .unset, .unset] [])) _
  refine oa X0 hx hby at_64 rfl rfl rfl ?_
  refine oi X0 hx hby at_66 rfl rfl ?_
  refine oI X0 hx hby at_68 rfl rfl ?_
  refine XS.i2dS X0.here hx rfl (hb hby at_69) rfl (v := FP.l2d (t8.toInt64)) (i2d_w t8) ?_
  refine st1.trans ?_
  refine oa X1 hx hby at_73 rfl rfl rfl ?_
  refine oi X1 hx hby at_75 rfl rfl ?_
  refine oI X1 hx hby at_77 rfl rfl ?_
  refine XS.i2dS X1.here hx rfl (hb hby at_78) rfl (v := FP.l2d (t13.toInt64)) (i2d_w t13) ?_
  refine st2.trans ?_
  refine oa X2 hx hby at_82 rfl rfl rfl ?_
  refine st16.trans ?_
  exact kt
theorem sg_17 {p : Program} {l : Launch} {e : Env} {s : State} {m : MethodId} {args : Array Value} {below : List Frame} {meth : Method} {c : Code} {T0 : State} {locs : List Loc} {Z : State} {a0 : Array Value} {h0 : Heap} {n0 cn sn : Nat} (hw : HW a0 Z) (t0 t1 t2 t3 t4 t5 t6 t7 t8 : Int32) (o0 o1 o2 : Addr)
    (X0 : Stand p l e room_1 s m args below meth c T0 locs cn sn) (hcn : cn ≤ room_1.cells) (hsn : sn ≤ room_1.slots) (hx : p.tables.exec = Jvm.exec) (hZ : Z.Warmed39 s.vm) (hby : c.code = code) (hml : c.maxLocals = 14) (hown : s.vm.findClass kL = some m.cls) (e0 : T0.heap = h0) (N0 : Fr n0 locs) (OO : Old Z n0 h0) (d0 : t0 = t1) (d1 : ¬ (t2 = t1)) (d2 : ¬ (t2 = t0)) :
    ∃ (T' : State) (h' : Heap) (lc : List Loc), Stand p l e room_1 s m args below meth c T' lc cn sn ∧ T'.heap = h' ∧ Fr n0 lc ∧ Keep h0 h' [] ∧
      ∀ target, Steps p.tables e below (T'.setTop (mkF m 157 #[iv t3, iv t4, iv t5, iv t6, iv t7, iv t1, iv t0, iv t2, iv t8, rv o0, rv o1, rv o2, iv 2, .unset] [])) target → Steps p.tables e below (T0.setTop (mkF m 121 #[iv t3, iv t4, iv t5, iv t6, iv t7, iv t1, iv t0, iv t2, iv t8, rv o0, rv o1, rv o2, .unset, .unset] [])) target := by
  refine ⟨T0, h0, _, X0, e0, N0, (Keep.refl h0 []), fun target kt => ?_⟩
  show Steps p.tables e below (T0.setTop (mkF m 121 #[iv t3, iv t4, iv t5, iv t6, iv t7, iv t1, iv t0, iv t2, iv t8, rv o0, rv o1, rv o2, .unset, .unset] [])) _
  refine oK X0 hx hby at_121 rfl ?_
  refine oi X0 hx hby at_122 rfl rfl ?_
  refine oi X0 hx hby at_124 rfl rfl ?_
  refine XS.icmpYes X0.here hx rfl (pc0 := 126) (pc' := 133) rfl (hb hby at_126) rfl (teq d0).1 (by decide) (by decide) ?_
  refine oK X0 hx hby at_133 rfl ?_
  refine XS.iadd X0.here hx rfl (hb hby at_134) rfl ?_
  show Steps p.tables e below (T0.setTop (mkF m 135 #[iv t3, iv t4, iv t5, iv t6, iv t7, iv t1, iv t0, iv t2, iv t8, rv o0, rv o1, rv o2, .unset, .unset] [(.int ((1 : Int32) + (0 : Int32)))])) _
  rw [(by decide : ((1 : Int32) + (0 : Int32)) = (1 : Int32))]
  refine oi X0 hx hby at_135 rfl rfl ?_
  refine oi X0 hx hby at_137 rfl rfl ?_
  refine XS.icmpNo X0.here hx rfl (hb hby at_139) rfl (feq d1).1 ?_
  refine oi X0 hx hby at_142 rfl rfl ?_
  refine oi X0 hx hby at_144 rfl rfl ?_
  refine XS.icmpNo X0.here hx rfl (hb hby at_146) rfl (feq d2).1 ?_
  refine oK X0 hx hby at_149 rfl ?_
  refine XS.goto X0.here hx rfl (pc0 := 150) (pc' := 154) rfl (hb hby at_150) (by decide) (by decide) ?_
  refine XS.iadd X0.here hx rfl (hb hby at_154) rfl ?_
  show Steps p.tables e below (T0.setTop (mkF m 155 #[iv t3, iv t4, iv t5, iv t6, iv t7, iv t1, iv t0, iv t2, iv t8, rv o0, rv o1, rv o2, .unset, .unset] [(.int ((1 : Int32) + (1 : Int32)))])) _
  rw [(by decide : ((1 : Int32) + (1 : Int32)) = (2 : Int32))]
  refine XS.istore X0.here hx rfl (hb hby at_155) rfl (l' := #[iv t3, iv t4, iv t5, iv t6, iv t7, iv t1, iv t0, iv t2, iv t8, rv o0, rv o1, rv o2, iv 2, .unset]) rfl ?_
  exact kt
theorem rm0_3 (l : Launch) (Z : State) (a0 : Array Value) (hw : HW a0 Z) (ws : List Jvm.Cond) (p0 p1 p2 p3 p4 p5 p6 p7 p8 : Int32) (h0 : Heap) (n0 : Nat) (OO : Old Z n0 h0) (hc5 : ((p0 &&& (255 : Int32)) % (3 : Int32)) = p5) (hc6 : ((((p0.toUInt32 >>> ((8 : Int32) &&& 31).toUInt32).toInt32) &&& (255 : Int32)) % (3 : Int32)) = p6) (hc7 : ((((p0.toUInt32 >>> ((16 : Int32) &&& 31).toUInt32).toInt32) &&& (255 : Int32)) % (3 : Int32)) = p7) (hc8 : ((((p0.toUInt32 >>> ((24 : Int32) &&& 31).toUInt32).toInt32) &&& (255 : Int32)) % (3 : Int32)) = p8) (i5 : own_in3 p5) (i6 : own_in3 p6) (i7 : own_in3 p7) (hd0 : ¬ ((own_pi p6 (own_ui p5 0 1 0) (own_ui p5 1 1 0) (own_ui p5 2 1 0)) = (0 : Int32))) (hd1 : (own_pi p7 (own_ui p5 0 1 0) (own_ui p5 1 1 0) (own_ui p5 2 1 0)) = (0 : Int32)) (i8 : own_in3 p8) :
    MetFree l x (head1 (Jvm.Cond.code x code maxLocals ret :: ws) room_1) (fun a U => a = #[(.int p0), (.int p1), (.int p2), (.int p3), (.int p4)] ∧ Z.Warmed39 U.vm ∧ U.heap = h0) (fun _ _ _ _ _ => True) (fun _ U o U' => ∃ v L, o = .returned v ∧ (v = some (.int (1 : Int32)) ∧ Fr n0 L) ∧ FrameEnd U o U' L room_1.cells room_1.slots) := by
  refine MetFree.of_bodySF (plainFor_of_name pn_0) hisR ?_
  intro p e s m args below meth c s₁ Bd hml0 hP hK
  obtain ⟨rfl, hZ, hh⟩ := hP
  have hx := Bd.exec
  have hby := Bd.bytes
  have hml : c.maxLocals = 14 := hml0
  have hown : s.vm.findClass kL = some m.cls := findClass_of_methodNamed Bd.named
  have X0 : Stand p l e room_1 s m #[(.int p0), (.int p1), (.int p2), (.int p3), (.int p4)] below meth c s₁ [] 0 0 := Stand.of_body Bd
  have e0 : s₁.heap = h0 := by rw [← hh, Bd.state]; rfl
  have N0 := Fr.nil n0
  obtain ⟨T1, h1, lc1, b1, b2, b3, b4, b5, b6, b7, kb2, kb3, kb4, kb5, kb6, kb7, X1, e1, N1, K1, sp1_b1, sp1_b2, sp1_b3, sp1_b4, sp1_b5, sp1_b6, sp1_b7, ne1_b1_b2, ne1_b1_b3, ne1_b1_b4, ne1_b1_b5, ne1_b1_b6, ne1_b1_b7, ne1_b2_b3, ne1_b2_b4, ne1_b2_b5, ne1_b2_b6, ne1_b2_b7, ne1_b3_b4, ne1_b3_b5, ne1_b3_b6, ne1_b3_b7, ne1_b4_b5, ne1_b4_b6, ne1_b4_b7, ne1_b5_b6, ne1_b5_b7, ne1_b6_b7, R1_0, R1_1, R1_2, R1_3, R1_4, R1_5, R1_6, R1_7, R1_8, R1_9, R1_10, R1_11, R1_12, R1_13, R1_14, R1_15, R1_16, R1_17, R1_18, st1⟩ := sg_0 hw p5 p1 p0 p2 p3 p4 p6 p7 p8 X0 hx hZ hby hml hown e0 N0 OO i5 (own_q0 i5) own_q1
  have g2 : n0 ≤ b1 := Nat.le_trans (own_le OO) sp1_b1
  have g3 : n0 ≤ b2 := Nat.le_trans (own_le OO) sp1_b2
  have g4 : n0 ≤ b3 := Nat.le_trans (own_le OO) sp1_b3
  have g5 : n0 ≤ b4 := Nat.le_trans (own_le OO) sp1_b4
  have g6 : n0 ≤ b5 := Nat.le_trans (own_le OO) sp1_b5
  have g7 : n0 ≤ b6 := Nat.le_trans (own_le OO) sp1_b6
  have g8 : n0 ≤ b7 := Nat.le_trans (own_le OO) sp1_b7
  have O1 := Old.keep OO K1 all0
  obtain ⟨T9, h9, lc9, X9, e9, N9, K9, R9_0, R9_1, R9_2, R9_3, R9_4, R9_5, R9_6, R9_7, R9_8, R9_9, R9_10, R9_11, R9_12, R9_13, R9_14, R9_15, R9_16, R9_17, R9_18, st9⟩ := sg_16 hw p6 _ _ _ p7 _ _ _ p2 p5 (0 : Int32) (0 : Int32) (3 : Int32) p3 (0 : Int32) (0 : Int32) (0 : Int32) (0 : Int64) (0 : Int64) (0 : Int64) (0 : Int32) (0 : Int32) (0 : Int32) (0 : Int32) p0 p1 p4 p5 p8 b1 b3 b2 b4 b5 b6 b7 kb3 kb2 kb4 kb6 kb7 kb5 X1 (by decide) (by decide) hx hZ hby hml hown e1 N1 O1 R1_3 R1_12 R1_2 R1_11 i6 (own_q2 i6) own_q3 g3 R1_0 R1_4 R1_8 R1_13 R1_1 R1_5 R1_6 R1_7 R1_9 R1_10 ne1_b1_b2 (Ne.symm ne1_b2_b3) i7 g4 ne1_b1_b3 g2 (Ne.symm ne1_b2_b4) (Ne.symm ne1_b3_b4) (Ne.symm ne1_b1_b4) g5 (own_q4 i7) own_q5 R1_16 R1_18 R1_14 R1_15 R1_17 (Ne.symm ne1_b2_b6) (Ne.symm ne1_b3_b6) (Ne.symm ne1_b1_b6) (Ne.symm ne1_b4_b6) g7 (own_s3_in i5 i7) (Ne.symm ne1_b2_b7) (Ne.symm ne1_b3_b7) (Ne.symm ne1_b1_b7) (Ne.symm ne1_b4_b7) (Ne.symm ne1_b6_b7) g8 (own_s4_in i5 i7) (Ne.symm ne1_b2_b5) (Ne.symm ne1_b3_b5) (Ne.symm ne1_b1_b5) (Ne.symm ne1_b4_b5) ne1_b5_b6 ne1_b5_b7 g6 hd0 hd1
  have O9 := Old.keep O1 K9 (allS g3 (allS g5 (allS g2 (allS g4 (allS g6 (allS g8 (allS g7 all0)))))))
  have F10 : AD3 Z h9 b7 kb7 (own_pk (own_s3 p5 p7) ((((0 : Int64) + (own_pt p5 0 (p1.toInt64))) + (own_pt p6 0 (p2.toInt64))) + (own_pt p7 0 (p3.toInt64))) ((((0 : Int64) + (own_pt p5 1 (p1.toInt64))) + (own_pt p6 1 (p2.toInt64))) + (own_pt p7 1 (p3.toInt64))) ((((0 : Int64) + (own_pt p5 2 (p1.toInt64))) + (own_pt p6 2 (p2.toInt64))) + (own_pt p7 2 (p3.toInt64)))) (own_pk (own_s4 p5 p7) (own_up (own_s3 p5 p7) 0 (0 : Int64) ((((0 : Int64) + (own_pt p5 0 (p1.toInt64))) + (own_pt p6 0 (p2.toInt64))) + (own_pt p7 0 (p3.toInt64)))) (own_up (own_s3 p5 p7) 1 (0 : Int64) ((((0 : Int64) + (own_pt p5 1 (p1.toInt64))) + (own_pt p6 1 (p2.toInt64))) + (own_pt p7 1 (p3.toInt64)))) (own_up (own_s3 p5 p7) 2 (0 : Int64) ((((0 : Int64) + (own_pt p5 2 (p1.toInt64))) + (own_pt p6 2 (p2.toInt64))) + (own_pt p7 2 (p3.toInt64))))) 0 := R9_15
  have F11 : AZ3 Z h9 b3 kb3 0 0 0 := own_cgI R9_13 (own_q33 i5 i6 i7 hd0 hd1).1 (own_q33 i5 i6 i7 hd0 hd1).2.1 (own_q33 i5 i6 i7 hd0 hd1).2.2
  have F12 : AD3 Z h9 b2 kb2 0 0 0 := own_cgD R9_0 (own_q34 i5 i6 i7 hd0 hd1).1 (own_q34 i5 i6 i7 hd0 hd1).2.1 (own_q34 i5 i6 i7 hd0 hd1).2.2
  obtain ⟨T13, h13, lc13, b8, b9, b10, b11, b12, b13, b14, kb11, kb12, X13, e13, N13, K13, sp13_b8, sp13_b9, sp13_b10, sp13_b11, sp13_b12, sp13_b13, sp13_b14, ne13_b8_b9, ne13_b8_b10, ne13_b8_b11, ne13_b8_b12, ne13_b8_b13, ne13_b8_b14, ne13_b9_b10, ne13_b9_b11, ne13_b9_b12, ne13_b9_b13, ne13_b9_b14, ne13_b10_b11, ne13_b10_b12, ne13_b10_b13, ne13_b10_b14, ne13_b11_b12, ne13_b11_b13, ne13_b11_b14, ne13_b12_b13, ne13_b12_b14, ne13_b13_b14, R13_0, R13_1, R13_2, R13_3, R13_4, R13_5, R13_6, R13_7, R13_8, R13_9, R13_10, R13_11, R13_12, R13_13, R13_14, R13_15, R13_16, R13_17, R13_18, R13_19, R13_20, R13_21, R13_22, R13_23, R13_24, R13_25, R13_26, R13_27, R13_28, R13_29, R13_30, st13⟩ := sg_12 hw (own_s3 p5 p7) (own_s4 p5 p7) (0 : Int32) (0 : Int64) (0 : Int64) (0 : Int64) p8 p4 (own_s3 p5 p7) (own_s4 p5 p7) (0 : Int32) _ _ (0 : Int64) (0 : Int32) (0 : Int32) p0 p1 p2 p3 p5 p6 p7 b1 b3 b4 b2 b5 b6 b7 kb3 kb4 kb2 kb6 kb7 kb5 X9 hx hZ hby hml hown e9 N9 O9 R9_2 F11 R9_5 R9_6 R9_4 R9_1 R9_3 F12 R9_7 R9_8 R9_9 R9_10 R9_11 R9_12 i8 g4 ne1_b1_b3 g2 (Ne.symm ne1_b3_b4) (Ne.symm ne1_b1_b4) g5 ne1_b2_b3 (Ne.symm ne1_b1_b2) ne1_b2_b4 (own_q8 i8) own_q9 g3 R9_17 F10 R9_14 R9_18 R9_16 (Ne.symm ne1_b3_b6) (Ne.symm ne1_b1_b6) (Ne.symm ne1_b4_b6) (Ne.symm ne1_b2_b6) g7 (Ne.symm ne1_b3_b7) (Ne.symm ne1_b1_b7) (Ne.symm ne1_b4_b7) (Ne.symm ne1_b2_b7) (Ne.symm ne1_b6_b7) g8 (Ne.symm ne1_b3_b5) (Ne.symm ne1_b1_b5) (Ne.symm ne1_b4_b5) (Ne.symm ne1_b2_b5) ne1_b5_b6 ne1_b5_b7 g6 (own_iun p8 (by decide) (own_s3_in i5 i7)) (own_iun p8 (by decide) (own_s4_in i5 i7)) (own_iue 0 i8)
  have g14 : n0 ≤ b8 := Nat.le_trans (own_le O9) sp13_b8
  have g15 : n0 ≤ b9 := Nat.le_trans (own_le O9) sp13_b9
  have g16 : n0 ≤ b10 := Nat.le_trans (own_le O9) sp13_b10
  have g17 : n0 ≤ b11 := Nat.le_trans (own_le O9) sp13_b11
  have g18 : n0 ≤ b12 := Nat.le_trans (own_le O9) sp13_b12
  have g19 : n0 ≤ b13 := Nat.le_trans (own_le O9) sp13_b13
  have g20 : n0 ≤ b14 := Nat.le_trans (own_le O9) sp13_b14
  have O13 := Old.keep O9 K13 (allS g3 (allS g5 (allS g2 (allS g4 (allS g6 (allS g8 (allS g7 all0)))))))
  obtain ⟨T21, h21, lc21, X21, e21, N21, K21, st21⟩ := sg_17 hw p6 p5 p7 p0 p1 p2 p3 p4 p8 b1 b8 b11 X13 (by decide) (by decide) hx hZ hby hml hown e13 N13 O13 (own_q35 i5 i6 i7 hd0 hd1) (own_q36 i5 i6 i7 hd0 hd1) (own_q37 i5 i6 i7 hd0 hd1)
  have O21 := Old.keep O13 K21 all0
  have F23 := (Fld.keep R13_1 K21 nin0)
  have F24 := (Arv.keep R13_26 K21 nin0)
  have F25 := (Exa.keep R13_0 K21)
  have F26 := (Arv.keep R13_8 K21 nin0)
  obtain ⟨T22, h22, lc22, X22, e22, N22, K22, st22⟩ := sg_14 hw (0 : Int32) (3 : Int32) p0 p1 p2 p3 p4 p5 p6 p7 p8 b8 b5 b11 b12 b13 b14 b1 kb5 kb11 X21 (by decide) (by decide) hx hZ hby hml hown e21 N21 O21 F23 F24 F25 F26
  have O22 := Old.keep O21 K22 all0
  have F28 := (Arv.keep F26 K22 nin0)
  have F29 := (Arv.keep (Arv.keep R13_9 K21 nin0) K22 nin0)
  have F30 := (Arv.keep (Arv.keep R13_10 K21 nin0) K22 nin0)
  have F31 := (Arv.keep (Arv.keep R13_11 K21 nin0) K22 nin0)
  obtain ⟨T27, h27, lc27, X27, e27, N27, K27, st27⟩ := sg_10 hw _ _ _ p5 p1 p6 p2 p7 p3 _ _ _ p8 p4 (0 : Int64) (0 : Int64) (0 : Int64) p0 (2 : Int32) b11 b12 b13 b14 b1 b8 kb11 kb12 X22 (by decide) (by decide) hx hZ hby hml hown e22 N22 O22 F28 F29 (own_q38 i5 i6 i7 i8 hd0 hd1) (own_q39 i5 i6 i7 i8 hd0 hd1) (own_q40 i5 i6 i7 i8 hd0 hd1) F30 (own_q25 i8) (own_q26 i8) (own_q27 i8) F31 (by decide) (by decide) (by decide)
  have O27 := Old.keep O22 K27 all0
  obtain ⟨fs, hr, hrun, hended, hW, hsame⟩ := X27.leave (v := some (.int 1)) (fun h => by rw [Bd.returns] at h; cases h)
  refine ⟨_, _, (castTop (ef_0 m p0 p1 p2 p3 p4) ?_), hrun, hended, _, _, rfl, ?_, ⟨_, rfl⟩, hW, hsame.mono (by decide) (by decide)⟩
  · show Steps p.tables e below (s₁.setTop (mkF m 0 #[iv p0, iv p1, iv p2, iv p3, iv p4, .unset, .unset, .unset, .unset, .unset, .unset, .unset, .unset, .unset] [])) _
    refine oI X0 hx hby at_0 rfl rfl ?_
    refine XS.sipush X0.here hx rfl (hb hby at_1) ?_
    refine XS.iand X0.here hx rfl (hb hby at_4) rfl ?_
    refine oK X0 hx hby at_5 rfl ?_
    refine iremM X0 hx rfl (hb hby at_6) rfl (by decide) ?_
    show Steps p.tables e below (s₁.setTop (mkF m 7 #[iv p0, iv p1, iv p2, iv p3, iv p4, .unset, .unset, .unset, .unset, .unset, .unset, .unset, .unset, .unset] [(.int ((p0 &&& (255 : Int32)) % (3 : Int32)))])) _
    rw [hc5]
    refine XS.istore X0.here hx rfl (hb hby at_7) rfl (l' := #[iv p0, iv p1, iv p2, iv p3, iv p4, iv p5, .unset, .unset, .unset, .unset, .unset, .unset, .unset, .unset]) rfl ?_
    refine oI X0 hx hby at_9 rfl rfl ?_
    refine XS.bipush X0.here hx rfl (hb hby at_10) ?_
    refine XS.iushr X0.here hx rfl (hb hby at_12) rfl ?_
    refine XS.sipush X0.here hx rfl (hb hby at_13) ?_
    refine XS.iand X0.here hx rfl (hb hby at_16) rfl ?_
    refine oK X0 hx hby at_17 rfl ?_
    refine iremM X0 hx rfl (hb hby at_18) rfl (by decide) ?_
    show Steps p.tables e below (s₁.setTop (mkF m 19 #[iv p0, iv p1, iv p2, iv p3, iv p4, iv p5, .unset, .unset, .unset, .unset, .unset, .unset, .unset, .unset] [(.int ((((p0.toUInt32 >>> ((8 : Int32) &&& 31).toUInt32).toInt32) &&& (255 : Int32)) % (3 : Int32)))])) _
    rw [hc6]
    refine XS.istore X0.here hx rfl (hb hby at_19) rfl (l' := #[iv p0, iv p1, iv p2, iv p3, iv p4, iv p5, iv p6, .unset, .unset, .unset, .unset, .unset, .unset, .unset]) rfl ?_
    refine oI X0 hx hby at_21 rfl rfl ?_
    refine XS.bipush X0.here hx rfl (hb hby at_22) ?_
    refine XS.iushr X0.here hx rfl (hb hby at_24) rfl ?_
    refine XS.sipush X0.here hx rfl (hb hby at_25) ?_
    refine XS.iand X0.here hx rfl (hb hby at_28) rfl ?_
    refine oK X0 hx hby at_29 rfl ?_
    refine iremM X0 hx rfl (hb hby at_30) rfl (by decide) ?_
    show Steps p.tables e below (s₁.setTop (mkF m 31 #[iv p0, iv p1, iv p2, iv p3, iv p4, iv p5, iv p6, .unset, .unset, .unset, .unset, .unset, .unset, .unset] [(.int ((((p0.toUInt32 >>> ((16 : Int32) &&& 31).toUInt32).toInt32) &&& (255 : Int32)) % (3 : Int32)))])) _
    rw [hc7]
    refine XS.istore X0.here hx rfl (hb hby at_31) rfl (l' := #[iv p0, iv p1, iv p2, iv p3, iv p4, iv p5, iv p6, iv p7, .unset, .unset, .unset, .unset, .unset, .unset]) rfl ?_
    refine oI X0 hx hby at_33 rfl rfl ?_
    refine XS.bipush X0.here hx rfl (hb hby at_34) ?_
    refine XS.iushr X0.here hx rfl (hb hby at_36) rfl ?_
    refine XS.sipush X0.here hx rfl (hb hby at_37) ?_
    refine XS.iand X0.here hx rfl (hb hby at_40) rfl ?_
    refine oK X0 hx hby at_41 rfl ?_
    refine iremM X0 hx rfl (hb hby at_42) rfl (by decide) ?_
    show Steps p.tables e below (s₁.setTop (mkF m 43 #[iv p0, iv p1, iv p2, iv p3, iv p4, iv p5, iv p6, iv p7, .unset, .unset, .unset, .unset, .unset, .unset] [(.int ((((p0.toUInt32 >>> ((24 : Int32) &&& 31).toUInt32).toInt32) &&& (255 : Int32)) % (3 : Int32)))])) _
    rw [hc8]
    refine XS.istore X0.here hx rfl (hb hby at_43) rfl (l' := #[iv p0, iv p1, iv p2, iv p3, iv p4, iv p5, iv p6, iv p7, iv p8, .unset, .unset, .unset, .unset, .unset]) rfl ?_
    show Steps p.tables e below (s₁.setTop (mkF m 45 #[iv p0, iv p1, iv p2, iv p3, iv p4, iv p5, iv p6, iv p7, iv p8, .unset, .unset, .unset, .unset, .unset] [])) _
    refine st1 _ ?_
    show Steps p.tables e below (T1.setTop (mkF m 64 #[iv p0, iv p1, iv p2, iv p3, iv p4, iv p5, iv p6, iv p7, iv p8, rv b1, .unset, .unset, .unset, .unset] [])) _
    refine st9 _ ?_
    show Steps p.tables e below (T9.setTop (mkF m 87 #[iv p0, iv p1, iv p2, iv p3, iv p4, iv p5, iv p6, iv p7, iv p8, rv b1, .unset, .unset, .unset, .unset] [])) _
    refine st13 _ ?_
    show Steps p.tables e below (T13.setTop (mkF m 121 #[iv p0, iv p1, iv p2, iv p3, iv p4, iv p5, iv p6, iv p7, iv p8, rv b1, rv b8, rv b11, .unset, .unset] [])) _
    refine st21 _ ?_
    show Steps p.tables e below (T21.setTop (mkF m 157 #[iv p0, iv p1, iv p2, iv p3, iv p4, iv p5, iv p6, iv p7, iv p8, rv b1, rv b8, rv b11, iv 2, .unset] [])) _
    refine st22 _ ?_
    show Steps p.tables e below (T22.setTop (mkF m 207 #[iv p0, iv p1, iv p2, iv p3, iv p4, iv p5, iv p6, iv p7, iv p8, rv b1, rv b8, rv b11, iv 2, iv 1] [])) _
    refine st27 _ ?_
    refine oi X27 hx hby at_369 rfl rfl ?_
    exact retN X27 hx (t := .boolean) Bd.returns (by simp) (hb hby at_371) hr
  · exact ⟨rfl, N27⟩
def Q4_6 (Z : State) (t0 t1 t2 t3 t4 t5 : Int32) (t6 t7 t8 t9 t10 t11 : Int64) (t12 t13 t14 t15 t16 t17 t18 t19 : Int32) (o0 o1 o2 o3 o4 o5 o6 : Addr) (j0 j1 j2 j3 j4 j5 : ClassId) (h0 : Heap) (n0 : Nat) (v : Option Value) (h : Heap) (L : List Loc) : Prop := v = none ∧ Fr n0 L ∧ Keep h0 h [o2, o1, o3, o0, o4, o5, o6] ∧ AI3 Z h o2 j1 t3 t4 t5 ∧ AI3 Z h o1 j0 t3 t1 t2 ∧ Exa Z h o1 "[I" ∧ AD3 Z h o3 j3 (own_pk t3 t6 t7 t8) t10 t11 ∧ Exa Z h o3 "[D" ∧ fB8 Z h o0 (.int 1) ∧ fB7 Z h o0 (.int 0) ∧ fB5 Z h o0 (.ref o1) ∧ fB3 Z h o0 (.ref o2) ∧ fB6 Z h o0 (.ref o3) ∧ fB1 Z h o0 (.ref o4) ∧ Exa Z h o0 kB ∧ fB2 Z h o0 (.ref o5) ∧ fB9 Z h o0 (.int 1) ∧ fB4 Z h o0 (.ref o6) ∧ fB0 Z h o0 (.int t19) ∧ AD3 Z h o4 j2 (own_up t3 0 (0 : Int64) t6) (own_up t3 1 (0 : Int64) t7) (own_up t3 2 (0 : Int64) t8) ∧ AZ3 Z h o5 j4 (own_ui t3 0 0 t12) (own_ui t3 1 0 t13) (own_ui t3 2 0 t14) ∧ AI4 Z h o6 j5 t15 1 t17 t18
theorem rm4_6 (l : Launch) (Z : State) (a0 : Array Value) (hw : HW a0 Z) (ws : List Jvm.Cond) (t0 t1 t2 t3 t4 t5 : Int32) (t6 t7 t8 t9 t10 t11 : Int64) (t12 t13 t14 t15 t16 t17 t18 t19 : Int32) (o0 o1 o2 o3 o4 o5 o6 : Addr) (j0 j1 j2 j3 j4 j5 : ClassId) (h0 : Heap) (n0 : Nat) (OO : Old Z n0 h0) (f0 : fB8 Z h0 o0 (.int 0)) (f1 : fB7 Z h0 o0 (.int 1)) (f2 : fB5 Z h0 o0 (.ref o1)) (f3 : AI3 Z h0 o1 j0 t0 t1 t2) (f4 : fB3 Z h0 o0 (.ref o2)) (f5 : AI3 Z h0 o2 j1 t3 t4 t5) (u0 : n0 ≤ o2) (v0 : o0 ≠ o2) (v1 : o1 ≠ o2) (u1 : n0 ≤ o1) (f6 : fB6 Z h0 o0 (.ref o3)) (v2 : o0 ≠ o1) (f7 : fB1 Z h0 o0 (.ref o4)) (f8 : AD3 Z h0 o4 j2 t6 t7 t8) (v3 : o4 ≠ o2) (v4 : o4 ≠ o1) (d0 : own_in3 t3) (f9 : AD3 Z h0 o3 j3 t9 t10 t11) (v5 : o3 ≠ o2) (v6 : o3 ≠ o1) (u2 : n0 ≤ o3) (v7 : o0 ≠ o3) (f10 : Exa Z h0 o0 kB) (u3 : n0 ≤ o0) (v8 : o4 ≠ o3) (v9 : o4 ≠ o0) (u4 : n0 ≤ o4) (f11 : fB2 Z h0 o0 (.ref o5)) (f12 : AZ3 Z h0 o5 j4 t12 t13 t14) (v10 : o5 ≠ o2) (v11 : o5 ≠ o1) (v12 : o5 ≠ o3) (v13 : o5 ≠ o0) (v14 : o5 ≠ o4) (u5 : n0 ≤ o5) (f13 : fB9 Z h0 o0 (.int 0)) (f14 : fB4 Z h0 o0 (.ref o6)) (f15 : AI4 Z h0 o6 j5 t15 t16 t17 t18) (v15 : o6 ≠ o2) (v16 : o6 ≠ o1) (v17 : o6 ≠ o3) (v18 : o6 ≠ o0) (v19 : o6 ≠ o4) (v20 : o6 ≠ o5) (u6 : n0 ≤ o6) (f16 : Exa Z h0 o1 "[I") (f17 : Exa Z h0 o3 "[D") (f18 : fB0 Z h0 o0 (.int t19)) :
    own_MF l Z h0 (⟨kB, "endRow", "()V"⟩ : MethodName) ws prog_58_method_3_code 3 none ({ frames := 4, cells := 0, slots := 0, locals := 81 } : Room) #[(.ref o0)] (Q4_6 Z t0 t1 t2 t3 t4 t5 t6 t7 t8 t9 t10 t11 t12 t13 t14 t15 t16 t17 t18 t19 o0 o1 o2 o3 o4 o5 o6 j0 j1 j2 j3 j4 j5 h0 n0) := by
  refine MetFree.of_bodySF (plainFor_of_name pn_4) hisR ?_
  intro p e s m args below meth c s₁ Bd hml0 hP hK
  obtain ⟨rfl, hZ, hh⟩ := hP
  have hx := Bd.exec
  have hby := Bd.bytes
  have hml : c.maxLocals = 3 := hml0
  have hown : s.vm.findClass kB = some m.cls := findClass_of_methodNamed Bd.named
  have X0 : Stand p l e ({ frames := 4, cells := 0, slots := 0, locals := 81 } : Room) s m #[(.ref o0)] below meth c s₁ [] 0 0 := Stand.of_body Bd
  have e0 : s₁.heap = h0 := by rw [← hh, Bd.state]; rfl
  have N0 := Fr.nil n0
  obtain ⟨T1, X1, e1, st1⟩ := own_gF X0 hx hZ hown (w_38 hw) e0 f0 (g := (mkF m 1 #[rv o0, .unset, .unset] [(.ref o0)])) rfl rfl (hb hby d4_1)
  obtain ⟨T2, X2, e2, st2⟩ := own_gF X1 hx hZ hown (w_31 hw) e1 f1 (g := (mkF m 5 #[rv o0, .unset, .unset] [(.ref o0), (.int 0)])) rfl rfl (hb hby d4_5)
  obtain ⟨T3, X3, e3, st3⟩ := own_gF X2 hx hZ hown (w_22 hw) e2 f2 (g := (mkF m 10 #[rv o0, .unset, .unset] [(.ref o0), (.int 1)])) rfl rfl (hb hby d4_10)
  obtain ⟨c4, r4, q4, S4, M4, H4, G4⟩ := id f3
  obtain ⟨T5, X5, e5, st5⟩ := own_gF X3 hx hZ hown (w_18 hw) e3 f4 (g := (mkF m 62 #[rv o0, .unset, .unset] [(.ref o0)])) rfl rfl (hb hby d4_62)
  obtain ⟨T6, X6, e6, st6⟩ := own_gF X5 hx hZ hown (w_31 hw) e5 f1 (g := (mkF m 67 #[rv o0, .unset, .unset] [(.ref o0), (.int 0), (.ref o2)])) rfl rfl (hb hby d4_67)
  obtain ⟨_, T7, h7, Lc7, X7, e7, hQ7, st7⟩ := own_cS X6 hx hZ hown (w_40 hw) (w_41 hw) (w_42 hw) (w_43 hw) (by decide) (rm5_1 l Z a0 hw [] t3 t4 t5 (1 : Int32) (0 : Int32) o2 j1 h0 n0 OO f5 (by decide) (by decide) (by decide) (by decide) (by decide) u0 (by decide)) e6 (W := 0) (by decide) (by decide) (by decide : 0 + 0 ≤ _) (by decide : 0 + 0 ≤ _) (g := (mkF m 70 #[rv o0, .unset, .unset] [(.int 1), (.int 0), (.ref o2)])) rfl (by rw [hml]; rfl) (argsL := [(.ref o2), (.int 0), (.int 1)]) (rest := []) (lenOf pd_3 rfl) rfl rfl rfl (hb hby d4_70) rfl
  obtain ⟨rfl, N7q, K7, R7_0⟩ := hQ7
  have N7 := Fr.app N0 N7q
  have O7 := Old.keep OO K7 (allS u0 all0)
  have KK7 := Keep.trans (Keep.refl h0 [o2, o1, o3, o0, o4, o5, o6]) K7 (allS (Or.inl (own_m 0 rfl)) all0)
  have F8 := (Fld.keep f1 K7 (ninS v0 nin0))
  obtain ⟨T9, X9, e9, st9⟩ := own_gF X7 hx hZ hown (w_31 hw) e7 F8 (g := (mkF m 77 #[rv o0, iv 0, .unset] [(.ref o0), (.int 0)])) rfl rfl (hb hby d4_77)
  have F10 := (Fld.keep f4 K7 (ninS v0 nin0))
  obtain ⟨T11, X11, e11, st11⟩ := own_gF X9 hx hZ hown (w_18 hw) e9 F10 (g := (mkF m 84 #[rv o0, iv 0, .unset] [(.ref o0)])) rfl rfl (hb hby d4_84)
  obtain ⟨c12, r12, q12, S12, M12, H12, G12⟩ := id R7_0
  have i13 := inb_of (j := 0) S12 (by decide)
  have y14 : c12.slots[((0 : Int32)).toNatClampNeg]? = some (.int t3) := H12 0 (by rw [S12]; decide)
  have F15 := (Fld.keep f2 K7 (ninS v0 nin0))
  obtain ⟨T16, X16, e16, st16⟩ := own_gF X11 hx hZ hown (w_22 hw) e11 F15 (g := (mkF m 91 #[rv o0, iv 0, iv t3] [(.ref o0)])) rfl rfl (hb hby d4_91)
  have F17 := (Fld.keep f0 K7 (ninS v0 nin0))
  obtain ⟨T18, X18, e18, st18⟩ := own_gF X16 hx hZ hown (w_38 hw) e16 F17 (g := (mkF m 95 #[rv o0, iv 0, iv t3] [(.ref o0), (.ref o1)])) rfl rfl (hb hby d4_95)
  have F20 := (Arv.keep f3 K7 (ninS v1 nin0))
  obtain ⟨c19, r19, q19, S19, M19, H19, G19⟩ := id F20
  have i21 := inb_of (j := 0) S19 (by decide)
  obtain ⟨T22, h22, X22, e22, W22, st22⟩ := stI X18 hx hZ e18 r19 (j := (0 : Int32)) i21 (g := (mkF m 99 #[rv o0, iv 0, iv t3] [(.int t3), (.int 0), (.ref o1)])) rfl rfl (hb hby d4_99)
  have O22 := Old.wr O7 W22 u1
  have KK22 := Keep.wr KK7 W22 (Or.inl (own_m 1 rfl))
  have N22 := Fr.snoc X22 N7 u1
  have F23 : AI3 Z h22 o1 j0 t3 t1 t2 := Arv.set r19 q19 S19 M19 H19 G19 rfl W22 0 rfl (Nat.le_of_ble_eq_true rfl)
  have F24 := (Fld.other W22 (Fld.keep f6 K7 (ninS v0 nin0)) (Or.inl v2))
  obtain ⟨T25, X25, e25, st25⟩ := own_gF X22 hx hZ hown (w_24 hw) e22 F24 (g := (mkF m 101 #[rv o0, iv 0, iv t3] [(.ref o0)])) rfl rfl (hb hby d4_101)
  have F26 := (Fld.other W22 F17 (Or.inl v2))
  obtain ⟨T27, X27, e27, st27⟩ := own_gF X25 hx hZ hown (w_38 hw) e25 F26 (g := (mkF m 105 #[rv o0, iv 0, iv t3] [(.ref o0), (.ref o3)])) rfl rfl (hb hby d4_105)
  have F28 := (Fld.other W22 (Fld.keep f7 K7 (ninS v0 nin0)) (Or.inl v2))
  obtain ⟨T29, X29, e29, st29⟩ := own_gF X27 hx hZ hown (w_12 hw) e27 F28 (g := (mkF m 109 #[rv o0, iv 0, iv t3] [(.ref o0), (.int 0), (.ref o3)])) rfl rfl (hb hby d4_109)
  have F31 := (Arv.other (Arv.keep f8 K7 (ninS v3 nin0)) W22 v4)
  obtain ⟨c30, r30, q30, S30, M30, H30, G30⟩ := id F31
  have i32 := own_inb (j := t3) S30 d0
  have y33 := own_rdD S30 H30 d0
  have F35 := (Arv.other (Arv.keep f9 K7 (ninS v5 nin0)) W22 v6)
  obtain ⟨c34, r34, q34, S34, M34, H34, G34⟩ := id F35
  have i36 := inb_of (j := 0) S34 (by decide)
  obtain ⟨T37, h37, X37, e37, W37, st37⟩ := stD X29 hx hZ e29 r34 (j := (0 : Int32)) i36 (g := (mkF m 114 #[rv o0, iv 0, iv t3] [(.double (FP.l2d (own_pk t3 t6 t7 t8))), (.int 0), (.ref o3)])) rfl rfl (hb hby d4_114)
  have O37 := Old.wr O22 W37 u2
  have KK37 := Keep.wr KK22 W37 (Or.inl (own_m 2 rfl))
  have N37 := Fr.snoc X37 N22 u2
  have F38 : AD3 Z h37 o3 j3 (own_pk t3 t6 t7 t8) t10 t11 := Arv.set r34 q34 S34 M34 H34 G34 rfl W37 0 rfl (Nat.le_of_ble_eq_true rfl)
  have F39 := (Fld.other W37 F26 (Or.inl v7))
  obtain ⟨T40, X40, e40, st40⟩ := own_gF X37 hx hZ hown (w_38 hw) e37 F39 (g := (mkF m 117 #[rv o0, iv 0, iv t3] [(.ref o0), (.ref o0)])) rfl rfl (hb hby d4_117)
  have F41 := (Exa.wr W37 (Exa.wr W22 (Exa.keep f10 K7)))
  obtain ⟨T42, h42, X42, e42, W42, st42⟩ := putF X40 hx hZ hown (host := "") (Or.inl (w_38 hw)) Via.refl e40 F39 F41 (Or.inl (w_39 hw)) (w_1 hw) (ty := .int) (by decide) rfl rfl (g := (mkF m 122 #[rv o0, iv 0, iv t3] [(.int 1), (.ref o0)])) rfl rfl (hb hby d4_122)
  have O42 := Old.wr O37 W42 u3
  have KK42 := Keep.wr KK37 W42 (Or.inl (own_m 3 rfl))
  have N42 := Fr.snoc X42 N37 u3
  have F43 : fB8 Z h42 o0 (.int 1) := Fld.same W42 F39
  have F44 := (Fld.other W42 (Fld.other W37 F28 (Or.inl v7)) (Or.inr (n_13_39 hw)))
  obtain ⟨T45, X45, e45, st45⟩ := own_gF X42 hx hZ hown (w_12 hw) e42 F44 (g := (mkF m 126 #[rv o0, iv 0, iv t3] [(.ref o0)])) rfl rfl (hb hby d4_126)
  have F47 := (Arv.other (Arv.other F31 W37 v8) W42 v9)
  obtain ⟨c46, r46, q46, S46, M46, H46, G46⟩ := id F47
  have i48 := own_inb (j := t3) S46 d0
  obtain ⟨T49, h49, X49, e49, W49, st49⟩ := stD X45 hx hZ e45 r46 (j := t3) i48 (g := (mkF m 131 #[rv o0, iv 0, iv t3] [(.double (FP.l2d (0 : Int64))), (.int t3), (.ref o4)])) rfl rfl (hb hby d4_131)
  have O49 := Old.wr O42 W49 u4
  have KK49 := Keep.wr KK42 W49 (Or.inl (own_m 4 rfl))
  have N49 := Fr.snoc X49 N42 u4
  have F50 : AD3 Z h49 o4 j2 (own_up t3 0 (0 : Int64) t6) (own_up t3 1 (0 : Int64) t7) (own_up t3 2 (0 : Int64) t8) := own_setD r46 q46 S46 M46 H46 G46 W49 d0
  have F51 := (Fld.other W49 (Fld.other W42 (Fld.other W37 (Fld.other W22 (Fld.keep f11 K7 (ninS v0 nin0)) (Or.inl v2)) (Or.inl v7)) (Or.inr (n_16_39 hw))) (Or.inl (Ne.symm v9)))
  obtain ⟨T52, X52, e52, st52⟩ := own_gF X49 hx hZ hown (w_15 hw) e49 F51 (g := (mkF m 133 #[rv o0, iv 0, iv t3] [(.ref o0)])) rfl rfl (hb hby d4_133)
  have F54 := (Arv.other (Arv.other (Arv.other (Arv.other (Arv.keep f12 K7 (ninS v10 nin0)) W22 v11) W37 v12) W42 v13) W49 v14)
  obtain ⟨c53, r53, q53, S53, M53, H53, G53⟩ := id F54
  have i55 := own_inb (j := t3) S53 d0
  obtain ⟨T56, h56, X56, e56, W56, st56⟩ := stZ X52 hx hZ e52 r53 (j := t3) i55 (g := (mkF m 138 #[rv o0, iv 0, iv t3] [(.int 0), (.int t3), (.ref o5)])) rfl rfl (hb hby d4_138)
  have O56 := Old.wr O49 W56 u5
  have KK56 := Keep.wr KK49 W56 (Or.inl (own_m 5 rfl))
  have N56 := Fr.snoc X56 N49 u5
  have F57 : AZ3 Z h56 o5 j4 (own_ui t3 0 0 t12) (own_ui t3 1 0 t13) (own_ui t3 2 0 t14) := own_setI r53 q53 S53 M53 H53 G53 (by decide) W56 d0
  have F58 := (Fld.other W56 (Fld.other W49 (Fld.other W42 (Fld.other W37 (Fld.other W22 F8 (Or.inl v2)) (Or.inl v7)) (Or.inr (n_32_39 hw))) (Or.inl (Ne.symm v9))) (Or.inl (Ne.symm v13)))
  obtain ⟨T59, X59, e59, st59⟩ := own_gF X56 hx hZ hown (w_31 hw) e56 F58 (g := (mkF m 77 #[rv o0, iv 1, iv t3] [(.ref o0), (.int 1)])) rfl rfl (hb hby d4_77)
  have F60 := (Exa.wr W56 (Exa.wr W49 (Exa.wr W42 F41)))
  obtain ⟨T61, h61, X61, e61, W61, st61⟩ := putF X59 hx hZ hown (host := "") (Or.inl (w_31 hw)) Via.refl e59 F58 F60 (Or.inl (w_32 hw)) (w_1 hw) (ty := .int) (by decide) rfl rfl (g := (mkF m 147 #[rv o0, iv 1, iv t3] [(.int 0), (.ref o0)])) rfl rfl (hb hby d4_147)
  have O61 := Old.wr O56 W61 u3
  have KK61 := Keep.wr KK56 W61 (Or.inl (own_m 3 rfl))
  have N61 := Fr.snoc X61 N56 u3
  have F62 : fB7 Z h61 o0 (.int 0) := Fld.same W61 F58
  have F63 := (Fld.other W61 (Fld.other W56 (Fld.other W49 (Fld.other W42 (Fld.other W37 (Fld.other W22 (Fld.keep f13 K7 (ninS v0 nin0)) (Or.inl v2)) (Or.inl v7)) (Or.inr (n_58_39 hw))) (Or.inl (Ne.symm v9))) (Or.inl (Ne.symm v13))) (Or.inr (n_58_32 hw)))
  obtain ⟨T64, X64, e64, st64⟩ := own_gF X61 hx hZ hown (w_57 hw) e61 F63 (g := (mkF m 152 #[rv o0, iv 1, iv t3] [(.ref o0), (.ref o0)])) rfl rfl (hb hby d4_152)
  have F65 := (Exa.wr W61 F60)
  obtain ⟨T66, h66, X66, e66, W66, st66⟩ := putF X64 hx hZ hown (host := "") (Or.inl (w_57 hw)) Via.refl e64 F63 F65 (Or.inl (w_58 hw)) (w_1 hw) (ty := .int) (by decide) rfl rfl (g := (mkF m 157 #[rv o0, iv 1, iv t3] [(.int 1), (.ref o0)])) rfl rfl (hb hby d4_157)
  have O66 := Old.wr O61 W66 u3
  have KK66 := Keep.wr KK61 W66 (Or.inl (own_m 3 rfl))
  have N66 := Fr.snoc X66 N61 u3
  have F67 : fB9 Z h66 o0 (.int 1) := Fld.same W66 F63
  have F68 := (Fld.other W66 (Fld.other W61 (Fld.other W56 (Fld.other W49 (Fld.other W42 (Fld.other W37 (Fld.other W22 (Fld.keep f14 K7 (ninS v0 nin0)) (Or.inl v2)) (Or.inl v7)) (Or.inr (n_21_39 hw))) (Or.inl (Ne.symm v9))) (Or.inl (Ne.symm v13))) (Or.inr (n_21_32 hw))) (Or.inr (n_21_58 hw)))
  obtain ⟨T69, X69, e69, st69⟩ := own_gF X66 hx hZ hown (w_20 hw) e66 F68 (g := (mkF m 161 #[rv o0, iv 1, iv t3] [(.ref o0)])) rfl rfl (hb hby d4_161)
  obtain ⟨T70, X70, e70, st70⟩ := own_gF X69 hx hZ hown (w_57 hw) e69 F67 (g := (mkF m 165 #[rv o0, iv 1, iv t3] [(.ref o0), (.ref o6)])) rfl rfl (hb hby d4_165)
  have F71 := (Fld.other W66 (Fld.other W61 (Fld.other W56 (Fld.other W49 F43 (Or.inl (Ne.symm v9))) (Or.inl (Ne.symm v13))) (Or.inr (n_39_32 hw))) (Or.inr (n_39_58 hw)))
  obtain ⟨T72, X72, e72, st72⟩ := own_gF X70 hx hZ hown (w_38 hw) e70 F71 (g := (mkF m 169 #[rv o0, iv 1, iv t3] [(.ref o0), (.int 1), (.ref o6)])) rfl rfl (hb hby d4_169)
  have F74 := (Arv.other (Arv.other (Arv.other (Arv.other (Arv.other (Arv.other (Arv.other (Arv.keep f15 K7 (ninS v15 nin0)) W22 v16) W37 v17) W42 v18) W49 v19) W56 v20) W61 v18) W66 v18)
  obtain ⟨c73, r73, q73, S73, M73, H73, G73⟩ := id F74
  have i75 := inb_of (j := 1) S73 (by decide)
  obtain ⟨T76, h76, X76, e76, W76, st76⟩ := stI X72 hx hZ e72 r73 (j := (1 : Int32)) i75 (g := (mkF m 172 #[rv o0, iv 1, iv t3] [(.int 1), (.int 1), (.ref o6)])) rfl rfl (hb hby d4_172)
  have O76 := Old.wr O66 W76 u6
  have KK76 := Keep.wr KK66 W76 (Or.inl (own_m 6 rfl))
  have N76 := Fr.snoc X76 N66 u6
  have F77 : AI4 Z h76 o6 j5 t15 1 t17 t18 := Arv.set r73 q73 S73 M73 H73 G73 rfl W76 1 rfl (Nat.le_of_ble_eq_true rfl)
  have F78 := (Arv.other (Arv.other (Arv.other (Arv.other (Arv.other (Arv.other (Arv.other (Arv.other R7_0 W22 (Ne.symm v1)) W37 (Ne.symm v5)) W42 (Ne.symm v0)) W49 (Ne.symm v3)) W56 (Ne.symm v10)) W61 (Ne.symm v0)) W66 (Ne.symm v0)) W76 (Ne.symm v15))
  have F79 := (Arv.other (Arv.other (Arv.other (Arv.other (Arv.other (Arv.other (Arv.other F23 W37 (Ne.symm v6)) W42 (Ne.symm v2)) W49 (Ne.symm v4)) W56 (Ne.symm v11)) W61 (Ne.symm v2)) W66 (Ne.symm v2)) W76 (Ne.symm v16))
  have F80 := (Exa.wr W76 (Exa.wr W66 (Exa.wr W61 (Exa.wr W56 (Exa.wr W49 (Exa.wr W42 (Exa.wr W37 (Exa.wr W22 (Exa.keep f16 K7)))))))))
  have F81 := (Arv.other (Arv.other (Arv.other (Arv.other (Arv.other (Arv.other F38 W42 (Ne.symm v7)) W49 (Ne.symm v8)) W56 (Ne.symm v12)) W61 (Ne.symm v7)) W66 (Ne.symm v7)) W76 (Ne.symm v17))
  have F82 := (Exa.wr W76 (Exa.wr W66 (Exa.wr W61 (Exa.wr W56 (Exa.wr W49 (Exa.wr W42 (Exa.wr W37 (Exa.wr W22 (Exa.keep f17 K7)))))))))
  have F83 := (Fld.other W76 F71 (Or.inl (Ne.symm v18)))
  have F84 := (Fld.other W76 (Fld.other W66 F62 (Or.inr (n_32_58 hw))) (Or.inl (Ne.symm v18)))
  have F85 := (Fld.other W76 (Fld.other W66 (Fld.other W61 (Fld.other W56 (Fld.other W49 (Fld.other W42 (Fld.other W37 (Fld.other W22 F15 (Or.inl v2)) (Or.inl v7)) (Or.inr (n_23_39 hw))) (Or.inl (Ne.symm v9))) (Or.inl (Ne.symm v13))) (Or.inr (n_23_32 hw))) (Or.inr (n_23_58 hw))) (Or.inl (Ne.symm v18)))
  have F86 := (Fld.other W76 (Fld.other W66 (Fld.other W61 (Fld.other W56 (Fld.other W49 (Fld.other W42 (Fld.other W37 (Fld.other W22 F10 (Or.inl v2)) (Or.inl v7)) (Or.inr (n_19_39 hw))) (Or.inl (Ne.symm v9))) (Or.inl (Ne.symm v13))) (Or.inr (n_19_32 hw))) (Or.inr (n_19_58 hw))) (Or.inl (Ne.symm v18)))
  have F87 := (Fld.other W76 (Fld.other W66 (Fld.other W61 (Fld.other W56 (Fld.other W49 (Fld.other W42 (Fld.other W37 F24 (Or.inl v7)) (Or.inr (n_25_39 hw))) (Or.inl (Ne.symm v9))) (Or.inl (Ne.symm v13))) (Or.inr (n_25_32 hw))) (Or.inr (n_25_58 hw))) (Or.inl (Ne.symm v18)))
  have F88 := (Fld.other W76 (Fld.other W66 (Fld.other W61 (Fld.other W56 (Fld.other W49 F44 (Or.inl (Ne.symm v9))) (Or.inl (Ne.symm v13))) (Or.inr (n_13_32 hw))) (Or.inr (n_13_58 hw))) (Or.inl (Ne.symm v18)))
  have F89 := (Exa.wr W76 (Exa.wr W66 F65))
  have F90 := (Fld.other W76 (Fld.other W66 (Fld.other W61 (Fld.other W56 F51 (Or.inl (Ne.symm v13))) (Or.inr (n_16_32 hw))) (Or.inr (n_16_58 hw))) (Or.inl (Ne.symm v18)))
  have F91 := (Fld.other W76 F67 (Or.inl (Ne.symm v18)))
  have F92 := (Fld.other W76 F68 (Or.inl (Ne.symm v18)))
  have F93 := (Fld.other W76 (Fld.other W66 (Fld.other W61 (Fld.other W56 (Fld.other W49 (Fld.other W42 (Fld.other W37 (Fld.other W22 (Fld.keep f18 K7 (ninS v0 nin0)) (Or.inl v2)) (Or.inl v7)) (Or.inr (n_10_39 hw))) (Or.inl (Ne.symm v9))) (Or.inl (Ne.symm v13))) (Or.inr (n_10_32 hw))) (Or.inr (n_10_58 hw))) (Or.inl (Ne.symm v18)))
  have F94 := (Arv.other (Arv.other (Arv.other (Arv.other F50 W56 (Ne.symm v14)) W61 v9) W66 v9) W76 (Ne.symm v19))
  have F95 := (Arv.other (Arv.other (Arv.other F57 W61 v13) W66 v13) W76 (Ne.symm v20))
  obtain ⟨fs, hr, hrun, hended, hW, hsame⟩ := X76.leave (v := none) (fun _ => rfl)
  refine ⟨_, _, (castTop (ef_4 m o0) ?_), hrun, hended, _, _, rfl, ?_, ⟨_, rfl⟩, hW, hsame.mono (by decide) (by decide)⟩
  · show Steps p.tables e below (s₁.setTop (mkF m 0 #[rv o0, .unset, .unset] [])) _
    refine oA X0 hx hby d4_0 rfl rfl rfl ?_
    refine st1 _ ?_
    refine oA X1 hx hby d4_4 rfl rfl rfl ?_
    refine st2 _ ?_
    refine XS.iadd X2.here hx rfl (hb hby d4_8) rfl ?_
    show Steps p.tables e below (T2.setTop (mkF m 9 #[rv o0, .unset, .unset] [(.int ((0 : Int32) + (1 : Int32)))])) _
    rw [(by decide : ((0 : Int32) + (1 : Int32)) = (1 : Int32))]
    refine oA X2 hx hby d4_9 rfl rfl rfl ?_
    refine st3 _ ?_
    refine X3.arraylength hx (by rw [e3]; exact r4.1) (State.isArrayOf_alike hZ.alike r4.2.1) (g := (mkF m 13 #[rv o0, .unset, .unset] [(.ref o1), (.int 1)])) rfl rfl (hb hby d4_13) _ ?_
    rw [len_of S4 M4]
    refine XS.icmpYes X3.here hx rfl (pc0 := 14) (pc' := 61) rfl (hb hby d4_14) rfl (by decide) (by decide) (by decide) ?_
    refine oA X3 hx hby d4_61 rfl rfl rfl ?_
    refine st5 _ ?_
    refine oK X5 hx hby d4_65 rfl ?_
    refine oA X5 hx hby d4_66 rfl rfl rfl ?_
    refine st6 _ ?_
    refine st7 _ ?_
    refine oK X7 hx hby d4_73 rfl ?_
    refine XS.istoreN X7.here hx rfl (hb hby d4_74) rfl (l' := #[rv o0, iv 0, .unset]) rfl ?_
    refine oI X7 hx hby d4_75 rfl rfl ?_
    refine oA X7 hx hby d4_76 rfl rfl rfl ?_
    refine st9 _ ?_
    refine XS.icmpNo X9.here hx rfl (hb hby d4_80) rfl (by decide) ?_
    refine oA X9 hx hby d4_83 rfl rfl rfl ?_
    refine st11 _ ?_
    refine oI X11 hx hby d4_87 rfl rfl ?_
    refine oL X11 hx hZ e11 r12 i13 y14 (by exact hb hby d4_88) rfl rfl ?_
    refine XS.istoreN X11.here hx rfl (hb hby d4_89) rfl (l' := #[rv o0, iv 0, iv t3]) rfl ?_
    refine oA X11 hx hby d4_90 rfl rfl rfl ?_
    show Steps p.tables e below (T11.setTop (mkF m 91 #[rv o0, iv 0, iv t3] [(.ref o0)])) _
    refine st16 _ ?_
    refine oA X16 hx hby d4_94 rfl rfl rfl ?_
    refine st18 _ ?_
    refine oI X18 hx hby d4_98 rfl rfl ?_
    refine st22 _ ?_
    refine oA X22 hx hby d4_100 rfl rfl rfl ?_
    refine st25 _ ?_
    refine oA X25 hx hby d4_104 rfl rfl rfl ?_
    refine st27 _ ?_
    refine oA X27 hx hby d4_108 rfl rfl rfl ?_
    refine st29 _ ?_
    refine oI X29 hx hby d4_112 rfl rfl ?_
    refine oD X29 hx hZ e29 r30 i32 y33 (by exact hb hby d4_113) rfl rfl ?_
    refine st37 _ ?_
    refine oA X37 hx hby d4_115 rfl rfl rfl ?_
    refine XS.dup X37.here hx rfl (hb hby d4_116) rfl rfl ?_
    refine st40 _ ?_
    refine oK X40 hx hby d4_120 rfl ?_
    refine XS.iadd X40.here hx rfl (hb hby d4_121) rfl ?_
    show Steps p.tables e below (T40.setTop (mkF m 122 #[rv o0, iv 0, iv t3] [(.int ((0 : Int32) + (1 : Int32))), (.ref o0)])) _
    rw [(by decide : ((0 : Int32) + (1 : Int32)) = (1 : Int32))]
    refine st42 _ ?_
    refine oA X42 hx hby d4_125 rfl rfl rfl ?_
    refine st45 _ ?_
    refine oI X45 hx hby d4_129 rfl rfl ?_
    refine XS.dconst0 X45.here hx rfl (hb hby d4_130) (v := FP.l2d (0 : Int64)) own_dz ?_
    refine st49 _ ?_
    refine oA X49 hx hby d4_132 rfl rfl rfl ?_
    refine st52 _ ?_
    refine oI X52 hx hby d4_136 rfl rfl ?_
    refine oK X52 hx hby d4_137 rfl ?_
    refine st56 _ ?_
    refine XS.iinc X56.here hx rfl (hb hby d4_139) rfl (l' := #[rv o0, iv ((0 : Int32) + (1 : Int32)), iv t3]) rfl ?_
    show Steps p.tables e below (T56.setTop (mkF m 142 #[rv o0, iv 1, iv t3] [])) _
    refine XS.goto X56.here hx rfl (pc0 := 142) (pc' := 75) rfl (hb hby d4_142) (by decide) (by decide) ?_
    refine oI X56 hx hby d4_75 rfl rfl ?_
    refine oA X56 hx hby d4_76 rfl rfl rfl ?_
    refine st59 _ ?_
    refine XS.icmpYes X59.here hx rfl (pc0 := 80) (pc' := 145) rfl (hb hby d4_80) rfl (by decide) (by decide) (by decide) ?_
    refine oA X59 hx hby d4_145 rfl rfl rfl ?_
    refine oK X59 hx hby d4_146 rfl ?_
    refine st61 _ ?_
    refine oA X61 hx hby d4_150 rfl rfl rfl ?_
    refine XS.dup X61.here hx rfl (hb hby d4_151) rfl rfl ?_
    refine st64 _ ?_
    refine oK X64 hx hby d4_155 rfl ?_
    refine XS.iadd X64.here hx rfl (hb hby d4_156) rfl ?_
    show Steps p.tables e below (T64.setTop (mkF m 157 #[rv o0, iv 1, iv t3] [(.int ((0 : Int32) + (1 : Int32))), (.ref o0)])) _
    rw [(by decide : ((0 : Int32) + (1 : Int32)) = (1 : Int32))]
    refine st66 _ ?_
    refine oA X66 hx hby d4_160 rfl rfl rfl ?_
    refine st69 _ ?_
    refine oA X69 hx hby d4_164 rfl rfl rfl ?_
    refine st70 _ ?_
    refine oA X70 hx hby d4_168 rfl rfl rfl ?_
    refine st72 _ ?_
    refine st76 _ ?_
    exact X76.returnOut hx Bd.returns (hb hby d4_173) hr
  · show Q4_6 Z t0 t1 t2 t3 t4 t5 t6 t7 t8 t9 t10 t11 t12 t13 t14 t15 t16 t17 t18 t19 o0 o1 o2 o3 o4 o5 o6 j0 j1 j2 j3 j4 j5 h0 n0 _ T76.heap _
    rw [e76]
    exact ⟨rfl, N76, KK76, F78, F79, F80, F81, F82, F83, F84, F85, F86, F87, F88, F89, F90, F91, F92, F93, F94, F95, F77⟩
theorem sg_18 {p : Program} {l : Launch} {e : Env} {s : State} {m : MethodId} {args : Array Value} {below : List Frame} {meth : Method} {c : Code} {T0 : State} {locs : List Loc} {Z : State} {a0 : Array Value} {h0 : Heap} {n0 cn sn : Nat} (hw : HW a0 Z) (t0 t1 t2 t3 t4 : Int32) (t5 t6 t7 : Int64) (t8 t9 t10 t11 t12 t13 t14 t15 : Int32) (t16 t17 t18 : Int64) (t19 t20 t21 t22 t23 t24 t25 t26 t27 t28 : Int32) (o0 o1 o2 o3 o4 o5 o6 : Addr) (j0 j1 j2 j3 j4 j5 : ClassId)
    (X0 : Stand p l e room_1 s m args below meth c T0 locs cn sn) (hcn : cn ≤ room_1.cells) (hsn : sn ≤ room_1.slots) (hx : p.tables.exec = Jvm.exec) (hZ : Z.Warmed39 s.vm) (hby : c.code = code) (hml : c.maxLocals = 14) (hown : s.vm.findClass kL = some m.cls) (e0 : T0.heap = h0) (N0 : Fr n0 locs) (OO : Old Z n0 h0) (f0 : fB2 Z h0 o0 (.ref o1)) (f1 : AZ3 Z h0 o1 j0 t1 t2 t3) (f2 : fB1 Z h0 o0 (.ref o2)) (f3 : AD3 Z h0 o2 j1 t5 t6 t7) (d0 : own_in3 t0) (d1 : B53 (own_pk t0 t5 t6 t7)) (d2 : B53 (t8.toInt64)) (u0 : n0 ≤ o2) (f4 : Exa Z h0 o0 kB) (v0 : o0 ≠ o2) (v1 : o1 ≠ o2) (d3 : own_in3 t4) (d4 : B53 (own_pk t4 (t5 + (own_pt t0 0 (t8.toInt64))) (t6 + (own_pt t0 1 (t8.toInt64))) (t7 + (own_pt t0 2 (t8.toInt64))))) (d5 : B53 (t9.toInt64)) (f5 : fB8 Z h0 o0 (.int 0)) (f6 : fB7 Z h0 o0 (.int 1)) (f7 : fB5 Z h0 o0 (.ref o3)) (f8 : AI3 Z h0 o3 j2 t10 t11 t12) (f9 : fB3 Z h0 o0 (.ref o4)) (f10 : AI3 Z h0 o4 j3 t13 t14 t15) (f11 : fB9 Z h0 o0 (.int 0)) (f12 : fB6 Z h0 o0 (.ref o5)) (f13 : AD3 Z h0 o5 j4 t16 t17 t18) (f14 : fB4 Z h0 o0 (.ref o6)) (f15 : AI4 Z h0 o6 j5 t19 t20 t21 t22) (f16 : Exa Z h0 o3 "[I") (f17 : Exa Z h0 o5 "[D") (f18 : fB0 Z h0 o0 (.int t23)) (v2 : o3 ≠ o2) (v3 : o4 ≠ o2) (u1 : n0 ≤ o4) (v4 : o0 ≠ o4) (v5 : o3 ≠ o4) (u2 : n0 ≤ o3) (v6 : o0 ≠ o3) (d6 : own_in3 t13) (v7 : o5 ≠ o2) (v8 : o5 ≠ o4) (v9 : o5 ≠ o3) (u3 : n0 ≤ o5) (v10 : o0 ≠ o5) (u4 : n0 ≤ o0) (v11 : o1 ≠ o4) (v12 : o1 ≠ o3) (v13 : o1 ≠ o5) (v14 : o1 ≠ o0) (u5 : n0 ≤ o1) (v15 : o6 ≠ o2) (v16 : o6 ≠ o4) (v17 : o6 ≠ o3) (v18 : o6 ≠ o5) (v19 : o6 ≠ o0) (v20 : o6 ≠ o1) (u6 : n0 ≤ o6) (hq0 : ¬ ((own_pi t0 t1 t2 t3) = (0 : Int32))) (hq1 : ¬ ((own_pi t4 t1 t2 t3) = (0 : Int32))) :
    ∃ (T' : State) (h' : Heap) (lc : List Loc), Stand p l e room_1 s m args below meth c T' lc cn sn ∧ T'.heap = h' ∧ Fr n0 lc ∧ Keep h0 h' [o2, o6, o1, o0, o5, o3, o4] ∧ AD3 Z h' o2 j1 (own_up t13 0 (0 : Int64) ((t5 + (own_pt t0 0 (t8.toInt64))) + (own_pt t4 0 (t9.toInt64)))) (own_up t13 1 (0 : Int64) ((t6 + (own_pt t0 1 (t8.toInt64))) + (own_pt t4 1 (t9.toInt64)))) (own_up t13 2 (0 : Int64) ((t7 + (own_pt t0 2 (t8.toInt64))) + (own_pt t4 2 (t9.toInt64)))) ∧ AI4 Z h' o6 j5 t19 1 t21 t22 ∧ AZ3 Z h' o1 j0 (own_ui t13 0 0 t1) (own_ui t13 1 0 t2) (own_ui t13 2 0 t3) ∧ fB2 Z h' o0 (.ref o1) ∧ fB1 Z h' o0 (.ref o2) ∧ Exa Z h' o0 kB ∧ fB8 Z h' o0 (.int 1) ∧ fB7 Z h' o0 (.int 0) ∧ fB5 Z h' o0 (.ref o3) ∧ fB3 Z h' o0 (.ref o4) ∧ fB9 Z h' o0 (.int 1) ∧ fB6 Z h' o0 (.ref o5) ∧ fB4 Z h' o0 (.ref o6) ∧ fB0 Z h' o0 (.int t23) ∧ AD3 Z h' o5 j4 (own_pk t13 ((t5 + (own_pt t0 0 (t8.toInt64))) + (own_pt t4 0 (t9.toInt64))) ((t6 + (own_pt t0 1 (t8.toInt64))) + (own_pt t4 1 (t9.toInt64))) ((t7 + (own_pt t0 2 (t8.toInt64))) + (own_pt t4 2 (t9.toInt64)))) t17 t18 ∧ Exa Z h' o5 "[D" ∧ AI3 Z h' o3 j2 t13 t11 t12 ∧ Exa Z h' o3 "[I" ∧ AI3 Z h' o4 j3 t13 t14 t15 ∧
      ∀ target, Steps p.tables e below (T'.setTop (mkF m 87 #[iv t24, iv t25, iv t8, iv t9, iv t26, iv t27, iv t0, iv t4, iv t28, rv o0, .unset, .unset, .unset, .unset] [])) target → Steps p.tables e below (T0.setTop (mkF m 64 #[iv t24, iv t25, iv t8, iv t9, iv t26, iv t27, iv t0, iv t4, iv t28, rv o0, .unset, .unset, .unset, .unset] [])) target := by
  obtain ⟨cq1, kq1, q1a, q1b, q1c⟩ := isOf hZ e0 f4
  obtain ⟨_, _, ⟨T1, L1, k1, n1⟩, -, X1, ⟨Lc1, hQ1, l1, y1, z1⟩, st1⟩ := X0.virtualBack hx (y := (⟨kB, "add", "(ID)V"⟩ : MethodName)) (z := (⟨kB, "add", "(ID)V"⟩ : MethodName)) hown (mvT hZ (w_26 hw)) (mvT hZ (w_27 hw)) (notFace_of_selects (args := #[]) (mvT hZ (w_29 hw))) (mvT hZ (w_29 hw)) (mvT hZ (w_28 hw)) (by decide) (backOf (W := 0) (rm3_3 l Z a0 hw [] t0 t1 t2 t3 t5 t6 t7 (t8.toInt64) o0 o1 o2 j0 j1 h0 n0 OO f0 f1 d0 f2 f3 d1 d2 u0 hq0) hZ (w_30 hw) (w_2 hw) (by decide) (by decide)) q1a q1c (g := (mkF m 70 #[iv t24, iv t25, iv t8, iv t9, iv t26, iv t27, iv t0, iv t4, iv t28, rv o0, .unset, .unset, .unset, .unset] [(.double (FP.l2d (t8.toInt64))), (.int t0), (.ref o0)])) rfl (by rw [hml]; rfl) (Steps.refl _) (argsL := [(.int t0), (.double (FP.l2d (t8.toInt64)))]) (rest := []) (lenOf pd_1 rfl) rfl (by show 2 * 0 + _ ≤ _; exact Nat.le_of_eq rfl) (hb hby at_70) (fun _ _ => ⟨rfl, e0, hcn, hsn⟩)
  dsimp only [Pt.U, Pt.locs, Pt.cells, Pt.slots] at X1 l1 y1 z1 st1 hQ1
  subst l1 y1 z1
  obtain ⟨h1, e1⟩ : ∃ z, T1.heap = z := ⟨_, rfl⟩
  rw [e1] at hQ1
  obtain ⟨rfl, N1q, K1, R1_0⟩ := hQ1
  have N1 := Fr.app N0 N1q
  have O1 := Old.keep OO K1 (allS u0 all0)
  have KK1 := Keep.trans (Keep.refl h0 [o2, o6, o1, o0, o5, o3, o4]) K1 (allS (Or.inl (own_m 0 rfl)) all0)
  have F3 := (Fld.keep f0 K1 (ninS v0 nin0))
  have F4 := (Arv.keep f1 K1 (ninS v1 nin0))
  have F5 := (Fld.keep f2 K1 (ninS v0 nin0))
  have F6 := (Exa.keep f4 K1)
  obtain ⟨cq2, kq2, q2a, q2b, q2c⟩ := isOf hZ e1 F6
  obtain ⟨_, _, ⟨T2, L2, k2, n2⟩, -, X2, ⟨Lc2, hQ2, l2, y2, z2⟩, st2⟩ := X1.virtualBack hx (y := (⟨kB, "add", "(ID)V"⟩ : MethodName)) (z := (⟨kB, "add", "(ID)V"⟩ : MethodName)) hown (mvT hZ (w_26 hw)) (mvT hZ (w_27 hw)) (notFace_of_selects (args := #[]) (mvT hZ (w_29 hw))) (mvT hZ (w_29 hw)) (mvT hZ (w_28 hw)) (by decide) (backOf (W := 0) (rm3_3 l Z a0 hw [] t4 t1 t2 t3 (t5 + (own_pt t0 0 (t8.toInt64))) (t6 + (own_pt t0 1 (t8.toInt64))) (t7 + (own_pt t0 2 (t8.toInt64))) (t9.toInt64) o0 o1 o2 j0 j1 h1 n0 O1 F3 F4 d3 F5 R1_0 d4 d5 u0 hq1) hZ (w_30 hw) (w_2 hw) (by decide) (by decide)) q2a q2c (g := (mkF m 79 #[iv t24, iv t25, iv t8, iv t9, iv t26, iv t27, iv t0, iv t4, iv t28, rv o0, .unset, .unset, .unset, .unset] [(.double (FP.l2d (t9.toInt64))), (.int t4), (.ref o0)])) rfl (by rw [hml]; rfl) (Steps.refl _) (argsL := [(.int t4), (.double (FP.l2d (t9.toInt64)))]) (rest := []) (lenOf pd_1 rfl) rfl (by show 2 * 0 + _ ≤ _; exact Nat.le_of_eq rfl) (hb hby at_79) (fun _ _ => ⟨rfl, e1, hcn, hsn⟩)
  dsimp only [Pt.U, Pt.locs, Pt.cells, Pt.slots] at X2 l2 y2 z2 st2 hQ2
  subst l2 y2 z2
  obtain ⟨h2, e2⟩ : ∃ z, T2.heap = z := ⟨_, rfl⟩
  rw [e2] at hQ2
  obtain ⟨rfl, N2q, K2, R2_0⟩ := hQ2
  have N2 := Fr.app N1 N2q
  have O2 := Old.keep O1 K2 (allS u0 all0)
  have KK2 := Keep.trans KK1 K2 (allS (Or.inl (own_m 0 rfl)) all0)
  have F8 := (Fld.keep (Fld.keep f5 K1 (ninS v0 nin0)) K2 (ninS v0 nin0))
  have F9 := (Fld.keep (Fld.keep f6 K1 (ninS v0 nin0)) K2 (ninS v0 nin0))
  have F10 := (Fld.keep (Fld.keep f7 K1 (ninS v0 nin0)) K2 (ninS v0 nin0))
  have F11 := (Arv.keep (Arv.keep f8 K1 (ninS v2 nin0)) K2 (ninS v2 nin0))
  have F12 := (Fld.keep (Fld.keep f9 K1 (ninS v0 nin0)) K2 (ninS v0 nin0))
  have F13 := (Arv.keep (Arv.keep f10 K1 (ninS v3 nin0)) K2 (ninS v3 nin0))
  have F14 := (Fld.keep (Fld.keep f12 K1 (ninS v0 nin0)) K2 (ninS v0 nin0))
  have F15 := (Fld.keep F5 K2 (ninS v0 nin0))
  have F16 := (Arv.keep (Arv.keep f13 K1 (ninS v7 nin0)) K2 (ninS v7 nin0))
  have F17 := (Exa.keep F6 K2)
  have F18 := (Fld.keep F3 K2 (ninS v0 nin0))
  have F19 := (Arv.keep F4 K2 (ninS v1 nin0))
  have F20 := (Fld.keep (Fld.keep f11 K1 (ninS v0 nin0)) K2 (ninS v0 nin0))
  have F21 := (Fld.keep (Fld.keep f14 K1 (ninS v0 nin0)) K2 (ninS v0 nin0))
  have F22 := (Arv.keep (Arv.keep f15 K1 (ninS v15 nin0)) K2 (ninS v15 nin0))
  have F23 := (Exa.keep (Exa.keep f16 K1) K2)
  have F24 := (Exa.keep (Exa.keep f17 K1) K2)
  have F25 := (Fld.keep (Fld.keep f18 K1 (ninS v0 nin0)) K2 (ninS v0 nin0))
  obtain ⟨cq7, kq7, q7a, q7b, q7c⟩ := isOf hZ e2 F17
  obtain ⟨_, _, ⟨T7, L7, k7, n7⟩, -, X7, ⟨Lc7, hQ7, l7, y7, z7⟩, st7⟩ := X2.virtualBack hx (y := (⟨kB, "endRow", "()V"⟩ : MethodName)) (z := (⟨kB, "endRow", "()V"⟩ : MethodName)) hown (mvT hZ (w_33 hw)) (mvT hZ (w_34 hw)) (notFace_of_selects (args := #[]) (mvT hZ (w_36 hw))) (mvT hZ (w_36 hw)) (mvT hZ (w_35 hw)) (by decide) (backOf (W := 0) (rm4_6 l Z a0 hw [] t10 t11 t12 t13 t14 t15 ((t5 + (own_pt t0 0 (t8.toInt64))) + (own_pt t4 0 (t9.toInt64))) ((t6 + (own_pt t0 1 (t8.toInt64))) + (own_pt t4 1 (t9.toInt64))) ((t7 + (own_pt t0 2 (t8.toInt64))) + (own_pt t4 2 (t9.toInt64))) t16 t17 t18 t1 t2 t3 t19 t20 t21 t22 t23 o0 o3 o4 o5 o2 o1 o6 j2 j3 j1 j4 j0 j5 h2 n0 O2 F8 F9 F10 F11 F12 F13 u1 v4 v5 u2 F14 v6 F15 R2_0 (Ne.symm v3) (Ne.symm v2) d6 F16 v8 v9 u3 v10 F17 u4 (Ne.symm v7) (Ne.symm v0) u0 F18 F19 v11 v12 v13 v14 v1 u5 F20 F21 F22 v16 v17 v18 v19 v15 v20 u6 F23 F24 F25) hZ (w_37 hw) (w_2 hw) (by decide) (by decide)) q7a q7c (g := (mkF m 84 #[iv t24, iv t25, iv t8, iv t9, iv t26, iv t27, iv t0, iv t4, iv t28, rv o0, .unset, .unset, .unset, .unset] [(.ref o0)])) rfl (by rw [hml]; rfl) (Steps.refl _) (argsL := []) (rest := []) (lenOf pd_6 rfl) rfl (by show 2 * 0 + _ ≤ _; exact Nat.le_of_eq rfl) (hb hby at_84) (fun _ _ => ⟨rfl, e2, hcn, hsn⟩)
  dsimp only [Pt.U, Pt.locs, Pt.cells, Pt.slots] at X7 l7 y7 z7 st7 hQ7
  subst l7 y7 z7
  obtain ⟨h7, e7⟩ : ∃ z, T7.heap = z := ⟨_, rfl⟩
  rw [e7] at hQ7
  obtain ⟨rfl, N7q, K7, R7_0, R7_1, R7_2, R7_3, R7_4, R7_5, R7_6, R7_7, R7_8, R7_9, R7_10, R7_11, R7_12, R7_13, R7_14, R7_15, R7_16, R7_17, R7_18⟩ := hQ7
  have N7 := Fr.app N2 N7q
  have O7 := Old.keep O2 K7 (allS u1 (allS u2 (allS u3 (allS u4 (allS u0 (allS u5 (allS u6 all0)))))))
  have KK7 := Keep.trans KK2 K7 (allS (Or.inl (own_m 6 rfl)) (allS (Or.inl (own_m 5 rfl)) (allS (Or.inl (own_m 4 rfl)) (allS (Or.inl (own_m 3 rfl)) (allS (Or.inl (own_m 0 rfl)) (allS (Or.inl (own_m 2 rfl)) (allS (Or.inl (own_m 1 rfl)) all0)))))))
  refine ⟨T7, h7, _, X7, e7, N7, KK7, R7_16, R7_18, R7_17, R7_12, R7_10, R7_11, R7_5, R7_6, R7_7, R7_8, R7_13, R7_9, R7_14, R7_15, R7_3, R7_4, R7_1, R7_2, R7_0, fun target kt => ?_⟩
  show Steps p.tables e below (T0.setTop (mkF m 64 #[iv t24, iv t25, iv t8, iv t9, iv t26, iv t27, iv t0, iv t4, iv t28, rv o0, .unset, .unset, .unset, .unset] [])) _
  refine oa X0 hx hby at_64 rfl rfl rfl ?_
  refine oi X0 hx hby at_66 rfl rfl ?_
  refine oI X0 hx hby at_68 rfl rfl ?_
  refine XS.i2dS X0.here hx rfl (hb hby at_69) rfl (v := FP.l2d (t8.toInt64)) (i2d_w t8) ?_
  refine st1.trans ?_
  refine oa X1 hx hby at_73 rfl rfl rfl ?_
  refine oi X1 hx hby at_75 rfl rfl ?_
  refine oI X1 hx hby at_77 rfl rfl ?_
  refine XS.i2dS X1.here hx rfl (hb hby at_78) rfl (v := FP.l2d (t9.toInt64)) (i2d_w t9) ?_
  refine st2.trans ?_
  refine oa X2 hx hby at_82 rfl rfl rfl ?_
  refine st7.trans ?_
  exact kt
def Q12_2 (Z : State) (h0 : Heap) (n0 : Nat) (v : Option Value) (h : Heap) (L : List Loc) : Prop := v = some (.int 2) ∧ Fr n0 L ∧ h = h0
theorem rm12_2 (l : Launch) (Z : State) (a0 : Array Value) (hw : HW a0 Z) (ws : List Jvm.Cond) (h0 : Heap) (n0 : Nat) (OO : Old Z n0 h0) :
    own_MF l Z h0 (⟨"java/lang/Math", "min", "(II)I"⟩ : MethodName) ws jdk_29_method_69_code 2 (some .int) ({ frames := 0, cells := 0, slots := 0, locals := 0 } : Room) #[(.int 3), (.int 2)] (Q12_2 Z h0 n0) := by
  refine MetFree.of_bodySF (Jvm.Free.JP.mathPlain rfl (by decide +kernel)) hisR ?_
  intro p e s m args below meth c s₁ Bd hml0 hP hK
  obtain ⟨rfl, hZ, hh⟩ := hP
  have hx := Bd.exec
  have hby := Bd.bytes
  have hml : c.maxLocals = 2 := hml0
  have hown : s.vm.findClass "java/lang/Math" = some m.cls := findClass_of_methodNamed Bd.named
  have X0 : Stand p l e ({ frames := 0, cells := 0, slots := 0, locals := 0 } : Room) s m #[(.int 3), (.int 2)] below meth c s₁ [] 0 0 := Stand.of_body Bd
  have e0 : s₁.heap = h0 := by rw [← hh, Bd.state]; rfl
  have N0 := Fr.nil n0
  obtain ⟨fs, hr, hrun, hended, hW, hsame⟩ := X0.leave (v := some (.int 2)) (fun h => by rw [Bd.returns] at h; cases h)
  refine ⟨_, _, (castTop (ef_12 m 3 2) ?_), hrun, hended, _, _, rfl, ?_, ⟨_, rfl⟩, hW, hsame.mono (by decide) (by decide)⟩
  · show Steps p.tables e below (s₁.setTop (mkF m 0 #[iv 3, iv 2] [])) _
    refine oI X0 hx hby d12_0 rfl rfl ?_
    refine oI X0 hx hby d12_1 rfl rfl ?_
    refine XS.icmpYes X0.here hx rfl (pc0 := 2) (pc' := 9) rfl (hb hby d12_2) rfl (by decide) (by decide) (by decide) ?_
    refine oI X0 hx hby d12_9 rfl rfl ?_
    exact retI X0 hx Bd.returns (hb hby d12_10) hr
  · show Q12_2 Z h0 n0 _ s₁.heap _
    exact ⟨rfl, N0, e0⟩
def Q11_3 (Z : State) (t0 t1 t2 : Int32) (o0 : Addr) (j0 : ClassId) (h0 : Heap) (n0 : Nat) (v : Option Value) (h : Heap) (L : List Loc) : Prop := ∃ (o1 : Addr) (j1 : ClassId), v = some (.ref o1) ∧ Fr n0 L ∧ Keep h0 h [] ∧ h0.size ≤ o1 ∧ AI2 Z h o1 j1 t0 t1
theorem rm11_3 (l : Launch) (Z : State) (a0 : Array Value) (hw : HW a0 Z) (ws : List Jvm.Cond) (t0 t1 t2 : Int32) (o0 : Addr) (j0 : ClassId) (h0 : Heap) (n0 : Nat) (OO : Old Z n0 h0) (f0 : AI3 Z h0 o0 j0 t0 t1 t2) :
    own_MF l Z h0 (⟨"java/util/Arrays", "copyOf", "([II)[I"⟩ : MethodName) ws jdk_65_method_123_code 3 (some (.array .int)) ({ frames := 1, cells := 1, slots := 2, locals := 18 } : Room) #[(.ref o0), (.int 2)] (Q11_3 Z t0 t1 t2 o0 j0 h0 n0) := by
  refine MetFree.of_bodySF (plainFor_of_name pn_11) hisR ?_
  intro p e s m args below meth c s₁ Bd hml0 hP hK
  obtain ⟨rfl, hZ, hh⟩ := hP
  have hx := Bd.exec
  have hby := Bd.bytes
  have hml : c.maxLocals = 3 := hml0
  have hown : s.vm.findClass "java/util/Arrays" = some m.cls := findClass_of_methodNamed Bd.named
  have X0 : Stand p l e ({ frames := 1, cells := 1, slots := 2, locals := 18 } : Room) s m #[(.ref o0), (.int 2)] below meth c s₁ [] 0 0 := Stand.of_body Bd
  have e0 : s₁.heap = h0 := by rw [← hh, Bd.state]; rfl
  have N0 := Fr.nil n0
  obtain ⟨c1, r1, q1, S1, M1, H1, G1⟩ := id f0
  obtain ⟨T2, h2, j1, X2, e2, E2, A2, B2, st2⟩ := newPE (aty := .int) X0 hx hZ (w_17 hw) e0 (g := (mkF m 15 #[rv o0, iv 2, .unset] [(.int 2)])) rfl (hb hby d11_15) rfl (by decide) (cap := 2) (by decide) (by decide) (by decide) (by decide) (ad := "[I") (by decide +kernel)
  obtain ⟨o1, g2⟩ : ∃ z, z = h0.size := ⟨_, rfl⟩
  rw [← g2] at A2 B2 st2
  have g3 : n0 ≤ o1 := Nat.le_trans (own_le OO) (Nat.le_of_eq g2.symm)
  have s4 : h0.size ≤ o1 := Nat.le_trans ((Keep.refl h0 [])).1 (Nat.le_of_eq g2.symm)
  have O2 := Old.ext OO E2
  have KK2 := Keep.ext (Keep.refl h0 []) E2
  have F5 : AI2 Z h2 o1 j1 0 0 := (Arv.new A2 (by decide)).pad (pad_rep [] (.int 0) 2)
  have F7 := (Arv.ext f0 E2)
  obtain ⟨c6, r6, q6, S6, M6, H6, G6⟩ := id F7
  obtain ⟨_, T8, h8, Lc8, X8, e8a, hQ8, st8⟩ := own_cS X2 hx hZ hown (w_70 hw) (w_71 hw) (w_72 hw) (w_73 hw) (by decide) (rm12_2 l Z a0 hw []  h2 n0 O2) e2 (W := 4) (by decide) (by decide) (by decide : 1 + 0 ≤ _) (by decide : 2 + 0 ≤ _) (g := (mkF m 25 #[rv o0, iv 2, rv o1] [(.int 2), (.int 3), (.int 0), (.ref o1), (.int 0), (.ref o0)])) rfl (by rw [hml]; rfl) (argsL := [(.int 3), (.int 2)]) (rest := [(.int 0), (.ref o1), (.int 0), (.ref o0)]) (lenOf pd_7 rfl) rfl rfl rfl (hb hby d11_25) rfl
  obtain ⟨rfl, N8q, z8⟩ := hQ8
  have e8 := e8a.trans z8
  have N8 := Fr.app N0 N8q
  obtain ⟨T9, h9, L9, X9, e9, N9, K9, V9, st9⟩ := cpA X8 hx hZ hown (w_74 hw) (w_77 hw) (w_75 hw) (w_76 hw) e8 F7 F5 (us := [(.int t0), (.int t1)]) (Or.inl ⟨rfl, rfl⟩) (by decide) (by decide) (by decide) (by decide) (by decide) rfl (Nat.le_of_ble_eq_true rfl) N8 g3 (g := (mkF m 28 #[rv o0, iv 2, rv o1] [(.int 2), (.int 0), (.ref o1), (.int 0), (.ref o0)])) rfl (by rw [hml]; rfl) (rest := []) rfl (hb hby d11_28) (by decide) (W := 0) (by show 2 * 0 + _ ≤ _; exact Nat.le_of_eq rfl) (by decide)
  have O9 := Old.keep O2 K9 (allS g3 all0)
  have KK9 := Keep.trans KK2 K9 (allS (Or.inr s4) all0)
  have F10 : AI2 Z h9 o1 j1 t0 t1 := V9
  obtain ⟨fs, hr, hrun, hended, hW, hsame⟩ := X9.leave (v := some (.ref o1)) (fun h => by rw [Bd.returns] at h; cases h)
  refine ⟨_, _, (castTop (ef_11 m o0 2) ?_), hrun, hended, _, _, rfl, ?_, ⟨_, rfl⟩, hW, hsame.mono (by decide) (by decide)⟩
  · show Steps p.tables e below (s₁.setTop (mkF m 0 #[rv o0, iv 2, .unset] [])) _
    refine oI X0 hx hby d11_0 rfl rfl ?_
    refine oA X0 hx hby d11_1 rfl rfl rfl ?_
    refine X0.arraylength hx (by rw [e0]; exact r1.1) (State.isArrayOf_alike hZ.alike r1.2.1) (g := (mkF m 2 #[rv o0, iv 2, .unset] [(.ref o0), (.int 2)])) rfl rfl (hb hby d11_2) _ ?_
    rw [len_of S1 M1]
    refine XS.icmpYes X0.here hx rfl (pc0 := 3) (pc' := 14) rfl (hb hby d11_3) rfl (by decide) (by decide) (by decide) ?_
    refine oI X0 hx hby d11_14 rfl rfl ?_
    refine st2 _ ?_
    refine XS.astoreN X2.here hx rfl (hb hby d11_17) rfl rfl (l' := #[rv o0, iv 2, rv o1]) rfl ?_
    refine oA X2 hx hby d11_18 rfl rfl rfl ?_
    refine oK X2 hx hby d11_19 rfl ?_
    refine oA X2 hx hby d11_20 rfl rfl rfl ?_
    refine oK X2 hx hby d11_21 rfl ?_
    refine oA X2 hx hby d11_22 rfl rfl rfl ?_
    refine X2.arraylength hx (by rw [e2]; exact r6.1) (State.isArrayOf_alike hZ.alike r6.2.1) (g := (mkF m 23 #[rv o0, iv 2, rv o1] [(.ref o0), (.int 0), (.ref o1), (.int 0), (.ref o0)])) rfl rfl (hb hby d11_23) _ ?_
    rw [len_of S6 M6]
    refine oI X2 hx hby d11_24 rfl rfl ?_
    refine st8 _ ?_
    refine st9 _ ?_
    refine oA X9 hx hby d11_31 rfl rfl rfl ?_
    exact retOut X9 hx Bd.returns rfl (Or.inr (Or.inr (Or.inr (Or.inr ⟨rfl, rfl, rfl⟩)))) (hb hby d11_32) hr
  · show Q11_3 Z t0 t1 t2 o0 j0 h0 n0 _ T9.heap _
    rw [e9]
    exact ⟨o1, j1, rfl, N9, KK9, s4, F10⟩
def Q13_3 (Z : State) (t0 t1 t2 : Int64) (o0 : Addr) (j0 : ClassId) (h0 : Heap) (n0 : Nat) (v : Option Value) (h : Heap) (L : List Loc) : Prop := ∃ (o1 : Addr) (j1 : ClassId), v = some (.ref o1) ∧ Fr n0 L ∧ Keep h0 h [] ∧ h0.size ≤ o1 ∧ AD2 Z h o1 j1 t0 t1
theorem rm13_3 (l : Launch) (Z : State) (a0 : Array Value) (hw : HW a0 Z) (ws : List Jvm.Cond) (t0 t1 t2 : Int64) (o0 : Addr) (j0 : ClassId) (h0 : Heap) (n0 : Nat) (OO : Old Z n0 h0) (f0 : AD3 Z h0 o0 j0 t0 t1 t2) :
    own_MF l Z h0 (⟨"java/util/Arrays", "copyOf", "([DI)[D"⟩ : MethodName) ws jdk_65_method_127_code 3 (some (.array .double)) ({ frames := 1, cells := 1, slots := 2, locals := 18 } : Room) #[(.ref o0), (.int 2)] (Q13_3 Z t0 t1 t2 o0 j0 h0 n0) := by
  refine MetFree.of_bodySF (plainFor_of_name pn_13) hisR ?_
  intro p e s m args below meth c s₁ Bd hml0 hP hK
  obtain ⟨rfl, hZ, hh⟩ := hP
  have hx := Bd.exec
  have hby := Bd.bytes
  have hml : c.maxLocals = 3 := hml0
  have hown : s.vm.findClass "java/util/Arrays" = some m.cls := findClass_of_methodNamed Bd.named
  have X0 : Stand p l e ({ frames := 1, cells := 1, slots := 2, locals := 18 } : Room) s m #[(.ref o0), (.int 2)] below meth c s₁ [] 0 0 := Stand.of_body Bd
  have e0 : s₁.heap = h0 := by rw [← hh, Bd.state]; rfl
  have N0 := Fr.nil n0
  obtain ⟨c1, r1, q1, S1, M1, H1, G1⟩ := id f0
  obtain ⟨T2, h2, j1, X2, e2, E2, A2, B2, st2⟩ := newPE (aty := .double) X0 hx hZ (w_11 hw) e0 (g := (mkF m 15 #[rv o0, iv 2, .unset] [(.int 2)])) rfl (hb hby d13_15) rfl (by decide) (cap := 2) (by decide) (by decide) (by decide) (by decide) (ad := "[D") (by decide +kernel)
  obtain ⟨o1, g2⟩ : ∃ z, z = h0.size := ⟨_, rfl⟩
  rw [← g2] at A2 B2 st2
  have g3 : n0 ≤ o1 := Nat.le_trans (own_le OO) (Nat.le_of_eq g2.symm)
  have s4 : h0.size ≤ o1 := Nat.le_trans ((Keep.refl h0 [])).1 (Nat.le_of_eq g2.symm)
  have O2 := Old.ext OO E2
  have KK2 := Keep.ext (Keep.refl h0 []) E2
  have F5 : AD2 Z h2 o1 j1 0 0 := (Arv.newD A2 (by decide)).pad (pad_rep [] (.double (FP.l2d (0 : Int64))) 2)
  have F7 := (Arv.ext f0 E2)
  obtain ⟨c6, r6, q6, S6, M6, H6, G6⟩ := id F7
  obtain ⟨_, T8, h8, Lc8, X8, e8a, hQ8, st8⟩ := own_cS X2 hx hZ hown (w_70 hw) (w_71 hw) (w_72 hw) (w_73 hw) (by decide) (rm12_2 l Z a0 hw []  h2 n0 O2) e2 (W := 4) (by decide) (by decide) (by decide : 1 + 0 ≤ _) (by decide : 2 + 0 ≤ _) (g := (mkF m 25 #[rv o0, iv 2, rv o1] [(.int 2), (.int 3), (.int 0), (.ref o1), (.int 0), (.ref o0)])) rfl (by rw [hml]; rfl) (argsL := [(.int 3), (.int 2)]) (rest := [(.int 0), (.ref o1), (.int 0), (.ref o0)]) (lenOf pd_7 rfl) rfl rfl rfl (hb hby d13_25) rfl
  obtain ⟨rfl, N8q, z8⟩ := hQ8
  have e8 := e8a.trans z8
  have N8 := Fr.app N0 N8q
  obtain ⟨T9, h9, L9, X9, e9, N9, K9, V9, st9⟩ := cpA X8 hx hZ hown (w_74 hw) (w_77 hw) (w_75 hw) (w_76 hw) e8 F7 F5 (us := [(.double (FP.l2d t0)), (.double (FP.l2d t1))]) (Or.inl ⟨rfl, rfl⟩) (by decide) (by decide) (by decide) (by decide) (by decide) rfl (Nat.le_of_ble_eq_true rfl) N8 g3 (g := (mkF m 28 #[rv o0, iv 2, rv o1] [(.int 2), (.int 0), (.ref o1), (.int 0), (.ref o0)])) rfl (by rw [hml]; rfl) (rest := []) rfl (hb hby d13_28) (by decide) (W := 0) (by show 2 * 0 + _ ≤ _; exact Nat.le_of_eq rfl) (by decide)
  have O9 := Old.keep O2 K9 (allS g3 all0)
  have KK9 := Keep.trans KK2 K9 (allS (Or.inr s4) all0)
  have F10 : AD2 Z h9 o1 j1 t0 t1 := V9
  obtain ⟨fs, hr, hrun, hended, hW, hsame⟩ := X9.leave (v := some (.ref o1)) (fun h => by rw [Bd.returns] at h; cases h)
  refine ⟨_, _, (castTop (ef_13 m o0 2) ?_), hrun, hended, _, _, rfl, ?_, ⟨_, rfl⟩, hW, hsame.mono (by decide) (by decide)⟩
  · show Steps p.tables e below (s₁.setTop (mkF m 0 #[rv o0, iv 2, .unset] [])) _
    refine oI X0 hx hby d13_0 rfl rfl ?_
    refine oA X0 hx hby d13_1 rfl rfl rfl ?_
    refine X0.arraylength hx (by rw [e0]; exact r1.1) (State.isArrayOf_alike hZ.alike r1.2.1) (g := (mkF m 2 #[rv o0, iv 2, .unset] [(.ref o0), (.int 2)])) rfl rfl (hb hby d13_2) _ ?_
    rw [len_of S1 M1]
    refine XS.icmpYes X0.here hx rfl (pc0 := 3) (pc' := 14) rfl (hb hby d13_3) rfl (by decide) (by decide) (by decide) ?_
    refine oI X0 hx hby d13_14 rfl rfl ?_
    refine st2 _ ?_
    refine XS.astoreN X2.here hx rfl (hb hby d13_17) rfl rfl (l' := #[rv o0, iv 2, rv o1]) rfl ?_
    refine oA X2 hx hby d13_18 rfl rfl rfl ?_
    refine oK X2 hx hby d13_19 rfl ?_
    refine oA X2 hx hby d13_20 rfl rfl rfl ?_
    refine oK X2 hx hby d13_21 rfl ?_
    refine oA X2 hx hby d13_22 rfl rfl rfl ?_
    refine X2.arraylength hx (by rw [e2]; exact r6.1) (State.isArrayOf_alike hZ.alike r6.2.1) (g := (mkF m 23 #[rv o0, iv 2, rv o1] [(.ref o0), (.int 0), (.ref o1), (.int 0), (.ref o0)])) rfl rfl (hb hby d13_23) _ ?_
    rw [len_of S6 M6]
    refine oI X2 hx hby d13_24 rfl rfl ?_
    refine st8 _ ?_
    refine st9 _ ?_
    refine oA X9 hx hby d13_31 rfl rfl rfl ?_
    exact retOut X9 hx Bd.returns rfl (Or.inr (Or.inr (Or.inr (Or.inr ⟨rfl, rfl, rfl⟩)))) (hb hby d13_32) hr
  · show Q13_3 Z t0 t1 t2 o0 j0 h0 n0 _ T9.heap _
    rw [e9]
    exact ⟨o1, j1, rfl, N9, KK9, s4, F10⟩
def Q10_2 (Z : State) (t0 t1 t2 : Int32) (t3 t4 t5 : Int64) (o0 o1 o2 o3 : Addr) (j0 j1 : ClassId) (h0 : Heap) (n0 : Nat) (v : Option Value) (h : Heap) (L : List Loc) : Prop := ∃ (o4 o5 o6 : Addr) (j2 j3 : ClassId), v = some (.ref o4) ∧ Fr n0 L ∧ Keep h0 h [] ∧ h0.size ≤ o4 ∧ h0.size ≤ o5 ∧ h0.size ≤ o6 ∧ o4 ≠ o5 ∧ o4 ≠ o6 ∧ o5 ≠ o6 ∧ Exa Z h o4 kM ∧ fM10 Z h o4 (.ref o1) ∧ fM11 Z h o4 (.ref o5) ∧ fM12 Z h o4 (.ref o6) ∧ AI2 Z h o5 j2 t0 t1 ∧ AD2 Z h o6 j3 t3 t4
theorem rm10_2 (l : Launch) (Z : State) (a0 : Array Value) (hw : HW a0 Z) (ws : List Jvm.Cond) (t0 t1 t2 : Int32) (t3 t4 t5 : Int64) (o0 o1 o2 o3 : Addr) (j0 j1 : ClassId) (h0 : Heap) (n0 : Nat) (OO : Old Z n0 h0) (f0 : fB9 Z h0 o0 (.int 3)) (f1 : fB0 Z h0 o0 (.int 3)) (f2 : fB4 Z h0 o0 (.ref o1)) (f3 : fB5 Z h0 o0 (.ref o2)) (f4 : fB8 Z h0 o0 (.int 2)) (f5 : AI3 Z h0 o2 j0 t0 t1 t2) (f6 : fB6 Z h0 o0 (.ref o3)) (f7 : AD3 Z h0 o3 j1 t3 t4 t5) :
    own_MF l Z h0 (⟨kB, "build", "()Lcom/example/rekurze/rekurze/numeric/SparseMatrix;"⟩ : MethodName) ws prog_58_method_4_code 1 (some (.object kM)) ({ frames := 2, cells := 3, slots := 7, locals := 36 } : Room) #[(.ref o0)] (Q10_2 Z t0 t1 t2 t3 t4 t5 o0 o1 o2 o3 j0 j1 h0 n0) := by
  refine MetFree.of_bodySF (plainFor_of_name pn_10) hisR ?_
  intro p e s m args below meth c s₁ Bd hml0 hP hK
  obtain ⟨rfl, hZ, hh⟩ := hP
  have hx := Bd.exec
  have hby := Bd.bytes
  have hml : c.maxLocals = 1 := hml0
  have hown : s.vm.findClass kB = some m.cls := findClass_of_methodNamed Bd.named
  have X0 : Stand p l e ({ frames := 2, cells := 3, slots := 7, locals := 36 } : Room) s m #[(.ref o0)] below meth c s₁ [] 0 0 := Stand.of_body Bd
  have e0 : s₁.heap = h0 := by rw [← hh, Bd.state]; rfl
  have N0 := Fr.nil n0
  obtain ⟨T1, X1, e1, st1⟩ := own_gF X0 hx hZ hown (w_57 hw) e0 f0 (g := (mkF m 1 #[rv o0] [(.ref o0)])) rfl rfl (hb hby d10_1)
  obtain ⟨T2, X2, e2, st2⟩ := own_gF X1 hx hZ hown (w_9 hw) e1 f1 (g := (mkF m 5 #[rv o0] [(.ref o0), (.int 3)])) rfl rfl (hb hby d10_5)
  obtain ⟨T3, h3, X3, e3, E3, A3, D3, -, st3⟩ := newO X2 hx hZ hown (w_64 hw) (w_65 hw) (w_66 hw) e2 (g := (mkF m 32 #[rv o0] [])) rfl (hb hby d10_32) (by decide) (by decide)
  obtain ⟨o4, g3⟩ : ∃ z, z = h0.size := ⟨_, rfl⟩
  rw [← g3] at A3 D3 st3
  have g4 : n0 ≤ o4 := Nat.le_trans (own_le OO) (Nat.le_of_eq g3.symm)
  have s5 : h0.size ≤ o4 := Nat.le_trans ((Keep.refl h0 [])).1 (Nat.le_of_eq g3.symm)
  have O3 := Old.ext OO E3
  have KK3 := Keep.ext (Keep.refl h0 []) E3
  have F6 : fM10 Z h3 o4 .null := D3 (Or.inr (w_86 hw)) (ty := (.array .int)) (by decide)
  have F7 : fM11 Z h3 o4 .null := D3 (Or.inr (w_88 hw)) (ty := (.array .int)) (by decide)
  have F8 : fM12 Z h3 o4 .null := D3 (Or.inr (w_90 hw)) (ty := (.array .double)) (by decide)
  have F9 := (Fld.ext E3 f2)
  obtain ⟨T10, X10, e10, st10⟩ := own_gF X3 hx hZ hown (w_20 hw) e3 F9 (g := (mkF m 37 #[rv o0] [(.ref o0), (.ref o4), (.ref o4)])) rfl rfl (hb hby d10_37)
  have F11 := (Fld.ext E3 f3)
  obtain ⟨T12, X12, e12, st12⟩ := own_gF X10 hx hZ hown (w_22 hw) e10 F11 (g := (mkF m 41 #[rv o0] [(.ref o0), (.ref o1), (.ref o4), (.ref o4)])) rfl rfl (hb hby d10_41)
  have F13 := (Fld.ext E3 f4)
  obtain ⟨T14, X14, e14, st14⟩ := own_gF X12 hx hZ hown (w_38 hw) e12 F13 (g := (mkF m 45 #[rv o0] [(.ref o0), (.ref o2), (.ref o1), (.ref o4), (.ref o4)])) rfl rfl (hb hby d10_45)
  have F16 := (Arv.ext f5 E3)
  obtain ⟨_, T15, h15, Lc15, X15, e15, hQ15, st15⟩ := own_cS X14 hx hZ hown (w_67 hw) (w_68 hw) (w_42 hw) (w_69 hw) (by decide) (rm11_3 l Z a0 hw [] t0 t1 t2 o2 j0 h3 n0 O3 F16) e14 (W := 3) (by decide) (by decide) (by decide : 1 + 1 ≤ _) (by decide : 3 + 2 ≤ _) (g := (mkF m 48 #[rv o0] [(.int 2), (.ref o2), (.ref o1), (.ref o4), (.ref o4)])) rfl (by rw [hml]; rfl) (argsL := [(.ref o2), (.int 2)]) (rest := [(.ref o1), (.ref o4), (.ref o4)]) (lenOf pd_8 rfl) rfl rfl rfl (hb hby d10_48) rfl
  obtain ⟨o5, j2, rfl, N15q, K15, sp15_o5, R15_0⟩ := hQ15
  have N15 := Fr.app N0 N15q
  have g17 : n0 ≤ o5 := Nat.le_trans (own_le O3) sp15_o5
  have s18 : h0.size ≤ o5 := Nat.le_trans (KK3).1 sp15_o5
  have O15 := Old.keep O3 K15 all0
  have KK15 := Keep.trans KK3 K15 all0
  have F19 := (Fld.keep (Fld.ext E3 f6) K15 nin0)
  obtain ⟨T20, X20, e20, st20⟩ := own_gF X15 hx hZ hown (w_24 hw) e15 F19 (g := (mkF m 52 #[rv o0] [(.ref o0), (.ref o5), (.ref o1), (.ref o4), (.ref o4)])) rfl rfl (hb hby d10_52)
  have F21 := (Fld.keep F13 K15 nin0)
  obtain ⟨T22, X22, e22, st22⟩ := own_gF X20 hx hZ hown (w_38 hw) e20 F21 (g := (mkF m 56 #[rv o0] [(.ref o0), (.ref o3), (.ref o5), (.ref o1), (.ref o4), (.ref o4)])) rfl rfl (hb hby d10_56)
  have F24 := (Arv.keep (Arv.ext f7 E3) K15 nin0)
  obtain ⟨_, T23, h23, Lc23, X23, e23, hQ23, st23⟩ := own_cS X22 hx hZ hown (w_78 hw) (w_79 hw) (w_42 hw) (w_80 hw) (by decide) (rm13_3 l Z a0 hw [] t3 t4 t5 o3 j1 h15 n0 O15 F24) e22 (W := 4) (by decide) (by decide) (by decide : 2 + 1 ≤ _) (by decide : 5 + 2 ≤ _) (g := (mkF m 59 #[rv o0] [(.int 2), (.ref o3), (.ref o5), (.ref o1), (.ref o4), (.ref o4)])) rfl (by rw [hml]; rfl) (argsL := [(.ref o3), (.int 2)]) (rest := [(.ref o5), (.ref o1), (.ref o4), (.ref o4)]) (lenOf pd_9 rfl) rfl rfl rfl (hb hby d10_59) rfl
  obtain ⟨o6, j3, rfl, N23q, K23, sp23_o6, R23_0⟩ := hQ23
  have N23 := Fr.app N15 N23q
  have g25 : n0 ≤ o6 := Nat.le_trans (own_le O15) sp23_o6
  have s26 : h0.size ≤ o6 := Nat.le_trans (KK15).1 sp23_o6
  have O23 := Old.keep O15 K23 all0
  have KK23 := Keep.trans KK15 K23 all0
  have F28 := (Fld.keep (Fld.keep F6 K15 nin0) K23 nin0)
  have F29 := (Exa.keep (Exa.keep A3 K15) K23)
  have F30 := (Fld.keep (Fld.keep F7 K15 nin0) K23 nin0)
  have F31 := (Fld.keep (Fld.keep F8 K15 nin0) K23 nin0)
  obtain ⟨_, _, ⟨T27, L27, k27, n27⟩, -, X27, ⟨Lc27, hQ27, l27, y27, z27⟩, st27⟩ := specialBackNest X23 hx (y := (⟨kM, "<init>", "([I[I[D)V"⟩ : MethodName)) rfl hown (own_mvMN hZ (w_81 hw)) (mvT hZ (w_82 hw)) (mvT hZ (w_83 hw)) (by decide) (backOf (W := 1) (rm14_0 l Z a0 hw [] o4 o1 o5 o6 h23 n0 O23 F28 F29 g4 F30 F31) hZ (w_83 hw) (w_66 hw) (by decide) (by decide)) (g := (mkF m 62 #[rv o0] [(.ref o6), (.ref o5), (.ref o1), (.ref o4), (.ref o4)])) rfl (by rw [hml]; rfl) (Steps.refl _) (a := o4) (argsL := [(.ref o1), (.ref o5), (.ref o6)]) (rest := [(.ref o4)]) (lenOf pd_10 rfl) rfl (by show 2 * 0 + _ ≤ _; exact Nat.le_of_eq rfl) (hb hby d10_62) (fun _ _ => ⟨rfl, e23, (by decide : 3 + 0 ≤ _), (by decide : 7 + 0 ≤ _)⟩)
  dsimp only [Pt.U, Pt.locs, Pt.cells, Pt.slots] at X27 l27 y27 z27 st27 hQ27
  subst l27 y27 z27
  obtain ⟨h27, e27⟩ : ∃ z, T27.heap = z := ⟨_, rfl⟩
  rw [e27] at hQ27
  obtain ⟨rfl, N27q, K27, R27_0, R27_1, R27_2, R27_3⟩ := hQ27
  have N27 := Fr.app N23 N27q
  have O27 := Old.keep O23 K27 (allS g4 all0)
  have KK27 := Keep.trans KK23 K27 (allS (Or.inr s5) all0)
  have ne33 : o4 ≠ o5 := Nat.ne_of_lt (Nat.lt_of_lt_of_le (A3).lt sp15_o5)
  have F32 := (Arv.keep (Arv.keep R15_0 K23 nin0) K27 (ninS (Ne.symm ne33) nin0))
  have ne35 : o4 ≠ o6 := Nat.ne_of_lt (Nat.lt_of_lt_of_le ((Exa.keep A3 K15)).lt sp23_o6)
  have F34 := (Arv.keep R23_0 K27 (ninS (Ne.symm ne35) nin0))
  have ne36 : o5 ≠ o6 := Nat.ne_of_lt (Nat.lt_of_lt_of_le (R15_0).lt sp23_o6)
  obtain ⟨fs, hr, hrun, hended, hW, hsame⟩ := X27.leave (v := some (.ref o4)) (fun h => by rw [Bd.returns] at h; cases h)
  refine ⟨_, _, (castTop (ef_10 m o0) ?_), hrun, hended, _, _, rfl, ?_, ⟨_, rfl⟩, hW, hsame.mono (by decide) (by decide)⟩
  · show Steps p.tables e below (s₁.setTop (mkF m 0 #[rv o0] [])) _
    refine oA X0 hx hby d10_0 rfl rfl rfl ?_
    refine st1 _ ?_
    refine oA X1 hx hby d10_4 rfl rfl rfl ?_
    refine st2 _ ?_
    refine XS.icmpYes X2.here hx rfl (pc0 := 8) (pc' := 32) rfl (hb hby d10_8) rfl (by decide) (by decide) (by decide) ?_
    refine st3 _ ?_
    refine XS.dup X3.here hx rfl (hb hby d10_35) rfl rfl ?_
    refine oA X3 hx hby d10_36 rfl rfl rfl ?_
    refine st10 _ ?_
    refine oA X10 hx hby d10_40 rfl rfl rfl ?_
    refine st12 _ ?_
    refine oA X12 hx hby d10_44 rfl rfl rfl ?_
    refine st14 _ ?_
    refine st15 _ ?_
    refine oA X15 hx hby d10_51 rfl rfl rfl ?_
    refine st20 _ ?_
    refine oA X20 hx hby d10_55 rfl rfl rfl ?_
    refine st22 _ ?_
    refine st23 _ ?_
    refine st27.trans ?_
    exact retOut X27 hx Bd.returns rfl (Or.inr (Or.inr (Or.inr (Or.inr ⟨rfl, rfl, rfl⟩)))) (hb hby d10_65) hr
  · show Q10_2 Z t0 t1 t2 t3 t4 t5 o0 o1 o2 o3 j0 j1 h0 n0 _ T27.heap _
    rw [e27]
    exact ⟨o4, o5, o6, j2, j3, rfl, N27, KK27, s5, s18, s26, ne33, ne35, ne36, R27_1, R27_0, R27_2, R27_3, F32, F34⟩
def Q15_2 (Z : State) (t0 t1 : Int32) (t2 t3 : Int64) (o0 o1 o2 o3 : Addr) (j0 j1 j2 : ClassId) (h0 : Heap) (n0 : Nat) (v : Option Value) (h : Heap) (L : List Loc) : Prop := ∃ (o4 o5 o6 o7 : Addr) (j3 j4 : ClassId), v = some (.ref o4) ∧ Fr n0 L ∧ Keep h0 h [] ∧ h0.size ≤ o4 ∧ h0.size ≤ o5 ∧ h0.size ≤ o6 ∧ h0.size ≤ o7 ∧ o4 ≠ o5 ∧ o4 ≠ o6 ∧ o4 ≠ o7 ∧ o5 ≠ o6 ∧ o5 ≠ o7 ∧ o6 ≠ o7 ∧ Arv Z h o4 j3 (.array .double) (3 : Int32) [(.ref o5), (.ref o6), (.ref o7)] .null ∧ AD3 Z h o5 j4 (own_up t0 0 t2 (0 : Int64)) (own_up t0 1 t2 (0 : Int64)) (own_up t0 2 t2 (0 : Int64)) ∧ AD3 Z h o6 j4 (own_up t1 0 t3 (0 : Int64)) (own_up t1 1 t3 (0 : Int64)) (own_up t1 2 t3 (0 : Int64)) ∧ AD3 Z h o7 j4 0 0 0
theorem rm15_2 (l : Launch) (Z : State) (a0 : Array Value) (hw : HW a0 Z) (ws : List Jvm.Cond) (t0 t1 : Int32) (t2 t3 : Int64) (o0 o1 o2 o3 : Addr) (j0 j1 j2 : ClassId) (h0 : Heap) (n0 : Nat) (OO : Old Z n0 h0) (f0 : fM10 Z h0 o0 (.ref o1)) (f1 : AI4 Z h0 o1 j0 0 1 2 2) (f2 : Exa Z h0 o0 kM) (f3 : fM11 Z h0 o0 (.ref o2)) (f4 : AI2 Z h0 o2 j1 t0 t1) (f5 : fM12 Z h0 o0 (.ref o3)) (f6 : AD2 Z h0 o3 j2 t2 t3) (d0 : own_in3 t0) (d1 : own_in3 t1) :
    own_MF l Z h0 (⟨kM, "dense", "()[[D"⟩ : MethodName) ws prog_57_method_6_code 5 (some (.array (.array .double))) ({ frames := 1, cells := 4, slots := 12, locals := 12 } : Room) #[(.ref o0)] (Q15_2 Z t0 t1 t2 t3 o0 o1 o2 o3 j0 j1 j2 h0 n0) := by
  refine MetFree.of_bodySF (plainFor_of_name pn_15) hisR ?_
  intro p e s m args below meth c s₁ Bd hml0 hP hK
  obtain ⟨rfl, hZ, hh⟩ := hP
  have hx := Bd.exec
  have hby := Bd.bytes
  have hml : c.maxLocals = 5 := hml0
  have hown : s.vm.findClass kM = some m.cls := findClass_of_methodNamed Bd.named
  have X0 : Stand p l e ({ frames := 1, cells := 4, slots := 12, locals := 12 } : Room) s m #[(.ref o0)] below meth c s₁ [] 0 0 := Stand.of_body Bd
  have e0 : s₁.heap = h0 := by rw [← hh, Bd.state]; rfl
  have N0 := Fr.nil n0
  obtain ⟨cq1, kq1, q1a, q1b, q1c⟩ := isOf hZ e0 f2
  obtain ⟨_, _, ⟨T1, L1, k1, n1⟩, -, X1, ⟨Lc1, hQ1, l1, y1, z1⟩, st1⟩ := X0.virtualBack hx (y := (⟨kM, "size", "()I"⟩ : MethodName)) (z := (⟨kM, "size", "()I"⟩ : MethodName)) hown (mvT hZ (w_96 hw)) (mvT hZ (w_97 hw)) (notFace_of_selects (args := #[]) (mvT hZ (w_99 hw))) (mvT hZ (w_99 hw)) (mvT hZ (w_98 hw)) (by decide) (backOf (W := 0) (rm16_0 l Z a0 hw [] (0 : Int32) (1 : Int32) (2 : Int32) (2 : Int32) o0 o1 j0 h0 n0 OO f0 f1) hZ (w_100 hw) (w_66 hw) (by decide) (by decide)) q1a q1c (g := (mkF m 1 #[rv o0, .unset, .unset, .unset, .unset] [(.ref o0)])) rfl (by rw [hml]; rfl) (Steps.refl _) (argsL := []) (rest := []) (lenOf pd_12 rfl) rfl (by show 2 * 0 + _ ≤ _; exact Nat.le_of_eq rfl) (hb hby d15_1) (fun _ _ => ⟨rfl, e0, (by decide : 0 + 0 ≤ _), (by decide : 0 + 0 ≤ _)⟩)
  dsimp only [Pt.U, Pt.locs, Pt.cells, Pt.slots] at X1 l1 y1 z1 st1 hQ1
  subst l1 y1 z1
  obtain ⟨rfl, N1q, e1⟩ := hQ1
  have N1 := Fr.app N0 N1q
  obtain ⟨T2, h2, j3, j4, X2, e2, E2, A2, O2v, B2, I2, st2⟩ := gridM X1 hx hZ hown (C := "[D") (ad := "[[D") (ty := .double) rfl rfl (w_101 hw) (w_102 hw) (w_11 hw) e1 (g := (mkF m 7 #[rv o0, iv 3, .unset, .unset, .unset] [(.int 3), (.int 3)])) rfl (hb hby d15_7) rfl (by decide) (by decide) (N := 3) rfl (xs := [h0.size + 1 + 0, h0.size + 1 + 1, h0.size + 1 + 2]) (by rfl) (cap := 3) (by decide) (by decide) (by decide) rfl rfl (by decide) (by decide)
  obtain ⟨o4, g2⟩ : ∃ z, z = h0.size := ⟨_, rfl⟩
  obtain ⟨o5, g2_0⟩ : ∃ z, z = h0.size + 1 + 0 := ⟨_, rfl⟩
  obtain ⟨o6, g2_1⟩ : ∃ z, z = h0.size + 1 + 1 := ⟨_, rfl⟩
  obtain ⟨o7, g2_2⟩ : ∃ z, z = h0.size + 1 + 2 := ⟨_, rfl⟩
  rw [← g2_2, ← g2_1, ← g2_0] at A2 I2
  rw [← g2] at A2 B2 st2
  have g3 : n0 ≤ o4 := Nat.le_trans (own_le OO) (Nat.le_of_eq g2.symm)
  have s4 : h0.size ≤ o4 := Nat.le_trans ((Keep.refl h0 [])).1 (Nat.le_of_eq g2.symm)
  have g5 : n0 ≤ o5 := Nat.le_trans (own_le OO) (Nat.le_trans (Nat.le_add_right _ _) (Nat.le_of_eq ((Nat.add_assoc _ _ _).symm.trans g2_0.symm)))
  have s6 : h0.size ≤ o5 := Nat.le_trans ((Keep.refl h0 [])).1 (Nat.le_trans (Nat.le_add_right _ _) (Nat.le_of_eq ((Nat.add_assoc _ _ _).symm.trans g2_0.symm)))
  have g7 : n0 ≤ o6 := Nat.le_trans (own_le OO) (Nat.le_trans (Nat.le_add_right _ _) (Nat.le_of_eq ((Nat.add_assoc _ _ _).symm.trans g2_1.symm)))
  have s8 : h0.size ≤ o6 := Nat.le_trans ((Keep.refl h0 [])).1 (Nat.le_trans (Nat.le_add_right _ _) (Nat.le_of_eq ((Nat.add_assoc _ _ _).symm.trans g2_1.symm)))
  have g9 : n0 ≤ o7 := Nat.le_trans (own_le OO) (Nat.le_trans (Nat.le_add_right _ _) (Nat.le_of_eq ((Nat.add_assoc _ _ _).symm.trans g2_2.symm)))
  have s10 : h0.size ≤ o7 := Nat.le_trans ((Keep.refl h0 [])).1 (Nat.le_trans (Nat.le_add_right _ _) (Nat.le_of_eq ((Nat.add_assoc _ _ _).symm.trans g2_2.symm)))
  have ne11 : o4 ≠ o5 := by rw [g2, g2_0]; omega
  have ne12 : o4 ≠ o6 := by rw [g2, g2_1]; omega
  have ne13 : o4 ≠ o7 := by rw [g2, g2_2]; omega
  have ne14 : o5 ≠ o6 := by rw [g2_0, g2_1]; omega
  have ne15 : o5 ≠ o7 := by rw [g2_0, g2_2]; omega
  have ne16 : o6 ≠ o7 := by rw [g2_1, g2_2]; omega
  have O2 := Old.ext OO E2
  have KK2 := Keep.ext (Keep.refl h0 []) E2
  have F17 : Arv Z h2 o4 j3 (.array .double) (3 : Int32) [(.ref o5), (.ref o6), (.ref o7)] .null := A2
  have F18 : AD3 Z h2 o5 j4 0 0 0 := (Arv.newD (I2 0 o5 rfl).1 (by decide)).pad (pad_rep [] (.double (FP.l2d (0 : Int64))) 3)
  have F19 : AD3 Z h2 o6 j4 0 0 0 := (Arv.newD (I2 1 o6 rfl).1 (by decide)).pad (pad_rep [] (.double (FP.l2d (0 : Int64))) 3)
  have F20 : AD3 Z h2 o7 j4 0 0 0 := (Arv.newD (I2 2 o7 rfl).1 (by decide)).pad (pad_rep [] (.double (FP.l2d (0 : Int64))) 3)
  have F21 := (Fld.ext E2 f0)
  obtain ⟨T22, X22, e22, st22⟩ := own_gF X2 hx hZ hown (w_85 hw) e2 F21 (g := (mkF m 20 #[rv o0, iv 3, rv o4, iv 0, .unset] [(.ref o0)])) rfl rfl (hb hby d15_20)
  have F24 := (Arv.ext f1 E2)
  obtain ⟨c23, r23, q23, S23, M23, H23, G23⟩ := id F24
  have i25 := inb_of (j := 0) S23 (by decide)
  have y26 : c23.slots[((0 : Int32)).toNatClampNeg]? = some (.int 0) := H23 0 (by rw [S23]; decide)
  obtain ⟨T27, X27, e27, st27⟩ := own_gF X22 hx hZ hown (w_85 hw) e22 F21 (g := (mkF m 30 #[rv o0, iv 3, rv o4, iv 0, iv 0] [(.ref o0), (.int 0)])) rfl rfl (hb hby d15_30)
  obtain ⟨c28, r28, q28, S28, M28, H28, G28⟩ := id F24
  have i29 := inb_of (j := 1) S28 (by decide)
  have y30 : c28.slots[((1 : Int32)).toNatClampNeg]? = some (.int 1) := H28 1 (by rw [S28]; decide)
  obtain ⟨c31, r31, q31, S31, M31, H31, G31⟩ := id F17
  have i32 := inb_of (j := 0) S31 (by decide)
  have y33 : c31.slots[((0 : Int32)).toNatClampNeg]? = some (.ref o5) := H31 0 (by rw [S31]; decide)
  have F34 := (Fld.ext E2 f3)
  obtain ⟨T35, X35, e35, st35⟩ := own_gF X27 hx hZ hown (w_87 hw) e27 F34 (g := (mkF m 44 #[rv o0, iv 3, rv o4, iv 0, iv 0] [(.ref o0), (.ref o5)])) rfl rfl (hb hby d15_44)
  have F37 := (Arv.ext f4 E2)
  obtain ⟨c36, r36, q36, S36, M36, H36, G36⟩ := id F37
  have i38 := inb_of (j := 0) S36 (by decide)
  have y39 : c36.slots[((0 : Int32)).toNatClampNeg]? = some (.int t0) := H36 0 (by rw [S36]; decide)
  have F40 := (Fld.ext E2 f5)
  obtain ⟨T41, X41, e41, st41⟩ := own_gF X35 hx hZ hown (w_89 hw) e35 F40 (g := (mkF m 51 #[rv o0, iv 3, rv o4, iv 0, iv 0] [(.ref o0), (.int t0), (.ref o5)])) rfl rfl (hb hby d15_51)
  have F43 := (Arv.ext f6 E2)
  obtain ⟨c42, r42, q42, S42, M42, H42, G42⟩ := id F43
  have i44 := inb_of (j := 0) S42 (by decide)
  have y45 : c42.slots[((0 : Int32)).toNatClampNeg]? = some (.double (FP.l2d t2)) := H42 0 (by rw [S42]; decide)
  obtain ⟨c46, r46, q46, S46, M46, H46, G46⟩ := id F18
  have i47 := own_inb (j := t0) S46 d0
  obtain ⟨T48, h48, X48, e48, W48, st48⟩ := stD X41 hx hZ e41 r46 (j := t0) i47 (g := (mkF m 57 #[rv o0, iv 3, rv o4, iv 0, iv 0] [(.double (FP.l2d t2)), (.int t0), (.ref o5)])) rfl rfl (hb hby d15_57)
  have O48 := Old.wr O2 W48 g5
  have KK48 := Keep.wr KK2 W48 (Or.inr s6)
  have N48 := Fr.snoc X48 N1 g5
  have F49 : AD3 Z h48 o5 j4 (own_up t0 0 t2 (0 : Int64)) (own_up t0 1 t2 (0 : Int64)) (own_up t0 2 t2 (0 : Int64)) := own_setD r46 q46 S46 M46 H46 G46 W48 d0
  have ne51 : o0 ≠ o5 := Nat.ne_of_lt (Nat.lt_of_lt_of_le (f0).lt (Nat.le_trans (Nat.le_add_right _ _) (Nat.le_of_eq ((Nat.add_assoc _ _ _).symm.trans g2_0.symm))))
  have F50 := (Fld.other W48 F21 (Or.inl ne51))
  obtain ⟨T52, X52, e52, st52⟩ := own_gF X48 hx hZ hown (w_85 hw) e48 F50 (g := (mkF m 30 #[rv o0, iv 3, rv o4, iv 0, iv 1] [(.ref o0), (.int 1)])) rfl rfl (hb hby d15_30)
  have ne55 : o1 ≠ o5 := Nat.ne_of_lt (Nat.lt_of_lt_of_le (f1).lt (Nat.le_trans (Nat.le_add_right _ _) (Nat.le_of_eq ((Nat.add_assoc _ _ _).symm.trans g2_0.symm))))
  have F54 := (Arv.other F24 W48 ne55)
  obtain ⟨c53, r53, q53, S53, M53, H53, G53⟩ := id F54
  have i56 := inb_of (j := 1) S53 (by decide)
  have y57 : c53.slots[((1 : Int32)).toNatClampNeg]? = some (.int 1) := H53 1 (by rw [S53]; decide)
  obtain ⟨T58, X58, e58, st58⟩ := own_gF X52 hx hZ hown (w_85 hw) e52 F50 (g := (mkF m 20 #[rv o0, iv 3, rv o4, iv 1, iv 1] [(.ref o0)])) rfl rfl (hb hby d15_20)
  obtain ⟨c59, r59, q59, S59, M59, H59, G59⟩ := id F54
  have i60 := inb_of (j := 1) S59 (by decide)
  have y61 : c59.slots[((1 : Int32)).toNatClampNeg]? = some (.int 1) := H59 1 (by rw [S59]; decide)
  obtain ⟨T62, X62, e62, st62⟩ := own_gF X58 hx hZ hown (w_85 hw) e58 F50 (g := (mkF m 30 #[rv o0, iv 3, rv o4, iv 1, iv 1] [(.ref o0), (.int 1)])) rfl rfl (hb hby d15_30)
  obtain ⟨c63, r63, q63, S63, M63, H63, G63⟩ := id F54
  have i64 := inb_of (j := 2) S63 (by decide)
  have y65 : c63.slots[((2 : Int32)).toNatClampNeg]? = some (.int 2) := H63 2 (by rw [S63]; decide)
  have F67 := (Arv.other F17 W48 ne11)
  obtain ⟨c66, r66, q66, S66, M66, H66, G66⟩ := id F67
  have i68 := inb_of (j := 1) S66 (by decide)
  have y69 : c66.slots[((1 : Int32)).toNatClampNeg]? = some (.ref o6) := H66 1 (by rw [S66]; decide)
  have F70 := (Fld.other W48 F34 (Or.inl ne51))
  obtain ⟨T71, X71, e71, st71⟩ := own_gF X62 hx hZ hown (w_87 hw) e62 F70 (g := (mkF m 44 #[rv o0, iv 3, rv o4, iv 1, iv 1] [(.ref o0), (.ref o6)])) rfl rfl (hb hby d15_44)
  have ne74 : o2 ≠ o5 := Nat.ne_of_lt (Nat.lt_of_lt_of_le (f4).lt (Nat.le_trans (Nat.le_add_right _ _) (Nat.le_of_eq ((Nat.add_assoc _ _ _).symm.trans g2_0.symm))))
  have F73 := (Arv.other F37 W48 ne74)
  obtain ⟨c72, r72, q72, S72, M72, H72, G72⟩ := id F73
  have i75 := inb_of (j := 1) S72 (by decide)
  have y76 : c72.slots[((1 : Int32)).toNatClampNeg]? = some (.int t1) := H72 1 (by rw [S72]; decide)
  have F77 := (Fld.other W48 F40 (Or.inl ne51))
  obtain ⟨T78, X78, e78, st78⟩ := own_gF X71 hx hZ hown (w_89 hw) e71 F77 (g := (mkF m 51 #[rv o0, iv 3, rv o4, iv 1, iv 1] [(.ref o0), (.int t1), (.ref o6)])) rfl rfl (hb hby d15_51)
  have ne81 : o3 ≠ o5 := Nat.ne_of_lt (Nat.lt_of_lt_of_le (f6).lt (Nat.le_trans (Nat.le_add_right _ _) (Nat.le_of_eq ((Nat.add_assoc _ _ _).symm.trans g2_0.symm))))
  have F80 := (Arv.other F43 W48 ne81)
  obtain ⟨c79, r79, q79, S79, M79, H79, G79⟩ := id F80
  have i82 := inb_of (j := 1) S79 (by decide)
  have y83 : c79.slots[((1 : Int32)).toNatClampNeg]? = some (.double (FP.l2d t3)) := H79 1 (by rw [S79]; decide)
  have F85 := (Arv.other F19 W48 (Ne.symm ne14))
  obtain ⟨c84, r84, q84, S84, M84, H84, G84⟩ := id F85
  have i86 := own_inb (j := t1) S84 d1
  obtain ⟨T87, h87, X87, e87, W87, st87⟩ := stD X78 hx hZ e78 r84 (j := t1) i86 (g := (mkF m 57 #[rv o0, iv 3, rv o4, iv 1, iv 1] [(.double (FP.l2d t3)), (.int t1), (.ref o6)])) rfl rfl (hb hby d15_57)
  have O87 := Old.wr O48 W87 g7
  have KK87 := Keep.wr KK48 W87 (Or.inr s8)
  have N87 := Fr.snoc X87 N48 g7
  have F88 : AD3 Z h87 o6 j4 (own_up t1 0 t3 (0 : Int64)) (own_up t1 1 t3 (0 : Int64)) (own_up t1 2 t3 (0 : Int64)) := own_setD r84 q84 S84 M84 H84 G84 W87 d1
  have ne90 : o0 ≠ o6 := Nat.ne_of_lt (Nat.lt_of_lt_of_le (f0).lt (Nat.le_trans (Nat.le_add_right _ _) (Nat.le_of_eq ((Nat.add_assoc _ _ _).symm.trans g2_1.symm))))
  have F89 := (Fld.other W87 F50 (Or.inl ne90))
  obtain ⟨T91, X91, e91, st91⟩ := own_gF X87 hx hZ hown (w_85 hw) e87 F89 (g := (mkF m 30 #[rv o0, iv 3, rv o4, iv 1, iv 2] [(.ref o0), (.int 2)])) rfl rfl (hb hby d15_30)
  have ne94 : o1 ≠ o6 := Nat.ne_of_lt (Nat.lt_of_lt_of_le (f1).lt (Nat.le_trans (Nat.le_add_right _ _) (Nat.le_of_eq ((Nat.add_assoc _ _ _).symm.trans g2_1.symm))))
  have F93 := (Arv.other F54 W87 ne94)
  obtain ⟨c92, r92, q92, S92, M92, H92, G92⟩ := id F93
  have i95 := inb_of (j := 2) S92 (by decide)
  have y96 : c92.slots[((2 : Int32)).toNatClampNeg]? = some (.int 2) := H92 2 (by rw [S92]; decide)
  obtain ⟨T97, X97, e97, st97⟩ := own_gF X91 hx hZ hown (w_85 hw) e91 F89 (g := (mkF m 20 #[rv o0, iv 3, rv o4, iv 2, iv 2] [(.ref o0)])) rfl rfl (hb hby d15_20)
  obtain ⟨c98, r98, q98, S98, M98, H98, G98⟩ := id F93
  have i99 := inb_of (j := 2) S98 (by decide)
  have y100 : c98.slots[((2 : Int32)).toNatClampNeg]? = some (.int 2) := H98 2 (by rw [S98]; decide)
  obtain ⟨T101, X101, e101, st101⟩ := own_gF X97 hx hZ hown (w_85 hw) e97 F89 (g := (mkF m 30 #[rv o0, iv 3, rv o4, iv 2, iv 2] [(.ref o0), (.int 2)])) rfl rfl (hb hby d15_30)
  obtain ⟨c102, r102, q102, S102, M102, H102, G102⟩ := id F93
  have i103 := inb_of (j := 3) S102 (by decide)
  have y104 : c102.slots[((3 : Int32)).toNatClampNeg]? = some (.int 2) := H102 3 (by rw [S102]; decide)
  have F105 := (Arv.other F67 W87 ne12)
  have F106 := (Arv.other F49 W87 ne14)
  have F107 := (Arv.other (Arv.other F20 W48 (Ne.symm ne15)) W87 (Ne.symm ne16))
  obtain ⟨fs, hr, hrun, hended, hW, hsame⟩ := X101.leave (v := some (.ref o4)) (fun h => by rw [Bd.returns] at h; cases h)
  refine ⟨_, _, (castTop (ef_15 m o0) ?_), hrun, hended, _, _, rfl, ?_, ⟨_, rfl⟩, hW, hsame.mono (by decide) (by decide)⟩
  · show Steps p.tables e below (s₁.setTop (mkF m 0 #[rv o0, .unset, .unset, .unset, .unset] [])) _
    refine oA X0 hx hby d15_0 rfl rfl rfl ?_
    refine st1.trans ?_
    refine XS.istoreN X1.here hx rfl (hb hby d15_4) rfl (l' := #[rv o0, iv 3, .unset, .unset, .unset]) rfl ?_
    refine oI X1 hx hby d15_5 rfl rfl ?_
    refine oI X1 hx hby d15_6 rfl rfl ?_
    refine st2 _ ?_
    refine XS.astoreN X2.here hx rfl (hb hby d15_11) rfl rfl (l' := #[rv o0, iv 3, rv o4, .unset, .unset]) rfl ?_
    refine oK X2 hx hby d15_12 rfl ?_
    refine XS.istoreN X2.here hx rfl (hb hby d15_13) rfl (l' := #[rv o0, iv 3, rv o4, iv 0, .unset]) rfl ?_
    refine oI X2 hx hby d15_14 rfl rfl ?_
    refine oI X2 hx hby d15_15 rfl rfl ?_
    refine XS.icmpNo X2.here hx rfl (hb hby d15_16) rfl (by decide) ?_
    refine oA X2 hx hby d15_19 rfl rfl rfl ?_
    refine st22 _ ?_
    refine oI X22 hx hby d15_23 rfl rfl ?_
    refine oL X22 hx hZ e22 r23 i25 y26 (by exact hb hby d15_24) rfl rfl ?_
    refine XS.istore X22.here hx rfl (hb hby d15_25) rfl (l' := #[rv o0, iv 3, rv o4, iv 0, iv 0]) rfl ?_
    refine oi X22 hx hby d15_27 rfl rfl ?_
    refine oA X22 hx hby d15_29 rfl rfl rfl ?_
    refine st27 _ ?_
    refine oI X27 hx hby d15_33 rfl rfl ?_
    refine oK X27 hx hby d15_34 rfl ?_
    refine XS.iadd X27.here hx rfl (hb hby d15_35) rfl ?_
    show Steps p.tables e below (T27.setTop (mkF m 36 #[rv o0, iv 3, rv o4, iv 0, iv 0] [(.int ((0 : Int32) + (1 : Int32))), (.ref o1), (.int 0)])) _
    rw [(by decide : ((0 : Int32) + (1 : Int32)) = (1 : Int32))]
    refine oL X27 hx hZ e27 r28 i29 y30 (by exact hb hby d15_36) rfl rfl ?_
    refine XS.icmpNo X27.here hx rfl (hb hby d15_37) rfl (by decide) ?_
    refine oA X27 hx hby d15_40 rfl rfl rfl ?_
    refine oI X27 hx hby d15_41 rfl rfl ?_
    refine X27.aaload hx (j := (0 : Int32)) (v := (.ref o5)) (by rw [e27]; exact r31.1) (State.isArrayOf_alike hZ.alike r31.2.1) rfl r31.2.2 i32 y33 (g := (mkF m 42 #[rv o0, iv 3, rv o4, iv 0, iv 0] [(.int 0), (.ref o4)])) rfl rfl (hb hby d15_42) _ ?_
    refine oA X27 hx hby d15_43 rfl rfl rfl ?_
    refine st35 _ ?_
    refine oi X35 hx hby d15_47 rfl rfl ?_
    refine oL X35 hx hZ e35 r36 i38 y39 (by exact hb hby d15_49) rfl rfl ?_
    refine oA X35 hx hby d15_50 rfl rfl rfl ?_
    refine st41 _ ?_
    refine oi X41 hx hby d15_54 rfl rfl ?_
    refine oD X41 hx hZ e41 r42 i44 y45 (by exact hb hby d15_56) rfl rfl ?_
    refine st48 _ ?_
    refine XS.iinc X48.here hx rfl (hb hby d15_58) rfl (l' := #[rv o0, iv 3, rv o4, iv 0, iv ((0 : Int32) + (1 : Int32))]) rfl ?_
    show Steps p.tables e below (T48.setTop (mkF m 61 #[rv o0, iv 3, rv o4, iv 0, iv 1] [])) _
    refine XS.goto X48.here hx rfl (pc0 := 61) (pc' := 27) rfl (hb hby d15_61) (by decide) (by decide) ?_
    refine oi X48 hx hby d15_27 rfl rfl ?_
    refine oA X48 hx hby d15_29 rfl rfl rfl ?_
    refine st52 _ ?_
    refine oI X52 hx hby d15_33 rfl rfl ?_
    refine oK X52 hx hby d15_34 rfl ?_
    refine XS.iadd X52.here hx rfl (hb hby d15_35) rfl ?_
    show Steps p.tables e below (T52.setTop (mkF m 36 #[rv o0, iv 3, rv o4, iv 0, iv 1] [(.int ((0 : Int32) + (1 : Int32))), (.ref o1), (.int 1)])) _
    rw [(by decide : ((0 : Int32) + (1 : Int32)) = (1 : Int32))]
    refine oL X52 hx hZ e52 r53 i56 y57 (by exact hb hby d15_36) rfl rfl ?_
    refine XS.icmpYes X52.here hx rfl (pc0 := 37) (pc' := 64) rfl (hb hby d15_37) rfl (by decide) (by decide) (by decide) ?_
    refine XS.iinc X52.here hx rfl (hb hby d15_64) rfl (l' := #[rv o0, iv 3, rv o4, iv ((0 : Int32) + (1 : Int32)), iv 1]) rfl ?_
    show Steps p.tables e below (T52.setTop (mkF m 67 #[rv o0, iv 3, rv o4, iv 1, iv 1] [])) _
    refine XS.goto X52.here hx rfl (pc0 := 67) (pc' := 14) rfl (hb hby d15_67) (by decide) (by decide) ?_
    refine oI X52 hx hby d15_14 rfl rfl ?_
    refine oI X52 hx hby d15_15 rfl rfl ?_
    refine XS.icmpNo X52.here hx rfl (hb hby d15_16) rfl (by decide) ?_
    refine oA X52 hx hby d15_19 rfl rfl rfl ?_
    refine st58 _ ?_
    refine oI X58 hx hby d15_23 rfl rfl ?_
    refine oL X58 hx hZ e58 r59 i60 y61 (by exact hb hby d15_24) rfl rfl ?_
    refine XS.istore X58.here hx rfl (hb hby d15_25) rfl (l' := #[rv o0, iv 3, rv o4, iv 1, iv 1]) rfl ?_
    refine oi X58 hx hby d15_27 rfl rfl ?_
    refine oA X58 hx hby d15_29 rfl rfl rfl ?_
    refine st62 _ ?_
    refine oI X62 hx hby d15_33 rfl rfl ?_
    refine oK X62 hx hby d15_34 rfl ?_
    refine XS.iadd X62.here hx rfl (hb hby d15_35) rfl ?_
    show Steps p.tables e below (T62.setTop (mkF m 36 #[rv o0, iv 3, rv o4, iv 1, iv 1] [(.int ((1 : Int32) + (1 : Int32))), (.ref o1), (.int 1)])) _
    rw [(by decide : ((1 : Int32) + (1 : Int32)) = (2 : Int32))]
    refine oL X62 hx hZ e62 r63 i64 y65 (by exact hb hby d15_36) rfl rfl ?_
    refine XS.icmpNo X62.here hx rfl (hb hby d15_37) rfl (by decide) ?_
    refine oA X62 hx hby d15_40 rfl rfl rfl ?_
    refine oI X62 hx hby d15_41 rfl rfl ?_
    refine X62.aaload hx (j := (1 : Int32)) (v := (.ref o6)) (by rw [e62]; exact r66.1) (State.isArrayOf_alike hZ.alike r66.2.1) rfl r66.2.2 i68 y69 (g := (mkF m 42 #[rv o0, iv 3, rv o4, iv 1, iv 1] [(.int 1), (.ref o4)])) rfl rfl (hb hby d15_42) _ ?_
    refine oA X62 hx hby d15_43 rfl rfl rfl ?_
    refine st71 _ ?_
    refine oi X71 hx hby d15_47 rfl rfl ?_
    refine oL X71 hx hZ e71 r72 i75 y76 (by exact hb hby d15_49) rfl rfl ?_
    refine oA X71 hx hby d15_50 rfl rfl rfl ?_
    refine st78 _ ?_
    refine oi X78 hx hby d15_54 rfl rfl ?_
    refine oD X78 hx hZ e78 r79 i82 y83 (by exact hb hby d15_56) rfl rfl ?_
    refine st87 _ ?_
    refine XS.iinc X87.here hx rfl (hb hby d15_58) rfl (l' := #[rv o0, iv 3, rv o4, iv 1, iv ((1 : Int32) + (1 : Int32))]) rfl ?_
    show Steps p.tables e below (T87.setTop (mkF m 61 #[rv o0, iv 3, rv o4, iv 1, iv 2] [])) _
    refine XS.goto X87.here hx rfl (pc0 := 61) (pc' := 27) rfl (hb hby d15_61) (by decide) (by decide) ?_
    refine oi X87 hx hby d15_27 rfl rfl ?_
    refine oA X87 hx hby d15_29 rfl rfl rfl ?_
    refine st91 _ ?_
    refine oI X91 hx hby d15_33 rfl rfl ?_
    refine oK X91 hx hby d15_34 rfl ?_
    refine XS.iadd X91.here hx rfl (hb hby d15_35) rfl ?_
    show Steps p.tables e below (T91.setTop (mkF m 36 #[rv o0, iv 3, rv o4, iv 1, iv 2] [(.int ((1 : Int32) + (1 : Int32))), (.ref o1), (.int 2)])) _
    rw [(by decide : ((1 : Int32) + (1 : Int32)) = (2 : Int32))]
    refine oL X91 hx hZ e91 r92 i95 y96 (by exact hb hby d15_36) rfl rfl ?_
    refine XS.icmpYes X91.here hx rfl (pc0 := 37) (pc' := 64) rfl (hb hby d15_37) rfl (by decide) (by decide) (by decide) ?_
    refine XS.iinc X91.here hx rfl (hb hby d15_64) rfl (l' := #[rv o0, iv 3, rv o4, iv ((1 : Int32) + (1 : Int32)), iv 2]) rfl ?_
    show Steps p.tables e below (T91.setTop (mkF m 67 #[rv o0, iv 3, rv o4, iv 2, iv 2] [])) _
    refine XS.goto X91.here hx rfl (pc0 := 67) (pc' := 14) rfl (hb hby d15_67) (by decide) (by decide) ?_
    refine oI X91 hx hby d15_14 rfl rfl ?_
    refine oI X91 hx hby d15_15 rfl rfl ?_
    refine XS.icmpNo X91.here hx rfl (hb hby d15_16) rfl (by decide) ?_
    refine oA X91 hx hby d15_19 rfl rfl rfl ?_
    refine st97 _ ?_
    refine oI X97 hx hby d15_23 rfl rfl ?_
    refine oL X97 hx hZ e97 r98 i99 y100 (by exact hb hby d15_24) rfl rfl ?_
    refine XS.istore X97.here hx rfl (hb hby d15_25) rfl (l' := #[rv o0, iv 3, rv o4, iv 2, iv 2]) rfl ?_
    refine oi X97 hx hby d15_27 rfl rfl ?_
    refine oA X97 hx hby d15_29 rfl rfl rfl ?_
    refine st101 _ ?_
    refine oI X101 hx hby d15_33 rfl rfl ?_
    refine oK X101 hx hby d15_34 rfl ?_
    refine XS.iadd X101.here hx rfl (hb hby d15_35) rfl ?_
    show Steps p.tables e below (T101.setTop (mkF m 36 #[rv o0, iv 3, rv o4, iv 2, iv 2] [(.int ((2 : Int32) + (1 : Int32))), (.ref o1), (.int 2)])) _
    rw [(by decide : ((2 : Int32) + (1 : Int32)) = (3 : Int32))]
    refine oL X101 hx hZ e101 r102 i103 y104 (by exact hb hby d15_36) rfl rfl ?_
    refine XS.icmpYes X101.here hx rfl (pc0 := 37) (pc' := 64) rfl (hb hby d15_37) rfl (by decide) (by decide) (by decide) ?_
    refine XS.iinc X101.here hx rfl (hb hby d15_64) rfl (l' := #[rv o0, iv 3, rv o4, iv ((2 : Int32) + (1 : Int32)), iv 2]) rfl ?_
    show Steps p.tables e below (T101.setTop (mkF m 67 #[rv o0, iv 3, rv o4, iv 3, iv 2] [])) _
    refine XS.goto X101.here hx rfl (pc0 := 67) (pc' := 14) rfl (hb hby d15_67) (by decide) (by decide) ?_
    refine oI X101 hx hby d15_14 rfl rfl ?_
    refine oI X101 hx hby d15_15 rfl rfl ?_
    refine XS.icmpYes X101.here hx rfl (pc0 := 16) (pc' := 70) rfl (hb hby d15_16) rfl (by decide) (by decide) (by decide) ?_
    refine oA X101 hx hby d15_70 rfl rfl rfl ?_
    exact retOut X101 hx Bd.returns rfl (Or.inr (Or.inr (Or.inr (Or.inr ⟨rfl, rfl, rfl⟩)))) (hb hby d15_71) hr
  · show Q15_2 Z t0 t1 t2 t3 o0 o1 o2 o3 j0 j1 j2 h0 n0 _ T101.heap _
    rw [e101]
    exact ⟨o4, o5, o6, o7, j3, j4, rfl, N87, KK87, s4, s6, s8, s10, ne11, ne12, ne13, ne14, ne15, ne16, F105, F106, F88, F107⟩
theorem sg_19 {p : Program} {l : Launch} {e : Env} {s : State} {m : MethodId} {args : Array Value} {below : List Frame} {meth : Method} {c : Code} {T0 : State} {locs : List Loc} {Z : State} {a0 : Array Value} {h0 : Heap} {n0 : Nat} (hw : HW a0 Z) (t0 t1 t2 : Int32) (t3 t4 t5 : Int64) (t6 t7 t8 t9 t10 : Int32) (t11 t12 t13 : Int64) (t14 t15 t16 t17 t18 t19 t20 t21 t22 : Int32) (o0 o1 o2 o3 o4 o5 o6 : Addr) (j0 j1 j2 j3 j4 j5 : ClassId)
    (X0 : Stand p l e room_1 s m args below meth c T0 locs 7 29) (hx : p.tables.exec = Jvm.exec) (hZ : Z.Warmed39 s.vm) (hby : c.code = code) (hml : c.maxLocals = 14) (hown : s.vm.findClass kL = some m.cls) (e0 : T0.heap = h0) (N0 : Fr n0 locs) (OO : Old Z n0 h0) (f0 : fB2 Z h0 o0 (.ref o1)) (f1 : AZ3 Z h0 o1 j0 0 0 0) (f2 : fB3 Z h0 o0 (.ref o2)) (f3 : fB7 Z h0 o0 (.int 0)) (f4 : Exa Z h0 o0 kB) (f5 : AI3 Z h0 o2 j1 t0 t1 t2) (f6 : fB1 Z h0 o0 (.ref o3)) (f7 : AD3 Z h0 o3 j2 t3 t4 t5) (f8 : fB0 Z h0 o0 (.int 3)) (f9 : fB4 Z h0 o0 (.ref o4)) (f10 : fB5 Z h0 o0 (.ref o5)) (f11 : fB6 Z h0 o0 (.ref o6)) (f12 : fB8 Z h0 o0 (.int 1)) (f13 : fB9 Z h0 o0 (.int 1)) (d0 : own_in3 t6) (u0 : n0 ≤ o1) (v0 : o0 ≠ o1) (u1 : n0 ≤ o0) (v1 : o2 ≠ o1) (v2 : o2 ≠ o0) (u2 : n0 ≤ o2) (v3 : o3 ≠ o1) (v4 : o3 ≠ o0) (v5 : o3 ≠ o2) (d1 : B53 (own_pk t6 t3 t4 t5)) (d2 : B53 (t7.toInt64)) (u3 : n0 ≤ o3) (f14 : AI3 Z h0 o5 j3 t8 t9 t10) (f15 : AD3 Z h0 o6 j4 t11 t12 t13) (f16 : AI4 Z h0 o4 j5 0 1 t14 t15) (f17 : Exa Z h0 o5 "[I") (f18 : Exa Z h0 o6 "[D") (v6 : o5 ≠ o1) (v7 : o5 ≠ o0) (v8 : o5 ≠ o2) (v9 : o5 ≠ o3) (u4 : n0 ≤ o5) (v10 : o6 ≠ o1) (v11 : o6 ≠ o0) (v12 : o6 ≠ o2) (v13 : o6 ≠ o3) (v14 : o6 ≠ o5) (u5 : n0 ≤ o6) (v15 : o4 ≠ o1) (v16 : o4 ≠ o0) (v17 : o4 ≠ o2) (v18 : o4 ≠ o3) (v19 : o4 ≠ o5) (v20 : o4 ≠ o6) (u6 : n0 ≤ o4) (d3 : own_in3 (own_ui 1 0 t6 t8)) (d4 : own_in3 (own_ui 1 1 t6 t9)) :
    ∃ (T' : State) (h' : Heap) (lc : List Loc) (o7 o8 o9 o10 o11 o12 o13 : Addr) (j6 j7 j8 j9 : ClassId), Stand p l e room_1 s m args below meth c T' lc 14 48 ∧ T'.heap = h' ∧ Fr n0 lc ∧ Keep h0 h' [o3, o2, o0, o1, o4, o6, o5] ∧ h0.size ≤ o7 ∧ h0.size ≤ o8 ∧ h0.size ≤ o9 ∧ h0.size ≤ o10 ∧ h0.size ≤ o11 ∧ h0.size ≤ o12 ∧ h0.size ≤ o13 ∧ o7 ≠ o8 ∧ o7 ≠ o9 ∧ o7 ≠ o10 ∧ o7 ≠ o11 ∧ o7 ≠ o12 ∧ o7 ≠ o13 ∧ o8 ≠ o9 ∧ o8 ≠ o10 ∧ o8 ≠ o11 ∧ o8 ≠ o12 ∧ o8 ≠ o13 ∧ o9 ≠ o10 ∧ o9 ≠ o11 ∧ o9 ≠ o12 ∧ o9 ≠ o13 ∧ o10 ≠ o11 ∧ o10 ≠ o12 ∧ o10 ≠ o13 ∧ o11 ≠ o12 ∧ o11 ≠ o13 ∧ o12 ≠ o13 ∧ Exa Z h' o7 kM ∧ fM10 Z h' o7 (.ref o4) ∧ fM11 Z h' o7 (.ref o8) ∧ fM12 Z h' o7 (.ref o9) ∧ AI2 Z h' o8 j6 (own_ui 1 0 t6 t8) (own_ui 1 1 t6 t9) ∧ AD2 Z h' o9 j7 (own_up 1 0 (own_pk t6 (t3 + (own_pt t6 0 (t7.toInt64))) (t4 + (own_pt t6 1 (t7.toInt64))) (t5 + (own_pt t6 2 (t7.toInt64)))) t11) (own_up 1 1 (own_pk t6 (t3 + (own_pt t6 0 (t7.toInt64))) (t4 + (own_pt t6 1 (t7.toInt64))) (t5 + (own_pt t6 2 (t7.toInt64)))) t12) ∧ Arv Z h' o10 j8 (.array .double) (3 : Int32) [(.ref o11), (.ref o12), (.ref o13)] .null ∧ AD3 Z h' o11 j9 (own_up (own_ui 1 0 t6 t8) 0 (own_up 1 0 (own_pk t6 (t3 + (own_pt t6 0 (t7.toInt64))) (t4 + (own_pt t6 1 (t7.toInt64))) (t5 + (own_pt t6 2 (t7.toInt64)))) t11) (0 : Int64)) (own_up (own_ui 1 0 t6 t8) 1 (own_up 1 0 (own_pk t6 (t3 + (own_pt t6 0 (t7.toInt64))) (t4 + (own_pt t6 1 (t7.toInt64))) (t5 + (own_pt t6 2 (t7.toInt64)))) t11) (0 : Int64)) (own_up (own_ui 1 0 t6 t8) 2 (own_up 1 0 (own_pk t6 (t3 + (own_pt t6 0 (t7.toInt64))) (t4 + (own_pt t6 1 (t7.toInt64))) (t5 + (own_pt t6 2 (t7.toInt64)))) t11) (0 : Int64)) ∧ AD3 Z h' o12 j9 (own_up (own_ui 1 1 t6 t9) 0 (own_up 1 1 (own_pk t6 (t3 + (own_pt t6 0 (t7.toInt64))) (t4 + (own_pt t6 1 (t7.toInt64))) (t5 + (own_pt t6 2 (t7.toInt64)))) t12) (0 : Int64)) (own_up (own_ui 1 1 t6 t9) 1 (own_up 1 1 (own_pk t6 (t3 + (own_pt t6 0 (t7.toInt64))) (t4 + (own_pt t6 1 (t7.toInt64))) (t5 + (own_pt t6 2 (t7.toInt64)))) t12) (0 : Int64)) (own_up (own_ui 1 1 t6 t9) 2 (own_up 1 1 (own_pk t6 (t3 + (own_pt t6 0 (t7.toInt64))) (t4 + (own_pt t6 1 (t7.toInt64))) (t5 + (own_pt t6 2 (t7.toInt64)))) t12) (0 : Int64)) ∧ AD3 Z h' o13 j9 0 0 0 ∧ AD3 Z h' o3 j2 (own_up t6 0 (0 : Int64) (t3 + (own_pt t6 0 (t7.toInt64)))) (own_up t6 1 (0 : Int64) (t4 + (own_pt t6 1 (t7.toInt64)))) (own_up t6 2 (0 : Int64) (t5 + (own_pt t6 2 (t7.toInt64)))) ∧ AI3 Z h' o2 j1 t6 t1 t2 ∧ fB2 Z h' o0 (.ref o1) ∧ fB3 Z h' o0 (.ref o2) ∧ fB7 Z h' o0 (.int 0) ∧ Exa Z h' o0 kB ∧ fB1 Z h' o0 (.ref o3) ∧ fB0 Z h' o0 (.int 3) ∧ fB4 Z h' o0 (.ref o4) ∧ fB5 Z h' o0 (.ref o5) ∧ fB6 Z h' o0 (.ref o6) ∧ fB8 Z h' o0 (.int 2) ∧ fB9 Z h' o0 (.int 3) ∧ AZ3 Z h' o1 j0 (own_ui t6 0 0 (own_ui t6 0 1 0)) (own_ui t6 1 0 (own_ui t6 1 1 0)) (own_ui t6 2 0 (own_ui t6 2 1 0)) ∧ AI4 Z h' o4 j5 0 1 2 2 ∧ AD3 Z h' o6 j4 (own_up 1 0 (own_pk t6 (t3 + (own_pt t6 0 (t7.toInt64))) (t4 + (own_pt t6 1 (t7.toInt64))) (t5 + (own_pt t6 2 (t7.toInt64)))) t11) (own_up 1 1 (own_pk t6 (t3 + (own_pt t6 0 (t7.toInt64))) (t4 + (own_pt t6 1 (t7.toInt64))) (t5 + (own_pt t6 2 (t7.toInt64)))) t12) (own_up 1 2 (own_pk t6 (t3 + (own_pt t6 0 (t7.toInt64))) (t4 + (own_pt t6 1 (t7.toInt64))) (t5 + (own_pt t6 2 (t7.toInt64)))) t13) ∧ Exa Z h' o6 "[D" ∧ AI3 Z h' o5 j3 (own_ui 1 0 t6 t8) (own_ui 1 1 t6 t9) (own_ui 1 2 t6 t10) ∧ Exa Z h' o5 "[I" ∧
      ∀ target, Steps p.tables e below (T'.setTop (mkF m 121 #[iv t16, iv t17, iv t18, iv t19, iv t7, iv t20, iv t21, iv t22, iv t6, rv o0, rv o7, rv o10, .unset, .unset] [])) target → Steps p.tables e below (T0.setTop (mkF m 87 #[iv t16, iv t17, iv t18, iv t19, iv t7, iv t20, iv t21, iv t22, iv t6, rv o0, .unset, .unset, .unset, .unset] [])) target := by
  obtain ⟨cq1, kq1, q1a, q1b, q1c⟩ := isOf hZ e0 f4
  obtain ⟨_, _, ⟨T1, L1, k1, n1⟩, -, X1, ⟨Lc1, hQ1, l1, y1, z1⟩, st1⟩ := X0.virtualBack hx (y := (⟨kB, "add", "(ID)V"⟩ : MethodName)) (z := (⟨kB, "add", "(ID)V"⟩ : MethodName)) hown (mvT hZ (w_26 hw)) (mvT hZ (w_27 hw)) (notFace_of_selects (args := #[]) (mvT hZ (w_29 hw))) (mvT hZ (w_29 hw)) (mvT hZ (w_28 hw)) (by decide) (backOf (W := 0) (rm3_0 l Z a0 hw [] t6 t0 t1 t2 t3 t4 t5 (t7.toInt64) (3 : Int32) (1 : Int32) (1 : Int32) o0 o1 o2 o3 o4 o5 o6 j0 j1 j2 h0 n0 OO f0 f1 d0 u0 f2 v0 f3 f4 u1 f5 v1 v2 u2 f6 f7 v3 v4 v5 d1 d2 u3 f8 f9 f10 f11 f12 f13) hZ (w_30 hw) (w_2 hw) (by decide) (by decide)) q1a q1c (g := (mkF m 94 #[iv t16, iv t17, iv t18, iv t19, iv t7, iv t20, iv t21, iv t22, iv t6, rv o0, .unset, .unset, .unset, .unset] [(.double (FP.l2d (t7.toInt64))), (.int t6), (.ref o0)])) rfl (by rw [hml]; rfl) (Steps.refl _) (argsL := [(.int t6), (.double (FP.l2d (t7.toInt64)))]) (rest := []) (lenOf pd_1 rfl) rfl (by show 2 * 0 + _ ≤ _; exact Nat.le_of_eq rfl) (hb hby at_94) (fun _ _ => ⟨rfl, e0, (by decide : 7 + 0 ≤ _), (by decide : 29 + 0 ≤ _)⟩)
  dsimp only [Pt.U, Pt.locs, Pt.cells, Pt.slots] at X1 l1 y1 z1 st1 hQ1
  subst l1 y1 z1
  obtain ⟨h1, e1⟩ : ∃ z, T1.heap = z := ⟨_, rfl⟩
  rw [e1] at hQ1
  obtain ⟨rfl, N1q, K1, R1_0, R1_1, R1_2, R1_3, R1_4, R1_5, R1_6, R1_7, R1_8, R1_9, R1_10, R1_11, R1_12, R1_13⟩ := hQ1
  have N1 := Fr.app N0 N1q
  have O1 := Old.keep OO K1 (allS u0 (allS u1 (allS u2 (allS u3 all0))))
  have KK1 := Keep.trans (Keep.refl h0 [o3, o2, o0, o1, o4, o6, o5]) K1 (allS (Or.inl (own_m 3 rfl)) (allS (Or.inl (own_m 2 rfl)) (allS (Or.inl (own_m 1 rfl)) (allS (Or.inl (own_m 0 rfl)) all0))))
  have F3 := (Arv.keep f14 K1 (ninS v6 (ninS v7 (ninS v8 (ninS v9 nin0)))))
  have F4 := (Arv.keep f15 K1 (ninS v10 (ninS v11 (ninS v12 (ninS v13 nin0)))))
  have F5 := (Arv.keep f16 K1 (ninS v15 (ninS v16 (ninS v17 (ninS v18 nin0)))))
  have F6 := (Exa.keep f17 K1)
  have F7 := (Exa.keep f18 K1)
  obtain ⟨cq2, kq2, q2a, q2b, q2c⟩ := isOf hZ e1 R1_4
  obtain ⟨_, _, ⟨T2, L2, k2, n2⟩, -, X2, ⟨Lc2, hQ2, l2, y2, z2⟩, st2⟩ := X1.virtualBack hx (y := (⟨kB, "endRow", "()V"⟩ : MethodName)) (z := (⟨kB, "endRow", "()V"⟩ : MethodName)) hown (mvT hZ (w_33 hw)) (mvT hZ (w_34 hw)) (notFace_of_selects (args := #[]) (mvT hZ (w_36 hw))) (mvT hZ (w_36 hw)) (mvT hZ (w_35 hw)) (by decide) (backOf (W := 0) (rm4_4 l Z a0 hw [] (1 : Int32) t8 t9 t10 t6 t1 t2 (t3 + (own_pt t6 0 (t7.toInt64))) (t4 + (own_pt t6 1 (t7.toInt64))) (t5 + (own_pt t6 2 (t7.toInt64))) t11 t12 t13 (own_ui t6 0 1 0) (own_ui t6 1 1 0) (own_ui t6 2 1 0) (0 : Int32) (1 : Int32) t14 t15 (3 : Int32) o0 o5 o2 o6 o3 o1 o4 j3 j1 j2 j4 j0 j5 h1 n0 O1 R1_10 R1_3 R1_8 F3 (by decide) R1_2 R1_12 u2 (Ne.symm v2) R1_11 v8 (by decide) u4 R1_9 (Ne.symm v7) R1_5 R1_13 v5 (Ne.symm v9) d0 F4 v12 v14 u5 (Ne.symm v11) R1_4 u1 (Ne.symm v13) v4 u3 R1_1 R1_0 (Ne.symm v1) (Ne.symm v6) (Ne.symm v10) (Ne.symm v0) (Ne.symm v3) u0 R1_7 F5 v17 v19 v20 v16 v18 v15 u6 F6 F7 R1_6) hZ (w_37 hw) (w_2 hw) (by decide) (by decide)) q2a q2c (g := (mkF m 99 #[iv t16, iv t17, iv t18, iv t19, iv t7, iv t20, iv t21, iv t22, iv t6, rv o0, .unset, .unset, .unset, .unset] [(.ref o0)])) rfl (by rw [hml]; rfl) (Steps.refl _) (argsL := []) (rest := []) (lenOf pd_6 rfl) rfl (by show 2 * 0 + _ ≤ _; exact Nat.le_of_eq rfl) (hb hby at_99) (fun _ _ => ⟨rfl, e1, (by decide : 7 + 0 ≤ _), (by decide : 29 + 0 ≤ _)⟩)
  dsimp only [Pt.U, Pt.locs, Pt.cells, Pt.slots] at X2 l2 y2 z2 st2 hQ2
  subst l2 y2 z2
  obtain ⟨h2, e2⟩ : ∃ z, T2.heap = z := ⟨_, rfl⟩
  rw [e2] at hQ2
  obtain ⟨rfl, N2q, K2, R2_0, R2_1, R2_2, R2_3, R2_4, R2_5, R2_6, R2_7, R2_8, R2_9, R2_10, R2_11, R2_12, R2_13, R2_14, R2_15, R2_16, R2_17, R2_18⟩ := hQ2
  have N2 := Fr.app N1 N2q
  have O2 := Old.keep O1 K2 (allS u2 (allS u4 (allS u5 (allS u1 (allS u3 (allS u0 (allS u6 all0)))))))
  have KK2 := Keep.trans KK1 K2 (allS (Or.inl (own_m 1 rfl)) (allS (Or.inl (own_m 6 rfl)) (allS (Or.inl (own_m 5 rfl)) (allS (Or.inl (own_m 2 rfl)) (allS (Or.inl (own_m 0 rfl)) (allS (Or.inl (own_m 3 rfl)) (allS (Or.inl (own_m 4 rfl)) all0)))))))
  have F8 : fB8 Z h2 o0 (.int 2) := R2_5
  have F9 : AI4 Z h2 o4 j5 0 1 2 t15 := R2_18
  obtain ⟨cq10, kq10, q10a, q10b, q10c⟩ := isOf hZ e2 R2_12
  obtain ⟨_, _, ⟨T10, L10, k10, n10⟩, -, X10, ⟨Lc10, hQ10, l10, y10, z10⟩, st10⟩ := X2.virtualBack hx (y := (⟨kB, "endRow", "()V"⟩ : MethodName)) (z := (⟨kB, "endRow", "()V"⟩ : MethodName)) hown (mvT hZ (w_33 hw)) (mvT hZ (w_34 hw)) (notFace_of_selects (args := #[]) (mvT hZ (w_36 hw))) (mvT hZ (w_36 hw)) (mvT hZ (w_35 hw)) (by decide) (backOf (W := 0) (rm4_5 l Z a0 hw [] (2 : Int32) (own_ui 1 0 t6 t8) (own_ui 1 1 t6 t9) (own_ui 1 2 t6 t10) t6 t1 t2 (0 : Int32) (1 : Int32) (2 : Int32) t15 (3 : Int32) o0 o5 o2 o4 o1 o3 o6 j3 j1 j5 h2 n0 O2 F8 R2_6 R2_7 R2_1 (by decide) R2_8 R2_0 u2 (Ne.symm v2) R2_12 u1 R2_9 R2_14 F9 v17 v16 u6 R2_13 R2_11 R2_15 R2_10) hZ (w_37 hw) (w_2 hw) (by decide) (by decide)) q10a q10c (g := (mkF m 104 #[iv t16, iv t17, iv t18, iv t19, iv t7, iv t20, iv t21, iv t22, iv t6, rv o0, .unset, .unset, .unset, .unset] [(.ref o0)])) rfl (by rw [hml]; rfl) (Steps.refl _) (argsL := []) (rest := []) (lenOf pd_6 rfl) rfl (by show 2 * 0 + _ ≤ _; exact Nat.le_of_eq rfl) (hb hby at_104) (fun _ _ => ⟨rfl, e2, (by decide : 7 + 0 ≤ _), (by decide : 29 + 0 ≤ _)⟩)
  dsimp only [Pt.U, Pt.locs, Pt.cells, Pt.slots] at X10 l10 y10 z10 st10 hQ10
  subst l10 y10 z10
  obtain ⟨h10, e10⟩ : ∃ z, T10.heap = z := ⟨_, rfl⟩
  rw [e10] at hQ10
  obtain ⟨rfl, N10q, K10, R10_0, R10_1, R10_2, R10_3, R10_4, R10_5, R10_6, R10_7, R10_8, R10_9, R10_10, R10_11, R10_12⟩ := hQ10
  have N10 := Fr.app N2 N10q
  have O10 := Old.keep O2 K10 (allS u2 (allS u1 (allS u6 all0)))
  have KK10 := Keep.trans KK2 K10 (allS (Or.inl (own_m 1 rfl)) (allS (Or.inl (own_m 2 rfl)) (allS (Or.inl (own_m 4 rfl)) all0)))
  have F12 := (Arv.keep R2_1 K10 (ninS v8 (ninS v7 (ninS (Ne.symm v19) nin0))))
  have F13 := (Arv.keep R2_3 K10 (ninS v12 (ninS v11 (ninS (Ne.symm v20) nin0))))
  obtain ⟨cq11, kq11, q11a, q11b, q11c⟩ := isOf hZ e10 R10_5
  obtain ⟨_, _, ⟨T11, L11, k11, n11⟩, -, X11, ⟨Lc11, hQ11, l11, y11, z11⟩, st11⟩ := X10.virtualBack hx (y := (⟨kB, "build", "()Lcom/example/rekurze/rekurze/numeric/SparseMatrix;"⟩ : MethodName)) (z := (⟨kB, "build", "()Lcom/example/rekurze/rekurze/numeric/SparseMatrix;"⟩ : MethodName)) hown (mvT hZ (w_59 hw)) (mvT hZ (w_60 hw)) (notFace_of_selects (args := #[]) (mvT hZ (w_62 hw))) (mvT hZ (w_62 hw)) (mvT hZ (w_61 hw)) (by decide) (backOf (W := 0) (rm10_2 l Z a0 hw [] (own_ui 1 0 t6 t8) (own_ui 1 1 t6 t9) (own_ui 1 2 t6 t10) (own_up 1 0 (own_pk t6 (t3 + (own_pt t6 0 (t7.toInt64))) (t4 + (own_pt t6 1 (t7.toInt64))) (t5 + (own_pt t6 2 (t7.toInt64)))) t11) (own_up 1 1 (own_pk t6 (t3 + (own_pt t6 0 (t7.toInt64))) (t4 + (own_pt t6 1 (t7.toInt64))) (t5 + (own_pt t6 2 (t7.toInt64)))) t12) (own_up 1 2 (own_pk t6 (t3 + (own_pt t6 0 (t7.toInt64))) (t4 + (own_pt t6 1 (t7.toInt64))) (t5 + (own_pt t6 2 (t7.toInt64)))) t13) o0 o4 o5 o6 j3 j4 h10 n0 O10 R10_6 R10_10 R10_7 R10_3 R10_1 F12 R10_11 F13) hZ (w_63 hw) (w_2 hw) (by decide) (by decide)) q11a q11c (g := (mkF m 109 #[iv t16, iv t17, iv t18, iv t19, iv t7, iv t20, iv t21, iv t22, iv t6, rv o0, .unset, .unset, .unset, .unset] [(.ref o0)])) rfl (by rw [hml]; rfl) (Steps.refl _) (argsL := []) (rest := []) (lenOf pd_11 rfl) rfl (by show 2 * 0 + _ ≤ _; exact Nat.le_of_eq rfl) (hb hby at_109) (fun _ _ => ⟨rfl, e10, (by decide : 7 + 3 ≤ _), (by decide : 29 + 7 ≤ _)⟩)
  dsimp only [Pt.U, Pt.locs, Pt.cells, Pt.slots] at X11 l11 y11 z11 st11 hQ11
  subst l11 y11 z11
  obtain ⟨h11, e11⟩ : ∃ z, T11.heap = z := ⟨_, rfl⟩
  rw [e11] at hQ11
  obtain ⟨o7, o8, o9, j6, j7, rfl, N11q, K11, sp11_o7, sp11_o8, sp11_o9, ne11_o7_o8, ne11_o7_o9, ne11_o8_o9, R11_0, R11_1, R11_2, R11_3, R11_4, R11_5⟩ := hQ11
  have N11 := Fr.app N10 N11q
  have g14 : n0 ≤ o7 := Nat.le_trans (own_le O10) sp11_o7
  have s15 : h0.size ≤ o7 := Nat.le_trans (KK10).1 sp11_o7
  have g16 : n0 ≤ o8 := Nat.le_trans (own_le O10) sp11_o8
  have s17 : h0.size ≤ o8 := Nat.le_trans (KK10).1 sp11_o8
  have g18 : n0 ≤ o9 := Nat.le_trans (own_le O10) sp11_o9
  have s19 : h0.size ≤ o9 := Nat.le_trans (KK10).1 sp11_o9
  have O11 := Old.keep O10 K11 all0
  have KK11 := Keep.trans KK10 K11 all0
  have F21 := (Arv.keep R10_12 K11 nin0)
  obtain ⟨cq20, kq20, q20a, q20b, q20c⟩ := isOf hZ e11 R11_0
  obtain ⟨_, _, ⟨T20, L20, k20, n20⟩, -, X20, ⟨Lc20, hQ20, l20, y20, z20⟩, st20⟩ := X11.virtualBack hx (y := (⟨kM, "dense", "()[[D"⟩ : MethodName)) (z := (⟨kM, "dense", "()[[D"⟩ : MethodName)) hown (mvT hZ (w_91 hw)) (mvT hZ (w_92 hw)) (notFace_of_selects (args := #[]) (mvT hZ (w_94 hw))) (mvT hZ (w_94 hw)) (mvT hZ (w_93 hw)) (by decide) (backOf (W := 0) (rm15_2 l Z a0 hw [] (own_ui 1 0 t6 t8) (own_ui 1 1 t6 t9) (own_up 1 0 (own_pk t6 (t3 + (own_pt t6 0 (t7.toInt64))) (t4 + (own_pt t6 1 (t7.toInt64))) (t5 + (own_pt t6 2 (t7.toInt64)))) t11) (own_up 1 1 (own_pk t6 (t3 + (own_pt t6 0 (t7.toInt64))) (t4 + (own_pt t6 1 (t7.toInt64))) (t5 + (own_pt t6 2 (t7.toInt64)))) t12) o7 o4 o8 o9 j5 j6 j7 h11 n0 O11 R11_1 F21 R11_0 R11_2 R11_4 R11_3 R11_5 d3 d4) hZ (w_95 hw) (w_66 hw) (by decide) (by decide)) q20a q20c (g := (mkF m 116 #[iv t16, iv t17, iv t18, iv t19, iv t7, iv t20, iv t21, iv t22, iv t6, rv o0, rv o7, .unset, .unset, .unset] [(.ref o7)])) rfl (by rw [hml]; rfl) (Steps.refl _) (argsL := []) (rest := []) (lenOf pd_13 rfl) rfl (by show 2 * 0 + _ ≤ _; exact Nat.le_of_eq rfl) (hb hby at_116) (fun _ _ => ⟨rfl, e11, (by decide : 10 + 4 ≤ _), (by decide : 36 + 12 ≤ _)⟩)
  dsimp only [Pt.U, Pt.locs, Pt.cells, Pt.slots] at X20 l20 y20 z20 st20 hQ20
  subst l20 y20 z20
  obtain ⟨h20, e20⟩ : ∃ z, T20.heap = z := ⟨_, rfl⟩
  rw [e20] at hQ20
  obtain ⟨o10, o11, o12, o13, j8, j9, rfl, N20q, K20, sp20_o10, sp20_o11, sp20_o12, sp20_o13, ne20_o10_o11, ne20_o10_o12, ne20_o10_o13, ne20_o11_o12, ne20_o11_o13, ne20_o12_o13, R20_0, R20_1, R20_2, R20_3⟩ := hQ20
  have N20 := Fr.app N11 N20q
  have g22 : n0 ≤ o10 := Nat.le_trans (own_le O11) sp20_o10
  have s23 : h0.size ≤ o10 := Nat.le_trans (KK11).1 sp20_o10
  have g24 : n0 ≤ o11 := Nat.le_trans (own_le O11) sp20_o11
  have s25 : h0.size ≤ o11 := Nat.le_trans (KK11).1 sp20_o11
  have g26 : n0 ≤ o12 := Nat.le_trans (own_le O11) sp20_o12
  have s27 : h0.size ≤ o12 := Nat.le_trans (KK11).1 sp20_o12
  have g28 : n0 ≤ o13 := Nat.le_trans (own_le O11) sp20_o13
  have s29 : h0.size ≤ o13 := Nat.le_trans (KK11).1 sp20_o13
  have O20 := Old.keep O11 K20 all0
  have KK20 := Keep.trans KK11 K20 all0
  have F30 := (Exa.keep R11_0 K20)
  have F31 := (Fld.keep R11_1 K20 nin0)
  have F32 := (Fld.keep R11_2 K20 nin0)
  have F33 := (Fld.keep R11_3 K20 nin0)
  have F34 := (Arv.keep R11_4 K20 nin0)
  have F35 := (Arv.keep R11_5 K20 nin0)
  have F36 := (Arv.keep (Arv.keep (Arv.keep R2_16 K10 (ninS v5 (ninS v4 (ninS (Ne.symm v18) nin0)))) K11 nin0) K20 nin0)
  have F37 := (Arv.keep (Arv.keep R10_0 K11 nin0) K20 nin0)
  have F38 := (Fld.keep (Fld.keep R10_8 K11 nin0) K20 nin0)
  have F39 := (Fld.keep (Fld.keep R10_4 K11 nin0) K20 nin0)
  have F40 := (Fld.keep (Fld.keep R10_2 K11 nin0) K20 nin0)
  have F41 := (Exa.keep (Exa.keep R10_5 K11) K20)
  have F42 := (Fld.keep (Fld.keep R10_9 K11 nin0) K20 nin0)
  have F43 := (Fld.keep (Fld.keep R10_10 K11 nin0) K20 nin0)
  have F44 := (Fld.keep (Fld.keep R10_7 K11 nin0) K20 nin0)
  have F45 := (Fld.keep (Fld.keep R10_3 K11 nin0) K20 nin0)
  have F46 := (Fld.keep (Fld.keep R10_11 K11 nin0) K20 nin0)
  have F47 := (Fld.keep (Fld.keep R10_1 K11 nin0) K20 nin0)
  have F48 := (Fld.keep (Fld.keep R10_6 K11 nin0) K20 nin0)
  have F49 := (Arv.keep (Arv.keep (Arv.keep R2_17 K10 (ninS (Ne.symm v1) (ninS (Ne.symm v0) (ninS (Ne.symm v15) nin0)))) K11 nin0) K20 nin0)
  have F50 := (Arv.keep F21 K20 nin0)
  have F51 := (Arv.keep (Arv.keep F13 K11 nin0) K20 nin0)
  have F52 := (Exa.keep (Exa.keep (Exa.keep R2_4 K10) K11) K20)
  have F53 := (Arv.keep (Arv.keep F12 K11 nin0) K20 nin0)
  have F54 := (Exa.keep (Exa.keep (Exa.keep R2_2 K10) K11) K20)
  have ne55 : o7 ≠ o10 := Nat.ne_of_lt (Nat.lt_of_lt_of_le (R11_0).lt sp20_o10)
  have ne56 : o7 ≠ o11 := Nat.ne_of_lt (Nat.lt_of_lt_of_le (R11_0).lt sp20_o11)
  have ne57 : o7 ≠ o12 := Nat.ne_of_lt (Nat.lt_of_lt_of_le (R11_0).lt sp20_o12)
  have ne58 : o7 ≠ o13 := Nat.ne_of_lt (Nat.lt_of_lt_of_le (R11_0).lt sp20_o13)
  have ne59 : o8 ≠ o10 := Nat.ne_of_lt (Nat.lt_of_lt_of_le (R11_4).lt sp20_o10)
  have ne60 : o8 ≠ o11 := Nat.ne_of_lt (Nat.lt_of_lt_of_le (R11_4).lt sp20_o11)
  have ne61 : o8 ≠ o12 := Nat.ne_of_lt (Nat.lt_of_lt_of_le (R11_4).lt sp20_o12)
  have ne62 : o8 ≠ o13 := Nat.ne_of_lt (Nat.lt_of_lt_of_le (R11_4).lt sp20_o13)
  have ne63 : o9 ≠ o10 := Nat.ne_of_lt (Nat.lt_of_lt_of_le (R11_5).lt sp20_o10)
  have ne64 : o9 ≠ o11 := Nat.ne_of_lt (Nat.lt_of_lt_of_le (R11_5).lt sp20_o11)
  have ne65 : o9 ≠ o12 := Nat.ne_of_lt (Nat.lt_of_lt_of_le (R11_5).lt sp20_o12)
  have ne66 : o9 ≠ o13 := Nat.ne_of_lt (Nat.lt_of_lt_of_le (R11_5).lt sp20_o13)
  refine ⟨T20, h20, _, o7, o8, o9, o10, o11, o12, o13, j6, j7, j8, j9, X20, e20, N20, KK20, s15, s17, s19, s23, s25, s27, s29, ne11_o7_o8, ne11_o7_o9, ne55, ne56, ne57, ne58, ne11_o8_o9, ne59, ne60, ne61, ne62, ne63, ne64, ne65, ne66, ne20_o10_o11, ne20_o10_o12, ne20_o10_o13, ne20_o11_o12, ne20_o11_o13, ne20_o12_o13, F30, F31, F32, F33, F34, F35, R20_0, R20_1, R20_2, R20_3, F36, F37, F38, F39, F40, F41, F42, F43, F44, F45, F46, F47, F48, F49, F50, F51, F52, F53, F54, fun target kt => ?_⟩
  show Steps p.tables e below (T0.setTop (mkF m 87 #[iv t16, iv t17, iv t18, iv t19, iv t7, iv t20, iv t21, iv t22, iv t6, rv o0, .unset, .unset, .unset, .unset] [])) _
  refine oa X0 hx hby at_87 rfl rfl rfl ?_
  refine oi X0 hx hby at_89 rfl rfl ?_
  refine oi X0 hx hby at_91 rfl rfl ?_
  refine XS.i2dS X0.here hx rfl (hb hby at_93) rfl (v := FP.l2d (t7.toInt64)) (i2d_w t7) ?_
  refine st1.trans ?_
  refine oa X1 hx hby at_97 rfl rfl rfl ?_
  refine st2.trans ?_
  refine oa X2 hx hby at_102 rfl rfl rfl ?_
  refine st10.trans ?_
  refine oa X10 hx hby at_107 rfl rfl rfl ?_
  refine st11.trans ?_
  refine XS.astore X11.here hx rfl (hb hby at_112) rfl rfl (l' := #[iv t16, iv t17, iv t18, iv t19, iv t7, iv t20, iv t21, iv t22, iv t6, rv o0, rv o7, .unset, .unset, .unset]) rfl ?_
  refine oa X11 hx hby at_114 rfl rfl rfl ?_
  refine st20.trans ?_
  refine XS.astore X20.here hx rfl (hb hby at_119) rfl rfl (l' := #[iv t16, iv t17, iv t18, iv t19, iv t7, iv t20, iv t21, iv t22, iv t6, rv o0, rv o7, rv o10, .unset, .unset]) rfl ?_
  exact kt
theorem sg_20 {p : Program} {l : Launch} {e : Env} {s : State} {m : MethodId} {args : Array Value} {below : List Frame} {meth : Method} {c : Code} {T0 : State} {locs : List Loc} {Z : State} {a0 : Array Value} {h0 : Heap} {n0 cn sn : Nat} (hw : HW a0 Z) (t0 t1 t2 t3 t4 t5 t6 t7 t8 : Int32) (o0 o1 o2 : Addr)
    (X0 : Stand p l e room_1 s m args below meth c T0 locs cn sn) (hcn : cn ≤ room_1.cells) (hsn : sn ≤ room_1.slots) (hx : p.tables.exec = Jvm.exec) (hZ : Z.Warmed39 s.vm) (hby : c.code = code) (hml : c.maxLocals = 14) (hown : s.vm.findClass kL = some m.cls) (e0 : T0.heap = h0) (N0 : Fr n0 locs) (OO : Old Z n0 h0) (d0 : t0 = t1) (d1 : t2 = t1) :
    ∃ (T' : State) (h' : Heap) (lc : List Loc), Stand p l e room_1 s m args below meth c T' lc cn sn ∧ T'.heap = h' ∧ Fr n0 lc ∧ Keep h0 h' [] ∧
      ∀ target, Steps p.tables e below (T'.setTop (mkF m 157 #[iv t3, iv t4, iv t5, iv t6, iv t7, iv t1, iv t0, iv t2, iv t8, rv o0, rv o1, rv o2, iv 1, .unset] [])) target → Steps p.tables e below (T0.setTop (mkF m 121 #[iv t3, iv t4, iv t5, iv t6, iv t7, iv t1, iv t0, iv t2, iv t8, rv o0, rv o1, rv o2, .unset, .unset] [])) target := by
  refine ⟨T0, h0, _, X0, e0, N0, (Keep.refl h0 []), fun target kt => ?_⟩
  show Steps p.tables e below (T0.setTop (mkF m 121 #[iv t3, iv t4, iv t5, iv t6, iv t7, iv t1, iv t0, iv t2, iv t8, rv o0, rv o1, rv o2, .unset, .unset] [])) _
  refine oK X0 hx hby at_121 rfl ?_
  refine oi X0 hx hby at_122 rfl rfl ?_
  refine oi X0 hx hby at_124 rfl rfl ?_
  refine XS.icmpYes X0.here hx rfl (pc0 := 126) (pc' := 133) rfl (hb hby at_126) rfl (teq d0).1 (by decide) (by decide) ?_
  refine oK X0 hx hby at_133 rfl ?_
  refine XS.iadd X0.here hx rfl (hb hby at_134) rfl ?_
  show Steps p.tables e below (T0.setTop (mkF m 135 #[iv t3, iv t4, iv t5, iv t6, iv t7, iv t1, iv t0, iv t2, iv t8, rv o0, rv o1, rv o2, .unset, .unset] [(.int ((1 : Int32) + (0 : Int32)))])) _
  rw [(by decide : ((1 : Int32) + (0 : Int32)) = (1 : Int32))]
  refine oi X0 hx hby at_135 rfl rfl ?_
  refine oi X0 hx hby at_137 rfl rfl ?_
  refine XS.icmpYes X0.here hx rfl (pc0 := 139) (pc' := 153) rfl (hb hby at_139) rfl (teq d1).1 (by decide) (by decide) ?_
  refine oK X0 hx hby at_153 rfl ?_
  refine XS.iadd X0.here hx rfl (hb hby at_154) rfl ?_
  show Steps p.tables e below (T0.setTop (mkF m 155 #[iv t3, iv t4, iv t5, iv t6, iv t7, iv t1, iv t0, iv t2, iv t8, rv o0, rv o1, rv o2, .unset, .unset] [(.int ((1 : Int32) + (0 : Int32)))])) _
  rw [(by decide : ((1 : Int32) + (0 : Int32)) = (1 : Int32))]
  refine XS.istore X0.here hx rfl (hb hby at_155) rfl (l' := #[iv t3, iv t4, iv t5, iv t6, iv t7, iv t1, iv t0, iv t2, iv t8, rv o0, rv o1, rv o2, iv 1, .unset]) rfl ?_
  exact kt
theorem sg_21 {p : Program} {l : Launch} {e : Env} {s : State} {m : MethodId} {args : Array Value} {below : List Frame} {meth : Method} {c : Code} {T0 : State} {locs : List Loc} {Z : State} {a0 : Array Value} {h0 : Heap} {n0 cn sn : Nat} (hw : HW a0 Z) (t0 t1 t2 t3 t4 t5 t6 t7 t8 t9 t10 : Int32) (o0 o1 o2 o3 o4 o5 o6 : Addr) (j0 j1 : ClassId)
    (X0 : Stand p l e room_1 s m args below meth c T0 locs cn sn) (hcn : cn ≤ room_1.cells) (hsn : sn ≤ room_1.slots) (hx : p.tables.exec = Jvm.exec) (hZ : Z.Warmed39 s.vm) (hby : c.code = code) (hml : c.maxLocals = 14) (hown : s.vm.findClass kL = some m.cls) (e0 : T0.heap = h0) (N0 : Fr n0 locs) (OO : Old Z n0 h0) (f0 : fM10 Z h0 o0 (.ref o1)) (f1 : AI4 Z h0 o1 j0 t0 1 2 t1) (f2 : Exa Z h0 o0 kM) (f3 : Arv Z h0 o2 j1 (.array .double) (3 : Int32) [(.ref o3), (.ref o4), (.ref o5)] .null) :
    ∃ (T' : State) (h' : Heap) (lc : List Loc), Stand p l e room_1 s m args below meth c T' lc cn sn ∧ T'.heap = h' ∧ Fr n0 lc ∧ Keep h0 h' [] ∧
      ∀ target, Steps p.tables e below (T'.setTop (mkF m 207 #[iv t2, iv t3, iv t4, iv t5, iv t6, iv t7, iv t8, iv t9, iv t10, rv o6, rv o0, rv o2, iv 1, iv 1] [])) target → Steps p.tables e below (T0.setTop (mkF m 157 #[iv t2, iv t3, iv t4, iv t5, iv t6, iv t7, iv t8, iv t9, iv t10, rv o6, rv o0, rv o2, iv 1, .unset] [])) target := by
  obtain ⟨cq1, kq1, q1a, q1b, q1c⟩ := isOf hZ e0 f2
  obtain ⟨_, _, ⟨T1, L1, k1, n1⟩, -, X1, ⟨Lc1, hQ1, l1, y1, z1⟩, st1⟩ := X0.virtualBack hx (y := (⟨kM, "rowStart", "(I)I"⟩ : MethodName)) (z := (⟨kM, "rowStart", "(I)I"⟩ : MethodName)) hown (mvT hZ (w_103 hw)) (mvT hZ (w_104 hw)) (notFace_of_selects (args := #[]) (mvT hZ (w_106 hw))) (mvT hZ (w_106 hw)) (mvT hZ (w_105 hw)) (by decide) (backOf (W := 0) (rm17_0 l Z a0 hw [] t0 (1 : Int32) (2 : Int32) t1 o0 o1 j0 h0 n0 OO f0 f1) hZ (w_107 hw) (w_66 hw) (by decide) (by decide)) q1a q1c (g := (mkF m 160 #[iv t2, iv t3, iv t4, iv t5, iv t6, iv t7, iv t8, iv t9, iv t10, rv o6, rv o0, rv o2, iv 1, .unset] [(.int 1), (.ref o0)])) rfl (by rw [hml]; rfl) (Steps.refl _) (argsL := [(.int 1)]) (rest := []) (lenOf pd_14 rfl) rfl (by show 2 * 0 + _ ≤ _; exact Nat.le_of_eq rfl) (hb hby at_160) (fun _ _ => ⟨rfl, e0, hcn, hsn⟩)
  dsimp only [Pt.U, Pt.locs, Pt.cells, Pt.slots] at X1 l1 y1 z1 st1 hQ1
  subst l1 y1 z1
  obtain ⟨rfl, N1q, e1⟩ := hQ1
  have N1 := Fr.app N0 N1q
  obtain ⟨cq2, kq2, q2a, q2b, q2c⟩ := isOf hZ e1 f2
  obtain ⟨_, _, ⟨T2, L2, k2, n2⟩, -, X2, ⟨Lc2, hQ2, l2, y2, z2⟩, st2⟩ := X1.virtualBack hx (y := (⟨kM, "rowStart", "(I)I"⟩ : MethodName)) (z := (⟨kM, "rowStart", "(I)I"⟩ : MethodName)) hown (mvT hZ (w_103 hw)) (mvT hZ (w_104 hw)) (notFace_of_selects (args := #[]) (mvT hZ (w_106 hw))) (mvT hZ (w_106 hw)) (mvT hZ (w_105 hw)) (by decide) (backOf (W := 0) (rm17_1 l Z a0 hw [] t0 (1 : Int32) (2 : Int32) t1 o0 o1 j0 h0 n0 OO f0 f1) hZ (w_107 hw) (w_66 hw) (by decide) (by decide)) q2a q2c (g := (mkF m 171 #[iv t2, iv t3, iv t4, iv t5, iv t6, iv t7, iv t8, iv t9, iv t10, rv o6, rv o0, rv o2, iv 1, .unset] [(.int 2), (.ref o0)])) rfl (by rw [hml]; rfl) (Steps.refl _) (argsL := [(.int 2)]) (rest := []) (lenOf pd_14 rfl) rfl (by show 2 * 0 + _ ≤ _; exact Nat.le_of_eq rfl) (hb hby at_171) (fun _ _ => ⟨rfl, e1, hcn, hsn⟩)
  dsimp only [Pt.U, Pt.locs, Pt.cells, Pt.slots] at X2 l2 y2 z2 st2 hQ2
  subst l2 y2 z2
  obtain ⟨rfl, N2q, e2⟩ := hQ2
  have N2 := Fr.app N1 N2q
  obtain ⟨c3, r3, q3, S3, M3, H3, G3⟩ := id f3
  refine ⟨T2, h0, _, X2, e2, N2, (Keep.refl h0 []), fun target kt => ?_⟩
  show Steps p.tables e below (T0.setTop (mkF m 157 #[iv t2, iv t3, iv t4, iv t5, iv t6, iv t7, iv t8, iv t9, iv t10, rv o6, rv o0, rv o2, iv 1, .unset] [])) _
  refine oa X0 hx hby at_157 rfl rfl rfl ?_
  refine oK X0 hx hby at_159 rfl ?_
  refine st1.trans ?_
  show Steps p.tables e below (T1.setTop (mkF m 163 #[iv t2, iv t3, iv t4, iv t5, iv t6, iv t7, iv t8, iv t9, iv t10, rv o6, rv o0, rv o2, iv 1, .unset] [(.int 1)])) _
  refine oi X1 hx hby at_163 rfl rfl ?_
  refine XS.icmpNo X1.here hx rfl (hb hby at_165) rfl (by decide) ?_
  refine oa X1 hx hby at_168 rfl rfl rfl ?_
  refine oK X1 hx hby at_170 rfl ?_
  refine st2.trans ?_
  show Steps p.tables e below (T2.setTop (mkF m 174 #[iv t2, iv t3, iv t4, iv t5, iv t6, iv t7, iv t8, iv t9, iv t10, rv o6, rv o0, rv o2, iv 1, .unset] [(.int 2)])) _
  refine oi X2 hx hby at_174 rfl rfl ?_
  refine oK X2 hx hby at_176 rfl ?_
  refine XS.iadd X2.here hx rfl (hb hby at_177) rfl ?_
  show Steps p.tables e below (T2.setTop (mkF m 178 #[iv t2, iv t3, iv t4, iv t5, iv t6, iv t7, iv t8, iv t9, iv t10, rv o6, rv o0, rv o2, iv 1, .unset] [(.int ((1 : Int32) + (1 : Int32))), (.int 2)])) _
  rw [(by decide : ((1 : Int32) + (1 : Int32)) = (2 : Int32))]
  refine XS.icmpNo X2.here hx rfl (hb hby at_178) rfl (by decide) ?_
  refine oK X2 hx hby at_181 rfl ?_
  refine XS.goto X2.here hx rfl (pc0 := 182) (pc' := 186) rfl (hb hby at_182) (by decide) (by decide) ?_
  refine XS.istore X2.here hx rfl (hb hby at_186) rfl (l' := #[iv t2, iv t3, iv t4, iv t5, iv t6, iv t7, iv t8, iv t9, iv t10, rv o6, rv o0, rv o2, iv 1, iv 1]) rfl ?_
  refine oi X2 hx hby at_188 rfl rfl ?_
  refine XS.ifNo X2.here hx rfl (hb hby at_190) rfl (by decide) ?_
  refine oa X2 hx hby at_193 rfl rfl rfl ?_
  refine X2.arraylength hx (by rw [e2]; exact r3.1) (State.isArrayOf_alike hZ.alike r3.2.1) (g := (mkF m 195 #[iv t2, iv t3, iv t4, iv t5, iv t6, iv t7, iv t8, iv t9, iv t10, rv o6, rv o0, rv o2, iv 1, iv 1] [(.ref o2)])) rfl rfl (hb hby at_195) _ ?_
  rw [len_of S3 M3]
  refine oK X2 hx hby at_196 rfl ?_
  refine XS.icmpNo X2.here hx rfl (hb hby at_197) rfl (by decide) ?_
  refine oK X2 hx hby at_200 rfl ?_
  refine XS.goto X2.here hx rfl (pc0 := 201) (pc' := 205) rfl (hb hby at_201) (by decide) (by decide) ?_
  refine XS.istore X2.here hx rfl (hb hby at_205) rfl (l' := #[iv t2, iv t3, iv t4, iv t5, iv t6, iv t7, iv t8, iv t9, iv t10, rv o6, rv o0, rv o2, iv 1, iv 1]) rfl ?_
  exact kt
theorem rm0_4 (l : Launch) (Z : State) (a0 : Array Value) (hw : HW a0 Z) (ws : List Jvm.Cond) (p0 p1 p2 p3 p4 p5 p6 p7 p8 : Int32) (h0 : Heap) (n0 : Nat) (OO : Old Z n0 h0) (hc5 : ((p0 &&& (255 : Int32)) % (3 : Int32)) = p5) (hc6 : ((((p0.toUInt32 >>> ((8 : Int32) &&& 31).toUInt32).toInt32) &&& (255 : Int32)) % (3 : Int32)) = p6) (hc7 : ((((p0.toUInt32 >>> ((16 : Int32) &&& 31).toUInt32).toInt32) &&& (255 : Int32)) % (3 : Int32)) = p7) (hc8 : ((((p0.toUInt32 >>> ((24 : Int32) &&& 31).toUInt32).toInt32) &&& (255 : Int32)) % (3 : Int32)) = p8) (i5 : own_in3 p5) (i6 : own_in3 p6) (i7 : own_in3 p7) (hd0 : ¬ ((own_pi p6 (own_ui p5 0 1 0) (own_ui p5 1 1 0) (own_ui p5 2 1 0)) = (0 : Int32))) (hd1 : ¬ ((own_pi p7 (own_ui p5 0 1 0) (own_ui p5 1 1 0) (own_ui p5 2 1 0)) = (0 : Int32))) (i8 : own_in3 p8) :
    MetFree l x (head1 (Jvm.Cond.code x code maxLocals ret :: ws) room_1) (fun a U => a = #[(.int p0), (.int p1), (.int p2), (.int p3), (.int p4)] ∧ Z.Warmed39 U.vm ∧ U.heap = h0) (fun _ _ _ _ _ => True) (fun _ U o U' => ∃ v L, o = .returned v ∧ (v = some (.int (1 : Int32)) ∧ Fr n0 L) ∧ FrameEnd U o U' L room_1.cells room_1.slots) := by
  refine MetFree.of_bodySF (plainFor_of_name pn_0) hisR ?_
  intro p e s m args below meth c s₁ Bd hml0 hP hK
  obtain ⟨rfl, hZ, hh⟩ := hP
  have hx := Bd.exec
  have hby := Bd.bytes
  have hml : c.maxLocals = 14 := hml0
  have hown : s.vm.findClass kL = some m.cls := findClass_of_methodNamed Bd.named
  have X0 : Stand p l e room_1 s m #[(.int p0), (.int p1), (.int p2), (.int p3), (.int p4)] below meth c s₁ [] 0 0 := Stand.of_body Bd
  have e0 : s₁.heap = h0 := by rw [← hh, Bd.state]; rfl
  have N0 := Fr.nil n0
  obtain ⟨T1, h1, lc1, b1, b2, b3, b4, b5, b6, b7, kb2, kb3, kb4, kb5, kb6, kb7, X1, e1, N1, K1, sp1_b1, sp1_b2, sp1_b3, sp1_b4, sp1_b5, sp1_b6, sp1_b7, ne1_b1_b2, ne1_b1_b3, ne1_b1_b4, ne1_b1_b5, ne1_b1_b6, ne1_b1_b7, ne1_b2_b3, ne1_b2_b4, ne1_b2_b5, ne1_b2_b6, ne1_b2_b7, ne1_b3_b4, ne1_b3_b5, ne1_b3_b6, ne1_b3_b7, ne1_b4_b5, ne1_b4_b6, ne1_b4_b7, ne1_b5_b6, ne1_b5_b7, ne1_b6_b7, R1_0, R1_1, R1_2, R1_3, R1_4, R1_5, R1_6, R1_7, R1_8, R1_9, R1_10, R1_11, R1_12, R1_13, R1_14, R1_15, R1_16, R1_17, R1_18, st1⟩ := sg_0 hw p5 p1 p0 p2 p3 p4 p6 p7 p8 X0 hx hZ hby hml hown e0 N0 OO i5 (own_q0 i5) own_q1
  have g2 : n0 ≤ b1 := Nat.le_trans (own_le OO) sp1_b1
  have g3 : n0 ≤ b2 := Nat.le_trans (own_le OO) sp1_b2
  have g4 : n0 ≤ b3 := Nat.le_trans (own_le OO) sp1_b3
  have g5 : n0 ≤ b4 := Nat.le_trans (own_le OO) sp1_b4
  have g6 : n0 ≤ b5 := Nat.le_trans (own_le OO) sp1_b5
  have g7 : n0 ≤ b6 := Nat.le_trans (own_le OO) sp1_b6
  have g8 : n0 ≤ b7 := Nat.le_trans (own_le OO) sp1_b7
  have O1 := Old.keep OO K1 all0
  obtain ⟨T9, h9, lc9, X9, e9, N9, K9, R9_0, R9_1, R9_2, R9_3, R9_4, R9_5, R9_6, R9_7, R9_8, R9_9, R9_10, R9_11, R9_12, R9_13, R9_14, R9_15, R9_16, R9_17, R9_18, st9⟩ := sg_18 hw p6 _ _ _ p7 _ _ _ p2 p3 (0 : Int32) (0 : Int32) (0 : Int32) p5 (0 : Int32) (0 : Int32) (0 : Int64) (0 : Int64) (0 : Int64) (0 : Int32) (0 : Int32) (0 : Int32) (0 : Int32) (3 : Int32) p0 p1 p4 p5 p8 b1 b3 b2 b6 b4 b7 b5 kb3 kb2 kb6 kb4 kb7 kb5 X1 (by decide) (by decide) hx hZ hby hml hown e1 N1 O1 R1_3 R1_12 R1_2 R1_11 i6 (own_q2 i6) own_q3 g3 R1_0 ne1_b1_b2 (Ne.symm ne1_b2_b3) i7 (own_q4 i7) own_q5 R1_9 R1_8 R1_6 R1_16 R1_4 R1_13 R1_10 R1_7 R1_18 R1_5 R1_14 R1_15 R1_17 R1_1 (Ne.symm ne1_b2_b6) (Ne.symm ne1_b2_b4) g5 ne1_b1_b4 (Ne.symm ne1_b4_b6) g7 ne1_b1_b6 i5 (Ne.symm ne1_b2_b7) (Ne.symm ne1_b4_b7) (Ne.symm ne1_b6_b7) g8 ne1_b1_b7 g2 ne1_b3_b4 ne1_b3_b6 ne1_b3_b7 (Ne.symm ne1_b1_b3) g4 (Ne.symm ne1_b2_b5) (Ne.symm ne1_b4_b5) ne1_b5_b6 ne1_b5_b7 (Ne.symm ne1_b1_b5) (Ne.symm ne1_b3_b5) g6 hd0 hd1
  have O9 := Old.keep O1 K9 (allS g3 (allS g6 (allS g4 (allS g2 (allS g8 (allS g7 (allS g5 all0)))))))
  have F10 : AD3 Z h9 b7 kb7 (own_pk p5 ((((0 : Int64) + (own_pt p5 0 (p1.toInt64))) + (own_pt p6 0 (p2.toInt64))) + (own_pt p7 0 (p3.toInt64))) ((((0 : Int64) + (own_pt p5 1 (p1.toInt64))) + (own_pt p6 1 (p2.toInt64))) + (own_pt p7 1 (p3.toInt64))) ((((0 : Int64) + (own_pt p5 2 (p1.toInt64))) + (own_pt p6 2 (p2.toInt64))) + (own_pt p7 2 (p3.toInt64)))) 0 0 := R9_14
  have F11 : AZ3 Z h9 b3 kb3 0 0 0 := own_cgI R9_2 (own_q41 i5).1 (own_q41 i5).2.1 (own_q41 i5).2.2
  have F12 : AD3 Z h9 b2 kb2 0 0 0 := own_cgD R9_0 (own_q42 i5 i6 i7 hd0 hd1).1 (own_q42 i5 i6 i7 hd0 hd1).2.1 (own_q42 i5 i6 i7 hd0 hd1).2.2
  obtain ⟨T13, h13, lc13, b8, b9, b10, b11, b12, b13, b14, kb9, kb10, kb11, kb12, X13, e13, N13, K13, sp13_b8, sp13_b9, sp13_b10, sp13_b11, sp13_b12, sp13_b13, sp13_b14, ne13_b8_b9, ne13_b8_b10, ne13_b8_b11, ne13_b8_b12, ne13_b8_b13, ne13_b8_b14, ne13_b9_b10, ne13_b9_b11, ne13_b9_b12, ne13_b9_b13, ne13_b9_b14, ne13_b10_b11, ne13_b10_b12, ne13_b10_b13, ne13_b10_b14, ne13_b11_b12, ne13_b11_b13, ne13_b11_b14, ne13_b12_b13, ne13_b12_b14, ne13_b13_b14, R13_0, R13_1, R13_2, R13_3, R13_4, R13_5, R13_6, R13_7, R13_8, R13_9, R13_10, R13_11, R13_12, R13_13, R13_14, R13_15, R13_16, R13_17, R13_18, R13_19, R13_20, R13_21, R13_22, R13_23, R13_24, R13_25, R13_26, R13_27, R13_28, st13⟩ := sg_19 hw p5 (0 : Int32) (0 : Int32) (0 : Int64) (0 : Int64) (0 : Int64) p8 p4 p5 (0 : Int32) (0 : Int32) _ (0 : Int64) (0 : Int64) (0 : Int32) (0 : Int32) p0 p1 p2 p3 p5 p6 p7 b1 b3 b4 b2 b5 b6 b7 kb3 kb4 kb2 kb6 kb7 kb5 X9 hx hZ hby hml hown e9 N9 O9 R9_3 F11 R9_9 R9_7 R9_5 R9_18 R9_4 F12 R9_13 R9_12 R9_8 R9_11 R9_6 R9_10 i8 g4 ne1_b1_b3 g2 (Ne.symm ne1_b3_b4) (Ne.symm ne1_b1_b4) g5 ne1_b2_b3 (Ne.symm ne1_b1_b2) ne1_b2_b4 (own_q8 i8) own_q9 g3 R9_16 F10 R9_1 R9_17 R9_15 (Ne.symm ne1_b3_b6) (Ne.symm ne1_b1_b6) (Ne.symm ne1_b4_b6) (Ne.symm ne1_b2_b6) g7 (Ne.symm ne1_b3_b7) (Ne.symm ne1_b1_b7) (Ne.symm ne1_b4_b7) (Ne.symm ne1_b2_b7) (Ne.symm ne1_b6_b7) g8 (Ne.symm ne1_b3_b5) (Ne.symm ne1_b1_b5) (Ne.symm ne1_b4_b5) (Ne.symm ne1_b2_b5) ne1_b5_b6 ne1_b5_b7 g6 (own_iun p8 (by decide) i5) (own_iue 0 i8)
  have g14 : n0 ≤ b8 := Nat.le_trans (own_le O9) sp13_b8
  have g15 : n0 ≤ b9 := Nat.le_trans (own_le O9) sp13_b9
  have g16 : n0 ≤ b10 := Nat.le_trans (own_le O9) sp13_b10
  have g17 : n0 ≤ b11 := Nat.le_trans (own_le O9) sp13_b11
  have g18 : n0 ≤ b12 := Nat.le_trans (own_le O9) sp13_b12
  have g19 : n0 ≤ b13 := Nat.le_trans (own_le O9) sp13_b13
  have g20 : n0 ≤ b14 := Nat.le_trans (own_le O9) sp13_b14
  have O13 := Old.keep O9 K13 (allS g3 (allS g5 (allS g2 (allS g4 (allS g6 (allS g8 (allS g7 all0)))))))
  obtain ⟨T21, h21, lc21, X21, e21, N21, K21, st21⟩ := sg_20 hw p6 p5 p7 p0 p1 p2 p3 p4 p8 b1 b8 b11 X13 (by decide) (by decide) hx hZ hby hml hown e13 N13 O13 (own_q43 i5 i6 i7 hd0 hd1) (own_q44 i5 i6 i7 hd0 hd1)
  have O21 := Old.keep O13 K21 all0
  have F23 := (Fld.keep R13_1 K21 nin0)
  have F24 := (Arv.keep R13_24 K21 nin0)
  have F25 := (Exa.keep R13_0 K21)
  have F26 := (Arv.keep R13_6 K21 nin0)
  obtain ⟨T22, h22, lc22, X22, e22, N22, K22, st22⟩ := sg_21 hw (0 : Int32) (2 : Int32) p0 p1 p2 p3 p4 p5 p6 p7 p8 b8 b5 b11 b12 b13 b14 b1 kb5 kb11 X21 (by decide) (by decide) hx hZ hby hml hown e21 N21 O21 F23 F24 F25 F26
  have O22 := Old.keep O21 K22 all0
  have F28 := (Arv.keep F26 K22 nin0)
  have F29 := (Arv.keep (Arv.keep R13_7 K21 nin0) K22 nin0)
  have F30 := (Arv.keep (Arv.keep R13_8 K21 nin0) K22 nin0)
  have F31 := (Arv.keep (Arv.keep R13_9 K21 nin0) K22 nin0)
  obtain ⟨T27, h27, lc27, X27, e27, N27, K27, st27⟩ := sg_10 hw _ _ _ p5 p1 p6 p2 p7 p3 _ _ _ p8 p4 (0 : Int64) (0 : Int64) (0 : Int64) p0 (1 : Int32) b11 b12 b13 b14 b1 b8 kb11 kb12 X22 (by decide) (by decide) hx hZ hby hml hown e22 N22 O22 F28 F29 (own_q45 i5 i6 i7 i8 hd0 hd1) (own_q46 i5 i6 i7 i8 hd0 hd1) (own_q47 i5 i6 i7 i8 hd0 hd1) F30 (own_q48 i8) (own_q49 i8) (own_q50 i8) F31 (by decide) (by decide) (by decide)
  have O27 := Old.keep O22 K27 all0
  obtain ⟨fs, hr, hrun, hended, hW, hsame⟩ := X27.leave (v := some (.int 1)) (fun h => by rw [Bd.returns] at h; cases h)
  refine ⟨_, _, (castTop (ef_0 m p0 p1 p2 p3 p4) ?_), hrun, hended, _, _, rfl, ?_, ⟨_, rfl⟩, hW, hsame.mono (by decide) (by decide)⟩
  · show Steps p.tables e below (s₁.setTop (mkF m 0 #[iv p0, iv p1, iv p2, iv p3, iv p4, .unset, .unset, .unset, .unset, .unset, .unset, .unset, .unset, .unset] [])) _
    refine oI X0 hx hby at_0 rfl rfl ?_
    refine XS.sipush X0.here hx rfl (hb hby at_1) ?_
    refine XS.iand X0.here hx rfl (hb hby at_4) rfl ?_
    refine oK X0 hx hby at_5 rfl ?_
    refine iremM X0 hx rfl (hb hby at_6) rfl (by decide) ?_
    show Steps p.tables e below (s₁.setTop (mkF m 7 #[iv p0, iv p1, iv p2, iv p3, iv p4, .unset, .unset, .unset, .unset, .unset, .unset, .unset, .unset, .unset] [(.int ((p0 &&& (255 : Int32)) % (3 : Int32)))])) _
    rw [hc5]
    refine XS.istore X0.here hx rfl (hb hby at_7) rfl (l' := #[iv p0, iv p1, iv p2, iv p3, iv p4, iv p5, .unset, .unset, .unset, .unset, .unset, .unset, .unset, .unset]) rfl ?_
    refine oI X0 hx hby at_9 rfl rfl ?_
    refine XS.bipush X0.here hx rfl (hb hby at_10) ?_
    refine XS.iushr X0.here hx rfl (hb hby at_12) rfl ?_
    refine XS.sipush X0.here hx rfl (hb hby at_13) ?_
    refine XS.iand X0.here hx rfl (hb hby at_16) rfl ?_
    refine oK X0 hx hby at_17 rfl ?_
    refine iremM X0 hx rfl (hb hby at_18) rfl (by decide) ?_
    show Steps p.tables e below (s₁.setTop (mkF m 19 #[iv p0, iv p1, iv p2, iv p3, iv p4, iv p5, .unset, .unset, .unset, .unset, .unset, .unset, .unset, .unset] [(.int ((((p0.toUInt32 >>> ((8 : Int32) &&& 31).toUInt32).toInt32) &&& (255 : Int32)) % (3 : Int32)))])) _
    rw [hc6]
    refine XS.istore X0.here hx rfl (hb hby at_19) rfl (l' := #[iv p0, iv p1, iv p2, iv p3, iv p4, iv p5, iv p6, .unset, .unset, .unset, .unset, .unset, .unset, .unset]) rfl ?_
    refine oI X0 hx hby at_21 rfl rfl ?_
    refine XS.bipush X0.here hx rfl (hb hby at_22) ?_
    refine XS.iushr X0.here hx rfl (hb hby at_24) rfl ?_
    refine XS.sipush X0.here hx rfl (hb hby at_25) ?_
    refine XS.iand X0.here hx rfl (hb hby at_28) rfl ?_
    refine oK X0 hx hby at_29 rfl ?_
    refine iremM X0 hx rfl (hb hby at_30) rfl (by decide) ?_
    show Steps p.tables e below (s₁.setTop (mkF m 31 #[iv p0, iv p1, iv p2, iv p3, iv p4, iv p5, iv p6, .unset, .unset, .unset, .unset, .unset, .unset, .unset] [(.int ((((p0.toUInt32 >>> ((16 : Int32) &&& 31).toUInt32).toInt32) &&& (255 : Int32)) % (3 : Int32)))])) _
    rw [hc7]
    refine XS.istore X0.here hx rfl (hb hby at_31) rfl (l' := #[iv p0, iv p1, iv p2, iv p3, iv p4, iv p5, iv p6, iv p7, .unset, .unset, .unset, .unset, .unset, .unset]) rfl ?_
    refine oI X0 hx hby at_33 rfl rfl ?_
    refine XS.bipush X0.here hx rfl (hb hby at_34) ?_
    refine XS.iushr X0.here hx rfl (hb hby at_36) rfl ?_
    refine XS.sipush X0.here hx rfl (hb hby at_37) ?_
    refine XS.iand X0.here hx rfl (hb hby at_40) rfl ?_
    refine oK X0 hx hby at_41 rfl ?_
    refine iremM X0 hx rfl (hb hby at_42) rfl (by decide) ?_
    show Steps p.tables e below (s₁.setTop (mkF m 43 #[iv p0, iv p1, iv p2, iv p3, iv p4, iv p5, iv p6, iv p7, .unset, .unset, .unset, .unset, .unset, .unset] [(.int ((((p0.toUInt32 >>> ((24 : Int32) &&& 31).toUInt32).toInt32) &&& (255 : Int32)) % (3 : Int32)))])) _
    rw [hc8]
    refine XS.istore X0.here hx rfl (hb hby at_43) rfl (l' := #[iv p0, iv p1, iv p2, iv p3, iv p4, iv p5, iv p6, iv p7, iv p8, .unset, .unset, .unset, .unset, .unset]) rfl ?_
    show Steps p.tables e below (s₁.setTop (mkF m 45 #[iv p0, iv p1, iv p2, iv p3, iv p4, iv p5, iv p6, iv p7, iv p8, .unset, .unset, .unset, .unset, .unset] [])) _
    refine st1 _ ?_
    show Steps p.tables e below (T1.setTop (mkF m 64 #[iv p0, iv p1, iv p2, iv p3, iv p4, iv p5, iv p6, iv p7, iv p8, rv b1, .unset, .unset, .unset, .unset] [])) _
    refine st9 _ ?_
    show Steps p.tables e below (T9.setTop (mkF m 87 #[iv p0, iv p1, iv p2, iv p3, iv p4, iv p5, iv p6, iv p7, iv p8, rv b1, .unset, .unset, .unset, .unset] [])) _
    refine st13 _ ?_
    show Steps p.tables e below (T13.setTop (mkF m 121 #[iv p0, iv p1, iv p2, iv p3, iv p4, iv p5, iv p6, iv p7, iv p8, rv b1, rv b8, rv b11, .unset, .unset] [])) _
    refine st21 _ ?_
    show Steps p.tables e below (T21.setTop (mkF m 157 #[iv p0, iv p1, iv p2, iv p3, iv p4, iv p5, iv p6, iv p7, iv p8, rv b1, rv b8, rv b11, iv 1, .unset] [])) _
    refine st22 _ ?_
    show Steps p.tables e below (T22.setTop (mkF m 207 #[iv p0, iv p1, iv p2, iv p3, iv p4, iv p5, iv p6, iv p7, iv p8, rv b1, rv b8, rv b11, iv 1, iv 1] [])) _
    refine st27 _ ?_
    refine oi X27 hx hby at_369 rfl rfl ?_
    exact retN X27 hx (t := .boolean) Bd.returns (by simp) (hb hby at_371) hr
  · exact ⟨rfl, N27⟩
theorem rm0 (l : Launch) (Z : State) (a0 : Array Value) (hw : HW a0 Z) (ws : List Jvm.Cond) (p0 p1 p2 p3 p4 : Int32) (h0 : Heap) (n0 : Nat) (OO : Old Z n0 h0) :
    MetFree l x (head1 (Jvm.Cond.code x code maxLocals ret :: ws) room_1) (fun a U => a = #[(.int p0), (.int p1), (.int p2), (.int p3), (.int p4)] ∧ Z.Warmed39 U.vm ∧ U.heap = h0) (fun _ _ _ _ _ => True) (fun _ U o U' => ∃ v L, o = .returned v ∧ (v = some (.int (1 : Int32)) ∧ Fr n0 L) ∧ FrameEnd U o U' L room_1.cells room_1.slots) := by
  obtain ⟨p5, hc5⟩ : ∃ z, ((p0 &&& (255 : Int32)) % (3 : Int32)) = z := ⟨_, rfl⟩
  have i5 : own_in3 p5 := hc5 ▸ own_rem3 _
  obtain ⟨p6, hc6⟩ : ∃ z, ((((p0.toUInt32 >>> ((8 : Int32) &&& 31).toUInt32).toInt32) &&& (255 : Int32)) % (3 : Int32)) = z := ⟨_, rfl⟩
  have i6 : own_in3 p6 := hc6 ▸ own_rem3 _
  obtain ⟨p7, hc7⟩ : ∃ z, ((((p0.toUInt32 >>> ((16 : Int32) &&& 31).toUInt32).toInt32) &&& (255 : Int32)) % (3 : Int32)) = z := ⟨_, rfl⟩
  have i7 : own_in3 p7 := hc7 ▸ own_rem3 _
  obtain ⟨p8, hc8⟩ : ∃ z, ((((p0.toUInt32 >>> ((24 : Int32) &&& 31).toUInt32).toInt32) &&& (255 : Int32)) % (3 : Int32)) = z := ⟨_, rfl⟩
  have i8 : own_in3 p8 := hc8 ▸ own_rem3 _
  by_cases hd0 : (own_pi p6 (own_ui p5 0 1 0) (own_ui p5 1 1 0) (own_ui p5 2 1 0)) = (0 : Int32)
  · by_cases hd1 : (own_pi p7 (own_ui p6 0 1 (own_ui p5 0 1 0)) (own_ui p6 1 1 (own_ui p5 1 1 0)) (own_ui p6 2 1 (own_ui p5 2 1 0))) = (0 : Int32)
    · exact rm0_0 l Z a0 hw ws p0 p1 p2 p3 p4 p5 p6 p7 p8 h0 n0 OO hc5 hc6 hc7 hc8 i5 i6 i7 hd0 hd1 i8
    · by_cases hd2 : p7 = p5
      · exact rm0_1 l Z a0 hw ws p0 p1 p2 p3 p4 p5 p6 p7 p8 h0 n0 OO hc5 hc6 hc7 hc8 i5 i6 i7 hd0 hd1 i8 hd2
      · exact rm0_2 l Z a0 hw ws p0 p1 p2 p3 p4 p5 p6 p7 p8 h0 n0 OO hc5 hc6 hc7 hc8 i5 i6 i7 hd0 hd1 i8 hd2
  · by_cases hd1 : (own_pi p7 (own_ui p5 0 1 0) (own_ui p5 1 1 0) (own_ui p5 2 1 0)) = (0 : Int32)
    · exact rm0_3 l Z a0 hw ws p0 p1 p2 p3 p4 p5 p6 p7 p8 h0 n0 OO hc5 hc6 hc7 hc8 i5 i6 i7 hd0 hd1 i8
    · exact rm0_4 l Z a0 hw ws p0 p1 p2 p3 p4 p5 p6 p7 p8 h0 n0 OO hc5 hc6 hc7 hc8 i5 i6 i7 hd0 hd1 i8
set_option maxRecDepth 65536 in
set_option maxHeartbeats 40000000 in
theorem comes_1 {Post : Tables → Env → Array Value → State → Outcome → State → Prop} (hpost : ∀ tb e args s v u, (limb_1_1.after args s (.returned v) u = true ∧ limb_1_2.after args s (.returned v) u = true ∧ True) → FrameEnd s (.returned v) u (Jvm.fieldLocs frame_1_writes args s ++ Jvm.arrayLocs frame_1_arrays args s ++ Jvm.staticLocs frame_1_statics s) 40 192 → Post tb e args s (.returned v) u) :
    ArmFor flags0 classFile x code maxLocals ret World_1 tables_1 room_1 Calls_1 rest_1 Pre_1 Post := by
  intro l hfl _ _ p e ha hc hk s m args below hf hA hF happ hP
  obtain ⟨hcalls, hrest, hpre⟩ := hP
  obtain ⟨-, -, -, hnamed, -, -, -, hat⟩ := (Spec.applies_iff hf).mp happ
  obtain ⟨hg, hn⟩ := and_e (Cond.before_iff.mp (show (Jvm.Cond.and given_1 narrow_1).before args s = true from hpre))
  obtain ⟨gc, gr0⟩ := and_e hg
  obtain ⟨gi0, gr1⟩ := and_e gr0
  obtain ⟨gi1, gr2⟩ := and_e gr1
  obtain ⟨gi2, gr3⟩ := and_e gr2
  obtain ⟨gi3, gr4⟩ := and_e gr3
  obtain ⟨w0, w1, w2, w3, w4, rfl⟩ : ∃ w0 w1 w2 w3 w4 : Value, args = #[w0, w1, w2, w3, w4] := by
    have hs : args.size = 5 := by simpa [Cond.value, given_1] using gc
    obtain ⟨L⟩ := args
    match L, hs with
    | [w0, w1, w2, w3, w4], _ => exact ⟨w0, w1, w2, w3, w4, rfl⟩
  have hw := fun d (hd : d ∈ tables_1) => atoms_spec (ws := Jvm.Cond.code x code maxLocals ret :: tables_1) hat d (List.mem_cons_of_mem _ hd)
  obtain ⟨i0, ei0⟩ := is_v gi0
  obtain rfl : w0 = (.int i0) := Option.some.inj ei0
  obtain ⟨i1, ei1⟩ := is_v gi1
  obtain rfl : w1 = (.int i1) := Option.some.inj ei1
  obtain ⟨i2, ei2⟩ := is_v gi2
  obtain rfl : w2 = (.int i2) := Option.some.inj ei2
  obtain ⟨i3, ei3⟩ := is_v gi3
  obtain rfl : w3 = (.int i3) := Option.some.inj ei3
  obtain ⟨i4, ei4⟩ := is_v gr4
  obtain rfl : w4 = (.int i4) := Option.some.inj ei4
  obtain ⟨n, o, h1, h2, h3, _, L, rfl, ⟨rfl, N⟩, hq⟩ := rm0 l s _ hw tables_1 i0 i1 i2 i3 i4 s.heap s.heap.size (Old.start s) p e ha hc hk s m _ below hf ((Spec.applies_iff_loose hf).mp happ).1 ⟨rfl, State.Warmed39.refl s, rfl⟩ trivial
  refine ⟨n, _, h1, h2, h3, hpost _ _ _ _ _ _ ⟨Cond.after_iff.mpr rfl, Cond.after_iff.mpr (eq_i res_at (Term.int_eval (1)) rfl), trivial⟩ ⟨hq.1, hq.2.1, (hq.2.2.sift fun y hy => Or.inr (N y hy)).mono (by decide) (by decide)⟩⟩
theorem main_1_1 : Claimed_1_1 := comes_1 fun _ _ _ _ _ _ h hF => ⟨h.1, hF⟩
theorem main_1_2 : Claimed_1_2 := comes_1 fun _ _ _ _ _ _ h hF => ⟨h.2.1, hF⟩
end Jvm.Pilot.@@N@@
namespace Jvm.Pilot.@@N@@
open Jvm Jvm.ClassFile Sem Op Lib Jvm.Free Jvm.Stand Jvm.Pilot.@@N@@.Jvm.D
/-! MADE BY PROGRAM (witnessworld.py) out of the Statement's table words and the real class files: 16 classes; the members and pool entries that the words name. The judged class is class 1, her method 3. -/
namespace start1
open Jvm.ClassFile
def u (s : String) : CpInfo := .utf8 (stringToUtf16 s)
/-- a pool by its gaps: so many unusable entries, then the entry; so many at the end -/
def gap : Nat → List CpInfo → List CpInfo
  | 0, r => r
  | n + 1, r => .unusable :: gap n r
def poolList (es : List (Nat × CpInfo)) (last : Nat) : List CpInfo := es.foldr (fun e r => gap e.1 (e.2 :: r)) (gap last [])
def pool (es : List (Nat × CpInfo)) (last : Nat) : Array CpInfo := ⟨poolList es last⟩
def fileOf (pool : Array CpInfo) (this : Nat) (attrs : Array Attribute := #[]) (ms : Array MethodInfo := #[]) (fl : Nat := 33) (sup : Nat := 0) (ifs : Array Nat := #[]) (fds : Array FieldInfo := #[]) : ClassFile where
  minorVersion := 0
  majorVersion := 65
  constantPool := pool
  accessFlags := fl
  thisClass := this
  superClass := sup
  interfaces := ifs
  fields := fds
  methods := ms
  attributes := attrs
def plain (name : String) (sup : Option ClassId) : Class where
  name := name
  kind := .ordinary
  loader := none
  accessFlags := 33
  super := sup
  interfaces := #[]
  cf := none
  fields := #[]
  methods := #[]
  instanceTypes := #[]
  staticTypes := #[]
  resolved := #[]
  callSites := []
  init := .initialized
  statics := none
  mirror := none

def pool0 : Array CpInfo := pool [(5, u "<init>"), (0, u "()V"), (1, .class_ 10), (1, u "java/lang/Object"), (85, u "clone"), (0, u "()Ljava/lang/Object;")] 26

def k0c0 : Code := { maxStack := 0, maxLocals := 1, code := object_method_1_code, exceptionTable := #[], attributes := #[] }
def k0m0 : Method := { name := "<init>", desc := "()V", sig := { parameters := [], returnType := none }, accessFlags := 1, code := some k0c0 }
def k0m1 : Method := { name := "clone", desc := "()Ljava/lang/Object;", sig := { parameters := [], returnType := some (.object "java/lang/Object") }, accessFlags := 260, code := none }
/-- java/lang/Object -/
def k0 : Class := { plain "java/lang/Object" none with
  accessFlags := 33
  interfaces := #[]
  cf := some (fileOf pool0 8 #[] #[{ accessFlags := 1, nameIndex := 5, descriptorIndex := 6, attributes := #[] }, { accessFlags := 260, nameIndex := 96, descriptorIndex := 97, attributes := #[] }] 33 0 #[] #[])
  fields := #[]
  methods := #[k0m0, k0m1]
  instanceTypes := #[]
  staticTypes := #[]
  resolved := Array.replicate 124 none
  statics := none }

def pool1 : Array CpInfo := pool [(2, .class_ 4), (1, u "java/lang/Object"), (0, u "<init>"), (0, u "()V"), (0, .class_ 8), (0, u "com/example/rekurze/rekurze/numeric/SparseMatrix$Builder"), (0, .methodref 7 10), (0, .nameAndType 5 11), (0, u "(I)V"), (0, .methodref 7 13), (0, .nameAndType 14 15), (0, u "add"), (0, u "(ID)V"), (0, .methodref 7 17), (0, .nameAndType 18 6), (0, u "endRow"), (0, .methodref 7 20), (0, .nameAndType 21 22), (0, u "build"), (0, u "()Lcom/example/rekurze/rekurze/numeric/SparseMatrix;"), (0, .methodref 24 25), (0, .class_ 26), (0, .nameAndType 27 28), (0, u "com/example/rekurze/rekurze/numeric/SparseMatrix"), (0, u "dense"), (0, u "()[[D"), (0, .methodref 24 30), (0, .nameAndType 31 32), (0, u "rowStart"), (0, u "(I)I"), (0, .methodref 34 35), (0, .class_ 36), (0, .nameAndType 37 38), (0, u "com/example/rekurze/rekurze/numeric/BuilderAddPinLaw"), (0, u "part"), (0, u "(III)J"), (0, .methodref 34 40), (0, .nameAndType 41 42), (0, u "rowOk"), (0, u "([DJJJ)Z"), (3, u "law"), (0, u "(IIIII)Z")] 6

def k1m0 : Method := { name := "<init>", desc := "()V", sig := { parameters := [], returnType := none }, accessFlags := 2, code := none }
def k1c1 : Code := { maxStack := 2, maxLocals := 3, code := method_2_code, exceptionTable := #[], attributes := #[] }
def k1m1 : Method := { name := "part", desc := "(III)J", sig := { parameters := [.int, .int, .int], returnType := some .long }, accessFlags := 10, code := some k1c1 }
def k1c2 : Code := { maxStack := 4, maxLocals := 7, code := method_3_code, exceptionTable := #[], attributes := #[] }
def k1m2 : Method := { name := "rowOk", desc := "([DJJJ)Z", sig := { parameters := [(.array .double), .long, .long, .long], returnType := some .boolean }, accessFlags := 10, code := some k1c2 }
def k1c3 : Code := { maxStack := 10, maxLocals := 14, code := code, exceptionTable := #[], attributes := #[] }
def k1m3 : Method := { name := "law", desc := "(IIIII)Z", sig := { parameters := [.int, .int, .int, .int, .int], returnType := some .boolean }, accessFlags := 9, code := some k1c3 }
/-- com/example/rekurze/rekurze/numeric/BuilderAddPinLaw -/
def k1 : Class := { plain "com/example/rekurze/rekurze/numeric/BuilderAddPinLaw" (some 0) with
  accessFlags := 49
  interfaces := #[]
  cf := some (fileOf pool1 34 #[] #[{ accessFlags := 2, nameIndex := 5, descriptorIndex := 6, attributes := #[] }, { accessFlags := 10, nameIndex := 37, descriptorIndex := 38, attributes := #[] }, { accessFlags := 10, nameIndex := 41, descriptorIndex := 42, attributes := #[] }, { accessFlags := 9, nameIndex := 46, descriptorIndex := 47, attributes := #[] }] 49 2 #[] #[])
  fields := #[]
  methods := #[k1m0, k1m1, k1m2, k1m3]
  instanceTypes := #[]
  staticTypes := #[]
  resolved := Array.replicate 54 none
  statics := none }

def pool2 : Array CpInfo := pool [(1, .methodref 2 3), (0, .class_ 4), (0, .nameAndType 5 6), (0, u "java/lang/Object"), (0, u "<init>"), (0, u "()V"), (0, .fieldref 8 9), (0, .class_ 10), (0, .nameAndType 11 12), (0, u "com/example/rekurze/rekurze/numeric/SparseMatrix$Builder"), (0, u "size"), (0, u "I"), (0, .fieldref 8 14), (0, .nameAndType 15 16), (0, u "row"), (0, u "[D"), (0, .fieldref 8 18), (0, .nameAndType 19 20), (0, u "held"), (0, u "[Z"), (0, .fieldref 8 22), (0, .nameAndType 23 24), (0, u "heldColumns"), (0, u "[I"), (0, .fieldref 8 26), (0, .nameAndType 27 24), (0, u "rowStart"), (0, .fieldref 8 29), (0, .nameAndType 30 24), (0, u "column"), (0, .fieldref 8 32), (0, .nameAndType 33 16), (0, u "value"), (0, .fieldref 8 35), (0, .nameAndType 36 12), (0, u "heldCount"), (0, .fieldref 8 38), (0, .nameAndType 39 12), (0, u "entries"), (0, .methodref 41 42), (0, .class_ 43), (0, .nameAndType 44 45), (0, u "java/lang/Math"), (0, u "max"), (0, u "(II)I"), (0, .methodref 47 48), (0, .class_ 49), (0, .nameAndType 50 51), (0, u "java/util/Arrays"), (0, u "copyOf"), (0, u "([II)[I"), (0, .methodref 47 53), (0, .nameAndType 50 54), (0, u "([DI)[D"), (0, .methodref 47 56), (0, .nameAndType 57 58), (0, u "sort"), (0, u "([III)V"), (0, .fieldref 8 60), (0, .nameAndType 61 12), (0, u "rows"), (9, .class_ 72), (0, u "com/example/rekurze/rekurze/numeric/SparseMatrix"), (0, .methodref 71 74), (0, .nameAndType 5 75), (0, u "([I[I[D)V"), (0, u "(I)V"), (2, u "add"), (0, u "(ID)V"), (1, u "endRow"), (0, u "build"), (0, u "()Lcom/example/rekurze/rekurze/numeric/SparseMatrix;")] 19

def k2c0 : Code := { maxStack := 3, maxLocals := 2, code := prog_58_method_1_code, exceptionTable := #[], attributes := #[] }
def k2m0 : Method := { name := "<init>", desc := "(I)V", sig := { parameters := [.int], returnType := none }, accessFlags := 0, code := some k2c0 }
def k2c1 : Code := { maxStack := 6, maxLocals := 4, code := prog_58_method_2_code, exceptionTable := #[], attributes := #[] }
def k2m1 : Method := { name := "add", desc := "(ID)V", sig := { parameters := [.int, .double], returnType := none }, accessFlags := 0, code := some k2c1 }
def k2c2 : Code := { maxStack := 4, maxLocals := 3, code := prog_58_method_3_code, exceptionTable := #[], attributes := #[] }
def k2m2 : Method := { name := "endRow", desc := "()V", sig := { parameters := [], returnType := none }, accessFlags := 0, code := some k2c2 }
def k2c3 : Code := { maxStack := 6, maxLocals := 1, code := prog_58_method_4_code, exceptionTable := #[], attributes := #[] }
def k2m3 : Method := { name := "build", desc := "()Lcom/example/rekurze/rekurze/numeric/SparseMatrix;", sig := { parameters := [], returnType := some (.object "com/example/rekurze/rekurze/numeric/SparseMatrix") }, accessFlags := 0, code := some k2c3 }
/-- com/example/rekurze/rekurze/numeric/SparseMatrix$Builder -/
def k2 : Class := { plain "com/example/rekurze/rekurze/numeric/SparseMatrix$Builder" (some 0) with
  accessFlags := 48
  interfaces := #[]
  cf := some (fileOf pool2 8 #[.nestHost 71] #[{ accessFlags := 0, nameIndex := 5, descriptorIndex := 76, attributes := #[] }, { accessFlags := 0, nameIndex := 79, descriptorIndex := 80, attributes := #[] }, { accessFlags := 0, nameIndex := 82, descriptorIndex := 6, attributes := #[] }, { accessFlags := 0, nameIndex := 83, descriptorIndex := 84, attributes := #[] }] 48 2 #[] #[{ accessFlags := 18, nameIndex := 11, descriptorIndex := 12, attributes := #[] }, { accessFlags := 18, nameIndex := 15, descriptorIndex := 16, attributes := #[] }, { accessFlags := 18, nameIndex := 19, descriptorIndex := 20, attributes := #[] }, { accessFlags := 18, nameIndex := 23, descriptorIndex := 24, attributes := #[] }, { accessFlags := 2, nameIndex := 36, descriptorIndex := 12, attributes := #[] }, { accessFlags := 18, nameIndex := 27, descriptorIndex := 24, attributes := #[] }, { accessFlags := 2, nameIndex := 30, descriptorIndex := 24, attributes := #[] }, { accessFlags := 2, nameIndex := 33, descriptorIndex := 16, attributes := #[] }, { accessFlags := 2, nameIndex := 61, descriptorIndex := 12, attributes := #[] }, { accessFlags := 2, nameIndex := 39, descriptorIndex := 12, attributes := #[] }])
  fields := #[{ name := "size", type := .int, accessFlags := 18, slot := 0, constantValue := 0 }, { name := "row", type := (.array .double), accessFlags := 18, slot := 1, constantValue := 0 }, { name := "held", type := (.array .boolean), accessFlags := 18, slot := 2, constantValue := 0 }, { name := "heldColumns", type := (.array .int), accessFlags := 18, slot := 3, constantValue := 0 }, { name := "heldCount", type := .int, accessFlags := 2, slot := 4, constantValue := 0 }, { name := "rowStart", type := (.array .int), accessFlags := 18, slot := 5, constantValue := 0 }, { name := "column", type := (.array .int), accessFlags := 2, slot := 6, constantValue := 0 }, { name := "value", type := (.array .double), accessFlags := 2, slot := 7, constantValue := 0 }, { name := "rows", type := .int, accessFlags := 2, slot := 8, constantValue := 0 }, { name := "entries", type := .int, accessFlags := 2, slot := 9, constantValue := 0 }]
  methods := #[k2m0, k2m1, k2m2, k2m3]
  instanceTypes := #[.int, (.array .double), (.array .boolean), (.array .int), .int, (.array .int), (.array .int), (.array .double), .int, .int]
  staticTypes := #[]
  resolved := Array.replicate 104 none
  statics := none }

def pool3 : Array CpInfo := pool [(2, .class_ 4), (1, u "java/lang/Object"), (0, u "<init>"), (0, u "()V"), (0, .methodref 8 9), (0, .class_ 10), (0, .nameAndType 11 12), (0, u "java/util/DualPivotQuicksort"), (0, u "sort"), (0, u "([IIII)V"), (0, .methodref 14 15), (0, .class_ 16), (0, .nameAndType 17 18), (0, u "java/util/Arrays"), (0, u "rangeCheck"), (0, u "(III)V"), (55, .class_ 76), (1, u "java/util/Arrays$NaturalOrder"), (32, u "()Ljava/lang/Object;"), (3, .class_ 115), (1, u "java/util/Arrays$LegacyMergeSort"), (1, u "Z"), (10, .nameAndType 129 109), (0, u "clone"), (20, .methodref 151 152), (0, .class_ 153), (0, .nameAndType 154 155), (0, u "java/lang/System"), (0, u "arraycopy"), (0, u "(Ljava/lang/Object;ILjava/lang/Object;II)V"), (146, u "copyOf"), (1, .methodref 305 306), (0, .class_ 307), (0, .nameAndType 308 309), (0, u "java/lang/Math"), (0, u "min"), (0, u "(II)I"), (6, .methodref 317 128), (0, .class_ 318), (0, u "[I"), (9, .methodref 329 128), (0, .class_ 330), (0, u "[D"), (44, .class_ 376), (0, u "java/util/Arrays$ArrayList"), (68, u "$assertionsDisabled"), (269, u "MIN_ARRAY_SORT_GRAN"), (0, u "I"), (2, u "INSERTIONSORT_THRESHOLD"), (8, u "([III)V"), (142, u "([II)[I"), (3, u "([DI)[D"), (99, .class_ 976), (0, u "java/util/Arrays$ArrayItr")] 52

def k3m0 : Method := { name := "<init>", desc := "()V", sig := { parameters := [], returnType := none }, accessFlags := 2, code := none }
def k3c1 : Code := { maxStack := 4, maxLocals := 3, code := jdk_65_method_3_code, exceptionTable := #[], attributes := #[] }
def k3m1 : Method := { name := "sort", desc := "([III)V", sig := { parameters := [(.array .int), .int, .int], returnType := none }, accessFlags := 9, code := some k3c1 }
def k3c2 : Code := { maxStack := 4, maxLocals := 3, code := jdk_65_method_30_code, exceptionTable := #[], attributes := #[] }
def k3m2 : Method := { name := "rangeCheck", desc := "(III)V", sig := { parameters := [.int, .int, .int], returnType := none }, accessFlags := 8, code := some k3c2 }
def k3c3 : Code := { maxStack := 6, maxLocals := 3, code := jdk_65_method_123_code, exceptionTable := #[], attributes := #[] }
def k3m3 : Method := { name := "copyOf", desc := "([II)[I", sig := { parameters := [(.array .int), .int], returnType := some (.array .int) }, accessFlags := 9, code := some k3c3 }
def k3c4 : Code := { maxStack := 6, maxLocals := 3, code := jdk_65_method_127_code, exceptionTable := #[], attributes := #[] }
def k3m4 : Method := { name := "copyOf", desc := "([DI)[D", sig := { parameters := [(.array .double), .int], returnType := some (.array .double) }, accessFlags := 9, code := some k3c4 }
/-- java/util/Arrays -/
def k3 : Class := { plain "java/util/Arrays" (some 0) with
  accessFlags := 49
  interfaces := #[]
  cf := some (fileOf pool3 14 #[.nestMembers #[975, 375, 113, 74]] #[{ accessFlags := 2, nameIndex := 5, descriptorIndex := 6, attributes := #[] }, { accessFlags := 9, nameIndex := 11, descriptorIndex := 728, attributes := #[] }, { accessFlags := 8, nameIndex := 17, descriptorIndex := 18, attributes := #[] }, { accessFlags := 9, nameIndex := 302, descriptorIndex := 871, attributes := #[] }, { accessFlags := 9, nameIndex := 302, descriptorIndex := 875, attributes := #[] }] 49 2 #[] #[{ accessFlags := 26, nameIndex := 715, descriptorIndex := 716, attributes := #[] }, { accessFlags := 26, nameIndex := 719, descriptorIndex := 716, attributes := #[] }, { accessFlags := 4120, nameIndex := 445, descriptorIndex := 117, attributes := #[] }])
  fields := #[{ name := "MIN_ARRAY_SORT_GRAN", type := .int, accessFlags := 26, slot := 0, constantValue := 0 }, { name := "INSERTIONSORT_THRESHOLD", type := .int, accessFlags := 26, slot := 1, constantValue := 0 }, { name := "$assertionsDisabled", type := .boolean, accessFlags := 4120, slot := 2, constantValue := 0 }]
  methods := #[k3m0, k3m1, k3m2, k3m3, k3m4]
  instanceTypes := #[]
  staticTypes := #[.int, .int, .boolean]
  resolved := Array.replicate 1029 none
  statics := none }

def pool4 : Array CpInfo := pool [(1, .class_ 2), (0, u "java/util/DualPivotQuicksort"), (5, .class_ 10), (1, u "java/lang/Object"), (0, u "<init>"), (0, u "()V"), (4, .class_ 18), (0, u "java/util/DualPivotQuicksort$Sorter"), (7, .methodref 1 27), (0, .nameAndType 28 29), (0, u "sort"), (0, u "(Ljava/util/DualPivotQuicksort$Sorter;[IIII)V"), (3, u "([IIII)V"), (0, .methodref 1 35), (0, .nameAndType 36 37), (0, u "insertionSort"), (0, u "([III)V"), (30, u "I"), (4, .class_ 74), (0, u "java/util/DualPivotQuicksort$RunMerger"), (10, .class_ 86), (0, u "java/util/DualPivotQuicksort$Merger"), (127, u "MAX_MIXED_INSERTION_SORT_SIZE"), (2, u "MAX_INSERTION_SORT_SIZE"), (1, u "MIN_PARALLEL_SORT_SIZE"), (1, u "MIN_TRY_MERGE_SIZE"), (0, u "MIN_FIRST_RUN_SIZE"), (1, u "MIN_FIRST_RUNS_FACTOR"), (1, u "MAX_RUN_CAPACITY"), (1, u "MIN_RUN_COUNT"), (1, u "MIN_PARALLEL_MERGE_PARTS_SIZE"), (0, u "MIN_BYTE_COUNTING_SORT_SIZE"), (1, u "MIN_SHORT_OR_CHAR_COUNTING_SORT_SIZE"), (1, u "DELTA"), (1, u "MAX_RECURSION_DEPTH"), (1, u "NUM_BYTE_VALUES"), (1, u "MAX_BYTE_INDEX"), (0, u "NUM_CHAR_VALUES"), (0, u "NUM_SHORT_VALUES"), (0, u "MAX_SHORT_INDEX")] 86

def k4m0 : Method := { name := "<init>", desc := "()V", sig := { parameters := [], returnType := none }, accessFlags := 2, code := none }
def k4c1 : Code := { maxStack := 9, maxLocals := 7, code := jdk_2529_method_3_code, exceptionTable := #[], attributes := #[] }
def k4m1 : Method := { name := "sort", desc := "([IIII)V", sig := { parameters := [(.array .int), .int, .int, .int], returnType := none }, accessFlags := 8, code := some k4c1 }
def k4c2 : Code := { maxStack := 6, maxLocals := 21, code := jdk_2529_method_4_code, exceptionTable := #[], attributes := #[] }
def k4m2 : Method := { name := "sort", desc := "(Ljava/util/DualPivotQuicksort$Sorter;[IIII)V", sig := { parameters := [(.object "java/util/DualPivotQuicksort$Sorter"), (.array .int), .int, .int, .int], returnType := none }, accessFlags := 8, code := some k4c2 }
def k4c3 : Code := { maxStack := 4, maxLocals := 6, code := jdk_2529_method_6_code, exceptionTable := #[], attributes := #[] }
def k4m3 : Method := { name := "insertionSort", desc := "([III)V", sig := { parameters := [(.array .int), .int, .int], returnType := none }, accessFlags := 10, code := some k4c3 }
/-- java/util/DualPivotQuicksort -/
def k4 : Class := { plain "java/util/DualPivotQuicksort" (some 0) with
  accessFlags := 48
  interfaces := #[]
  cf := some (fileOf pool4 1 #[.nestMembers #[73, 85, 17]] #[{ accessFlags := 2, nameIndex := 11, descriptorIndex := 12, attributes := #[] }, { accessFlags := 8, nameIndex := 28, descriptorIndex := 33, attributes := #[] }, { accessFlags := 8, nameIndex := 28, descriptorIndex := 29, attributes := #[] }, { accessFlags := 10, nameIndex := 36, descriptorIndex := 37, attributes := #[] }] 48 8 #[] #[{ accessFlags := 26, nameIndex := 214, descriptorIndex := 68, attributes := #[] }, { accessFlags := 26, nameIndex := 217, descriptorIndex := 68, attributes := #[] }, { accessFlags := 26, nameIndex := 219, descriptorIndex := 68, attributes := #[] }, { accessFlags := 26, nameIndex := 221, descriptorIndex := 68, attributes := #[] }, { accessFlags := 26, nameIndex := 222, descriptorIndex := 68, attributes := #[] }, { accessFlags := 26, nameIndex := 224, descriptorIndex := 68, attributes := #[] }, { accessFlags := 26, nameIndex := 226, descriptorIndex := 68, attributes := #[] }, { accessFlags := 26, nameIndex := 228, descriptorIndex := 68, attributes := #[] }, { accessFlags := 26, nameIndex := 230, descriptorIndex := 68, attributes := #[] }, { accessFlags := 26, nameIndex := 231, descriptorIndex := 68, attributes := #[] }, { accessFlags := 26, nameIndex := 233, descriptorIndex := 68, attributes := #[] }, { accessFlags := 26, nameIndex := 235, descriptorIndex := 68, attributes := #[] }, { accessFlags := 26, nameIndex := 237, descriptorIndex := 68, attributes := #[] }, { accessFlags := 26, nameIndex := 239, descriptorIndex := 68, attributes := #[] }, { accessFlags := 26, nameIndex := 241, descriptorIndex := 68, attributes := #[] }, { accessFlags := 26, nameIndex := 242, descriptorIndex := 68, attributes := #[] }, { accessFlags := 26, nameIndex := 243, descriptorIndex := 68, attributes := #[] }, { accessFlags := 26, nameIndex := 244, descriptorIndex := 68, attributes := #[] }])
  fields := #[{ name := "MAX_MIXED_INSERTION_SORT_SIZE", type := .int, accessFlags := 26, slot := 0, constantValue := 0 }, { name := "MAX_INSERTION_SORT_SIZE", type := .int, accessFlags := 26, slot := 1, constantValue := 0 }, { name := "MIN_PARALLEL_SORT_SIZE", type := .int, accessFlags := 26, slot := 2, constantValue := 0 }, { name := "MIN_TRY_MERGE_SIZE", type := .int, accessFlags := 26, slot := 3, constantValue := 0 }, { name := "MIN_FIRST_RUN_SIZE", type := .int, accessFlags := 26, slot := 4, constantValue := 0 }, { name := "MIN_FIRST_RUNS_FACTOR", type := .int, accessFlags := 26, slot := 5, constantValue := 0 }, { name := "MAX_RUN_CAPACITY", type := .int, accessFlags := 26, slot := 6, constantValue := 0 }, { name := "MIN_RUN_COUNT", type := .int, accessFlags := 26, slot := 7, constantValue := 0 }, { name := "MIN_PARALLEL_MERGE_PARTS_SIZE", type := .int, accessFlags := 26, slot := 8, constantValue := 0 }, { name := "MIN_BYTE_COUNTING_SORT_SIZE", type := .int, accessFlags := 26, slot := 9, constantValue := 0 }, { name := "MIN_SHORT_OR_CHAR_COUNTING_SORT_SIZE", type := .int, accessFlags := 26, slot := 10, constantValue := 0 }, { name := "DELTA", type := .int, accessFlags := 26, slot := 11, constantValue := 0 }, { name := "MAX_RECURSION_DEPTH", type := .int, accessFlags := 26, slot := 12, constantValue := 0 }, { name := "NUM_BYTE_VALUES", type := .int, accessFlags := 26, slot := 13, constantValue := 0 }, { name := "MAX_BYTE_INDEX", type := .int, accessFlags := 26, slot := 14, constantValue := 0 }, { name := "NUM_CHAR_VALUES", type := .int, accessFlags := 26, slot := 15, constantValue := 0 }, { name := "NUM_SHORT_VALUES", type := .int, accessFlags := 26, slot := 16, constantValue := 0 }, { name := "MAX_SHORT_INDEX", type := .int, accessFlags := 26, slot := 17, constantValue := 0 }]
  methods := #[k4m0, k4m1, k4m2, k4m3]
  instanceTypes := #[]
  staticTypes := #[.int, .int, .int, .int, .int, .int, .int, .int, .int, .int, .int, .int, .int, .int, .int, .int, .int, .int]
  resolved := Array.replicate 331 none
  statics := none }

def pool5 : Array CpInfo := pool [(1, .methodref 2 3), (0, .class_ 4), (0, .nameAndType 5 6), (0, u "java/lang/Object"), (0, u "<init>"), (0, u "()V"), (0, .fieldref 8 9), (0, .class_ 10), (0, .nameAndType 11 12), (0, u "com/example/rekurze/rekurze/numeric/SparseMatrix"), (0, u "rowStart"), (0, u "[I"), (0, .fieldref 8 14), (0, .nameAndType 15 12), (0, u "column"), (0, .fieldref 8 17), (0, .nameAndType 18 19), (0, u "value"), (0, u "[D"), (0, .methodref 8 21), (0, .nameAndType 22 23), (0, u "size"), (0, u "()I"), (0, .class_ 25), (0, u "[[D"), (0, u "([I[I[D)V"), (2, u "(I)I"), (1, u "dense"), (0, u "()[[D"), (7, .class_ 41), (0, u "com/example/rekurze/rekurze/numeric/SparseMatrix$Builder")] 2

def k5c0 : Code := { maxStack := 2, maxLocals := 4, code := prog_57_method_1_code, exceptionTable := #[], attributes := #[] }
def k5m0 : Method := { name := "<init>", desc := "([I[I[D)V", sig := { parameters := [(.array .int), (.array .int), (.array .double)], returnType := none }, accessFlags := 2, code := some k5c0 }
def k5c1 : Code := { maxStack := 2, maxLocals := 1, code := prog_57_method_2_code, exceptionTable := #[], attributes := #[] }
def k5m1 : Method := { name := "size", desc := "()I", sig := { parameters := [], returnType := some .int }, accessFlags := 0, code := some k5c1 }
def k5c2 : Code := { maxStack := 2, maxLocals := 2, code := prog_57_method_3_code, exceptionTable := #[], attributes := #[] }
def k5m2 : Method := { name := "rowStart", desc := "(I)I", sig := { parameters := [.int], returnType := some .int }, accessFlags := 0, code := some k5c2 }
def k5c3 : Code := { maxStack := 4, maxLocals := 5, code := prog_57_method_6_code, exceptionTable := #[], attributes := #[] }
def k5m3 : Method := { name := "dense", desc := "()[[D", sig := { parameters := [], returnType := some (.array (.array .double)) }, accessFlags := 0, code := some k5c3 }
/-- com/example/rekurze/rekurze/numeric/SparseMatrix -/
def k5 : Class := { plain "com/example/rekurze/rekurze/numeric/SparseMatrix" (some 0) with
  accessFlags := 48
  interfaces := #[]
  cf := some (fileOf pool5 8 #[.nestMembers #[40]] #[{ accessFlags := 2, nameIndex := 5, descriptorIndex := 26, attributes := #[] }, { accessFlags := 0, nameIndex := 22, descriptorIndex := 23, attributes := #[] }, { accessFlags := 0, nameIndex := 11, descriptorIndex := 29, attributes := #[] }, { accessFlags := 0, nameIndex := 31, descriptorIndex := 32, attributes := #[] }] 48 2 #[] #[{ accessFlags := 18, nameIndex := 11, descriptorIndex := 12, attributes := #[] }, { accessFlags := 18, nameIndex := 15, descriptorIndex := 12, attributes := #[] }, { accessFlags := 18, nameIndex := 18, descriptorIndex := 19, attributes := #[] }])
  fields := #[{ name := "rowStart", type := (.array .int), accessFlags := 18, slot := 0, constantValue := 0 }, { name := "column", type := (.array .int), accessFlags := 18, slot := 1, constantValue := 0 }, { name := "value", type := (.array .double), accessFlags := 18, slot := 2, constantValue := 0 }]
  methods := #[k5m0, k5m1, k5m2, k5m3]
  instanceTypes := #[(.array .int), (.array .int), (.array .double)]
  staticTypes := #[]
  resolved := Array.replicate 44 none
  statics := none }

def pool6 : Array CpInfo := pool [(1, .class_ 2), (0, u "java/lang/Math"), (1, .class_ 6), (1, u "java/lang/Object"), (0, u "<init>"), (0, u "()V"), (89, .class_ 100), (1, u "java/lang/Math$RandomNumberGeneratorHolder"), (71, u "negativeZeroFloatBits"), (0, u "J"), (2, u "negativeZeroDoubleBits"), (21, u "max"), (2, u "min"), (43, u "$assertionsDisabled"), (0, u "Z"), (88, u "(II)I"), (2, u "twoToTheDoubleScaleDown"), (0, u "D"), (4, u "twoToTheDoubleScaleUp"), (9, u "E"), (3, u "PI"), (2, u "TAU"), (2, u "DEGREES_TO_RADIANS"), (0, u "RADIANS_TO_DEGREES")] 94

def k6m0 : Method := { name := "<init>", desc := "()V", sig := { parameters := [], returnType := none }, accessFlags := 2, code := none }
def k6c1 : Code := { maxStack := 2, maxLocals := 2, code := jdk_29_method_65_code, exceptionTable := #[], attributes := #[] }
def k6m1 : Method := { name := "max", desc := "(II)I", sig := { parameters := [.int, .int], returnType := some .int }, accessFlags := 9, code := some k6c1 }
def k6c2 : Code := { maxStack := 2, maxLocals := 2, code := jdk_29_method_69_code, exceptionTable := #[], attributes := #[] }
def k6m2 : Method := { name := "min", desc := "(II)I", sig := { parameters := [.int, .int], returnType := some .int }, accessFlags := 9, code := some k6c2 }
/-- java/lang/Math -/
def k6 : Class := { plain "java/lang/Math" (some 0) with
  accessFlags := 49
  interfaces := #[]
  cf := some (fileOf pool6 1 #[.nestMembers #[98]] #[{ accessFlags := 2, nameIndex := 7, descriptorIndex := 8, attributes := #[] }, { accessFlags := 9, nameIndex := 198, descriptorIndex := 335, attributes := #[] }, { accessFlags := 9, nameIndex := 201, descriptorIndex := 335, attributes := #[] }] 49 4 #[] #[{ accessFlags := 25, nameIndex := 354, descriptorIndex := 339, attributes := #[] }, { accessFlags := 25, nameIndex := 358, descriptorIndex := 339, attributes := #[] }, { accessFlags := 25, nameIndex := 361, descriptorIndex := 339, attributes := #[] }, { accessFlags := 26, nameIndex := 364, descriptorIndex := 339, attributes := #[] }, { accessFlags := 26, nameIndex := 365, descriptorIndex := 339, attributes := #[] }, { accessFlags := 26, nameIndex := 172, descriptorIndex := 173, attributes := #[] }, { accessFlags := 26, nameIndex := 176, descriptorIndex := 173, attributes := #[] }, { accessFlags := 8, nameIndex := 344, descriptorIndex := 339, attributes := #[] }, { accessFlags := 8, nameIndex := 338, descriptorIndex := 339, attributes := #[] }, { accessFlags := 4120, nameIndex := 245, descriptorIndex := 246, attributes := #[] }])
  fields := #[{ name := "E", type := .double, accessFlags := 25, slot := 0, constantValue := 0 }, { name := "PI", type := .double, accessFlags := 25, slot := 1, constantValue := 0 }, { name := "TAU", type := .double, accessFlags := 25, slot := 2, constantValue := 0 }, { name := "DEGREES_TO_RADIANS", type := .double, accessFlags := 26, slot := 3, constantValue := 0 }, { name := "RADIANS_TO_DEGREES", type := .double, accessFlags := 26, slot := 4, constantValue := 0 }, { name := "negativeZeroFloatBits", type := .long, accessFlags := 26, slot := 5, constantValue := 0 }, { name := "negativeZeroDoubleBits", type := .long, accessFlags := 26, slot := 6, constantValue := 0 }, { name := "twoToTheDoubleScaleUp", type := .double, accessFlags := 8, slot := 7, constantValue := 0 }, { name := "twoToTheDoubleScaleDown", type := .double, accessFlags := 8, slot := 8, constantValue := 0 }, { name := "$assertionsDisabled", type := .boolean, accessFlags := 4120, slot := 9, constantValue := 0 }]
  methods := #[k6m0, k6m1, k6m2]
  instanceTypes := #[]
  staticTypes := #[.double, .double, .double, .double, .double, .long, .long, .double, .double, .boolean]
  resolved := Array.replicate 460 none
  statics := none }

def pool7 : Array CpInfo := pool [(2, .class_ 4), (1, u "java/lang/Object"), (0, u "<init>"), (0, u "()V"), (1, .class_ 10), (1, u "java/lang/System"), (0, u "allowSecurityManager"), (0, u "I"), (16, u "cons"), (0, u "Ljava/io/Console;"), (77, .class_ 110), (1, u "java/lang/System$CallersHolder"), (43, u "initialErrStream"), (0, u "Ljava/io/PrintStream;"), (19, u "security"), (0, u "Ljava/lang/SecurityManager;"), (31, .class_ 209), (0, u "java/lang/System$1"), (7, u "props"), (0, u "Ljava/util/Properties;"), (2, u "lineSeparator"), (0, u "Ljava/lang/String;"), (96, .class_ 321), (1, u "java/lang/System$LoggerFinder"), (5, .class_ 328), (0, u "java/lang/System$Logger"), (67, u "err"), (2, u "out"), (91, u "notSupportedJnuEncoding"), (15, u "in"), (17, u "initialIn"), (0, u "Ljava/io/InputStream;"), (35, u "bootLayer"), (0, u "Ljava/lang/ModuleLayer;"), (99, .class_ 664), (0, u "java/lang/System$2"), (9, u "NEVER"), (2, u "MAYBE"), (49, u "arraycopy"), (0, u "(Ljava/lang/Object;ILjava/lang/Object;II)V"), (72, .class_ 802), (0, u "java/lang/System$Logger$Level")] 31

def k7m0 : Method := { name := "<init>", desc := "()V", sig := { parameters := [], returnType := none }, accessFlags := 2, code := none }
def k7m1 : Method := { name := "arraycopy", desc := "(Ljava/lang/Object;ILjava/lang/Object;II)V", sig := { parameters := [(.object "java/lang/Object"), .int, (.object "java/lang/Object"), .int, .int], returnType := none }, accessFlags := 265, code := none }
/-- java/lang/System -/
def k7 : Class := { plain "java/lang/System" (some 0) with
  accessFlags := 49
  interfaces := #[]
  cf := some (fileOf pool7 8 #[.nestMembers #[319, 327, 801, 108, 663, 208]] #[{ accessFlags := 2, nameIndex := 5, descriptorIndex := 6, attributes := #[] }, { accessFlags := 265, nameIndex := 727, descriptorIndex := 728, attributes := #[] }] 49 2 #[] #[{ accessFlags := 25, nameIndex := 507, descriptorIndex := 526, attributes := #[] }, { accessFlags := 25, nameIndex := 399, descriptorIndex := 155, attributes := #[] }, { accessFlags := 25, nameIndex := 396, descriptorIndex := 155, attributes := #[] }, { accessFlags := 10, nameIndex := 525, descriptorIndex := 526, attributes := #[] }, { accessFlags := 26, nameIndex := 674, descriptorIndex := 12, attributes := #[] }, { accessFlags := 26, nameIndex := 677, descriptorIndex := 12, attributes := #[] }, { accessFlags := 10, nameIndex := 11, descriptorIndex := 12, attributes := #[] }, { accessFlags := 74, nameIndex := 175, descriptorIndex := 176, attributes := #[] }, { accessFlags := 10, nameIndex := 491, descriptorIndex := 222, attributes := #[] }, { accessFlags := 74, nameIndex := 29, descriptorIndex := 30, attributes := #[] }, { accessFlags := 74, nameIndex := 154, descriptorIndex := 155, attributes := #[] }, { accessFlags := 10, nameIndex := 217, descriptorIndex := 218, attributes := #[] }, { accessFlags := 10, nameIndex := 221, descriptorIndex := 222, attributes := #[] }, { accessFlags := 8, nameIndex := 562, descriptorIndex := 563, attributes := #[] }])
  fields := #[{ name := "in", type := (.object "java/io/InputStream"), accessFlags := 25, slot := 0, constantValue := 0 }, { name := "out", type := (.object "java/io/PrintStream"), accessFlags := 25, slot := 1, constantValue := 0 }, { name := "err", type := (.object "java/io/PrintStream"), accessFlags := 25, slot := 2, constantValue := 0 }, { name := "initialIn", type := (.object "java/io/InputStream"), accessFlags := 10, slot := 3, constantValue := 0 }, { name := "NEVER", type := .int, accessFlags := 26, slot := 4, constantValue := 0 }, { name := "MAYBE", type := .int, accessFlags := 26, slot := 5, constantValue := 0 }, { name := "allowSecurityManager", type := .int, accessFlags := 10, slot := 6, constantValue := 0 }, { name := "security", type := (.object "java/lang/SecurityManager"), accessFlags := 74, slot := 7, constantValue := 0 }, { name := "notSupportedJnuEncoding", type := (.object "java/lang/String"), accessFlags := 10, slot := 8, constantValue := 0 }, { name := "cons", type := (.object "java/io/Console"), accessFlags := 74, slot := 9, constantValue := 0 }, { name := "initialErrStream", type := (.object "java/io/PrintStream"), accessFlags := 74, slot := 10, constantValue := 0 }, { name := "props", type := (.object "java/util/Properties"), accessFlags := 10, slot := 11, constantValue := 0 }, { name := "lineSeparator", type := (.object "java/lang/String"), accessFlags := 10, slot := 12, constantValue := 0 }, { name := "bootLayer", type := (.object "java/lang/ModuleLayer"), accessFlags := 8, slot := 13, constantValue := 0 }]
  methods := #[k7m0, k7m1]
  instanceTypes := #[]
  staticTypes := #[(.object "java/io/InputStream"), (.object "java/io/PrintStream"), (.object "java/io/PrintStream"), (.object "java/io/InputStream"), .int, .int, .int, (.object "java/lang/SecurityManager"), (.object "java/lang/String"), (.object "java/io/Console"), (.object "java/io/PrintStream"), (.object "java/util/Properties"), (.object "java/lang/String"), (.object "java/lang/ModuleLayer")]
  resolved := Array.replicate 834 none
  statics := none }

def pool8 : Array CpInfo := pool [(1, .class_ 2), (0, u "java/lang/Cloneable"), (0, .class_ 4), (0, u "java/lang/Object")] 2

/-- java/lang/Cloneable -/
def k8 : Class := { plain "java/lang/Cloneable" (some 0) with
  accessFlags := 1537
  interfaces := #[]
  cf := some (fileOf pool8 1 #[] #[] 1537 3 #[] #[])
  fields := #[]
  methods := #[]
  instanceTypes := #[]
  staticTypes := #[]
  resolved := Array.replicate 7 none
  statics := none }

def pool9 : Array CpInfo := pool [(1, u "java/io/Serializable"), (0, .class_ 1), (0, u "java/lang/Object"), (0, .class_ 3)] 3

/-- java/io/Serializable -/
def k9 : Class := { plain "java/io/Serializable" (some 0) with
  accessFlags := 1537
  interfaces := #[]
  cf := some (fileOf pool9 2 #[] #[] 1537 4 #[] #[])
  fields := #[]
  methods := #[]
  instanceTypes := #[]
  staticTypes := #[]
  resolved := Array.replicate 8 none
  statics := none }

/-- the primitive boolean -/
def k10 : Class := { plain "boolean" none with kind := .primitive 'Z', accessFlags := 0x411 }
/-- [Z -/
def k11 : Class := { plain "[Z" (some 0) with kind := .array 10 .boolean, interfaces := #[8, 9], accessFlags := 1041 }

/-- the primitive byte -/
def k12 : Class := { plain "byte" none with kind := .primitive 'B', accessFlags := 0x411 }
/-- [B -/
def k13 : Class := { plain "[B" (some 0) with kind := .array 12 .byte, interfaces := #[8, 9], accessFlags := 1041 }

/-- the primitive int -/
def k14 : Class := { plain "int" none with kind := .primitive 'I', accessFlags := 0x411 }
/-- [I -/
def k15 : Class := { plain "[I" (some 0) with kind := .array 14 .int, interfaces := #[8, 9], accessFlags := 1041 }

/-- the primitive double, [D, [[D -/
def k16 : Class := { plain "double" none with kind := .primitive 'D', accessFlags := 0x411 }
def k17 : Class := { plain "[D" (some 0) with kind := .array 16 .double, interfaces := #[8, 9], accessFlags := 1041 }
def k18 : Class := { plain "[[D" (some 0) with kind := .array 17 (.array .double), interfaces := #[8, 9], accessFlags := 1041 }
def heap : Heap := #[]
def classes : Array Class := #[k0, k1, k2, k3, k4, k5, k6, k7, k8, k9, k10, k11, k12, k13, k14, k15, k16, k17, k18]
def interned : List (Array UInt16 × Addr) := []
def slotsUsed : Nat := 0
def theMethod : MethodId := ⟨1, 3⟩
def args0 : Array Value := #[.int 5, .int 5, .int 5, .int 5, .int 5]
def aboutOver (below : List Frame) : State where
  vm := { classes := classes, interned := interned.toArray }
  heap := heap
  slotsUsed := slotsUsed
  threads := #[{ frames := .invoking theMethod args0 :: below }]
def below0 : List Frame := [.native { method := ⟨0, 0⟩, args := #[] }]
def about1 : State := aboutOver below0
def p0 : Program := .bare "" "" ""
def e0 : Env := launch0.env 0 0 0
theorem w_frames : about1.frames = Frame.invoking theMethod args0 :: below0 := rfl
set_option maxRecDepth 65536 in
theorem w_args : argsFit about1.vm theMethod args0 = true := by decide +kernel
set_option maxRecDepth 65536 in
theorem w_heap : heapFits about1 = true := by decide +kernel
set_option maxRecDepth 65536 in
theorem w_runnable : about1.curStatus? = some .runnable := by decide +kernel
set_option maxRecDepth 65536 in
theorem w_alone : about1.alone = true := by decide +kernel
set_option maxRecDepth 65536 in
theorem w_named : about1.methodNamed? x = some theMethod := by decide +kernel
set_option maxRecDepth 65536 in
theorem w_hears : about1.hears theMethod below0 = true := by decide +kernel
set_option maxRecDepth 65536 in
theorem w_ripe : about1.ripe theMethod args0 below0 = true := by decide +kernel
theorem w_running : about1.status = .running := rfl
set_option maxRecDepth 65536 in
theorem w_room : about1.hasRoom e0.platform room_1 = true :=
  launch0.hasRoom_least _ room_1 (by decide +kernel) (by decide +kernel) (by decide +kernel) (by decide +kernel) (by decide +kernel) (by decide +kernel)
theorem allAtoms_all (ts : List Jvm.Cond) (a : Array Jvm.Value) (st : Jvm.State) : (allAtoms ts).before a st = ts.all (fun c => c.before a st) := by
  induction ts with
  | nil => rfl
  | cons c t ih =>
    show (Jvm.Cond.and c (allAtoms t)).before a st = _
    rw [Jvm.Cond.before_and, ih, List.all_cons]
def words1 : List Jvm.Cond := Jvm.Cond.code x code maxLocals ret :: tables_1
/-- a 'code' word, met by the world's own term for the bytes: nothing is compared byte by byte -/
theorem code_word {y : MethodName} {bytes : ByteArray} {mx : Nat} {rt : Option FieldType} {a : Array Value} {s : State} {m : MethodId} {meth : Method} {c : Code} (h1 : s.methodNamed? y = some m) (h2 : s.vm.method? m = some meth) (h3 : meth.code = some c) (h4 : c.code = bytes)
    (h5 : (c.maxLocals == mx && c.exceptionTable.isEmpty && decide (c.maxStack ≤ mostOperands) && decide (meth.sig.returnType = rt) && !meth.locks && decide (parseMethodDescriptor y.desc = some meth.sig)) = true) : (Jvm.Cond.code y bytes mx rt).before a s = true := by
  simp only [Bool.and_eq_true, beq_iff_eq, Bool.not_eq_true', decide_eq_true_eq] at h5
  obtain ⟨⟨⟨⟨⟨g1, g2⟩, g3⟩, g4⟩, g5⟩, g6⟩ := h5
  simp [Cond.before, Cond.holds, Cond.value, h1, h2, h3, h4, g1, g2, g3, g4, g5, g6]
def isCode : Jvm.Cond → Bool
  | .code _ _ _ _ => true
  | _ => false
theorem all_split {L : List Jvm.Cond} {P : Jvm.Cond → Bool} (h1 : L.all (fun c => isCode c || P c) = true) (h2 : ∀ c ∈ L.filter isCode, P c = true) : L.all P = true := by
  refine List.all_eq_true.mpr fun c hc => ?_
  have h := List.all_eq_true.mp h1 c hc
  rcases Bool.eq_false_or_eq_true (isCode c) with hi | hi
  · exact h2 c (List.mem_filter.mpr ⟨hc, hi⟩)
  · simpa [hi] using h
set_option maxRecDepth 65536 in
theorem w_c0 : (Jvm.Cond.code x code maxLocals ret).before args0 about1 = true := code_word (m := ⟨1, 3⟩) (meth := k1m3) (c := k1c3) (by decide +kernel) rfl rfl rfl (by decide +kernel)
set_option maxRecDepth 65536 in
theorem w_c1 : (Jvm.Cond.code ({ cls := "com/example/rekurze/rekurze/numeric/SparseMatrix$Builder", name := "<init>", desc := "(I)V" } : Jvm.MethodName) prog_58_method_1_code (2 : Nat) (Option.none : Option Jvm.ClassFile.FieldType)).before args0 about1 = true := code_word (m := ⟨2, 0⟩) (meth := k2m0) (c := k2c0) (by decide +kernel) rfl rfl rfl (by decide +kernel)
set_option maxRecDepth 65536 in
theorem w_c2 : (Jvm.Cond.code ({ cls := "java/lang/Object", name := "<init>", desc := "()V" } : Jvm.MethodName) object_method_1_code (1 : Nat) (Option.none : Option Jvm.ClassFile.FieldType)).before args0 about1 = true := code_word (m := ⟨0, 0⟩) (meth := k0m0) (c := k0c0) (by decide +kernel) rfl rfl rfl (by decide +kernel)
set_option maxRecDepth 65536 in
theorem w_c3 : (Jvm.Cond.code ({ cls := "com/example/rekurze/rekurze/numeric/SparseMatrix$Builder", name := "add", desc := "(ID)V" } : Jvm.MethodName) prog_58_method_2_code (4 : Nat) (Option.none : Option Jvm.ClassFile.FieldType)).before args0 about1 = true := code_word (m := ⟨2, 1⟩) (meth := k2m1) (c := k2c1) (by decide +kernel) rfl rfl rfl (by decide +kernel)
set_option maxRecDepth 65536 in
theorem w_c4 : (Jvm.Cond.code ({ cls := "com/example/rekurze/rekurze/numeric/SparseMatrix$Builder", name := "endRow", desc := "()V" } : Jvm.MethodName) prog_58_method_3_code (3 : Nat) (Option.none : Option Jvm.ClassFile.FieldType)).before args0 about1 = true := code_word (m := ⟨2, 2⟩) (meth := k2m2) (c := k2c2) (by decide +kernel) rfl rfl rfl (by decide +kernel)
set_option maxRecDepth 65536 in
theorem w_c5 : (Jvm.Cond.code ({ cls := "java/util/Arrays", name := "sort", desc := "([III)V" } : Jvm.MethodName) jdk_65_method_3_code (3 : Nat) (Option.none : Option Jvm.ClassFile.FieldType)).before args0 about1 = true := code_word (m := ⟨3, 1⟩) (meth := k3m1) (c := k3c1) (by decide +kernel) rfl rfl rfl (by decide +kernel)
set_option maxRecDepth 65536 in
theorem w_c6 : (Jvm.Cond.code ({ cls := "java/util/Arrays", name := "rangeCheck", desc := "(III)V" } : Jvm.MethodName) jdk_65_method_30_code (3 : Nat) (Option.none : Option Jvm.ClassFile.FieldType)).before args0 about1 = true := code_word (m := ⟨3, 2⟩) (meth := k3m2) (c := k3c2) (by decide +kernel) rfl rfl rfl (by decide +kernel)
set_option maxRecDepth 65536 in
theorem w_c7 : (Jvm.Cond.code ({ cls := "java/util/DualPivotQuicksort", name := "sort", desc := "([IIII)V" } : Jvm.MethodName) jdk_2529_method_3_code (7 : Nat) (Option.none : Option Jvm.ClassFile.FieldType)).before args0 about1 = true := code_word (m := ⟨4, 1⟩) (meth := k4m1) (c := k4c1) (by decide +kernel) rfl rfl rfl (by decide +kernel)
set_option maxRecDepth 65536 in
theorem w_c8 : (Jvm.Cond.code ({ cls := "java/util/DualPivotQuicksort", name := "sort", desc := "(Ljava/util/DualPivotQuicksort$Sorter;[IIII)V" } : Jvm.MethodName) jdk_2529_method_4_code (21 : Nat) (Option.none : Option Jvm.ClassFile.FieldType)).before args0 about1 = true := code_word (m := ⟨4, 2⟩) (meth := k4m2) (c := k4c2) (by decide +kernel) rfl rfl rfl (by decide +kernel)
set_option maxRecDepth 65536 in
theorem w_c9 : (Jvm.Cond.code ({ cls := "java/util/DualPivotQuicksort", name := "insertionSort", desc := "([III)V" } : Jvm.MethodName) jdk_2529_method_6_code (6 : Nat) (Option.none : Option Jvm.ClassFile.FieldType)).before args0 about1 = true := code_word (m := ⟨4, 3⟩) (meth := k4m3) (c := k4c3) (by decide +kernel) rfl rfl rfl (by decide +kernel)
set_option maxRecDepth 65536 in
theorem w_c10 : (Jvm.Cond.code ({ cls := "com/example/rekurze/rekurze/numeric/SparseMatrix$Builder", name := "build", desc := "()Lcom/example/rekurze/rekurze/numeric/SparseMatrix;" } : Jvm.MethodName) prog_58_method_4_code (1 : Nat) (Option.some (Jvm.ClassFile.FieldType.object "com/example/rekurze/rekurze/numeric/SparseMatrix"))).before args0 about1 = true := code_word (m := ⟨2, 3⟩) (meth := k2m3) (c := k2c3) (by decide +kernel) rfl rfl rfl (by decide +kernel)
set_option maxRecDepth 65536 in
theorem w_c11 : (Jvm.Cond.code ({ cls := "java/util/Arrays", name := "copyOf", desc := "([II)[I" } : Jvm.MethodName) jdk_65_method_123_code (3 : Nat) (Option.some (Jvm.ClassFile.FieldType.array Jvm.ClassFile.FieldType.int))).before args0 about1 = true := code_word (m := ⟨3, 3⟩) (meth := k3m3) (c := k3c3) (by decide +kernel) rfl rfl rfl (by decide +kernel)
set_option maxRecDepth 65536 in
theorem w_c12 : (Jvm.Cond.code ({ cls := "java/lang/Math", name := "min", desc := "(II)I" } : Jvm.MethodName) jdk_29_method_69_code (2 : Nat) (Option.some Jvm.ClassFile.FieldType.int)).before args0 about1 = true := code_word (m := ⟨6, 2⟩) (meth := k6m2) (c := k6c2) (by decide +kernel) rfl rfl rfl (by decide +kernel)
set_option maxRecDepth 65536 in
theorem w_c13 : (Jvm.Cond.code ({ cls := "java/util/Arrays", name := "copyOf", desc := "([DI)[D" } : Jvm.MethodName) jdk_65_method_127_code (3 : Nat) (Option.some (Jvm.ClassFile.FieldType.array Jvm.ClassFile.FieldType.double))).before args0 about1 = true := code_word (m := ⟨3, 4⟩) (meth := k3m4) (c := k3c4) (by decide +kernel) rfl rfl rfl (by decide +kernel)
set_option maxRecDepth 65536 in
theorem w_c14 : (Jvm.Cond.code ({ cls := "com/example/rekurze/rekurze/numeric/SparseMatrix", name := "<init>", desc := "([I[I[D)V" } : Jvm.MethodName) prog_57_method_1_code (4 : Nat) (Option.none : Option Jvm.ClassFile.FieldType)).before args0 about1 = true := code_word (m := ⟨5, 0⟩) (meth := k5m0) (c := k5c0) (by decide +kernel) rfl rfl rfl (by decide +kernel)
set_option maxRecDepth 65536 in
theorem w_c15 : (Jvm.Cond.code ({ cls := "com/example/rekurze/rekurze/numeric/SparseMatrix", name := "dense", desc := "()[[D" } : Jvm.MethodName) prog_57_method_6_code (5 : Nat) (Option.some (Jvm.ClassFile.FieldType.array (Jvm.ClassFile.FieldType.array Jvm.ClassFile.FieldType.double)))).before args0 about1 = true := code_word (m := ⟨5, 3⟩) (meth := k5m3) (c := k5c3) (by decide +kernel) rfl rfl rfl (by decide +kernel)
set_option maxRecDepth 65536 in
theorem w_c16 : (Jvm.Cond.code ({ cls := "com/example/rekurze/rekurze/numeric/SparseMatrix", name := "size", desc := "()I" } : Jvm.MethodName) prog_57_method_2_code (1 : Nat) (Option.some Jvm.ClassFile.FieldType.int)).before args0 about1 = true := code_word (m := ⟨5, 1⟩) (meth := k5m1) (c := k5c1) (by decide +kernel) rfl rfl rfl (by decide +kernel)
set_option maxRecDepth 65536 in
theorem w_c17 : (Jvm.Cond.code ({ cls := "com/example/rekurze/rekurze/numeric/SparseMatrix", name := "rowStart", desc := "(I)I" } : Jvm.MethodName) prog_57_method_3_code (2 : Nat) (Option.some Jvm.ClassFile.FieldType.int)).before args0 about1 = true := code_word (m := ⟨5, 2⟩) (meth := k5m2) (c := k5c2) (by decide +kernel) rfl rfl rfl (by decide +kernel)
set_option maxRecDepth 65536 in
theorem w_c18 : (Jvm.Cond.code ({ cls := "com/example/rekurze/rekurze/numeric/BuilderAddPinLaw", name := "part", desc := "(III)J" } : Jvm.MethodName) method_2_code (3 : Nat) (Option.some Jvm.ClassFile.FieldType.long)).before args0 about1 = true := code_word (m := ⟨1, 1⟩) (meth := k1m1) (c := k1c1) (by decide +kernel) rfl rfl rfl (by decide +kernel)
set_option maxRecDepth 65536 in
theorem w_c19 : (Jvm.Cond.code ({ cls := "com/example/rekurze/rekurze/numeric/BuilderAddPinLaw", name := "rowOk", desc := "([DJJJ)Z" } : Jvm.MethodName) method_3_code (7 : Nat) (Option.some Jvm.ClassFile.FieldType.boolean)).before args0 about1 = true := code_word (m := ⟨1, 2⟩) (meth := k1m2) (c := k1c2) (by decide +kernel) rfl rfl rfl (by decide +kernel)
set_option maxRecDepth 65536 in
theorem w_c20 : (Jvm.Cond.code ({ cls := "java/lang/Math", name := "max", desc := "(II)I" } : Jvm.MethodName) jdk_29_method_65_code (2 : Nat) (Option.some Jvm.ClassFile.FieldType.int)).before args0 about1 = true := code_word (m := ⟨6, 1⟩) (meth := k6m1) (c := k6c1) (by decide +kernel) rfl rfl rfl (by decide +kernel)
def codes1 : List Jvm.Cond := [Jvm.Cond.code x code maxLocals ret, Jvm.Cond.code ({ cls := "com/example/rekurze/rekurze/numeric/SparseMatrix$Builder", name := "<init>", desc := "(I)V" } : Jvm.MethodName) prog_58_method_1_code (2 : Nat) (Option.none : Option Jvm.ClassFile.FieldType), Jvm.Cond.code ({ cls := "java/lang/Object", name := "<init>", desc := "()V" } : Jvm.MethodName) object_method_1_code (1 : Nat) (Option.none : Option Jvm.ClassFile.FieldType), Jvm.Cond.code ({ cls := "com/example/rekurze/rekurze/numeric/SparseMatrix$Builder", name := "add", desc := "(ID)V" } : Jvm.MethodName) prog_58_method_2_code (4 : Nat) (Option.none : Option Jvm.ClassFile.FieldType), Jvm.Cond.code ({ cls := "com/example/rekurze/rekurze/numeric/SparseMatrix$Builder", name := "endRow", desc := "()V" } : Jvm.MethodName) prog_58_method_3_code (3 : Nat) (Option.none : Option Jvm.ClassFile.FieldType), Jvm.Cond.code ({ cls := "java/util/Arrays", name := "sort", desc := "([III)V" } : Jvm.MethodName) jdk_65_method_3_code (3 : Nat) (Option.none : Option Jvm.ClassFile.FieldType), Jvm.Cond.code ({ cls := "java/util/Arrays", name := "rangeCheck", desc := "(III)V" } : Jvm.MethodName) jdk_65_method_30_code (3 : Nat) (Option.none : Option Jvm.ClassFile.FieldType), Jvm.Cond.code ({ cls := "java/util/DualPivotQuicksort", name := "sort", desc := "([IIII)V" } : Jvm.MethodName) jdk_2529_method_3_code (7 : Nat) (Option.none : Option Jvm.ClassFile.FieldType), Jvm.Cond.code ({ cls := "java/util/DualPivotQuicksort", name := "sort", desc := "(Ljava/util/DualPivotQuicksort$Sorter;[IIII)V" } : Jvm.MethodName) jdk_2529_method_4_code (21 : Nat) (Option.none : Option Jvm.ClassFile.FieldType), Jvm.Cond.code ({ cls := "java/util/DualPivotQuicksort", name := "insertionSort", desc := "([III)V" } : Jvm.MethodName) jdk_2529_method_6_code (6 : Nat) (Option.none : Option Jvm.ClassFile.FieldType), Jvm.Cond.code ({ cls := "com/example/rekurze/rekurze/numeric/SparseMatrix$Builder", name := "build", desc := "()Lcom/example/rekurze/rekurze/numeric/SparseMatrix;" } : Jvm.MethodName) prog_58_method_4_code (1 : Nat) (Option.some (Jvm.ClassFile.FieldType.object "com/example/rekurze/rekurze/numeric/SparseMatrix")), Jvm.Cond.code ({ cls := "java/util/Arrays", name := "copyOf", desc := "([II)[I" } : Jvm.MethodName) jdk_65_method_123_code (3 : Nat) (Option.some (Jvm.ClassFile.FieldType.array Jvm.ClassFile.FieldType.int)), Jvm.Cond.code ({ cls := "java/lang/Math", name := "min", desc := "(II)I" } : Jvm.MethodName) jdk_29_method_69_code (2 : Nat) (Option.some Jvm.ClassFile.FieldType.int), Jvm.Cond.code ({ cls := "java/util/Arrays", name := "copyOf", desc := "([DI)[D" } : Jvm.MethodName) jdk_65_method_127_code (3 : Nat) (Option.some (Jvm.ClassFile.FieldType.array Jvm.ClassFile.FieldType.double)), Jvm.Cond.code ({ cls := "com/example/rekurze/rekurze/numeric/SparseMatrix", name := "<init>", desc := "([I[I[D)V" } : Jvm.MethodName) prog_57_method_1_code (4 : Nat) (Option.none : Option Jvm.ClassFile.FieldType), Jvm.Cond.code ({ cls := "com/example/rekurze/rekurze/numeric/SparseMatrix", name := "dense", desc := "()[[D" } : Jvm.MethodName) prog_57_method_6_code (5 : Nat) (Option.some (Jvm.ClassFile.FieldType.array (Jvm.ClassFile.FieldType.array Jvm.ClassFile.FieldType.double))), Jvm.Cond.code ({ cls := "com/example/rekurze/rekurze/numeric/SparseMatrix", name := "size", desc := "()I" } : Jvm.MethodName) prog_57_method_2_code (1 : Nat) (Option.some Jvm.ClassFile.FieldType.int), Jvm.Cond.code ({ cls := "com/example/rekurze/rekurze/numeric/SparseMatrix", name := "rowStart", desc := "(I)I" } : Jvm.MethodName) prog_57_method_3_code (2 : Nat) (Option.some Jvm.ClassFile.FieldType.int), Jvm.Cond.code ({ cls := "com/example/rekurze/rekurze/numeric/BuilderAddPinLaw", name := "part", desc := "(III)J" } : Jvm.MethodName) method_2_code (3 : Nat) (Option.some Jvm.ClassFile.FieldType.long), Jvm.Cond.code ({ cls := "com/example/rekurze/rekurze/numeric/BuilderAddPinLaw", name := "rowOk", desc := "([DJJJ)Z" } : Jvm.MethodName) method_3_code (7 : Nat) (Option.some Jvm.ClassFile.FieldType.boolean), Jvm.Cond.code ({ cls := "java/lang/Math", name := "max", desc := "(II)I" } : Jvm.MethodName) jdk_29_method_65_code (2 : Nat) (Option.some Jvm.ClassFile.FieldType.int)]
set_option maxRecDepth 65536 in
theorem codes_eq : words1.filter isCode = codes1 := rfl
theorem w_codes : ∀ c ∈ words1.filter isCode, c.before args0 about1 = true := by
  rw [codes_eq]
  intro c hc
  simp only [codes1, List.mem_cons, List.not_mem_nil, or_false] at hc
  rcases hc with rfl | rfl | rfl | rfl | rfl | rfl | rfl | rfl | rfl | rfl | rfl | rfl | rfl | rfl | rfl | rfl | rfl | rfl | rfl | rfl | rfl
  · exact w_c0
  · exact w_c1
  · exact w_c2
  · exact w_c3
  · exact w_c4
  · exact w_c5
  · exact w_c6
  · exact w_c7
  · exact w_c8
  · exact w_c9
  · exact w_c10
  · exact w_c11
  · exact w_c12
  · exact w_c13
  · exact w_c14
  · exact w_c15
  · exact w_c16
  · exact w_c17
  · exact w_c18
  · exact w_c19
  · exact w_c20
set_option maxRecDepth 65536 in
theorem w_t1 : (words1.take 24).all (fun c => isCode c || c.before args0 about1) = true := by decide +kernel
set_option maxRecDepth 65536 in
theorem w_t2 : ((words1.drop 24).take 24).all (fun c => isCode c || c.before args0 about1) = true := by decide +kernel
set_option maxRecDepth 65536 in
theorem w_t3 : (((words1.drop 24).drop 24).take 24).all (fun c => isCode c || c.before args0 about1) = true := by decide +kernel
set_option maxRecDepth 65536 in
theorem w_t4 : ((((words1.drop 24).drop 24).drop 24).take 24).all (fun c => isCode c || c.before args0 about1) = true := by decide +kernel
set_option maxRecDepth 65536 in
theorem w_t5 : (((((words1.drop 24).drop 24).drop 24).drop 24).take 24).all (fun c => isCode c || c.before args0 about1) = true := by decide +kernel
set_option maxRecDepth 65536 in
theorem w_t6 : (((((words1.drop 24).drop 24).drop 24).drop 24).drop 24).all (fun c => isCode c || c.before args0 about1) = true := by decide +kernel
theorem w_tables : (allAtoms (Jvm.Cond.code x code maxLocals ret :: tables_1)).before args0 about1 = true := by
  rw [allAtoms_all]
  show words1.all (fun c => c.before args0 about1) = true
  refine all_split ?_ w_codes
  rw [← List.take_append_drop 24 words1, List.all_append, w_t1, ← List.take_append_drop 24 (words1.drop 24), List.all_append, w_t2, ← List.take_append_drop 24 ((words1.drop 24).drop 24), List.all_append, w_t3, ← List.take_append_drop 24 (((words1.drop 24).drop 24).drop 24), List.all_append, w_t4, ← List.take_append_drop 24 ((((words1.drop 24).drop 24).drop 24).drop 24), List.all_append, w_t5, w_t6]
  rfl
set_option maxRecDepth 65536 in
theorem w_case : (Jvm.Cond.and given_1 narrow_1).before args0 about1 = true := by decide +kernel
theorem w_applies : (headSpec (Jvm.Cond.code x code maxLocals ret :: tables_1) room_1).applies x e0.platform about1 = true :=
  (Spec.applies_iff w_frames).mpr ⟨w_running, w_runnable, w_alone, w_named, w_hears, w_ripe, w_room, w_tables⟩
theorem atStart : AtStart classFile x code maxLocals ret World_1 tables_1 room_1 Calls_1 rest_1 Pre_1 launch0 p0 e0 about1 theMethod args0 below0 :=
  ⟨lists_1, trivial, launch0.admits_env _ _ _, launch0.least_env, fairChoices_fair.cas, fairChoices_fair.clock, w_frames, w_args, w_heap, w_applies, trivial, trivial, w_case⟩
end start1
theorem witness_1 : WitnessClaimed_1 := ⟨start1.p0, start1.e0, start1.about1, start1.theMethod, start1.args0, start1.below0, start1.atStart⟩
end Jvm.Pilot.@@N@@

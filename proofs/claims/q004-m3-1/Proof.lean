import JvmDerived
import JvmDerived.Pilot.@@N@@Statement
import JvmDerived.Pilot.@@N@@Code
set_option linter.unusedVariables false
set_option linter.unusedSimpArgs false
namespace Jvm.Pilot.@@N@@
open Jvm Jvm.ClassFile Sem Op Lib Jvm.Free Jvm.Stand Jvm.LawKit Jvm.RoadKit Bundle Jvm.Pilot.@@N@@.Jvm.D
theorem own_lit {r c : Int32} {v : Int} (e : c.toInt = v) (h : r.toInt = v) : r = c := Int32.toInt_inj.mp (h.trans e.symm)
theorem own_eqi {args : Array Value} {first s : State} {o : Option Outcome} {idx : List Nat} {t : Jvm.Term} {n : Int32} (h : (Jvm.Cond.eq t (Jvm.Term.int n)).value args first o s idx = some true) : t.eval args first o idx s = some (.int n) := by
  obtain ⟨x, y, h1, h2, h3, -⟩ := cmp_v (Or.inl h)
  have h4 := h2.symm.trans (Term.int_eval n)
  cases h4
  cases x with
  | int i => have h5 := gotT (Cond.eq_ints h1 h2) h; rw [h1, h5]
  | _ => first | (obtain ⟨z, hz⟩ := h3; cases hz; done) | exact absurd h3.2 (by simp [Value.isRef])
theorem own_eqL {args : Array Value} {first s : State} {o : Option Outcome} {idx : List Nat} {t : Jvm.Term} {n : Int64} (h : (Jvm.Cond.eq t (Jvm.Term.long n)).value args first o s idx = some true) : t.eval args first o idx s = some (.long n) := by
  obtain ⟨x, y, h1, h2, h3, -⟩ := cmp_v (Or.inl h)
  have h4 : y = .long n := Option.some.inj (h2.symm.trans rfl)
  subst h4
  cases x with
  | long i => have h5 := gotT (eq_L h1 h2) h; rw [h1, h5]
  | _ => first | (obtain ⟨z, hz⟩ := h3; cases hz; done) | exact absurd h3.2 (by simp [Value.isRef])
theorem own_le {Z : State} {n0 : Nat} {h : Heap} (O : Old Z n0 h) : n0 ≤ h.size := O.1 ▸ O.2.1
theorem own_leZ {Z : State} {n0 : Nat} {h : Heap} {y : Addr} (O : Old Z n0 h) (g : n0 ≤ y) : Z.heap.size ≤ y := O.1 ▸ g
def own_Ar (Z : State) (h : Heap) (a : Addr) (ty : FieldType) (n : Int32) : Prop := ∃ c : Cell, Arr Z h a c ty ∧ c.slots.size.toInt32 = n
def own_El (Z : State) (h : Heap) (a : Addr) (ty : FieldType) (j : Int32) (v : Value) : Prop := ∃ c : Cell, Arr Z h a c ty ∧ ¬ (j < 0 ∨ c.slots.size ≤ j.toNatClampNeg) ∧ c.slots[j.toNatClampNeg]? = some v
theorem own_Ar.ext {Z : State} {h h' : Heap} {a : Addr} {ty : FieldType} {n : Int32} (E : Ext h h') (F : own_Ar Z h a ty n) : own_Ar Z h' a ty n := by obtain ⟨c, A, r⟩ := F; exact ⟨c, A.ext E, r⟩
theorem own_El.ext {Z : State} {h h' : Heap} {a : Addr} {ty : FieldType} {j : Int32} {v : Value} (E : Ext h h') (F : own_El Z h a ty j v) : own_El Z h' a ty j v := by obtain ⟨c, A, r⟩ := F; exact ⟨c, A.ext E, r⟩
theorem own_Ar.start {s : State} {args : Array Value} {t : Jvm.Term} {a : Addr} {c : Cell} {ty : FieldType} {n : Int32} (ev : t.eval args s none [] s = some (.ref a)) (A : Arr s s.heap a c ty) (hl : (Jvm.Term.length t).eval args s none [] s = some (.int n)) : own_Ar s s.heap a ty n := by
  obtain ⟨c', h1, h2⟩ := length_at hl ev
  cases A.1.symm.trans h1
  exact ⟨c, A, h2⟩
theorem own_El.start {s : State} {args : Array Value} {t : Jvm.Term} {a : Addr} {c : Cell} {ty : FieldType} {j : Int32} {v : Value} (ev : t.eval args s none [] s = some (.ref a)) (A : Arr s s.heap a c ty) (he : (Jvm.Term.elem t (Jvm.Term.int j)).eval args s none [] s = some v) : own_El s s.heap a ty j v := by
  obtain ⟨c', h1, h2, h3⟩ := elem_at he ev (Term.int_eval j)
  cases A.1.symm.trans h1
  exact ⟨c, A, h2, h3⟩
theorem own_mvMN {Z s : State} {a0 args : Array Value} {own host : String} {index : Nat} {y : MethodName} (hZ : Z.Warmed39 s.vm) (w : (Jvm.Cond.methodLinkNest own index y host).before a0 Z = true) : (Jvm.Cond.methodLinkNest own index y host).before args s = true := (Cond.methodLinkNest_wide hZ w :)
theorem own_fin (n : Int32) : Jvm.Free.Fl.Fin64 (FP.ddiv (FP.i2d n) 4620693217682128896) := by
  have h1 := Jvm.FP.Core.i2d_mag n
  have h2 := Jvm.FP.Core.ddiv_mag (a := Jvm.FP.Core.i2d n) (b := (4620693217682128896 : UInt64)) (K := 1056) (L := 1026) h1 (by decide) (by decide) (by decide) (by decide)
  refine Jvm.Free.Fl.fin64_core.mpr ((Jvm.FP.Core.fin_bits _).mpr ?_)
  have h3 : (FP.ddiv (FP.i2d n) 4620693217682128896) = Jvm.FP.Core.ddiv (Jvm.FP.Core.i2d n) 4620693217682128896 := rfl
  rw [h3]; omega
def Facts (Z : State) (h : Heap) : Prop :=
  True
theorem w_0 {Z : State} {a0 : Array Value} (hw : ∀ d ∈ tables_1, d.before a0 Z = true) : (Jvm.Cond.classLink "com/example/rekurze/rekurze/numeric/ProgressIsAtRestPinLaw" (7 : Nat) "com/example/rekurze/rekurze/numeric/ComponentSolver$Progress").before a0 Z = true := hw _ (List.mem_of_getElem? (i := 0) rfl)
theorem w_1 {Z : State} {a0 : Array Value} (hw : ∀ d ∈ tables_1, d.before a0 Z = true) : (Jvm.Cond.instantiable "com/example/rekurze/rekurze/numeric/ComponentSolver$Progress" (6 : Nat)).before a0 Z = true := hw _ (List.mem_of_getElem? (i := 1) rfl)
theorem w_2 {Z : State} {a0 : Array Value} (hw : ∀ d ∈ tables_1, d.before a0 Z = true) : (Jvm.Cond.initialized "com/example/rekurze/rekurze/numeric/ComponentSolver$Progress").before a0 Z = true := hw _ (List.mem_of_getElem? (i := 2) rfl)
theorem w_3 {Z : State} {a0 : Array Value} (hw : ∀ d ∈ tables_1, d.before a0 Z = true) : (Jvm.Cond.methodLink "com/example/rekurze/rekurze/numeric/ProgressIsAtRestPinLaw" (9 : Nat) ({ cls := "com/example/rekurze/rekurze/numeric/ComponentSolver$Progress", name := "<init>", desc := "()V" } : Jvm.MethodName)).before a0 Z = true := hw _ (List.mem_of_getElem? (i := 3) rfl)
theorem w_4 {Z : State} {a0 : Array Value} (hw : ∀ d ∈ tables_1, d.before a0 Z = true) : (Jvm.Cond.instanceMethod ({ cls := "com/example/rekurze/rekurze/numeric/ComponentSolver$Progress", name := "<init>", desc := "()V" } : Jvm.MethodName)).before a0 Z = true := hw _ (List.mem_of_getElem? (i := 4) rfl)
theorem w_5 {Z : State} {a0 : Array Value} (hw : ∀ d ∈ tables_1, d.before a0 Z = true) : (Jvm.Cond.code ({ cls := "com/example/rekurze/rekurze/numeric/ComponentSolver$Progress", name := "<init>", desc := "()V" } : Jvm.MethodName) prog_33_method_1_code (1 : Nat) (Option.none : Option Jvm.ClassFile.FieldType)).before a0 Z = true := hw _ (List.mem_of_getElem? (i := 5) rfl)
theorem w_6 {Z : State} {a0 : Array Value} (hw : ∀ d ∈ tables_1, d.before a0 Z = true) : (Jvm.Cond.methodLink "com/example/rekurze/rekurze/numeric/ComponentSolver$Progress" (1 : Nat) ({ cls := "java/lang/Object", name := "<init>", desc := "()V" } : Jvm.MethodName)).before a0 Z = true := hw _ (List.mem_of_getElem? (i := 6) rfl)
theorem w_7 {Z : State} {a0 : Array Value} (hw : ∀ d ∈ tables_1, d.before a0 Z = true) : (Jvm.Cond.instanceMethod ({ cls := "java/lang/Object", name := "<init>", desc := "()V" } : Jvm.MethodName)).before a0 Z = true := hw _ (List.mem_of_getElem? (i := 7) rfl)
theorem w_8 {Z : State} {a0 : Array Value} (hw : ∀ d ∈ tables_1, d.before a0 Z = true) : (Jvm.Cond.code ({ cls := "java/lang/Object", name := "<init>", desc := "()V" } : Jvm.MethodName) object_method_1_code (1 : Nat) (Option.none : Option Jvm.ClassFile.FieldType)).before a0 Z = true := hw _ (List.mem_of_getElem? (i := 8) rfl)
theorem w_9 {Z : State} {a0 : Array Value} (hw : ∀ d ∈ tables_1, d.before a0 Z = true) : (Jvm.Cond.constantDouble "com/example/rekurze/rekurze/numeric/ComponentSolver$Progress" (9 : Nat) (9218868437227405312 : UInt64)).before a0 Z = true := hw _ (List.mem_of_getElem? (i := 9) rfl)
theorem w_10 {Z : State} {a0 : Array Value} (hw : ∀ d ∈ tables_1, d.before a0 Z = true) : (Jvm.Cond.fieldLink "com/example/rekurze/rekurze/numeric/ComponentSolver$Progress" (11 : Nat) "com/example/rekurze/rekurze/numeric/ComponentSolver$Progress" "previous" "D").before a0 Z = true := hw _ (List.mem_of_getElem? (i := 10) rfl)
theorem w_11 {Z : State} {a0 : Array Value} (hw : ∀ d ∈ tables_1, d.before a0 Z = true) : (Jvm.Cond.lays "com/example/rekurze/rekurze/numeric/ComponentSolver$Progress" "com/example/rekurze/rekurze/numeric/ComponentSolver$Progress" "previous" "D").before a0 Z = true := hw _ (List.mem_of_getElem? (i := 11) rfl)
theorem w_12 {Z : State} {a0 : Array Value} (hw : ∀ d ∈ tables_1, d.before a0 Z = true) : (Jvm.Cond.methodLink "com/example/rekurze/rekurze/numeric/ProgressIsAtRestPinLaw" (10 : Nat) ({ cls := "com/example/rekurze/rekurze/numeric/ComponentSolver$Progress", name := "isAtRest", desc := "(D)Z" } : Jvm.MethodName)).before a0 Z = true := hw _ (List.mem_of_getElem? (i := 12) rfl)
theorem w_13 {Z : State} {a0 : Array Value} (hw : ∀ d ∈ tables_1, d.before a0 Z = true) : (Jvm.Cond.declares ({ cls := "com/example/rekurze/rekurze/numeric/ComponentSolver$Progress", name := "isAtRest", desc := "(D)Z" } : Jvm.MethodName)).before a0 Z = true := hw _ (List.mem_of_getElem? (i := 13) rfl)
theorem w_14 {Z : State} {a0 : Array Value} (hw : ∀ d ∈ tables_1, d.before a0 Z = true) : (Jvm.Cond.instanceMethod ({ cls := "com/example/rekurze/rekurze/numeric/ComponentSolver$Progress", name := "isAtRest", desc := "(D)Z" } : Jvm.MethodName)).before a0 Z = true := hw _ (List.mem_of_getElem? (i := 14) rfl)
theorem w_15 {Z : State} {a0 : Array Value} (hw : ∀ d ∈ tables_1, d.before a0 Z = true) : (Jvm.Cond.selects "com/example/rekurze/rekurze/numeric/ComponentSolver$Progress" ({ cls := "com/example/rekurze/rekurze/numeric/ComponentSolver$Progress", name := "isAtRest", desc := "(D)Z" } : Jvm.MethodName) ({ cls := "com/example/rekurze/rekurze/numeric/ComponentSolver$Progress", name := "isAtRest", desc := "(D)Z" } : Jvm.MethodName)).before a0 Z = true := hw _ (List.mem_of_getElem? (i := 15) rfl)
theorem w_16 {Z : State} {a0 : Array Value} (hw : ∀ d ∈ tables_1, d.before a0 Z = true) : (Jvm.Cond.code ({ cls := "com/example/rekurze/rekurze/numeric/ComponentSolver$Progress", name := "isAtRest", desc := "(D)Z" } : Jvm.MethodName) prog_33_method_4_code (3 : Nat) (Option.some Jvm.ClassFile.FieldType.boolean)).before a0 Z = true := hw _ (List.mem_of_getElem? (i := 16) rfl)
theorem w_17 {Z : State} {a0 : Array Value} (hw : ∀ d ∈ tables_1, d.before a0 Z = true) : (Jvm.Cond.fieldLink "com/example/rekurze/rekurze/numeric/ComponentSolver$Progress" (24 : Nat) "com/example/rekurze/rekurze/numeric/ComponentSolver$Progress" "exhausted" "Z").before a0 Z = true := hw _ (List.mem_of_getElem? (i := 17) rfl)
theorem w_18 {Z : State} {a0 : Array Value} (hw : ∀ d ∈ tables_1, d.before a0 Z = true) : (Jvm.Cond.lays "com/example/rekurze/rekurze/numeric/ComponentSolver$Progress" "com/example/rekurze/rekurze/numeric/ComponentSolver$Progress" "exhausted" "Z").before a0 Z = true := hw _ (List.mem_of_getElem? (i := 18) rfl)
theorem w_19 {Z : State} {a0 : Array Value} (hw : ∀ d ∈ tables_1, d.before a0 Z = true) : (Jvm.Cond.methodLinkNest "com/example/rekurze/rekurze/numeric/ComponentSolver$Progress" (28 : Nat) ({ cls := "com/example/rekurze/rekurze/numeric/ComponentSolver", name := "isConverged", desc := "(DD)Z" } : Jvm.MethodName) "com/example/rekurze/rekurze/numeric/ComponentSolver").before a0 Z = true := hw _ (List.mem_of_getElem? (i := 19) rfl)
theorem w_20 {Z : State} {a0 : Array Value} (hw : ∀ d ∈ tables_1, d.before a0 Z = true) : (Jvm.Cond.static ({ cls := "com/example/rekurze/rekurze/numeric/ComponentSolver", name := "isConverged", desc := "(DD)Z" } : Jvm.MethodName)).before a0 Z = true := hw _ (List.mem_of_getElem? (i := 20) rfl)
theorem w_21 {Z : State} {a0 : Array Value} (hw : ∀ d ∈ tables_1, d.before a0 Z = true) : (Jvm.Cond.initialized "com/example/rekurze/rekurze/numeric/ComponentSolver").before a0 Z = true := hw _ (List.mem_of_getElem? (i := 21) rfl)
theorem w_22 {Z : State} {a0 : Array Value} (hw : ∀ d ∈ tables_1, d.before a0 Z = true) : (Jvm.Cond.code ({ cls := "com/example/rekurze/rekurze/numeric/ComponentSolver", name := "isConverged", desc := "(DD)Z" } : Jvm.MethodName) prog_31_method_28_code (4 : Nat) (Option.some Jvm.ClassFile.FieldType.boolean)).before a0 Z = true := hw _ (List.mem_of_getElem? (i := 22) rfl)
theorem w_23 {Z : State} {a0 : Array Value} (hw : ∀ d ∈ tables_1, d.before a0 Z = true) : (Jvm.Cond.constantDouble "com/example/rekurze/rekurze/numeric/ComponentSolver" (409 : Nat) (4620693217682128896 : UInt64)).before a0 Z = true := hw _ (List.mem_of_getElem? (i := 23) rfl)
theorem pn_0 : plainName "com/example/rekurze/rekurze/numeric/ProgressIsAtRestPinLaw" = true := by first | (simp [plainName, overriddenIn]; done) | decide +kernel
theorem ef_0 (m : MethodId) (x0 : Int32) (x1 : Int32) : entryFrame m #[(.int x0), (.int x1)] maxLocals = mkF m 0 #[.val (.int x0), .val (.int x1), .unset, .unset, .unset, .unset, .unset, .unset, .unset, .unset] [] := by first | (simp [entryFrame, mkF, argsToLocals, Value.category, maxLocals]; done) | rfl
theorem d1_0 : decode prog_33_method_1_code 0 = .ok (.aload_n 0, 1) := by decide +kernel
theorem d1_1 : decode prog_33_method_1_code 1 = .ok (.invokespecial 1, 3) := by decide +kernel
theorem d1_4 : decode prog_33_method_1_code 4 = .ok (.aload_n 0, 1) := by decide +kernel
theorem d1_5 : decode prog_33_method_1_code 5 = .ok (.ldc2_w 9, 3) := by decide +kernel
theorem d1_8 : decode prog_33_method_1_code 8 = .ok (.putfield 11, 3) := by decide +kernel
theorem d1_11 : decode prog_33_method_1_code 11 = .ok (.return_, 1) := by decide +kernel
theorem pn_1 : plainName "com/example/rekurze/rekurze/numeric/ComponentSolver$Progress" = true := by first | (simp [plainName, overriddenIn]; done) | decide +kernel
theorem ef_1 (m : MethodId) (x0 : Addr) : entryFrame m #[(.ref x0)] 1 = mkF m 0 #[.val (.ref x0)] [] := by first | (simp [entryFrame, mkF, argsToLocals, Value.category]; done) | rfl
theorem d3_0 : decode prog_33_method_4_code 0 = .ok (.aload_n 0, 1) := by decide +kernel
theorem d3_1 : decode prog_33_method_4_code 1 = .ok (.getfield 24, 3) := by decide +kernel
theorem d3_4 : decode prog_33_method_4_code 4 = .ok (.ifCond .ne 14, 3) := by decide +kernel
theorem d3_7 : decode prog_33_method_4_code 7 = .ok (.aload_n 0, 1) := by decide +kernel
theorem d3_8 : decode prog_33_method_4_code 8 = .ok (.getfield 11, 3) := by decide +kernel
theorem d3_11 : decode prog_33_method_4_code 11 = .ok (.dload_n 1, 1) := by decide +kernel
theorem d3_12 : decode prog_33_method_4_code 12 = .ok (.invokestatic 28, 3) := by decide +kernel
theorem d3_15 : decode prog_33_method_4_code 15 = .ok (.ifCond .eq 7, 3) := by decide +kernel
theorem d3_22 : decode prog_33_method_4_code 22 = .ok (.iconst 0, 1) := by decide +kernel
theorem d3_23 : decode prog_33_method_4_code 23 = .ok (.ireturn, 1) := by decide +kernel
theorem pn_3 : plainName "com/example/rekurze/rekurze/numeric/ComponentSolver$Progress" = true := by first | (simp [plainName, overriddenIn]; done) | decide +kernel
theorem ef_3 (m : MethodId) (x0 : Addr) (x1 : UInt64) : entryFrame m #[(.ref x0), (.double x1)] 3 = mkF m 0 #[.val (.ref x0), .val (.double x1), .second] [] := by first | (simp [entryFrame, mkF, argsToLocals, Value.category]; done) | rfl
theorem d4_0 : decode prog_31_method_28_code 0 = .ok (.dload_n 0, 1) := by decide +kernel
theorem d4_1 : decode prog_31_method_28_code 1 = .ok (.dload_n 2, 1) := by decide +kernel
theorem d4_2 : decode prog_31_method_28_code 2 = .ok (.ldc2_w 409, 3) := by decide +kernel
theorem d4_5 : decode prog_31_method_28_code 5 = .ok (.ddiv, 1) := by decide +kernel
theorem d4_6 : decode prog_31_method_28_code 6 = .ok (.dcmp .g, 1) := by decide +kernel
theorem d4_7 : decode prog_31_method_28_code 7 = .ok (.ifCond .gt 7, 3) := by decide +kernel
theorem d4_14 : decode prog_31_method_28_code 14 = .ok (.iconst 0, 1) := by decide +kernel
theorem d4_15 : decode prog_31_method_28_code 15 = .ok (.ireturn, 1) := by decide +kernel
theorem pn_4 : plainName "com/example/rekurze/rekurze/numeric/ComponentSolver" = true := by first | (simp [plainName, overriddenIn]; done) | decide +kernel
theorem ef_4 (m : MethodId) (x0 : UInt64) (x1 : UInt64) : entryFrame m #[(.double x0), (.double x1)] 4 = mkF m 0 #[.val (.double x0), .second, .val (.double x1), .second] [] := by first | (simp [entryFrame, mkF, argsToLocals, Value.category]; done) | rfl
theorem pd_0 : parseMethodDescriptor "()V" = some ⟨[], none⟩ := by decide +kernel
theorem pd_1 : parseMethodDescriptor "(DD)Z" = some ⟨[.double, .double], some .boolean⟩ := by decide +kernel
theorem pd_2 : parseMethodDescriptor "(D)Z" = some ⟨[.double], some .boolean⟩ := by decide +kernel
def Q1_0 (Z : State) (t0 : UInt64) (t1 : Int32) (o0 : Addr) (h0 : Heap) (n0 : Nat) (v : Option Value) (h : Heap) (L : List Loc) : Prop := v = none ∧ Fr n0 L ∧ Keep h0 h [o0] ∧ Fld Z h o0 "com/example/rekurze/rekurze/numeric/ComponentSolver$Progress" "previous" "D" (.double 9218868437227405312) ∧ Exa Z h o0 "com/example/rekurze/rekurze/numeric/ComponentSolver$Progress" ∧ Fld Z h o0 "com/example/rekurze/rekurze/numeric/ComponentSolver$Progress" "exhausted" "Z" (.int t1)
set_option maxRecDepth 65536 in
set_option maxHeartbeats 40000000 in
theorem rm1_0 (l : Launch) (Z : State) (a0 : Array Value) (hw : ∀ d ∈ tables_1, d.before a0 Z = true) (ws : List Jvm.Cond) (t0 : UInt64) (t1 : Int32) (o0 : Addr) (h0 : Heap) (n0 : Nat) (FF : Facts Z Z.heap) (OO : Old Z n0 h0) (f0 : Fld Z h0 o0 "com/example/rekurze/rekurze/numeric/ComponentSolver$Progress" "previous" "D" (.double t0)) (f1 : Exa Z h0 o0 "com/example/rekurze/rekurze/numeric/ComponentSolver$Progress") (u0 : n0 ≤ o0) (f2 : Fld Z h0 o0 "com/example/rekurze/rekurze/numeric/ComponentSolver$Progress" "exhausted" "Z" (.int t1)) :
    MetFree l (⟨"com/example/rekurze/rekurze/numeric/ComponentSolver$Progress", "<init>", "()V"⟩ : MethodName) (head1 (Jvm.Cond.code (⟨"com/example/rekurze/rekurze/numeric/ComponentSolver$Progress", "<init>", "()V"⟩ : MethodName) prog_33_method_1_code 1 none :: ws) ({ frames := 1, cells := 0, slots := 0, locals := 12 } : Room)) (fun a U => a = #[(.ref o0)] ∧ Z.Warmed39 U.vm ∧ U.heap = h0) (fun _ _ _ _ _ => True) (fun _ U o U' => ∃ v L, o = .returned v ∧ Q1_0 Z t0 t1 o0 h0 n0 v U'.heap L ∧ FrameEnd U o U' L ({ frames := 1, cells := 0, slots := 0, locals := 12 } : Room).cells ({ frames := 1, cells := 0, slots := 0, locals := 12 } : Room).slots) := by
  refine MetFree.of_bodySF (plainFor_of_name pn_1) hisR ?_
  intro p e s m args below meth c s₁ Bd hml0 hP hK
  obtain ⟨rfl, hZ, hh⟩ := hP
  have hx := Bd.exec
  have hby := Bd.bytes
  have hml : c.maxLocals = 1 := hml0
  have hown : s.vm.findClass "com/example/rekurze/rekurze/numeric/ComponentSolver$Progress" = some m.cls := findClass_of_methodNamed Bd.named
  have X0 : Stand p l e ({ frames := 1, cells := 0, slots := 0, locals := 12 } : Room) s m #[(.ref o0)] below meth c s₁ [] 0 0 := Stand.of_body Bd
  have e0 : s₁.heap = h0 := by rw [← hh, Bd.state]; rfl
  have N0 := Fr.nil n0
  have pre0 : ∀ t, Steps p.tables e below (s₁.setTop (mkF m 0 #[rv o0] [])) t → Steps p.tables e below (s₁.setTop (entryFrame m #[(.ref o0)] 1)) t := fun t k => castTop (ef_1 m o0) k
  obtain ⟨T1, X1, e1, st1⟩ := initO X0 hx hZ hown (w_6 hw) (w_7 hw) (w_8 hw) e0 (g := (mkF m 1 #[rv o0] [(.ref o0)])) rfl (by rw [hml]; rfl) rfl (hb hby d1_1) (by decide) (W := 0) (by show 2 * 0 + _ ≤ _; exact Nat.le_of_eq rfl) (by decide)
  obtain ⟨T2, h2, X2, e2, W2, st2⟩ := putF X1 hx hZ hown (host := "") (Or.inl (w_10 hw)) Via.refl e1 f0 f1 (Or.inl (w_11 hw)) (w_1 hw) (ty := .double) (by decide) rfl rfl (g := (mkF m 8 #[rv o0] [(.double 9218868437227405312), (.ref o0)])) rfl rfl (hb hby d1_8)
  have O2 := Old.wr OO W2 u0
  have KK2 : Keep h0 h2 [o0] := Keep.wr (Keep.refl h0 [o0]) W2 (Or.inl (List.mem_of_getElem? (i := 0) rfl))
  have N2 := Fr.snoc X2 N0 u0
  have F3 : Fld Z h2 o0 "com/example/rekurze/rekurze/numeric/ComponentSolver$Progress" "previous" "D" (.double 9218868437227405312) := Fld.same W2 f0
  have F4 : Exa Z h2 o0 "com/example/rekurze/rekurze/numeric/ComponentSolver$Progress" := (Exa.wr W2 f1)
  have F5 : Fld Z h2 o0 "com/example/rekurze/rekurze/numeric/ComponentSolver$Progress" "exhausted" "Z" (.int t1) := (Fld.other W2 f2 (Or.inr (slot_ne (Or.inl (w_18 hw)) (Or.inl (w_11 hw)) (by decide) (t := .boolean) (t' := .double) (by decide) (by decide))))
  obtain ⟨fs, hr, hrun, hended, hW, hsame⟩ := X2.leave (v := none) (fun _ => rfl)
  refine ⟨_, _, pre0 _ ?_, hrun, hended, _, _, rfl, ?_, ⟨_, rfl⟩, hW, hsame.mono (by decide) (by decide)⟩
  · show Steps p.tables e below (s₁.setTop (mkF m 0 #[rv o0] [])) _
    refine XS.aloadN X0.here hx rfl (hb hby d1_0) rfl rfl ?_
    refine st1 _ ?_
    refine XS.aloadN X1.here hx rfl (hb hby d1_4) rfl rfl ?_
    refine X1.ldc2DoubleC hx hown (mvT hZ (w_9 hw)) (g := (mkF m 5 #[rv o0] [(.ref o0)])) rfl (hb hby d1_5) _ ?_
    show Steps p.tables e below (T1.setTop (mkF m 8 #[rv o0] [(.double 9218868437227405312), (.ref o0)])) _
    refine st2 _ ?_
    exact X2.returnOut hx Bd.returns (hb hby d1_11) hr
  · show Q1_0 Z t0 t1 o0 h0 n0 _ T2.heap _
    rw [e2]
    exact ⟨rfl, N2, KK2, F3, F4, F5⟩
def Q4_0 (Z : State) (t0 : UInt64) (t1 : UInt64) (h0 : Heap) (n0 : Nat) (v : Option Value) (h : Heap) (L : List Loc) : Prop := v = some (.int 0) ∧ Fr n0 L ∧ h = h0
set_option maxRecDepth 65536 in
set_option maxHeartbeats 40000000 in
theorem rm4_0 (l : Launch) (Z : State) (a0 : Array Value) (hw : ∀ d ∈ tables_1, d.before a0 Z = true) (ws : List Jvm.Cond) (t0 : UInt64) (t1 : UInt64) (h0 : Heap) (n0 : Nat) (FF : Facts Z Z.heap) (OO : Old Z n0 h0) (d0 : Jvm.Free.Fl.NoNaN64 (FP.ddiv t0 4620693217682128896)) (d1 : cmpValue (FP.dcmp t1 (FP.ddiv t0 4620693217682128896)) .g = (1 : Int32)) :
    MetFree l (⟨"com/example/rekurze/rekurze/numeric/ComponentSolver", "isConverged", "(DD)Z"⟩ : MethodName) (head1 (Jvm.Cond.code (⟨"com/example/rekurze/rekurze/numeric/ComponentSolver", "isConverged", "(DD)Z"⟩ : MethodName) prog_31_method_28_code 4 (some .boolean) :: ws) ({ frames := 0, cells := 0, slots := 0, locals := 0 } : Room)) (fun a U => a = #[(.double t1), (.double t0)] ∧ Z.Warmed39 U.vm ∧ U.heap = h0) (fun _ _ _ _ _ => True) (fun _ U o U' => ∃ v L, o = .returned v ∧ Q4_0 Z t0 t1 h0 n0 v U'.heap L ∧ FrameEnd U o U' L ({ frames := 0, cells := 0, slots := 0, locals := 0 } : Room).cells ({ frames := 0, cells := 0, slots := 0, locals := 0 } : Room).slots) := by
  refine MetFree.of_bodySF (plainFor_of_name pn_4) hisR ?_
  intro p e s m args below meth c s₁ Bd hml0 hP hK
  obtain ⟨rfl, hZ, hh⟩ := hP
  have hx := Bd.exec
  have hby := Bd.bytes
  have hml : c.maxLocals = 4 := hml0
  have hown : s.vm.findClass "com/example/rekurze/rekurze/numeric/ComponentSolver" = some m.cls := findClass_of_methodNamed Bd.named
  have X0 : Stand p l e ({ frames := 0, cells := 0, slots := 0, locals := 0 } : Room) s m #[(.double t1), (.double t0)] below meth c s₁ [] 0 0 := Stand.of_body Bd
  have e0 : s₁.heap = h0 := by rw [← hh, Bd.state]; rfl
  have N0 := Fr.nil n0
  have pre0 : ∀ t, Steps p.tables e below (s₁.setTop (mkF m 0 #[.val (.double t1), .second, .val (.double t0), .second] [])) t → Steps p.tables e below (s₁.setTop (entryFrame m #[(.double t1), (.double t0)] 4)) t := fun t k => castTop (ef_4 m t1 t0) k
  obtain ⟨fs, hr, hrun, hended, hW, hsame⟩ := X0.leave (v := some (.int 0)) (fun h => by rw [Bd.returns] at h; cases h)
  refine ⟨_, _, pre0 _ ?_, hrun, hended, _, _, rfl, ?_, ⟨_, rfl⟩, hW, hsame.mono (by decide) (by decide)⟩
  · show Steps p.tables e below (s₁.setTop (mkF m 0 #[.val (.double t1), .second, .val (.double t0), .second] [])) _
    refine XS.dloadN X0.here hx rfl (hb hby d4_0) rfl ?_
    refine XS.dloadN X0.here hx rfl (hb hby d4_1) rfl ?_
    refine X0.ldc2DoubleC hx hown (mvT hZ (w_23 hw)) (g := (mkF m 2 #[.val (.double t1), .second, .val (.double t0), .second] [(.double t0), (.double t1)])) rfl (hb hby d4_2) _ ?_
    refine XS.ddivS X0.here hx rfl (hb hby d4_5) rfl d0 (v := (FP.ddiv t0 4620693217682128896)) rfl ?_
    show Steps p.tables e below (s₁.setTop (mkF m 6 #[.val (.double t1), .second, .val (.double t0), .second] [(.double (FP.ddiv t0 4620693217682128896)), (.double t1)])) _
    refine XS.dcmpS X0.here hx rfl (hb hby d4_6) rfl (v := (1 : Int32)) d1 ?_
    refine XS.ifYes X0.here hx rfl (pc0 := 7) (pc' := 14) rfl (hb hby d4_7) rfl (by decide) (by decide) (by decide) ?_
    refine XS.iconst X0.here hx rfl (hb hby d4_14) ?_
    exact retN X0 hx (t := .boolean) Bd.returns (by simp) (hb hby d4_15) hr
  · show Q4_0 Z t0 t1 h0 n0 _ s₁.heap _
    exact ⟨rfl, N0, e0⟩
def Q3_0 (Z : State) (t0 : UInt64) (t1 : UInt64) (o0 : Addr) (h0 : Heap) (n0 : Nat) (v : Option Value) (h : Heap) (L : List Loc) : Prop := v = some (.int 0) ∧ Fr n0 L ∧ h = h0
set_option maxRecDepth 65536 in
set_option maxHeartbeats 40000000 in
theorem rm3_0 (l : Launch) (Z : State) (a0 : Array Value) (hw : ∀ d ∈ tables_1, d.before a0 Z = true) (ws : List Jvm.Cond) (t0 : UInt64) (t1 : UInt64) (o0 : Addr) (h0 : Heap) (n0 : Nat) (FF : Facts Z Z.heap) (OO : Old Z n0 h0) (f0 : Fld Z h0 o0 "com/example/rekurze/rekurze/numeric/ComponentSolver$Progress" "exhausted" "Z" (.int 0)) (f1 : Fld Z h0 o0 "com/example/rekurze/rekurze/numeric/ComponentSolver$Progress" "previous" "D" (.double t0)) (d0 : Jvm.Free.Fl.NoNaN64 (FP.ddiv t1 4620693217682128896)) (d1 : cmpValue (FP.dcmp t0 (FP.ddiv t1 4620693217682128896)) .g = (1 : Int32)) :
    MetFree l (⟨"com/example/rekurze/rekurze/numeric/ComponentSolver$Progress", "isAtRest", "(D)Z"⟩ : MethodName) (head1 (Jvm.Cond.code (⟨"com/example/rekurze/rekurze/numeric/ComponentSolver$Progress", "isAtRest", "(D)Z"⟩ : MethodName) prog_33_method_4_code 3 (some .boolean) :: ws) ({ frames := 1, cells := 0, slots := 0, locals := 15 } : Room)) (fun a U => a = #[(.ref o0), (.double t1)] ∧ Z.Warmed39 U.vm ∧ U.heap = h0) (fun _ _ _ _ _ => True) (fun _ U o U' => ∃ v L, o = .returned v ∧ Q3_0 Z t0 t1 o0 h0 n0 v U'.heap L ∧ FrameEnd U o U' L ({ frames := 1, cells := 0, slots := 0, locals := 15 } : Room).cells ({ frames := 1, cells := 0, slots := 0, locals := 15 } : Room).slots) := by
  refine MetFree.of_bodySF (plainFor_of_name pn_3) hisR ?_
  intro p e s m args below meth c s₁ Bd hml0 hP hK
  obtain ⟨rfl, hZ, hh⟩ := hP
  have hx := Bd.exec
  have hby := Bd.bytes
  have hml : c.maxLocals = 3 := hml0
  have hown : s.vm.findClass "com/example/rekurze/rekurze/numeric/ComponentSolver$Progress" = some m.cls := findClass_of_methodNamed Bd.named
  have X0 : Stand p l e ({ frames := 1, cells := 0, slots := 0, locals := 15 } : Room) s m #[(.ref o0), (.double t1)] below meth c s₁ [] 0 0 := Stand.of_body Bd
  have e0 : s₁.heap = h0 := by rw [← hh, Bd.state]; rfl
  have N0 := Fr.nil n0
  have pre0 : ∀ t, Steps p.tables e below (s₁.setTop (mkF m 0 #[rv o0, .val (.double t1), .second] [])) t → Steps p.tables e below (s₁.setTop (entryFrame m #[(.ref o0), (.double t1)] 3)) t := fun t k => castTop (ef_3 m o0 t1) k
  obtain ⟨T1, X1, e1, st1⟩ := getF X0 hx hZ hown (host := "") (Or.inl (w_17 hw)) Via.refl e0 f0 (g := (mkF m 1 #[rv o0, .val (.double t1), .second] [(.ref o0)])) rfl rfl (hb hby d3_1)
  obtain ⟨T2, X2, e2, st2⟩ := getF X1 hx hZ hown (host := "") (Or.inl (w_10 hw)) Via.refl e1 f1 (g := (mkF m 8 #[rv o0, .val (.double t1), .second] [(.ref o0)])) rfl rfl (hb hby d3_8)
  obtain ⟨_, _, ⟨T3, L3, k3, n3⟩, -, X3, ⟨Lc3, hQ3, l3, y3, z3⟩, st3⟩ := callSN X2 hx (y := (⟨"com/example/rekurze/rekurze/numeric/ComponentSolver", "isConverged", "(DD)Z"⟩ : MethodName)) hown (own_mvMN hZ (w_19 hw)) (mvT hZ (w_20 hw)) (mvT hZ (w_21 hw)) (mvT hZ (w_22 hw)) (by decide) (backOf (W := 0) (rm4_0 l Z a0 hw [] t1 t0 h0 n0 FF OO d0 d1) hZ (w_22 hw) (w_21 hw) (by decide) (by decide)) (g := (mkF m 12 #[rv o0, .val (.double t1), .second] [(.double t1), (.double t0)])) rfl (by rw [hml]; rfl) (argsL := [(.double t0), (.double t1)]) (rest := []) (lenOf pd_1 rfl) rfl (by show 2 * 0 + _ ≤ _; exact Nat.le_of_eq rfl) (hb hby d3_12) (fun _ _ => ⟨rfl, e2, (by decide : 0 + 0 ≤ _), (by decide : 0 + 0 ≤ _)⟩)
  dsimp only [Pt.U, Pt.locs, Pt.cells, Pt.slots] at X3 l3 y3 z3 st3 hQ3
  subst l3 y3 z3
  obtain ⟨rfl, N3q, e3⟩ := hQ3
  have N3 := Fr.app N0 N3q
  obtain ⟨fs, hr, hrun, hended, hW, hsame⟩ := X3.leave (v := some (.int 0)) (fun h => by rw [Bd.returns] at h; cases h)
  refine ⟨_, _, pre0 _ ?_, hrun, hended, _, _, rfl, ?_, ⟨_, rfl⟩, hW, hsame.mono (by decide) (by decide)⟩
  · show Steps p.tables e below (s₁.setTop (mkF m 0 #[rv o0, .val (.double t1), .second] [])) _
    refine XS.aloadN X0.here hx rfl (hb hby d3_0) rfl rfl ?_
    refine st1 _ ?_
    refine XS.ifNo X1.here hx rfl (hb hby d3_4) rfl (by decide) ?_
    refine XS.aloadN X1.here hx rfl (hb hby d3_7) rfl rfl ?_
    show Steps p.tables e below (T1.setTop (mkF m 8 #[rv o0, .val (.double t1), .second] [(.ref o0)])) _
    refine st2 _ ?_
    refine XS.dloadN X2.here hx rfl (hb hby d3_11) rfl ?_
    refine st3.trans ?_
    refine XS.ifYes X3.here hx rfl (pc0 := 15) (pc' := 22) rfl (hb hby d3_15) rfl (by decide) (by decide) (by decide) ?_
    show Steps p.tables e below (T3.setTop (mkF m 22 #[rv o0, .val (.double t1), .second] [])) _
    refine XS.iconst X3.here hx rfl (hb hby d3_22) ?_
    exact retN X3 hx (t := .boolean) Bd.returns (by simp) (hb hby d3_23) hr
  · show Q3_0 Z t0 t1 o0 h0 n0 _ T3.heap _
    exact ⟨rfl, N3, e3⟩
set_option maxRecDepth 65536 in
set_option maxHeartbeats 40000000 in
theorem rm0_0 (l : Launch) (Z : State) (a0 : Array Value) (hw : ∀ d ∈ tables_1, d.before a0 Z = true) (ws : List Jvm.Cond) (p0 : Int32) (p1 : Int32) (h0 : Heap) (n0 : Nat) (FF : Facts Z Z.heap) (OO : Old Z n0 h0) :
    MetFree l x (head1 (Jvm.Cond.code x code maxLocals ret :: ws) room_1) (fun a U => a = #[(.int p0), (.int p1)] ∧ Z.Warmed39 U.vm ∧ U.heap = h0) (fun _ _ _ _ _ => True) (fun _ U o U' => ∃ v L, o = .returned v ∧ (v = some (.int (1 : Int32)) ∧ Fr n0 L) ∧ FrameEnd U o U' L room_1.cells room_1.slots) := by
  refine MetFree.of_bodySF (plainFor_of_name pn_0) hisR ?_
  intro p e s m args below meth c s₁ Bd hml0 hP hK
  obtain ⟨rfl, hZ, hh⟩ := hP
  have hx := Bd.exec
  have hby := Bd.bytes
  have hml : c.maxLocals = 10 := hml0
  have hown : s.vm.findClass "com/example/rekurze/rekurze/numeric/ProgressIsAtRestPinLaw" = some m.cls := findClass_of_methodNamed Bd.named
  have X0 : Stand p l e room_1 s m #[(.int p0), (.int p1)] below meth c s₁ [] 0 0 := Stand.of_body Bd
  have e0 : s₁.heap = h0 := by rw [← hh, Bd.state]; rfl
  have N0 := Fr.nil n0
  have pre0 : ∀ t, Steps p.tables e below (s₁.setTop (mkF m 0 #[iv p0, iv p1, .unset, .unset, .unset, .unset, .unset, .unset, .unset, .unset] [])) t → Steps p.tables e below (s₁.setTop (entryFrame m #[(.int p0), (.int p1)] maxLocals)) t := fun t k => castTop (ef_0 m p0 p1) k
  obtain ⟨T1, h1, X1, e1, E1, A1, D1, -, st1⟩ := newO X0 hx hZ hown (w_0 hw) (w_1 hw) (w_2 hw) e0 (g := (mkF m 0 #[iv p0, iv p1, .unset, .unset, .unset, .unset, .unset, .unset, .unset, .unset] [])) rfl (hb hby at_0) (by decide) (by decide)
  obtain ⟨b1, g1⟩ : ∃ z, z = h0.size := ⟨_, rfl⟩
  rw [← g1] at A1 D1 st1
  have g2 : n0 ≤ b1 := Nat.le_trans (own_le OO) (Nat.le_of_eq g1.symm)
  have O1 := Old.ext OO E1
  have F3 : Fld Z h1 b1 "com/example/rekurze/rekurze/numeric/ComponentSolver$Progress" "previous" "D" (.double 0) := D1 (Or.inl (w_11 hw)) (ty := .double) (by decide)
  have F4 : Fld Z h1 b1 "com/example/rekurze/rekurze/numeric/ComponentSolver$Progress" "exhausted" "Z" (.int 0) := D1 (Or.inl (w_18 hw)) (ty := .boolean) (by decide)
  obtain ⟨_, _, ⟨T5, L5, k5, n5⟩, -, X5, ⟨Lc5, hQ5, l5, y5, z5⟩, st5⟩ := X1.specialBack hx (y := (⟨"com/example/rekurze/rekurze/numeric/ComponentSolver$Progress", "<init>", "()V"⟩ : MethodName)) rfl hown (mvT hZ (w_3 hw)) (mvT hZ (w_4 hw)) (mvT hZ (w_5 hw)) (by decide) (backOf (W := 1) (rm1_0 l Z a0 hw [] 0 (0 : Int32) b1 h1 n0 FF O1 F3 A1 g2 F4) hZ (w_5 hw) (w_2 hw) (by decide) (by decide)) (g := (mkF m 4 #[iv p0, iv p1, .unset, .unset, .unset, .unset, .unset, .unset, .unset, .unset] [(.ref b1), (.ref b1)])) rfl (by rw [hml]; rfl) (Steps.refl _) (a := b1) (argsL := []) (rest := [(.ref b1)]) (lenOf pd_0 rfl) rfl (by show 2 * 0 + _ ≤ _; exact Nat.le_of_eq rfl) (hb hby at_4) (fun _ _ => ⟨rfl, e1, (by decide : 1 + 0 ≤ _), (by decide : 6 + 0 ≤ _)⟩)
  dsimp only [Pt.U, Pt.locs, Pt.cells, Pt.slots] at X5 l5 y5 z5 st5 hQ5
  subst l5 y5 z5
  obtain ⟨h5, e5⟩ : ∃ z, T5.heap = z := ⟨_, rfl⟩
  rw [e5] at hQ5
  obtain ⟨rfl, N5q, K5, R5_0, R5_1, R5_2⟩ := hQ5
  have N5 := Fr.app N0 N5q
  have O5 := Old.keep O1 K5 (allS g2 all0)
  obtain ⟨cq6, kq6, q6a, q6b, q6c⟩ := isOf hZ e5 R5_1
  obtain ⟨_, _, ⟨T6, L6, k6, n6⟩, -, X6, ⟨Lc6, hQ6, l6, y6, z6⟩, st6⟩ := X5.virtualBack hx (y := (⟨"com/example/rekurze/rekurze/numeric/ComponentSolver$Progress", "isAtRest", "(D)Z"⟩ : MethodName)) (z := (⟨"com/example/rekurze/rekurze/numeric/ComponentSolver$Progress", "isAtRest", "(D)Z"⟩ : MethodName)) hown (mvT hZ (w_12 hw)) (mvT hZ (w_13 hw)) (notFace_of_selects (args := #[]) (mvT hZ (w_15 hw))) (mvT hZ (w_15 hw)) (mvT hZ (w_14 hw)) (by decide) (backOf (W := 0) (rm3_0 l Z a0 hw [] 9218868437227405312 (FP.i2d p0) b1 h5 n0 FF O5 R5_2 R5_0 (own_fin p0).noNaN (dcmp_pinf' (own_fin p0) .g)) hZ (w_16 hw) (w_2 hw) (by decide) (by decide)) q6a q6c (g := (mkF m 17 #[iv p0, iv p1, rv b1, .val (.double (FP.i2d p0)), .second, .val (.double (FP.i2d p1)), .second, .unset, .unset, .unset] [(.double (FP.i2d p0)), (.ref b1)])) rfl (by rw [hml]; rfl) (Steps.refl _) (argsL := [(.double (FP.i2d p0))]) (rest := []) (lenOf pd_2 rfl) rfl (by show 2 * 0 + _ ≤ _; exact Nat.le_of_eq rfl) (hb hby at_17) (fun _ _ => ⟨rfl, e5, (by decide : 1 + 0 ≤ _), (by decide : 6 + 0 ≤ _)⟩)
  dsimp only [Pt.U, Pt.locs, Pt.cells, Pt.slots] at X6 l6 y6 z6 st6 hQ6
  subst l6 y6 z6
  obtain ⟨rfl, N6q, e6⟩ := hQ6
  have N6 := Fr.app N5 N6q
  obtain ⟨cq7, kq7, q7a, q7b, q7c⟩ := isOf hZ e6 R5_1
  obtain ⟨_, _, ⟨T7, L7, k7, n7⟩, -, X7, ⟨Lc7, hQ7, l7, y7, z7⟩, st7⟩ := X6.virtualBack hx (y := (⟨"com/example/rekurze/rekurze/numeric/ComponentSolver$Progress", "isAtRest", "(D)Z"⟩ : MethodName)) (z := (⟨"com/example/rekurze/rekurze/numeric/ComponentSolver$Progress", "isAtRest", "(D)Z"⟩ : MethodName)) hown (mvT hZ (w_12 hw)) (mvT hZ (w_13 hw)) (notFace_of_selects (args := #[]) (mvT hZ (w_15 hw))) (mvT hZ (w_15 hw)) (mvT hZ (w_14 hw)) (by decide) (backOf (W := 0) (rm3_0 l Z a0 hw [] 9218868437227405312 (FP.i2d p1) b1 h5 n0 FF O5 R5_2 R5_0 (own_fin p1).noNaN (dcmp_pinf' (own_fin p1) .g)) hZ (w_16 hw) (w_2 hw) (by decide) (by decide)) q7a q7c (g := (mkF m 25 #[iv p0, iv p1, rv b1, .val (.double (FP.i2d p0)), .second, .val (.double (FP.i2d p1)), .second, iv 0, .unset, .unset] [(.double (FP.i2d p1)), (.ref b1)])) rfl (by rw [hml]; rfl) (Steps.refl _) (argsL := [(.double (FP.i2d p1))]) (rest := []) (lenOf pd_2 rfl) rfl (by show 2 * 0 + _ ≤ _; exact Nat.le_of_eq rfl) (hb hby at_25) (fun _ _ => ⟨rfl, e6, (by decide : 1 + 0 ≤ _), (by decide : 6 + 0 ≤ _)⟩)
  dsimp only [Pt.U, Pt.locs, Pt.cells, Pt.slots] at X7 l7 y7 z7 st7 hQ7
  subst l7 y7 z7
  obtain ⟨rfl, N7q, e7⟩ := hQ7
  have N7 := Fr.app N6 N7q
  obtain ⟨cq8, kq8, q8a, q8b, q8c⟩ := isOf hZ e7 R5_1
  obtain ⟨_, _, ⟨T8, L8, k8, n8⟩, -, X8, ⟨Lc8, hQ8, l8, y8, z8⟩, st8⟩ := X7.virtualBack hx (y := (⟨"com/example/rekurze/rekurze/numeric/ComponentSolver$Progress", "isAtRest", "(D)Z"⟩ : MethodName)) (z := (⟨"com/example/rekurze/rekurze/numeric/ComponentSolver$Progress", "isAtRest", "(D)Z"⟩ : MethodName)) hown (mvT hZ (w_12 hw)) (mvT hZ (w_13 hw)) (notFace_of_selects (args := #[]) (mvT hZ (w_15 hw))) (mvT hZ (w_15 hw)) (mvT hZ (w_14 hw)) (by decide) (backOf (W := 0) (rm3_0 l Z a0 hw [] 9218868437227405312 (FP.i2d p0) b1 h5 n0 FF O5 R5_2 R5_0 (own_fin p0).noNaN (dcmp_pinf' (own_fin p0) .g)) hZ (w_16 hw) (w_2 hw) (by decide) (by decide)) q8a q8c (g := (mkF m 32 #[iv p0, iv p1, rv b1, .val (.double (FP.i2d p0)), .second, .val (.double (FP.i2d p1)), .second, iv 0, iv 0, .unset] [(.double (FP.i2d p0)), (.ref b1)])) rfl (by rw [hml]; rfl) (Steps.refl _) (argsL := [(.double (FP.i2d p0))]) (rest := []) (lenOf pd_2 rfl) rfl (by show 2 * 0 + _ ≤ _; exact Nat.le_of_eq rfl) (hb hby at_32) (fun _ _ => ⟨rfl, e7, (by decide : 1 + 0 ≤ _), (by decide : 6 + 0 ≤ _)⟩)
  dsimp only [Pt.U, Pt.locs, Pt.cells, Pt.slots] at X8 l8 y8 z8 st8 hQ8
  subst l8 y8 z8
  obtain ⟨rfl, N8q, e8⟩ := hQ8
  have N8 := Fr.app N7 N8q
  obtain ⟨fs, hr, hrun, hended, hW, hsame⟩ := X8.leave (v := some (.int 1)) (fun h => by rw [Bd.returns] at h; cases h)
  refine ⟨_, _, pre0 _ ?_, hrun, hended, _, _, rfl, ?_, ⟨_, rfl⟩, hW, hsame.mono (by decide) (by decide)⟩
  · show Steps p.tables e below (s₁.setTop (mkF m 0 #[iv p0, iv p1, .unset, .unset, .unset, .unset, .unset, .unset, .unset, .unset] [])) _
    refine st1 _ ?_
    refine XS.dup X1.here hx rfl (hb hby at_3) rfl rfl ?_
    refine st5.trans ?_
    refine XS.astoreN X5.here hx rfl (hb hby at_7) rfl rfl (l' := #[iv p0, iv p1, rv b1, .unset, .unset, .unset, .unset, .unset, .unset, .unset]) rfl ?_
    show Steps p.tables e below (T5.setTop (mkF m 8 #[iv p0, iv p1, rv b1, .unset, .unset, .unset, .unset, .unset, .unset, .unset] [])) _
    refine XS.iloadN X5.here hx rfl (hb hby at_8) rfl ?_
    refine XS.i2dS X5.here hx rfl (hb hby at_9) rfl (v := (FP.i2d p0)) rfl ?_
    refine XS.dstoreN X5.here hx rfl (hb hby at_10) rfl (l' := #[iv p0, iv p1, rv b1, .val (.double (FP.i2d p0)), .second, .unset, .unset, .unset, .unset, .unset]) rfl ?_
    refine XS.iloadN X5.here hx rfl (hb hby at_11) rfl ?_
    show Steps p.tables e below (T5.setTop (mkF m 12 #[iv p0, iv p1, rv b1, .val (.double (FP.i2d p0)), .second, .unset, .unset, .unset, .unset, .unset] [(.int p1)])) _
    refine XS.i2dS X5.here hx rfl (hb hby at_12) rfl (v := (FP.i2d p1)) rfl ?_
    refine XS.dstore X5.here hx rfl (hb hby at_13) rfl (l' := #[iv p0, iv p1, rv b1, .val (.double (FP.i2d p0)), .second, .val (.double (FP.i2d p1)), .second, .unset, .unset, .unset]) rfl ?_
    refine XS.aloadN X5.here hx rfl (hb hby at_15) rfl rfl ?_
    refine XS.dloadN X5.here hx rfl (hb hby at_16) rfl ?_
    show Steps p.tables e below (T5.setTop (mkF m 17 #[iv p0, iv p1, rv b1, .val (.double (FP.i2d p0)), .second, .val (.double (FP.i2d p1)), .second, .unset, .unset, .unset] [(.double (FP.i2d p0)), (.ref b1)])) _
    refine st6.trans ?_
    refine XS.istore X6.here hx rfl (hb hby at_20) rfl (l' := #[iv p0, iv p1, rv b1, .val (.double (FP.i2d p0)), .second, .val (.double (FP.i2d p1)), .second, iv 0, .unset, .unset]) rfl ?_
    refine XS.aloadN X6.here hx rfl (hb hby at_22) rfl rfl ?_
    refine XS.dload X6.here hx rfl (hb hby at_23) rfl ?_
    show Steps p.tables e below (T6.setTop (mkF m 25 #[iv p0, iv p1, rv b1, .val (.double (FP.i2d p0)), .second, .val (.double (FP.i2d p1)), .second, iv 0, .unset, .unset] [(.double (FP.i2d p1)), (.ref b1)])) _
    refine st7.trans ?_
    refine XS.istore X7.here hx rfl (hb hby at_28) rfl (l' := #[iv p0, iv p1, rv b1, .val (.double (FP.i2d p0)), .second, .val (.double (FP.i2d p1)), .second, iv 0, iv 0, .unset]) rfl ?_
    refine XS.aloadN X7.here hx rfl (hb hby at_30) rfl rfl ?_
    refine XS.dloadN X7.here hx rfl (hb hby at_31) rfl ?_
    show Steps p.tables e below (T7.setTop (mkF m 32 #[iv p0, iv p1, rv b1, .val (.double (FP.i2d p0)), .second, .val (.double (FP.i2d p1)), .second, iv 0, iv 0, .unset] [(.double (FP.i2d p0)), (.ref b1)])) _
    refine st8.trans ?_
    refine XS.istore X8.here hx rfl (hb hby at_35) rfl (l' := #[iv p0, iv p1, rv b1, .val (.double (FP.i2d p0)), .second, .val (.double (FP.i2d p1)), .second, iv 0, iv 0, iv 0]) rfl ?_
    refine XS.iload X8.here hx rfl (hb hby at_37) rfl ?_
    refine XS.ifNo X8.here hx rfl (hb hby at_39) rfl (by decide) ?_
    show Steps p.tables e below (T8.setTop (mkF m 42 #[iv p0, iv p1, rv b1, .val (.double (FP.i2d p0)), .second, .val (.double (FP.i2d p1)), .second, iv 0, iv 0, iv 0] [])) _
    refine XS.iload X8.here hx rfl (hb hby at_42) rfl ?_
    refine XS.ifNo X8.here hx rfl (hb hby at_44) rfl (by decide) ?_
    refine XS.iload X8.here hx rfl (hb hby at_47) rfl ?_
    refine XS.ifNo X8.here hx rfl (hb hby at_49) rfl (by decide) ?_
    show Steps p.tables e below (T8.setTop (mkF m 52 #[iv p0, iv p1, rv b1, .val (.double (FP.i2d p0)), .second, .val (.double (FP.i2d p1)), .second, iv 0, iv 0, iv 0] [])) _
    refine XS.iconst X8.here hx rfl (hb hby at_52) ?_
    refine XS.goto X8.here hx rfl (pc0 := 53) (pc' := 57) rfl (hb hby at_53) (by decide) (by decide) ?_
    exact retN X8 hx (t := .boolean) Bd.returns (by simp) (hb hby at_57) hr
  · exact ⟨rfl, N8⟩
theorem rm0 (l : Launch) (Z : State) (a0 : Array Value) (hw : ∀ d ∈ tables_1, d.before a0 Z = true) (ws : List Jvm.Cond) (p0 p1 : Int32) (h0 : Heap) (n0 : Nat) (FF : Facts Z Z.heap) (OO : Old Z n0 h0) :
    MetFree l x (head1 (Jvm.Cond.code x code maxLocals ret :: ws) room_1) (fun a U => a = #[(.int p0), (.int p1)] ∧ Z.Warmed39 U.vm ∧ U.heap = h0) (fun _ _ _ _ _ => True) (fun _ U o U' => ∃ v L, o = .returned v ∧ (v = some (.int (1 : Int32)) ∧ Fr n0 L) ∧ FrameEnd U o U' L room_1.cells room_1.slots) := by
  exact rm0_0 l Z a0 hw ws p0 p1 h0 n0 FF OO
set_option maxRecDepth 65536 in
set_option maxHeartbeats 40000000 in
theorem comes_1 {Post : Tables → Env → Array Value → State → Outcome → State → Prop} (hpost : ∀ tb e args s v u, (limb_1_1.after args s (.returned v) u = true ∧ limb_1_2.after args s (.returned v) u = true ∧ True) → FrameEnd s (.returned v) u (Jvm.fieldLocs frame_1_writes args s ++ Jvm.arrayLocs frame_1_arrays args s ++ Jvm.staticLocs frame_1_statics s) 16 128 → Post tb e args s (.returned v) u) :
    ArmFor flags0 classFile x code maxLocals ret World_1 tables_1 room_1 Calls_1 rest_1 Pre_1 Post := by
  intro l hfl _ _ p e ha hc hk s m args below hf hA hF happ hP
  obtain ⟨hcalls, hrest, hpre⟩ := hP
  obtain ⟨-, -, -, hnamed, -, -, -, hat⟩ := (Spec.applies_iff hf).mp happ
  obtain ⟨hg, hn⟩ := and_e (Cond.before_iff.mp (show (Jvm.Cond.and given_1 narrow_1).before args s = true from hpre))
  obtain ⟨gc, gr0⟩ := and_e hg
  obtain ⟨gi0, gr1⟩ := and_e gr0
  obtain ⟨w0, w1, rfl⟩ : ∃ w0 w1 : Value, args = #[w0, w1] := by
    have hs : args.size = 2 := by simpa [Cond.value, given_1] using gc
    obtain ⟨L⟩ := args
    match L, hs with
    | [w0, w1], _ => exact ⟨w0, w1, rfl⟩
  have hw := fun d (hd : d ∈ tables_1) => atoms_spec (ws := Jvm.Cond.code x code maxLocals ret :: tables_1) hat d (List.mem_cons_of_mem _ hd)
  obtain ⟨i0, ei0⟩ := is_v gi0
  obtain rfl : w0 = (.int i0) := Option.some.inj ei0
  obtain ⟨i1, ei1⟩ := is_v gr1
  obtain rfl : w1 = (.int i1) := Option.some.inj ei1
  have FF : Facts s s.heap := trivial
  obtain ⟨n, o, h1, h2, h3, _, L, rfl, ⟨rfl, N⟩, hq⟩ := rm0 l s _ hw tables_1 i0 i1 s.heap s.heap.size FF (Old.start s) p e ha hc hk s m _ below hf ((Spec.applies_iff_loose hf).mp happ).1 ⟨rfl, State.Warmed39.refl s, rfl⟩ trivial
  refine ⟨n, _, h1, h2, h3, hpost _ _ _ _ _ _ ⟨Cond.after_iff.mpr rfl, Cond.after_iff.mpr (eq_i res_at (Term.int_eval (1)) rfl), trivial⟩ ⟨hq.1, hq.2.1, (hq.2.2.sift fun y hy => Or.inr (N y hy)).mono (by decide) (by decide)⟩⟩
theorem main_1_1 : Claimed_1_1 := comes_1 fun _ _ _ _ _ _ h hF => ⟨h.1, hF⟩
theorem main_1_2 : Claimed_1_2 := comes_1 fun _ _ _ _ _ _ h hF => ⟨h.2.1, hF⟩
end Jvm.Pilot.@@N@@
namespace Jvm.Pilot.@@N@@
open Jvm Jvm.ClassFile Sem Op Lib Jvm.Free Jvm.Stand Jvm.Pilot.@@N@@.Jvm.D
/-! MADE BY PROGRAM (witnessworld.py) out of the Statement's table words and the real class files: 10 classes; the members and pool entries that the words name. The judged class is class 1, her method 1. -/
namespace start1
open Jvm.ClassFile
def u (s : String) : CpInfo := .utf8 (stringToUtf16 s)
/-- a pool by its gaps: so many unusable entries, then the entry; so many at the end -/
def gap : Nat → List CpInfo → List CpInfo
  | 0, r => r
  | n + 1, r => .unusable :: gap n r
def poolList (es : List (Nat × CpInfo)) (last : Nat) : List CpInfo := es.foldr (fun e r => gap e.1 (e.2 :: r)) (gap last [])
def pool (es : List (Nat × CpInfo)) (last : Nat) : Array CpInfo := ⟨poolList es last⟩
def fileOf (pool : Array CpInfo) (this : Nat) (attrs : Array Attribute := #[]) (ms : Array MethodInfo := #[]) (fl : Nat := 33) (sup : Nat := 0) (ifs : Array Nat := #[]) (fds : Array FieldInfo := #[]) : ClassFile where
  minorVersion := 0
  majorVersion := 65
  constantPool := pool
  accessFlags := fl
  thisClass := this
  superClass := sup
  interfaces := ifs
  fields := fds
  methods := ms
  attributes := attrs
def plain (name : String) (sup : Option ClassId) : Class where
  name := name
  kind := .ordinary
  loader := none
  accessFlags := 33
  super := sup
  interfaces := #[]
  cf := none
  fields := #[]
  methods := #[]
  instanceTypes := #[]
  staticTypes := #[]
  resolved := #[]
  callSites := []
  init := .initialized
  statics := none
  mirror := none

def pool0 : Array CpInfo := pool [(5, u "<init>"), (0, u "()V"), (1, .class_ 10), (1, u "java/lang/Object")] 113

def k0c0 : Code := { maxStack := 0, maxLocals := 1, code := object_method_1_code, exceptionTable := #[], attributes := #[] }
def k0m0 : Method := { name := "<init>", desc := "()V", sig := { parameters := [], returnType := none }, accessFlags := 1, code := some k0c0 }
/-- java/lang/Object -/
def k0 : Class := { plain "java/lang/Object" none with
  accessFlags := 33
  interfaces := #[]
  cf := some (fileOf pool0 8 #[] #[{ accessFlags := 1, nameIndex := 5, descriptorIndex := 6, attributes := #[] }] 33 0 #[] #[])
  fields := #[]
  methods := #[k0m0]
  instanceTypes := #[]
  staticTypes := #[]
  resolved := Array.replicate 124 none
  statics := none }

def pool1 : Array CpInfo := pool [(2, .class_ 4), (0, .nameAndType 5 6), (0, u "java/lang/Object"), (0, u "<init>"), (0, u "()V"), (0, .class_ 8), (0, u "com/example/rekurze/rekurze/numeric/ComponentSolver$Progress"), (0, .methodref 7 3), (0, .methodref 7 11), (0, .nameAndType 12 13), (0, u "isAtRest"), (0, u "(D)Z"), (0, .class_ 15), (0, u "com/example/rekurze/rekurze/numeric/ProgressIsAtRestPinLaw"), (2, u "law"), (0, u "(II)Z")] 7

def k1m0 : Method := { name := "<init>", desc := "()V", sig := { parameters := [], returnType := none }, accessFlags := 1, code := none }
def k1c1 : Code := { maxStack := 3, maxLocals := 10, code := code, exceptionTable := #[], attributes := #[] }
def k1m1 : Method := { name := "law", desc := "(II)Z", sig := { parameters := [.int, .int], returnType := some .boolean }, accessFlags := 9, code := some k1c1 }
/-- com/example/rekurze/rekurze/numeric/ProgressIsAtRestPinLaw -/
def k1 : Class := { plain "com/example/rekurze/rekurze/numeric/ProgressIsAtRestPinLaw" (some 0) with
  accessFlags := 49
  interfaces := #[]
  cf := some (fileOf pool1 14 #[] #[{ accessFlags := 1, nameIndex := 5, descriptorIndex := 6, attributes := #[] }, { accessFlags := 9, nameIndex := 18, descriptorIndex := 19, attributes := #[] }] 49 2 #[] #[])
  fields := #[]
  methods := #[k1m0, k1m1]
  instanceTypes := #[]
  staticTypes := #[]
  resolved := Array.replicate 27 none
  statics := none }

def pool2 : Array CpInfo := pool [(1, .methodref 2 3), (0, .class_ 4), (0, .nameAndType 5 6), (0, u "java/lang/Object"), (0, u "<init>"), (0, u "()V"), (2, .double 9218868437227405312), (1, .fieldref 12 13), (0, .class_ 14), (0, .nameAndType 15 16), (0, u "com/example/rekurze/rekurze/numeric/ComponentSolver$Progress"), (0, u "previous"), (0, u "D"), (2, u "iterations"), (0, u "I"), (2, u "decompositions"), (0, .fieldref 12 25), (0, .nameAndType 26 27), (0, u "exhausted"), (0, u "Z"), (0, .methodref 29 30), (0, .class_ 31), (0, .nameAndType 32 33), (0, u "com/example/rekurze/rekurze/numeric/ComponentSolver"), (0, u "isConverged"), (0, u "(DD)Z"), (0, u "fruitless"), (0, u "visited"), (3, u "isAtRest"), (0, u "(D)Z")] 6

def k2c0 : Code := { maxStack := 3, maxLocals := 1, code := prog_33_method_1_code, exceptionTable := #[], attributes := #[] }
def k2m0 : Method := { name := "<init>", desc := "()V", sig := { parameters := [], returnType := none }, accessFlags := 0, code := some k2c0 }
def k2c1 : Code := { maxStack := 4, maxLocals := 3, code := prog_33_method_4_code, exceptionTable := #[], attributes := #[] }
def k2m1 : Method := { name := "isAtRest", desc := "(D)Z", sig := { parameters := [.double], returnType := some .boolean }, accessFlags := 0, code := some k2c1 }
/-- com/example/rekurze/rekurze/numeric/ComponentSolver$Progress -/
def k2 : Class := { plain "com/example/rekurze/rekurze/numeric/ComponentSolver$Progress" (some 0) with
  accessFlags := 48
  interfaces := #[]
  cf := some (fileOf pool2 12 #[.nestHost 29] #[{ accessFlags := 0, nameIndex := 5, descriptorIndex := 6, attributes := #[] }, { accessFlags := 0, nameIndex := 39, descriptorIndex := 40, attributes := #[] }] 48 2 #[] #[{ accessFlags := 2, nameIndex := 19, descriptorIndex := 20, attributes := #[] }, { accessFlags := 2, nameIndex := 23, descriptorIndex := 20, attributes := #[] }, { accessFlags := 2, nameIndex := 15, descriptorIndex := 16, attributes := #[] }, { accessFlags := 2, nameIndex := 34, descriptorIndex := 20, attributes := #[] }, { accessFlags := 2, nameIndex := 26, descriptorIndex := 27, attributes := #[] }, { accessFlags := 2, nameIndex := 35, descriptorIndex := 27, attributes := #[] }])
  fields := #[{ name := "iterations", type := .int, accessFlags := 2, slot := 0, constantValue := 0 }, { name := "decompositions", type := .int, accessFlags := 2, slot := 1, constantValue := 0 }, { name := "previous", type := .double, accessFlags := 2, slot := 2, constantValue := 0 }, { name := "fruitless", type := .int, accessFlags := 2, slot := 3, constantValue := 0 }, { name := "exhausted", type := .boolean, accessFlags := 2, slot := 4, constantValue := 0 }, { name := "visited", type := .boolean, accessFlags := 2, slot := 5, constantValue := 0 }]
  methods := #[k2m0, k2m1]
  instanceTypes := #[.int, .int, .double, .int, .boolean, .boolean]
  staticTypes := #[]
  resolved := Array.replicate 47 none
  statics := none }

def pool3 : Array CpInfo := pool [(2, .class_ 4), (1, u "java/lang/Object"), (3, .class_ 10), (1, u "com/example/rekurze/rekurze/numeric/ComponentSolver"), (0, u "ladder"), (0, u "Lcom/example/rekurze/rekurze/numeric/Ladder;"), (4, u "evaluator"), (0, u "Lcom/example/rekurze/rekurze/numeric/ExactEvaluator;"), (3, u "variables"), (0, u "[I"), (2, u "local"), (2, u "progress"), (0, u "Lcom/example/rekurze/rekurze/numeric/ComponentSolver$Progress;"), (2, u "inputsMoved"), (0, u "Z"), (14, u "unitBits"), (0, u "I"), (10, u "grain"), (0, u "D"), (3, u "[Ljava/math/BigInteger;"), (6, u "low"), (2, u "high"), (5, u "below"), (3, u "Lcom/example/rekurze/rekurze/numeric/Ladder$Below;"), (2, u "field17"), (2, .class_ 94), (1, u "com/example/rekurze/rekurze/numeric/ComponentSolver$Progress"), (80, u "isConverged"), (0, u "(DD)Z"), (8, .class_ 187), (1, u "com/example/rekurze/rekurze/numeric/ComponentSolver$Outcome"), (221, .double 4620693217682128896), (1, u "MAX_ITERATIONS"), (2, u "STALLS"), (1, u "LINEAR"), (0, u "FRUITLESS"), (0, u "WIDENING")] 18

def k3c0 : Code := { maxStack := 6, maxLocals := 4, code := prog_31_method_28_code, exceptionTable := #[], attributes := #[] }
def k3m0 : Method := { name := "isConverged", desc := "(DD)Z", sig := { parameters := [.double, .double], returnType := some .boolean }, accessFlags := 10, code := some k3c0 }
/-- com/example/rekurze/rekurze/numeric/ComponentSolver -/
def k3 : Class := { plain "com/example/rekurze/rekurze/numeric/ComponentSolver" (some 0) with
  accessFlags := 48
  interfaces := #[]
  cf := some (fileOf pool3 8 #[.nestMembers #[185, 92]] #[{ accessFlags := 10, nameIndex := 175, descriptorIndex := 176, attributes := #[] }] 48 2 #[] #[{ accessFlags := 26, nameIndex := 411, descriptorIndex := 50, attributes := #[] }, { accessFlags := 26, nameIndex := 414, descriptorIndex := 50, attributes := #[] }, { accessFlags := 26, nameIndex := 416, descriptorIndex := 62, attributes := #[] }, { accessFlags := 26, nameIndex := 417, descriptorIndex := 50, attributes := #[] }, { accessFlags := 26, nameIndex := 418, descriptorIndex := 62, attributes := #[] }, { accessFlags := 18, nameIndex := 11, descriptorIndex := 12, attributes := #[] }, { accessFlags := 18, nameIndex := 17, descriptorIndex := 18, attributes := #[] }, { accessFlags := 18, nameIndex := 22, descriptorIndex := 23, attributes := #[] }, { accessFlags := 18, nameIndex := 26, descriptorIndex := 23, attributes := #[] }, { accessFlags := 18, nameIndex := 29, descriptorIndex := 30, attributes := #[] }, { accessFlags := 18, nameIndex := 33, descriptorIndex := 34, attributes := #[] }, { accessFlags := 18, nameIndex := 49, descriptorIndex := 50, attributes := #[] }, { accessFlags := 18, nameIndex := 61, descriptorIndex := 62, attributes := #[] }, { accessFlags := 18, nameIndex := 73, descriptorIndex := 66, attributes := #[] }, { accessFlags := 18, nameIndex := 76, descriptorIndex := 66, attributes := #[] }, { accessFlags := 18, nameIndex := 82, descriptorIndex := 86, attributes := #[] }, { accessFlags := 2, nameIndex := 89, descriptorIndex := 66, attributes := #[] }])
  fields := #[{ name := "MAX_ITERATIONS", type := .int, accessFlags := 26, slot := 0, constantValue := 0 }, { name := "STALLS", type := .int, accessFlags := 26, slot := 1, constantValue := 0 }, { name := "LINEAR", type := .double, accessFlags := 26, slot := 2, constantValue := 0 }, { name := "FRUITLESS", type := .int, accessFlags := 26, slot := 3, constantValue := 0 }, { name := "WIDENING", type := .double, accessFlags := 26, slot := 4, constantValue := 0 }, { name := "ladder", type := (.object "com/example/rekurze/rekurze/numeric/Ladder"), accessFlags := 18, slot := 0, constantValue := 0 }, { name := "evaluator", type := (.object "com/example/rekurze/rekurze/numeric/ExactEvaluator"), accessFlags := 18, slot := 1, constantValue := 0 }, { name := "variables", type := (.array .int), accessFlags := 18, slot := 2, constantValue := 0 }, { name := "local", type := (.array .int), accessFlags := 18, slot := 3, constantValue := 0 }, { name := "progress", type := (.object "com/example/rekurze/rekurze/numeric/ComponentSolver$Progress"), accessFlags := 18, slot := 4, constantValue := 0 }, { name := "inputsMoved", type := .boolean, accessFlags := 18, slot := 5, constantValue := 0 }, { name := "unitBits", type := .int, accessFlags := 18, slot := 6, constantValue := 0 }, { name := "grain", type := .double, accessFlags := 18, slot := 7, constantValue := 0 }, { name := "low", type := (.array (.object "java/math/BigInteger")), accessFlags := 18, slot := 8, constantValue := 0 }, { name := "high", type := (.array (.object "java/math/BigInteger")), accessFlags := 18, slot := 9, constantValue := 0 }, { name := "below", type := (.object "com/example/rekurze/rekurze/numeric/Ladder$Below"), accessFlags := 18, slot := 10, constantValue := 0 }, { name := "field17", type := (.array (.object "java/math/BigInteger")), accessFlags := 2, slot := 11, constantValue := 0 }]
  methods := #[k3m0]
  instanceTypes := #[(.object "com/example/rekurze/rekurze/numeric/Ladder"), (.object "com/example/rekurze/rekurze/numeric/ExactEvaluator"), (.array .int), (.array .int), (.object "com/example/rekurze/rekurze/numeric/ComponentSolver$Progress"), .boolean, .int, .double, (.array (.object "java/math/BigInteger")), (.array (.object "java/math/BigInteger")), (.object "com/example/rekurze/rekurze/numeric/Ladder$Below"), (.array (.object "java/math/BigInteger"))]
  staticTypes := #[.int, .int, .double, .int, .double]
  resolved := Array.replicate 437 none
  statics := none }

def pool4 : Array CpInfo := pool [(1, u "java/lang/Cloneable"), (0, .class_ 1), (0, u "java/lang/Object"), (0, .class_ 3)] 3

/-- java/lang/Cloneable -/
def k4 : Class := { plain "java/lang/Cloneable" (some 0) with
  accessFlags := 1537
  interfaces := #[]
  cf := some (fileOf pool4 2 #[] #[] 1537 4 #[] #[])
  fields := #[]
  methods := #[]
  instanceTypes := #[]
  staticTypes := #[]
  resolved := Array.replicate 8 none
  statics := none }

def pool5 : Array CpInfo := pool [(1, u "java/io/Serializable"), (0, .class_ 1), (0, u "java/lang/Object"), (0, .class_ 3)] 3

/-- java/io/Serializable -/
def k5 : Class := { plain "java/io/Serializable" (some 0) with
  accessFlags := 1537
  interfaces := #[]
  cf := some (fileOf pool5 2 #[] #[] 1537 4 #[] #[])
  fields := #[]
  methods := #[]
  instanceTypes := #[]
  staticTypes := #[]
  resolved := Array.replicate 8 none
  statics := none }

/-- the primitive byte -/
def k6 : Class := { plain "byte" none with kind := .primitive 'B', accessFlags := 0x411 }
/-- [B -/
def k7 : Class := { plain "[B" (some 0) with kind := .array 6 .byte, interfaces := #[4, 5], accessFlags := 1041 }

/-- the primitive int -/
def k8 : Class := { plain "int" none with kind := .primitive 'I', accessFlags := 0x411 }
/-- [I -/
def k9 : Class := { plain "[I" (some 0) with kind := .array 8 .int, interfaces := #[4, 5], accessFlags := 1041 }

def heap : Heap := #[]
def classes : Array Class := #[k0, k1, k2, k3, k4, k5, k6, k7, k8, k9]
def interned : List (Array UInt16 × Addr) := []
def slotsUsed : Nat := 0
def theMethod : MethodId := ⟨1, 1⟩
def args0 : Array Value := #[.int 5, .int 5]
def aboutOver (below : List Frame) : State where
  vm := { classes := classes, interned := interned.toArray }
  heap := heap
  slotsUsed := slotsUsed
  threads := #[{ frames := .invoking theMethod args0 :: below }]
def below0 : List Frame := [.native { method := ⟨0, 0⟩, args := #[] }]
def about1 : State := aboutOver below0
def p0 : Program := .bare "" "" ""
def e0 : Env := launch0.env 0 0 0
theorem w_frames : about1.frames = Frame.invoking theMethod args0 :: below0 := rfl
set_option maxRecDepth 65536 in
theorem w_args : argsFit about1.vm theMethod args0 = true := by decide +kernel
set_option maxRecDepth 65536 in
theorem w_heap : heapFits about1 = true := by decide +kernel
set_option maxRecDepth 65536 in
theorem w_runnable : about1.curStatus? = some .runnable := by decide +kernel
set_option maxRecDepth 65536 in
theorem w_alone : about1.alone = true := by decide +kernel
set_option maxRecDepth 65536 in
theorem w_named : about1.methodNamed? x = some theMethod := by decide +kernel
set_option maxRecDepth 65536 in
theorem w_hears : about1.hears theMethod below0 = true := by decide +kernel
set_option maxRecDepth 65536 in
theorem w_ripe : about1.ripe theMethod args0 below0 = true := by decide +kernel
theorem w_running : about1.status = .running := rfl
set_option maxRecDepth 65536 in
theorem w_room : about1.hasRoom e0.platform room_1 = true :=
  launch0.hasRoom_least _ room_1 (by decide +kernel) (by decide +kernel) (by decide +kernel) (by decide +kernel) (by decide +kernel) (by decide +kernel)
theorem allAtoms_all (ts : List Jvm.Cond) (a : Array Jvm.Value) (st : Jvm.State) : (allAtoms ts).before a st = ts.all (fun c => c.before a st) := by
  induction ts with
  | nil => rfl
  | cons c t ih =>
    show (Jvm.Cond.and c (allAtoms t)).before a st = _
    rw [Jvm.Cond.before_and, ih, List.all_cons]
def words1 : List Jvm.Cond := Jvm.Cond.code x code maxLocals ret :: tables_1
/-- a 'code' word, met by the world's own term for the bytes: nothing is compared byte by byte -/
theorem code_word {y : MethodName} {bytes : ByteArray} {mx : Nat} {rt : Option FieldType} {a : Array Value} {s : State} {m : MethodId} {meth : Method} {c : Code} (h1 : s.methodNamed? y = some m) (h2 : s.vm.method? m = some meth) (h3 : meth.code = some c) (h4 : c.code = bytes)
    (h5 : (c.maxLocals == mx && c.exceptionTable.isEmpty && decide (c.maxStack ≤ mostOperands) && decide (meth.sig.returnType = rt) && !meth.locks && decide (parseMethodDescriptor y.desc = some meth.sig)) = true) : (Jvm.Cond.code y bytes mx rt).before a s = true := by
  simp only [Bool.and_eq_true, beq_iff_eq, Bool.not_eq_true', decide_eq_true_eq] at h5
  obtain ⟨⟨⟨⟨⟨g1, g2⟩, g3⟩, g4⟩, g5⟩, g6⟩ := h5
  simp [Cond.before, Cond.holds, Cond.value, h1, h2, h3, h4, g1, g2, g3, g4, g5, g6]
def isCode : Jvm.Cond → Bool
  | .code _ _ _ _ => true
  | _ => false
theorem all_split {L : List Jvm.Cond} {P : Jvm.Cond → Bool} (h1 : L.all (fun c => isCode c || P c) = true) (h2 : ∀ c ∈ L.filter isCode, P c = true) : L.all P = true := by
  refine List.all_eq_true.mpr fun c hc => ?_
  have h := List.all_eq_true.mp h1 c hc
  rcases Bool.eq_false_or_eq_true (isCode c) with hi | hi
  · exact h2 c (List.mem_filter.mpr ⟨hc, hi⟩)
  · simpa [hi] using h
set_option maxRecDepth 65536 in
theorem w_c0 : (Jvm.Cond.code x code maxLocals ret).before args0 about1 = true := code_word (m := ⟨1, 1⟩) (meth := k1m1) (c := k1c1) (by decide +kernel) rfl rfl rfl (by decide +kernel)
set_option maxRecDepth 65536 in
theorem w_c1 : (Jvm.Cond.code ({ cls := "com/example/rekurze/rekurze/numeric/ComponentSolver$Progress", name := "<init>", desc := "()V" } : Jvm.MethodName) prog_33_method_1_code (1 : Nat) (Option.none : Option Jvm.ClassFile.FieldType)).before args0 about1 = true := code_word (m := ⟨2, 0⟩) (meth := k2m0) (c := k2c0) (by decide +kernel) rfl rfl rfl (by decide +kernel)
set_option maxRecDepth 65536 in
theorem w_c2 : (Jvm.Cond.code ({ cls := "java/lang/Object", name := "<init>", desc := "()V" } : Jvm.MethodName) object_method_1_code (1 : Nat) (Option.none : Option Jvm.ClassFile.FieldType)).before args0 about1 = true := code_word (m := ⟨0, 0⟩) (meth := k0m0) (c := k0c0) (by decide +kernel) rfl rfl rfl (by decide +kernel)
set_option maxRecDepth 65536 in
theorem w_c3 : (Jvm.Cond.code ({ cls := "com/example/rekurze/rekurze/numeric/ComponentSolver$Progress", name := "isAtRest", desc := "(D)Z" } : Jvm.MethodName) prog_33_method_4_code (3 : Nat) (Option.some Jvm.ClassFile.FieldType.boolean)).before args0 about1 = true := code_word (m := ⟨2, 1⟩) (meth := k2m1) (c := k2c1) (by decide +kernel) rfl rfl rfl (by decide +kernel)
set_option maxRecDepth 65536 in
theorem w_c4 : (Jvm.Cond.code ({ cls := "com/example/rekurze/rekurze/numeric/ComponentSolver", name := "isConverged", desc := "(DD)Z" } : Jvm.MethodName) prog_31_method_28_code (4 : Nat) (Option.some Jvm.ClassFile.FieldType.boolean)).before args0 about1 = true := code_word (m := ⟨3, 0⟩) (meth := k3m0) (c := k3c0) (by decide +kernel) rfl rfl rfl (by decide +kernel)
def codes1 : List Jvm.Cond := [Jvm.Cond.code x code maxLocals ret, Jvm.Cond.code ({ cls := "com/example/rekurze/rekurze/numeric/ComponentSolver$Progress", name := "<init>", desc := "()V" } : Jvm.MethodName) prog_33_method_1_code (1 : Nat) (Option.none : Option Jvm.ClassFile.FieldType), Jvm.Cond.code ({ cls := "java/lang/Object", name := "<init>", desc := "()V" } : Jvm.MethodName) object_method_1_code (1 : Nat) (Option.none : Option Jvm.ClassFile.FieldType), Jvm.Cond.code ({ cls := "com/example/rekurze/rekurze/numeric/ComponentSolver$Progress", name := "isAtRest", desc := "(D)Z" } : Jvm.MethodName) prog_33_method_4_code (3 : Nat) (Option.some Jvm.ClassFile.FieldType.boolean), Jvm.Cond.code ({ cls := "com/example/rekurze/rekurze/numeric/ComponentSolver", name := "isConverged", desc := "(DD)Z" } : Jvm.MethodName) prog_31_method_28_code (4 : Nat) (Option.some Jvm.ClassFile.FieldType.boolean)]
set_option maxRecDepth 65536 in
theorem codes_eq : words1.filter isCode = codes1 := rfl
theorem w_codes : ∀ c ∈ words1.filter isCode, c.before args0 about1 = true := by
  rw [codes_eq]
  intro c hc
  simp only [codes1, List.mem_cons, List.not_mem_nil, or_false] at hc
  rcases hc with rfl | rfl | rfl | rfl | rfl
  · exact w_c0
  · exact w_c1
  · exact w_c2
  · exact w_c3
  · exact w_c4
set_option maxRecDepth 65536 in
theorem w_t1 : (words1.take 24).all (fun c => isCode c || c.before args0 about1) = true := by decide +kernel
set_option maxRecDepth 65536 in
theorem w_t2 : (words1.drop 24).all (fun c => isCode c || c.before args0 about1) = true := by decide +kernel
theorem w_tables : (allAtoms (Jvm.Cond.code x code maxLocals ret :: tables_1)).before args0 about1 = true := by
  rw [allAtoms_all]
  show words1.all (fun c => c.before args0 about1) = true
  refine all_split ?_ w_codes
  rw [← List.take_append_drop 24 words1, List.all_append, w_t1, w_t2]
  rfl
set_option maxRecDepth 65536 in
theorem w_case : (Jvm.Cond.and given_1 narrow_1).before args0 about1 = true := by decide +kernel
theorem w_applies : (headSpec (Jvm.Cond.code x code maxLocals ret :: tables_1) room_1).applies x e0.platform about1 = true :=
  (Spec.applies_iff w_frames).mpr ⟨w_running, w_runnable, w_alone, w_named, w_hears, w_ripe, w_room, w_tables⟩
theorem atStart : AtStart classFile x code maxLocals ret World_1 tables_1 room_1 Calls_1 rest_1 Pre_1 launch0 p0 e0 about1 theMethod args0 below0 :=
  ⟨lists_1, trivial, launch0.admits_env _ _ _, launch0.least_env, fairChoices_fair.cas, fairChoices_fair.clock, w_frames, w_args, w_heap, w_applies, trivial, trivial, w_case⟩
end start1
theorem witness_1 : WitnessClaimed_1 := ⟨start1.p0, start1.e0, start1.about1, start1.theMethod, start1.args0, start1.below0, start1.atStart⟩
end Jvm.Pilot.@@N@@

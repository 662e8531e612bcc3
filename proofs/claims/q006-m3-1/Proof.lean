import JvmDerived
import JvmDerived.Pilot.@@N@@Statement
import JvmDerived.Pilot.@@N@@Code
set_option linter.unusedVariables false
set_option linter.unusedSimpArgs false
namespace Jvm.RoadKit
open Sem ClassFile Op Lib Jvm.Stand Jvm.Free Jvm.LawKit
section New
variable {p : Program} {l : Launch} {e : Env} {R : Room} {s : State} {m : MethodId} {args : Array Value} {below : List Frame} {meth : Method} {c : Code} {T : State} {locs : List Loc} {cells slots : Nat}
theorem retI (X : Stand p l e R s m args below meth c T locs cells slots) (hx : p.tables.exec = Jvm.exec) {pc : Nat} {Ls : Array Slot} {z : Int32} {rest : List Value} (hret : meth.sig.returnType = some .int) (hd : decode c.code pc = .ok (.ireturn, 1)) {fs : List Frame}
    (hl : ∀ (f : JFrame) (acts : List Action), f.method = m → f.locked = none → f.entered = [] → (doReturn e (T.setTop f) acts (some (.int z))).1 = T.setFrames fs) : Steps p.tables e below (T.setTop (mkF m pc Ls (.int z :: rest))) (T.setFrames fs) := by
  have hm' : T.vm.method? m = some meth := X.method'
  have hn : narrow .int (.int z) = .int z := rfl
  show Steps p.tables e below (T.setTop { method := m, pc := pc, locals := Ls, stack := _ :: rest, locked := none }) _
  jvm_step X.here [X.here.top, hx, hd, hm', hret, hn]
  first | (intro acts; rw [hl _ acts rfl rfl rfl]) | rw [hl _ _ rfl rfl rfl]
  exact Steps.refl _
end New
end Jvm.RoadKit
namespace Jvm.Pilot.@@N@@
open Jvm Jvm.ClassFile Sem Op Lib Jvm.Free Jvm.Stand Jvm.LawKit Jvm.RoadKit Bundle Jvm.Pilot.@@N@@.Jvm.D
theorem own_lit {r c : Int32} {v : Int} (e : c.toInt = v) (h : r.toInt = v) : r = c := Int32.toInt_inj.mp (h.trans e.symm)
theorem own_eqi {args : Array Value} {first s : State} {o : Option Outcome} {idx : List Nat} {t : Jvm.Term} {n : Int32} (h : (Jvm.Cond.eq t (Jvm.Term.int n)).value args first o s idx = some true) : t.eval args first o idx s = some (.int n) := by
  obtain ⟨x, y, h1, h2, h3, -⟩ := cmp_v (Or.inl h)
  have h4 := h2.symm.trans (Term.int_eval n)
  cases h4
  cases x with
  | int i => have h5 := gotT (Cond.eq_ints h1 h2) h; rw [h1, h5]
  | _ => first | (obtain ⟨z, hz⟩ := h3; cases hz; done) | exact absurd h3.2 (by simp [Value.isRef])
theorem own_eqL {args : Array Value} {first s : State} {o : Option Outcome} {idx : List Nat} {t : Jvm.Term} {n : Int64} (h : (Jvm.Cond.eq t (Jvm.Term.long n)).value args first o s idx = some true) : t.eval args first o idx s = some (.long n) := by
  obtain ⟨x, y, h1, h2, h3, -⟩ := cmp_v (Or.inl h)
  have h4 : y = .long n := Option.some.inj (h2.symm.trans rfl)
  subst h4
  cases x with
  | long i => have h5 := gotT (eq_L h1 h2) h; rw [h1, h5]
  | _ => first | (obtain ⟨z, hz⟩ := h3; cases hz; done) | exact absurd h3.2 (by simp [Value.isRef])
theorem own_le {Z : State} {n0 : Nat} {h : Heap} (O : Old Z n0 h) : n0 ≤ h.size := O.1 ▸ O.2.1
theorem own_leZ {Z : State} {n0 : Nat} {h : Heap} {y : Addr} (O : Old Z n0 h) (g : n0 ≤ y) : Z.heap.size ≤ y := O.1 ▸ g
def own_Ar (Z : State) (h : Heap) (a : Addr) (ty : FieldType) (n : Int32) : Prop := ∃ c : Cell, Arr Z h a c ty ∧ c.slots.size.toInt32 = n
def own_El (Z : State) (h : Heap) (a : Addr) (ty : FieldType) (j : Int32) (v : Value) : Prop := ∃ c : Cell, Arr Z h a c ty ∧ ¬ (j < 0 ∨ c.slots.size ≤ j.toNatClampNeg) ∧ c.slots[j.toNatClampNeg]? = some v
theorem own_Ar.ext {Z : State} {h h' : Heap} {a : Addr} {ty : FieldType} {n : Int32} (E : Ext h h') (F : own_Ar Z h a ty n) : own_Ar Z h' a ty n := by obtain ⟨c, A, r⟩ := F; exact ⟨c, A.ext E, r⟩
theorem own_El.ext {Z : State} {h h' : Heap} {a : Addr} {ty : FieldType} {j : Int32} {v : Value} (E : Ext h h') (F : own_El Z h a ty j v) : own_El Z h' a ty j v := by obtain ⟨c, A, r⟩ := F; exact ⟨c, A.ext E, r⟩
theorem own_Ar.start {s : State} {args : Array Value} {t : Jvm.Term} {a : Addr} {c : Cell} {ty : FieldType} {n : Int32} (ev : t.eval args s none [] s = some (.ref a)) (A : Arr s s.heap a c ty) (hl : (Jvm.Term.length t).eval args s none [] s = some (.int n)) : own_Ar s s.heap a ty n := by
  obtain ⟨c', h1, h2⟩ := length_at hl ev
  cases A.1.symm.trans h1
  exact ⟨c, A, h2⟩
theorem own_El.start {s : State} {args : Array Value} {t : Jvm.Term} {a : Addr} {c : Cell} {ty : FieldType} {j : Int32} {v : Value} (ev : t.eval args s none [] s = some (.ref a)) (A : Arr s s.heap a c ty) (he : (Jvm.Term.elem t (Jvm.Term.int j)).eval args s none [] s = some v) : own_El s s.heap a ty j v := by
  obtain ⟨c', h1, h2, h3⟩ := elem_at he ev (Term.int_eval j)
  cases A.1.symm.trans h1
  exact ⟨c, A, h2, h3⟩
theorem own_pct (p0 : Int32) : ¬ ((((p0 &&& (2147483647 : Int32)) % (100 : Int32)) + (1 : Int32)) < (1 : Int32)) ∧ ¬ ((100 : Int32) < (((p0 &&& (2147483647 : Int32)) % (100 : Int32)) + (1 : Int32))) := by
  have h1 := c_mask p0 (2147483647 : Int32) 31 (by decide) (by decide)
  have h0 : 0 ≤ (p0 &&& (2147483647 : Int32)).toInt := by rw [h1]; exact Int.emod_nonneg _ (by decide)
  have h2 := (c_irem (p0 &&& (2147483647 : Int32)) (100 : Int32) 100 rfl).1 h0
  have h3 := c_iadd ((p0 &&& (2147483647 : Int32)) % (100 : Int32)) (1 : Int32)
  have h4 := rng32 (((p0 &&& (2147483647 : Int32)) % (100 : Int32)) + (1 : Int32))
  have e1 : (1 : Int32).toInt = 1 := rfl
  have e2 : (100 : Int32).toInt = 100 := rfl
  simp only [Int32.lt_iff_toInt_lt]
  generalize ((p0 &&& (2147483647 : Int32)) % (100 : Int32)) = r at *
  generalize (r + 1).toInt = t at *
  omega
theorem own_255 (x : Int32) : ¬ ((255 : Int32) < (x &&& (255 : Int32))) := by
  have h := c_and x (255 : Int32) (by decide)
  have e2 : (255 : Int32).toInt = 255 := rfl
  simp only [Int32.lt_iff_toInt_lt]
  omega
theorem own_255c (x : Int32) : ¬ ((255 : Int32) < (nar .char (x &&& (255 : Int32)))) := by
  have h : nar .char (x &&& (255 : Int32)) = x &&& (255 : Int32) := i2c_mask x
  rw [h]; exact own_255 x
theorem own_split0 (p3 : Int32) : ((p3 &&& (2147483647 : Int32)) % (3 : Int32)) = (0 : Int32) ∨ ((p3 &&& (2147483647 : Int32)) % (3 : Int32)) = (1 : Int32) ∨ ((p3 &&& (2147483647 : Int32)) % (3 : Int32)) = (2 : Int32) := by
  have h1 := c_mask p3 (2147483647 : Int32) 31 (by decide) (by decide)
  have h0 : 0 ≤ (p3 &&& (2147483647 : Int32)).toInt := by rw [h1]; exact Int.emod_nonneg _ (by decide)
  have h2 := (c_irem (p3 &&& (2147483647 : Int32)) (3 : Int32) 3 rfl).1 h0
  have h3 : ((p3 &&& (2147483647 : Int32)) % (3 : Int32)).toInt = 0 ∨ ((p3 &&& (2147483647 : Int32)) % (3 : Int32)).toInt = 1 ∨ ((p3 &&& (2147483647 : Int32)) % (3 : Int32)).toInt = 2 := by omega
  rcases h3 with h | h | h
  · exact Or.inl (own_lit rfl h)
  · exact Or.inr (Or.inl (own_lit rfl h))
  · exact Or.inr (Or.inr (own_lit rfl h))
def Facts (Z : State) (h : Heap) (cs : Int32) : Prop :=
  Sta Z h "java/lang/String" "COMPACT_STRINGS" "Z" (.int cs) ∧
  ¬ (cs = (0 : Int32))
theorem fx_S_COMPACT_STRINGS {Z : State} {h : Heap} {cs : Int32} (F : Facts Z h cs) : Sta Z h "java/lang/String" "COMPACT_STRINGS" "Z" (.int cs) := F.1
theorem fx_cs_nz {Z : State} {h : Heap} {cs : Int32} (F : Facts Z h cs) : ¬ (cs = (0 : Int32)) := F.2
theorem w_0 {Z : State} {a0 : Array Value} (hw : ∀ d ∈ tables_1, d.before a0 Z = true) : (Jvm.Cond.constant "com/example/deferra/deferra/formats/FieldsRequireWholePercentPinLaw" (7 : Nat) (2147483647 : Int32)).before a0 Z = true := hw _ (List.mem_of_getElem? (i := 0) rfl)
theorem w_1 {Z : State} {a0 : Array Value} (hw : ∀ d ∈ tables_1, d.before a0 Z = true) : (Jvm.Cond.methodLink "com/example/deferra/deferra/formats/FieldsRequireWholePercentPinLaw" (13 : Nat) ({ cls := "java/lang/String", name := "valueOf", desc := "(C)Ljava/lang/String;" } : Jvm.MethodName)).before a0 Z = true := hw _ (List.mem_of_getElem? (i := 1) rfl)
theorem w_2 {Z : State} {a0 : Array Value} (hw : ∀ d ∈ tables_1, d.before a0 Z = true) : (Jvm.Cond.static ({ cls := "java/lang/String", name := "valueOf", desc := "(C)Ljava/lang/String;" } : Jvm.MethodName)).before a0 Z = true := hw _ (List.mem_of_getElem? (i := 2) rfl)
theorem w_3 {Z : State} {a0 : Array Value} (hw : ∀ d ∈ tables_1, d.before a0 Z = true) : (Jvm.Cond.initialized "java/lang/String").before a0 Z = true := hw _ (List.mem_of_getElem? (i := 3) rfl)
theorem w_4 {Z : State} {a0 : Array Value} (hw : ∀ d ∈ tables_1, d.before a0 Z = true) : (Jvm.Cond.code ({ cls := "java/lang/String", name := "valueOf", desc := "(C)Ljava/lang/String;" } : Jvm.MethodName) jdk_42_method_139_code (1 : Nat) (Option.some (Jvm.ClassFile.FieldType.object "java/lang/String"))).before a0 Z = true := hw _ (List.mem_of_getElem? (i := 4) rfl)
theorem w_5 {Z : State} {a0 : Array Value} (hw : ∀ d ∈ tables_1, d.before a0 Z = true) : (Jvm.Cond.fieldLink "java/lang/String" (38 : Nat) "java/lang/String" "COMPACT_STRINGS" "Z").before a0 Z = true := hw _ (List.mem_of_getElem? (i := 5) rfl)
theorem w_6 {Z : State} {a0 : Array Value} (hw : ∀ d ∈ tables_1, d.before a0 Z = true) : (Jvm.Cond.methodLink "java/lang/String" (1015 : Nat) ({ cls := "java/lang/StringLatin1", name := "canEncode", desc := "(C)Z" } : Jvm.MethodName)).before a0 Z = true := hw _ (List.mem_of_getElem? (i := 6) rfl)
theorem w_7 {Z : State} {a0 : Array Value} (hw : ∀ d ∈ tables_1, d.before a0 Z = true) : (Jvm.Cond.static ({ cls := "java/lang/StringLatin1", name := "canEncode", desc := "(C)Z" } : Jvm.MethodName)).before a0 Z = true := hw _ (List.mem_of_getElem? (i := 7) rfl)
theorem w_8 {Z : State} {a0 : Array Value} (hw : ∀ d ∈ tables_1, d.before a0 Z = true) : (Jvm.Cond.initialized "java/lang/StringLatin1").before a0 Z = true := hw _ (List.mem_of_getElem? (i := 8) rfl)
theorem w_9 {Z : State} {a0 : Array Value} (hw : ∀ d ∈ tables_1, d.before a0 Z = true) : (Jvm.Cond.code ({ cls := "java/lang/StringLatin1", name := "canEncode", desc := "(C)Z" } : Jvm.MethodName) jdk_43_method_3_code (1 : Nat) (Option.some Jvm.ClassFile.FieldType.boolean)).before a0 Z = true := hw _ (List.mem_of_getElem? (i := 9) rfl)
theorem w_10 {Z : State} {a0 : Array Value} (hw : ∀ d ∈ tables_1, d.before a0 Z = true) : (Jvm.Cond.classLink "java/lang/String" (10 : Nat) "java/lang/String").before a0 Z = true := hw _ (List.mem_of_getElem? (i := 10) rfl)
theorem w_11 {Z : State} {a0 : Array Value} (hw : ∀ d ∈ tables_1, d.before a0 Z = true) : (Jvm.Cond.instantiable "java/lang/String" (4 : Nat)).before a0 Z = true := hw _ (List.mem_of_getElem? (i := 11) rfl)
theorem w_12 {Z : State} {a0 : Array Value} (hw : ∀ d ∈ tables_1, d.before a0 Z = true) : (Jvm.Cond.methodLink "java/lang/String" (1018 : Nat) ({ cls := "java/lang/StringLatin1", name := "toBytes", desc := "(C)[B" } : Jvm.MethodName)).before a0 Z = true := hw _ (List.mem_of_getElem? (i := 12) rfl)
theorem w_13 {Z : State} {a0 : Array Value} (hw : ∀ d ∈ tables_1, d.before a0 Z = true) : (Jvm.Cond.static ({ cls := "java/lang/StringLatin1", name := "toBytes", desc := "(C)[B" } : Jvm.MethodName)).before a0 Z = true := hw _ (List.mem_of_getElem? (i := 13) rfl)
theorem w_14 {Z : State} {a0 : Array Value} (hw : ∀ d ∈ tables_1, d.before a0 Z = true) : (Jvm.Cond.code ({ cls := "java/lang/StringLatin1", name := "toBytes", desc := "(C)[B" } : Jvm.MethodName) jdk_43_method_46_code (1 : Nat) (Option.some (Jvm.ClassFile.FieldType.array Jvm.ClassFile.FieldType.byte))).before a0 Z = true := hw _ (List.mem_of_getElem? (i := 14) rfl)
theorem w_15 {Z : State} {a0 : Array Value} (hw : ∀ d ∈ tables_1, d.before a0 Z = true) : (Jvm.Cond.arrayClass Jvm.ClassFile.FieldType.byte).before a0 Z = true := hw _ (List.mem_of_getElem? (i := 15) rfl)
theorem w_16 {Z : State} {a0 : Array Value} (hw : ∀ d ∈ tables_1, d.before a0 Z = true) : (Jvm.Cond.methodLink "java/lang/String" (209 : Nat) ({ cls := "java/lang/String", name := "<init>", desc := "([BB)V" } : Jvm.MethodName)).before a0 Z = true := hw _ (List.mem_of_getElem? (i := 16) rfl)
theorem w_17 {Z : State} {a0 : Array Value} (hw : ∀ d ∈ tables_1, d.before a0 Z = true) : (Jvm.Cond.instanceMethod ({ cls := "java/lang/String", name := "<init>", desc := "([BB)V" } : Jvm.MethodName)).before a0 Z = true := hw _ (List.mem_of_getElem? (i := 17) rfl)
theorem w_19 {Z : State} {a0 : Array Value} (hw : ∀ d ∈ tables_1, d.before a0 Z = true) : (Jvm.Cond.code ({ cls := "java/lang/String", name := "<init>", desc := "([BB)V" } : Jvm.MethodName) jdk_42_method_151_code (3 : Nat) (Option.none : Option Jvm.ClassFile.FieldType)).before a0 Z = true := hw _ (List.mem_of_getElem? (i := 19) rfl)
theorem w_20 {Z : State} {a0 : Array Value} (hw : ∀ d ∈ tables_1, d.before a0 Z = true) : (Jvm.Cond.methodLink "java/lang/String" (1 : Nat) ({ cls := "java/lang/Object", name := "<init>", desc := "()V" } : Jvm.MethodName)).before a0 Z = true := hw _ (List.mem_of_getElem? (i := 20) rfl)
theorem w_21 {Z : State} {a0 : Array Value} (hw : ∀ d ∈ tables_1, d.before a0 Z = true) : (Jvm.Cond.instanceMethod ({ cls := "java/lang/Object", name := "<init>", desc := "()V" } : Jvm.MethodName)).before a0 Z = true := hw _ (List.mem_of_getElem? (i := 21) rfl)
theorem w_22 {Z : State} {a0 : Array Value} (hw : ∀ d ∈ tables_1, d.before a0 Z = true) : (Jvm.Cond.code ({ cls := "java/lang/Object", name := "<init>", desc := "()V" } : Jvm.MethodName) object_method_1_code (1 : Nat) (Option.none : Option Jvm.ClassFile.FieldType)).before a0 Z = true := hw _ (List.mem_of_getElem? (i := 22) rfl)
theorem w_23 {Z : State} {a0 : Array Value} (hw : ∀ d ∈ tables_1, d.before a0 Z = true) : (Jvm.Cond.fieldLink "java/lang/String" (9 : Nat) "java/lang/String" "value" "[B").before a0 Z = true := hw _ (List.mem_of_getElem? (i := 23) rfl)
theorem w_24 {Z : State} {a0 : Array Value} (hw : ∀ d ∈ tables_1, d.before a0 Z = true) : (Jvm.Cond.laysFinal "java/lang/String" "java/lang/String" "value" "[B").before a0 Z = true := hw _ (List.mem_of_getElem? (i := 24) rfl)
theorem w_25 {Z : State} {a0 : Array Value} (hw : ∀ d ∈ tables_1, d.before a0 Z = true) : (Jvm.Cond.fieldLink "java/lang/String" (15 : Nat) "java/lang/String" "coder" "B").before a0 Z = true := hw _ (List.mem_of_getElem? (i := 25) rfl)
theorem w_26 {Z : State} {a0 : Array Value} (hw : ∀ d ∈ tables_1, d.before a0 Z = true) : (Jvm.Cond.laysFinal "java/lang/String" "java/lang/String" "coder" "B").before a0 Z = true := hw _ (List.mem_of_getElem? (i := 26) rfl)
theorem w_27 {Z : State} {a0 : Array Value} (hw : ∀ d ∈ tables_1, d.before a0 Z = true) : (Jvm.Cond.methodLink "com/example/deferra/deferra/formats/FieldsRequireWholePercentPinLaw" (17 : Nat) ({ cls := "com/example/deferra/deferra/formats/Fields", name := "requireWholePercent", desc := "(Ljava/lang/String;I)V" } : Jvm.MethodName)).before a0 Z = true := hw _ (List.mem_of_getElem? (i := 27) rfl)
theorem w_28 {Z : State} {a0 : Array Value} (hw : ∀ d ∈ tables_1, d.before a0 Z = true) : (Jvm.Cond.static ({ cls := "com/example/deferra/deferra/formats/Fields", name := "requireWholePercent", desc := "(Ljava/lang/String;I)V" } : Jvm.MethodName)).before a0 Z = true := hw _ (List.mem_of_getElem? (i := 28) rfl)
theorem w_29 {Z : State} {a0 : Array Value} (hw : ∀ d ∈ tables_1, d.before a0 Z = true) : (Jvm.Cond.initialized "com/example/deferra/deferra/formats/Fields").before a0 Z = true := hw _ (List.mem_of_getElem? (i := 29) rfl)
theorem w_30 {Z : State} {a0 : Array Value} (hw : ∀ d ∈ tables_1, d.before a0 Z = true) : (Jvm.Cond.code ({ cls := "com/example/deferra/deferra/formats/Fields", name := "requireWholePercent", desc := "(Ljava/lang/String;I)V" } : Jvm.MethodName) prog_40_method_8_code (2 : Nat) (Option.none : Option Jvm.ClassFile.FieldType)).before a0 Z = true := hw _ (List.mem_of_getElem? (i := 30) rfl)
theorem w_31 {Z : State} {a0 : Array Value} (hw : ∀ d ∈ tables_1, d.before a0 Z = true) : (Jvm.Cond.arrayClass Jvm.ClassFile.FieldType.char).before a0 Z = true := hw _ (List.mem_of_getElem? (i := 31) rfl)
theorem w_32 {Z : State} {a0 : Array Value} (hw : ∀ d ∈ tables_1, d.before a0 Z = true) : (Jvm.Cond.classLink "com/example/deferra/deferra/formats/FieldsRequireWholePercentPinLaw" (8 : Nat) "java/lang/String").before a0 Z = true := hw _ (List.mem_of_getElem? (i := 32) rfl)
theorem w_33 {Z : State} {a0 : Array Value} (hw : ∀ d ∈ tables_1, d.before a0 Z = true) : (Jvm.Cond.methodLink "com/example/deferra/deferra/formats/FieldsRequireWholePercentPinLaw" (10 : Nat) ({ cls := "java/lang/String", name := "<init>", desc := "([C)V" } : Jvm.MethodName)).before a0 Z = true := hw _ (List.mem_of_getElem? (i := 33) rfl)
theorem w_34 {Z : State} {a0 : Array Value} (hw : ∀ d ∈ tables_1, d.before a0 Z = true) : (Jvm.Cond.instanceMethod ({ cls := "java/lang/String", name := "<init>", desc := "([C)V" } : Jvm.MethodName)).before a0 Z = true := hw _ (List.mem_of_getElem? (i := 34) rfl)
theorem w_35 {Z : State} {a0 : Array Value} (hw : ∀ d ∈ tables_1, d.before a0 Z = true) : (Jvm.Cond.code ({ cls := "java/lang/String", name := "<init>", desc := "([C)V" } : Jvm.MethodName) jdk_42_method_3_code (2 : Nat) (Option.none : Option Jvm.ClassFile.FieldType)).before a0 Z = true := hw _ (List.mem_of_getElem? (i := 35) rfl)
theorem w_36 {Z : State} {a0 : Array Value} (hw : ∀ d ∈ tables_1, d.before a0 Z = true) : (Jvm.Cond.methodLink "java/lang/String" (27 : Nat) ({ cls := "java/lang/String", name := "<init>", desc := "([CIILjava/lang/Void;)V" } : Jvm.MethodName)).before a0 Z = true := hw _ (List.mem_of_getElem? (i := 36) rfl)
theorem w_37 {Z : State} {a0 : Array Value} (hw : ∀ d ∈ tables_1, d.before a0 Z = true) : (Jvm.Cond.instanceMethod ({ cls := "java/lang/String", name := "<init>", desc := "([CIILjava/lang/Void;)V" } : Jvm.MethodName)).before a0 Z = true := hw _ (List.mem_of_getElem? (i := 37) rfl)
theorem w_38 {Z : State} {a0 : Array Value} (hw : ∀ d ∈ tables_1, d.before a0 Z = true) : (Jvm.Cond.code ({ cls := "java/lang/String", name := "<init>", desc := "([CIILjava/lang/Void;)V" } : Jvm.MethodName) jdk_42_method_149_code (6 : Nat) (Option.none : Option Jvm.ClassFile.FieldType)).before a0 Z = true := hw _ (List.mem_of_getElem? (i := 38) rfl)
theorem w_39 {Z : State} {a0 : Array Value} (hw : ∀ d ∈ tables_1, d.before a0 Z = true) : (Jvm.Cond.methodLink "java/lang/String" (177 : Nat) ({ cls := "java/lang/StringUTF16", name := "compress", desc := "([CII)[B" } : Jvm.MethodName)).before a0 Z = true := hw _ (List.mem_of_getElem? (i := 39) rfl)
theorem w_40 {Z : State} {a0 : Array Value} (hw : ∀ d ∈ tables_1, d.before a0 Z = true) : (Jvm.Cond.static ({ cls := "java/lang/StringUTF16", name := "compress", desc := "([CII)[B" } : Jvm.MethodName)).before a0 Z = true := hw _ (List.mem_of_getElem? (i := 40) rfl)
theorem w_41 {Z : State} {a0 : Array Value} (hw : ∀ d ∈ tables_1, d.before a0 Z = true) : (Jvm.Cond.initialized "java/lang/StringUTF16").before a0 Z = true := hw _ (List.mem_of_getElem? (i := 41) rfl)
theorem w_42 {Z : State} {a0 : Array Value} (hw : ∀ d ∈ tables_1, d.before a0 Z = true) : (Jvm.Cond.code ({ cls := "java/lang/StringUTF16", name := "compress", desc := "([CII)[B" } : Jvm.MethodName) jdk_52_method_16_code (6 : Nat) (Option.some (Jvm.ClassFile.FieldType.array Jvm.ClassFile.FieldType.byte))).before a0 Z = true := hw _ (List.mem_of_getElem? (i := 42) rfl)
theorem w_43 {Z : State} {a0 : Array Value} (hw : ∀ d ∈ tables_1, d.before a0 Z = true) : (Jvm.Cond.methodLink "java/lang/StringUTF16" (115 : Nat) ({ cls := "java/lang/StringUTF16", name := "compress", desc := "([CI[BII)I" } : Jvm.MethodName)).before a0 Z = true := hw _ (List.mem_of_getElem? (i := 43) rfl)
theorem w_44 {Z : State} {a0 : Array Value} (hw : ∀ d ∈ tables_1, d.before a0 Z = true) : (Jvm.Cond.static ({ cls := "java/lang/StringUTF16", name := "compress", desc := "([CI[BII)I" } : Jvm.MethodName)).before a0 Z = true := hw _ (List.mem_of_getElem? (i := 44) rfl)
theorem w_45 {Z : State} {a0 : Array Value} (hw : ∀ d ∈ tables_1, d.before a0 Z = true) : (Jvm.Cond.code ({ cls := "java/lang/StringUTF16", name := "compress", desc := "([CI[BII)I" } : Jvm.MethodName) jdk_52_method_21_code (7 : Nat) (Option.some Jvm.ClassFile.FieldType.int)).before a0 Z = true := hw _ (List.mem_of_getElem? (i := 45) rfl)
theorem w_46 {Z : State} {a0 : Array Value} (hw : ∀ d ∈ tables_1, d.before a0 Z = true) : (Jvm.Cond.methodLink "java/lang/String" (47 : Nat) ({ cls := "java/lang/StringUTF16", name := "coderFromArrayLen", desc := "([BI)B" } : Jvm.MethodName)).before a0 Z = true := hw _ (List.mem_of_getElem? (i := 46) rfl)
theorem w_47 {Z : State} {a0 : Array Value} (hw : ∀ d ∈ tables_1, d.before a0 Z = true) : (Jvm.Cond.static ({ cls := "java/lang/StringUTF16", name := "coderFromArrayLen", desc := "([BI)B" } : Jvm.MethodName)).before a0 Z = true := hw _ (List.mem_of_getElem? (i := 47) rfl)
theorem w_48 {Z : State} {a0 : Array Value} (hw : ∀ d ∈ tables_1, d.before a0 Z = true) : (Jvm.Cond.code ({ cls := "java/lang/StringUTF16", name := "coderFromArrayLen", desc := "([BI)B" } : Jvm.MethodName) jdk_52_method_15_code (2 : Nat) (Option.some Jvm.ClassFile.FieldType.byte)).before a0 Z = true := hw _ (List.mem_of_getElem? (i := 48) rfl)
theorem pn_0 : plainName "com/example/deferra/deferra/formats/FieldsRequireWholePercentPinLaw" = true := by first | (simp [plainName, overriddenIn]; done) | decide +kernel
theorem ef_0 (m : MethodId) (x0 : Int32) (x1 : Int32) (x2 : Int32) (x3 : Int32) : entryFrame m #[(.int x0), (.int x1), (.int x2), (.int x3)] maxLocals = mkF m 0 #[.val (.int x0), .val (.int x1), .val (.int x2), .val (.int x3), .unset, .unset, .unset, .unset] [] := by first | (simp [entryFrame, mkF, argsToLocals, Value.category, maxLocals]; done) | rfl
theorem d1_0 : decode jdk_42_method_139_code 0 = .ok (.getstatic 38, 3) := by decide +kernel
theorem d1_3 : decode jdk_42_method_139_code 3 = .ok (.ifCond .eq 23, 3) := by decide +kernel
theorem d1_6 : decode jdk_42_method_139_code 6 = .ok (.iload_n 0, 1) := by decide +kernel
theorem d1_7 : decode jdk_42_method_139_code 7 = .ok (.invokestatic 1015, 3) := by decide +kernel
theorem d1_10 : decode jdk_42_method_139_code 10 = .ok (.ifCond .eq 16, 3) := by decide +kernel
theorem d1_13 : decode jdk_42_method_139_code 13 = .ok (.new 10, 3) := by decide +kernel
theorem d1_16 : decode jdk_42_method_139_code 16 = .ok (.dup, 1) := by decide +kernel
theorem d1_17 : decode jdk_42_method_139_code 17 = .ok (.iload_n 0, 1) := by decide +kernel
theorem d1_18 : decode jdk_42_method_139_code 18 = .ok (.invokestatic 1018, 3) := by decide +kernel
theorem d1_21 : decode jdk_42_method_139_code 21 = .ok (.iconst 0, 1) := by decide +kernel
theorem d1_22 : decode jdk_42_method_139_code 22 = .ok (.invokespecial 209, 3) := by decide +kernel
theorem d1_25 : decode jdk_42_method_139_code 25 = .ok (.areturn, 1) := by decide +kernel
theorem pn_1 : plainName "java/lang/String" = true := by first | (simp [plainName, overriddenIn]; done) | decide +kernel
theorem ef_1 (m : MethodId) (x0 : Int32) : entryFrame m #[(.int x0)] 1 = mkF m 0 #[.val (.int x0)] [] := by first | (simp [entryFrame, mkF, argsToLocals, Value.category]; done) | rfl
theorem d2_0 : decode jdk_43_method_3_code 0 = .ok (.iload_n 0, 1) := by decide +kernel
theorem d2_1 : decode jdk_43_method_3_code 1 = .ok (.sipush 255, 3) := by decide +kernel
theorem d2_4 : decode jdk_43_method_3_code 4 = .ok (.if_icmp .gt 7, 3) := by decide +kernel
theorem d2_7 : decode jdk_43_method_3_code 7 = .ok (.iconst 1, 1) := by decide +kernel
theorem d2_8 : decode jdk_43_method_3_code 8 = .ok (.goto 4, 3) := by decide +kernel
theorem d2_12 : decode jdk_43_method_3_code 12 = .ok (.ireturn, 1) := by decide +kernel
theorem pn_2 : plainName "java/lang/StringLatin1" = true := by first | (simp [plainName, overriddenIn]; done) | decide +kernel
theorem ef_2 (m : MethodId) (x0 : Int32) : entryFrame m #[(.int x0)] 1 = mkF m 0 #[.val (.int x0)] [] := by first | (simp [entryFrame, mkF, argsToLocals, Value.category]; done) | rfl
theorem d3_0 : decode jdk_43_method_46_code 0 = .ok (.iconst 1, 1) := by decide +kernel
theorem d3_1 : decode jdk_43_method_46_code 1 = .ok (.newarray .byte, 2) := by decide +kernel
theorem d3_3 : decode jdk_43_method_46_code 3 = .ok (.dup, 1) := by decide +kernel
theorem d3_4 : decode jdk_43_method_46_code 4 = .ok (.iconst 0, 1) := by decide +kernel
theorem d3_5 : decode jdk_43_method_46_code 5 = .ok (.iload_n 0, 1) := by decide +kernel
theorem d3_6 : decode jdk_43_method_46_code 6 = .ok (.i2b, 1) := by decide +kernel
theorem d3_7 : decode jdk_43_method_46_code 7 = .ok (.bastore, 1) := by decide +kernel
theorem d3_8 : decode jdk_43_method_46_code 8 = .ok (.areturn, 1) := by decide +kernel
theorem pn_3 : plainName "java/lang/StringLatin1" = true := by first | (simp [plainName, overriddenIn]; done) | decide +kernel
theorem ef_3 (m : MethodId) (x0 : Int32) : entryFrame m #[(.int x0)] 1 = mkF m 0 #[.val (.int x0)] [] := by first | (simp [entryFrame, mkF, argsToLocals, Value.category]; done) | rfl
theorem d4_0 : decode jdk_42_method_151_code 0 = .ok (.aload_n 0, 1) := by decide +kernel
theorem d4_1 : decode jdk_42_method_151_code 1 = .ok (.invokespecial 1, 3) := by decide +kernel
theorem d4_4 : decode jdk_42_method_151_code 4 = .ok (.aload_n 0, 1) := by decide +kernel
theorem d4_5 : decode jdk_42_method_151_code 5 = .ok (.aload_n 1, 1) := by decide +kernel
theorem d4_6 : decode jdk_42_method_151_code 6 = .ok (.putfield 9, 3) := by decide +kernel
theorem d4_9 : decode jdk_42_method_151_code 9 = .ok (.aload_n 0, 1) := by decide +kernel
theorem d4_10 : decode jdk_42_method_151_code 10 = .ok (.iload_n 2, 1) := by decide +kernel
theorem d4_11 : decode jdk_42_method_151_code 11 = .ok (.putfield 15, 3) := by decide +kernel
theorem d4_14 : decode jdk_42_method_151_code 14 = .ok (.return_, 1) := by decide +kernel
theorem pn_4 : plainName "java/lang/String" = true := by first | (simp [plainName, overriddenIn]; done) | decide +kernel
theorem ef_4 (m : MethodId) (x0 : Addr) (x1 : Addr) (x2 : Int32) : entryFrame m #[(.ref x0), (.ref x1), (.int x2)] 3 = mkF m 0 #[.val (.ref x0), .val (.ref x1), .val (.int x2)] [] := by first | (simp [entryFrame, mkF, argsToLocals, Value.category]; done) | rfl
theorem d6_0 : decode prog_40_method_8_code 0 = .ok (.iload_n 1, 1) := by decide +kernel
theorem d6_1 : decode prog_40_method_8_code 1 = .ok (.iconst 1, 1) := by decide +kernel
theorem d6_2 : decode prog_40_method_8_code 2 = .ok (.if_icmp .lt 9, 3) := by decide +kernel
theorem d6_5 : decode prog_40_method_8_code 5 = .ok (.iload_n 1, 1) := by decide +kernel
theorem d6_6 : decode prog_40_method_8_code 6 = .ok (.bipush 100, 2) := by decide +kernel
theorem d6_8 : decode prog_40_method_8_code 8 = .ok (.if_icmp .le 18, 3) := by decide +kernel
theorem d6_26 : decode prog_40_method_8_code 26 = .ok (.return_, 1) := by decide +kernel
theorem pn_6 : plainName "com/example/deferra/deferra/formats/Fields" = true := by first | (simp [plainName, overriddenIn]; done) | decide +kernel
theorem ef_6 (m : MethodId) (x0 : Addr) (x1 : Int32) : entryFrame m #[(.ref x0), (.int x1)] 2 = mkF m 0 #[.val (.ref x0), .val (.int x1)] [] := by first | (simp [entryFrame, mkF, argsToLocals, Value.category]; done) | rfl
theorem d7_0 : decode jdk_42_method_3_code 0 = .ok (.aload_n 0, 1) := by decide +kernel
theorem d7_1 : decode jdk_42_method_3_code 1 = .ok (.aload_n 1, 1) := by decide +kernel
theorem d7_2 : decode jdk_42_method_3_code 2 = .ok (.iconst 0, 1) := by decide +kernel
theorem d7_3 : decode jdk_42_method_3_code 3 = .ok (.aload_n 1, 1) := by decide +kernel
theorem d7_4 : decode jdk_42_method_3_code 4 = .ok (.arraylength, 1) := by decide +kernel
theorem d7_5 : decode jdk_42_method_3_code 5 = .ok (.aconst_null, 1) := by decide +kernel
theorem d7_6 : decode jdk_42_method_3_code 6 = .ok (.invokespecial 27, 3) := by decide +kernel
theorem d7_9 : decode jdk_42_method_3_code 9 = .ok (.return_, 1) := by decide +kernel
theorem pn_7 : plainName "java/lang/String" = true := by first | (simp [plainName, overriddenIn]; done) | decide +kernel
theorem ef_7 (m : MethodId) (x0 : Addr) (x1 : Addr) : entryFrame m #[(.ref x0), (.ref x1)] 2 = mkF m 0 #[.val (.ref x0), .val (.ref x1)] [] := by first | (simp [entryFrame, mkF, argsToLocals, Value.category]; done) | rfl
theorem d8_0 : decode jdk_42_method_149_code 0 = .ok (.aload_n 0, 1) := by decide +kernel
theorem d8_1 : decode jdk_42_method_149_code 1 = .ok (.invokespecial 1, 3) := by decide +kernel
theorem d8_4 : decode jdk_42_method_149_code 4 = .ok (.iload_n 3, 1) := by decide +kernel
theorem d8_5 : decode jdk_42_method_149_code 5 = .ok (.ifCond .ne 22, 3) := by decide +kernel
theorem d8_27 : decode jdk_42_method_149_code 27 = .ok (.getstatic 38, 3) := by decide +kernel
theorem d8_30 : decode jdk_42_method_149_code 30 = .ok (.ifCond .eq 28, 3) := by decide +kernel
theorem d8_33 : decode jdk_42_method_149_code 33 = .ok (.aload_n 1, 1) := by decide +kernel
theorem d8_34 : decode jdk_42_method_149_code 34 = .ok (.iload_n 2, 1) := by decide +kernel
theorem d8_35 : decode jdk_42_method_149_code 35 = .ok (.iload_n 3, 1) := by decide +kernel
theorem d8_36 : decode jdk_42_method_149_code 36 = .ok (.invokestatic 177, 3) := by decide +kernel
theorem d8_39 : decode jdk_42_method_149_code 39 = .ok (.astore 5, 2) := by decide +kernel
theorem d8_41 : decode jdk_42_method_149_code 41 = .ok (.aload_n 0, 1) := by decide +kernel
theorem d8_42 : decode jdk_42_method_149_code 42 = .ok (.aload 5, 2) := by decide +kernel
theorem d8_44 : decode jdk_42_method_149_code 44 = .ok (.iload_n 3, 1) := by decide +kernel
theorem d8_45 : decode jdk_42_method_149_code 45 = .ok (.invokestatic 47, 3) := by decide +kernel
theorem d8_48 : decode jdk_42_method_149_code 48 = .ok (.putfield 15, 3) := by decide +kernel
theorem d8_51 : decode jdk_42_method_149_code 51 = .ok (.aload_n 0, 1) := by decide +kernel
theorem d8_52 : decode jdk_42_method_149_code 52 = .ok (.aload 5, 2) := by decide +kernel
theorem d8_54 : decode jdk_42_method_149_code 54 = .ok (.putfield 9, 3) := by decide +kernel
theorem d8_57 : decode jdk_42_method_149_code 57 = .ok (.return_, 1) := by decide +kernel
theorem pn_8 : plainName "java/lang/String" = true := by first | (simp [plainName, overriddenIn]; done) | decide +kernel
theorem ef_8 (m : MethodId) (x0 : Addr) (x1 : Addr) (x2 : Int32) (x3 : Int32) : entryFrame m #[(.ref x0), (.ref x1), (.int x2), (.int x3), .null] 6 = mkF m 0 #[.val (.ref x0), .val (.ref x1), .val (.int x2), .val (.int x3), .val .null, .unset] [] := by first | (simp [entryFrame, mkF, argsToLocals, Value.category]; done) | rfl
theorem d9_0 : decode jdk_52_method_16_code 0 = .ok (.iload_n 2, 1) := by decide +kernel
theorem d9_1 : decode jdk_52_method_16_code 1 = .ok (.newarray .byte, 2) := by decide +kernel
theorem d9_3 : decode jdk_52_method_16_code 3 = .ok (.astore_n 3, 1) := by decide +kernel
theorem d9_4 : decode jdk_52_method_16_code 4 = .ok (.aload_n 0, 1) := by decide +kernel
theorem d9_5 : decode jdk_52_method_16_code 5 = .ok (.iload_n 1, 1) := by decide +kernel
theorem d9_6 : decode jdk_52_method_16_code 6 = .ok (.aload_n 3, 1) := by decide +kernel
theorem d9_7 : decode jdk_52_method_16_code 7 = .ok (.iconst 0, 1) := by decide +kernel
theorem d9_8 : decode jdk_52_method_16_code 8 = .ok (.iload_n 2, 1) := by decide +kernel
theorem d9_9 : decode jdk_52_method_16_code 9 = .ok (.invokestatic 115, 3) := by decide +kernel
theorem d9_12 : decode jdk_52_method_16_code 12 = .ok (.istore 4, 2) := by decide +kernel
theorem d9_14 : decode jdk_52_method_16_code 14 = .ok (.iload 4, 2) := by decide +kernel
theorem d9_16 : decode jdk_52_method_16_code 16 = .ok (.iload_n 2, 1) := by decide +kernel
theorem d9_17 : decode jdk_52_method_16_code 17 = .ok (.if_icmp .eq 40, 3) := by decide +kernel
theorem d9_57 : decode jdk_52_method_16_code 57 = .ok (.aload_n 3, 1) := by decide +kernel
theorem d9_58 : decode jdk_52_method_16_code 58 = .ok (.areturn, 1) := by decide +kernel
theorem pn_9 : plainName "java/lang/StringUTF16" = true := by first | (simp [plainName, overriddenIn]; done) | decide +kernel
theorem ef_9 (m : MethodId) (x0 : Addr) (x1 : Int32) (x2 : Int32) : entryFrame m #[(.ref x0), (.int x1), (.int x2)] 6 = mkF m 0 #[.val (.ref x0), .val (.int x1), .val (.int x2), .unset, .unset, .unset] [] := by first | (simp [entryFrame, mkF, argsToLocals, Value.category]; done) | rfl
theorem d10_0 : decode jdk_52_method_21_code 0 = .ok (.iconst 0, 1) := by decide +kernel
theorem d10_1 : decode jdk_52_method_21_code 1 = .ok (.istore 5, 2) := by decide +kernel
theorem d10_3 : decode jdk_52_method_21_code 3 = .ok (.iload 5, 2) := by decide +kernel
theorem d10_5 : decode jdk_52_method_21_code 5 = .ok (.iload 4, 2) := by decide +kernel
theorem d10_7 : decode jdk_52_method_21_code 7 = .ok (.if_icmp .ge 37, 3) := by decide +kernel
theorem d10_10 : decode jdk_52_method_21_code 10 = .ok (.aload_n 0, 1) := by decide +kernel
theorem d10_11 : decode jdk_52_method_21_code 11 = .ok (.iload_n 1, 1) := by decide +kernel
theorem d10_12 : decode jdk_52_method_21_code 12 = .ok (.caload, 1) := by decide +kernel
theorem d10_13 : decode jdk_52_method_21_code 13 = .ok (.istore 6, 2) := by decide +kernel
theorem d10_15 : decode jdk_52_method_21_code 15 = .ok (.iload 6, 2) := by decide +kernel
theorem d10_17 : decode jdk_52_method_21_code 17 = .ok (.sipush 255, 3) := by decide +kernel
theorem d10_20 : decode jdk_52_method_21_code 20 = .ok (.if_icmp .le 6, 3) := by decide +kernel
theorem d10_26 : decode jdk_52_method_21_code 26 = .ok (.aload_n 2, 1) := by decide +kernel
theorem d10_27 : decode jdk_52_method_21_code 27 = .ok (.iload_n 3, 1) := by decide +kernel
theorem d10_28 : decode jdk_52_method_21_code 28 = .ok (.iload 6, 2) := by decide +kernel
theorem d10_30 : decode jdk_52_method_21_code 30 = .ok (.i2b, 1) := by decide +kernel
theorem d10_31 : decode jdk_52_method_21_code 31 = .ok (.bastore, 1) := by decide +kernel
theorem d10_32 : decode jdk_52_method_21_code 32 = .ok (.iinc 1 1, 3) := by decide +kernel
theorem d10_35 : decode jdk_52_method_21_code 35 = .ok (.iinc 3 1, 3) := by decide +kernel
theorem d10_38 : decode jdk_52_method_21_code 38 = .ok (.iinc 5 1, 3) := by decide +kernel
theorem d10_41 : decode jdk_52_method_21_code 41 = .ok (.goto (-38), 3) := by decide +kernel
theorem d10_44 : decode jdk_52_method_21_code 44 = .ok (.iload 4, 2) := by decide +kernel
theorem d10_46 : decode jdk_52_method_21_code 46 = .ok (.ireturn, 1) := by decide +kernel
theorem pn_10 : plainName "java/lang/StringUTF16" = true := by first | (simp [plainName, overriddenIn]; done) | decide +kernel
theorem ef_10 (m : MethodId) (x0 : Addr) (x1 : Int32) (x2 : Addr) (x3 : Int32) (x4 : Int32) : entryFrame m #[(.ref x0), (.int x1), (.ref x2), (.int x3), (.int x4)] 7 = mkF m 0 #[.val (.ref x0), .val (.int x1), .val (.ref x2), .val (.int x3), .val (.int x4), .unset, .unset] [] := by first | (simp [entryFrame, mkF, argsToLocals, Value.category]; done) | rfl
theorem d11_0 : decode jdk_52_method_15_code 0 = .ok (.iload_n 1, 1) := by decide +kernel
theorem d11_1 : decode jdk_52_method_15_code 1 = .ok (.aload_n 0, 1) := by decide +kernel
theorem d11_2 : decode jdk_52_method_15_code 2 = .ok (.arraylength, 1) := by decide +kernel
theorem d11_3 : decode jdk_52_method_15_code 3 = .ok (.isub, 1) := by decide +kernel
theorem d11_4 : decode jdk_52_method_15_code 4 = .ok (.bipush 31, 2) := by decide +kernel
theorem d11_6 : decode jdk_52_method_15_code 6 = .ok (.iushr, 1) := by decide +kernel
theorem d11_7 : decode jdk_52_method_15_code 7 = .ok (.i2b, 1) := by decide +kernel
theorem d11_8 : decode jdk_52_method_15_code 8 = .ok (.ireturn, 1) := by decide +kernel
theorem pn_11 : plainName "java/lang/StringUTF16" = true := by first | (simp [plainName, overriddenIn]; done) | decide +kernel
theorem ef_11 (m : MethodId) (x0 : Addr) (x1 : Int32) : entryFrame m #[(.ref x0), (.int x1)] 2 = mkF m 0 #[.val (.ref x0), .val (.int x1)] [] := by first | (simp [entryFrame, mkF, argsToLocals, Value.category]; done) | rfl
theorem pd_0 : parseMethodDescriptor "(C)Z" = some ⟨[.char], some .boolean⟩ := by decide +kernel
theorem pd_1 : parseMethodDescriptor "(C)[B" = some ⟨[.char], some (.array .byte)⟩ := by decide +kernel
theorem pd_2 : parseMethodDescriptor "([BB)V" = some ⟨[(.array .byte), .byte], none⟩ := by decide +kernel
theorem pd_3 : parseMethodDescriptor "(C)Ljava/lang/String;" = some ⟨[.char], some (.object "java/lang/String")⟩ := by decide +kernel
theorem pd_4 : parseMethodDescriptor "(Ljava/lang/String;I)V" = some ⟨[(.object "java/lang/String"), .int], none⟩ := by decide +kernel
theorem pd_5 : parseMethodDescriptor "([CI[BII)I" = some ⟨[(.array .char), .int, (.array .byte), .int, .int], some .int⟩ := by decide +kernel
theorem pd_6 : parseMethodDescriptor "([CII)[B" = some ⟨[(.array .char), .int, .int], some (.array .byte)⟩ := by decide +kernel
theorem pd_7 : parseMethodDescriptor "([BI)B" = some ⟨[(.array .byte), .int], some .byte⟩ := by decide +kernel
theorem pd_8 : parseMethodDescriptor "([CIILjava/lang/Void;)V" = some ⟨[(.array .char), .int, .int, (.object "java/lang/Void")], none⟩ := by decide +kernel
theorem pd_9 : parseMethodDescriptor "([C)V" = some ⟨[(.array .char)], none⟩ := by decide +kernel
def Q2_0 (Z : State) (cs : Int32) (t0 : Int32) (h0 : Heap) (n0 : Nat) (v : Option Value) (h : Heap) (L : List Loc) : Prop := v = some (.int 1) ∧ Fr n0 L ∧ h = h0
set_option maxRecDepth 65536 in
set_option maxHeartbeats 40000000 in
theorem rm2_0 (l : Launch) (Z : State) (a0 : Array Value) (hw : ∀ d ∈ tables_1, d.before a0 Z = true) (ws : List Jvm.Cond) (cs : Int32) (t0 : Int32) (h0 : Heap) (n0 : Nat) (FF : Facts Z Z.heap cs) (OO : Old Z n0 h0) (d0 : ¬ ((255 : Int32) < t0)) :
    MetFree l (⟨"java/lang/StringLatin1", "canEncode", "(C)Z"⟩ : MethodName) (head1 (Jvm.Cond.code (⟨"java/lang/StringLatin1", "canEncode", "(C)Z"⟩ : MethodName) jdk_43_method_3_code 1 (some .boolean) :: ws) ({ frames := 0, cells := 0, slots := 0, locals := 0 } : Room)) (fun a U => a = #[(.int t0)] ∧ Z.Warmed39 U.vm ∧ U.heap = h0) (fun _ _ _ _ _ => True) (fun _ U o U' => ∃ v L, o = .returned v ∧ Q2_0 Z cs t0 h0 n0 v U'.heap L ∧ FrameEnd U o U' L ({ frames := 0, cells := 0, slots := 0, locals := 0 } : Room).cells ({ frames := 0, cells := 0, slots := 0, locals := 0 } : Room).slots) := by
  refine MetFree.of_bodySF (plainFor_of_name pn_2) hisR ?_
  intro p e s m args below meth c s₁ Bd hml0 hP hK
  obtain ⟨rfl, hZ, hh⟩ := hP
  have hx := Bd.exec
  have hby := Bd.bytes
  have hml : c.maxLocals = 1 := hml0
  have hown : s.vm.findClass "java/lang/StringLatin1" = some m.cls := findClass_of_methodNamed Bd.named
  have X0 : Stand p l e ({ frames := 0, cells := 0, slots := 0, locals := 0 } : Room) s m #[(.int t0)] below meth c s₁ [] 0 0 := Stand.of_body Bd
  have e0 : s₁.heap = h0 := by rw [← hh, Bd.state]; rfl
  have N0 := Fr.nil n0
  have pre0 : ∀ t, Steps p.tables e below (s₁.setTop (mkF m 0 #[iv t0] [])) t → Steps p.tables e below (s₁.setTop (entryFrame m #[(.int t0)] 1)) t := fun t k => castTop (ef_2 m t0) k
  obtain ⟨fs, hr, hrun, hended, hW, hsame⟩ := X0.leave (v := some (.int 1)) (fun h => by rw [Bd.returns] at h; cases h)
  refine ⟨_, _, pre0 _ ?_, hrun, hended, _, _, rfl, ?_, ⟨_, rfl⟩, hW, hsame.mono (by decide) (by decide)⟩
  · show Steps p.tables e below (s₁.setTop (mkF m 0 #[iv t0] [])) _
    refine XS.iloadN X0.here hx rfl (hb hby d2_0) rfl ?_
    refine XS.sipush X0.here hx rfl (hb hby d2_1) ?_
    refine XS.icmpNo X0.here hx rfl (hb hby d2_4) rfl (flt d0).2.2.1 ?_
    refine XS.iconst X0.here hx rfl (hb hby d2_7) ?_
    show Steps p.tables e below (s₁.setTop (mkF m 8 #[iv t0] [(.int 1)])) _
    refine XS.goto X0.here hx rfl (pc0 := 8) (pc' := 12) rfl (hb hby d2_8) (by decide) (by decide) ?_
    exact retN X0 hx (t := .boolean) Bd.returns (by simp) (hb hby d2_12) hr
  · show Q2_0 Z cs t0 h0 n0 _ s₁.heap _
    exact ⟨rfl, N0, e0⟩
def Q3_0 (Z : State) (cs : Int32) (t0 : Int32) (h0 : Heap) (n0 : Nat) (v : Option Value) (h : Heap) (L : List Loc) : Prop := ∃ (o0 : Addr) (j0 : ClassId), v = some (.ref o0) ∧ Fr n0 L ∧ Keep h0 h [] ∧ h0.size ≤ o0 ∧ Exa Z h o0 "[B" ∧ Arv Z h o0 j0 .byte (1 : Int32) [(.int ((t0.toInt8.toInt32).toInt8.toInt32))] (.int 0)
set_option maxRecDepth 65536 in
set_option maxHeartbeats 40000000 in
theorem rm3_0 (l : Launch) (Z : State) (a0 : Array Value) (hw : ∀ d ∈ tables_1, d.before a0 Z = true) (ws : List Jvm.Cond) (cs : Int32) (t0 : Int32) (h0 : Heap) (n0 : Nat) (FF : Facts Z Z.heap cs) (OO : Old Z n0 h0) :
    MetFree l (⟨"java/lang/StringLatin1", "toBytes", "(C)[B"⟩ : MethodName) (head1 (Jvm.Cond.code (⟨"java/lang/StringLatin1", "toBytes", "(C)[B"⟩ : MethodName) jdk_43_method_46_code 1 (some (.array .byte)) :: ws) ({ frames := 0, cells := 1, slots := 1, locals := 0 } : Room)) (fun a U => a = #[(.int t0)] ∧ Z.Warmed39 U.vm ∧ U.heap = h0) (fun _ _ _ _ _ => True) (fun _ U o U' => ∃ v L, o = .returned v ∧ Q3_0 Z cs t0 h0 n0 v U'.heap L ∧ FrameEnd U o U' L ({ frames := 0, cells := 1, slots := 1, locals := 0 } : Room).cells ({ frames := 0, cells := 1, slots := 1, locals := 0 } : Room).slots) := by
  refine MetFree.of_bodySF (plainFor_of_name pn_3) hisR ?_
  intro p e s m args below meth c s₁ Bd hml0 hP hK
  obtain ⟨rfl, hZ, hh⟩ := hP
  have hx := Bd.exec
  have hby := Bd.bytes
  have hml : c.maxLocals = 1 := hml0
  have hown : s.vm.findClass "java/lang/StringLatin1" = some m.cls := findClass_of_methodNamed Bd.named
  have X0 : Stand p l e ({ frames := 0, cells := 1, slots := 1, locals := 0 } : Room) s m #[(.int t0)] below meth c s₁ [] 0 0 := Stand.of_body Bd
  have e0 : s₁.heap = h0 := by rw [← hh, Bd.state]; rfl
  have N0 := Fr.nil n0
  have pre0 : ∀ t, Steps p.tables e below (s₁.setTop (mkF m 0 #[iv t0] [])) t → Steps p.tables e below (s₁.setTop (entryFrame m #[(.int t0)] 1)) t := fun t k => castTop (ef_3 m t0) k
  obtain ⟨T1, h1, j0, X1, e1, E1, A1, B1, st1⟩ := newPE (aty := .byte) X0 hx hZ (w_15 hw) e0 (g := (mkF m 1 #[iv t0] [(.int 1)])) rfl (hb hby d3_1) rfl (by decide) (cap := 1) (by decide) (by decide) (by decide) (by decide) (ad := "[B") (by decide +kernel)
  obtain ⟨o0, g1⟩ : ∃ z, z = h0.size := ⟨_, rfl⟩
  rw [← g1] at A1 B1 st1
  have g2 : n0 ≤ o0 := Nat.le_trans (own_le OO) (Nat.le_of_eq g1.symm)
  have s3 : h0.size ≤ o0 := Nat.le_trans ((Keep.refl h0 [])).1 (Nat.le_of_eq g1.symm)
  have O1 := Old.ext OO E1
  have KK1 : Keep h0 h1 [] := Keep.ext (Keep.refl h0 []) E1
  have F4 : Arv Z h1 o0 j0 .byte (1 : Int32) [(.int 0)] (.int 0) := (Arv.new A1 (by decide)).pad (pad_rep [] (.int 0) 1)
  obtain ⟨c5, r5, q5, S5, M5, H5, G5⟩ := id F4
  have i6 : ¬ ((0 : Int32) < 0 ∨ c5.slots.size ≤ ((0 : Int32)).toNatClampNeg) := inb_of S5 ⟨by decide, by decide⟩
  obtain ⟨T7, h7, X7, e7, W7, st7⟩ := stB X1 hx hZ e1 r5 (j := (0 : Int32)) i6 (g := (mkF m 7 #[iv t0] [(.int (t0.toInt8.toInt32)), (.int 0), (.ref o0), (.ref o0)])) rfl rfl (hb hby d3_7)
  have O7 := Old.wr O1 W7 g2
  have KK7 : Keep h0 h7 [] := Keep.wr KK1 W7 (Or.inr s3)
  have N7 := Fr.snoc X7 N0 g2
  have F8 : Arv Z h7 o0 j0 .byte (1 : Int32) [(.int ((t0.toInt8.toInt32).toInt8.toInt32))] (.int 0) := Arv.set r5 q5 S5 M5 H5 G5 (fits_nar_byte _) W7 0 rfl (Nat.le_of_ble_eq_true rfl)
  have F9 : Exa Z h7 o0 "[B" := (Exa.wr W7 B1)
  obtain ⟨fs, hr, hrun, hended, hW, hsame⟩ := X7.leave (v := some (.ref o0)) (fun h => by rw [Bd.returns] at h; cases h)
  refine ⟨_, _, pre0 _ ?_, hrun, hended, _, _, rfl, ?_, ⟨_, rfl⟩, hW, hsame.mono (by decide) (by decide)⟩
  · show Steps p.tables e below (s₁.setTop (mkF m 0 #[iv t0] [])) _
    refine XS.iconst X0.here hx rfl (hb hby d3_0) ?_
    refine st1 _ ?_
    refine XS.dup X1.here hx rfl (hb hby d3_3) rfl rfl ?_
    refine XS.iconst X1.here hx rfl (hb hby d3_4) ?_
    show Steps p.tables e below (T1.setTop (mkF m 5 #[iv t0] [(.int 0), (.ref o0), (.ref o0)])) _
    refine XS.iloadN X1.here hx rfl (hb hby d3_5) rfl ?_
    refine XS.i2b X1.here hx rfl (hb hby d3_6) rfl ?_
    refine st7 _ ?_
    exact retOut X7 hx Bd.returns rfl (Or.inr (Or.inr (Or.inr (Or.inr ⟨rfl, rfl, rfl⟩)))) (hb hby d3_8) hr
  · show Q3_0 Z cs t0 h0 n0 _ T7.heap _
    rw [e7]
    exact ⟨o0, j0, rfl, N7, KK7, s3, F9, F8⟩
def Q4_0 (Z : State) (cs : Int32) (t0 : Int32) (o0 : Addr) (o1 : Addr) (h0 : Heap) (n0 : Nat) (v : Option Value) (h : Heap) (L : List Loc) : Prop := v = none ∧ Fr n0 L ∧ Keep h0 h [o0] ∧ Fld Z h o0 "java/lang/String" "value" "[B" (.ref o1) ∧ Exa Z h o0 "java/lang/String" ∧ Fld Z h o0 "java/lang/String" "coder" "B" (.int 0)
set_option maxRecDepth 65536 in
set_option maxHeartbeats 40000000 in
theorem rm4_0 (l : Launch) (Z : State) (a0 : Array Value) (hw : ∀ d ∈ tables_1, d.before a0 Z = true) (ws : List Jvm.Cond) (cs : Int32) (t0 : Int32) (o0 : Addr) (o1 : Addr) (h0 : Heap) (n0 : Nat) (FF : Facts Z Z.heap cs) (OO : Old Z n0 h0) (f0 : Fld Z h0 o0 "java/lang/String" "value" "[B" .null) (f1 : Exa Z h0 o0 "java/lang/String") (u0 : n0 ≤ o0) (f2 : Fld Z h0 o0 "java/lang/String" "coder" "B" (.int t0)) :
    MetFree l (⟨"java/lang/String", "<init>", "([BB)V"⟩ : MethodName) (head1 (Jvm.Cond.code (⟨"java/lang/String", "<init>", "([BB)V"⟩ : MethodName) jdk_42_method_151_code 3 none :: ws) ({ frames := 1, cells := 0, slots := 0, locals := 12 } : Room)) (fun a U => a = #[(.ref o0), (.ref o1), (.int 0)] ∧ Z.Warmed39 U.vm ∧ U.heap = h0) (fun _ _ _ _ _ => True) (fun _ U o U' => ∃ v L, o = .returned v ∧ Q4_0 Z cs t0 o0 o1 h0 n0 v U'.heap L ∧ FrameEnd U o U' L ({ frames := 1, cells := 0, slots := 0, locals := 12 } : Room).cells ({ frames := 1, cells := 0, slots := 0, locals := 12 } : Room).slots) := by
  refine MetFree.of_bodySF (plainFor_of_name pn_4) hisR ?_
  intro p e s m args below meth c s₁ Bd hml0 hP hK
  obtain ⟨rfl, hZ, hh⟩ := hP
  have hx := Bd.exec
  have hby := Bd.bytes
  have hml : c.maxLocals = 3 := hml0
  have hown : s.vm.findClass "java/lang/String" = some m.cls := findClass_of_methodNamed Bd.named
  have hnm := (name_of_methodNamed Bd.named Bd.method).1
  have X0 : Stand p l e ({ frames := 1, cells := 0, slots := 0, locals := 12 } : Room) s m #[(.ref o0), (.ref o1), (.int 0)] below meth c s₁ [] 0 0 := Stand.of_body Bd
  have e0 : s₁.heap = h0 := by rw [← hh, Bd.state]; rfl
  have N0 := Fr.nil n0
  have pre0 : ∀ t, Steps p.tables e below (s₁.setTop (mkF m 0 #[rv o0, rv o1, iv 0] [])) t → Steps p.tables e below (s₁.setTop (entryFrame m #[(.ref o0), (.ref o1), (.int 0)] 3)) t := fun t k => castTop (ef_4 m o0 o1 0) k
  obtain ⟨T1, X1, e1, st1⟩ := initO X0 hx hZ hown (w_20 hw) (w_21 hw) (w_22 hw) e0 (g := (mkF m 1 #[rv o0, rv o1, iv 0] [(.ref o0)])) rfl (by rw [hml]; rfl) rfl (hb hby d4_1) (by decide) (W := 0) (by show 2 * 0 + _ ≤ _; exact Nat.le_of_eq rfl) (by decide)
  obtain ⟨T2, h2, X2, e2, W2, st2⟩ := putF X1 hx hZ hown (host := "") (Or.inl (w_23 hw)) Via.refl e1 f0 f1 (Or.inr ⟨(w_24 hw), rfl, hnm⟩) (w_11 hw) (ty := (.array .byte)) (by decide) rfl rfl (g := (mkF m 6 #[rv o0, rv o1, iv 0] [(.ref o1), (.ref o0)])) rfl rfl (hb hby d4_6)
  have O2 := Old.wr OO W2 u0
  have KK2 : Keep h0 h2 [o0] := Keep.wr (Keep.refl h0 [o0]) W2 (Or.inl (List.mem_of_getElem? (i := 0) rfl))
  have N2 := Fr.snoc X2 N0 u0
  have F3 : Fld Z h2 o0 "java/lang/String" "value" "[B" (.ref o1) := Fld.same W2 f0
  have F4 : Fld Z h2 o0 "java/lang/String" "coder" "B" (.int t0) := (Fld.other W2 f2 (Or.inr (slot_ne (Or.inr (w_26 hw)) (Or.inr (w_24 hw)) (by decide) (t := .byte) (t' := (.array .byte)) (by decide) (by decide))))
  have F5 : Exa Z h2 o0 "java/lang/String" := (Exa.wr W2 f1)
  obtain ⟨T6, h6, X6, e6, W6, st6⟩ := putFN X2 hx hZ hown (w_25 hw) Via.refl e2 F4 F5 (Or.inr ⟨(w_26 hw), rfl, hnm⟩) (w_11 hw) (ty := .byte) (v' := (.int 0)) (by decide) rfl rfl (g := (mkF m 11 #[rv o0, rv o1, iv 0] [(.int 0), (.ref o0)])) rfl rfl (hb hby d4_11)
  have O6 := Old.wr O2 W6 u0
  have KK6 : Keep h0 h6 [o0] := Keep.wr KK2 W6 (Or.inl (List.mem_of_getElem? (i := 0) rfl))
  have N6 := Fr.snoc X6 N2 u0
  have F7 : Fld Z h6 o0 "java/lang/String" "coder" "B" (.int 0) := Fld.same W6 F4
  have F8 : Fld Z h6 o0 "java/lang/String" "value" "[B" (.ref o1) := (Fld.other W6 F3 (Or.inr (slot_ne (Or.inr (w_24 hw)) (Or.inr (w_26 hw)) (by decide) (t := (.array .byte)) (t' := .byte) (by decide) (by decide))))
  have F9 : Exa Z h6 o0 "java/lang/String" := (Exa.wr W6 F5)
  obtain ⟨fs, hr, hrun, hended, hW, hsame⟩ := X6.leave (v := none) (fun _ => rfl)
  refine ⟨_, _, pre0 _ ?_, hrun, hended, _, _, rfl, ?_, ⟨_, rfl⟩, hW, hsame.mono (by decide) (by decide)⟩
  · show Steps p.tables e below (s₁.setTop (mkF m 0 #[rv o0, rv o1, iv 0] [])) _
    refine XS.aloadN X0.here hx rfl (hb hby d4_0) rfl rfl ?_
    refine st1 _ ?_
    refine XS.aloadN X1.here hx rfl (hb hby d4_4) rfl rfl ?_
    refine XS.aloadN X1.here hx rfl (hb hby d4_5) rfl rfl ?_
    show Steps p.tables e below (T1.setTop (mkF m 6 #[rv o0, rv o1, iv 0] [(.ref o1), (.ref o0)])) _
    refine st2 _ ?_
    refine XS.aloadN X2.here hx rfl (hb hby d4_9) rfl rfl ?_
    refine XS.iloadN X2.here hx rfl (hb hby d4_10) rfl ?_
    refine st6 _ ?_
    show Steps p.tables e below (T6.setTop (mkF m 14 #[rv o0, rv o1, iv 0] [])) _
    exact X6.returnOut hx Bd.returns (hb hby d4_14) hr
  · show Q4_0 Z cs t0 o0 o1 h0 n0 _ T6.heap _
    rw [e6]
    exact ⟨rfl, N6, KK6, F8, F9, F7⟩
def Q1_0 (Z : State) (cs : Int32) (t0 : Int32) (h0 : Heap) (n0 : Nat) (v : Option Value) (h : Heap) (L : List Loc) : Prop := ∃ (o0 o1 : Addr) (j0 : ClassId), v = some (.ref o0) ∧ Fr n0 L ∧ Keep h0 h [] ∧ h0.size ≤ o0 ∧ h0.size ≤ o1 ∧ o0 ≠ o1 ∧ Exa Z h o0 "java/lang/String" ∧ Fld Z h o0 "java/lang/String" "value" "[B" (.ref o1) ∧ Fld Z h o0 "java/lang/String" "coder" "B" (.int 0) ∧ Exa Z h o1 "[B" ∧ Arv Z h o1 j0 .byte (1 : Int32) [(.int ((t0.toInt8.toInt32).toInt8.toInt32))] (.int 0)
set_option maxRecDepth 65536 in
set_option maxHeartbeats 40000000 in
theorem rm1_0 (l : Launch) (Z : State) (a0 : Array Value) (hw : ∀ d ∈ tables_1, d.before a0 Z = true) (ws : List Jvm.Cond) (cs : Int32) (t0 : Int32) (h0 : Heap) (n0 : Nat) (FF : Facts Z Z.heap cs) (OO : Old Z n0 h0) (d0 : ¬ (cs = (0 : Int32))) (d1 : ¬ ((255 : Int32) < t0)) :
    MetFree l (⟨"java/lang/String", "valueOf", "(C)Ljava/lang/String;"⟩ : MethodName) (head1 (Jvm.Cond.code (⟨"java/lang/String", "valueOf", "(C)Ljava/lang/String;"⟩ : MethodName) jdk_42_method_139_code 1 (some (.object "java/lang/String")) :: ws) ({ frames := 2, cells := 2, slots := 5, locals := 27 } : Room)) (fun a U => a = #[(.int t0)] ∧ Z.Warmed39 U.vm ∧ U.heap = h0) (fun _ _ _ _ _ => True) (fun _ U o U' => ∃ v L, o = .returned v ∧ Q1_0 Z cs t0 h0 n0 v U'.heap L ∧ FrameEnd U o U' L ({ frames := 2, cells := 2, slots := 5, locals := 27 } : Room).cells ({ frames := 2, cells := 2, slots := 5, locals := 27 } : Room).slots) := by
  refine MetFree.of_bodySF (plainFor_of_name pn_1) hisR ?_
  intro p e s m args below meth c s₁ Bd hml0 hP hK
  obtain ⟨rfl, hZ, hh⟩ := hP
  have hx := Bd.exec
  have hby := Bd.bytes
  have hml : c.maxLocals = 1 := hml0
  have hown : s.vm.findClass "java/lang/String" = some m.cls := findClass_of_methodNamed Bd.named
  have X0 : Stand p l e ({ frames := 2, cells := 2, slots := 5, locals := 27 } : Room) s m #[(.int t0)] below meth c s₁ [] 0 0 := Stand.of_body Bd
  have e0 : s₁.heap = h0 := by rw [← hh, Bd.state]; rfl
  have N0 := Fr.nil n0
  have pre0 : ∀ t, Steps p.tables e below (s₁.setTop (mkF m 0 #[iv t0] [])) t → Steps p.tables e below (s₁.setTop (entryFrame m #[(.int t0)] 1)) t := fun t k => castTop (ef_1 m t0) k
  obtain ⟨T1, X1, e1, st1⟩ := getS2 X0 hx hZ hown (host := "") (Or.inl (w_5 hw)) Via.refl e0 (Sta.ext OO.2 (fx_S_COMPACT_STRINGS FF)) (g := (mkF m 0 #[iv t0] [])) rfl (hb hby d1_0)
  obtain ⟨_, _, ⟨T2, L2, k2, n2⟩, -, X2, ⟨Lc2, hQ2, l2, y2, z2⟩, st2⟩ := Jvm.LawKit.callS X1 hx (y := (⟨"java/lang/StringLatin1", "canEncode", "(C)Z"⟩ : MethodName)) hown (mvT hZ (w_6 hw)) (mvT hZ (w_7 hw)) (mvT hZ (w_8 hw)) (mvT hZ (w_9 hw)) (by decide) (backOf (W := 0) (rm2_0 l Z a0 hw [] cs t0 h0 n0 FF OO d1) hZ (w_9 hw) (w_8 hw) (by decide) (by decide)) (g := (mkF m 7 #[iv t0] [(.int t0)])) rfl (by rw [hml]; rfl) (argsL := [(.int t0)]) (rest := []) (lenOf pd_0 rfl) rfl (by show 2 * 0 + _ ≤ _; exact Nat.le_of_eq rfl) (hb hby d1_7) (fun _ _ => ⟨rfl, e1, (by decide : 0 + 0 ≤ _), (by decide : 0 + 0 ≤ _)⟩)
  dsimp only [Pt.U, Pt.locs, Pt.cells, Pt.slots] at X2 l2 y2 z2 st2 hQ2
  subst l2 y2 z2
  obtain ⟨rfl, N2q, e2⟩ := hQ2
  have N2 := Fr.app N0 N2q
  obtain ⟨T3, h3, X3, e3, E3, A3, D3, -, st3⟩ := newO X2 hx hZ hown (w_10 hw) (w_11 hw) (w_3 hw) e2 (g := (mkF m 13 #[iv t0] [])) rfl (hb hby d1_13) (by decide) (by decide)
  obtain ⟨o0, g3⟩ : ∃ z, z = h0.size := ⟨_, rfl⟩
  rw [← g3] at A3 D3 st3
  have g4 : n0 ≤ o0 := Nat.le_trans (own_le OO) (Nat.le_of_eq g3.symm)
  have s5 : h0.size ≤ o0 := Nat.le_trans ((Keep.refl h0 [])).1 (Nat.le_of_eq g3.symm)
  have O3 := Old.ext OO E3
  have KK3 : Keep h0 h3 [] := Keep.ext (Keep.refl h0 []) E3
  have F6 : Fld Z h3 o0 "java/lang/String" "value" "[B" .null := D3 (Or.inr (w_24 hw)) (ty := (.array .byte)) (by decide)
  have F7 : Fld Z h3 o0 "java/lang/String" "coder" "B" (.int 0) := D3 (Or.inr (w_26 hw)) (ty := .byte) (by decide)
  obtain ⟨_, _, ⟨T8, L8, k8, n8⟩, -, X8, ⟨Lc8, hQ8, l8, y8, z8⟩, st8⟩ := Jvm.LawKit.callS X3 hx (y := (⟨"java/lang/StringLatin1", "toBytes", "(C)[B"⟩ : MethodName)) hown (mvT hZ (w_12 hw)) (mvT hZ (w_13 hw)) (mvT hZ (w_8 hw)) (mvT hZ (w_14 hw)) (by decide) (backOf (W := 2) (rm3_0 l Z a0 hw [] cs t0 h3 n0 FF O3) hZ (w_14 hw) (w_8 hw) (by decide) (by decide)) (g := (mkF m 18 #[iv t0] [(.int t0), (.ref o0), (.ref o0)])) rfl (by rw [hml]; rfl) (argsL := [(.int t0)]) (rest := [(.ref o0), (.ref o0)]) (lenOf pd_1 rfl) rfl (by show 2 * 0 + _ ≤ _; exact Nat.le_of_eq rfl) (hb hby d1_18) (fun _ _ => ⟨rfl, e3, (by decide : 1 + 1 ≤ _), (by decide : 4 + 1 ≤ _)⟩)
  dsimp only [Pt.U, Pt.locs, Pt.cells, Pt.slots] at X8 l8 y8 z8 st8 hQ8
  subst l8 y8 z8
  obtain ⟨h8, e8⟩ : ∃ z, T8.heap = z := ⟨_, rfl⟩
  rw [e8] at hQ8
  obtain ⟨o1, j0, rfl, N8q, K8, sp8_o1, R8_0, R8_1⟩ := hQ8
  have N8 := Fr.app N2 N8q
  have g9 : n0 ≤ o1 := Nat.le_trans (own_le O3) sp8_o1
  have s10 : h0.size ≤ o1 := Nat.le_trans (KK3).1 sp8_o1
  have O8 := Old.keep O3 K8 all0
  have KK8 : Keep h0 h8 [] := Keep.trans KK3 K8 all0
  have F12 : Fld Z h8 o0 "java/lang/String" "value" "[B" .null := (Fld.keep F6 K8 nin0)
  have F13 : Exa Z h8 o0 "java/lang/String" := (Exa.keep A3 K8)
  have F14 : Fld Z h8 o0 "java/lang/String" "coder" "B" (.int 0) := (Fld.keep F7 K8 nin0)
  obtain ⟨_, _, ⟨T11, L11, k11, n11⟩, -, X11, ⟨Lc11, hQ11, l11, y11, z11⟩, st11⟩ := X8.specialBack hx (y := (⟨"java/lang/String", "<init>", "([BB)V"⟩ : MethodName)) rfl hown (mvT hZ (w_16 hw)) (mvT hZ (w_17 hw)) (mvT hZ (w_19 hw)) (by decide) (backOf (W := 1) (rm4_0 l Z a0 hw [] cs (0 : Int32) o0 o1 h8 n0 FF O8 F12 F13 g4 F14) hZ (w_19 hw) (w_3 hw) (by decide) (by decide)) (g := (mkF m 22 #[iv t0] [(.int 0), (.ref o1), (.ref o0), (.ref o0)])) rfl (by rw [hml]; rfl) (Steps.refl _) (a := o0) (argsL := [(.ref o1), (.int 0)]) (rest := [(.ref o0)]) (lenOf pd_2 rfl) rfl (by show 2 * 0 + _ ≤ _; exact Nat.le_of_eq rfl) (hb hby d1_22) (fun _ _ => ⟨rfl, e8, (by decide : 2 + 0 ≤ _), (by decide : 5 + 0 ≤ _)⟩)
  dsimp only [Pt.U, Pt.locs, Pt.cells, Pt.slots] at X11 l11 y11 z11 st11 hQ11
  subst l11 y11 z11
  obtain ⟨h11, e11⟩ : ∃ z, T11.heap = z := ⟨_, rfl⟩
  rw [e11] at hQ11
  obtain ⟨rfl, N11q, K11, R11_0, R11_1, R11_2⟩ := hQ11
  have N11 := Fr.app N8 N11q
  have O11 := Old.keep O8 K11 (allS g4 all0)
  have KK11 : Keep h0 h11 [] := Keep.trans KK8 K11 (allS (Or.inr s5) all0)
  have F15 : Exa Z h11 o1 "[B" := (Exa.keep R8_0 K11)
  have ne16 : o0 ≠ o1 := Nat.ne_of_lt (Nat.lt_of_lt_of_le (A3).lt sp8_o1)
  have F17 : Arv Z h11 o1 j0 .byte (1 : Int32) [(.int ((t0.toInt8.toInt32).toInt8.toInt32))] (.int 0) := (Arv.keep R8_1 K11 (ninS (Ne.symm ne16) nin0))
  obtain ⟨fs, hr, hrun, hended, hW, hsame⟩ := X11.leave (v := some (.ref o0)) (fun h => by rw [Bd.returns] at h; cases h)
  refine ⟨_, _, pre0 _ ?_, hrun, hended, _, _, rfl, ?_, ⟨_, rfl⟩, hW, hsame.mono (by decide) (by decide)⟩
  · show Steps p.tables e below (s₁.setTop (mkF m 0 #[iv t0] [])) _
    refine st1 _ ?_
    refine XS.ifNo X1.here hx rfl (hb hby d1_3) rfl ((if0 _ _).trans (feq d0).1) ?_
    refine XS.iloadN X1.here hx rfl (hb hby d1_6) rfl ?_
    refine st2 _ ?_
    show Steps p.tables e below (T2.setTop (mkF m 10 #[iv t0] [(.int 1)])) _
    refine XS.ifNo X2.here hx rfl (hb hby d1_10) rfl (by decide) ?_
    refine st3 _ ?_
    refine XS.dup X3.here hx rfl (hb hby d1_16) rfl rfl ?_
    refine XS.iloadN X3.here hx rfl (hb hby d1_17) rfl ?_
    show Steps p.tables e below (T3.setTop (mkF m 18 #[iv t0] [(.int t0), (.ref o0), (.ref o0)])) _
    refine st8 _ ?_
    refine XS.iconst X8.here hx rfl (hb hby d1_21) ?_
    refine st11.trans ?_
    exact retOut X11 hx Bd.returns rfl (Or.inr (Or.inr (Or.inr (Or.inr ⟨rfl, rfl, rfl⟩)))) (hb hby d1_25) hr
  · show Q1_0 Z cs t0 h0 n0 _ T11.heap _
    rw [e11]
    exact ⟨o0, o1, j0, rfl, N11, KK11, s5, s10, ne16, R11_1, R11_0, R11_2, F15, F17⟩
def Q6_0 (Z : State) (cs : Int32) (t0 : Int32) (o0 : Addr) (h0 : Heap) (n0 : Nat) (v : Option Value) (h : Heap) (L : List Loc) : Prop := v = none ∧ Fr n0 L ∧ h = h0
set_option maxRecDepth 65536 in
set_option maxHeartbeats 40000000 in
theorem rm6_0 (l : Launch) (Z : State) (a0 : Array Value) (hw : ∀ d ∈ tables_1, d.before a0 Z = true) (ws : List Jvm.Cond) (cs : Int32) (t0 : Int32) (o0 : Addr) (h0 : Heap) (n0 : Nat) (FF : Facts Z Z.heap cs) (OO : Old Z n0 h0) (d0 : ¬ (t0 < (1 : Int32))) (d1 : ¬ ((100 : Int32) < t0)) :
    MetFree l (⟨"com/example/deferra/deferra/formats/Fields", "requireWholePercent", "(Ljava/lang/String;I)V"⟩ : MethodName) (head1 (Jvm.Cond.code (⟨"com/example/deferra/deferra/formats/Fields", "requireWholePercent", "(Ljava/lang/String;I)V"⟩ : MethodName) prog_40_method_8_code 2 none :: ws) ({ frames := 0, cells := 0, slots := 0, locals := 0 } : Room)) (fun a U => a = #[(.ref o0), (.int t0)] ∧ Z.Warmed39 U.vm ∧ U.heap = h0) (fun _ _ _ _ _ => True) (fun _ U o U' => ∃ v L, o = .returned v ∧ Q6_0 Z cs t0 o0 h0 n0 v U'.heap L ∧ FrameEnd U o U' L ({ frames := 0, cells := 0, slots := 0, locals := 0 } : Room).cells ({ frames := 0, cells := 0, slots := 0, locals := 0 } : Room).slots) := by
  refine MetFree.of_bodySF (plainFor_of_name pn_6) hisR ?_
  intro p e s m args below meth c s₁ Bd hml0 hP hK
  obtain ⟨rfl, hZ, hh⟩ := hP
  have hx := Bd.exec
  have hby := Bd.bytes
  have hml : c.maxLocals = 2 := hml0
  have hown : s.vm.findClass "com/example/deferra/deferra/formats/Fields" = some m.cls := findClass_of_methodNamed Bd.named
  have X0 : Stand p l e ({ frames := 0, cells := 0, slots := 0, locals := 0 } : Room) s m #[(.ref o0), (.int t0)] below meth c s₁ [] 0 0 := Stand.of_body Bd
  have e0 : s₁.heap = h0 := by rw [← hh, Bd.state]; rfl
  have N0 := Fr.nil n0
  have pre0 : ∀ t, Steps p.tables e below (s₁.setTop (mkF m 0 #[rv o0, iv t0] [])) t → Steps p.tables e below (s₁.setTop (entryFrame m #[(.ref o0), (.int t0)] 2)) t := fun t k => castTop (ef_6 m o0 t0) k
  obtain ⟨fs, hr, hrun, hended, hW, hsame⟩ := X0.leave (v := none) (fun _ => rfl)
  refine ⟨_, _, pre0 _ ?_, hrun, hended, _, _, rfl, ?_, ⟨_, rfl⟩, hW, hsame.mono (by decide) (by decide)⟩
  · show Steps p.tables e below (s₁.setTop (mkF m 0 #[rv o0, iv t0] [])) _
    refine XS.iloadN X0.here hx rfl (hb hby d6_0) rfl ?_
    refine XS.iconst X0.here hx rfl (hb hby d6_1) ?_
    refine XS.icmpNo X0.here hx rfl (hb hby d6_2) rfl (flt d0).1 ?_
    refine XS.iloadN X0.here hx rfl (hb hby d6_5) rfl ?_
    show Steps p.tables e below (s₁.setTop (mkF m 6 #[rv o0, iv t0] [(.int t0)])) _
    refine XS.bipush X0.here hx rfl (hb hby d6_6) ?_
    refine XS.icmpYes X0.here hx rfl (pc0 := 8) (pc' := 26) rfl (hb hby d6_8) rfl (flt d1).2.2.2 (by decide) (by decide) ?_
    exact X0.returnOut hx Bd.returns (hb hby d6_26) hr
  · show Q6_0 Z cs t0 o0 h0 n0 _ s₁.heap _
    exact ⟨rfl, N0, e0⟩
set_option maxRecDepth 65536 in
set_option maxHeartbeats 40000000 in
theorem rm0_0 (l : Launch) (Z : State) (a0 : Array Value) (hw : ∀ d ∈ tables_1, d.before a0 Z = true) (ws : List Jvm.Cond) (cs : Int32) (p0 : Int32) (p1 : Int32) (p2 : Int32) (p3 : Int32) (h0 : Heap) (n0 : Nat) (FF : Facts Z Z.heap cs) (OO : Old Z n0 h0) (hk0 : ((p3 &&& (2147483647 : Int32)) % (3 : Int32)) = (1 : Int32)) :
    MetFree l x (head1 (Jvm.Cond.code x code maxLocals ret :: ws) room_1) (fun a U => a = #[(.int p0), (.int p1), (.int p2), (.int p3)] ∧ Z.Warmed39 U.vm ∧ U.heap = h0) (fun _ _ _ _ _ => True) (fun _ U o U' => ∃ v L, o = .returned v ∧ (v = some (.int (1 : Int32)) ∧ Fr n0 L) ∧ FrameEnd U o U' L room_1.cells room_1.slots) := by
  refine MetFree.of_bodySF (plainFor_of_name pn_0) hisR ?_
  intro p e s m args below meth c s₁ Bd hml0 hP hK
  obtain ⟨rfl, hZ, hh⟩ := hP
  have hx := Bd.exec
  have hby := Bd.bytes
  have hml : c.maxLocals = 8 := hml0
  have hown : s.vm.findClass "com/example/deferra/deferra/formats/FieldsRequireWholePercentPinLaw" = some m.cls := findClass_of_methodNamed Bd.named
  have X0 : Stand p l e room_1 s m #[(.int p0), (.int p1), (.int p2), (.int p3)] below meth c s₁ [] 0 0 := Stand.of_body Bd
  have e0 : s₁.heap = h0 := by rw [← hh, Bd.state]; rfl
  have N0 := Fr.nil n0
  have pre0 : ∀ t, Steps p.tables e below (s₁.setTop (mkF m 0 #[iv p0, iv p1, iv p2, iv p3, .unset, .unset, .unset, .unset] [])) t → Steps p.tables e below (s₁.setTop (entryFrame m #[(.int p0), (.int p1), (.int p2), (.int p3)] maxLocals)) t := fun t k => castTop (ef_0 m p0 p1 p2 p3) k
  obtain ⟨_, _, ⟨T1, L1, k1, n1⟩, -, X1, ⟨Lc1, hQ1, l1, y1, z1⟩, st1⟩ := Jvm.LawKit.callS X0 hx (y := (⟨"java/lang/String", "valueOf", "(C)Ljava/lang/String;"⟩ : MethodName)) hown (mvT hZ (w_1 hw)) (mvT hZ (w_2 hw)) (mvT hZ (w_3 hw)) (mvT hZ (w_4 hw)) (by decide) (backOf (W := 0) (rm1_0 l Z a0 hw [] cs (p1 &&& (255 : Int32)) h0 n0 FF OO (fx_cs_nz FF) (own_255 p1)) hZ (w_4 hw) (w_3 hw) (by decide) (by decide)) (g := (mkF m 51 #[iv p0, iv p1, iv p2, iv p3, iv (((p0 &&& (2147483647 : Int32)) % (100 : Int32)) + (1 : Int32)), iv 1, .unset, .unset] [(.int (p1 &&& (255 : Int32)))])) rfl (by rw [hml]; rfl) (argsL := [(.int (p1 &&& (255 : Int32)))]) (rest := []) (lenOf pd_3 rfl) rfl (by show 2 * 0 + _ ≤ _; exact Nat.le_of_eq rfl) (hb hby at_51) (fun _ _ => ⟨rfl, e0, (by decide : 0 + 2 ≤ _), (by decide : 0 + 5 ≤ _)⟩)
  dsimp only [Pt.U, Pt.locs, Pt.cells, Pt.slots] at X1 l1 y1 z1 st1 hQ1
  subst l1 y1 z1
  obtain ⟨h1, e1⟩ : ∃ z, T1.heap = z := ⟨_, rfl⟩
  rw [e1] at hQ1
  obtain ⟨b1, b2, kb2, rfl, N1q, K1, sp1_b1, sp1_b2, ne1_b1_b2, R1_0, R1_1, R1_2, R1_3, R1_4⟩ := hQ1
  have N1 := Fr.app N0 N1q
  have g2 : n0 ≤ b1 := Nat.le_trans (own_le OO) sp1_b1
  have g3 : n0 ≤ b2 := Nat.le_trans (own_le OO) sp1_b2
  have O1 := Old.keep OO K1 all0
  obtain ⟨_, _, ⟨T4, L4, k4, n4⟩, -, X4, ⟨Lc4, hQ4, l4, y4, z4⟩, st4⟩ := Jvm.LawKit.callS X1 hx (y := (⟨"com/example/deferra/deferra/formats/Fields", "requireWholePercent", "(Ljava/lang/String;I)V"⟩ : MethodName)) hown (mvT hZ (w_27 hw)) (mvT hZ (w_28 hw)) (mvT hZ (w_29 hw)) (mvT hZ (w_30 hw)) (by decide) (backOf (W := 0) (rm6_0 l Z a0 hw [] cs (((p0 &&& (2147483647 : Int32)) % (100 : Int32)) + (1 : Int32)) b1 h1 n0 FF O1 (own_pct p0).1 (own_pct p0).2) hZ (w_30 hw) (w_29 hw) (by decide) (by decide)) (g := (mkF m 99 #[iv p0, iv p1, iv p2, iv p3, iv (((p0 &&& (2147483647 : Int32)) % (100 : Int32)) + (1 : Int32)), iv 1, rv b1, .unset] [(.int (((p0 &&& (2147483647 : Int32)) % (100 : Int32)) + (1 : Int32))), (.ref b1)])) rfl (by rw [hml]; rfl) (argsL := [(.ref b1), (.int (((p0 &&& (2147483647 : Int32)) % (100 : Int32)) + (1 : Int32)))]) (rest := []) (lenOf pd_4 rfl) rfl (by show 2 * 0 + _ ≤ _; exact Nat.le_of_eq rfl) (hb hby at_99) (fun _ _ => ⟨rfl, e1, (by decide : 2 + 0 ≤ _), (by decide : 5 + 0 ≤ _)⟩)
  dsimp only [Pt.U, Pt.locs, Pt.cells, Pt.slots] at X4 l4 y4 z4 st4 hQ4
  subst l4 y4 z4
  obtain ⟨rfl, N4q, e4⟩ := hQ4
  have N4 := Fr.app N1 N4q
  obtain ⟨fs, hr, hrun, hended, hW, hsame⟩ := X4.leave (v := some (.int 1)) (fun h => by rw [Bd.returns] at h; cases h)
  refine ⟨_, _, pre0 _ ?_, hrun, hended, _, _, rfl, ?_, ⟨_, rfl⟩, hW, hsame.mono (by decide) (by decide)⟩
  · show Steps p.tables e below (s₁.setTop (mkF m 0 #[iv p0, iv p1, iv p2, iv p3, .unset, .unset, .unset, .unset] [])) _
    refine XS.iloadN X0.here hx rfl (hb hby at_0) rfl ?_
    refine X0.ldcInt hx hown (mvT hZ (w_0 hw)) (g := (mkF m 1 #[iv p0, iv p1, iv p2, iv p3, .unset, .unset, .unset, .unset] [(.int p0)])) rfl (hb hby at_1) _ ?_
    refine XS.iand X0.here hx rfl (hb hby at_3) rfl ?_
    refine XS.bipush X0.here hx rfl (hb hby at_4) ?_
    show Steps p.tables e below (s₁.setTop (mkF m 6 #[iv p0, iv p1, iv p2, iv p3, .unset, .unset, .unset, .unset] [(.int 100), (.int (p0 &&& (2147483647 : Int32)))])) _
    refine iremM X0 hx rfl (hb hby at_6) rfl (by decide) ?_
    refine XS.iconst X0.here hx rfl (hb hby at_7) ?_
    refine XS.iadd X0.here hx rfl (hb hby at_8) rfl ?_
    refine XS.istore X0.here hx rfl (hb hby at_9) rfl (l' := #[iv p0, iv p1, iv p2, iv p3, iv (((p0 &&& (2147483647 : Int32)) % (100 : Int32)) + (1 : Int32)), .unset, .unset, .unset]) rfl ?_
    show Steps p.tables e below (s₁.setTop (mkF m 11 #[iv p0, iv p1, iv p2, iv p3, iv (((p0 &&& (2147483647 : Int32)) % (100 : Int32)) + (1 : Int32)), .unset, .unset, .unset] [])) _
    refine XS.iloadN X0.here hx rfl (hb hby at_11) rfl ?_
    refine X0.ldcInt hx hown (mvT hZ (w_0 hw)) (g := (mkF m 12 #[iv p0, iv p1, iv p2, iv p3, iv (((p0 &&& (2147483647 : Int32)) % (100 : Int32)) + (1 : Int32)), .unset, .unset, .unset] [(.int p3)])) rfl (hb hby at_12) _ ?_
    refine XS.iand X0.here hx rfl (hb hby at_14) rfl ?_
    refine XS.iconst X0.here hx rfl (hb hby at_15) ?_
    show Steps p.tables e below (s₁.setTop (mkF m 16 #[iv p0, iv p1, iv p2, iv p3, iv (((p0 &&& (2147483647 : Int32)) % (100 : Int32)) + (1 : Int32)), .unset, .unset, .unset] [(.int 3), (.int (p3 &&& (2147483647 : Int32)))])) _
    refine iremM X0 hx rfl (hb hby at_16) rfl (by decide) ?_
    show Steps p.tables e below (s₁.setTop (mkF m 17 #[iv p0, iv p1, iv p2, iv p3, iv (((p0 &&& (2147483647 : Int32)) % (100 : Int32)) + (1 : Int32)), .unset, .unset, .unset] [(.int ((p3 &&& (2147483647 : Int32)) % (3 : Int32)))])) _
    rw [hk0]
    refine XS.istore X0.here hx rfl (hb hby at_17) rfl (l' := #[iv p0, iv p1, iv p2, iv p3, iv (((p0 &&& (2147483647 : Int32)) % (100 : Int32)) + (1 : Int32)), iv 1, .unset, .unset]) rfl ?_
    refine XS.iload X0.here hx rfl (hb hby at_19) rfl ?_
    refine XS.ifYes X0.here hx rfl (pc0 := 21) (pc' := 39) rfl (hb hby at_21) rfl (by decide) (by decide) (by decide) ?_
    show Steps p.tables e below (s₁.setTop (mkF m 39 #[iv p0, iv p1, iv p2, iv p3, iv (((p0 &&& (2147483647 : Int32)) % (100 : Int32)) + (1 : Int32)), iv 1, .unset, .unset] [])) _
    refine XS.iload X0.here hx rfl (hb hby at_39) rfl ?_
    refine XS.iconst X0.here hx rfl (hb hby at_41) ?_
    refine XS.icmpNo X0.here hx rfl (hb hby at_42) rfl (by decide) ?_
    refine XS.iloadN X0.here hx rfl (hb hby at_45) rfl ?_
    show Steps p.tables e below (s₁.setTop (mkF m 46 #[iv p0, iv p1, iv p2, iv p3, iv (((p0 &&& (2147483647 : Int32)) % (100 : Int32)) + (1 : Int32)), iv 1, .unset, .unset] [(.int p1)])) _
    refine XS.sipush X0.here hx rfl (hb hby at_46) ?_
    refine XS.iand X0.here hx rfl (hb hby at_49) rfl ?_
    refine XS.i2c X0.here hx rfl (hb hby at_50) rfl ?_
    show Steps p.tables e below (s₁.setTop (mkF m 51 #[iv p0, iv p1, iv p2, iv p3, iv (((p0 &&& (2147483647 : Int32)) % (100 : Int32)) + (1 : Int32)), iv 1, .unset, .unset] [(.int ((p1 &&& (255 : Int32)).toUInt32.toUInt16.toUInt32.toInt32))])) _
    rw [i2c_mask]
    refine st1 _ ?_
    refine XS.astore X1.here hx rfl (hb hby at_54) rfl rfl (l' := #[iv p0, iv p1, iv p2, iv p3, iv (((p0 &&& (2147483647 : Int32)) % (100 : Int32)) + (1 : Int32)), iv 1, rv b1, .unset]) rfl ?_
    refine XS.goto X1.here hx rfl (pc0 := 56) (pc' := 95) rfl (hb hby at_56) (by decide) (by decide) ?_
    show Steps p.tables e below (T1.setTop (mkF m 95 #[iv p0, iv p1, iv p2, iv p3, iv (((p0 &&& (2147483647 : Int32)) % (100 : Int32)) + (1 : Int32)), iv 1, rv b1, .unset] [])) _
    refine XS.aload X1.here hx rfl (hb hby at_95) rfl rfl ?_
    refine XS.iload X1.here hx rfl (hb hby at_97) rfl ?_
    refine st4 _ ?_
    refine XS.iload X4.here hx rfl (hb hby at_102) rfl ?_
    show Steps p.tables e below (T4.setTop (mkF m 104 #[iv p0, iv p1, iv p2, iv p3, iv (((p0 &&& (2147483647 : Int32)) % (100 : Int32)) + (1 : Int32)), iv 1, rv b1, .unset] [(.int (((p0 &&& (2147483647 : Int32)) % (100 : Int32)) + (1 : Int32)))])) _
    refine XS.iconst X4.here hx rfl (hb hby at_104) ?_
    refine XS.icmpNo X4.here hx rfl (hb hby at_105) rfl (flt (own_pct p0).1).1 ?_
    refine XS.iload X4.here hx rfl (hb hby at_108) rfl ?_
    refine XS.bipush X4.here hx rfl (hb hby at_110) ?_
    show Steps p.tables e below (T4.setTop (mkF m 112 #[iv p0, iv p1, iv p2, iv p3, iv (((p0 &&& (2147483647 : Int32)) % (100 : Int32)) + (1 : Int32)), iv 1, rv b1, .unset] [(.int 100), (.int (((p0 &&& (2147483647 : Int32)) % (100 : Int32)) + (1 : Int32)))])) _
    refine XS.icmpNo X4.here hx rfl (hb hby at_112) rfl (flt (own_pct p0).2).2.2.1 ?_
    refine XS.iconst X4.here hx rfl (hb hby at_115) ?_
    refine XS.goto X4.here hx rfl (pc0 := 116) (pc' := 120) rfl (hb hby at_116) (by decide) (by decide) ?_
    exact retN X4 hx (t := .boolean) Bd.returns (by simp) (hb hby at_120) hr
  · exact ⟨rfl, N4⟩
def Q10_0 (Z : State) (cs : Int32) (t0 : Int32) (t1 : Int32) (t2 : Int32) (t3 : Int32) (o0 : Addr) (o1 : Addr) (j0 : ClassId) (j1 : ClassId) (h0 : Heap) (n0 : Nat) (v : Option Value) (h : Heap) (L : List Loc) : Prop := v = some (.int 2) ∧ Fr n0 L ∧ Keep h0 h [o1] ∧ Arv Z h o1 j1 .byte (2 : Int32) [(.int ((t0.toInt8.toInt32).toInt8.toInt32)), (.int ((t1.toInt8.toInt32).toInt8.toInt32))] (.int 0) ∧ Exa Z h o1 "[B"
set_option maxRecDepth 65536 in
set_option maxHeartbeats 40000000 in
theorem rm10_0 (l : Launch) (Z : State) (a0 : Array Value) (hw : ∀ d ∈ tables_1, d.before a0 Z = true) (ws : List Jvm.Cond) (cs : Int32) (t0 : Int32) (t1 : Int32) (t2 : Int32) (t3 : Int32) (o0 : Addr) (o1 : Addr) (j0 : ClassId) (j1 : ClassId) (h0 : Heap) (n0 : Nat) (FF : Facts Z Z.heap cs) (OO : Old Z n0 h0) (f0 : Arv Z h0 o0 j0 .char (2 : Int32) [(.int t0), (.int t1)] (.int 0)) (d0 : ¬ ((255 : Int32) < t0)) (f1 : Arv Z h0 o1 j1 .byte (2 : Int32) [(.int t2), (.int t3)] (.int 0)) (u0 : n0 ≤ o1) (v0 : o0 ≠ o1) (d1 : ¬ ((255 : Int32) < t1)) (f2 : Exa Z h0 o1 "[B") :
    MetFree l (⟨"java/lang/StringUTF16", "compress", "([CI[BII)I"⟩ : MethodName) (head1 (Jvm.Cond.code (⟨"java/lang/StringUTF16", "compress", "([CI[BII)I"⟩ : MethodName) jdk_52_method_21_code 7 (some .int) :: ws) ({ frames := 0, cells := 0, slots := 0, locals := 0 } : Room)) (fun a U => a = #[(.ref o0), (.int 0), (.ref o1), (.int 0), (.int 2)] ∧ Z.Warmed39 U.vm ∧ U.heap = h0) (fun _ _ _ _ _ => True) (fun _ U o U' => ∃ v L, o = .returned v ∧ Q10_0 Z cs t0 t1 t2 t3 o0 o1 j0 j1 h0 n0 v U'.heap L ∧ FrameEnd U o U' L ({ frames := 0, cells := 0, slots := 0, locals := 0 } : Room).cells ({ frames := 0, cells := 0, slots := 0, locals := 0 } : Room).slots) := by
  refine MetFree.of_bodySF (plainFor_of_name pn_10) hisR ?_
  intro p e s m args below meth c s₁ Bd hml0 hP hK
  obtain ⟨rfl, hZ, hh⟩ := hP
  have hx := Bd.exec
  have hby := Bd.bytes
  have hml : c.maxLocals = 7 := hml0
  have hown : s.vm.findClass "java/lang/StringUTF16" = some m.cls := findClass_of_methodNamed Bd.named
  have X0 : Stand p l e ({ frames := 0, cells := 0, slots := 0, locals := 0 } : Room) s m #[(.ref o0), (.int 0), (.ref o1), (.int 0), (.int 2)] below meth c s₁ [] 0 0 := Stand.of_body Bd
  have e0 : s₁.heap = h0 := by rw [← hh, Bd.state]; rfl
  have N0 := Fr.nil n0
  have pre0 : ∀ t, Steps p.tables e below (s₁.setTop (mkF m 0 #[rv o0, iv 0, rv o1, iv 0, iv 2, .unset, .unset] [])) t → Steps p.tables e below (s₁.setTop (entryFrame m #[(.ref o0), (.int 0), (.ref o1), (.int 0), (.int 2)] 7)) t := fun t k => castTop (ef_10 m o0 0 o1 0 2) k
  obtain ⟨c1, r1, q1, S1, M1, H1, G1⟩ := id f0
  have i2 : ¬ ((0 : Int32) < 0 ∨ c1.slots.size ≤ ((0 : Int32)).toNatClampNeg) := inb_of S1 ⟨by decide, by decide⟩
  have y3 : c1.slots[((0 : Int32)).toNatClampNeg]? = some (.int t0) := H1 0 (by rw [S1]; decide)
  obtain ⟨c4, r4, q4, S4, M4, H4, G4⟩ := id f1
  have i5 : ¬ ((0 : Int32) < 0 ∨ c4.slots.size ≤ ((0 : Int32)).toNatClampNeg) := inb_of S4 ⟨by decide, by decide⟩
  obtain ⟨T6, h6, X6, e6, W6, st6⟩ := stB X0 hx hZ e0 r4 (j := (0 : Int32)) i5 (g := (mkF m 31 #[rv o0, iv 0, rv o1, iv 0, iv 2, iv 0, iv t0] [(.int (t0.toInt8.toInt32)), (.int 0), (.ref o1)])) rfl rfl (hb hby d10_31)
  have O6 := Old.wr OO W6 u0
  have KK6 : Keep h0 h6 [o1] := Keep.wr (Keep.refl h0 [o1]) W6 (Or.inl (List.mem_of_getElem? (i := 0) rfl))
  have N6 := Fr.snoc X6 N0 u0
  have F7 : Arv Z h6 o1 j1 .byte (2 : Int32) [(.int ((t0.toInt8.toInt32).toInt8.toInt32)), (.int t3)] (.int 0) := Arv.set r4 q4 S4 M4 H4 G4 (fits_nar_byte _) W6 0 rfl (Nat.le_of_ble_eq_true rfl)
  have F9 : Arv Z h6 o0 j0 .char (2 : Int32) [(.int t0), (.int t1)] (.int 0) := (Arv.other f0 W6 v0)
  obtain ⟨c8, r8, q8, S8, M8, H8, G8⟩ := id F9
  have i10 : ¬ ((1 : Int32) < 0 ∨ c8.slots.size ≤ ((1 : Int32)).toNatClampNeg) := inb_of S8 ⟨by decide, by decide⟩
  have y11 : c8.slots[((1 : Int32)).toNatClampNeg]? = some (.int t1) := H8 1 (by rw [S8]; decide)
  obtain ⟨c12, r12, q12, S12, M12, H12, G12⟩ := id F7
  have i13 : ¬ ((1 : Int32) < 0 ∨ c12.slots.size ≤ ((1 : Int32)).toNatClampNeg) := inb_of S12 ⟨by decide, by decide⟩
  obtain ⟨T14, h14, X14, e14, W14, st14⟩ := stB X6 hx hZ e6 r12 (j := (1 : Int32)) i13 (g := (mkF m 31 #[rv o0, iv 1, rv o1, iv 1, iv 2, iv 1, iv t1] [(.int (t1.toInt8.toInt32)), (.int 1), (.ref o1)])) rfl rfl (hb hby d10_31)
  have O14 := Old.wr O6 W14 u0
  have KK14 : Keep h0 h14 [o1] := Keep.wr KK6 W14 (Or.inl (List.mem_of_getElem? (i := 0) rfl))
  have N14 := Fr.snoc X14 N6 u0
  have F15 : Arv Z h14 o1 j1 .byte (2 : Int32) [(.int ((t0.toInt8.toInt32).toInt8.toInt32)), (.int ((t1.toInt8.toInt32).toInt8.toInt32))] (.int 0) := Arv.set r12 q12 S12 M12 H12 G12 (fits_nar_byte _) W14 1 rfl (Nat.le_of_ble_eq_true rfl)
  have F16 : Exa Z h14 o1 "[B" := (Exa.wr W14 (Exa.wr W6 f2))
  obtain ⟨fs, hr, hrun, hended, hW, hsame⟩ := X14.leave (v := some (.int 2)) (fun h => by rw [Bd.returns] at h; cases h)
  refine ⟨_, _, pre0 _ ?_, hrun, hended, _, _, rfl, ?_, ⟨_, rfl⟩, hW, hsame.mono (by decide) (by decide)⟩
  · show Steps p.tables e below (s₁.setTop (mkF m 0 #[rv o0, iv 0, rv o1, iv 0, iv 2, .unset, .unset] [])) _
    refine XS.iconst X0.here hx rfl (hb hby d10_0) ?_
    refine XS.istore X0.here hx rfl (hb hby d10_1) rfl (l' := #[rv o0, iv 0, rv o1, iv 0, iv 2, iv 0, .unset]) rfl ?_
    refine XS.iload X0.here hx rfl (hb hby d10_3) rfl ?_
    refine XS.iload X0.here hx rfl (hb hby d10_5) rfl ?_
    show Steps p.tables e below (s₁.setTop (mkF m 7 #[rv o0, iv 0, rv o1, iv 0, iv 2, iv 0, .unset] [(.int 2), (.int 0)])) _
    refine XS.icmpNo X0.here hx rfl (hb hby d10_7) rfl (by decide) ?_
    refine XS.aloadN X0.here hx rfl (hb hby d10_10) rfl rfl ?_
    refine XS.iloadN X0.here hx rfl (hb hby d10_11) rfl ?_
    refine X0.caload hx (j := (0 : Int32)) (v := (.int t0)) (by rw [e0]; exact r1.1) (State.isArrayOf_alike hZ.alike r1.2.1) r1.2.2 i2 y3 (g := (mkF m 12 #[rv o0, iv 0, rv o1, iv 0, iv 2, iv 0, .unset] [(.int 0), (.ref o0)])) rfl rfl (hb hby d10_12) _ ?_
    show Steps p.tables e below (s₁.setTop (mkF m 13 #[rv o0, iv 0, rv o1, iv 0, iv 2, iv 0, .unset] [(.int t0)])) _
    refine XS.istore X0.here hx rfl (hb hby d10_13) rfl (l' := #[rv o0, iv 0, rv o1, iv 0, iv 2, iv 0, iv t0]) rfl ?_
    refine XS.iload X0.here hx rfl (hb hby d10_15) rfl ?_
    refine XS.sipush X0.here hx rfl (hb hby d10_17) ?_
    refine XS.icmpYes X0.here hx rfl (pc0 := 20) (pc' := 26) rfl (hb hby d10_20) rfl (flt d0).2.2.2 (by decide) (by decide) ?_
    show Steps p.tables e below (s₁.setTop (mkF m 26 #[rv o0, iv 0, rv o1, iv 0, iv 2, iv 0, iv t0] [])) _
    refine XS.aloadN X0.here hx rfl (hb hby d10_26) rfl rfl ?_
    refine XS.iloadN X0.here hx rfl (hb hby d10_27) rfl ?_
    refine XS.iload X0.here hx rfl (hb hby d10_28) rfl ?_
    refine XS.i2b X0.here hx rfl (hb hby d10_30) rfl ?_
    show Steps p.tables e below (s₁.setTop (mkF m 31 #[rv o0, iv 0, rv o1, iv 0, iv 2, iv 0, iv t0] [(.int (t0.toInt8.toInt32)), (.int 0), (.ref o1)])) _
    refine st6 _ ?_
    refine XS.iinc X6.here hx rfl (hb hby d10_32) rfl (l' := #[rv o0, iv ((0 : Int32) + (1 : Int32)), rv o1, iv 0, iv 2, iv 0, iv t0]) rfl ?_
    show Steps p.tables e below (T6.setTop (mkF m 35 #[rv o0, iv 1, rv o1, iv 0, iv 2, iv 0, iv t0] [])) _
    refine XS.iinc X6.here hx rfl (hb hby d10_35) rfl (l' := #[rv o0, iv 1, rv o1, iv ((0 : Int32) + (1 : Int32)), iv 2, iv 0, iv t0]) rfl ?_
    show Steps p.tables e below (T6.setTop (mkF m 38 #[rv o0, iv 1, rv o1, iv 1, iv 2, iv 0, iv t0] [])) _
    refine XS.iinc X6.here hx rfl (hb hby d10_38) rfl (l' := #[rv o0, iv 1, rv o1, iv 1, iv 2, iv ((0 : Int32) + (1 : Int32)), iv t0]) rfl ?_
    show Steps p.tables e below (T6.setTop (mkF m 41 #[rv o0, iv 1, rv o1, iv 1, iv 2, iv 1, iv t0] [])) _
    refine XS.goto X6.here hx rfl (pc0 := 41) (pc' := 3) rfl (hb hby d10_41) (by decide) (by decide) ?_
    refine XS.iload X6.here hx rfl (hb hby d10_3) rfl ?_
    refine XS.iload X6.here hx rfl (hb hby d10_5) rfl ?_
    refine XS.icmpNo X6.here hx rfl (hb hby d10_7) rfl (by decide) ?_
    show Steps p.tables e below (T6.setTop (mkF m 10 #[rv o0, iv 1, rv o1, iv 1, iv 2, iv 1, iv t0] [])) _
    refine XS.aloadN X6.here hx rfl (hb hby d10_10) rfl rfl ?_
    refine XS.iloadN X6.here hx rfl (hb hby d10_11) rfl ?_
    refine X6.caload hx (j := (1 : Int32)) (v := (.int t1)) (by rw [e6]; exact r8.1) (State.isArrayOf_alike hZ.alike r8.2.1) r8.2.2 i10 y11 (g := (mkF m 12 #[rv o0, iv 1, rv o1, iv 1, iv 2, iv 1, iv t0] [(.int 1), (.ref o0)])) rfl rfl (hb hby d10_12) _ ?_
    refine XS.istore X6.here hx rfl (hb hby d10_13) rfl (l' := #[rv o0, iv 1, rv o1, iv 1, iv 2, iv 1, iv t1]) rfl ?_
    show Steps p.tables e below (T6.setTop (mkF m 15 #[rv o0, iv 1, rv o1, iv 1, iv 2, iv 1, iv t1] [])) _
    refine XS.iload X6.here hx rfl (hb hby d10_15) rfl ?_
    refine XS.sipush X6.here hx rfl (hb hby d10_17) ?_
    refine XS.icmpYes X6.here hx rfl (pc0 := 20) (pc' := 26) rfl (hb hby d10_20) rfl (flt d1).2.2.2 (by decide) (by decide) ?_
    refine XS.aloadN X6.here hx rfl (hb hby d10_26) rfl rfl ?_
    show Steps p.tables e below (T6.setTop (mkF m 27 #[rv o0, iv 1, rv o1, iv 1, iv 2, iv 1, iv t1] [(.ref o1)])) _
    refine XS.iloadN X6.here hx rfl (hb hby d10_27) rfl ?_
    refine XS.iload X6.here hx rfl (hb hby d10_28) rfl ?_
    refine XS.i2b X6.here hx rfl (hb hby d10_30) rfl ?_
    refine st14 _ ?_
    show Steps p.tables e below (T14.setTop (mkF m 32 #[rv o0, iv 1, rv o1, iv 1, iv 2, iv 1, iv t1] [])) _
    refine XS.iinc X14.here hx rfl (hb hby d10_32) rfl (l' := #[rv o0, iv ((1 : Int32) + (1 : Int32)), rv o1, iv 1, iv 2, iv 1, iv t1]) rfl ?_
    show Steps p.tables e below (T14.setTop (mkF m 35 #[rv o0, iv 2, rv o1, iv 1, iv 2, iv 1, iv t1] [])) _
    refine XS.iinc X14.here hx rfl (hb hby d10_35) rfl (l' := #[rv o0, iv 2, rv o1, iv ((1 : Int32) + (1 : Int32)), iv 2, iv 1, iv t1]) rfl ?_
    show Steps p.tables e below (T14.setTop (mkF m 38 #[rv o0, iv 2, rv o1, iv 2, iv 2, iv 1, iv t1] [])) _
    refine XS.iinc X14.here hx rfl (hb hby d10_38) rfl (l' := #[rv o0, iv 2, rv o1, iv 2, iv 2, iv ((1 : Int32) + (1 : Int32)), iv t1]) rfl ?_
    show Steps p.tables e below (T14.setTop (mkF m 41 #[rv o0, iv 2, rv o1, iv 2, iv 2, iv 2, iv t1] [])) _
    refine XS.goto X14.here hx rfl (pc0 := 41) (pc' := 3) rfl (hb hby d10_41) (by decide) (by decide) ?_
    refine XS.iload X14.here hx rfl (hb hby d10_3) rfl ?_
    refine XS.iload X14.here hx rfl (hb hby d10_5) rfl ?_
    refine XS.icmpYes X14.here hx rfl (pc0 := 7) (pc' := 44) rfl (hb hby d10_7) rfl (by decide) (by decide) (by decide) ?_
    show Steps p.tables e below (T14.setTop (mkF m 44 #[rv o0, iv 2, rv o1, iv 2, iv 2, iv 2, iv t1] [])) _
    refine XS.iload X14.here hx rfl (hb hby d10_44) rfl ?_
    exact retI X14 hx Bd.returns (hb hby d10_46) hr
  · show Q10_0 Z cs t0 t1 t2 t3 o0 o1 j0 j1 h0 n0 _ T14.heap _
    rw [e14]
    exact ⟨rfl, N14, KK14, F15, F16⟩
def Q9_0 (Z : State) (cs : Int32) (t0 : Int32) (t1 : Int32) (o0 : Addr) (j0 : ClassId) (h0 : Heap) (n0 : Nat) (v : Option Value) (h : Heap) (L : List Loc) : Prop := ∃ (o1 : Addr) (j1 : ClassId), v = some (.ref o1) ∧ Fr n0 L ∧ Keep h0 h [] ∧ h0.size ≤ o1 ∧ Exa Z h o1 "[B" ∧ Arv Z h o1 j1 .byte (2 : Int32) [(.int ((t0.toInt8.toInt32).toInt8.toInt32)), (.int ((t1.toInt8.toInt32).toInt8.toInt32))] (.int 0)
set_option maxRecDepth 65536 in
set_option maxHeartbeats 40000000 in
theorem rm9_0 (l : Launch) (Z : State) (a0 : Array Value) (hw : ∀ d ∈ tables_1, d.before a0 Z = true) (ws : List Jvm.Cond) (cs : Int32) (t0 : Int32) (t1 : Int32) (o0 : Addr) (j0 : ClassId) (h0 : Heap) (n0 : Nat) (FF : Facts Z Z.heap cs) (OO : Old Z n0 h0) (f0 : Arv Z h0 o0 j0 .char (2 : Int32) [(.int t0), (.int t1)] (.int 0)) (d0 : ¬ ((255 : Int32) < t0)) (d1 : ¬ ((255 : Int32) < t1)) :
    MetFree l (⟨"java/lang/StringUTF16", "compress", "([CII)[B"⟩ : MethodName) (head1 (Jvm.Cond.code (⟨"java/lang/StringUTF16", "compress", "([CII)[B"⟩ : MethodName) jdk_52_method_16_code 6 (some (.array .byte)) :: ws) ({ frames := 1, cells := 1, slots := 2, locals := 18 } : Room)) (fun a U => a = #[(.ref o0), (.int 0), (.int 2)] ∧ Z.Warmed39 U.vm ∧ U.heap = h0) (fun _ _ _ _ _ => True) (fun _ U o U' => ∃ v L, o = .returned v ∧ Q9_0 Z cs t0 t1 o0 j0 h0 n0 v U'.heap L ∧ FrameEnd U o U' L ({ frames := 1, cells := 1, slots := 2, locals := 18 } : Room).cells ({ frames := 1, cells := 1, slots := 2, locals := 18 } : Room).slots) := by
  refine MetFree.of_bodySF (plainFor_of_name pn_9) hisR ?_
  intro p e s m args below meth c s₁ Bd hml0 hP hK
  obtain ⟨rfl, hZ, hh⟩ := hP
  have hx := Bd.exec
  have hby := Bd.bytes
  have hml : c.maxLocals = 6 := hml0
  have hown : s.vm.findClass "java/lang/StringUTF16" = some m.cls := findClass_of_methodNamed Bd.named
  have X0 : Stand p l e ({ frames := 1, cells := 1, slots := 2, locals := 18 } : Room) s m #[(.ref o0), (.int 0), (.int 2)] below meth c s₁ [] 0 0 := Stand.of_body Bd
  have e0 : s₁.heap = h0 := by rw [← hh, Bd.state]; rfl
  have N0 := Fr.nil n0
  have pre0 : ∀ t, Steps p.tables e below (s₁.setTop (mkF m 0 #[rv o0, iv 0, iv 2, .unset, .unset, .unset] [])) t → Steps p.tables e below (s₁.setTop (entryFrame m #[(.ref o0), (.int 0), (.int 2)] 6)) t := fun t k => castTop (ef_9 m o0 0 2) k
  obtain ⟨T1, h1, j1, X1, e1, E1, A1, B1, st1⟩ := newPE (aty := .byte) X0 hx hZ (w_15 hw) e0 (g := (mkF m 1 #[rv o0, iv 0, iv 2, .unset, .unset, .unset] [(.int 2)])) rfl (hb hby d9_1) rfl (by decide) (cap := 2) (by decide) (by decide) (by decide) (by decide) (ad := "[B") (by decide +kernel)
  obtain ⟨o1, g1⟩ : ∃ z, z = h0.size := ⟨_, rfl⟩
  rw [← g1] at A1 B1 st1
  have g2 : n0 ≤ o1 := Nat.le_trans (own_le OO) (Nat.le_of_eq g1.symm)
  have s3 : h0.size ≤ o1 := Nat.le_trans ((Keep.refl h0 [])).1 (Nat.le_of_eq g1.symm)
  have O1 := Old.ext OO E1
  have KK1 : Keep h0 h1 [] := Keep.ext (Keep.refl h0 []) E1
  have F4 : Arv Z h1 o1 j1 .byte (2 : Int32) [(.int 0), (.int 0)] (.int 0) := (Arv.new A1 (by decide)).pad (pad_rep [] (.int 0) 2)
  have F6 : Arv Z h1 o0 j0 .char (2 : Int32) [(.int t0), (.int t1)] (.int 0) := (Arv.ext f0 E1)
  have ne7 : o0 ≠ o1 := Nat.ne_of_lt (Nat.lt_of_lt_of_le (f0).lt (Nat.le_of_eq g1.symm))
  obtain ⟨_, _, ⟨T5, L5, k5, n5⟩, -, X5, ⟨Lc5, hQ5, l5, y5, z5⟩, st5⟩ := Jvm.LawKit.callS X1 hx (y := (⟨"java/lang/StringUTF16", "compress", "([CI[BII)I"⟩ : MethodName)) hown (mvT hZ (w_43 hw)) (mvT hZ (w_44 hw)) (mvT hZ (w_41 hw)) (mvT hZ (w_45 hw)) (by decide) (backOf (W := 0) (rm10_0 l Z a0 hw [] cs t0 t1 (0 : Int32) (0 : Int32) o0 o1 j0 j1 h1 n0 FF O1 F6 d0 F4 g2 ne7 d1 B1) hZ (w_45 hw) (w_41 hw) (by decide) (by decide)) (g := (mkF m 9 #[rv o0, iv 0, iv 2, rv o1, .unset, .unset] [(.int 2), (.int 0), (.ref o1), (.int 0), (.ref o0)])) rfl (by rw [hml]; rfl) (argsL := [(.ref o0), (.int 0), (.ref o1), (.int 0), (.int 2)]) (rest := []) (lenOf pd_5 rfl) rfl (by show 2 * 0 + _ ≤ _; exact Nat.le_of_eq rfl) (hb hby d9_9) (fun _ _ => ⟨rfl, e1, (by decide : 1 + 0 ≤ _), (by decide : 2 + 0 ≤ _)⟩)
  dsimp only [Pt.U, Pt.locs, Pt.cells, Pt.slots] at X5 l5 y5 z5 st5 hQ5
  subst l5 y5 z5
  obtain ⟨h5, e5⟩ : ∃ z, T5.heap = z := ⟨_, rfl⟩
  rw [e5] at hQ5
  obtain ⟨rfl, N5q, K5, R5_0, R5_1⟩ := hQ5
  have N5 := Fr.app N0 N5q
  have O5 := Old.keep O1 K5 (allS g2 all0)
  have KK5 : Keep h0 h5 [] := Keep.trans KK1 K5 (allS (Or.inr s3) all0)
  obtain ⟨fs, hr, hrun, hended, hW, hsame⟩ := X5.leave (v := some (.ref o1)) (fun h => by rw [Bd.returns] at h; cases h)
  refine ⟨_, _, pre0 _ ?_, hrun, hended, _, _, rfl, ?_, ⟨_, rfl⟩, hW, hsame.mono (by decide) (by decide)⟩
  · show Steps p.tables e below (s₁.setTop (mkF m 0 #[rv o0, iv 0, iv 2, .unset, .unset, .unset] [])) _
    refine XS.iloadN X0.here hx rfl (hb hby d9_0) rfl ?_
    refine st1 _ ?_
    refine XS.astoreN X1.here hx rfl (hb hby d9_3) rfl rfl (l' := #[rv o0, iv 0, iv 2, rv o1, .unset, .unset]) rfl ?_
    refine XS.aloadN X1.here hx rfl (hb hby d9_4) rfl rfl ?_
    show Steps p.tables e below (T1.setTop (mkF m 5 #[rv o0, iv 0, iv 2, rv o1, .unset, .unset] [(.ref o0)])) _
    refine XS.iloadN X1.here hx rfl (hb hby d9_5) rfl ?_
    refine XS.aloadN X1.here hx rfl (hb hby d9_6) rfl rfl ?_
    refine XS.iconst X1.here hx rfl (hb hby d9_7) ?_
    refine XS.iloadN X1.here hx rfl (hb hby d9_8) rfl ?_
    show Steps p.tables e below (T1.setTop (mkF m 9 #[rv o0, iv 0, iv 2, rv o1, .unset, .unset] [(.int 2), (.int 0), (.ref o1), (.int 0), (.ref o0)])) _
    refine st5 _ ?_
    refine XS.istore X5.here hx rfl (hb hby d9_12) rfl (l' := #[rv o0, iv 0, iv 2, rv o1, iv 2, .unset]) rfl ?_
    refine XS.iload X5.here hx rfl (hb hby d9_14) rfl ?_
    refine XS.iloadN X5.here hx rfl (hb hby d9_16) rfl ?_
    show Steps p.tables e below (T5.setTop (mkF m 17 #[rv o0, iv 0, iv 2, rv o1, iv 2, .unset] [(.int 2), (.int 2)])) _
    refine XS.icmpYes X5.here hx rfl (pc0 := 17) (pc' := 57) rfl (hb hby d9_17) rfl (by decide) (by decide) (by decide) ?_
    refine XS.aloadN X5.here hx rfl (hb hby d9_57) rfl rfl ?_
    exact retOut X5 hx Bd.returns rfl (Or.inr (Or.inr (Or.inr (Or.inr ⟨rfl, rfl, rfl⟩)))) (hb hby d9_58) hr
  · show Q9_0 Z cs t0 t1 o0 j0 h0 n0 _ T5.heap _
    rw [e5]
    exact ⟨o1, j1, rfl, N5, KK5, s3, R5_1, R5_0⟩
def Q11_0 (Z : State) (cs : Int32) (t0 : Int32) (t1 : Int32) (o0 : Addr) (j0 : ClassId) (h0 : Heap) (n0 : Nat) (v : Option Value) (h : Heap) (L : List Loc) : Prop := v = some (.int 0) ∧ Fr n0 L ∧ h = h0
set_option maxRecDepth 65536 in
set_option maxHeartbeats 40000000 in
theorem rm11_0 (l : Launch) (Z : State) (a0 : Array Value) (hw : ∀ d ∈ tables_1, d.before a0 Z = true) (ws : List Jvm.Cond) (cs : Int32) (t0 : Int32) (t1 : Int32) (o0 : Addr) (j0 : ClassId) (h0 : Heap) (n0 : Nat) (FF : Facts Z Z.heap cs) (OO : Old Z n0 h0) (f0 : Arv Z h0 o0 j0 .byte (2 : Int32) [(.int t0), (.int t1)] (.int 0)) :
    MetFree l (⟨"java/lang/StringUTF16", "coderFromArrayLen", "([BI)B"⟩ : MethodName) (head1 (Jvm.Cond.code (⟨"java/lang/StringUTF16", "coderFromArrayLen", "([BI)B"⟩ : MethodName) jdk_52_method_15_code 2 (some .byte) :: ws) ({ frames := 0, cells := 0, slots := 0, locals := 0 } : Room)) (fun a U => a = #[(.ref o0), (.int 2)] ∧ Z.Warmed39 U.vm ∧ U.heap = h0) (fun _ _ _ _ _ => True) (fun _ U o U' => ∃ v L, o = .returned v ∧ Q11_0 Z cs t0 t1 o0 j0 h0 n0 v U'.heap L ∧ FrameEnd U o U' L ({ frames := 0, cells := 0, slots := 0, locals := 0 } : Room).cells ({ frames := 0, cells := 0, slots := 0, locals := 0 } : Room).slots) := by
  refine MetFree.of_bodySF (plainFor_of_name pn_11) hisR ?_
  intro p e s m args below meth c s₁ Bd hml0 hP hK
  obtain ⟨rfl, hZ, hh⟩ := hP
  have hx := Bd.exec
  have hby := Bd.bytes
  have hml : c.maxLocals = 2 := hml0
  have hown : s.vm.findClass "java/lang/StringUTF16" = some m.cls := findClass_of_methodNamed Bd.named
  have X0 : Stand p l e ({ frames := 0, cells := 0, slots := 0, locals := 0 } : Room) s m #[(.ref o0), (.int 2)] below meth c s₁ [] 0 0 := Stand.of_body Bd
  have e0 : s₁.heap = h0 := by rw [← hh, Bd.state]; rfl
  have N0 := Fr.nil n0
  have pre0 : ∀ t, Steps p.tables e below (s₁.setTop (mkF m 0 #[rv o0, iv 2] [])) t → Steps p.tables e below (s₁.setTop (entryFrame m #[(.ref o0), (.int 2)] 2)) t := fun t k => castTop (ef_11 m o0 2) k
  obtain ⟨c1, r1, q1, S1, M1, H1, G1⟩ := id f0
  obtain ⟨fs, hr, hrun, hended, hW, hsame⟩ := X0.leave (v := some (.int 0)) (fun h => by rw [Bd.returns] at h; cases h)
  refine ⟨_, _, pre0 _ ?_, hrun, hended, _, _, rfl, ?_, ⟨_, rfl⟩, hW, hsame.mono (by decide) (by decide)⟩
  · show Steps p.tables e below (s₁.setTop (mkF m 0 #[rv o0, iv 2] [])) _
    refine XS.iloadN X0.here hx rfl (hb hby d11_0) rfl ?_
    refine XS.aloadN X0.here hx rfl (hb hby d11_1) rfl rfl ?_
    refine X0.arraylength hx (by rw [e0]; exact r1.1) (State.isArrayOf_alike hZ.alike r1.2.1) (g := (mkF m 2 #[rv o0, iv 2] [(.ref o0), (.int 2)])) rfl rfl (hb hby d11_2) _ ?_
    rw [len_of S1 M1]
    show Steps p.tables e below (s₁.setTop (mkF m 3 #[rv o0, iv 2] [(.int 2), (.int 2)])) _
    refine XS.isub X0.here hx rfl (hb hby d11_3) rfl ?_
    show Steps p.tables e below (s₁.setTop (mkF m 4 #[rv o0, iv 2] [(.int ((2 : Int32) - (2 : Int32)))])) _
    rw [(by decide : ((2 : Int32) - (2 : Int32)) = (0 : Int32))]
    refine XS.bipush X0.here hx rfl (hb hby d11_4) ?_
    refine XS.iushr X0.here hx rfl (hb hby d11_6) rfl ?_
    show Steps p.tables e below (s₁.setTop (mkF m 7 #[rv o0, iv 2] [(.int (((0 : Int32).toUInt32 >>> ((31 : Int32) &&& 31).toUInt32).toInt32))])) _
    rw [(by decide : (((0 : Int32).toUInt32 >>> ((31 : Int32) &&& 31).toUInt32).toInt32) = (0 : Int32))]
    refine XS.i2b X0.here hx rfl (hb hby d11_7) rfl ?_
    show Steps p.tables e below (s₁.setTop (mkF m 8 #[rv o0, iv 2] [(.int ((0 : Int32).toInt8.toInt32))])) _
    rw [(by decide : ((0 : Int32).toInt8.toInt32) = (0 : Int32))]
    exact retN X0 hx (t := .byte) Bd.returns (by simp) (hb hby d11_8) hr
  · show Q11_0 Z cs t0 t1 o0 j0 h0 n0 _ s₁.heap _
    exact ⟨rfl, N0, e0⟩
def Q8_0 (Z : State) (cs : Int32) (t0 : Int32) (t1 : Int32) (t2 : Int32) (o0 : Addr) (o1 : Addr) (j0 : ClassId) (h0 : Heap) (n0 : Nat) (v : Option Value) (h : Heap) (L : List Loc) : Prop := ∃ (o2 : Addr) (j1 : ClassId), v = none ∧ Fr n0 L ∧ Keep h0 h [o1] ∧ h0.size ≤ o2 ∧ Exa Z h o2 "[B" ∧ Arv Z h o2 j1 .byte (2 : Int32) [(.int ((t0.toInt8.toInt32).toInt8.toInt32)), (.int ((t1.toInt8.toInt32).toInt8.toInt32))] (.int 0) ∧ Fld Z h o1 "java/lang/String" "coder" "B" (.int 0) ∧ Exa Z h o1 "java/lang/String" ∧ Fld Z h o1 "java/lang/String" "value" "[B" (.ref o2)
set_option maxRecDepth 65536 in
set_option maxHeartbeats 40000000 in
theorem rm8_0 (l : Launch) (Z : State) (a0 : Array Value) (hw : ∀ d ∈ tables_1, d.before a0 Z = true) (ws : List Jvm.Cond) (cs : Int32) (t0 : Int32) (t1 : Int32) (t2 : Int32) (o0 : Addr) (o1 : Addr) (j0 : ClassId) (h0 : Heap) (n0 : Nat) (FF : Facts Z Z.heap cs) (OO : Old Z n0 h0) (d0 : ¬ (cs = (0 : Int32))) (f0 : Arv Z h0 o0 j0 .char (2 : Int32) [(.int t0), (.int t1)] (.int 0)) (d1 : ¬ ((255 : Int32) < t0)) (d2 : ¬ ((255 : Int32) < t1)) (f1 : Fld Z h0 o1 "java/lang/String" "coder" "B" (.int t2)) (f2 : Exa Z h0 o1 "java/lang/String") (u0 : n0 ≤ o1) (f3 : Fld Z h0 o1 "java/lang/String" "value" "[B" .null) :
    MetFree l (⟨"java/lang/String", "<init>", "([CIILjava/lang/Void;)V"⟩ : MethodName) (head1 (Jvm.Cond.code (⟨"java/lang/String", "<init>", "([CIILjava/lang/Void;)V"⟩ : MethodName) jdk_42_method_149_code 6 none :: ws) ({ frames := 2, cells := 1, slots := 2, locals := 35 } : Room)) (fun a U => a = #[(.ref o1), (.ref o0), (.int 0), (.int 2), .null] ∧ Z.Warmed39 U.vm ∧ U.heap = h0) (fun _ _ _ _ _ => True) (fun _ U o U' => ∃ v L, o = .returned v ∧ Q8_0 Z cs t0 t1 t2 o0 o1 j0 h0 n0 v U'.heap L ∧ FrameEnd U o U' L ({ frames := 2, cells := 1, slots := 2, locals := 35 } : Room).cells ({ frames := 2, cells := 1, slots := 2, locals := 35 } : Room).slots) := by
  refine MetFree.of_bodySF (plainFor_of_name pn_8) hisR ?_
  intro p e s m args below meth c s₁ Bd hml0 hP hK
  obtain ⟨rfl, hZ, hh⟩ := hP
  have hx := Bd.exec
  have hby := Bd.bytes
  have hml : c.maxLocals = 6 := hml0
  have hown : s.vm.findClass "java/lang/String" = some m.cls := findClass_of_methodNamed Bd.named
  have hnm := (name_of_methodNamed Bd.named Bd.method).1
  have X0 : Stand p l e ({ frames := 2, cells := 1, slots := 2, locals := 35 } : Room) s m #[(.ref o1), (.ref o0), (.int 0), (.int 2), .null] below meth c s₁ [] 0 0 := Stand.of_body Bd
  have e0 : s₁.heap = h0 := by rw [← hh, Bd.state]; rfl
  have N0 := Fr.nil n0
  have pre0 : ∀ t, Steps p.tables e below (s₁.setTop (mkF m 0 #[rv o1, rv o0, iv 0, iv 2, .val .null, .unset] [])) t → Steps p.tables e below (s₁.setTop (entryFrame m #[(.ref o1), (.ref o0), (.int 0), (.int 2), .null] 6)) t := fun t k => castTop (ef_8 m o1 o0 0 2) k
  obtain ⟨T1, X1, e1, st1⟩ := initO X0 hx hZ hown (w_20 hw) (w_21 hw) (w_22 hw) e0 (g := (mkF m 1 #[rv o1, rv o0, iv 0, iv 2, .val .null, .unset] [(.ref o1)])) rfl (by rw [hml]; rfl) rfl (hb hby d8_1) (by decide) (W := 0) (by show 2 * 0 + _ ≤ _; exact Nat.le_of_eq rfl) (by decide)
  obtain ⟨T2, X2, e2, st2⟩ := getS2 X1 hx hZ hown (host := "") (Or.inl (w_5 hw)) Via.refl e1 (Sta.ext OO.2 (fx_S_COMPACT_STRINGS FF)) (g := (mkF m 27 #[rv o1, rv o0, iv 0, iv 2, .val .null, .unset] [])) rfl (hb hby d8_27)
  obtain ⟨_, _, ⟨T3, L3, k3, n3⟩, -, X3, ⟨Lc3, hQ3, l3, y3, z3⟩, st3⟩ := Jvm.LawKit.callS X2 hx (y := (⟨"java/lang/StringUTF16", "compress", "([CII)[B"⟩ : MethodName)) hown (mvT hZ (w_39 hw)) (mvT hZ (w_40 hw)) (mvT hZ (w_41 hw)) (mvT hZ (w_42 hw)) (by decide) (backOf (W := 0) (rm9_0 l Z a0 hw [] cs t0 t1 o0 j0 h0 n0 FF OO f0 d1 d2) hZ (w_42 hw) (w_41 hw) (by decide) (by decide)) (g := (mkF m 36 #[rv o1, rv o0, iv 0, iv 2, .val .null, .unset] [(.int 2), (.int 0), (.ref o0)])) rfl (by rw [hml]; rfl) (argsL := [(.ref o0), (.int 0), (.int 2)]) (rest := []) (lenOf pd_6 rfl) rfl (by show 2 * 0 + _ ≤ _; exact Nat.le_of_eq rfl) (hb hby d8_36) (fun _ _ => ⟨rfl, e2, (by decide : 0 + 1 ≤ _), (by decide : 0 + 2 ≤ _)⟩)
  dsimp only [Pt.U, Pt.locs, Pt.cells, Pt.slots] at X3 l3 y3 z3 st3 hQ3
  subst l3 y3 z3
  obtain ⟨h3, e3⟩ : ∃ z, T3.heap = z := ⟨_, rfl⟩
  rw [e3] at hQ3
  obtain ⟨o2, j1, rfl, N3q, K3, sp3_o2, R3_0, R3_1⟩ := hQ3
  have N3 := Fr.app N0 N3q
  have g4 : n0 ≤ o2 := Nat.le_trans (own_le OO) sp3_o2
  have s5 : h0.size ≤ o2 := Nat.le_trans ((Keep.refl h0 [o1])).1 sp3_o2
  have O3 := Old.keep OO K3 all0
  have KK3 : Keep h0 h3 [o1] := Keep.trans (Keep.refl h0 [o1]) K3 all0
  obtain ⟨_, _, ⟨T6, L6, k6, n6⟩, -, X6, ⟨Lc6, hQ6, l6, y6, z6⟩, st6⟩ := Jvm.LawKit.callS X3 hx (y := (⟨"java/lang/StringUTF16", "coderFromArrayLen", "([BI)B"⟩ : MethodName)) hown (mvT hZ (w_46 hw)) (mvT hZ (w_47 hw)) (mvT hZ (w_41 hw)) (mvT hZ (w_48 hw)) (by decide) (backOf (W := 1) (rm11_0 l Z a0 hw [] cs ((t0.toInt8.toInt32).toInt8.toInt32) ((t1.toInt8.toInt32).toInt8.toInt32) o2 j1 h3 n0 FF O3 R3_1) hZ (w_48 hw) (w_41 hw) (by decide) (by decide)) (g := (mkF m 45 #[rv o1, rv o0, iv 0, iv 2, .val .null, rv o2] [(.int 2), (.ref o2), (.ref o1)])) rfl (by rw [hml]; rfl) (argsL := [(.ref o2), (.int 2)]) (rest := [(.ref o1)]) (lenOf pd_7 rfl) rfl (by show 2 * 0 + _ ≤ _; exact Nat.le_of_eq rfl) (hb hby d8_45) (fun _ _ => ⟨rfl, e3, (by decide : 1 + 0 ≤ _), (by decide : 2 + 0 ≤ _)⟩)
  dsimp only [Pt.U, Pt.locs, Pt.cells, Pt.slots] at X6 l6 y6 z6 st6 hQ6
  subst l6 y6 z6
  obtain ⟨rfl, N6q, e6⟩ := hQ6
  have N6 := Fr.app N3 N6q
  have F7 : Fld Z h3 o1 "java/lang/String" "coder" "B" (.int t2) := (Fld.keep f1 K3 nin0)
  have F8 : Exa Z h3 o1 "java/lang/String" := (Exa.keep f2 K3)
  obtain ⟨T9, h9, X9, e9, W9, st9⟩ := putFN X6 hx hZ hown (w_25 hw) Via.refl e6 F7 F8 (Or.inr ⟨(w_26 hw), rfl, hnm⟩) (w_11 hw) (ty := .byte) (v' := (.int 0)) (by decide) rfl rfl (g := (mkF m 48 #[rv o1, rv o0, iv 0, iv 2, .val .null, rv o2] [(.int 0), (.ref o1)])) rfl rfl (hb hby d8_48)
  have O9 := Old.wr O3 W9 u0
  have KK9 : Keep h0 h9 [o1] := Keep.wr KK3 W9 (Or.inl (List.mem_of_getElem? (i := 0) rfl))
  have N9 := Fr.snoc X9 N6 u0
  have F10 : Fld Z h9 o1 "java/lang/String" "coder" "B" (.int 0) := Fld.same W9 F7
  have F11 : Fld Z h9 o1 "java/lang/String" "value" "[B" .null := (Fld.other W9 (Fld.keep f3 K3 nin0) (Or.inr (slot_ne (Or.inr (w_24 hw)) (Or.inr (w_26 hw)) (by decide) (t := (.array .byte)) (t' := .byte) (by decide) (by decide))))
  have F12 : Exa Z h9 o1 "java/lang/String" := (Exa.wr W9 F8)
  obtain ⟨T13, h13, X13, e13, W13, st13⟩ := putF X9 hx hZ hown (host := "") (Or.inl (w_23 hw)) Via.refl e9 F11 F12 (Or.inr ⟨(w_24 hw), rfl, hnm⟩) (w_11 hw) (ty := (.array .byte)) (by decide) rfl rfl (g := (mkF m 54 #[rv o1, rv o0, iv 0, iv 2, .val .null, rv o2] [(.ref o2), (.ref o1)])) rfl rfl (hb hby d8_54)
  have O13 := Old.wr O9 W13 u0
  have KK13 : Keep h0 h13 [o1] := Keep.wr KK9 W13 (Or.inl (List.mem_of_getElem? (i := 0) rfl))
  have N13 := Fr.snoc X13 N9 u0
  have F14 : Fld Z h13 o1 "java/lang/String" "value" "[B" (.ref o2) := Fld.same W13 F11
  have F15 : Exa Z h13 o2 "[B" := (Exa.wr W13 (Exa.wr W9 R3_0))
  have ne16 : o1 ≠ o2 := Nat.ne_of_lt (Nat.lt_of_lt_of_le (f1).lt sp3_o2)
  have F17 : Arv Z h13 o2 j1 .byte (2 : Int32) [(.int ((t0.toInt8.toInt32).toInt8.toInt32)), (.int ((t1.toInt8.toInt32).toInt8.toInt32))] (.int 0) := (Arv.other (Arv.other R3_1 W9 (Ne.symm ne16)) W13 (Ne.symm ne16))
  have F18 : Fld Z h13 o1 "java/lang/String" "coder" "B" (.int 0) := (Fld.other W13 F10 (Or.inr (slot_ne (Or.inr (w_26 hw)) (Or.inr (w_24 hw)) (by decide) (t := .byte) (t' := (.array .byte)) (by decide) (by decide))))
  have F19 : Exa Z h13 o1 "java/lang/String" := (Exa.wr W13 F12)
  obtain ⟨fs, hr, hrun, hended, hW, hsame⟩ := X13.leave (v := none) (fun _ => rfl)
  refine ⟨_, _, pre0 _ ?_, hrun, hended, _, _, rfl, ?_, ⟨_, rfl⟩, hW, hsame.mono (by decide) (by decide)⟩
  · show Steps p.tables e below (s₁.setTop (mkF m 0 #[rv o1, rv o0, iv 0, iv 2, .val .null, .unset] [])) _
    refine XS.aloadN X0.here hx rfl (hb hby d8_0) rfl rfl ?_
    refine st1 _ ?_
    refine XS.iloadN X1.here hx rfl (hb hby d8_4) rfl ?_
    refine XS.ifYes X1.here hx rfl (pc0 := 5) (pc' := 27) rfl (hb hby d8_5) rfl (by decide) (by decide) (by decide) ?_
    show Steps p.tables e below (T1.setTop (mkF m 27 #[rv o1, rv o0, iv 0, iv 2, .val .null, .unset] [])) _
    refine st2 _ ?_
    refine XS.ifNo X2.here hx rfl (hb hby d8_30) rfl ((if0 _ _).trans (feq d0).1) ?_
    refine XS.aloadN X2.here hx rfl (hb hby d8_33) rfl rfl ?_
    refine XS.iloadN X2.here hx rfl (hb hby d8_34) rfl ?_
    show Steps p.tables e below (T2.setTop (mkF m 35 #[rv o1, rv o0, iv 0, iv 2, .val .null, .unset] [(.int 0), (.ref o0)])) _
    refine XS.iloadN X2.here hx rfl (hb hby d8_35) rfl ?_
    refine st3 _ ?_
    refine XS.astore X3.here hx rfl (hb hby d8_39) rfl rfl (l' := #[rv o1, rv o0, iv 0, iv 2, .val .null, rv o2]) rfl ?_
    refine XS.aloadN X3.here hx rfl (hb hby d8_41) rfl rfl ?_
    show Steps p.tables e below (T3.setTop (mkF m 42 #[rv o1, rv o0, iv 0, iv 2, .val .null, rv o2] [(.ref o1)])) _
    refine XS.aload X3.here hx rfl (hb hby d8_42) rfl rfl ?_
    refine XS.iloadN X3.here hx rfl (hb hby d8_44) rfl ?_
    refine st6 _ ?_
    refine st9 _ ?_
    show Steps p.tables e below (T9.setTop (mkF m 51 #[rv o1, rv o0, iv 0, iv 2, .val .null, rv o2] [])) _
    refine XS.aloadN X9.here hx rfl (hb hby d8_51) rfl rfl ?_
    refine XS.aload X9.here hx rfl (hb hby d8_52) rfl rfl ?_
    refine st13 _ ?_
    exact X13.returnOut hx Bd.returns (hb hby d8_57) hr
  · show Q8_0 Z cs t0 t1 t2 o0 o1 j0 h0 n0 _ T13.heap _
    rw [e13]
    exact ⟨o2, j1, rfl, N13, KK13, s5, F15, F17, F18, F19, F14⟩
def Q7_0 (Z : State) (cs : Int32) (t0 : Int32) (t1 : Int32) (t2 : Int32) (o0 : Addr) (o1 : Addr) (j0 : ClassId) (h0 : Heap) (n0 : Nat) (v : Option Value) (h : Heap) (L : List Loc) : Prop := ∃ (o2 : Addr) (j1 : ClassId), v = none ∧ Fr n0 L ∧ Keep h0 h [o1] ∧ h0.size ≤ o2 ∧ Exa Z h o2 "[B" ∧ Arv Z h o2 j1 .byte (2 : Int32) [(.int ((t0.toInt8.toInt32).toInt8.toInt32)), (.int ((t1.toInt8.toInt32).toInt8.toInt32))] (.int 0) ∧ Fld Z h o1 "java/lang/String" "coder" "B" (.int 0) ∧ Exa Z h o1 "java/lang/String" ∧ Fld Z h o1 "java/lang/String" "value" "[B" (.ref o2)
set_option maxRecDepth 65536 in
set_option maxHeartbeats 40000000 in
theorem rm7_0 (l : Launch) (Z : State) (a0 : Array Value) (hw : ∀ d ∈ tables_1, d.before a0 Z = true) (ws : List Jvm.Cond) (cs : Int32) (t0 : Int32) (t1 : Int32) (t2 : Int32) (o0 : Addr) (o1 : Addr) (j0 : ClassId) (h0 : Heap) (n0 : Nat) (FF : Facts Z Z.heap cs) (OO : Old Z n0 h0) (f0 : Arv Z h0 o0 j0 .char (2 : Int32) [(.int t0), (.int t1)] (.int 0)) (f1 : Fld Z h0 o1 "java/lang/String" "coder" "B" (.int t2)) (f2 : Exa Z h0 o1 "java/lang/String") (f3 : Fld Z h0 o1 "java/lang/String" "value" "[B" .null) (d0 : ¬ (cs = (0 : Int32))) (d1 : ¬ ((255 : Int32) < t0)) (d2 : ¬ ((255 : Int32) < t1)) (u0 : n0 ≤ o1) :
    MetFree l (⟨"java/lang/String", "<init>", "([C)V"⟩ : MethodName) (head1 (Jvm.Cond.code (⟨"java/lang/String", "<init>", "([C)V"⟩ : MethodName) jdk_42_method_3_code 2 none :: ws) ({ frames := 3, cells := 1, slots := 2, locals := 52 } : Room)) (fun a U => a = #[(.ref o1), (.ref o0)] ∧ Z.Warmed39 U.vm ∧ U.heap = h0) (fun _ _ _ _ _ => True) (fun _ U o U' => ∃ v L, o = .returned v ∧ Q7_0 Z cs t0 t1 t2 o0 o1 j0 h0 n0 v U'.heap L ∧ FrameEnd U o U' L ({ frames := 3, cells := 1, slots := 2, locals := 52 } : Room).cells ({ frames := 3, cells := 1, slots := 2, locals := 52 } : Room).slots) := by
  refine MetFree.of_bodySF (plainFor_of_name pn_7) hisR ?_
  intro p e s m args below meth c s₁ Bd hml0 hP hK
  obtain ⟨rfl, hZ, hh⟩ := hP
  have hx := Bd.exec
  have hby := Bd.bytes
  have hml : c.maxLocals = 2 := hml0
  have hown : s.vm.findClass "java/lang/String" = some m.cls := findClass_of_methodNamed Bd.named
  have X0 : Stand p l e ({ frames := 3, cells := 1, slots := 2, locals := 52 } : Room) s m #[(.ref o1), (.ref o0)] below meth c s₁ [] 0 0 := Stand.of_body Bd
  have e0 : s₁.heap = h0 := by rw [← hh, Bd.state]; rfl
  have N0 := Fr.nil n0
  have pre0 : ∀ t, Steps p.tables e below (s₁.setTop (mkF m 0 #[rv o1, rv o0] [])) t → Steps p.tables e below (s₁.setTop (entryFrame m #[(.ref o1), (.ref o0)] 2)) t := fun t k => castTop (ef_7 m o1 o0) k
  obtain ⟨c1, r1, q1, S1, M1, H1, G1⟩ := id f0
  obtain ⟨_, _, ⟨T2, L2, k2, n2⟩, -, X2, ⟨Lc2, hQ2, l2, y2, z2⟩, st2⟩ := X0.specialBack hx (y := (⟨"java/lang/String", "<init>", "([CIILjava/lang/Void;)V"⟩ : MethodName)) rfl hown (mvT hZ (w_36 hw)) (mvT hZ (w_37 hw)) (mvT hZ (w_38 hw)) (by decide) (backOf (W := 0) (rm8_0 l Z a0 hw [] cs t0 t1 t2 o0 o1 j0 h0 n0 FF OO d0 f0 d1 d2 f1 f2 u0 f3) hZ (w_38 hw) (w_3 hw) (by decide) (by decide)) (g := (mkF m 6 #[rv o1, rv o0] [.null, (.int 2), (.int 0), (.ref o0), (.ref o1)])) rfl (by rw [hml]; rfl) (Steps.refl _) (a := o1) (argsL := [(.ref o0), (.int 0), (.int 2), .null]) (rest := []) (lenOf pd_8 rfl) rfl (by show 2 * 0 + _ ≤ _; exact Nat.le_of_eq rfl) (hb hby d7_6) (fun _ _ => ⟨rfl, e0, (by decide : 0 + 1 ≤ _), (by decide : 0 + 2 ≤ _)⟩)
  dsimp only [Pt.U, Pt.locs, Pt.cells, Pt.slots] at X2 l2 y2 z2 st2 hQ2
  subst l2 y2 z2
  obtain ⟨h2, e2⟩ : ∃ z, T2.heap = z := ⟨_, rfl⟩
  rw [e2] at hQ2
  obtain ⟨o2, j1, rfl, N2q, K2, sp2_o2, R2_0, R2_1, R2_2, R2_3, R2_4⟩ := hQ2
  have N2 := Fr.app N0 N2q
  have g3 : n0 ≤ o2 := Nat.le_trans (own_le OO) sp2_o2
  have s4 : h0.size ≤ o2 := Nat.le_trans ((Keep.refl h0 [o1])).1 sp2_o2
  have O2 := Old.keep OO K2 (allS u0 all0)
  have KK2 : Keep h0 h2 [o1] := Keep.trans (Keep.refl h0 [o1]) K2 (allS (Or.inl (List.mem_of_getElem? (i := 0) rfl)) all0)
  obtain ⟨fs, hr, hrun, hended, hW, hsame⟩ := X2.leave (v := none) (fun _ => rfl)
  refine ⟨_, _, pre0 _ ?_, hrun, hended, _, _, rfl, ?_, ⟨_, rfl⟩, hW, hsame.mono (by decide) (by decide)⟩
  · show Steps p.tables e below (s₁.setTop (mkF m 0 #[rv o1, rv o0] [])) _
    refine XS.aloadN X0.here hx rfl (hb hby d7_0) rfl rfl ?_
    refine XS.aloadN X0.here hx rfl (hb hby d7_1) rfl rfl ?_
    refine XS.iconst X0.here hx rfl (hb hby d7_2) ?_
    refine XS.aloadN X0.here hx rfl (hb hby d7_3) rfl rfl ?_
    show Steps p.tables e below (s₁.setTop (mkF m 4 #[rv o1, rv o0] [(.ref o0), (.int 0), (.ref o0), (.ref o1)])) _
    refine X0.arraylength hx (by rw [e0]; exact r1.1) (State.isArrayOf_alike hZ.alike r1.2.1) (g := (mkF m 4 #[rv o1, rv o0] [(.ref o0), (.int 0), (.ref o0), (.ref o1)])) rfl rfl (hb hby d7_4) _ ?_
    rw [len_of S1 M1]
    refine XS.aconstNull X0.here hx rfl (hb hby d7_5) ?_
    refine st2.trans ?_
    show Steps p.tables e below (T2.setTop (mkF m 9 #[rv o1, rv o0] [])) _
    exact X2.returnOut hx Bd.returns (hb hby d7_9) hr
  · show Q7_0 Z cs t0 t1 t2 o0 o1 j0 h0 n0 _ T2.heap _
    rw [e2]
    exact ⟨o2, j1, rfl, N2, KK2, s4, R2_0, R2_1, R2_2, R2_3, R2_4⟩
set_option maxRecDepth 65536 in
set_option maxHeartbeats 40000000 in
theorem rm0_1 (l : Launch) (Z : State) (a0 : Array Value) (hw : ∀ d ∈ tables_1, d.before a0 Z = true) (ws : List Jvm.Cond) (cs : Int32) (p0 : Int32) (p1 : Int32) (p2 : Int32) (p3 : Int32) (h0 : Heap) (n0 : Nat) (FF : Facts Z Z.heap cs) (OO : Old Z n0 h0) (hk0 : ((p3 &&& (2147483647 : Int32)) % (3 : Int32)) = (2 : Int32)) :
    MetFree l x (head1 (Jvm.Cond.code x code maxLocals ret :: ws) room_1) (fun a U => a = #[(.int p0), (.int p1), (.int p2), (.int p3)] ∧ Z.Warmed39 U.vm ∧ U.heap = h0) (fun _ _ _ _ _ => True) (fun _ U o U' => ∃ v L, o = .returned v ∧ (v = some (.int (1 : Int32)) ∧ Fr n0 L) ∧ FrameEnd U o U' L room_1.cells room_1.slots) := by
  refine MetFree.of_bodySF (plainFor_of_name pn_0) hisR ?_
  intro p e s m args below meth c s₁ Bd hml0 hP hK
  obtain ⟨rfl, hZ, hh⟩ := hP
  have hx := Bd.exec
  have hby := Bd.bytes
  have hml : c.maxLocals = 8 := hml0
  have hown : s.vm.findClass "com/example/deferra/deferra/formats/FieldsRequireWholePercentPinLaw" = some m.cls := findClass_of_methodNamed Bd.named
  have X0 : Stand p l e room_1 s m #[(.int p0), (.int p1), (.int p2), (.int p3)] below meth c s₁ [] 0 0 := Stand.of_body Bd
  have e0 : s₁.heap = h0 := by rw [← hh, Bd.state]; rfl
  have N0 := Fr.nil n0
  have pre0 : ∀ t, Steps p.tables e below (s₁.setTop (mkF m 0 #[iv p0, iv p1, iv p2, iv p3, .unset, .unset, .unset, .unset] [])) t → Steps p.tables e below (s₁.setTop (entryFrame m #[(.int p0), (.int p1), (.int p2), (.int p3)] maxLocals)) t := fun t k => castTop (ef_0 m p0 p1 p2 p3) k
  obtain ⟨T1, h1, kb1, X1, e1, E1, A1, B1, st1⟩ := newPE (aty := .char) X0 hx hZ (w_31 hw) e0 (g := (mkF m 60 #[iv p0, iv p1, iv p2, iv p3, iv (((p0 &&& (2147483647 : Int32)) % (100 : Int32)) + (1 : Int32)), iv 2, .unset, .unset] [(.int 2)])) rfl (hb hby at_60) rfl (by decide) (cap := 2) (by decide) (by decide) (by decide) (by decide) (ad := "[C") (by decide +kernel)
  obtain ⟨b1, g1⟩ : ∃ z, z = h0.size := ⟨_, rfl⟩
  rw [← g1] at A1 B1 st1
  have g2 : n0 ≤ b1 := Nat.le_trans (own_le OO) (Nat.le_of_eq g1.symm)
  have O1 := Old.ext OO E1
  have F3 : Arv Z h1 b1 kb1 .char (2 : Int32) [(.int 0), (.int 0)] (.int 0) := (Arv.new A1 (by decide)).pad (pad_rep [] (.int 0) 2)
  obtain ⟨c4, r4, q4, S4, M4, H4, G4⟩ := id F3
  have i5 : ¬ ((0 : Int32) < 0 ∨ c4.slots.size ≤ ((0 : Int32)).toNatClampNeg) := inb_of S4 ⟨by decide, by decide⟩
  obtain ⟨T6, h6, X6, e6, W6, st6⟩ := stC X1 hx hZ e1 r4 (j := (0 : Int32)) i5 (g := (mkF m 73 #[iv p0, iv p1, iv p2, iv p3, iv (((p0 &&& (2147483647 : Int32)) % (100 : Int32)) + (1 : Int32)), iv 2, .unset, rv b1] [(.int (p1 &&& (255 : Int32))), (.int 0), (.ref b1)])) rfl rfl (hb hby at_73)
  have O6 := Old.wr O1 W6 g2
  have N6 := Fr.snoc X6 N0 g2
  have F7 : Arv Z h6 b1 kb1 .char (2 : Int32) [(.int (nar .char (p1 &&& (255 : Int32)))), (.int 0)] (.int 0) := Arv.set r4 q4 S4 M4 H4 G4 (fits_nar_char _) W6 0 rfl (Nat.le_of_ble_eq_true rfl)
  obtain ⟨c8, r8, q8, S8, M8, H8, G8⟩ := id F7
  have i9 : ¬ ((1 : Int32) < 0 ∨ c8.slots.size ≤ ((1 : Int32)).toNatClampNeg) := inb_of S8 ⟨by decide, by decide⟩
  obtain ⟨T10, h10, X10, e10, W10, st10⟩ := stC X6 hx hZ e6 r8 (j := (1 : Int32)) i9 (g := (mkF m 83 #[iv p0, iv p1, iv p2, iv p3, iv (((p0 &&& (2147483647 : Int32)) % (100 : Int32)) + (1 : Int32)), iv 2, .unset, rv b1] [(.int (p2 &&& (255 : Int32))), (.int 1), (.ref b1)])) rfl rfl (hb hby at_83)
  have O10 := Old.wr O6 W10 g2
  have N10 := Fr.snoc X10 N6 g2
  have F11 : Arv Z h10 b1 kb1 .char (2 : Int32) [(.int (nar .char (p1 &&& (255 : Int32)))), (.int (nar .char (p2 &&& (255 : Int32))))] (.int 0) := Arv.set r8 q8 S8 M8 H8 G8 (fits_nar_char _) W10 1 rfl (Nat.le_of_ble_eq_true rfl)
  obtain ⟨T12, h12, X12, e12, E12, A12, D12, -, st12⟩ := newO X10 hx hZ hown (w_32 hw) (w_11 hw) (w_3 hw) e10 (g := (mkF m 84 #[iv p0, iv p1, iv p2, iv p3, iv (((p0 &&& (2147483647 : Int32)) % (100 : Int32)) + (1 : Int32)), iv 2, .unset, rv b1] [])) rfl (hb hby at_84) (by decide) (by decide)
  obtain ⟨b2, g12⟩ : ∃ z, z = h10.size := ⟨_, rfl⟩
  rw [← g12] at A12 D12 st12
  have g13 : n0 ≤ b2 := Nat.le_trans (own_le O10) (Nat.le_of_eq g12.symm)
  have O12 := Old.ext O10 E12
  have F14 : Fld Z h12 b2 "java/lang/String" "value" "[B" .null := D12 (Or.inr (w_24 hw)) (ty := (.array .byte)) (by decide)
  have F15 : Fld Z h12 b2 "java/lang/String" "coder" "B" (.int 0) := D12 (Or.inr (w_26 hw)) (ty := .byte) (by decide)
  have F17 : Arv Z h12 b1 kb1 .char (2 : Int32) [(.int (nar .char (p1 &&& (255 : Int32)))), (.int (nar .char (p2 &&& (255 : Int32))))] (.int 0) := (Arv.ext F11 E12)
  obtain ⟨_, _, ⟨T16, L16, k16, n16⟩, -, X16, ⟨Lc16, hQ16, l16, y16, z16⟩, st16⟩ := X12.specialBack hx (y := (⟨"java/lang/String", "<init>", "([C)V"⟩ : MethodName)) rfl hown (mvT hZ (w_33 hw)) (mvT hZ (w_34 hw)) (mvT hZ (w_35 hw)) (by decide) (backOf (W := 1) (rm7_0 l Z a0 hw [] cs (nar .char (p1 &&& (255 : Int32))) (nar .char (p2 &&& (255 : Int32))) (0 : Int32) b1 b2 kb1 h12 n0 FF O12 F17 F15 A12 F14 (fx_cs_nz FF) (own_255c p1) (own_255c p2) g13) hZ (w_35 hw) (w_3 hw) (by decide) (by decide)) (g := (mkF m 90 #[iv p0, iv p1, iv p2, iv p3, iv (((p0 &&& (2147483647 : Int32)) % (100 : Int32)) + (1 : Int32)), iv 2, .unset, rv b1] [(.ref b1), (.ref b2), (.ref b2)])) rfl (by rw [hml]; rfl) (Steps.refl _) (a := b2) (argsL := [(.ref b1)]) (rest := [(.ref b2)]) (lenOf pd_9 rfl) rfl (by show 2 * 0 + _ ≤ _; exact Nat.le_of_eq rfl) (hb hby at_90) (fun _ _ => ⟨rfl, e12, (by decide : 2 + 1 ≤ _), (by decide : 6 + 2 ≤ _)⟩)
  dsimp only [Pt.U, Pt.locs, Pt.cells, Pt.slots] at X16 l16 y16 z16 st16 hQ16
  subst l16 y16 z16
  obtain ⟨h16, e16⟩ : ∃ z, T16.heap = z := ⟨_, rfl⟩
  rw [e16] at hQ16
  obtain ⟨b3, kb3, rfl, N16q, K16, sp16_b3, R16_0, R16_1, R16_2, R16_3, R16_4⟩ := hQ16
  have N16 := Fr.app N10 N16q
  have g18 : n0 ≤ b3 := Nat.le_trans (own_le O12) sp16_b3
  have O16 := Old.keep O12 K16 (allS g13 all0)
  obtain ⟨_, _, ⟨T19, L19, k19, n19⟩, -, X19, ⟨Lc19, hQ19, l19, y19, z19⟩, st19⟩ := Jvm.LawKit.callS X16 hx (y := (⟨"com/example/deferra/deferra/formats/Fields", "requireWholePercent", "(Ljava/lang/String;I)V"⟩ : MethodName)) hown (mvT hZ (w_27 hw)) (mvT hZ (w_28 hw)) (mvT hZ (w_29 hw)) (mvT hZ (w_30 hw)) (by decide) (backOf (W := 0) (rm6_0 l Z a0 hw [] cs (((p0 &&& (2147483647 : Int32)) % (100 : Int32)) + (1 : Int32)) b2 h16 n0 FF O16 (own_pct p0).1 (own_pct p0).2) hZ (w_30 hw) (w_29 hw) (by decide) (by decide)) (g := (mkF m 99 #[iv p0, iv p1, iv p2, iv p3, iv (((p0 &&& (2147483647 : Int32)) % (100 : Int32)) + (1 : Int32)), iv 2, rv b2, rv b1] [(.int (((p0 &&& (2147483647 : Int32)) % (100 : Int32)) + (1 : Int32))), (.ref b2)])) rfl (by rw [hml]; rfl) (argsL := [(.ref b2), (.int (((p0 &&& (2147483647 : Int32)) % (100 : Int32)) + (1 : Int32)))]) (rest := []) (lenOf pd_4 rfl) rfl (by show 2 * 0 + _ ≤ _; exact Nat.le_of_eq rfl) (hb hby at_99) (fun _ _ => ⟨rfl, e16, (by decide : 3 + 0 ≤ _), (by decide : 8 + 0 ≤ _)⟩)
  dsimp only [Pt.U, Pt.locs, Pt.cells, Pt.slots] at X19 l19 y19 z19 st19 hQ19
  subst l19 y19 z19
  obtain ⟨rfl, N19q, e19⟩ := hQ19
  have N19 := Fr.app N16 N19q
  obtain ⟨fs, hr, hrun, hended, hW, hsame⟩ := X19.leave (v := some (.int 1)) (fun h => by rw [Bd.returns] at h; cases h)
  refine ⟨_, _, pre0 _ ?_, hrun, hended, _, _, rfl, ?_, ⟨_, rfl⟩, hW, hsame.mono (by decide) (by decide)⟩
  · show Steps p.tables e below (s₁.setTop (mkF m 0 #[iv p0, iv p1, iv p2, iv p3, .unset, .unset, .unset, .unset] [])) _
    refine XS.iloadN X0.here hx rfl (hb hby at_0) rfl ?_
    refine X0.ldcInt hx hown (mvT hZ (w_0 hw)) (g := (mkF m 1 #[iv p0, iv p1, iv p2, iv p3, .unset, .unset, .unset, .unset] [(.int p0)])) rfl (hb hby at_1) _ ?_
    refine XS.iand X0.here hx rfl (hb hby at_3) rfl ?_
    refine XS.bipush X0.here hx rfl (hb hby at_4) ?_
    show Steps p.tables e below (s₁.setTop (mkF m 6 #[iv p0, iv p1, iv p2, iv p3, .unset, .unset, .unset, .unset] [(.int 100), (.int (p0 &&& (2147483647 : Int32)))])) _
    refine iremM X0 hx rfl (hb hby at_6) rfl (by decide) ?_
    refine XS.iconst X0.here hx rfl (hb hby at_7) ?_
    refine XS.iadd X0.here hx rfl (hb hby at_8) rfl ?_
    refine XS.istore X0.here hx rfl (hb hby at_9) rfl (l' := #[iv p0, iv p1, iv p2, iv p3, iv (((p0 &&& (2147483647 : Int32)) % (100 : Int32)) + (1 : Int32)), .unset, .unset, .unset]) rfl ?_
    show Steps p.tables e below (s₁.setTop (mkF m 11 #[iv p0, iv p1, iv p2, iv p3, iv (((p0 &&& (2147483647 : Int32)) % (100 : Int32)) + (1 : Int32)), .unset, .unset, .unset] [])) _
    refine XS.iloadN X0.here hx rfl (hb hby at_11) rfl ?_
    refine X0.ldcInt hx hown (mvT hZ (w_0 hw)) (g := (mkF m 12 #[iv p0, iv p1, iv p2, iv p3, iv (((p0 &&& (2147483647 : Int32)) % (100 : Int32)) + (1 : Int32)), .unset, .unset, .unset] [(.int p3)])) rfl (hb hby at_12) _ ?_
    refine XS.iand X0.here hx rfl (hb hby at_14) rfl ?_
    refine XS.iconst X0.here hx rfl (hb hby at_15) ?_
    show Steps p.tables e below (s₁.setTop (mkF m 16 #[iv p0, iv p1, iv p2, iv p3, iv (((p0 &&& (2147483647 : Int32)) % (100 : Int32)) + (1 : Int32)), .unset, .unset, .unset] [(.int 3), (.int (p3 &&& (2147483647 : Int32)))])) _
    refine iremM X0 hx rfl (hb hby at_16) rfl (by decide) ?_
    show Steps p.tables e below (s₁.setTop (mkF m 17 #[iv p0, iv p1, iv p2, iv p3, iv (((p0 &&& (2147483647 : Int32)) % (100 : Int32)) + (1 : Int32)), .unset, .unset, .unset] [(.int ((p3 &&& (2147483647 : Int32)) % (3 : Int32)))])) _
    rw [hk0]
    refine XS.istore X0.here hx rfl (hb hby at_17) rfl (l' := #[iv p0, iv p1, iv p2, iv p3, iv (((p0 &&& (2147483647 : Int32)) % (100 : Int32)) + (1 : Int32)), iv 2, .unset, .unset]) rfl ?_
    refine XS.iload X0.here hx rfl (hb hby at_19) rfl ?_
    refine XS.ifYes X0.here hx rfl (pc0 := 21) (pc' := 39) rfl (hb hby at_21) rfl (by decide) (by decide) (by decide) ?_
    show Steps p.tables e below (s₁.setTop (mkF m 39 #[iv p0, iv p1, iv p2, iv p3, iv (((p0 &&& (2147483647 : Int32)) % (100 : Int32)) + (1 : Int32)), iv 2, .unset, .unset] [])) _
    refine XS.iload X0.here hx rfl (hb hby at_39) rfl ?_
    refine XS.iconst X0.here hx rfl (hb hby at_41) ?_
    refine XS.icmpYes X0.here hx rfl (pc0 := 42) (pc' := 59) rfl (hb hby at_42) rfl (by decide) (by decide) (by decide) ?_
    refine XS.iconst X0.here hx rfl (hb hby at_59) ?_
    show Steps p.tables e below (s₁.setTop (mkF m 60 #[iv p0, iv p1, iv p2, iv p3, iv (((p0 &&& (2147483647 : Int32)) % (100 : Int32)) + (1 : Int32)), iv 2, .unset, .unset] [(.int 2)])) _
    refine st1 _ ?_
    refine XS.astore X1.here hx rfl (hb hby at_62) rfl rfl (l' := #[iv p0, iv p1, iv p2, iv p3, iv (((p0 &&& (2147483647 : Int32)) % (100 : Int32)) + (1 : Int32)), iv 2, .unset, rv b1]) rfl ?_
    refine XS.aload X1.here hx rfl (hb hby at_64) rfl rfl ?_
    refine XS.iconst X1.here hx rfl (hb hby at_66) ?_
    show Steps p.tables e below (T1.setTop (mkF m 67 #[iv p0, iv p1, iv p2, iv p3, iv (((p0 &&& (2147483647 : Int32)) % (100 : Int32)) + (1 : Int32)), iv 2, .unset, rv b1] [(.int 0), (.ref b1)])) _
    refine XS.iloadN X1.here hx rfl (hb hby at_67) rfl ?_
    refine XS.sipush X1.here hx rfl (hb hby at_68) ?_
    refine XS.iand X1.here hx rfl (hb hby at_71) rfl ?_
    refine XS.i2c X1.here hx rfl (hb hby at_72) rfl ?_
    show Steps p.tables e below (T1.setTop (mkF m 73 #[iv p0, iv p1, iv p2, iv p3, iv (((p0 &&& (2147483647 : Int32)) % (100 : Int32)) + (1 : Int32)), iv 2, .unset, rv b1] [(.int ((p1 &&& (255 : Int32)).toUInt32.toUInt16.toUInt32.toInt32)), (.int 0), (.ref b1)])) _
    rw [i2c_mask]
    refine st6 _ ?_
    refine XS.aload X6.here hx rfl (hb hby at_74) rfl rfl ?_
    refine XS.iconst X6.here hx rfl (hb hby at_76) ?_
    show Steps p.tables e below (T6.setTop (mkF m 77 #[iv p0, iv p1, iv p2, iv p3, iv (((p0 &&& (2147483647 : Int32)) % (100 : Int32)) + (1 : Int32)), iv 2, .unset, rv b1] [(.int 1), (.ref b1)])) _
    refine XS.iloadN X6.here hx rfl (hb hby at_77) rfl ?_
    refine XS.sipush X6.here hx rfl (hb hby at_78) ?_
    refine XS.iand X6.here hx rfl (hb hby at_81) rfl ?_
    refine XS.i2c X6.here hx rfl (hb hby at_82) rfl ?_
    show Steps p.tables e below (T6.setTop (mkF m 83 #[iv p0, iv p1, iv p2, iv p3, iv (((p0 &&& (2147483647 : Int32)) % (100 : Int32)) + (1 : Int32)), iv 2, .unset, rv b1] [(.int ((p2 &&& (255 : Int32)).toUInt32.toUInt16.toUInt32.toInt32)), (.int 1), (.ref b1)])) _
    rw [i2c_mask]
    refine st10 _ ?_
    refine st12 _ ?_
    refine XS.dup X12.here hx rfl (hb hby at_87) rfl rfl ?_
    show Steps p.tables e below (T12.setTop (mkF m 88 #[iv p0, iv p1, iv p2, iv p3, iv (((p0 &&& (2147483647 : Int32)) % (100 : Int32)) + (1 : Int32)), iv 2, .unset, rv b1] [(.ref b2), (.ref b2)])) _
    refine XS.aload X12.here hx rfl (hb hby at_88) rfl rfl ?_
    refine st16.trans ?_
    refine XS.astore X16.here hx rfl (hb hby at_93) rfl rfl (l' := #[iv p0, iv p1, iv p2, iv p3, iv (((p0 &&& (2147483647 : Int32)) % (100 : Int32)) + (1 : Int32)), iv 2, rv b2, rv b1]) rfl ?_
    refine XS.aload X16.here hx rfl (hb hby at_95) rfl rfl ?_
    show Steps p.tables e below (T16.setTop (mkF m 97 #[iv p0, iv p1, iv p2, iv p3, iv (((p0 &&& (2147483647 : Int32)) % (100 : Int32)) + (1 : Int32)), iv 2, rv b2, rv b1] [(.ref b2)])) _
    refine XS.iload X16.here hx rfl (hb hby at_97) rfl ?_
    refine st19 _ ?_
    refine XS.iload X19.here hx rfl (hb hby at_102) rfl ?_
    refine XS.iconst X19.here hx rfl (hb hby at_104) ?_
    show Steps p.tables e below (T19.setTop (mkF m 105 #[iv p0, iv p1, iv p2, iv p3, iv (((p0 &&& (2147483647 : Int32)) % (100 : Int32)) + (1 : Int32)), iv 2, rv b2, rv b1] [(.int 1), (.int (((p0 &&& (2147483647 : Int32)) % (100 : Int32)) + (1 : Int32)))])) _
    refine XS.icmpNo X19.here hx rfl (hb hby at_105) rfl (flt (own_pct p0).1).1 ?_
    refine XS.iload X19.here hx rfl (hb hby at_108) rfl ?_
    refine XS.bipush X19.here hx rfl (hb hby at_110) ?_
    refine XS.icmpNo X19.here hx rfl (hb hby at_112) rfl (flt (own_pct p0).2).2.2.1 ?_
    show Steps p.tables e below (T19.setTop (mkF m 115 #[iv p0, iv p1, iv p2, iv p3, iv (((p0 &&& (2147483647 : Int32)) % (100 : Int32)) + (1 : Int32)), iv 2, rv b2, rv b1] [])) _
    refine XS.iconst X19.here hx rfl (hb hby at_115) ?_
    refine XS.goto X19.here hx rfl (pc0 := 116) (pc' := 120) rfl (hb hby at_116) (by decide) (by decide) ?_
    exact retN X19 hx (t := .boolean) Bd.returns (by simp) (hb hby at_120) hr
  · exact ⟨rfl, N19⟩

theorem own_backS {p : Program} {l : Launch} {e : Env} {R : Room} {s : State} {args : Array Value} {below : List Frame} {Z : State} {a0 : Array Value} {h : Heap} {y : MethodName} {bytes : ByteArray} {maxL : Nat} {ret : Option FieldType} {rm : Room} {len W : Nat} {as' : Array Value} {Q : Option Value → Heap → List Loc → Prop}
    (hM : MetFree l y (head1 [Jvm.Cond.code y bytes maxL ret] rm) (fun a U => a = as' ∧ Z.Warmed39 U.vm ∧ U.heap = h ∧ IB Z U.vm []) (fun _ _ _ _ _ => True) (fun _ U o U' => ∃ v L, o = .returned v ∧ Q v U'.heap L ∧ ReturnedEndW U o U' L rm.cells rm.slots))
    (hZ : Z.Warmed39 s.vm) (wc : (Jvm.Cond.code y bytes maxL ret).before a0 Z = true) (wz : (Jvm.Cond.initialized y.cls).before a0 Z = true) (hf : rm.frames + 1 ≤ R.frames) (hl : W + (maxL + 11) + rm.locals ≤ R.locals) :
    BackS l R p e below s args y len W (fun A a => a = as' ∧ A.U.heap = h ∧ A.cells + rm.cells ≤ R.cells ∧ A.slots + rm.slots ≤ R.slots ∧ IB Z A.U.vm [])
      (fun A _ v B => ∃ L, Q v B.U.heap L ∧ B.locs = A.locs ++ L ∧ B.cells = A.cells + rm.cells ∧ B.slots = A.slots + rm.slots) :=
  BackS.of_freeW (bytes := bytes) (maxL := maxL) (ret := ret) (E := fun _ _ o t L k n => k = rm.cells ∧ n = rm.slots ∧ ∃ v, o = .returned v ∧ Q v t.heap L) hM hf hl
    (fun m meth c A a Y hp => have hU : Z.Warmed39 A.U.vm := wtrans hZ Y.warmed
      ⟨by show (Jvm.Cond.and _ .tt).before a A.U = true; rw [Cond.before_and, mv hU wc]; rfl, mv hU wc, mv hU wz, hp.2.2.1, hp.2.2.2.1⟩)
    (fun m meth c A a g mk Y hp => ⟨hp.1, wtrans hZ Y.warmed, hp.2.1, hp.2.2.2.2⟩) (fun _ _ _ _ _ _ _ _ _ => trivial)
    (fun _ _ _ _ ⟨v, L, h1, h2, h3⟩ => ⟨L, _, _, h3, rfl, rfl, v, h1, h2⟩)
    (fun m meth c A a g mk v t L k n Y hp _ _ ⟨e1, e2, v', e3, e4⟩ => by cases e3; subst e1 e2; exact ⟨L, e4, rfl, rfl, rfl⟩)
def own_QS (o1 : Addr) (h0 : Heap) (n0 : Nat) (v : Option Value) (h : Heap) (L : List Loc) : Prop := v = none ∧ Fr n0 L ∧ Keep h0 h [o1]
theorem own_IBw {Z s : State} {vm : Vm} (I : IB Z s.vm []) (h : s.WarmedH vm) : IB Z vm [] := by
  obtain ⟨more, h1, h2⟩ := I
  exact ⟨more, h.interned_eq.trans h1, h2⟩
theorem s8_5 : decode jdk_42_method_149_code 5 = .ok (.ifCond .ne 22, 3) := by decide +kernel
theorem s8_8 : decode jdk_42_method_149_code 8 = .ok (.aload_n 0, 1) := by decide +kernel
theorem s8_9 : decode jdk_42_method_149_code 9 = .ok (.ldc 7, 2) := by decide +kernel
theorem s8_11 : decode jdk_42_method_149_code 11 = .ok (.getfield 9, 3) := by decide +kernel
theorem s8_14 : decode jdk_42_method_149_code 14 = .ok (.putfield 9, 3) := by decide +kernel
theorem s8_17 : decode jdk_42_method_149_code 17 = .ok (.aload_n 0, 1) := by decide +kernel
theorem s8_18 : decode jdk_42_method_149_code 18 = .ok (.ldc 7, 2) := by decide +kernel
theorem s8_20 : decode jdk_42_method_149_code 20 = .ok (.getfield 15, 3) := by decide +kernel
theorem s8_23 : decode jdk_42_method_149_code 23 = .ok (.putfield 15, 3) := by decide +kernel
theorem s8_26 : decode jdk_42_method_149_code 26 = .ok (.return_, 1) := by decide +kernel
theorem own_atoms {Z : State} {a0 : Array Value} (hw : ∀ d ∈ tables_1, d.before a0 Z = true) : ∀ a ∈ Bundle.stringAtoms, a.before a0 Z = true := by
  intro d hd
  simp only [Bundle.stringAtoms, List.mem_cons, List.not_mem_nil, or_false] at hd
  rcases hd with rfl | rfl | rfl | rfl | rfl | rfl | rfl
  · exact hw _ (List.mem_of_getElem? (i := 3) rfl)
  · exact hw _ (List.mem_of_getElem? (i := 11) rfl)
  · exact hw _ (List.mem_of_getElem? (i := 15) rfl)
  · exact hw _ (List.mem_of_getElem? (i := 24) rfl)
  · exact hw _ (List.mem_of_getElem? (i := 26) rfl)
  · exact hw _ (List.mem_of_getElem? (i := 50) rfl)
  · exact hw _ (List.mem_of_getElem? (i := 51) rfl)
set_option maxRecDepth 65536 in
set_option maxHeartbeats 40000000 in
theorem rm8S (l : Launch) (Z : State) (a0 : Array Value) (hw : ∀ d ∈ tables_1, d.before a0 Z = true) (hch : Jvm.Lit.constHeld Z "java/lang/String" 7) (hcw : Jvm.Lit.compactW.before a0 Z = true) (o0 : Addr) (o1 : Addr) (h0 : Heap) (n0 : Nat) (OO : Old Z n0 h0) (f1 : Fld Z h0 o1 "java/lang/String" "coder" "B" (.int 0)) (f2 : Exa Z h0 o1 "java/lang/String") (u0 : n0 ≤ o1) (f3 : Fld Z h0 o1 "java/lang/String" "value" "[B" .null) :
    MetFree l (⟨"java/lang/String", "<init>", "([CIILjava/lang/Void;)V"⟩ : MethodName) (head1 [Jvm.Cond.code (⟨"java/lang/String", "<init>", "([CIILjava/lang/Void;)V"⟩ : MethodName) jdk_42_method_149_code 6 none] ({ frames := 1, cells := 2, slots := 4, locals := 12 } : Room)) (fun a U => a = #[(.ref o1), (.ref o0), (.int 0), (.int 0), .null] ∧ Z.Warmed39 U.vm ∧ U.heap = h0 ∧ IB Z U.vm []) (fun _ _ _ _ _ => True) (fun _ U o U' => ∃ v L, o = .returned v ∧ own_QS o1 h0 n0 v U'.heap L ∧ ReturnedEndW U o U' L ({ frames := 1, cells := 2, slots := 4, locals := 12 } : Room).cells ({ frames := 1, cells := 2, slots := 4, locals := 12 } : Room).slots) := by
  refine MetFree.of_bodySF (plainFor_of_name pn_8) hisR ?_
  intro p e s m args below meth c s₁ Bd hml0 hP hK
  obtain ⟨rfl, hZ, hh, I0⟩ := hP
  have hx := Bd.exec
  have hby := Bd.bytes
  have hml : c.maxLocals = 6 := hml0
  have hown : s.vm.findClass "java/lang/String" = some m.cls := findClass_of_methodNamed Bd.named
  have hnm := (name_of_methodNamed Bd.named Bd.method).1
  have X0 : Stand p l e ({ frames := 1, cells := 2, slots := 4, locals := 12 } : Room) s m #[(.ref o1), (.ref o0), (.int 0), (.int 0), .null] below meth c s₁ [] 0 0 := Stand.of_body Bd
  have e0 : s₁.heap = h0 := by rw [← hh, Bd.state]; rfl
  have N0 := Fr.nil n0
  have pre0 : ∀ t, Steps p.tables e below (s₁.setTop (mkF m 0 #[rv o1, rv o0, iv 0, iv 0, .val .null, .unset] [])) t → Steps p.tables e below (s₁.setTop (entryFrame m #[(.ref o1), (.ref o0), (.int 0), (.int 0), .null] 6)) t := fun t k => castTop (ef_8 m o1 o0 0 0) k
  obtain ⟨T1, X1, e1, st1⟩ := initO X0 hx hZ hown (w_20 hw) (w_21 hw) (w_22 hw) e0 (g := (mkF m 1 #[rv o1, rv o0, iv 0, iv 0, .val .null, .unset] [(.ref o1)])) rfl (by rw [hml]; rfl) rfl (hb hby d8_1) (by decide) (W := 0) (by show 2 * 0 + _ ≤ _; exact Nat.le_of_eq rfl) (by decide)
  obtain ⟨a, T2, h2, k1, b, kk, X2, e2, E2, S2, hk1, hZ2, hown2, A2, C2, V2, -, -, -, I2, L2, st2⟩ := ldcSVL (vm0 := s.vm) (Ts := []) X1 hx hZ hown (hw _ (List.mem_of_getElem? (i := 49) rfl)) (own_atoms hw) e1 (k0 := 0) ((State.WarmedH.refl s).since 0) (Nat.zero_le _) (Fr.nil _) (fun b cl q => by rw [hh]; exact OO.2.2 b cl q) I0 (by simp) hch hcw (vs := []) (z := 0) ⟨by simp, by simp⟩ (by decide) (by decide)
    (g := (mkF m 9 #[rv o1, rv o0, iv 0, iv 0, .val .null, .unset] [(.ref o1)])) rfl (hb hby s8_9) (n := 0) (by simp) (by decide) (by decide) (by decide)
  have O2 := Old.ext OO E2
  have F1 : Fld Z h2 o1 "java/lang/String" "coder" "B" (.int 0) := Fld.ext E2 f1
  have F2 : Exa Z h2 o1 "java/lang/String" := Exa.ext E2 f2
  have F3 : Fld Z h2 o1 "java/lang/String" "value" "[B" .null := Fld.ext E2 f3
  obtain ⟨T3, X3, e3, st3⟩ := getF X2 hx hZ2 hown2 (host := "") (Or.inl (w_23 hw)) Via.refl e2 V2 (g := (mkF m 11 #[rv o1, rv o0, iv 0, iv 0, .val .null, .unset] [(.ref a), (.ref o1)])) rfl rfl (hb hby s8_11)
  obtain ⟨T4, h4, X4, e4, W4, st4⟩ := putF X3 hx hZ2 hown2 (host := "") (Or.inl (w_23 hw)) Via.refl e3 F3 F2 (Or.inr ⟨(w_24 hw), rfl, hnm⟩) (w_11 hw) (ty := (.array .byte)) (by decide) rfl rfl (g := (mkF m 14 #[rv o1, rv o0, iv 0, iv 0, .val .null, .unset] [(.ref b), (.ref o1)])) rfl rfl (hb hby s8_14)
  have N4 := Fr.snoc X4 N0 u0
  have F4 : Fld Z h4 o1 "java/lang/String" "coder" "B" (.int 0) := (Fld.other W4 F1 (Or.inr (slot_ne (Or.inr (w_26 hw)) (Or.inr (w_24 hw)) (by decide) (t := .byte) (t' := (.array .byte)) (by decide) (by decide))))
  have C4 : Fld Z h4 a "java/lang/String" "coder" "B" (.int 0) := (Fld.other W4 C2 (Or.inr (slot_ne (Or.inr (w_26 hw)) (Or.inr (w_24 hw)) (by decide) (t := .byte) (t' := (.array .byte)) (by decide) (by decide))))
  have F5 : Exa Z h4 o1 "java/lang/String" := Exa.wr W4 F2
  have st5 := ldcAgain X4 hx hZ2 hown2 (hw _ (List.mem_of_getElem? (i := 49) rfl)) L2 (g := (mkF m 18 #[rv o1, rv o0, iv 0, iv 0, .val .null, .unset] [(.ref o1)])) rfl (hb hby s8_18)
  obtain ⟨T5, X5, e5, st6⟩ := getF X4 hx hZ2 hown2 (host := "") (Or.inl (w_25 hw)) Via.refl e4 C4 (g := (mkF m 20 #[rv o1, rv o0, iv 0, iv 0, .val .null, .unset] [(.ref a), (.ref o1)])) rfl rfl (hb hby s8_20)
  obtain ⟨T6, h6, X6, e6, W6, st7⟩ := putFN X5 hx hZ2 hown2 (w_25 hw) Via.refl e5 F4 F5 (Or.inr ⟨(w_26 hw), rfl, hnm⟩) (w_11 hw) (ty := .byte) (v' := (.int 0)) (by decide) rfl rfl (g := (mkF m 23 #[rv o1, rv o0, iv 0, iv 0, .val .null, .unset] [(.int 0), (.ref o1)])) rfl rfl (hb hby s8_23)
  have N6 := Fr.snoc X6 N4 u0
  have K6 : Keep h0 h6 [o1] := Keep.wr (Keep.wr (Keep.ext (Keep.refl h0 [o1]) E2) W4 (Or.inl (List.mem_of_getElem? (i := 0) rfl))) W6 (Or.inl (List.mem_of_getElem? (i := 0) rfl))
  have hn6 : k1 ≤ T6.heap.size := by rw [e6]; exact Nat.le_trans hk1 (Nat.le_trans (Keep.of_wr W4).1 (Keep.of_wr W6).1)
  obtain ⟨fs, hr, hrun, hended, hRE⟩ := X6.leaveW S2 hn6 (v := none) (fun _ => rfl)
  refine ⟨_, _, pre0 _ ?_, hrun, hended, _, _, rfl, ?_, hRE⟩
  · show Steps p.tables e below (s₁.setTop (mkF m 0 #[rv o1, rv o0, iv 0, iv 0, .val .null, .unset] [])) _
    refine XS.aloadN X0.here hx rfl (hb hby d8_0) rfl rfl ?_
    refine st1 _ ?_
    refine XS.iloadN X1.here hx rfl (hb hby d8_4) rfl ?_
    refine XS.ifNo X1.here hx rfl (hb hby s8_5) rfl (by decide) ?_
    refine XS.aloadN X1.here hx rfl (hb hby s8_8) rfl rfl ?_
    refine st2 _ ?_
    refine st3 _ ?_
    refine st4 _ ?_
    refine XS.aloadN X4.here hx rfl (hb hby s8_17) rfl rfl ?_
    refine st5 _ ?_
    refine st6 _ ?_
    refine st7 _ ?_
    show Steps p.tables e below (T6.setTop (mkF m 26 #[rv o1, rv o0, iv 0, iv 0, .val .null, .unset] [])) _
    exact X6.returnOut hx Bd.returns (hb hby s8_26) hr
  · show own_QS o1 h0 n0 _ T6.heap _
    rw [e6]
    exact ⟨rfl, N6, K6⟩
set_option maxRecDepth 65536 in
set_option maxHeartbeats 40000000 in
theorem rm7S (l : Launch) (Z : State) (a0 : Array Value) (hw : ∀ d ∈ tables_1, d.before a0 Z = true) (hch : Jvm.Lit.constHeld Z "java/lang/String" 7) (hcw : Jvm.Lit.compactW.before a0 Z = true) (o0 : Addr) (o1 : Addr) (j0 : ClassId) (h0 : Heap) (n0 : Nat) (OO : Old Z n0 h0) (f0 : Arv Z h0 o0 j0 .char (0 : Int32) [] (.int 0)) (f1 : Fld Z h0 o1 "java/lang/String" "coder" "B" (.int 0)) (f2 : Exa Z h0 o1 "java/lang/String") (u0 : n0 ≤ o1) (f3 : Fld Z h0 o1 "java/lang/String" "value" "[B" .null) :
    MetFree l (⟨"java/lang/String", "<init>", "([C)V"⟩ : MethodName) (head1 [Jvm.Cond.code (⟨"java/lang/String", "<init>", "([C)V"⟩ : MethodName) jdk_42_method_3_code 2 none] ({ frames := 2, cells := 2, slots := 4, locals := 29 } : Room)) (fun a U => a = #[(.ref o1), (.ref o0)] ∧ Z.Warmed39 U.vm ∧ U.heap = h0 ∧ IB Z U.vm []) (fun _ _ _ _ _ => True) (fun _ U o U' => ∃ v L, o = .returned v ∧ own_QS o1 h0 n0 v U'.heap L ∧ ReturnedEndW U o U' L ({ frames := 2, cells := 2, slots := 4, locals := 29 } : Room).cells ({ frames := 2, cells := 2, slots := 4, locals := 29 } : Room).slots) := by
  refine MetFree.of_bodySF (plainFor_of_name pn_7) hisR ?_
  intro p e s m args below meth c s₁ Bd hml0 hP hK
  obtain ⟨rfl, hZ, hh, I0⟩ := hP
  have hx := Bd.exec
  have hby := Bd.bytes
  have hml : c.maxLocals = 2 := hml0
  have hown : s.vm.findClass "java/lang/String" = some m.cls := findClass_of_methodNamed Bd.named
  have X0 : Stand p l e ({ frames := 2, cells := 2, slots := 4, locals := 29 } : Room) s m #[(.ref o1), (.ref o0)] below meth c s₁ [] 0 0 := Stand.of_body Bd
  have e0 : s₁.heap = h0 := by rw [← hh, Bd.state]; rfl
  have N0 := Fr.nil n0
  have pre0 : ∀ t, Steps p.tables e below (s₁.setTop (mkF m 0 #[rv o1, rv o0] [])) t → Steps p.tables e below (s₁.setTop (entryFrame m #[(.ref o1), (.ref o0)] 2)) t := fun t k => castTop (ef_7 m o1 o0) k
  obtain ⟨c1, r1, q1, S1, M1, H1, G1⟩ := id f0
  obtain ⟨_, _, ⟨T2, L2, k2, n2⟩, -, X2, S2, -, ⟨Lc2, hQ2, l2, y2, z2⟩, st2⟩ := X0.specialBackS hx (y := (⟨"java/lang/String", "<init>", "([CIILjava/lang/Void;)V"⟩ : MethodName)) rfl hown (mvT hZ (w_36 hw)) (mvT hZ (w_37 hw)) (mvT hZ (w_38 hw)) (by decide) (own_backS (W := 0) (rm8S l Z a0 hw hch hcw o0 o1 h0 n0 OO f1 f2 u0 f3) hZ (w_38 hw) (w_3 hw) (by decide) (by decide)) (g := (mkF m 6 #[rv o1, rv o0] [.null, (.int 0), (.int 0), (.ref o0), (.ref o1)])) rfl (by rw [hml]; rfl) (Steps.refl _) (a := o1) (argsL := [(.ref o0), (.int 0), (.int 0), .null]) (rest := []) (lenOf pd_8 rfl) rfl (by show 2 * 0 + _ ≤ _; exact Nat.le_of_eq rfl) (hb hby d7_6) (fun _ hv => ⟨rfl, e0, (by decide : 0 + 2 ≤ _), (by decide : 0 + 4 ≤ _), own_IBw I0 hv⟩)
  dsimp only [Pt.U, Pt.locs, Pt.cells, Pt.slots] at X2 S2 l2 y2 z2 st2 hQ2
  subst l2 y2 z2
  obtain ⟨rfl, N2q, K2⟩ := hQ2
  have N2 := Fr.app N0 N2q
  obtain ⟨fs, hr, hrun, hended, hRE⟩ := X2.leaveW S2 (Nat.le_refl _) (v := none) (fun _ => rfl)
  refine ⟨_, _, pre0 _ ?_, hrun, hended, _, _, rfl, ?_, hRE⟩
  · show Steps p.tables e below (s₁.setTop (mkF m 0 #[rv o1, rv o0] [])) _
    refine XS.aloadN X0.here hx rfl (hb hby d7_0) rfl rfl ?_
    refine XS.aloadN X0.here hx rfl (hb hby d7_1) rfl rfl ?_
    refine XS.iconst X0.here hx rfl (hb hby d7_2) ?_
    refine XS.aloadN X0.here hx rfl (hb hby d7_3) rfl rfl ?_
    show Steps p.tables e below (s₁.setTop (mkF m 4 #[rv o1, rv o0] [(.ref o0), (.int 0), (.ref o0), (.ref o1)])) _
    refine X0.arraylength hx (by rw [e0]; exact r1.1) (State.isArrayOf_alike hZ.alike r1.2.1) (g := (mkF m 4 #[rv o1, rv o0] [(.ref o0), (.int 0), (.ref o0), (.ref o1)])) rfl rfl (hb hby d7_4) _ ?_
    rw [len_of S1 M1]
    refine XS.aconstNull X0.here hx rfl (hb hby d7_5) ?_
    refine st2.trans ?_
    exact X2.returnOut hx Bd.returns (hb hby d7_9) hr
  · exact ⟨rfl, N2, K2⟩
set_option maxRecDepth 65536 in
set_option maxHeartbeats 40000000 in
theorem rm0S (l : Launch) (Z : State) (a0 : Array Value) (hw : ∀ d ∈ tables_1, d.before a0 Z = true) (hch : Jvm.Lit.constHeld Z "java/lang/String" 7) (hcw : Jvm.Lit.compactW.before a0 Z = true) (ws : List Jvm.Cond) (cs : Int32) (p0 : Int32) (p1 : Int32) (p2 : Int32) (p3 : Int32) (h0 : Heap) (n0 : Nat) (FF : Facts Z Z.heap cs) (OO : Old Z n0 h0) (hk0 : ((p3 &&& (2147483647 : Int32)) % (3 : Int32)) = (0 : Int32)) :
    MetFree l x (head1 (Jvm.Cond.code x code maxLocals ret :: ws) room_1) (fun a U => a = #[(.int p0), (.int p1), (.int p2), (.int p3)] ∧ Z.Warmed39 U.vm ∧ U.heap = h0 ∧ IB Z U.vm []) (fun _ _ _ _ _ => True) (fun _ U o U' => ∃ v L, o = .returned v ∧ (v = some (.int (1 : Int32)) ∧ Fr n0 L) ∧ ReturnedEndW U o U' L 4 8) := by
  refine MetFree.of_bodySF (plainFor_of_name pn_0) hisR ?_
  intro p e s m args below meth c s₁ Bd hml0 hP hK
  obtain ⟨rfl, hZ, hh, I0⟩ := hP
  have hx := Bd.exec
  have hby := Bd.bytes
  have hml : c.maxLocals = 8 := hml0
  have hown : s.vm.findClass "com/example/deferra/deferra/formats/FieldsRequireWholePercentPinLaw" = some m.cls := findClass_of_methodNamed Bd.named
  have X0 : Stand p l e room_1 s m #[(.int p0), (.int p1), (.int p2), (.int p3)] below meth c s₁ [] 0 0 := Stand.of_body Bd
  have e0 : s₁.heap = h0 := by rw [← hh, Bd.state]; rfl
  have N0 := Fr.nil n0
  have pre0 : ∀ t, Steps p.tables e below (s₁.setTop (mkF m 0 #[iv p0, iv p1, iv p2, iv p3, .unset, .unset, .unset, .unset] [])) t → Steps p.tables e below (s₁.setTop (entryFrame m #[(.int p0), (.int p1), (.int p2), (.int p3)] maxLocals)) t := fun t k => castTop (ef_0 m p0 p1 p2 p3) k
  obtain ⟨T1, h1, X1, e1, E1, A1, D1, -, st1⟩ := newO X0 hx hZ hown (w_32 hw) (w_11 hw) (w_3 hw) e0 (g := (mkF m 24 #[iv p0, iv p1, iv p2, iv p3, iv (((p0 &&& (2147483647 : Int32)) % (100 : Int32)) + (1 : Int32)), iv 0, .unset, .unset] [])) rfl (hb hby at_24) (by decide) (by decide)
  obtain ⟨b1, g1⟩ : ∃ z, z = h0.size := ⟨_, rfl⟩
  rw [← g1] at A1 D1 st1
  have g2 : n0 ≤ b1 := Nat.le_trans (own_le OO) (Nat.le_of_eq g1.symm)
  have O1 := Old.ext OO E1
  have F1 : Fld Z h1 b1 "java/lang/String" "value" "[B" .null := D1 (Or.inr (w_24 hw)) (ty := (.array .byte)) (by decide)
  have F2 : Fld Z h1 b1 "java/lang/String" "coder" "B" (.int 0) := D1 (Or.inr (w_26 hw)) (ty := .byte) (by decide)
  obtain ⟨T2, h2, j0, X2, e2, E2, A2, B2, st2⟩ := newPE (aty := .char) X1 hx hZ (w_31 hw) e1 (g := (mkF m 29 #[iv p0, iv p1, iv p2, iv p3, iv (((p0 &&& (2147483647 : Int32)) % (100 : Int32)) + (1 : Int32)), iv 0, .unset, .unset] [(.int 0), (.ref b1), (.ref b1)])) rfl (hb hby at_29) rfl (by decide) (cap := 0) (by decide) (by decide) (by decide) (by decide) (ad := "[C") (by decide +kernel)
  obtain ⟨b2, g3⟩ : ∃ z, z = h1.size := ⟨_, rfl⟩
  rw [← g3] at A2 B2 st2
  have O2 := Old.ext O1 E2
  have F3 : Arv Z h2 b2 j0 .char (0 : Int32) [] (.int 0) := (Arv.new A2 (by decide)).pad (pad_rep [] (.int 0) 0)
  obtain ⟨_, _, ⟨T3, L3, k3, n3⟩, -, X3, S3, -, ⟨Lc3, hQ3, l3, y3, z3⟩, st3⟩ := X2.specialBackS hx (y := (⟨"java/lang/String", "<init>", "([C)V"⟩ : MethodName)) rfl hown (mvT hZ (w_33 hw)) (mvT hZ (w_34 hw)) (mvT hZ (w_35 hw)) (by decide) (own_backS (W := 1) (rm7S l Z a0 hw hch hcw b2 b1 j0 h2 n0 O2 F3 (Fld.ext E2 F2) (Exa.ext E2 A1) g2 (Fld.ext E2 F1)) hZ (w_35 hw) (w_3 hw) (by decide) (by decide)) (g := (mkF m 31 #[iv p0, iv p1, iv p2, iv p3, iv (((p0 &&& (2147483647 : Int32)) % (100 : Int32)) + (1 : Int32)), iv 0, .unset, .unset] [(.ref b2), (.ref b1), (.ref b1)])) rfl (by rw [hml]; rfl) (Steps.refl _) (a := b1) (argsL := [(.ref b2)]) (rest := [(.ref b1)]) (lenOf pd_9 rfl) rfl (by show 2 * 0 + _ ≤ _; exact Nat.le_of_eq rfl) (hb hby at_31) (fun _ hv => ⟨rfl, e2, (by decide : 2 + 2 ≤ _), (by decide : 4 + 4 ≤ _), own_IBw I0 hv⟩)
  dsimp only [Pt.U, Pt.locs, Pt.cells, Pt.slots] at X3 S3 l3 y3 z3 st3 hQ3
  subst l3 y3 z3
  obtain ⟨h3, e3⟩ : ∃ z, T3.heap = z := ⟨_, rfl⟩
  rw [e3] at hQ3
  obtain ⟨rfl, N3q, K3⟩ := hQ3
  have N3 := Fr.app N0 N3q
  have O3 := Old.keep O2 K3 (allS g2 all0)
  have hZ3 : Z.Warmed39 (s.setVm T3.vm).vm := State.Warmed39.trans hZ S3.1
  have hown3 : (s.setVm T3.vm).vm.findClass "com/example/deferra/deferra/formats/FieldsRequireWholePercentPinLaw" = some m.cls := (S3.1.alike.findClass _ _).trans hown
  obtain ⟨_, _, ⟨T4, L4, k4, n4⟩, -, X4, ⟨Lc4, hQ4, l4, y4, z4⟩, st4⟩ := Jvm.LawKit.callS X3 hx (y := (⟨"com/example/deferra/deferra/formats/Fields", "requireWholePercent", "(Ljava/lang/String;I)V"⟩ : MethodName)) hown3 (mvT hZ3 (w_27 hw)) (mvT hZ3 (w_28 hw)) (mvT hZ3 (w_29 hw)) (mvT hZ3 (w_30 hw)) (by decide) (backOf (W := 0) (rm6_0 l Z a0 hw [] cs (((p0 &&& (2147483647 : Int32)) % (100 : Int32)) + (1 : Int32)) b1 h3 n0 FF O3 (own_pct p0).1 (own_pct p0).2) hZ3 (w_30 hw) (w_29 hw) (by decide) (by decide)) (g := (mkF m 99 #[iv p0, iv p1, iv p2, iv p3, iv (((p0 &&& (2147483647 : Int32)) % (100 : Int32)) + (1 : Int32)), iv 0, rv b1, .unset] [(.int (((p0 &&& (2147483647 : Int32)) % (100 : Int32)) + (1 : Int32))), (.ref b1)])) rfl (by rw [hml]; rfl) (argsL := [(.ref b1), (.int (((p0 &&& (2147483647 : Int32)) % (100 : Int32)) + (1 : Int32)))]) (rest := []) (lenOf pd_4 rfl) rfl (by show 2 * 0 + _ ≤ _; exact Nat.le_of_eq rfl) (hb hby at_99) (fun _ _ => ⟨rfl, e3, (by decide : 4 + 0 ≤ _), (by decide : 8 + 0 ≤ _)⟩)
  dsimp only [Pt.U, Pt.locs, Pt.cells, Pt.slots] at X4 l4 y4 z4 st4 hQ4
  subst l4 y4 z4
  obtain ⟨rfl, N4q, e4⟩ := hQ4
  have N4 := Fr.app N3 N4q
  obtain ⟨fs, hr, hrun, hended, hRE⟩ := X4.leaveW S3 (by rw [e3, e4]; exact Nat.le_refl _) (v := some (.int 1)) (fun h => by rw [Bd.returns] at h; cases h)
  refine ⟨_, _, pre0 _ ?_, hrun, hended, _, _, rfl, ⟨rfl, N4⟩, hRE⟩
  show Steps p.tables e below (s₁.setTop (mkF m 0 #[iv p0, iv p1, iv p2, iv p3, .unset, .unset, .unset, .unset] [])) _
  refine XS.iloadN X0.here hx rfl (hb hby at_0) rfl ?_
  refine X0.ldcInt hx hown (mvT hZ (w_0 hw)) (g := (mkF m 1 #[iv p0, iv p1, iv p2, iv p3, .unset, .unset, .unset, .unset] [(.int p0)])) rfl (hb hby at_1) _ ?_
  refine XS.iand X0.here hx rfl (hb hby at_3) rfl ?_
  refine XS.bipush X0.here hx rfl (hb hby at_4) ?_
  show Steps p.tables e below (s₁.setTop (mkF m 6 #[iv p0, iv p1, iv p2, iv p3, .unset, .unset, .unset, .unset] [(.int 100), (.int (p0 &&& (2147483647 : Int32)))])) _
  refine iremM X0 hx rfl (hb hby at_6) rfl (by decide) ?_
  refine XS.iconst X0.here hx rfl (hb hby at_7) ?_
  refine XS.iadd X0.here hx rfl (hb hby at_8) rfl ?_
  refine XS.istore X0.here hx rfl (hb hby at_9) rfl (l' := #[iv p0, iv p1, iv p2, iv p3, iv (((p0 &&& (2147483647 : Int32)) % (100 : Int32)) + (1 : Int32)), .unset, .unset, .unset]) rfl ?_
  show Steps p.tables e below (s₁.setTop (mkF m 11 #[iv p0, iv p1, iv p2, iv p3, iv (((p0 &&& (2147483647 : Int32)) % (100 : Int32)) + (1 : Int32)), .unset, .unset, .unset] [])) _
  refine XS.iloadN X0.here hx rfl (hb hby at_11) rfl ?_
  refine X0.ldcInt hx hown (mvT hZ (w_0 hw)) (g := (mkF m 12 #[iv p0, iv p1, iv p2, iv p3, iv (((p0 &&& (2147483647 : Int32)) % (100 : Int32)) + (1 : Int32)), .unset, .unset, .unset] [(.int p3)])) rfl (hb hby at_12) _ ?_
  refine XS.iand X0.here hx rfl (hb hby at_14) rfl ?_
  refine XS.iconst X0.here hx rfl (hb hby at_15) ?_
  show Steps p.tables e below (s₁.setTop (mkF m 16 #[iv p0, iv p1, iv p2, iv p3, iv (((p0 &&& (2147483647 : Int32)) % (100 : Int32)) + (1 : Int32)), .unset, .unset, .unset] [(.int 3), (.int (p3 &&& (2147483647 : Int32)))])) _
  refine iremM X0 hx rfl (hb hby at_16) rfl (by decide) ?_
  show Steps p.tables e below (s₁.setTop (mkF m 17 #[iv p0, iv p1, iv p2, iv p3, iv (((p0 &&& (2147483647 : Int32)) % (100 : Int32)) + (1 : Int32)), .unset, .unset, .unset] [(.int ((p3 &&& (2147483647 : Int32)) % (3 : Int32)))])) _
  rw [hk0]
  refine XS.istore X0.here hx rfl (hb hby at_17) rfl (l' := #[iv p0, iv p1, iv p2, iv p3, iv (((p0 &&& (2147483647 : Int32)) % (100 : Int32)) + (1 : Int32)), iv 0, .unset, .unset]) rfl ?_
  refine XS.iload X0.here hx rfl (hb hby at_19) rfl ?_
  refine XS.ifNo X0.here hx rfl (hb hby at_21) rfl (by decide) ?_
  refine st1 _ ?_
  refine XS.dup X1.here hx rfl (hb hby at_27) rfl rfl ?_
  refine XS.iconst X1.here hx rfl (hb hby at_28) ?_
  refine st2 _ ?_
  refine st3.trans ?_
  refine XS.astore X3.here hx rfl (hb hby at_34) rfl rfl (l' := #[iv p0, iv p1, iv p2, iv p3, iv (((p0 &&& (2147483647 : Int32)) % (100 : Int32)) + (1 : Int32)), iv 0, rv b1, .unset]) rfl ?_
  refine XS.goto X3.here hx rfl (pc0 := 36) (pc' := 95) rfl (hb hby at_36) (by decide) (by decide) ?_
  show Steps p.tables e below (T3.setTop (mkF m 95 #[iv p0, iv p1, iv p2, iv p3, iv (((p0 &&& (2147483647 : Int32)) % (100 : Int32)) + (1 : Int32)), iv 0, rv b1, .unset] [])) _
  refine XS.aload X3.here hx rfl (hb hby at_95) rfl rfl ?_
  refine XS.iload X3.here hx rfl (hb hby at_97) rfl ?_
  refine st4 _ ?_
  refine XS.iload X4.here hx rfl (hb hby at_102) rfl ?_
  show Steps p.tables e below (T4.setTop (mkF m 104 #[iv p0, iv p1, iv p2, iv p3, iv (((p0 &&& (2147483647 : Int32)) % (100 : Int32)) + (1 : Int32)), iv 0, rv b1, .unset] [(.int (((p0 &&& (2147483647 : Int32)) % (100 : Int32)) + (1 : Int32)))])) _
  refine XS.iconst X4.here hx rfl (hb hby at_104) ?_
  refine XS.icmpNo X4.here hx rfl (hb hby at_105) rfl (flt (own_pct p0).1).1 ?_
  refine XS.iload X4.here hx rfl (hb hby at_108) rfl ?_
  refine XS.bipush X4.here hx rfl (hb hby at_110) ?_
  show Steps p.tables e below (T4.setTop (mkF m 112 #[iv p0, iv p1, iv p2, iv p3, iv (((p0 &&& (2147483647 : Int32)) % (100 : Int32)) + (1 : Int32)), iv 0, rv b1, .unset] [(.int 100), (.int (((p0 &&& (2147483647 : Int32)) % (100 : Int32)) + (1 : Int32)))])) _
  refine XS.icmpNo X4.here hx rfl (hb hby at_112) rfl (flt (own_pct p0).2).2.2.1 ?_
  refine XS.iconst X4.here hx rfl (hb hby at_115) ?_
  refine XS.goto X4.here hx rfl (pc0 := 116) (pc' := 120) rfl (hb hby at_116) (by decide) (by decide) ?_
  exact retN X4 hx (t := .boolean) Bd.returns (by simp) (hb hby at_120) hr
set_option maxRecDepth 65536 in
set_option maxHeartbeats 40000000 in
theorem comes_1 {Post : Tables → Env → Array Value → State → Outcome → State → Prop} (hpost : ∀ tb e args s v u, (limb_1_1.after args s (.returned v) u = true ∧ limb_1_2.after args s (.returned v) u = true ∧ True) → FramedW s (.returned v) u (Jvm.fieldLocs frame_1_writes args s ++ Jvm.arrayLocs frame_1_arrays args s ++ Jvm.staticLocs frame_1_statics s) 16 1152 → Post tb e args s (.returned v) u) :
    ArmFor flags0 classFile x code maxLocals ret World_1 tables_1 room_1 Calls_1 rest_1 Pre_1 Post := by
  intro l hfl _ _ p e ha hc hk s m args below hf hA hF happ hP
  obtain ⟨hcalls, hrest, hpre⟩ := hP
  obtain ⟨-, -, -, hnamed, -, -, -, hat⟩ := (Spec.applies_iff hf).mp happ
  obtain ⟨hg, hn⟩ := and_e (Cond.before_iff.mp (show (Jvm.Cond.and given_1 narrow_1).before args s = true from hpre))
  obtain ⟨gc, gr0⟩ := and_e hg
  obtain ⟨gi0, gr1⟩ := and_e gr0
  obtain ⟨gi1, gr2⟩ := and_e gr1
  obtain ⟨gi2, gr3⟩ := and_e gr2
  obtain ⟨w0, w1, w2, w3, rfl⟩ : ∃ w0 w1 w2 w3 : Value, args = #[w0, w1, w2, w3] := by
    have hs : args.size = 4 := by simpa [Cond.value, given_1] using gc
    obtain ⟨L⟩ := args
    match L, hs with
    | [w0, w1, w2, w3], _ => exact ⟨w0, w1, w2, w3, rfl⟩
  have hw := fun d (hd : d ∈ tables_1) => atoms_spec (ws := Jvm.Cond.code x code maxLocals ret :: tables_1) hat d (List.mem_cons_of_mem _ hd)
  obtain ⟨i0, ei0⟩ := is_v gi0
  obtain rfl : w0 = (.int i0) := Option.some.inj ei0
  obtain ⟨i1, ei1⟩ := is_v gi1
  obtain rfl : w1 = (.int i1) := Option.some.inj ei1
  obtain ⟨i2, ei2⟩ := is_v gi2
  obtain rfl : w2 = (.int i2) := Option.some.inj ei2
  obtain ⟨i3, ei3⟩ := is_v gr3
  obtain rfl : w3 = (.int i3) := Option.some.inj ei3
  obtain ⟨hsets, hown0⟩ := atoms_of _ (rest_1_c_eq ▸ (show rest_1_c.before _ s = true from hrest))
  obtain ⟨cs, ev_cs⟩ := is_v (Cond.before_iff.mp (hsets _ (List.mem_of_getElem? (i := 1) rfl)))
  have FF : Facts s s.heap cs := ⟨Sta.start ev_cs (Or.inl (hsets _ (List.mem_of_getElem? (i := 0) rfl))), gotF (Cond.eq_ints ev_cs (Term.int_eval 0)) (not_v (Cond.before_iff.mp (hsets _ (List.mem_of_getElem? (i := 2) rfl))))⟩
  rcases own_split0 i3 with hk0 | hk0 | hk0
  · have hch : Jvm.Lit.constHeld s "java/lang/String" 7 := hcalls.1 ("java/lang/String", 7) (by simp [consts_1])
    have hcw : Jvm.Lit.compactW.before #[(.int i0), (.int i1), (.int i2), (.int i3)] s = true := (hsets _ (List.mem_of_getElem? (i := 2) rfl))
    obtain ⟨n, o, h1, h2, h3, _, L, rfl, ⟨rfl, N⟩, hq⟩ := rm0S l s _ hw hch hcw tables_1 cs i0 i1 i2 i3 s.heap s.heap.size FF (Old.start s) hk0 p e ha hc hk s m _ below hf ((Spec.applies_iff_loose hf).mp happ).1 ⟨rfl, State.Warmed39.refl s, rfl, IB.start⟩ trivial
    refine ⟨n, _, h1, h2, h3, hpost _ _ _ _ _ _ ⟨Cond.after_iff.mpr rfl, Cond.after_iff.mpr (eq_i res_at (Term.int_eval (1)) rfl), trivial⟩ ⟨hq.1, hq.2.1, hq.2.2.1, (hq.2.2.2.sift fun y hy => Or.inr (N y hy)).mono (by decide) (by decide)⟩⟩
  · obtain ⟨n, o, h1, h2, h3, _, L, rfl, ⟨rfl, N⟩, hq⟩ := rm0_0 l s _ hw tables_1 cs i0 i1 i2 i3 s.heap s.heap.size FF (Old.start s) hk0 p e ha hc hk s m _ below hf ((Spec.applies_iff_loose hf).mp happ).1 ⟨rfl, State.Warmed39.refl s, rfl⟩ trivial
    refine ⟨n, _, h1, h2, h3, hpost _ _ _ _ _ _ ⟨Cond.after_iff.mpr rfl, Cond.after_iff.mpr (eq_i res_at (Term.int_eval (1)) rfl), trivial⟩ (ReturnedEndW.of_narrow hq.1 hq.2.1 ((hq.2.2.sift fun y hy => Or.inr (N y hy)).mono (by decide) (by decide)))⟩
  · obtain ⟨n, o, h1, h2, h3, _, L, rfl, ⟨rfl, N⟩, hq⟩ := rm0_1 l s _ hw tables_1 cs i0 i1 i2 i3 s.heap s.heap.size FF (Old.start s) hk0 p e ha hc hk s m _ below hf ((Spec.applies_iff_loose hf).mp happ).1 ⟨rfl, State.Warmed39.refl s, rfl⟩ trivial
    refine ⟨n, _, h1, h2, h3, hpost _ _ _ _ _ _ ⟨Cond.after_iff.mpr rfl, Cond.after_iff.mpr (eq_i res_at (Term.int_eval (1)) rfl), trivial⟩ (ReturnedEndW.of_narrow hq.1 hq.2.1 ((hq.2.2.sift fun y hy => Or.inr (N y hy)).mono (by decide) (by decide)))⟩
theorem main_1_1 : Claimed_1_1 := comes_1 fun _ _ _ _ _ _ h hF => ⟨h.1, hF⟩
theorem main_1_2 : Claimed_1_2 := comes_1 fun _ _ _ _ _ _ h hF => ⟨h.2.1, hF⟩
end Jvm.Pilot.@@N@@
namespace Jvm.Pilot.@@N@@
open Jvm Jvm.ClassFile Sem Op Lib Jvm.Free Jvm.Stand Jvm.Pilot.@@N@@.Jvm.D
/-! MADE BY PROGRAM (witnessworld.py) out of the Statement's table words and the real class files: 20 classes; the members and pool entries that the words name. The judged class is class 1, her method 1. -/
namespace start1
open Jvm.ClassFile
def u (s : String) : CpInfo := .utf8 (stringToUtf16 s)
/-- a pool by its gaps: so many unusable entries, then the entry; so many at the end -/
def gap : Nat → List CpInfo → List CpInfo
  | 0, r => r
  | n + 1, r => .unusable :: gap n r
def poolList (es : List (Nat × CpInfo)) (last : Nat) : List CpInfo := es.foldr (fun e r => gap e.1 (e.2 :: r)) (gap last [])
def pool (es : List (Nat × CpInfo)) (last : Nat) : Array CpInfo := ⟨poolList es last⟩
def fileOf (pool : Array CpInfo) (this : Nat) (attrs : Array Attribute := #[]) (ms : Array MethodInfo := #[]) (fl : Nat := 33) (sup : Nat := 0) (ifs : Array Nat := #[]) (fds : Array FieldInfo := #[]) : ClassFile where
  minorVersion := 0
  majorVersion := 65
  constantPool := pool
  accessFlags := fl
  thisClass := this
  superClass := sup
  interfaces := ifs
  fields := fds
  methods := ms
  attributes := attrs
def plain (name : String) (sup : Option ClassId) : Class where
  name := name
  kind := .ordinary
  loader := none
  accessFlags := 33
  super := sup
  interfaces := #[]
  cf := none
  fields := #[]
  methods := #[]
  instanceTypes := #[]
  staticTypes := #[]
  resolved := #[]
  callSites := []
  init := .initialized
  statics := none
  mirror := none

def pool0 : Array CpInfo := pool [(5, u "<init>"), (0, u "()V"), (1, .class_ 10), (1, u "java/lang/Object")] 113

def k0c0 : Code := { maxStack := 0, maxLocals := 1, code := object_method_1_code, exceptionTable := #[], attributes := #[] }
def k0m0 : Method := { name := "<init>", desc := "()V", sig := { parameters := [], returnType := none }, accessFlags := 1, code := some k0c0 }
/-- java/lang/Object -/
def k0 : Class := { plain "java/lang/Object" none with
  accessFlags := 33
  interfaces := #[]
  cf := some (fileOf pool0 8 #[] #[{ accessFlags := 1, nameIndex := 5, descriptorIndex := 6, attributes := #[] }] 33 0 #[] #[])
  fields := #[]
  methods := #[k0m0]
  instanceTypes := #[]
  staticTypes := #[]
  resolved := Array.replicate 124 none
  statics := none }

def pool1 : Array CpInfo := pool [(2, .class_ 4), (1, u "java/lang/Object"), (0, u "<init>"), (0, u "()V"), (0, .integer 2147483647), (0, .class_ 9), (0, u "java/lang/String"), (0, .methodref 8 11), (0, .nameAndType 5 12), (0, u "([C)V"), (0, .methodref 8 14), (0, .nameAndType 15 16), (0, u "valueOf"), (0, u "(C)Ljava/lang/String;"), (0, .methodref 18 19), (0, .class_ 20), (0, .nameAndType 21 22), (0, u "com/example/deferra/deferra/formats/Fields"), (0, u "requireWholePercent"), (0, u "(Ljava/lang/String;I)V"), (0, .class_ 24), (0, u "com/example/deferra/deferra/formats/FieldsRequireWholePercentPinLaw"), (2, u "law"), (0, u "(IIII)Z")] 3

def k1m0 : Method := { name := "<init>", desc := "()V", sig := { parameters := [], returnType := none }, accessFlags := 2, code := none }
def k1c1 : Code := { maxStack := 4, maxLocals := 8, code := code, exceptionTable := #[], attributes := #[] }
def k1m1 : Method := { name := "law", desc := "(IIII)Z", sig := { parameters := [.int, .int, .int, .int], returnType := some .boolean }, accessFlags := 9, code := some k1c1 }
/-- com/example/deferra/deferra/formats/FieldsRequireWholePercentPinLaw -/
def k1 : Class := { plain "com/example/deferra/deferra/formats/FieldsRequireWholePercentPinLaw" (some 0) with
  accessFlags := 49
  interfaces := #[]
  cf := some (fileOf pool1 23 #[] #[{ accessFlags := 2, nameIndex := 5, descriptorIndex := 6, attributes := #[] }, { accessFlags := 9, nameIndex := 27, descriptorIndex := 28, attributes := #[] }] 49 2 #[] #[])
  fields := #[]
  methods := #[k1m0, k1m1]
  instanceTypes := #[]
  staticTypes := #[]
  resolved := Array.replicate 32 none
  statics := none }

def pool2 : Array CpInfo := pool [(1, .class_ 2), (0, u "java/io/Serializable"), (0, .class_ 4), (0, u "java/lang/Object")] 2

/-- java/io/Serializable -/
def k2 : Class := { plain "java/io/Serializable" (some 0) with
  accessFlags := 1537
  interfaces := #[]
  cf := some (fileOf pool2 1 #[] #[] 1537 3 #[] #[])
  fields := #[]
  methods := #[]
  instanceTypes := #[]
  staticTypes := #[]
  resolved := Array.replicate 7 none
  statics := none }

def pool3 : Array CpInfo := pool [(1, .class_ 2), (0, u "java/lang/Comparable"), (0, .class_ 4), (0, u "java/lang/Object")] 7

/-- java/lang/Comparable -/
def k3 : Class := { plain "java/lang/Comparable" (some 0) with
  accessFlags := 1537
  interfaces := #[]
  cf := some (fileOf pool3 1 #[] #[] 1537 3 #[] #[])
  fields := #[]
  methods := #[]
  instanceTypes := #[]
  staticTypes := #[]
  resolved := Array.replicate 12 none
  statics := none }

def pool4 : Array CpInfo := pool [(2, .class_ 4), (1, u "java/lang/CharSequence"), (42, .class_ 48), (0, u "java/lang/CharSequence$1CodePointIterator"), (10, .class_ 60), (0, u "java/lang/CharSequence$1CharIterator"), (5, .class_ 67), (0, u "java/lang/Object")] 63

/-- java/lang/CharSequence -/
def k4 : Class := { plain "java/lang/CharSequence" (some 0) with
  accessFlags := 1537
  interfaces := #[]
  cf := some (fileOf pool4 2 #[.nestMembers #[47, 59]] #[] 1537 66 #[] #[])
  fields := #[]
  methods := #[]
  instanceTypes := #[]
  staticTypes := #[]
  resolved := Array.replicate 131 none
  statics := none }

def pool5 : Array CpInfo := pool [(1, .class_ 2), (0, u "java/lang/constant/Constable"), (0, .class_ 4), (0, u "java/lang/Object")] 6

/-- java/lang/constant/Constable -/
def k5 : Class := { plain "java/lang/constant/Constable" (some 0) with
  accessFlags := 1537
  interfaces := #[]
  cf := some (fileOf pool5 1 #[] #[] 1537 3 #[] #[])
  fields := #[]
  methods := #[]
  instanceTypes := #[]
  staticTypes := #[]
  resolved := Array.replicate 11 none
  statics := none }

def pool6 : Array CpInfo := pool [(1, .class_ 2), (0, u "java/lang/constant/ConstantDesc"), (0, .class_ 4), (0, u "java/lang/Object")] 32

/-- java/lang/constant/ConstantDesc -/
def k6 : Class := { plain "java/lang/constant/ConstantDesc" (some 0) with
  accessFlags := 1537
  interfaces := #[]
  cf := some (fileOf pool6 1 #[] #[] 1537 3 #[] #[])
  fields := #[]
  methods := #[]
  instanceTypes := #[]
  staticTypes := #[]
  resolved := Array.replicate 37 none
  statics := none }

def pool7 : Array CpInfo := pool [(1, .methodref 2 3), (0, .class_ 4), (0, .nameAndType 5 6), (0, u "java/lang/Object"), (0, u "<init>"), (0, u "()V"), (0, .string 8), (0, u ""), (0, .fieldref 10 11), (0, .class_ 12), (0, .nameAndType 13 14), (0, u "java/lang/String"), (0, u "value"), (0, u "[B"), (0, .fieldref 10 16), (0, .nameAndType 17 18), (0, u "coder"), (0, u "B"), (2, u "hash"), (0, u "I"), (2, u "hashIsZero"), (0, u "Z"), (0, .methodref 10 28), (0, .nameAndType 5 29), (0, u "([CIILjava/lang/Void;)V"), (8, .fieldref 10 39), (0, .nameAndType 40 26), (0, u "COMPACT_STRINGS"), (1, .class_ 44), (1, u "java/lang/StringUTF16"), (0, u "compress"), (1, .methodref 42 48), (0, .nameAndType 49 50), (0, u "coderFromArrayLen"), (0, u "([BI)B"), (2, u "toBytes"), (53, .class_ 109), (1, u "java/lang/StringLatin1"), (67, .methodref 42 178), (0, .nameAndType 45 179), (0, u "([CII)[B"), (29, .methodref 10 210), (0, .nameAndType 5 211), (0, u "([BB)V"), (157, u "(C)Z"), (205, .class_ 576), (0, u "java/lang/CharSequence"), (22, u "CASE_INSENSITIVE_ORDER"), (0, u "Ljava/util/Comparator;"), (181, u "valueOf"), (0, u "(C)Ljava/lang/String;"), (226, u "([C)V"), (4, .methodref 107 1016), (0, .nameAndType 1017 369), (0, u "canEncode"), (0, .methodref 107 1019), (0, .nameAndType 53 1020), (0, u "(C)[B"), (80, u "serialPersistentFields"), (0, u "[Ljava/io/ObjectStreamField;"), (0, .class_ 1104), (0, u "java/lang/String$CaseInsensitiveComparator"), (1, .class_ 1107), (0, u "java/io/Serializable"), (0, .class_ 1109), (0, u "java/lang/Comparable"), (0, .class_ 1111), (0, u "java/lang/constant/Constable"), (0, .class_ 1113), (0, u "java/lang/constant/ConstantDesc"), (2, u "serialVersionUID"), (0, u "J"), (3, u "REPL"), (0, u "C"), (2, u "LATIN1"), (1, u "UTF16")] 323

def k7m0 : Method := { name := "<init>", desc := "()V", sig := { parameters := [], returnType := none }, accessFlags := 1, code := none }
def k7c1 : Code := { maxStack := 5, maxLocals := 2, code := jdk_42_method_3_code, exceptionTable := #[], attributes := #[] }
def k7m1 : Method := { name := "<init>", desc := "([C)V", sig := { parameters := [(.array .char)], returnType := none }, accessFlags := 1, code := some k7c1 }
def k7c2 : Code := { maxStack := 4, maxLocals := 1, code := jdk_42_method_139_code, exceptionTable := #[], attributes := #[] }
def k7m2 : Method := { name := "valueOf", desc := "(C)Ljava/lang/String;", sig := { parameters := [.char], returnType := some (.object "java/lang/String") }, accessFlags := 9, code := some k7c2 }
def k7c3 : Code := { maxStack := 4, maxLocals := 6, code := jdk_42_method_149_code, exceptionTable := #[], attributes := #[] }
def k7m3 : Method := { name := "<init>", desc := "([CIILjava/lang/Void;)V", sig := { parameters := [(.array .char), .int, .int, (.object "java/lang/Void")], returnType := none }, accessFlags := 2, code := some k7c3 }
def k7c4 : Code := { maxStack := 2, maxLocals := 3, code := jdk_42_method_151_code, exceptionTable := #[], attributes := #[] }
def k7m4 : Method := { name := "<init>", desc := "([BB)V", sig := { parameters := [(.array .byte), .byte], returnType := none }, accessFlags := 0, code := some k7c4 }
/-- java/lang/String -/
def k7 : Class := { plain "java/lang/String" (some 0) with
  accessFlags := 49
  interfaces := #[2, 3, 4, 5, 6]
  cf := some (fileOf pool7 10 #[.nestMembers #[1103]] #[{ accessFlags := 1, nameIndex := 5, descriptorIndex := 6, attributes := #[] }, { accessFlags := 1, nameIndex := 5, descriptorIndex := 1010, attributes := #[] }, { accessFlags := 9, nameIndex := 782, descriptorIndex := 783, attributes := #[] }, { accessFlags := 2, nameIndex := 5, descriptorIndex := 29, attributes := #[] }, { accessFlags := 0, nameIndex := 5, descriptorIndex := 211, attributes := #[] }] 49 2 #[1106, 1108, 575, 1110, 1112] #[{ accessFlags := 18, nameIndex := 13, descriptorIndex := 14, attributes := #[] }, { accessFlags := 18, nameIndex := 17, descriptorIndex := 18, attributes := #[] }, { accessFlags := 2, nameIndex := 21, descriptorIndex := 22, attributes := #[] }, { accessFlags := 2, nameIndex := 25, descriptorIndex := 26, attributes := #[] }, { accessFlags := 26, nameIndex := 1116, descriptorIndex := 1117, attributes := #[] }, { accessFlags := 24, nameIndex := 40, descriptorIndex := 26, attributes := #[] }, { accessFlags := 26, nameIndex := 1101, descriptorIndex := 1102, attributes := #[] }, { accessFlags := 26, nameIndex := 1121, descriptorIndex := 1122, attributes := #[] }, { accessFlags := 25, nameIndex := 599, descriptorIndex := 600, attributes := #[] }, { accessFlags := 24, nameIndex := 1125, descriptorIndex := 18, attributes := #[] }, { accessFlags := 24, nameIndex := 1127, descriptorIndex := 18, attributes := #[] }])
  fields := #[{ name := "value", type := (.array .byte), accessFlags := 18, slot := 0, constantValue := 0 }, { name := "coder", type := .byte, accessFlags := 18, slot := 1, constantValue := 0 }, { name := "hash", type := .int, accessFlags := 2, slot := 2, constantValue := 0 }, { name := "hashIsZero", type := .boolean, accessFlags := 2, slot := 3, constantValue := 0 }, { name := "serialVersionUID", type := .long, accessFlags := 26, slot := 0, constantValue := 0 }, { name := "COMPACT_STRINGS", type := .boolean, accessFlags := 24, slot := 1, constantValue := 0 }, { name := "serialPersistentFields", type := (.array (.object "java/io/ObjectStreamField")), accessFlags := 26, slot := 2, constantValue := 0 }, { name := "REPL", type := .char, accessFlags := 26, slot := 3, constantValue := 0 }, { name := "CASE_INSENSITIVE_ORDER", type := (.object "java/util/Comparator"), accessFlags := 25, slot := 4, constantValue := 0 }, { name := "LATIN1", type := .byte, accessFlags := 24, slot := 5, constantValue := 0 }, { name := "UTF16", type := .byte, accessFlags := 24, slot := 6, constantValue := 0 }]
  methods := #[k7m0, k7m1, k7m2, k7m3, k7m4]
  instanceTypes := #[(.array .byte), .byte, .int, .boolean]
  staticTypes := #[.long, .boolean, (.array (.object "java/io/ObjectStreamField")), .char, (.object "java/util/Comparator"), .byte, .byte]
  resolved := Array.replicate 1451 none
  statics := some 0 }

def pool8 : Array CpInfo := pool [(4, .class_ 6), (1, u "java/lang/Object"), (0, u "<init>"), (0, u "()V"), (5, .class_ 16), (1, u "java/lang/StringLatin1"), (73, u "canEncode"), (14, u "(C)Z"), (15, u "$assertionsDisabled"), (0, u "Z"), (98, .class_ 223), (1, u "java/lang/StringLatin1$LinesSpliterator"), (156, u "toBytes"), (1, u "(C)[B"), (7, .class_ 391), (0, u "java/lang/StringLatin1$CharsSpliterator")] 3

def k8m0 : Method := { name := "<init>", desc := "()V", sig := { parameters := [], returnType := none }, accessFlags := 0, code := none }
def k8c1 : Code := { maxStack := 2, maxLocals := 1, code := jdk_43_method_3_code, exceptionTable := #[], attributes := #[] }
def k8m1 : Method := { name := "canEncode", desc := "(C)Z", sig := { parameters := [.char], returnType := some .boolean }, accessFlags := 9, code := some k8c1 }
def k8c2 : Code := { maxStack := 4, maxLocals := 1, code := jdk_43_method_46_code, exceptionTable := #[], attributes := #[] }
def k8m2 : Method := { name := "toBytes", desc := "(C)[B", sig := { parameters := [.char], returnType := some (.array .byte) }, accessFlags := 9, code := some k8c2 }
/-- java/lang/StringLatin1 -/
def k8 : Class := { plain "java/lang/StringLatin1" (some 0) with
  accessFlags := 48
  interfaces := #[]
  cf := some (fileOf pool8 14 #[.nestMembers #[390, 221]] #[{ accessFlags := 0, nameIndex := 7, descriptorIndex := 8, attributes := #[] }, { accessFlags := 9, nameIndex := 90, descriptorIndex := 105, attributes := #[] }, { accessFlags := 9, nameIndex := 380, descriptorIndex := 382, attributes := #[] }] 48 4 #[] #[{ accessFlags := 4120, nameIndex := 121, descriptorIndex := 122, attributes := #[] }])
  fields := #[{ name := "$assertionsDisabled", type := .boolean, accessFlags := 4120, slot := 0, constantValue := 0 }]
  methods := #[k8m0, k8m1, k8m2]
  instanceTypes := #[]
  staticTypes := #[.boolean]
  resolved := Array.replicate 395 none
  statics := none }

def pool9 : Array CpInfo := pool [(2, .class_ 4), (1, u "java/lang/Object"), (0, u "<init>"), (0, u "()V"), (23, .class_ 32), (1, u "com/example/deferra/deferra/formats/Fields"), (0, u "BLANK_LINE"), (0, u "Ljava/util/List;"), (188, u "LAST_DATE"), (0, u "Ljava/time/LocalDate;"), (7, u "AFTER_LAST_DATE"), (0, u "Ljava/lang/String;"), (5, u "PLAIN_DATE_LENGTH"), (0, u "I"), (4, u "FORMULA_STARTS"), (0, u "LINE_SEPARATOR"), (0, u "C"), (1, u "PARAGRAPH_SEPARATOR"), (8, u "requireWholePercent"), (0, u "(Ljava/lang/String;I)V")] 56

def k9m0 : Method := { name := "<init>", desc := "()V", sig := { parameters := [], returnType := none }, accessFlags := 2, code := none }
def k9c1 : Code := { maxStack := 4, maxLocals := 2, code := prog_40_method_8_code, exceptionTable := #[], attributes := #[] }
def k9m1 : Method := { name := "requireWholePercent", desc := "(Ljava/lang/String;I)V", sig := { parameters := [(.object "java/lang/String"), .int], returnType := none }, accessFlags := 9, code := some k9c1 }
/-- com/example/deferra/deferra/formats/Fields -/
def k9 : Class := { plain "com/example/deferra/deferra/formats/Fields" (some 0) with
  accessFlags := 49
  interfaces := #[]
  cf := some (fileOf pool9 30 #[] #[{ accessFlags := 2, nameIndex := 5, descriptorIndex := 6, attributes := #[] }, { accessFlags := 9, nameIndex := 258, descriptorIndex := 259, attributes := #[] }] 49 2 #[] #[{ accessFlags := 25, nameIndex := 223, descriptorIndex := 224, attributes := #[] }, { accessFlags := 25, nameIndex := 232, descriptorIndex := 233, attributes := #[] }, { accessFlags := 26, nameIndex := 239, descriptorIndex := 240, attributes := #[] }, { accessFlags := 26, nameIndex := 33, descriptorIndex := 34, attributes := #[] }, { accessFlags := 26, nameIndex := 245, descriptorIndex := 233, attributes := #[] }, { accessFlags := 26, nameIndex := 246, descriptorIndex := 247, attributes := #[] }, { accessFlags := 26, nameIndex := 249, descriptorIndex := 247, attributes := #[] }])
  fields := #[{ name := "LAST_DATE", type := (.object "java/time/LocalDate"), accessFlags := 25, slot := 0, constantValue := 0 }, { name := "AFTER_LAST_DATE", type := (.object "java/lang/String"), accessFlags := 25, slot := 1, constantValue := 0 }, { name := "PLAIN_DATE_LENGTH", type := .int, accessFlags := 26, slot := 2, constantValue := 0 }, { name := "BLANK_LINE", type := (.object "java/util/List"), accessFlags := 26, slot := 3, constantValue := 0 }, { name := "FORMULA_STARTS", type := (.object "java/lang/String"), accessFlags := 26, slot := 4, constantValue := 0 }, { name := "LINE_SEPARATOR", type := .char, accessFlags := 26, slot := 5, constantValue := 0 }, { name := "PARAGRAPH_SEPARATOR", type := .char, accessFlags := 26, slot := 6, constantValue := 0 }]
  methods := #[k9m0, k9m1]
  instanceTypes := #[]
  staticTypes := #[(.object "java/time/LocalDate"), (.object "java/lang/String"), .int, (.object "java/util/List"), (.object "java/lang/String"), .char, .char]
  resolved := Array.replicate 316 none
  statics := none }

def pool10 : Array CpInfo := pool [(6, .class_ 8), (1, u "java/lang/Object"), (0, u "<init>"), (0, u "()V"), (1, .class_ 14), (1, u "java/lang/StringUTF16"), (31, u "$assertionsDisabled"), (0, u "Z"), (13, u "HI_BYTE_SHIFT"), (0, u "I"), (2, u "LO_BYTE_SHIFT"), (49, .methodref 12 116), (0, .nameAndType 117 118), (0, u "compress"), (0, u "([CI[BII)I"), (3, u "([CII)[B"), (138, u "coderFromArrayLen"), (0, u "([BI)B"), (106, .class_ 371), (1, u "java/lang/StringUTF16$LinesSpliterator"), (58, u "MAX_LENGTH"), (196, .class_ 628), (0, u "java/lang/StringUTF16$CodePointsSpliterator"), (0, .class_ 630), (0, u "java/lang/StringUTF16$CharsSpliterator")] 4

def k10m0 : Method := { name := "<init>", desc := "()V", sig := { parameters := [], returnType := none }, accessFlags := 0, code := none }
def k10c1 : Code := { maxStack := 2, maxLocals := 2, code := jdk_52_method_15_code, exceptionTable := #[], attributes := #[] }
def k10m1 : Method := { name := "coderFromArrayLen", desc := "([BI)B", sig := { parameters := [(.array .byte), .int], returnType := some .byte }, accessFlags := 8, code := some k10c1 }
def k10c2 : Code := { maxStack := 5, maxLocals := 6, code := jdk_52_method_16_code, exceptionTable := #[], attributes := #[] }
def k10m2 : Method := { name := "compress", desc := "([CII)[B", sig := { parameters := [(.array .char), .int, .int], returnType := some (.array .byte) }, accessFlags := 9, code := some k10c2 }
def k10c3 : Code := { maxStack := 3, maxLocals := 7, code := jdk_52_method_21_code, exceptionTable := #[], attributes := #[] }
def k10m3 : Method := { name := "compress", desc := "([CI[BII)I", sig := { parameters := [(.array .char), .int, (.array .byte), .int, .int], returnType := some .int }, accessFlags := 9, code := some k10c3 }
/-- java/lang/StringUTF16 -/
def k10 : Class := { plain "java/lang/StringUTF16" (some 0) with
  accessFlags := 48
  interfaces := #[]
  cf := some (fileOf pool10 12 #[.nestMembers #[627, 629, 369]] #[{ accessFlags := 0, nameIndex := 9, descriptorIndex := 10, attributes := #[] }, { accessFlags := 8, nameIndex := 261, descriptorIndex := 262, attributes := #[] }, { accessFlags := 9, nameIndex := 117, descriptorIndex := 122, attributes := #[] }, { accessFlags := 9, nameIndex := 117, descriptorIndex := 118, attributes := #[] }] 48 6 #[] #[{ accessFlags := 26, nameIndex := 61, descriptorIndex := 62, attributes := #[] }, { accessFlags := 26, nameIndex := 65, descriptorIndex := 62, attributes := #[] }, { accessFlags := 24, nameIndex := 430, descriptorIndex := 62, attributes := #[] }, { accessFlags := 4120, nameIndex := 46, descriptorIndex := 47, attributes := #[] }])
  fields := #[{ name := "HI_BYTE_SHIFT", type := .int, accessFlags := 26, slot := 0, constantValue := 0 }, { name := "LO_BYTE_SHIFT", type := .int, accessFlags := 26, slot := 1, constantValue := 0 }, { name := "MAX_LENGTH", type := .int, accessFlags := 24, slot := 2, constantValue := 0 }, { name := "$assertionsDisabled", type := .boolean, accessFlags := 4120, slot := 3, constantValue := 0 }]
  methods := #[k10m0, k10m1, k10m2, k10m3]
  instanceTypes := #[]
  staticTypes := #[.int, .int, .int, .boolean]
  resolved := Array.replicate 635 none
  statics := none }

def pool11 : Array CpInfo := pool [(2, .class_ 4), (1, u "java/lang/Object"), (0, u "<init>"), (0, u "()V"), (17, .class_ 26), (1, u "jdk/internal/util/Preconditions"), (28, .class_ 56), (0, u "jdk/internal/util/Preconditions$4"), (57, .class_ 115), (0, u "jdk/internal/util/Preconditions$1"), (7, u "SIOOBE_FORMATTER"), (0, u "Ljava/util/function/BiFunction;"), (0, .class_ 126), (0, u "jdk/internal/util/Preconditions$2"), (3, u "AIOOBE_FORMATTER"), (0, .class_ 132), (0, u "jdk/internal/util/Preconditions$3"), (3, u "IOOBE_FORMATTER")] 57

def k11m0 : Method := { name := "<init>", desc := "()V", sig := { parameters := [], returnType := none }, accessFlags := 1, code := none }
/-- jdk/internal/util/Preconditions -/
def k11 : Class := { plain "jdk/internal/util/Preconditions" (some 0) with
  accessFlags := 33
  interfaces := #[]
  cf := some (fileOf pool11 24 #[.nestMembers #[55, 131, 125, 114]] #[{ accessFlags := 1, nameIndex := 5, descriptorIndex := 6, attributes := #[] }] 33 2 #[] #[{ accessFlags := 25, nameIndex := 123, descriptorIndex := 124, attributes := #[] }, { accessFlags := 25, nameIndex := 130, descriptorIndex := 124, attributes := #[] }, { accessFlags := 25, nameIndex := 136, descriptorIndex := 124, attributes := #[] }])
  fields := #[{ name := "SIOOBE_FORMATTER", type := (.object "java/util/function/BiFunction"), accessFlags := 25, slot := 0, constantValue := 0 }, { name := "AIOOBE_FORMATTER", type := (.object "java/util/function/BiFunction"), accessFlags := 25, slot := 1, constantValue := 0 }, { name := "IOOBE_FORMATTER", type := (.object "java/util/function/BiFunction"), accessFlags := 25, slot := 2, constantValue := 0 }]
  methods := #[k11m0]
  instanceTypes := #[]
  staticTypes := #[(.object "java/util/function/BiFunction"), (.object "java/util/function/BiFunction"), (.object "java/util/function/BiFunction")]
  resolved := Array.replicate 194 none
  statics := some 1 }

def pool12 : Array CpInfo := pool [(9, u "<init>"), (6, .class_ 18), (1, u "java/lang/Object"), (0, u "()V"), (1, .class_ 23), (1, u "jdk/internal/util/ArraysSupport"), (0, u "LOG2_ARRAY_LONG_INDEX_SCALE"), (0, u "I"), (2, u "U"), (0, u "Ljdk/internal/misc/Unsafe;"), (8, u "BIG_ENDIAN"), (0, u "Z"), (8, u "LOG2_BYTE_BIT_SIZE"), (4, u "LOG2_ARRAY_INT_INDEX_SCALE"), (54, u "JLA"), (0, u "Ljdk/internal/access/JavaLangAccess;"), (11, u "LOG2_ARRAY_BOOLEAN_INDEX_SCALE"), (9, u "LOG2_ARRAY_BYTE_INDEX_SCALE"), (5, u "LOG2_ARRAY_CHAR_INDEX_SCALE"), (5, u "LOG2_ARRAY_SHORT_INDEX_SCALE"), (18, u "LOG2_ARRAY_FLOAT_INDEX_SCALE"), (24, u "LOG2_ARRAY_DOUBLE_INDEX_SCALE"), (89, u "T_BOOLEAN"), (2, u "T_CHAR"), (1, u "T_FLOAT"), (1, u "T_DOUBLE"), (1, u "T_BYTE"), (1, u "T_SHORT"), (1, u "T_INT"), (1, u "T_LONG"), (1, u "SOFT_MAX_ARRAY_LENGTH")] 83

def k12m0 : Method := { name := "<init>", desc := "()V", sig := { parameters := [], returnType := none }, accessFlags := 2, code := none }
/-- jdk/internal/util/ArraysSupport -/
def k12 : Class := { plain "jdk/internal/util/ArraysSupport" (some 0) with
  accessFlags := 33
  interfaces := #[]
  cf := some (fileOf pool12 21 #[] #[{ accessFlags := 2, nameIndex := 9, descriptorIndex := 19, attributes := #[] }] 33 16 #[] #[{ accessFlags := 24, nameIndex := 28, descriptorIndex := 29, attributes := #[] }, { accessFlags := 26, nameIndex := 38, descriptorIndex := 39, attributes := #[] }, { accessFlags := 25, nameIndex := 121, descriptorIndex := 25, attributes := #[] }, { accessFlags := 25, nameIndex := 131, descriptorIndex := 25, attributes := #[] }, { accessFlags := 25, nameIndex := 137, descriptorIndex := 25, attributes := #[] }, { accessFlags := 25, nameIndex := 143, descriptorIndex := 25, attributes := #[] }, { accessFlags := 25, nameIndex := 53, descriptorIndex := 25, attributes := #[] }, { accessFlags := 25, nameIndex := 24, descriptorIndex := 25, attributes := #[] }, { accessFlags := 25, nameIndex := 162, descriptorIndex := 25, attributes := #[] }, { accessFlags := 25, nameIndex := 187, descriptorIndex := 25, attributes := #[] }, { accessFlags := 26, nameIndex := 48, descriptorIndex := 25, attributes := #[] }, { accessFlags := 25, nameIndex := 277, descriptorIndex := 25, attributes := #[] }, { accessFlags := 25, nameIndex := 280, descriptorIndex := 25, attributes := #[] }, { accessFlags := 25, nameIndex := 282, descriptorIndex := 25, attributes := #[] }, { accessFlags := 25, nameIndex := 284, descriptorIndex := 25, attributes := #[] }, { accessFlags := 25, nameIndex := 286, descriptorIndex := 25, attributes := #[] }, { accessFlags := 25, nameIndex := 288, descriptorIndex := 25, attributes := #[] }, { accessFlags := 25, nameIndex := 290, descriptorIndex := 25, attributes := #[] }, { accessFlags := 25, nameIndex := 292, descriptorIndex := 25, attributes := #[] }, { accessFlags := 26, nameIndex := 108, descriptorIndex := 109, attributes := #[] }, { accessFlags := 25, nameIndex := 294, descriptorIndex := 25, attributes := #[] }])
  fields := #[{ name := "U", type := (.object "jdk/internal/misc/Unsafe"), accessFlags := 24, slot := 0, constantValue := 0 }, { name := "BIG_ENDIAN", type := .boolean, accessFlags := 26, slot := 1, constantValue := 0 }, { name := "LOG2_ARRAY_BOOLEAN_INDEX_SCALE", type := .int, accessFlags := 25, slot := 2, constantValue := 0 }, { name := "LOG2_ARRAY_BYTE_INDEX_SCALE", type := .int, accessFlags := 25, slot := 3, constantValue := 0 }, { name := "LOG2_ARRAY_CHAR_INDEX_SCALE", type := .int, accessFlags := 25, slot := 4, constantValue := 0 }, { name := "LOG2_ARRAY_SHORT_INDEX_SCALE", type := .int, accessFlags := 25, slot := 5, constantValue := 0 }, { name := "LOG2_ARRAY_INT_INDEX_SCALE", type := .int, accessFlags := 25, slot := 6, constantValue := 0 }, { name := "LOG2_ARRAY_LONG_INDEX_SCALE", type := .int, accessFlags := 25, slot := 7, constantValue := 0 }, { name := "LOG2_ARRAY_FLOAT_INDEX_SCALE", type := .int, accessFlags := 25, slot := 8, constantValue := 0 }, { name := "LOG2_ARRAY_DOUBLE_INDEX_SCALE", type := .int, accessFlags := 25, slot := 9, constantValue := 0 }, { name := "LOG2_BYTE_BIT_SIZE", type := .int, accessFlags := 26, slot := 10, constantValue := 0 }, { name := "T_BOOLEAN", type := .int, accessFlags := 25, slot := 11, constantValue := 0 }, { name := "T_CHAR", type := .int, accessFlags := 25, slot := 12, constantValue := 0 }, { name := "T_FLOAT", type := .int, accessFlags := 25, slot := 13, constantValue := 0 }, { name := "T_DOUBLE", type := .int, accessFlags := 25, slot := 14, constantValue := 0 }, { name := "T_BYTE", type := .int, accessFlags := 25, slot := 15, constantValue := 0 }, { name := "T_SHORT", type := .int, accessFlags := 25, slot := 16, constantValue := 0 }, { name := "T_INT", type := .int, accessFlags := 25, slot := 17, constantValue := 0 }, { name := "T_LONG", type := .int, accessFlags := 25, slot := 18, constantValue := 0 }, { name := "JLA", type := (.object "jdk/internal/access/JavaLangAccess"), accessFlags := 26, slot := 19, constantValue := 0 }, { name := "SOFT_MAX_ARRAY_LENGTH", type := .int, accessFlags := 25, slot := 20, constantValue := 0 }]
  methods := #[k12m0]
  instanceTypes := #[]
  staticTypes := #[(.object "jdk/internal/misc/Unsafe"), .boolean, .int, .int, .int, .int, .int, .int, .int, .int, .int, .int, .int, .int, .int, .int, .int, .int, .int, (.object "jdk/internal/access/JavaLangAccess"), .int]
  resolved := Array.replicate 378 none
  statics := none }

def pool13 : Array CpInfo := pool [(1, u "java/lang/Cloneable"), (0, .class_ 1), (0, u "java/lang/Object"), (0, .class_ 3)] 3

/-- java/lang/Cloneable -/
def k13 : Class := { plain "java/lang/Cloneable" (some 0) with
  accessFlags := 1537
  interfaces := #[]
  cf := some (fileOf pool13 2 #[] #[] 1537 4 #[] #[])
  fields := #[]
  methods := #[]
  instanceTypes := #[]
  staticTypes := #[]
  resolved := Array.replicate 8 none
  statics := none }

/-- the primitive byte -/
def k14 : Class := { plain "byte" none with kind := .primitive 'B', accessFlags := 0x411 }
/-- [B -/
def k15 : Class := { plain "[B" (some 0) with kind := .array 14 .byte, interfaces := #[13, 2], accessFlags := 1041 }

/-- the primitive char -/
def k16 : Class := { plain "char" none with kind := .primitive 'C', accessFlags := 0x411 }
/-- [C -/
def k17 : Class := { plain "[C" (some 0) with kind := .array 16 .char, interfaces := #[13, 2], accessFlags := 1041 }

/-- the primitive int -/
def k18 : Class := { plain "int" none with kind := .primitive 'I', accessFlags := 0x411 }
/-- [I -/
def k19 : Class := { plain "[I" (some 0) with kind := .array 18 .int, interfaces := #[13, 2], accessFlags := 1041 }

def heap : Heap := #[{ cls := 7, slots := #[.long 0, .int 1, .null, .int 0, .null, .int 0, .int 0], vm := .statics 7 },
  { cls := 11, slots := #[.null, .null, .null], vm := .statics 11 }]
def classes : Array Class := #[k0, k1, k2, k3, k4, k5, k6, k7, k8, k9, k10, k11, k12, k13, k14, k15, k16, k17, k18, k19]
def interned : List (Array UInt16 × Addr) := []
def slotsUsed : Nat := 10
def theMethod : MethodId := ⟨1, 1⟩
def args0 : Array Value := #[.int 5, .int 5, .int 5, .int 5]
def aboutOver (below : List Frame) : State where
  vm := { classes := classes, interned := interned.toArray }
  heap := heap
  slotsUsed := slotsUsed
  threads := #[{ frames := .invoking theMethod args0 :: below }]
def below0 : List Frame := [.native { method := ⟨0, 0⟩, args := #[] }]
def about1 : State := aboutOver below0
def p0 : Program := .bare "" "" ""
def e0 : Env := launch0.env 0 0 0
theorem w_frames : about1.frames = Frame.invoking theMethod args0 :: below0 := rfl
set_option maxRecDepth 65536 in
theorem w_args : argsFit about1.vm theMethod args0 = true := by decide +kernel
set_option maxRecDepth 65536 in
theorem w_heap : heapFits about1 = true := by decide +kernel
set_option maxRecDepth 65536 in
theorem w_runnable : about1.curStatus? = some .runnable := by decide +kernel
set_option maxRecDepth 65536 in
theorem w_alone : about1.alone = true := by decide +kernel
set_option maxRecDepth 65536 in
theorem w_named : about1.methodNamed? x = some theMethod := by decide +kernel
set_option maxRecDepth 65536 in
theorem w_hears : about1.hears theMethod below0 = true := by decide +kernel
set_option maxRecDepth 65536 in
theorem w_ripe : about1.ripe theMethod args0 below0 = true := by decide +kernel
theorem w_running : about1.status = .running := rfl
set_option maxRecDepth 65536 in
theorem w_room : about1.hasRoom e0.platform room_1 = true :=
  launch0.hasRoom_least _ room_1 (by decide +kernel) (by decide +kernel) (by decide +kernel) (by decide +kernel) (by decide +kernel) (by decide +kernel)
theorem allAtoms_all (ts : List Jvm.Cond) (a : Array Jvm.Value) (st : Jvm.State) : (allAtoms ts).before a st = ts.all (fun c => c.before a st) := by
  induction ts with
  | nil => rfl
  | cons c t ih =>
    show (Jvm.Cond.and c (allAtoms t)).before a st = _
    rw [Jvm.Cond.before_and, ih, List.all_cons]
def words1 : List Jvm.Cond := Jvm.Cond.code x code maxLocals ret :: tables_1
/-- a 'code' word, met by the world's own term for the bytes: nothing is compared byte by byte -/
theorem code_word {y : MethodName} {bytes : ByteArray} {mx : Nat} {rt : Option FieldType} {a : Array Value} {s : State} {m : MethodId} {meth : Method} {c : Code} (h1 : s.methodNamed? y = some m) (h2 : s.vm.method? m = some meth) (h3 : meth.code = some c) (h4 : c.code = bytes)
    (h5 : (c.maxLocals == mx && c.exceptionTable.isEmpty && decide (c.maxStack ≤ mostOperands) && decide (meth.sig.returnType = rt) && !meth.locks && decide (parseMethodDescriptor y.desc = some meth.sig)) = true) : (Jvm.Cond.code y bytes mx rt).before a s = true := by
  simp only [Bool.and_eq_true, beq_iff_eq, Bool.not_eq_true', decide_eq_true_eq] at h5
  obtain ⟨⟨⟨⟨⟨g1, g2⟩, g3⟩, g4⟩, g5⟩, g6⟩ := h5
  simp [Cond.before, Cond.holds, Cond.value, h1, h2, h3, h4, g1, g2, g3, g4, g5, g6]
def isCode : Jvm.Cond → Bool
  | .code _ _ _ _ => true
  | _ => false
theorem all_split {L : List Jvm.Cond} {P : Jvm.Cond → Bool} (h1 : L.all (fun c => isCode c || P c) = true) (h2 : ∀ c ∈ L.filter isCode, P c = true) : L.all P = true := by
  refine List.all_eq_true.mpr fun c hc => ?_
  have h := List.all_eq_true.mp h1 c hc
  rcases Bool.eq_false_or_eq_true (isCode c) with hi | hi
  · exact h2 c (List.mem_filter.mpr ⟨hc, hi⟩)
  · simpa [hi] using h
set_option maxRecDepth 65536 in
theorem w_c0 : (Jvm.Cond.code x code maxLocals ret).before args0 about1 = true := code_word (m := ⟨1, 1⟩) (meth := k1m1) (c := k1c1) (by decide +kernel) rfl rfl rfl (by decide +kernel)
set_option maxRecDepth 65536 in
theorem w_c1 : (Jvm.Cond.code ({ cls := "java/lang/String", name := "valueOf", desc := "(C)Ljava/lang/String;" } : Jvm.MethodName) jdk_42_method_139_code (1 : Nat) (Option.some (Jvm.ClassFile.FieldType.object "java/lang/String"))).before args0 about1 = true := code_word (m := ⟨7, 2⟩) (meth := k7m2) (c := k7c2) (by decide +kernel) rfl rfl rfl (by decide +kernel)
set_option maxRecDepth 65536 in
theorem w_c2 : (Jvm.Cond.code ({ cls := "java/lang/StringLatin1", name := "canEncode", desc := "(C)Z" } : Jvm.MethodName) jdk_43_method_3_code (1 : Nat) (Option.some Jvm.ClassFile.FieldType.boolean)).before args0 about1 = true := code_word (m := ⟨8, 1⟩) (meth := k8m1) (c := k8c1) (by decide +kernel) rfl rfl rfl (by decide +kernel)
set_option maxRecDepth 65536 in
theorem w_c3 : (Jvm.Cond.code ({ cls := "java/lang/StringLatin1", name := "toBytes", desc := "(C)[B" } : Jvm.MethodName) jdk_43_method_46_code (1 : Nat) (Option.some (Jvm.ClassFile.FieldType.array Jvm.ClassFile.FieldType.byte))).before args0 about1 = true := code_word (m := ⟨8, 2⟩) (meth := k8m2) (c := k8c2) (by decide +kernel) rfl rfl rfl (by decide +kernel)
set_option maxRecDepth 65536 in
theorem w_c4 : (Jvm.Cond.code ({ cls := "java/lang/String", name := "<init>", desc := "([BB)V" } : Jvm.MethodName) jdk_42_method_151_code (3 : Nat) (Option.none : Option Jvm.ClassFile.FieldType)).before args0 about1 = true := code_word (m := ⟨7, 4⟩) (meth := k7m4) (c := k7c4) (by decide +kernel) rfl rfl rfl (by decide +kernel)
set_option maxRecDepth 65536 in
theorem w_c5 : (Jvm.Cond.code ({ cls := "java/lang/Object", name := "<init>", desc := "()V" } : Jvm.MethodName) object_method_1_code (1 : Nat) (Option.none : Option Jvm.ClassFile.FieldType)).before args0 about1 = true := code_word (m := ⟨0, 0⟩) (meth := k0m0) (c := k0c0) (by decide +kernel) rfl rfl rfl (by decide +kernel)
set_option maxRecDepth 65536 in
theorem w_c6 : (Jvm.Cond.code ({ cls := "com/example/deferra/deferra/formats/Fields", name := "requireWholePercent", desc := "(Ljava/lang/String;I)V" } : Jvm.MethodName) prog_40_method_8_code (2 : Nat) (Option.none : Option Jvm.ClassFile.FieldType)).before args0 about1 = true := code_word (m := ⟨9, 1⟩) (meth := k9m1) (c := k9c1) (by decide +kernel) rfl rfl rfl (by decide +kernel)
set_option maxRecDepth 65536 in
theorem w_c7 : (Jvm.Cond.code ({ cls := "java/lang/String", name := "<init>", desc := "([C)V" } : Jvm.MethodName) jdk_42_method_3_code (2 : Nat) (Option.none : Option Jvm.ClassFile.FieldType)).before args0 about1 = true := code_word (m := ⟨7, 1⟩) (meth := k7m1) (c := k7c1) (by decide +kernel) rfl rfl rfl (by decide +kernel)
set_option maxRecDepth 65536 in
theorem w_c8 : (Jvm.Cond.code ({ cls := "java/lang/String", name := "<init>", desc := "([CIILjava/lang/Void;)V" } : Jvm.MethodName) jdk_42_method_149_code (6 : Nat) (Option.none : Option Jvm.ClassFile.FieldType)).before args0 about1 = true := code_word (m := ⟨7, 3⟩) (meth := k7m3) (c := k7c3) (by decide +kernel) rfl rfl rfl (by decide +kernel)
set_option maxRecDepth 65536 in
theorem w_c9 : (Jvm.Cond.code ({ cls := "java/lang/StringUTF16", name := "compress", desc := "([CII)[B" } : Jvm.MethodName) jdk_52_method_16_code (6 : Nat) (Option.some (Jvm.ClassFile.FieldType.array Jvm.ClassFile.FieldType.byte))).before args0 about1 = true := code_word (m := ⟨10, 2⟩) (meth := k10m2) (c := k10c2) (by decide +kernel) rfl rfl rfl (by decide +kernel)
set_option maxRecDepth 65536 in
theorem w_c10 : (Jvm.Cond.code ({ cls := "java/lang/StringUTF16", name := "compress", desc := "([CI[BII)I" } : Jvm.MethodName) jdk_52_method_21_code (7 : Nat) (Option.some Jvm.ClassFile.FieldType.int)).before args0 about1 = true := code_word (m := ⟨10, 3⟩) (meth := k10m3) (c := k10c3) (by decide +kernel) rfl rfl rfl (by decide +kernel)
set_option maxRecDepth 65536 in
theorem w_c11 : (Jvm.Cond.code ({ cls := "java/lang/StringUTF16", name := "coderFromArrayLen", desc := "([BI)B" } : Jvm.MethodName) jdk_52_method_15_code (2 : Nat) (Option.some Jvm.ClassFile.FieldType.byte)).before args0 about1 = true := code_word (m := ⟨10, 1⟩) (meth := k10m1) (c := k10c1) (by decide +kernel) rfl rfl rfl (by decide +kernel)
def codes1 : List Jvm.Cond := [Jvm.Cond.code x code maxLocals ret, Jvm.Cond.code ({ cls := "java/lang/String", name := "valueOf", desc := "(C)Ljava/lang/String;" } : Jvm.MethodName) jdk_42_method_139_code (1 : Nat) (Option.some (Jvm.ClassFile.FieldType.object "java/lang/String")), Jvm.Cond.code ({ cls := "java/lang/StringLatin1", name := "canEncode", desc := "(C)Z" } : Jvm.MethodName) jdk_43_method_3_code (1 : Nat) (Option.some Jvm.ClassFile.FieldType.boolean), Jvm.Cond.code ({ cls := "java/lang/StringLatin1", name := "toBytes", desc := "(C)[B" } : Jvm.MethodName) jdk_43_method_46_code (1 : Nat) (Option.some (Jvm.ClassFile.FieldType.array Jvm.ClassFile.FieldType.byte)), Jvm.Cond.code ({ cls := "java/lang/String", name := "<init>", desc := "([BB)V" } : Jvm.MethodName) jdk_42_method_151_code (3 : Nat) (Option.none : Option Jvm.ClassFile.FieldType), Jvm.Cond.code ({ cls := "java/lang/Object", name := "<init>", desc := "()V" } : Jvm.MethodName) object_method_1_code (1 : Nat) (Option.none : Option Jvm.ClassFile.FieldType), Jvm.Cond.code ({ cls := "com/example/deferra/deferra/formats/Fields", name := "requireWholePercent", desc := "(Ljava/lang/String;I)V" } : Jvm.MethodName) prog_40_method_8_code (2 : Nat) (Option.none : Option Jvm.ClassFile.FieldType), Jvm.Cond.code ({ cls := "java/lang/String", name := "<init>", desc := "([C)V" } : Jvm.MethodName) jdk_42_method_3_code (2 : Nat) (Option.none : Option Jvm.ClassFile.FieldType), Jvm.Cond.code ({ cls := "java/lang/String", name := "<init>", desc := "([CIILjava/lang/Void;)V" } : Jvm.MethodName) jdk_42_method_149_code (6 : Nat) (Option.none : Option Jvm.ClassFile.FieldType), Jvm.Cond.code ({ cls := "java/lang/StringUTF16", name := "compress", desc := "([CII)[B" } : Jvm.MethodName) jdk_52_method_16_code (6 : Nat) (Option.some (Jvm.ClassFile.FieldType.array Jvm.ClassFile.FieldType.byte)), Jvm.Cond.code ({ cls := "java/lang/StringUTF16", name := "compress", desc := "([CI[BII)I" } : Jvm.MethodName) jdk_52_method_21_code (7 : Nat) (Option.some Jvm.ClassFile.FieldType.int), Jvm.Cond.code ({ cls := "java/lang/StringUTF16", name := "coderFromArrayLen", desc := "([BI)B" } : Jvm.MethodName) jdk_52_method_15_code (2 : Nat) (Option.some Jvm.ClassFile.FieldType.byte)]
set_option maxRecDepth 65536 in
theorem codes_eq : words1.filter isCode = codes1 := rfl
theorem w_codes : ∀ c ∈ words1.filter isCode, c.before args0 about1 = true := by
  rw [codes_eq]
  intro c hc
  simp only [codes1, List.mem_cons, List.not_mem_nil, or_false] at hc
  rcases hc with rfl | rfl | rfl | rfl | rfl | rfl | rfl | rfl | rfl | rfl | rfl | rfl
  · exact w_c0
  · exact w_c1
  · exact w_c2
  · exact w_c3
  · exact w_c4
  · exact w_c5
  · exact w_c6
  · exact w_c7
  · exact w_c8
  · exact w_c9
  · exact w_c10
  · exact w_c11
set_option maxRecDepth 65536 in
theorem w_t1 : (words1.take 24).all (fun c => isCode c || c.before args0 about1) = true := by decide +kernel
set_option maxRecDepth 65536 in
theorem w_t2 : ((words1.drop 24).take 24).all (fun c => isCode c || c.before args0 about1) = true := by decide +kernel
set_option maxRecDepth 65536 in
theorem w_t3 : ((words1.drop 24).drop 24).all (fun c => isCode c || c.before args0 about1) = true := by decide +kernel
theorem w_tables : (allAtoms (Jvm.Cond.code x code maxLocals ret :: tables_1)).before args0 about1 = true := by
  rw [allAtoms_all]
  show words1.all (fun c => c.before args0 about1) = true
  refine all_split ?_ w_codes
  rw [← List.take_append_drop 24 words1, List.all_append, w_t1, ← List.take_append_drop 24 (words1.drop 24), List.all_append, w_t2, w_t3]
  rfl
set_option maxRecDepth 65536 in
theorem w_rest : rest_1_c.before args0 about1 = true := by decide +kernel
set_option maxRecDepth 65536 in
theorem w_case : (Jvm.Cond.and given_1 narrow_1).before args0 about1 = true := by decide +kernel
set_option maxRecDepth 65536 in
theorem w_consts : constsHeld consts_1 about1 := Jvm.Lit.constsHeldB_iff.mp (by decide +kernel)
theorem w_applies : (headSpec (Jvm.Cond.code x code maxLocals ret :: tables_1) room_1).applies x e0.platform about1 = true :=
  (Spec.applies_iff w_frames).mpr ⟨w_running, w_runnable, w_alone, w_named, w_hears, w_ripe, w_room, w_tables⟩
theorem atStart : AtStart classFile x code maxLocals ret World_1 tables_1 room_1 Calls_1 rest_1 Pre_1 launch0 p0 e0 about1 theMethod args0 below0 :=
  ⟨lists_1, trivial, launch0.admits_env _ _ _, launch0.least_env, fairChoices_fair.cas, fairChoices_fair.clock, w_frames, w_args, w_heap, w_applies, ⟨w_consts, trivial⟩, w_rest, w_case⟩
end start1
theorem witness_1 : WitnessClaimed_1 := ⟨start1.p0, start1.e0, start1.about1, start1.theMethod, start1.args0, start1.below0, start1.atStart⟩
end Jvm.Pilot.@@N@@

import JvmDerived
import JvmDerived.Pilot.@@N@@Statement
import JvmDerived.Pilot.@@N@@Code
set_option linter.unusedVariables false
set_option linter.unusedSimpArgs false
namespace Jvm.RoadKit
open Sem ClassFile Op Lib Jvm.Stand Jvm.Free Jvm.LawKit
section New
variable {p : Program} {l : Launch} {e : Env} {R : Room} {s : State} {m : MethodId} {args : Array Value} {below : List Frame} {meth : Method} {c : Code} {T : State} {locs : List Loc} {cells slots : Nat}
theorem retI (X : Stand p l e R s m args below meth c T locs cells slots) (hx : p.tables.exec = Jvm.exec) {pc : Nat} {Ls : Array Slot} {z : Int32} {rest : List Value} (hret : meth.sig.returnType = some .int) (hd : decode c.code pc = .ok (.ireturn, 1)) {fs : List Frame}
    (hl : ∀ (f : JFrame) (acts : List Action), f.method = m → f.locked = none → f.entered = [] → (doReturn e (T.setTop f) acts (some (.int z))).1 = T.setFrames fs) : Steps p.tables e below (T.setTop (mkF m pc Ls (.int z :: rest))) (T.setFrames fs) := by
  have hm' : T.vm.method? m = some meth := X.method'
  have hn : narrow .int (.int z) = .int z := rfl
  show Steps p.tables e below (T.setTop { method := m, pc := pc, locals := Ls, stack := _ :: rest, locked := none }) _
  jvm_step X.here [X.here.top, hx, hd, hm', hret, hn]
  first | (intro acts; rw [hl _ acts rfl rfl rfl]) | rw [hl _ _ rfl rfl rfl]
  exact Steps.refl _
end New
end Jvm.RoadKit
namespace Jvm.Pilot.@@N@@
open Jvm Jvm.ClassFile Sem Op Lib Jvm.Free Jvm.Stand Jvm.LawKit Jvm.RoadKit Bundle Jvm.Pilot.@@N@@.Jvm.D
theorem own_lit {r c : Int32} {v : Int} (e : c.toInt = v) (h : r.toInt = v) : r = c := Int32.toInt_inj.mp (h.trans e.symm)
theorem own_eqi {args : Array Value} {first s : State} {o : Option Outcome} {idx : List Nat} {t : Jvm.Term} {n : Int32} (h : (Jvm.Cond.eq t (Jvm.Term.int n)).value args first o s idx = some true) : t.eval args first o idx s = some (.int n) := by
  obtain ⟨x, y, h1, h2, h3, -⟩ := cmp_v (Or.inl h)
  have h4 := h2.symm.trans (Term.int_eval n)
  cases h4
  cases x with
  | int i => have h5 := gotT (Cond.eq_ints h1 h2) h; rw [h1, h5]
  | _ => first | (obtain ⟨z, hz⟩ := h3; cases hz; done) | exact absurd h3.2 (by simp [Value.isRef])
theorem own_eqL {args : Array Value} {first s : State} {o : Option Outcome} {idx : List Nat} {t : Jvm.Term} {n : Int64} (h : (Jvm.Cond.eq t (Jvm.Term.long n)).value args first o s idx = some true) : t.eval args first o idx s = some (.long n) := by
  obtain ⟨x, y, h1, h2, h3, -⟩ := cmp_v (Or.inl h)
  have h4 : y = .long n := Option.some.inj (h2.symm.trans rfl)
  subst h4
  cases x with
  | long i => have h5 := gotT (eq_L h1 h2) h; rw [h1, h5]
  | _ => first | (obtain ⟨z, hz⟩ := h3; cases hz; done) | exact absurd h3.2 (by simp [Value.isRef])
theorem own_le {Z : State} {n0 : Nat} {h : Heap} (O : Old Z n0 h) : n0 ≤ h.size := O.1 ▸ O.2.1
theorem own_leZ {Z : State} {n0 : Nat} {h : Heap} {y : Addr} (O : Old Z n0 h) (g : n0 ≤ y) : Z.heap.size ≤ y := O.1 ▸ g
def own_Ar (Z : State) (h : Heap) (a : Addr) (ty : FieldType) (n : Int32) : Prop := ∃ c : Cell, Arr Z h a c ty ∧ c.slots.size.toInt32 = n
def own_El (Z : State) (h : Heap) (a : Addr) (ty : FieldType) (j : Int32) (v : Value) : Prop := ∃ c : Cell, Arr Z h a c ty ∧ ¬ (j < 0 ∨ c.slots.size ≤ j.toNatClampNeg) ∧ c.slots[j.toNatClampNeg]? = some v
theorem own_Ar.ext {Z : State} {h h' : Heap} {a : Addr} {ty : FieldType} {n : Int32} (E : Ext h h') (F : own_Ar Z h a ty n) : own_Ar Z h' a ty n := by obtain ⟨c, A, r⟩ := F; exact ⟨c, A.ext E, r⟩
theorem own_El.ext {Z : State} {h h' : Heap} {a : Addr} {ty : FieldType} {j : Int32} {v : Value} (E : Ext h h') (F : own_El Z h a ty j v) : own_El Z h' a ty j v := by obtain ⟨c, A, r⟩ := F; exact ⟨c, A.ext E, r⟩
theorem own_Ar.start {s : State} {args : Array Value} {t : Jvm.Term} {a : Addr} {c : Cell} {ty : FieldType} {n : Int32} (ev : t.eval args s none [] s = some (.ref a)) (A : Arr s s.heap a c ty) (hl : (Jvm.Term.length t).eval args s none [] s = some (.int n)) : own_Ar s s.heap a ty n := by
  obtain ⟨c', h1, h2⟩ := length_at hl ev
  cases A.1.symm.trans h1
  exact ⟨c, A, h2⟩
theorem own_El.start {s : State} {args : Array Value} {t : Jvm.Term} {a : Addr} {c : Cell} {ty : FieldType} {j : Int32} {v : Value} (ev : t.eval args s none [] s = some (.ref a)) (A : Arr s s.heap a c ty) (he : (Jvm.Term.elem t (Jvm.Term.int j)).eval args s none [] s = some v) : own_El s s.heap a ty j v := by
  obtain ⟨c', h1, h2, h3⟩ := elem_at he ev (Term.int_eval j)
  cases A.1.symm.trans h1
  exact ⟨c, A, h2, h3⟩
theorem own_split0 (p0 : Int32) : (p0 &&& (3 : Int32)) = (0 : Int32) ∨ (p0 &&& (3 : Int32)) = (1 : Int32) ∨ (p0 &&& (3 : Int32)) = (2 : Int32) ∨ (p0 &&& (3 : Int32)) = (3 : Int32) := by
  have h2 := c_mask p0 (3 : Int32) 2 (by decide) (by decide)
  have h4 : ((2 ^ 2 : Nat) : Int) = 4 := rfl
  rw [h4] at h2
  have h3 : (p0 &&& (3 : Int32)).toInt = 0 ∨ (p0 &&& (3 : Int32)).toInt = 1 ∨ (p0 &&& (3 : Int32)).toInt = 2 ∨ (p0 &&& (3 : Int32)).toInt = 3 := by omega
  rcases h3 with h | h | h | h
  · exact Or.inl (own_lit rfl h)
  · exact Or.inr (Or.inl (own_lit rfl h))
  · exact Or.inr (Or.inr (Or.inl (own_lit rfl h)))
  · exact Or.inr (Or.inr (Or.inr (own_lit rfl h)))
def Facts (Z : State) (h : Heap) (a_ONE : Addr) (a_ZTT : Addr) (e_2 : Addr) (e_3 : Addr) : Prop :=
  Sta Z h "java/math/BigDecimal" "ONE" "Ljava/math/BigDecimal;" (.ref a_ONE) ∧
  Sta Z h "java/math/BigDecimal" "ZERO_THROUGH_TEN" "[Ljava/math/BigDecimal;" (.ref a_ZTT) ∧
  Exa Z h a_ONE "java/math/BigDecimal" ∧
  Fld Z h a_ONE "java/math/BigDecimal" "scale" "I" (.int 0) ∧
  Fld Z h a_ONE "java/math/BigDecimal" "intCompact" "J" (.long 1) ∧
  own_Ar Z h a_ZTT (.object "java/math/BigDecimal") (11 : Int32) ∧
  Exa Z h e_2 "java/math/BigDecimal" ∧
  Fld Z h e_2 "java/math/BigDecimal" "scale" "I" (.int 0) ∧
  Fld Z h e_2 "java/math/BigDecimal" "intCompact" "J" (.long 2) ∧
  own_El Z h a_ZTT (.object "java/math/BigDecimal") (2 : Int32) (.ref e_2) ∧
  Exa Z h e_3 "java/math/BigDecimal" ∧
  Fld Z h e_3 "java/math/BigDecimal" "scale" "I" (.int 0) ∧
  Fld Z h e_3 "java/math/BigDecimal" "intCompact" "J" (.long 3) ∧
  own_El Z h a_ZTT (.object "java/math/BigDecimal") (3 : Int32) (.ref e_3)
theorem fx_S_ONE {Z : State} {h : Heap} {a_ONE : Addr} {a_ZTT : Addr} {e_2 : Addr} {e_3 : Addr} (F : Facts Z h a_ONE a_ZTT e_2 e_3) : Sta Z h "java/math/BigDecimal" "ONE" "Ljava/math/BigDecimal;" (.ref a_ONE) := F.1
theorem fx_S_ZERO_THROUGH_TEN {Z : State} {h : Heap} {a_ONE : Addr} {a_ZTT : Addr} {e_2 : Addr} {e_3 : Addr} (F : Facts Z h a_ONE a_ZTT e_2 e_3) : Sta Z h "java/math/BigDecimal" "ZERO_THROUGH_TEN" "[Ljava/math/BigDecimal;" (.ref a_ZTT) := F.2.1
theorem fx_E_a_ONE {Z : State} {h : Heap} {a_ONE : Addr} {a_ZTT : Addr} {e_2 : Addr} {e_3 : Addr} (F : Facts Z h a_ONE a_ZTT e_2 e_3) : Exa Z h a_ONE "java/math/BigDecimal" := F.2.2.1
theorem fx_F_a_ONE_scale {Z : State} {h : Heap} {a_ONE : Addr} {a_ZTT : Addr} {e_2 : Addr} {e_3 : Addr} (F : Facts Z h a_ONE a_ZTT e_2 e_3) : Fld Z h a_ONE "java/math/BigDecimal" "scale" "I" (.int 0) := F.2.2.2.1
theorem fx_F_a_ONE_intCompact {Z : State} {h : Heap} {a_ONE : Addr} {a_ZTT : Addr} {e_2 : Addr} {e_3 : Addr} (F : Facts Z h a_ONE a_ZTT e_2 e_3) : Fld Z h a_ONE "java/math/BigDecimal" "intCompact" "J" (.long 1) := F.2.2.2.2.1
theorem fx_len_ZTT {Z : State} {h : Heap} {a_ONE : Addr} {a_ZTT : Addr} {e_2 : Addr} {e_3 : Addr} (F : Facts Z h a_ONE a_ZTT e_2 e_3) : own_Ar Z h a_ZTT (.object "java/math/BigDecimal") (11 : Int32) := F.2.2.2.2.2.1
theorem fx_E_e_2 {Z : State} {h : Heap} {a_ONE : Addr} {a_ZTT : Addr} {e_2 : Addr} {e_3 : Addr} (F : Facts Z h a_ONE a_ZTT e_2 e_3) : Exa Z h e_2 "java/math/BigDecimal" := F.2.2.2.2.2.2.1
theorem fx_F_e_2_scale {Z : State} {h : Heap} {a_ONE : Addr} {a_ZTT : Addr} {e_2 : Addr} {e_3 : Addr} (F : Facts Z h a_ONE a_ZTT e_2 e_3) : Fld Z h e_2 "java/math/BigDecimal" "scale" "I" (.int 0) := F.2.2.2.2.2.2.2.1
theorem fx_F_e_2_intCompact {Z : State} {h : Heap} {a_ONE : Addr} {a_ZTT : Addr} {e_2 : Addr} {e_3 : Addr} (F : Facts Z h a_ONE a_ZTT e_2 e_3) : Fld Z h e_2 "java/math/BigDecimal" "intCompact" "J" (.long 2) := F.2.2.2.2.2.2.2.2.1
theorem fx_el_2 {Z : State} {h : Heap} {a_ONE : Addr} {a_ZTT : Addr} {e_2 : Addr} {e_3 : Addr} (F : Facts Z h a_ONE a_ZTT e_2 e_3) : own_El Z h a_ZTT (.object "java/math/BigDecimal") (2 : Int32) (.ref e_2) := F.2.2.2.2.2.2.2.2.2.1
theorem fx_E_e_3 {Z : State} {h : Heap} {a_ONE : Addr} {a_ZTT : Addr} {e_2 : Addr} {e_3 : Addr} (F : Facts Z h a_ONE a_ZTT e_2 e_3) : Exa Z h e_3 "java/math/BigDecimal" := F.2.2.2.2.2.2.2.2.2.2.1
theorem fx_F_e_3_scale {Z : State} {h : Heap} {a_ONE : Addr} {a_ZTT : Addr} {e_2 : Addr} {e_3 : Addr} (F : Facts Z h a_ONE a_ZTT e_2 e_3) : Fld Z h e_3 "java/math/BigDecimal" "scale" "I" (.int 0) := F.2.2.2.2.2.2.2.2.2.2.2.1
theorem fx_F_e_3_intCompact {Z : State} {h : Heap} {a_ONE : Addr} {a_ZTT : Addr} {e_2 : Addr} {e_3 : Addr} (F : Facts Z h a_ONE a_ZTT e_2 e_3) : Fld Z h e_3 "java/math/BigDecimal" "intCompact" "J" (.long 3) := F.2.2.2.2.2.2.2.2.2.2.2.2.1
theorem fx_el_3 {Z : State} {h : Heap} {a_ONE : Addr} {a_ZTT : Addr} {e_2 : Addr} {e_3 : Addr} (F : Facts Z h a_ONE a_ZTT e_2 e_3) : own_El Z h a_ZTT (.object "java/math/BigDecimal") (3 : Int32) (.ref e_3) := F.2.2.2.2.2.2.2.2.2.2.2.2.2
theorem w_0 {Z : State} {a0 : Array Value} (hw : ∀ d ∈ tables_1, d.before a0 Z = true) : (Jvm.Cond.classLink "com/example/deferra/deferra/crediting/DailyAmountsIsEmptyPinLaw" (7 : Nat) "com/example/deferra/deferra/crediting/DailyAmounts").before a0 Z = true := hw _ (List.mem_of_getElem? (i := 0) rfl)
theorem w_1 {Z : State} {a0 : Array Value} (hw : ∀ d ∈ tables_1, d.before a0 Z = true) : (Jvm.Cond.instantiable "com/example/deferra/deferra/crediting/DailyAmounts" (3 : Nat)).before a0 Z = true := hw _ (List.mem_of_getElem? (i := 1) rfl)
theorem w_2 {Z : State} {a0 : Array Value} (hw : ∀ d ∈ tables_1, d.before a0 Z = true) : (Jvm.Cond.initialized "com/example/deferra/deferra/crediting/DailyAmounts").before a0 Z = true := hw _ (List.mem_of_getElem? (i := 2) rfl)
theorem w_3 {Z : State} {a0 : Array Value} (hw : ∀ d ∈ tables_1, d.before a0 Z = true) : (Jvm.Cond.methodLink "com/example/deferra/deferra/crediting/DailyAmountsIsEmptyPinLaw" (9 : Nat) ({ cls := "com/example/deferra/deferra/crediting/DailyAmounts", name := "<init>", desc := "()V" } : Jvm.MethodName)).before a0 Z = true := hw _ (List.mem_of_getElem? (i := 3) rfl)
theorem w_4 {Z : State} {a0 : Array Value} (hw : ∀ d ∈ tables_1, d.before a0 Z = true) : (Jvm.Cond.instanceMethod ({ cls := "com/example/deferra/deferra/crediting/DailyAmounts", name := "<init>", desc := "()V" } : Jvm.MethodName)).before a0 Z = true := hw _ (List.mem_of_getElem? (i := 4) rfl)
theorem w_5 {Z : State} {a0 : Array Value} (hw : ∀ d ∈ tables_1, d.before a0 Z = true) : (Jvm.Cond.code ({ cls := "com/example/deferra/deferra/crediting/DailyAmounts", name := "<init>", desc := "()V" } : Jvm.MethodName) prog_24_method_1_code (1 : Nat) (Option.none : Option Jvm.ClassFile.FieldType)).before a0 Z = true := hw _ (List.mem_of_getElem? (i := 5) rfl)
theorem w_6 {Z : State} {a0 : Array Value} (hw : ∀ d ∈ tables_1, d.before a0 Z = true) : (Jvm.Cond.methodLink "com/example/deferra/deferra/crediting/DailyAmounts" (1 : Nat) ({ cls := "java/lang/Object", name := "<init>", desc := "()V" } : Jvm.MethodName)).before a0 Z = true := hw _ (List.mem_of_getElem? (i := 6) rfl)
theorem w_7 {Z : State} {a0 : Array Value} (hw : ∀ d ∈ tables_1, d.before a0 Z = true) : (Jvm.Cond.instanceMethod ({ cls := "java/lang/Object", name := "<init>", desc := "()V" } : Jvm.MethodName)).before a0 Z = true := hw _ (List.mem_of_getElem? (i := 7) rfl)
theorem w_8 {Z : State} {a0 : Array Value} (hw : ∀ d ∈ tables_1, d.before a0 Z = true) : (Jvm.Cond.code ({ cls := "java/lang/Object", name := "<init>", desc := "()V" } : Jvm.MethodName) object_method_1_code (1 : Nat) (Option.none : Option Jvm.ClassFile.FieldType)).before a0 Z = true := hw _ (List.mem_of_getElem? (i := 8) rfl)
theorem w_9 {Z : State} {a0 : Array Value} (hw : ∀ d ∈ tables_1, d.before a0 Z = true) : (Jvm.Cond.arrayClass Jvm.ClassFile.FieldType.int).before a0 Z = true := hw _ (List.mem_of_getElem? (i := 9) rfl)
theorem w_10 {Z : State} {a0 : Array Value} (hw : ∀ d ∈ tables_1, d.before a0 Z = true) : (Jvm.Cond.fieldLink "com/example/deferra/deferra/crediting/DailyAmounts" (7 : Nat) "com/example/deferra/deferra/crediting/DailyAmounts" "days" "[I").before a0 Z = true := hw _ (List.mem_of_getElem? (i := 10) rfl)
theorem w_11 {Z : State} {a0 : Array Value} (hw : ∀ d ∈ tables_1, d.before a0 Z = true) : (Jvm.Cond.lays "com/example/deferra/deferra/crediting/DailyAmounts" "com/example/deferra/deferra/crediting/DailyAmounts" "days" "[I").before a0 Z = true := hw _ (List.mem_of_getElem? (i := 11) rfl)
theorem w_12 {Z : State} {a0 : Array Value} (hw : ∀ d ∈ tables_1, d.before a0 Z = true) : (Jvm.Cond.classLink "com/example/deferra/deferra/crediting/DailyAmounts" (13 : Nat) "java/math/BigDecimal").before a0 Z = true := hw _ (List.mem_of_getElem? (i := 12) rfl)
theorem w_13 {Z : State} {a0 : Array Value} (hw : ∀ d ∈ tables_1, d.before a0 Z = true) : (Jvm.Cond.arrayOver (Jvm.ClassFile.FieldType.object "java/math/BigDecimal")).before a0 Z = true := hw _ (List.mem_of_getElem? (i := 13) rfl)
theorem w_14 {Z : State} {a0 : Array Value} (hw : ∀ d ∈ tables_1, d.before a0 Z = true) : (Jvm.Cond.fieldLink "com/example/deferra/deferra/crediting/DailyAmounts" (15 : Nat) "com/example/deferra/deferra/crediting/DailyAmounts" "amounts" "[Ljava/math/BigDecimal;").before a0 Z = true := hw _ (List.mem_of_getElem? (i := 14) rfl)
theorem w_15 {Z : State} {a0 : Array Value} (hw : ∀ d ∈ tables_1, d.before a0 Z = true) : (Jvm.Cond.lays "com/example/deferra/deferra/crediting/DailyAmounts" "com/example/deferra/deferra/crediting/DailyAmounts" "amounts" "[Ljava/math/BigDecimal;").before a0 Z = true := hw _ (List.mem_of_getElem? (i := 15) rfl)
theorem w_16 {Z : State} {a0 : Array Value} (hw : ∀ d ∈ tables_1, d.before a0 Z = true) : (Jvm.Cond.methodLink "com/example/deferra/deferra/crediting/DailyAmountsIsEmptyPinLaw" (10 : Nat) ({ cls := "com/example/deferra/deferra/crediting/DailyAmounts", name := "isEmpty", desc := "()Z" } : Jvm.MethodName)).before a0 Z = true := hw _ (List.mem_of_getElem? (i := 16) rfl)
theorem w_17 {Z : State} {a0 : Array Value} (hw : ∀ d ∈ tables_1, d.before a0 Z = true) : (Jvm.Cond.declares ({ cls := "com/example/deferra/deferra/crediting/DailyAmounts", name := "isEmpty", desc := "()Z" } : Jvm.MethodName)).before a0 Z = true := hw _ (List.mem_of_getElem? (i := 17) rfl)
theorem w_18 {Z : State} {a0 : Array Value} (hw : ∀ d ∈ tables_1, d.before a0 Z = true) : (Jvm.Cond.instanceMethod ({ cls := "com/example/deferra/deferra/crediting/DailyAmounts", name := "isEmpty", desc := "()Z" } : Jvm.MethodName)).before a0 Z = true := hw _ (List.mem_of_getElem? (i := 18) rfl)
theorem w_19 {Z : State} {a0 : Array Value} (hw : ∀ d ∈ tables_1, d.before a0 Z = true) : (Jvm.Cond.selects "com/example/deferra/deferra/crediting/DailyAmounts" ({ cls := "com/example/deferra/deferra/crediting/DailyAmounts", name := "isEmpty", desc := "()Z" } : Jvm.MethodName) ({ cls := "com/example/deferra/deferra/crediting/DailyAmounts", name := "isEmpty", desc := "()Z" } : Jvm.MethodName)).before a0 Z = true := hw _ (List.mem_of_getElem? (i := 19) rfl)
theorem w_20 {Z : State} {a0 : Array Value} (hw : ∀ d ∈ tables_1, d.before a0 Z = true) : (Jvm.Cond.code ({ cls := "com/example/deferra/deferra/crediting/DailyAmounts", name := "isEmpty", desc := "()Z" } : Jvm.MethodName) prog_24_method_3_code (1 : Nat) (Option.some Jvm.ClassFile.FieldType.boolean)).before a0 Z = true := hw _ (List.mem_of_getElem? (i := 20) rfl)
theorem w_21 {Z : State} {a0 : Array Value} (hw : ∀ d ∈ tables_1, d.before a0 Z = true) : (Jvm.Cond.fieldLink "com/example/deferra/deferra/crediting/DailyAmounts" (19 : Nat) "com/example/deferra/deferra/crediting/DailyAmounts" "size" "I").before a0 Z = true := hw _ (List.mem_of_getElem? (i := 21) rfl)
theorem w_22 {Z : State} {a0 : Array Value} (hw : ∀ d ∈ tables_1, d.before a0 Z = true) : (Jvm.Cond.lays "com/example/deferra/deferra/crediting/DailyAmounts" "com/example/deferra/deferra/crediting/DailyAmounts" "size" "I").before a0 Z = true := hw _ (List.mem_of_getElem? (i := 22) rfl)
theorem w_23 {Z : State} {a0 : Array Value} (hw : ∀ d ∈ tables_1, d.before a0 Z = true) : (Jvm.Cond.methodLink "com/example/deferra/deferra/crediting/DailyAmountsIsEmptyPinLaw" (14 : Nat) ({ cls := "com/example/deferra/deferra/crediting/DailyAmounts", name := "size", desc := "()I" } : Jvm.MethodName)).before a0 Z = true := hw _ (List.mem_of_getElem? (i := 23) rfl)
theorem w_24 {Z : State} {a0 : Array Value} (hw : ∀ d ∈ tables_1, d.before a0 Z = true) : (Jvm.Cond.declares ({ cls := "com/example/deferra/deferra/crediting/DailyAmounts", name := "size", desc := "()I" } : Jvm.MethodName)).before a0 Z = true := hw _ (List.mem_of_getElem? (i := 24) rfl)
theorem w_25 {Z : State} {a0 : Array Value} (hw : ∀ d ∈ tables_1, d.before a0 Z = true) : (Jvm.Cond.instanceMethod ({ cls := "com/example/deferra/deferra/crediting/DailyAmounts", name := "size", desc := "()I" } : Jvm.MethodName)).before a0 Z = true := hw _ (List.mem_of_getElem? (i := 25) rfl)
theorem w_26 {Z : State} {a0 : Array Value} (hw : ∀ d ∈ tables_1, d.before a0 Z = true) : (Jvm.Cond.selects "com/example/deferra/deferra/crediting/DailyAmounts" ({ cls := "com/example/deferra/deferra/crediting/DailyAmounts", name := "size", desc := "()I" } : Jvm.MethodName) ({ cls := "com/example/deferra/deferra/crediting/DailyAmounts", name := "size", desc := "()I" } : Jvm.MethodName)).before a0 Z = true := hw _ (List.mem_of_getElem? (i := 26) rfl)
theorem w_27 {Z : State} {a0 : Array Value} (hw : ∀ d ∈ tables_1, d.before a0 Z = true) : (Jvm.Cond.code ({ cls := "com/example/deferra/deferra/crediting/DailyAmounts", name := "size", desc := "()I" } : Jvm.MethodName) prog_24_method_4_code (1 : Nat) (Option.some Jvm.ClassFile.FieldType.int)).before a0 Z = true := hw _ (List.mem_of_getElem? (i := 27) rfl)
theorem w_28 {Z : State} {a0 : Array Value} (hw : ∀ d ∈ tables_1, d.before a0 Z = true) : (Jvm.Cond.fieldLink "com/example/deferra/deferra/crediting/DailyAmountsIsEmptyPinLaw" (18 : Nat) "java/math/BigDecimal" "ONE" "Ljava/math/BigDecimal;").before a0 Z = true := hw _ (List.mem_of_getElem? (i := 28) rfl)
theorem w_29 {Z : State} {a0 : Array Value} (hw : ∀ d ∈ tables_1, d.before a0 Z = true) : (Jvm.Cond.initialized "java/math/BigDecimal").before a0 Z = true := hw _ (List.mem_of_getElem? (i := 29) rfl)
theorem w_30 {Z : State} {a0 : Array Value} (hw : ∀ d ∈ tables_1, d.before a0 Z = true) : (Jvm.Cond.methodLink "com/example/deferra/deferra/crediting/DailyAmountsIsEmptyPinLaw" (24 : Nat) ({ cls := "com/example/deferra/deferra/crediting/DailyAmounts", name := "add", desc := "(ILjava/math/BigDecimal;)V" } : Jvm.MethodName)).before a0 Z = true := hw _ (List.mem_of_getElem? (i := 30) rfl)
theorem w_31 {Z : State} {a0 : Array Value} (hw : ∀ d ∈ tables_1, d.before a0 Z = true) : (Jvm.Cond.declares ({ cls := "com/example/deferra/deferra/crediting/DailyAmounts", name := "add", desc := "(ILjava/math/BigDecimal;)V" } : Jvm.MethodName)).before a0 Z = true := hw _ (List.mem_of_getElem? (i := 31) rfl)
theorem w_32 {Z : State} {a0 : Array Value} (hw : ∀ d ∈ tables_1, d.before a0 Z = true) : (Jvm.Cond.instanceMethod ({ cls := "com/example/deferra/deferra/crediting/DailyAmounts", name := "add", desc := "(ILjava/math/BigDecimal;)V" } : Jvm.MethodName)).before a0 Z = true := hw _ (List.mem_of_getElem? (i := 32) rfl)
theorem w_33 {Z : State} {a0 : Array Value} (hw : ∀ d ∈ tables_1, d.before a0 Z = true) : (Jvm.Cond.selects "com/example/deferra/deferra/crediting/DailyAmounts" ({ cls := "com/example/deferra/deferra/crediting/DailyAmounts", name := "add", desc := "(ILjava/math/BigDecimal;)V" } : Jvm.MethodName) ({ cls := "com/example/deferra/deferra/crediting/DailyAmounts", name := "add", desc := "(ILjava/math/BigDecimal;)V" } : Jvm.MethodName)).before a0 Z = true := hw _ (List.mem_of_getElem? (i := 33) rfl)
theorem w_34 {Z : State} {a0 : Array Value} (hw : ∀ d ∈ tables_1, d.before a0 Z = true) : (Jvm.Cond.code ({ cls := "com/example/deferra/deferra/crediting/DailyAmounts", name := "add", desc := "(ILjava/math/BigDecimal;)V" } : Jvm.MethodName) prog_24_method_2_code (5 : Nat) (Option.none : Option Jvm.ClassFile.FieldType)).before a0 Z = true := hw _ (List.mem_of_getElem? (i := 34) rfl)
theorem w_35 {Z : State} {a0 : Array Value} (hw : ∀ d ∈ tables_1, d.before a0 Z = true) : (Jvm.Cond.methodLink "com/example/deferra/deferra/crediting/DailyAmounts" (23 : Nat) ({ cls := "java/util/Arrays", name := "binarySearch", desc := "([IIII)I" } : Jvm.MethodName)).before a0 Z = true := hw _ (List.mem_of_getElem? (i := 35) rfl)
theorem w_36 {Z : State} {a0 : Array Value} (hw : ∀ d ∈ tables_1, d.before a0 Z = true) : (Jvm.Cond.static ({ cls := "java/util/Arrays", name := "binarySearch", desc := "([IIII)I" } : Jvm.MethodName)).before a0 Z = true := hw _ (List.mem_of_getElem? (i := 36) rfl)
theorem w_37 {Z : State} {a0 : Array Value} (hw : ∀ d ∈ tables_1, d.before a0 Z = true) : (Jvm.Cond.initialized "java/util/Arrays").before a0 Z = true := hw _ (List.mem_of_getElem? (i := 37) rfl)
theorem w_38 {Z : State} {a0 : Array Value} (hw : ∀ d ∈ tables_1, d.before a0 Z = true) : (Jvm.Cond.code ({ cls := "java/util/Arrays", name := "binarySearch", desc := "([IIII)I" } : Jvm.MethodName) jdk_65_method_58_code (4 : Nat) (Option.some Jvm.ClassFile.FieldType.int)).before a0 Z = true := hw _ (List.mem_of_getElem? (i := 38) rfl)
theorem w_39 {Z : State} {a0 : Array Value} (hw : ∀ d ∈ tables_1, d.before a0 Z = true) : (Jvm.Cond.methodLink "java/util/Arrays" (13 : Nat) ({ cls := "java/util/Arrays", name := "rangeCheck", desc := "(III)V" } : Jvm.MethodName)).before a0 Z = true := hw _ (List.mem_of_getElem? (i := 39) rfl)
theorem w_40 {Z : State} {a0 : Array Value} (hw : ∀ d ∈ tables_1, d.before a0 Z = true) : (Jvm.Cond.static ({ cls := "java/util/Arrays", name := "rangeCheck", desc := "(III)V" } : Jvm.MethodName)).before a0 Z = true := hw _ (List.mem_of_getElem? (i := 40) rfl)
theorem w_41 {Z : State} {a0 : Array Value} (hw : ∀ d ∈ tables_1, d.before a0 Z = true) : (Jvm.Cond.code ({ cls := "java/util/Arrays", name := "rangeCheck", desc := "(III)V" } : Jvm.MethodName) jdk_65_method_30_code (3 : Nat) (Option.none : Option Jvm.ClassFile.FieldType)).before a0 Z = true := hw _ (List.mem_of_getElem? (i := 41) rfl)
theorem w_42 {Z : State} {a0 : Array Value} (hw : ∀ d ∈ tables_1, d.before a0 Z = true) : (Jvm.Cond.methodLink "java/util/Arrays" (209 : Nat) ({ cls := "java/util/Arrays", name := "binarySearch0", desc := "([IIII)I" } : Jvm.MethodName)).before a0 Z = true := hw _ (List.mem_of_getElem? (i := 42) rfl)
theorem w_43 {Z : State} {a0 : Array Value} (hw : ∀ d ∈ tables_1, d.before a0 Z = true) : (Jvm.Cond.static ({ cls := "java/util/Arrays", name := "binarySearch0", desc := "([IIII)I" } : Jvm.MethodName)).before a0 Z = true := hw _ (List.mem_of_getElem? (i := 43) rfl)
theorem w_44 {Z : State} {a0 : Array Value} (hw : ∀ d ∈ tables_1, d.before a0 Z = true) : (Jvm.Cond.code ({ cls := "java/util/Arrays", name := "binarySearch0", desc := "([IIII)I" } : Jvm.MethodName) jdk_65_method_59_code (8 : Nat) (Option.some Jvm.ClassFile.FieldType.int)).before a0 Z = true := hw _ (List.mem_of_getElem? (i := 44) rfl)
theorem w_45 {Z : State} {a0 : Array Value} (hw : ∀ d ∈ tables_1, d.before a0 Z = true) : (Jvm.Cond.methodLink "com/example/deferra/deferra/crediting/DailyAmounts" (41 : Nat) ({ cls := "java/lang/System", name := "arraycopy", desc := "(Ljava/lang/Object;ILjava/lang/Object;II)V" } : Jvm.MethodName)).before a0 Z = true := hw _ (List.mem_of_getElem? (i := 45) rfl)
theorem w_46 {Z : State} {a0 : Array Value} (hw : ∀ d ∈ tables_1, d.before a0 Z = true) : (Jvm.Cond.static ({ cls := "java/lang/System", name := "arraycopy", desc := "(Ljava/lang/Object;ILjava/lang/Object;II)V" } : Jvm.MethodName)).before a0 Z = true := hw _ (List.mem_of_getElem? (i := 46) rfl)
theorem w_47 {Z : State} {a0 : Array Value} (hw : ∀ d ∈ tables_1, d.before a0 Z = true) : (Jvm.Cond.initialized "java/lang/System").before a0 Z = true := hw _ (List.mem_of_getElem? (i := 47) rfl)
theorem w_48 {Z : State} {a0 : Array Value} (hw : ∀ d ∈ tables_1, d.before a0 Z = true) : (Jvm.Cond.native ({ cls := "java/lang/System", name := "arraycopy", desc := "(Ljava/lang/Object;ILjava/lang/Object;II)V" } : Jvm.MethodName)).before a0 Z = true := hw _ (List.mem_of_getElem? (i := 48) rfl)
theorem w_50 {Z : State} {a0 : Array Value} (hw : ∀ d ∈ tables_1, d.before a0 Z = true) : (Jvm.Cond.methodLink "com/example/deferra/deferra/crediting/DailyAmounts" (29 : Nat) ({ cls := "java/math/BigDecimal", name := "add", desc := "(Ljava/math/BigDecimal;)Ljava/math/BigDecimal;" } : Jvm.MethodName)).before a0 Z = true := hw _ (List.mem_of_getElem? (i := 50) rfl)
theorem w_51 {Z : State} {a0 : Array Value} (hw : ∀ d ∈ tables_1, d.before a0 Z = true) : (Jvm.Cond.declares ({ cls := "java/math/BigDecimal", name := "add", desc := "(Ljava/math/BigDecimal;)Ljava/math/BigDecimal;" } : Jvm.MethodName)).before a0 Z = true := hw _ (List.mem_of_getElem? (i := 51) rfl)
theorem w_52 {Z : State} {a0 : Array Value} (hw : ∀ d ∈ tables_1, d.before a0 Z = true) : (Jvm.Cond.instanceMethod ({ cls := "java/math/BigDecimal", name := "add", desc := "(Ljava/math/BigDecimal;)Ljava/math/BigDecimal;" } : Jvm.MethodName)).before a0 Z = true := hw _ (List.mem_of_getElem? (i := 52) rfl)
theorem w_53 {Z : State} {a0 : Array Value} (hw : ∀ d ∈ tables_1, d.before a0 Z = true) : (Jvm.Cond.selects "java/math/BigDecimal" ({ cls := "java/math/BigDecimal", name := "add", desc := "(Ljava/math/BigDecimal;)Ljava/math/BigDecimal;" } : Jvm.MethodName) ({ cls := "java/math/BigDecimal", name := "add", desc := "(Ljava/math/BigDecimal;)Ljava/math/BigDecimal;" } : Jvm.MethodName)).before a0 Z = true := hw _ (List.mem_of_getElem? (i := 53) rfl)
theorem w_54 {Z : State} {a0 : Array Value} (hw : ∀ d ∈ tables_1, d.before a0 Z = true) : (Jvm.Cond.code ({ cls := "java/math/BigDecimal", name := "add", desc := "(Ljava/math/BigDecimal;)Ljava/math/BigDecimal;" } : Jvm.MethodName) jdk_17_method_26_code (2 : Nat) (Option.some (Jvm.ClassFile.FieldType.object "java/math/BigDecimal"))).before a0 Z = true := hw _ (List.mem_of_getElem? (i := 54) rfl)
theorem w_55 {Z : State} {a0 : Array Value} (hw : ∀ d ∈ tables_1, d.before a0 Z = true) : (Jvm.Cond.fieldLink "java/math/BigDecimal" (24 : Nat) "java/math/BigDecimal" "intCompact" "J").before a0 Z = true := hw _ (List.mem_of_getElem? (i := 55) rfl)
theorem w_57 {Z : State} {a0 : Array Value} (hw : ∀ d ∈ tables_1, d.before a0 Z = true) : (Jvm.Cond.constantLong "java/math/BigDecimal" (125 : Nat) (-9223372036854775808 : Int64)).before a0 Z = true := hw _ (List.mem_of_getElem? (i := 57) rfl)
theorem w_58 {Z : State} {a0 : Array Value} (hw : ∀ d ∈ tables_1, d.before a0 Z = true) : (Jvm.Cond.fieldLink "java/math/BigDecimal" (17 : Nat) "java/math/BigDecimal" "scale" "I").before a0 Z = true := hw _ (List.mem_of_getElem? (i := 58) rfl)
theorem w_60 {Z : State} {a0 : Array Value} (hw : ∀ d ∈ tables_1, d.before a0 Z = true) : (Jvm.Cond.methodLink "java/math/BigDecimal" (257 : Nat) ({ cls := "java/math/BigDecimal", name := "add", desc := "(JIJI)Ljava/math/BigDecimal;" } : Jvm.MethodName)).before a0 Z = true := hw _ (List.mem_of_getElem? (i := 60) rfl)
theorem w_61 {Z : State} {a0 : Array Value} (hw : ∀ d ∈ tables_1, d.before a0 Z = true) : (Jvm.Cond.static ({ cls := "java/math/BigDecimal", name := "add", desc := "(JIJI)Ljava/math/BigDecimal;" } : Jvm.MethodName)).before a0 Z = true := hw _ (List.mem_of_getElem? (i := 61) rfl)
theorem w_62 {Z : State} {a0 : Array Value} (hw : ∀ d ∈ tables_1, d.before a0 Z = true) : (Jvm.Cond.code ({ cls := "java/math/BigDecimal", name := "add", desc := "(JIJI)Ljava/math/BigDecimal;" } : Jvm.MethodName) jdk_17_method_134_code (12 : Nat) (Option.some (Jvm.ClassFile.FieldType.object "java/math/BigDecimal"))).before a0 Z = true := hw _ (List.mem_of_getElem? (i := 62) rfl)
theorem w_63 {Z : State} {a0 : Array Value} (hw : ∀ d ∈ tables_1, d.before a0 Z = true) : (Jvm.Cond.methodLink "java/math/BigDecimal" (1000 : Nat) ({ cls := "java/math/BigDecimal", name := "add", desc := "(JJI)Ljava/math/BigDecimal;" } : Jvm.MethodName)).before a0 Z = true := hw _ (List.mem_of_getElem? (i := 63) rfl)
theorem w_64 {Z : State} {a0 : Array Value} (hw : ∀ d ∈ tables_1, d.before a0 Z = true) : (Jvm.Cond.static ({ cls := "java/math/BigDecimal", name := "add", desc := "(JJI)Ljava/math/BigDecimal;" } : Jvm.MethodName)).before a0 Z = true := hw _ (List.mem_of_getElem? (i := 64) rfl)
theorem w_65 {Z : State} {a0 : Array Value} (hw : ∀ d ∈ tables_1, d.before a0 Z = true) : (Jvm.Cond.code ({ cls := "java/math/BigDecimal", name := "add", desc := "(JJI)Ljava/math/BigDecimal;" } : Jvm.MethodName) jdk_17_method_133_code (7 : Nat) (Option.some (Jvm.ClassFile.FieldType.object "java/math/BigDecimal"))).before a0 Z = true := hw _ (List.mem_of_getElem? (i := 65) rfl)
theorem w_66 {Z : State} {a0 : Array Value} (hw : ∀ d ∈ tables_1, d.before a0 Z = true) : (Jvm.Cond.methodLink "java/math/BigDecimal" (996 : Nat) ({ cls := "java/math/BigDecimal", name := "add", desc := "(JJ)J" } : Jvm.MethodName)).before a0 Z = true := hw _ (List.mem_of_getElem? (i := 66) rfl)
theorem w_67 {Z : State} {a0 : Array Value} (hw : ∀ d ∈ tables_1, d.before a0 Z = true) : (Jvm.Cond.static ({ cls := "java/math/BigDecimal", name := "add", desc := "(JJ)J" } : Jvm.MethodName)).before a0 Z = true := hw _ (List.mem_of_getElem? (i := 67) rfl)
theorem w_68 {Z : State} {a0 : Array Value} (hw : ∀ d ∈ tables_1, d.before a0 Z = true) : (Jvm.Cond.code ({ cls := "java/math/BigDecimal", name := "add", desc := "(JJ)J" } : Jvm.MethodName) jdk_17_method_132_code (6 : Nat) (Option.some Jvm.ClassFile.FieldType.long)).before a0 Z = true := hw _ (List.mem_of_getElem? (i := 68) rfl)
theorem w_69 {Z : State} {a0 : Array Value} (hw : ∀ d ∈ tables_1, d.before a0 Z = true) : (Jvm.Cond.methodLink "java/math/BigDecimal" (328 : Nat) ({ cls := "java/math/BigDecimal", name := "valueOf", desc := "(JI)Ljava/math/BigDecimal;" } : Jvm.MethodName)).before a0 Z = true := hw _ (List.mem_of_getElem? (i := 69) rfl)
theorem w_70 {Z : State} {a0 : Array Value} (hw : ∀ d ∈ tables_1, d.before a0 Z = true) : (Jvm.Cond.static ({ cls := "java/math/BigDecimal", name := "valueOf", desc := "(JI)Ljava/math/BigDecimal;" } : Jvm.MethodName)).before a0 Z = true := hw _ (List.mem_of_getElem? (i := 70) rfl)
theorem w_71 {Z : State} {a0 : Array Value} (hw : ∀ d ∈ tables_1, d.before a0 Z = true) : (Jvm.Cond.code ({ cls := "java/math/BigDecimal", name := "valueOf", desc := "(JI)Ljava/math/BigDecimal;" } : Jvm.MethodName) jdk_17_method_20_code (3 : Nat) (Option.some (Jvm.ClassFile.FieldType.object "java/math/BigDecimal"))).before a0 Z = true := hw _ (List.mem_of_getElem? (i := 71) rfl)
theorem w_72 {Z : State} {a0 : Array Value} (hw : ∀ d ∈ tables_1, d.before a0 Z = true) : (Jvm.Cond.methodLink "java/math/BigDecimal" (236 : Nat) ({ cls := "java/math/BigDecimal", name := "valueOf", desc := "(J)Ljava/math/BigDecimal;" } : Jvm.MethodName)).before a0 Z = true := hw _ (List.mem_of_getElem? (i := 72) rfl)
theorem w_73 {Z : State} {a0 : Array Value} (hw : ∀ d ∈ tables_1, d.before a0 Z = true) : (Jvm.Cond.static ({ cls := "java/math/BigDecimal", name := "valueOf", desc := "(J)Ljava/math/BigDecimal;" } : Jvm.MethodName)).before a0 Z = true := hw _ (List.mem_of_getElem? (i := 73) rfl)
theorem w_74 {Z : State} {a0 : Array Value} (hw : ∀ d ∈ tables_1, d.before a0 Z = true) : (Jvm.Cond.code ({ cls := "java/math/BigDecimal", name := "valueOf", desc := "(J)Ljava/math/BigDecimal;" } : Jvm.MethodName) jdk_17_method_21_code (2 : Nat) (Option.some (Jvm.ClassFile.FieldType.object "java/math/BigDecimal"))).before a0 Z = true := hw _ (List.mem_of_getElem? (i := 74) rfl)
theorem w_75 {Z : State} {a0 : Array Value} (hw : ∀ d ∈ tables_1, d.before a0 Z = true) : (Jvm.Cond.fieldLink "java/math/BigDecimal" (246 : Nat) "java/math/BigDecimal" "ZERO_THROUGH_TEN" "[Ljava/math/BigDecimal;").before a0 Z = true := hw _ (List.mem_of_getElem? (i := 75) rfl)
theorem pn_0 : plainName "com/example/deferra/deferra/crediting/DailyAmountsIsEmptyPinLaw" = true := by first | (simp [plainName, overriddenIn]; done) | decide +kernel
theorem ef_0 (m : MethodId) (x0 : Int32) (x1 : Int32) (x2 : Int32) (x3 : Int32) : entryFrame m #[(.int x0), (.int x1), (.int x2), (.int x3)] maxLocals = mkF m 0 #[.val (.int x0), .val (.int x1), .val (.int x2), .val (.int x3), .unset, .unset, .unset, .unset] [] := by first | (simp [entryFrame, mkF, argsToLocals, Value.category, maxLocals]; done) | rfl
theorem d1_0 : decode prog_24_method_1_code 0 = .ok (.aload_n 0, 1) := by decide +kernel
theorem d1_1 : decode prog_24_method_1_code 1 = .ok (.invokespecial 1, 3) := by decide +kernel
theorem d1_4 : decode prog_24_method_1_code 4 = .ok (.aload_n 0, 1) := by decide +kernel
theorem d1_5 : decode prog_24_method_1_code 5 = .ok (.iconst 4, 1) := by decide +kernel
theorem d1_6 : decode prog_24_method_1_code 6 = .ok (.newarray .int, 2) := by decide +kernel
theorem d1_8 : decode prog_24_method_1_code 8 = .ok (.putfield 7, 3) := by decide +kernel
theorem d1_11 : decode prog_24_method_1_code 11 = .ok (.aload_n 0, 1) := by decide +kernel
theorem d1_12 : decode prog_24_method_1_code 12 = .ok (.iconst 4, 1) := by decide +kernel
theorem d1_13 : decode prog_24_method_1_code 13 = .ok (.anewarray 13, 3) := by decide +kernel
theorem d1_16 : decode prog_24_method_1_code 16 = .ok (.putfield 15, 3) := by decide +kernel
theorem d1_19 : decode prog_24_method_1_code 19 = .ok (.return_, 1) := by decide +kernel
theorem pn_1 : plainName "com/example/deferra/deferra/crediting/DailyAmounts" = true := by first | (simp [plainName, overriddenIn]; done) | decide +kernel
theorem ef_1 (m : MethodId) (x0 : Addr) : entryFrame m #[(.ref x0)] 1 = mkF m 0 #[.val (.ref x0)] [] := by first | (simp [entryFrame, mkF, argsToLocals, Value.category]; done) | rfl
theorem d3_0 : decode prog_24_method_3_code 0 = .ok (.aload_n 0, 1) := by decide +kernel
theorem d3_1 : decode prog_24_method_3_code 1 = .ok (.getfield 19, 3) := by decide +kernel
theorem d3_4 : decode prog_24_method_3_code 4 = .ok (.ifCond .ne 7, 3) := by decide +kernel
theorem d3_7 : decode prog_24_method_3_code 7 = .ok (.iconst 1, 1) := by decide +kernel
theorem d3_8 : decode prog_24_method_3_code 8 = .ok (.goto 4, 3) := by decide +kernel
theorem d3_11 : decode prog_24_method_3_code 11 = .ok (.iconst 0, 1) := by decide +kernel
theorem d3_12 : decode prog_24_method_3_code 12 = .ok (.ireturn, 1) := by decide +kernel
theorem pn_3 : plainName "com/example/deferra/deferra/crediting/DailyAmounts" = true := by first | (simp [plainName, overriddenIn]; done) | decide +kernel
theorem ef_3 (m : MethodId) (x0 : Addr) : entryFrame m #[(.ref x0)] 1 = mkF m 0 #[.val (.ref x0)] [] := by first | (simp [entryFrame, mkF, argsToLocals, Value.category]; done) | rfl
theorem d4_0 : decode prog_24_method_4_code 0 = .ok (.aload_n 0, 1) := by decide +kernel
theorem d4_1 : decode prog_24_method_4_code 1 = .ok (.getfield 19, 3) := by decide +kernel
theorem d4_4 : decode prog_24_method_4_code 4 = .ok (.ireturn, 1) := by decide +kernel
theorem pn_4 : plainName "com/example/deferra/deferra/crediting/DailyAmounts" = true := by first | (simp [plainName, overriddenIn]; done) | decide +kernel
theorem ef_4 (m : MethodId) (x0 : Addr) : entryFrame m #[(.ref x0)] 1 = mkF m 0 #[.val (.ref x0)] [] := by first | (simp [entryFrame, mkF, argsToLocals, Value.category]; done) | rfl
theorem d5_0 : decode prog_24_method_2_code 0 = .ok (.aload_n 0, 1) := by decide +kernel
theorem d5_1 : decode prog_24_method_2_code 1 = .ok (.getfield 7, 3) := by decide +kernel
theorem d5_4 : decode prog_24_method_2_code 4 = .ok (.iconst 0, 1) := by decide +kernel
theorem d5_5 : decode prog_24_method_2_code 5 = .ok (.aload_n 0, 1) := by decide +kernel
theorem d5_6 : decode prog_24_method_2_code 6 = .ok (.getfield 19, 3) := by decide +kernel
theorem d5_9 : decode prog_24_method_2_code 9 = .ok (.iload_n 1, 1) := by decide +kernel
theorem d5_10 : decode prog_24_method_2_code 10 = .ok (.invokestatic 23, 3) := by decide +kernel
theorem d5_13 : decode prog_24_method_2_code 13 = .ok (.istore_n 3, 1) := by decide +kernel
theorem d5_14 : decode prog_24_method_2_code 14 = .ok (.iload_n 3, 1) := by decide +kernel
theorem d5_15 : decode prog_24_method_2_code 15 = .ok (.ifCond .lt 20, 3) := by decide +kernel
theorem d5_18 : decode prog_24_method_2_code 18 = .ok (.aload_n 0, 1) := by decide +kernel
theorem d5_19 : decode prog_24_method_2_code 19 = .ok (.getfield 15, 3) := by decide +kernel
theorem d5_22 : decode prog_24_method_2_code 22 = .ok (.iload_n 3, 1) := by decide +kernel
theorem d5_23 : decode prog_24_method_2_code 23 = .ok (.aload_n 0, 1) := by decide +kernel
theorem d5_24 : decode prog_24_method_2_code 24 = .ok (.getfield 15, 3) := by decide +kernel
theorem d5_27 : decode prog_24_method_2_code 27 = .ok (.iload_n 3, 1) := by decide +kernel
theorem d5_28 : decode prog_24_method_2_code 28 = .ok (.aaload, 1) := by decide +kernel
theorem d5_29 : decode prog_24_method_2_code 29 = .ok (.aload_n 2, 1) := by decide +kernel
theorem d5_30 : decode prog_24_method_2_code 30 = .ok (.invokevirtual 29, 3) := by decide +kernel
theorem d5_33 : decode prog_24_method_2_code 33 = .ok (.aastore, 1) := by decide +kernel
theorem d5_34 : decode prog_24_method_2_code 34 = .ok (.return_, 1) := by decide +kernel
theorem d5_35 : decode prog_24_method_2_code 35 = .ok (.iload_n 3, 1) := by decide +kernel
theorem d5_36 : decode prog_24_method_2_code 36 = .ok (.ineg, 1) := by decide +kernel
theorem d5_37 : decode prog_24_method_2_code 37 = .ok (.iconst 1, 1) := by decide +kernel
theorem d5_38 : decode prog_24_method_2_code 38 = .ok (.isub, 1) := by decide +kernel
theorem d5_39 : decode prog_24_method_2_code 39 = .ok (.istore 4, 2) := by decide +kernel
theorem d5_41 : decode prog_24_method_2_code 41 = .ok (.aload_n 0, 1) := by decide +kernel
theorem d5_42 : decode prog_24_method_2_code 42 = .ok (.getfield 19, 3) := by decide +kernel
theorem d5_45 : decode prog_24_method_2_code 45 = .ok (.aload_n 0, 1) := by decide +kernel
theorem d5_46 : decode prog_24_method_2_code 46 = .ok (.getfield 7, 3) := by decide +kernel
theorem d5_49 : decode prog_24_method_2_code 49 = .ok (.arraylength, 1) := by decide +kernel
theorem d5_50 : decode prog_24_method_2_code 50 = .ok (.if_icmp .ne 40, 3) := by decide +kernel
theorem d5_90 : decode prog_24_method_2_code 90 = .ok (.aload_n 0, 1) := by decide +kernel
theorem d5_91 : decode prog_24_method_2_code 91 = .ok (.getfield 7, 3) := by decide +kernel
theorem d5_94 : decode prog_24_method_2_code 94 = .ok (.iload 4, 2) := by decide +kernel
theorem d5_96 : decode prog_24_method_2_code 96 = .ok (.aload_n 0, 1) := by decide +kernel
theorem d5_97 : decode prog_24_method_2_code 97 = .ok (.getfield 7, 3) := by decide +kernel
theorem d5_100 : decode prog_24_method_2_code 100 = .ok (.iload 4, 2) := by decide +kernel
theorem d5_102 : decode prog_24_method_2_code 102 = .ok (.iconst 1, 1) := by decide +kernel
theorem d5_103 : decode prog_24_method_2_code 103 = .ok (.iadd, 1) := by decide +kernel
theorem d5_104 : decode prog_24_method_2_code 104 = .ok (.aload_n 0, 1) := by decide +kernel
theorem d5_105 : decode prog_24_method_2_code 105 = .ok (.getfield 19, 3) := by decide +kernel
theorem d5_108 : decode prog_24_method_2_code 108 = .ok (.iload 4, 2) := by decide +kernel
theorem d5_110 : decode prog_24_method_2_code 110 = .ok (.isub, 1) := by decide +kernel
theorem d5_111 : decode prog_24_method_2_code 111 = .ok (.invokestatic 41, 3) := by decide +kernel
theorem d5_114 : decode prog_24_method_2_code 114 = .ok (.aload_n 0, 1) := by decide +kernel
theorem d5_115 : decode prog_24_method_2_code 115 = .ok (.getfield 15, 3) := by decide +kernel
theorem d5_118 : decode prog_24_method_2_code 118 = .ok (.iload 4, 2) := by decide +kernel
theorem d5_120 : decode prog_24_method_2_code 120 = .ok (.aload_n 0, 1) := by decide +kernel
theorem d5_121 : decode prog_24_method_2_code 121 = .ok (.getfield 15, 3) := by decide +kernel
theorem d5_124 : decode prog_24_method_2_code 124 = .ok (.iload 4, 2) := by decide +kernel
theorem d5_126 : decode prog_24_method_2_code 126 = .ok (.iconst 1, 1) := by decide +kernel
theorem d5_127 : decode prog_24_method_2_code 127 = .ok (.iadd, 1) := by decide +kernel
theorem d5_128 : decode prog_24_method_2_code 128 = .ok (.aload_n 0, 1) := by decide +kernel
theorem d5_129 : decode prog_24_method_2_code 129 = .ok (.getfield 19, 3) := by decide +kernel
theorem d5_132 : decode prog_24_method_2_code 132 = .ok (.iload 4, 2) := by decide +kernel
theorem d5_134 : decode prog_24_method_2_code 134 = .ok (.isub, 1) := by decide +kernel
theorem d5_135 : decode prog_24_method_2_code 135 = .ok (.invokestatic 41, 3) := by decide +kernel
theorem d5_138 : decode prog_24_method_2_code 138 = .ok (.aload_n 0, 1) := by decide +kernel
theorem d5_139 : decode prog_24_method_2_code 139 = .ok (.getfield 7, 3) := by decide +kernel
theorem d5_142 : decode prog_24_method_2_code 142 = .ok (.iload 4, 2) := by decide +kernel
theorem d5_144 : decode prog_24_method_2_code 144 = .ok (.iload_n 1, 1) := by decide +kernel
theorem d5_145 : decode prog_24_method_2_code 145 = .ok (.iastore, 1) := by decide +kernel
theorem d5_146 : decode prog_24_method_2_code 146 = .ok (.aload_n 0, 1) := by decide +kernel
theorem d5_147 : decode prog_24_method_2_code 147 = .ok (.getfield 15, 3) := by decide +kernel
theorem d5_150 : decode prog_24_method_2_code 150 = .ok (.iload 4, 2) := by decide +kernel
theorem d5_152 : decode prog_24_method_2_code 152 = .ok (.aload_n 2, 1) := by decide +kernel
theorem d5_153 : decode prog_24_method_2_code 153 = .ok (.aastore, 1) := by decide +kernel
theorem d5_154 : decode prog_24_method_2_code 154 = .ok (.aload_n 0, 1) := by decide +kernel
theorem d5_155 : decode prog_24_method_2_code 155 = .ok (.dup, 1) := by decide +kernel
theorem d5_156 : decode prog_24_method_2_code 156 = .ok (.getfield 19, 3) := by decide +kernel
theorem d5_159 : decode prog_24_method_2_code 159 = .ok (.iconst 1, 1) := by decide +kernel
theorem d5_160 : decode prog_24_method_2_code 160 = .ok (.iadd, 1) := by decide +kernel
theorem d5_161 : decode prog_24_method_2_code 161 = .ok (.putfield 19, 3) := by decide +kernel
theorem d5_164 : decode prog_24_method_2_code 164 = .ok (.return_, 1) := by decide +kernel
theorem pn_5 : plainName "com/example/deferra/deferra/crediting/DailyAmounts" = true := by first | (simp [plainName, overriddenIn]; done) | decide +kernel
theorem ef_5 (m : MethodId) (x0 : Addr) (x1 : Int32) (x2 : Addr) : entryFrame m #[(.ref x0), (.int x1), (.ref x2)] 5 = mkF m 0 #[.val (.ref x0), .val (.int x1), .val (.ref x2), .unset, .unset] [] := by first | (simp [entryFrame, mkF, argsToLocals, Value.category]; done) | rfl
theorem d6_0 : decode jdk_65_method_58_code 0 = .ok (.aload_n 0, 1) := by decide +kernel
theorem d6_1 : decode jdk_65_method_58_code 1 = .ok (.arraylength, 1) := by decide +kernel
theorem d6_2 : decode jdk_65_method_58_code 2 = .ok (.iload_n 1, 1) := by decide +kernel
theorem d6_3 : decode jdk_65_method_58_code 3 = .ok (.iload_n 2, 1) := by decide +kernel
theorem d6_4 : decode jdk_65_method_58_code 4 = .ok (.invokestatic 13, 3) := by decide +kernel
theorem d6_7 : decode jdk_65_method_58_code 7 = .ok (.aload_n 0, 1) := by decide +kernel
theorem d6_8 : decode jdk_65_method_58_code 8 = .ok (.iload_n 1, 1) := by decide +kernel
theorem d6_9 : decode jdk_65_method_58_code 9 = .ok (.iload_n 2, 1) := by decide +kernel
theorem d6_10 : decode jdk_65_method_58_code 10 = .ok (.iload_n 3, 1) := by decide +kernel
theorem d6_11 : decode jdk_65_method_58_code 11 = .ok (.invokestatic 209, 3) := by decide +kernel
theorem d6_14 : decode jdk_65_method_58_code 14 = .ok (.ireturn, 1) := by decide +kernel
theorem pn_6 : plainName "java/util/Arrays" = true := by first | (simp [plainName, overriddenIn]; done) | decide +kernel
theorem ef_6 (m : MethodId) (x0 : Addr) (x1 : Int32) (x2 : Int32) (x3 : Int32) : entryFrame m #[(.ref x0), (.int x1), (.int x2), (.int x3)] 4 = mkF m 0 #[.val (.ref x0), .val (.int x1), .val (.int x2), .val (.int x3)] [] := by first | (simp [entryFrame, mkF, argsToLocals, Value.category]; done) | rfl
theorem d7_0 : decode jdk_65_method_30_code 0 = .ok (.iload_n 1, 1) := by decide +kernel
theorem d7_1 : decode jdk_65_method_30_code 1 = .ok (.iload_n 2, 1) := by decide +kernel
theorem d7_2 : decode jdk_65_method_30_code 2 = .ok (.if_icmp .le 44, 3) := by decide +kernel
theorem d7_46 : decode jdk_65_method_30_code 46 = .ok (.iload_n 1, 1) := by decide +kernel
theorem d7_47 : decode jdk_65_method_30_code 47 = .ok (.ifCond .ge 12, 3) := by decide +kernel
theorem d7_59 : decode jdk_65_method_30_code 59 = .ok (.iload_n 2, 1) := by decide +kernel
theorem d7_60 : decode jdk_65_method_30_code 60 = .ok (.iload_n 0, 1) := by decide +kernel
theorem d7_61 : decode jdk_65_method_30_code 61 = .ok (.if_icmp .le 12, 3) := by decide +kernel
theorem d7_73 : decode jdk_65_method_30_code 73 = .ok (.return_, 1) := by decide +kernel
theorem pn_7 : plainName "java/util/Arrays" = true := by first | (simp [plainName, overriddenIn]; done) | decide +kernel
theorem ef_7 (m : MethodId) (x0 : Int32) (x1 : Int32) (x2 : Int32) : entryFrame m #[(.int x0), (.int x1), (.int x2)] 3 = mkF m 0 #[.val (.int x0), .val (.int x1), .val (.int x2)] [] := by first | (simp [entryFrame, mkF, argsToLocals, Value.category]; done) | rfl
theorem d8_0 : decode jdk_65_method_59_code 0 = .ok (.iload_n 1, 1) := by decide +kernel
theorem d8_1 : decode jdk_65_method_59_code 1 = .ok (.istore 4, 2) := by decide +kernel
theorem d8_3 : decode jdk_65_method_59_code 3 = .ok (.iload_n 2, 1) := by decide +kernel
theorem d8_4 : decode jdk_65_method_59_code 4 = .ok (.iconst 1, 1) := by decide +kernel
theorem d8_5 : decode jdk_65_method_59_code 5 = .ok (.isub, 1) := by decide +kernel
theorem d8_6 : decode jdk_65_method_59_code 6 = .ok (.istore 5, 2) := by decide +kernel
theorem d8_8 : decode jdk_65_method_59_code 8 = .ok (.iload 4, 2) := by decide +kernel
theorem d8_10 : decode jdk_65_method_59_code 10 = .ok (.iload 5, 2) := by decide +kernel
theorem d8_12 : decode jdk_65_method_59_code 12 = .ok (.if_icmp .gt 54, 3) := by decide +kernel
theorem d8_15 : decode jdk_65_method_59_code 15 = .ok (.iload 4, 2) := by decide +kernel
theorem d8_17 : decode jdk_65_method_59_code 17 = .ok (.iload 5, 2) := by decide +kernel
theorem d8_19 : decode jdk_65_method_59_code 19 = .ok (.iadd, 1) := by decide +kernel
theorem d8_20 : decode jdk_65_method_59_code 20 = .ok (.iconst 1, 1) := by decide +kernel
theorem d8_21 : decode jdk_65_method_59_code 21 = .ok (.iushr, 1) := by decide +kernel
theorem d8_22 : decode jdk_65_method_59_code 22 = .ok (.istore 6, 2) := by decide +kernel
theorem d8_24 : decode jdk_65_method_59_code 24 = .ok (.aload_n 0, 1) := by decide +kernel
theorem d8_25 : decode jdk_65_method_59_code 25 = .ok (.iload 6, 2) := by decide +kernel
theorem d8_27 : decode jdk_65_method_59_code 27 = .ok (.iaload, 1) := by decide +kernel
theorem d8_28 : decode jdk_65_method_59_code 28 = .ok (.istore 7, 2) := by decide +kernel
theorem d8_30 : decode jdk_65_method_59_code 30 = .ok (.iload 7, 2) := by decide +kernel
theorem d8_32 : decode jdk_65_method_59_code 32 = .ok (.iload_n 3, 1) := by decide +kernel
theorem d8_33 : decode jdk_65_method_59_code 33 = .ok (.if_icmp .ge 12, 3) := by decide +kernel
theorem d8_36 : decode jdk_65_method_59_code 36 = .ok (.iload 6, 2) := by decide +kernel
theorem d8_38 : decode jdk_65_method_59_code 38 = .ok (.iconst 1, 1) := by decide +kernel
theorem d8_39 : decode jdk_65_method_59_code 39 = .ok (.iadd, 1) := by decide +kernel
theorem d8_40 : decode jdk_65_method_59_code 40 = .ok (.istore 4, 2) := by decide +kernel
theorem d8_42 : decode jdk_65_method_59_code 42 = .ok (.goto 21, 3) := by decide +kernel
theorem d8_45 : decode jdk_65_method_59_code 45 = .ok (.iload 7, 2) := by decide +kernel
theorem d8_47 : decode jdk_65_method_59_code 47 = .ok (.iload_n 3, 1) := by decide +kernel
theorem d8_48 : decode jdk_65_method_59_code 48 = .ok (.if_icmp .le 12, 3) := by decide +kernel
theorem d8_51 : decode jdk_65_method_59_code 51 = .ok (.iload 6, 2) := by decide +kernel
theorem d8_53 : decode jdk_65_method_59_code 53 = .ok (.iconst 1, 1) := by decide +kernel
theorem d8_54 : decode jdk_65_method_59_code 54 = .ok (.isub, 1) := by decide +kernel
theorem d8_55 : decode jdk_65_method_59_code 55 = .ok (.istore 5, 2) := by decide +kernel
theorem d8_57 : decode jdk_65_method_59_code 57 = .ok (.goto 6, 3) := by decide +kernel
theorem d8_60 : decode jdk_65_method_59_code 60 = .ok (.iload 6, 2) := by decide +kernel
theorem d8_62 : decode jdk_65_method_59_code 62 = .ok (.ireturn, 1) := by decide +kernel
theorem d8_63 : decode jdk_65_method_59_code 63 = .ok (.goto (-55), 3) := by decide +kernel
theorem d8_66 : decode jdk_65_method_59_code 66 = .ok (.iload 4, 2) := by decide +kernel
theorem d8_68 : decode jdk_65_method_59_code 68 = .ok (.iconst 1, 1) := by decide +kernel
theorem d8_69 : decode jdk_65_method_59_code 69 = .ok (.iadd, 1) := by decide +kernel
theorem d8_70 : decode jdk_65_method_59_code 70 = .ok (.ineg, 1) := by decide +kernel
theorem d8_71 : decode jdk_65_method_59_code 71 = .ok (.ireturn, 1) := by decide +kernel
theorem pn_8 : plainName "java/util/Arrays" = true := by first | (simp [plainName, overriddenIn]; done) | decide +kernel
theorem ef_8 (m : MethodId) (x0 : Addr) (x1 : Int32) (x2 : Int32) (x3 : Int32) : entryFrame m #[(.ref x0), (.int x1), (.int x2), (.int x3)] 8 = mkF m 0 #[.val (.ref x0), .val (.int x1), .val (.int x2), .val (.int x3), .unset, .unset, .unset, .unset] [] := by first | (simp [entryFrame, mkF, argsToLocals, Value.category]; done) | rfl
theorem d9_0 : decode jdk_17_method_26_code 0 = .ok (.aload_n 0, 1) := by decide +kernel
theorem d9_1 : decode jdk_17_method_26_code 1 = .ok (.getfield 24, 3) := by decide +kernel
theorem d9_4 : decode jdk_17_method_26_code 4 = .ok (.ldc2_w 125, 3) := by decide +kernel
theorem d9_7 : decode jdk_17_method_26_code 7 = .ok (.lcmp, 1) := by decide +kernel
theorem d9_8 : decode jdk_17_method_26_code 8 = .ok (.ifCond .eq 54, 3) := by decide +kernel
theorem d9_11 : decode jdk_17_method_26_code 11 = .ok (.aload_n 1, 1) := by decide +kernel
theorem d9_12 : decode jdk_17_method_26_code 12 = .ok (.getfield 24, 3) := by decide +kernel
theorem d9_15 : decode jdk_17_method_26_code 15 = .ok (.ldc2_w 125, 3) := by decide +kernel
theorem d9_18 : decode jdk_17_method_26_code 18 = .ok (.lcmp, 1) := by decide +kernel
theorem d9_19 : decode jdk_17_method_26_code 19 = .ok (.ifCond .eq 23, 3) := by decide +kernel
theorem d9_22 : decode jdk_17_method_26_code 22 = .ok (.aload_n 0, 1) := by decide +kernel
theorem d9_23 : decode jdk_17_method_26_code 23 = .ok (.getfield 24, 3) := by decide +kernel
theorem d9_26 : decode jdk_17_method_26_code 26 = .ok (.aload_n 0, 1) := by decide +kernel
theorem d9_27 : decode jdk_17_method_26_code 27 = .ok (.getfield 17, 3) := by decide +kernel
theorem d9_30 : decode jdk_17_method_26_code 30 = .ok (.aload_n 1, 1) := by decide +kernel
theorem d9_31 : decode jdk_17_method_26_code 31 = .ok (.getfield 24, 3) := by decide +kernel
theorem d9_34 : decode jdk_17_method_26_code 34 = .ok (.aload_n 1, 1) := by decide +kernel
theorem d9_35 : decode jdk_17_method_26_code 35 = .ok (.getfield 17, 3) := by decide +kernel
theorem d9_38 : decode jdk_17_method_26_code 38 = .ok (.invokestatic 257, 3) := by decide +kernel
theorem d9_41 : decode jdk_17_method_26_code 41 = .ok (.areturn, 1) := by decide +kernel
theorem pn_9 : plainName "java/math/BigDecimal" = true := by first | (simp [plainName, overriddenIn]; done) | decide +kernel
theorem ef_9 (m : MethodId) (x0 : Addr) (x1 : Addr) : entryFrame m #[(.ref x0), (.ref x1)] 2 = mkF m 0 #[.val (.ref x0), .val (.ref x1)] [] := by first | (simp [entryFrame, mkF, argsToLocals, Value.category]; done) | rfl
theorem d10_0 : decode jdk_17_method_134_code 0 = .ok (.iload_n 2, 1) := by decide +kernel
theorem d10_1 : decode jdk_17_method_134_code 1 = .ok (.i2l, 1) := by decide +kernel
theorem d10_2 : decode jdk_17_method_134_code 2 = .ok (.iload 5, 2) := by decide +kernel
theorem d10_4 : decode jdk_17_method_134_code 4 = .ok (.i2l, 1) := by decide +kernel
theorem d10_5 : decode jdk_17_method_134_code 5 = .ok (.lsub, 1) := by decide +kernel
theorem d10_6 : decode jdk_17_method_134_code 6 = .ok (.lstore 6, 2) := by decide +kernel
theorem d10_8 : decode jdk_17_method_134_code 8 = .ok (.lload 6, 2) := by decide +kernel
theorem d10_10 : decode jdk_17_method_134_code 10 = .ok (.lconst 0, 1) := by decide +kernel
theorem d10_11 : decode jdk_17_method_134_code 11 = .ok (.lcmp, 1) := by decide +kernel
theorem d10_12 : decode jdk_17_method_134_code 12 = .ok (.ifCond .ne 10, 3) := by decide +kernel
theorem d10_15 : decode jdk_17_method_134_code 15 = .ok (.lload_n 0, 1) := by decide +kernel
theorem d10_16 : decode jdk_17_method_134_code 16 = .ok (.lload_n 3, 1) := by decide +kernel
theorem d10_17 : decode jdk_17_method_134_code 17 = .ok (.iload_n 2, 1) := by decide +kernel
theorem d10_18 : decode jdk_17_method_134_code 18 = .ok (.invokestatic 1000, 3) := by decide +kernel
theorem d10_21 : decode jdk_17_method_134_code 21 = .ok (.areturn, 1) := by decide +kernel
theorem pn_10 : plainName "java/math/BigDecimal" = true := by first | (simp [plainName, overriddenIn]; done) | decide +kernel
theorem ef_10 (m : MethodId) (x0 : Int64) (x1 : Int32) (x2 : Int64) (x3 : Int32) : entryFrame m #[(.long x0), (.int x1), (.long x2), (.int x3)] 12 = mkF m 0 #[.val (.long x0), .second, .val (.int x1), .val (.long x2), .second, .val (.int x3), .unset, .unset, .unset, .unset, .unset, .unset] [] := by first | (simp [entryFrame, mkF, argsToLocals, Value.category]; done) | rfl
theorem d11_0 : decode jdk_17_method_133_code 0 = .ok (.lload_n 0, 1) := by decide +kernel
theorem d11_1 : decode jdk_17_method_133_code 1 = .ok (.lload_n 2, 1) := by decide +kernel
theorem d11_2 : decode jdk_17_method_133_code 2 = .ok (.invokestatic 996, 3) := by decide +kernel
theorem d11_5 : decode jdk_17_method_133_code 5 = .ok (.lstore 5, 2) := by decide +kernel
theorem d11_7 : decode jdk_17_method_133_code 7 = .ok (.lload 5, 2) := by decide +kernel
theorem d11_9 : decode jdk_17_method_133_code 9 = .ok (.ldc2_w 125, 3) := by decide +kernel
theorem d11_12 : decode jdk_17_method_133_code 12 = .ok (.lcmp, 1) := by decide +kernel
theorem d11_13 : decode jdk_17_method_133_code 13 = .ok (.ifCond .eq 11, 3) := by decide +kernel
theorem d11_16 : decode jdk_17_method_133_code 16 = .ok (.lload 5, 2) := by decide +kernel
theorem d11_18 : decode jdk_17_method_133_code 18 = .ok (.iload 4, 2) := by decide +kernel
theorem d11_20 : decode jdk_17_method_133_code 20 = .ok (.invokestatic 328, 3) := by decide +kernel
theorem d11_23 : decode jdk_17_method_133_code 23 = .ok (.areturn, 1) := by decide +kernel
theorem pn_11 : plainName "java/math/BigDecimal" = true := by first | (simp [plainName, overriddenIn]; done) | decide +kernel
theorem ef_11 (m : MethodId) (x0 : Int64) (x1 : Int64) (x2 : Int32) : entryFrame m #[(.long x0), (.long x1), (.int x2)] 7 = mkF m 0 #[.val (.long x0), .second, .val (.long x1), .second, .val (.int x2), .unset, .unset] [] := by first | (simp [entryFrame, mkF, argsToLocals, Value.category]; done) | rfl
theorem d12_0 : decode jdk_17_method_132_code 0 = .ok (.lload_n 0, 1) := by decide +kernel
theorem d12_1 : decode jdk_17_method_132_code 1 = .ok (.lload_n 2, 1) := by decide +kernel
theorem d12_2 : decode jdk_17_method_132_code 2 = .ok (.ladd, 1) := by decide +kernel
theorem d12_3 : decode jdk_17_method_132_code 3 = .ok (.lstore 4, 2) := by decide +kernel
theorem d12_5 : decode jdk_17_method_132_code 5 = .ok (.lload 4, 2) := by decide +kernel
theorem d12_7 : decode jdk_17_method_132_code 7 = .ok (.lload_n 0, 1) := by decide +kernel
theorem d12_8 : decode jdk_17_method_132_code 8 = .ok (.lxor, 1) := by decide +kernel
theorem d12_9 : decode jdk_17_method_132_code 9 = .ok (.lload 4, 2) := by decide +kernel
theorem d12_11 : decode jdk_17_method_132_code 11 = .ok (.lload_n 2, 1) := by decide +kernel
theorem d12_12 : decode jdk_17_method_132_code 12 = .ok (.lxor, 1) := by decide +kernel
theorem d12_13 : decode jdk_17_method_132_code 13 = .ok (.land, 1) := by decide +kernel
theorem d12_14 : decode jdk_17_method_132_code 14 = .ok (.lconst 0, 1) := by decide +kernel
theorem d12_15 : decode jdk_17_method_132_code 15 = .ok (.lcmp, 1) := by decide +kernel
theorem d12_16 : decode jdk_17_method_132_code 16 = .ok (.ifCond .lt 6, 3) := by decide +kernel
theorem d12_19 : decode jdk_17_method_132_code 19 = .ok (.lload 4, 2) := by decide +kernel
theorem d12_21 : decode jdk_17_method_132_code 21 = .ok (.lreturn, 1) := by decide +kernel
theorem pn_12 : plainName "java/math/BigDecimal" = true := by first | (simp [plainName, overriddenIn]; done) | decide +kernel
theorem ef_12 (m : MethodId) (x0 : Int64) (x1 : Int64) : entryFrame m #[(.long x0), (.long x1)] 6 = mkF m 0 #[.val (.long x0), .second, .val (.long x1), .second, .unset, .unset] [] := by first | (simp [entryFrame, mkF, argsToLocals, Value.category]; done) | rfl
theorem d13_0 : decode jdk_17_method_20_code 0 = .ok (.iload_n 2, 1) := by decide +kernel
theorem d13_1 : decode jdk_17_method_20_code 1 = .ok (.ifCond .ne 8, 3) := by decide +kernel
theorem d13_4 : decode jdk_17_method_20_code 4 = .ok (.lload_n 0, 1) := by decide +kernel
theorem d13_5 : decode jdk_17_method_20_code 5 = .ok (.invokestatic 236, 3) := by decide +kernel
theorem d13_8 : decode jdk_17_method_20_code 8 = .ok (.areturn, 1) := by decide +kernel
theorem pn_13 : plainName "java/math/BigDecimal" = true := by first | (simp [plainName, overriddenIn]; done) | decide +kernel
theorem ef_13 (m : MethodId) (x0 : Int64) (x1 : Int32) : entryFrame m #[(.long x0), (.int x1)] 3 = mkF m 0 #[.val (.long x0), .second, .val (.int x1)] [] := by first | (simp [entryFrame, mkF, argsToLocals, Value.category]; done) | rfl
theorem d14_0 : decode jdk_17_method_21_code 0 = .ok (.lload_n 0, 1) := by decide +kernel
theorem d14_1 : decode jdk_17_method_21_code 1 = .ok (.lconst 0, 1) := by decide +kernel
theorem d14_2 : decode jdk_17_method_21_code 2 = .ok (.lcmp, 1) := by decide +kernel
theorem d14_3 : decode jdk_17_method_21_code 3 = .ok (.ifCond .lt 20, 3) := by decide +kernel
theorem d14_6 : decode jdk_17_method_21_code 6 = .ok (.lload_n 0, 1) := by decide +kernel
theorem d14_7 : decode jdk_17_method_21_code 7 = .ok (.getstatic 246, 3) := by decide +kernel
theorem d14_10 : decode jdk_17_method_21_code 10 = .ok (.arraylength, 1) := by decide +kernel
theorem d14_11 : decode jdk_17_method_21_code 11 = .ok (.i2l, 1) := by decide +kernel
theorem d14_12 : decode jdk_17_method_21_code 12 = .ok (.lcmp, 1) := by decide +kernel
theorem d14_13 : decode jdk_17_method_21_code 13 = .ok (.ifCond .ge 10, 3) := by decide +kernel
theorem d14_16 : decode jdk_17_method_21_code 16 = .ok (.getstatic 246, 3) := by decide +kernel
theorem d14_19 : decode jdk_17_method_21_code 19 = .ok (.lload_n 0, 1) := by decide +kernel
theorem d14_20 : decode jdk_17_method_21_code 20 = .ok (.l2i, 1) := by decide +kernel
theorem d14_21 : decode jdk_17_method_21_code 21 = .ok (.aaload, 1) := by decide +kernel
theorem d14_22 : decode jdk_17_method_21_code 22 = .ok (.areturn, 1) := by decide +kernel
theorem pn_14 : plainName "java/math/BigDecimal" = true := by first | (simp [plainName, overriddenIn]; done) | decide +kernel
theorem ef_14 (m : MethodId) (x0 : Int64) : entryFrame m #[(.long x0)] 2 = mkF m 0 #[.val (.long x0), .second] [] := by first | (simp [entryFrame, mkF, argsToLocals, Value.category]; done) | rfl
theorem pd_0 : parseMethodDescriptor "()V" = some ⟨[], none⟩ := by decide +kernel
theorem pd_1 : parseMethodDescriptor "()Z" = some ⟨[], some .boolean⟩ := by decide +kernel
theorem pd_2 : parseMethodDescriptor "()I" = some ⟨[], some .int⟩ := by decide +kernel
theorem pd_3 : parseMethodDescriptor "(III)V" = some ⟨[.int, .int, .int], none⟩ := by decide +kernel
theorem pd_4 : parseMethodDescriptor "([IIII)I" = some ⟨[(.array .int), .int, .int, .int], some .int⟩ := by decide +kernel
theorem pd_5 : parseMethodDescriptor "(ILjava/math/BigDecimal;)V" = some ⟨[.int, (.object "java/math/BigDecimal")], none⟩ := by decide +kernel
theorem pd_6 : parseMethodDescriptor "(JJ)J" = some ⟨[.long, .long], some .long⟩ := by decide +kernel
theorem pd_7 : parseMethodDescriptor "(J)Ljava/math/BigDecimal;" = some ⟨[.long], some (.object "java/math/BigDecimal")⟩ := by decide +kernel
theorem pd_8 : parseMethodDescriptor "(JI)Ljava/math/BigDecimal;" = some ⟨[.long, .int], some (.object "java/math/BigDecimal")⟩ := by decide +kernel
theorem pd_9 : parseMethodDescriptor "(JJI)Ljava/math/BigDecimal;" = some ⟨[.long, .long, .int], some (.object "java/math/BigDecimal")⟩ := by decide +kernel
theorem pd_10 : parseMethodDescriptor "(JIJI)Ljava/math/BigDecimal;" = some ⟨[.long, .int, .long, .int], some (.object "java/math/BigDecimal")⟩ := by decide +kernel
theorem pd_11 : parseMethodDescriptor "(Ljava/math/BigDecimal;)Ljava/math/BigDecimal;" = some ⟨[(.object "java/math/BigDecimal")], some (.object "java/math/BigDecimal")⟩ := by decide +kernel
def Q1_0 (Z : State) (a_ONE : Addr) (a_ZTT : Addr) (e_2 : Addr) (e_3 : Addr) (t0 : Int32) (o0 : Addr) (h0 : Heap) (n0 : Nat) (v : Option Value) (h : Heap) (L : List Loc) : Prop := ∃ (o1 o2 : Addr) (j0 j1 : ClassId), v = none ∧ Fr n0 L ∧ Keep h0 h [o0] ∧ h0.size ≤ o1 ∧ h0.size ≤ o2 ∧ o1 ≠ o2 ∧ Exa Z h o1 "[I" ∧ Arv Z h o1 j0 .int (4 : Int32) [(.int 0), (.int 0), (.int 0), (.int 0)] (.int 0) ∧ Exa Z h o2 "[Ljava/math/BigDecimal;" ∧ Arv Z h o2 j1 (.object "java/math/BigDecimal") (4 : Int32) [.null, .null, .null, .null] .null ∧ Ovr Z j1 "java/math/BigDecimal" ∧ Fld Z h o0 "com/example/deferra/deferra/crediting/DailyAmounts" "days" "[I" (.ref o1) ∧ Exa Z h o0 "com/example/deferra/deferra/crediting/DailyAmounts" ∧ Fld Z h o0 "com/example/deferra/deferra/crediting/DailyAmounts" "amounts" "[Ljava/math/BigDecimal;" (.ref o2) ∧ Fld Z h o0 "com/example/deferra/deferra/crediting/DailyAmounts" "size" "I" (.int t0)
set_option maxRecDepth 65536 in
set_option maxHeartbeats 40000000 in
theorem rm1_0 (l : Launch) (Z : State) (a0 : Array Value) (hw : ∀ d ∈ tables_1, d.before a0 Z = true) (ws : List Jvm.Cond) (a_ONE : Addr) (a_ZTT : Addr) (e_2 : Addr) (e_3 : Addr) (t0 : Int32) (o0 : Addr) (h0 : Heap) (n0 : Nat) (FF : Facts Z Z.heap a_ONE a_ZTT e_2 e_3) (OO : Old Z n0 h0) (f0 : Fld Z h0 o0 "com/example/deferra/deferra/crediting/DailyAmounts" "days" "[I" .null) (f1 : Exa Z h0 o0 "com/example/deferra/deferra/crediting/DailyAmounts") (u0 : n0 ≤ o0) (f2 : Fld Z h0 o0 "com/example/deferra/deferra/crediting/DailyAmounts" "amounts" "[Ljava/math/BigDecimal;" .null) (f3 : Fld Z h0 o0 "com/example/deferra/deferra/crediting/DailyAmounts" "size" "I" (.int t0)) :
    MetFree l (⟨"com/example/deferra/deferra/crediting/DailyAmounts", "<init>", "()V"⟩ : MethodName) (head1 (Jvm.Cond.code (⟨"com/example/deferra/deferra/crediting/DailyAmounts", "<init>", "()V"⟩ : MethodName) prog_24_method_1_code 1 none :: ws) ({ frames := 1, cells := 2, slots := 8, locals := 12 } : Room)) (fun a U => a = #[(.ref o0)] ∧ Z.Warmed39 U.vm ∧ U.heap = h0) (fun _ _ _ _ _ => True) (fun _ U o U' => ∃ v L, o = .returned v ∧ Q1_0 Z a_ONE a_ZTT e_2 e_3 t0 o0 h0 n0 v U'.heap L ∧ FrameEnd U o U' L ({ frames := 1, cells := 2, slots := 8, locals := 12 } : Room).cells ({ frames := 1, cells := 2, slots := 8, locals := 12 } : Room).slots) := by
  refine MetFree.of_bodySF (plainFor_of_name pn_1) hisR ?_
  intro p e s m args below meth c s₁ Bd hml0 hP hK
  obtain ⟨rfl, hZ, hh⟩ := hP
  have hx := Bd.exec
  have hby := Bd.bytes
  have hml : c.maxLocals = 1 := hml0
  have hown : s.vm.findClass "com/example/deferra/deferra/crediting/DailyAmounts" = some m.cls := findClass_of_methodNamed Bd.named
  have X0 : Stand p l e ({ frames := 1, cells := 2, slots := 8, locals := 12 } : Room) s m #[(.ref o0)] below meth c s₁ [] 0 0 := Stand.of_body Bd
  have e0 : s₁.heap = h0 := by rw [← hh, Bd.state]; rfl
  have N0 := Fr.nil n0
  have pre0 : ∀ t, Steps p.tables e below (s₁.setTop (mkF m 0 #[rv o0] [])) t → Steps p.tables e below (s₁.setTop (entryFrame m #[(.ref o0)] 1)) t := fun t k => castTop (ef_1 m o0) k
  obtain ⟨T1, X1, e1, st1⟩ := initO X0 hx hZ hown (w_6 hw) (w_7 hw) (w_8 hw) e0 (g := (mkF m 1 #[rv o0] [(.ref o0)])) rfl (by rw [hml]; rfl) rfl (hb hby d1_1) (by decide) (W := 0) (by show 2 * 0 + _ ≤ _; exact Nat.le_of_eq rfl) (by decide)
  obtain ⟨T2, h2, j0, X2, e2, E2, A2, B2, st2⟩ := newPE (aty := .int) X1 hx hZ (w_9 hw) e1 (g := (mkF m 6 #[rv o0] [(.int 4), (.ref o0)])) rfl (hb hby d1_6) rfl (by decide) (cap := 4) (by decide) (by decide) (by decide) (by decide) (ad := "[I") (by decide +kernel)
  obtain ⟨o1, g2⟩ : ∃ z, z = h0.size := ⟨_, rfl⟩
  rw [← g2] at A2 B2 st2
  have g3 : n0 ≤ o1 := Nat.le_trans (own_le OO) (Nat.le_of_eq g2.symm)
  have s4 : h0.size ≤ o1 := Nat.le_trans ((Keep.refl h0 [o0])).1 (Nat.le_of_eq g2.symm)
  have O2 := Old.ext OO E2
  have KK2 : Keep h0 h2 [o0] := Keep.ext (Keep.refl h0 [o0]) E2
  have F5 : Arv Z h2 o1 j0 .int (4 : Int32) [(.int 0), (.int 0), (.int 0), (.int 0)] (.int 0) := (Arv.new A2 (by decide)).pad (pad_rep [] (.int 0) 4)
  have F6 : Fld Z h2 o0 "com/example/deferra/deferra/crediting/DailyAmounts" "days" "[I" .null := (Fld.ext E2 f0)
  have F7 : Exa Z h2 o0 "com/example/deferra/deferra/crediting/DailyAmounts" := (Exa.ext E2 f1)
  obtain ⟨T8, h8, X8, e8, W8, st8⟩ := putF X2 hx hZ hown (host := "") (Or.inl (w_10 hw)) Via.refl e2 F6 F7 (Or.inl (w_11 hw)) (w_1 hw) (ty := (.array .int)) (by decide) rfl rfl (g := (mkF m 8 #[rv o0] [(.ref o1), (.ref o0)])) rfl rfl (hb hby d1_8)
  have O8 := Old.wr O2 W8 u0
  have KK8 : Keep h0 h8 [o0] := Keep.wr KK2 W8 (Or.inl (List.mem_of_getElem? (i := 0) rfl))
  have N8 := Fr.snoc X8 N0 u0
  have F9 : Fld Z h8 o0 "com/example/deferra/deferra/crediting/DailyAmounts" "days" "[I" (.ref o1) := Fld.same W8 F6
  obtain ⟨T10, h10, j1, X10, e10, E10, A10, B10, O10v, st10⟩ := newRE X8 hx hZ hown (w_12 hw) (w_13 hw) e8 (g := (mkF m 13 #[rv o0] [(.int 4), (.ref o0)])) rfl (hb hby d1_13) rfl (by decide) (cap := 4) (by decide) (by decide) (by decide) (by decide) (ad := "[Ljava/math/BigDecimal;") (by decide +kernel)
  obtain ⟨o2, g10⟩ : ∃ z, z = h8.size := ⟨_, rfl⟩
  rw [← g10] at A10 B10 st10
  have g11 : n0 ≤ o2 := Nat.le_trans (own_le O8) (Nat.le_of_eq g10.symm)
  have s12 : h0.size ≤ o2 := Nat.le_trans (KK8).1 (Nat.le_of_eq g10.symm)
  have O10 := Old.ext O8 E10
  have KK10 : Keep h0 h10 [o0] := Keep.ext KK8 E10
  have F13 : Arv Z h10 o2 j1 (.object "java/math/BigDecimal") (4 : Int32) [.null, .null, .null, .null] .null := (Arv.new A10 (by decide)).pad (pad_rep [] .null 4)
  have F14 : Fld Z h10 o0 "com/example/deferra/deferra/crediting/DailyAmounts" "amounts" "[Ljava/math/BigDecimal;" .null := (Fld.ext E10 (Fld.other W8 (Fld.ext E2 f2) (Or.inr (slot_ne (Or.inl (w_15 hw)) (Or.inl (w_11 hw)) (by decide) (t := (.array (.object "java/math/BigDecimal"))) (t' := (.array .int)) (by decide) (by decide)))))
  have F15 : Exa Z h10 o0 "com/example/deferra/deferra/crediting/DailyAmounts" := (Exa.ext E10 (Exa.wr W8 F7))
  obtain ⟨T16, h16, X16, e16, W16, st16⟩ := putF X10 hx hZ hown (host := "") (Or.inl (w_14 hw)) Via.refl e10 F14 F15 (Or.inl (w_15 hw)) (w_1 hw) (ty := (.array (.object "java/math/BigDecimal"))) (by decide) rfl rfl (g := (mkF m 16 #[rv o0] [(.ref o2), (.ref o0)])) rfl rfl (hb hby d1_16)
  have O16 := Old.wr O10 W16 u0
  have KK16 : Keep h0 h16 [o0] := Keep.wr KK10 W16 (Or.inl (List.mem_of_getElem? (i := 0) rfl))
  have N16 := Fr.snoc X16 N8 u0
  have F17 : Fld Z h16 o0 "com/example/deferra/deferra/crediting/DailyAmounts" "amounts" "[Ljava/math/BigDecimal;" (.ref o2) := Fld.same W16 F14
  have F18 : Exa Z h16 o1 "[I" := (Exa.wr W16 (Exa.ext E10 (Exa.wr W8 B2)))
  have ne19 : o0 ≠ o1 := Nat.ne_of_lt (Nat.lt_of_lt_of_le (f0).lt (Nat.le_of_eq g2.symm))
  have F20 : Arv Z h16 o1 j0 .int (4 : Int32) [(.int 0), (.int 0), (.int 0), (.int 0)] (.int 0) := (Arv.other (Arv.ext (Arv.other F5 W8 (Ne.symm ne19)) E10) W16 (Ne.symm ne19))
  have F21 : Exa Z h16 o2 "[Ljava/math/BigDecimal;" := (Exa.wr W16 B10)
  have ne22 : o0 ≠ o2 := Nat.ne_of_lt (Nat.lt_of_lt_of_le (F9).lt (Nat.le_of_eq g10.symm))
  have F23 : Arv Z h16 o2 j1 (.object "java/math/BigDecimal") (4 : Int32) [.null, .null, .null, .null] .null := (Arv.other F13 W16 (Ne.symm ne22))
  have F24 : Fld Z h16 o0 "com/example/deferra/deferra/crediting/DailyAmounts" "days" "[I" (.ref o1) := (Fld.other W16 (Fld.ext E10 F9) (Or.inr (slot_ne (Or.inl (w_11 hw)) (Or.inl (w_15 hw)) (by decide) (t := (.array .int)) (t' := (.array (.object "java/math/BigDecimal"))) (by decide) (by decide))))
  have F25 : Exa Z h16 o0 "com/example/deferra/deferra/crediting/DailyAmounts" := (Exa.wr W16 F15)
  have F26 : Fld Z h16 o0 "com/example/deferra/deferra/crediting/DailyAmounts" "size" "I" (.int t0) := (Fld.other W16 (Fld.ext E10 (Fld.other W8 (Fld.ext E2 f3) (Or.inr (slot_ne (Or.inl (w_22 hw)) (Or.inl (w_11 hw)) (by decide) (t := .int) (t' := (.array .int)) (by decide) (by decide))))) (Or.inr (slot_ne (Or.inl (w_22 hw)) (Or.inl (w_15 hw)) (by decide) (t := .int) (t' := (.array (.object "java/math/BigDecimal"))) (by decide) (by decide))))
  have ne27 : o1 ≠ o2 := Nat.ne_of_lt (Nat.lt_of_lt_of_le ((Exa.wr W8 B2)).lt (Nat.le_of_eq g10.symm))
  obtain ⟨fs, hr, hrun, hended, hW, hsame⟩ := X16.leave (v := none) (fun _ => rfl)
  refine ⟨_, _, pre0 _ ?_, hrun, hended, _, _, rfl, ?_, ⟨_, rfl⟩, hW, hsame.mono (by decide) (by decide)⟩
  · show Steps p.tables e below (s₁.setTop (mkF m 0 #[rv o0] [])) _
    refine XS.aloadN X0.here hx rfl (hb hby d1_0) rfl rfl ?_
    refine st1 _ ?_
    refine XS.aloadN X1.here hx rfl (hb hby d1_4) rfl rfl ?_
    refine XS.iconst X1.here hx rfl (hb hby d1_5) ?_
    show Steps p.tables e below (T1.setTop (mkF m 6 #[rv o0] [(.int 4), (.ref o0)])) _
    refine st2 _ ?_
    refine st8 _ ?_
    refine XS.aloadN X8.here hx rfl (hb hby d1_11) rfl rfl ?_
    refine XS.iconst X8.here hx rfl (hb hby d1_12) ?_
    show Steps p.tables e below (T8.setTop (mkF m 13 #[rv o0] [(.int 4), (.ref o0)])) _
    refine st10 _ ?_
    refine st16 _ ?_
    exact X16.returnOut hx Bd.returns (hb hby d1_19) hr
  · show Q1_0 Z a_ONE a_ZTT e_2 e_3 t0 o0 h0 n0 _ T16.heap _
    rw [e16]
    exact ⟨o1, o2, j0, j1, rfl, N16, KK16, s4, s12, ne27, F18, F20, F21, F23, O10v, F24, F25, F17, F26⟩
def Q3_0 (Z : State) (a_ONE : Addr) (a_ZTT : Addr) (e_2 : Addr) (e_3 : Addr) (o0 : Addr) (h0 : Heap) (n0 : Nat) (v : Option Value) (h : Heap) (L : List Loc) : Prop := v = some (.int 1) ∧ Fr n0 L ∧ h = h0
set_option maxRecDepth 65536 in
set_option maxHeartbeats 40000000 in
theorem rm3_0 (l : Launch) (Z : State) (a0 : Array Value) (hw : ∀ d ∈ tables_1, d.before a0 Z = true) (ws : List Jvm.Cond) (a_ONE : Addr) (a_ZTT : Addr) (e_2 : Addr) (e_3 : Addr) (o0 : Addr) (h0 : Heap) (n0 : Nat) (FF : Facts Z Z.heap a_ONE a_ZTT e_2 e_3) (OO : Old Z n0 h0) (f0 : Fld Z h0 o0 "com/example/deferra/deferra/crediting/DailyAmounts" "size" "I" (.int 0)) :
    MetFree l (⟨"com/example/deferra/deferra/crediting/DailyAmounts", "isEmpty", "()Z"⟩ : MethodName) (head1 (Jvm.Cond.code (⟨"com/example/deferra/deferra/crediting/DailyAmounts", "isEmpty", "()Z"⟩ : MethodName) prog_24_method_3_code 1 (some .boolean) :: ws) ({ frames := 0, cells := 0, slots := 0, locals := 0 } : Room)) (fun a U => a = #[(.ref o0)] ∧ Z.Warmed39 U.vm ∧ U.heap = h0) (fun _ _ _ _ _ => True) (fun _ U o U' => ∃ v L, o = .returned v ∧ Q3_0 Z a_ONE a_ZTT e_2 e_3 o0 h0 n0 v U'.heap L ∧ FrameEnd U o U' L ({ frames := 0, cells := 0, slots := 0, locals := 0 } : Room).cells ({ frames := 0, cells := 0, slots := 0, locals := 0 } : Room).slots) := by
  refine MetFree.of_bodySF (plainFor_of_name pn_3) hisR ?_
  intro p e s m args below meth c s₁ Bd hml0 hP hK
  obtain ⟨rfl, hZ, hh⟩ := hP
  have hx := Bd.exec
  have hby := Bd.bytes
  have hml : c.maxLocals = 1 := hml0
  have hown : s.vm.findClass "com/example/deferra/deferra/crediting/DailyAmounts" = some m.cls := findClass_of_methodNamed Bd.named
  have X0 : Stand p l e ({ frames := 0, cells := 0, slots := 0, locals := 0 } : Room) s m #[(.ref o0)] below meth c s₁ [] 0 0 := Stand.of_body Bd
  have e0 : s₁.heap = h0 := by rw [← hh, Bd.state]; rfl
  have N0 := Fr.nil n0
  have pre0 : ∀ t, Steps p.tables e below (s₁.setTop (mkF m 0 #[rv o0] [])) t → Steps p.tables e below (s₁.setTop (entryFrame m #[(.ref o0)] 1)) t := fun t k => castTop (ef_3 m o0) k
  obtain ⟨T1, X1, e1, st1⟩ := getF X0 hx hZ hown (host := "") (Or.inl (w_21 hw)) Via.refl e0 f0 (g := (mkF m 1 #[rv o0] [(.ref o0)])) rfl rfl (hb hby d3_1)
  obtain ⟨fs, hr, hrun, hended, hW, hsame⟩ := X1.leave (v := some (.int 1)) (fun h => by rw [Bd.returns] at h; cases h)
  refine ⟨_, _, pre0 _ ?_, hrun, hended, _, _, rfl, ?_, ⟨_, rfl⟩, hW, hsame.mono (by decide) (by decide)⟩
  · show Steps p.tables e below (s₁.setTop (mkF m 0 #[rv o0] [])) _
    refine XS.aloadN X0.here hx rfl (hb hby d3_0) rfl rfl ?_
    refine st1 _ ?_
    refine XS.ifNo X1.here hx rfl (hb hby d3_4) rfl (by decide) ?_
    refine XS.iconst X1.here hx rfl (hb hby d3_7) ?_
    show Steps p.tables e below (T1.setTop (mkF m 8 #[rv o0] [(.int 1)])) _
    refine XS.goto X1.here hx rfl (pc0 := 8) (pc' := 12) rfl (hb hby d3_8) (by decide) (by decide) ?_
    exact retN X1 hx (t := .boolean) Bd.returns (by simp) (hb hby d3_12) hr
  · show Q3_0 Z a_ONE a_ZTT e_2 e_3 o0 h0 n0 _ T1.heap _
    exact ⟨rfl, N0, e1⟩
def Q4_0 (Z : State) (a_ONE : Addr) (a_ZTT : Addr) (e_2 : Addr) (e_3 : Addr) (t0 : Int32) (o0 : Addr) (h0 : Heap) (n0 : Nat) (v : Option Value) (h : Heap) (L : List Loc) : Prop := v = some (.int t0) ∧ Fr n0 L ∧ h = h0
set_option maxRecDepth 65536 in
set_option maxHeartbeats 40000000 in
theorem rm4_0 (l : Launch) (Z : State) (a0 : Array Value) (hw : ∀ d ∈ tables_1, d.before a0 Z = true) (ws : List Jvm.Cond) (a_ONE : Addr) (a_ZTT : Addr) (e_2 : Addr) (e_3 : Addr) (t0 : Int32) (o0 : Addr) (h0 : Heap) (n0 : Nat) (FF : Facts Z Z.heap a_ONE a_ZTT e_2 e_3) (OO : Old Z n0 h0) (f0 : Fld Z h0 o0 "com/example/deferra/deferra/crediting/DailyAmounts" "size" "I" (.int t0)) :
    MetFree l (⟨"com/example/deferra/deferra/crediting/DailyAmounts", "size", "()I"⟩ : MethodName) (head1 (Jvm.Cond.code (⟨"com/example/deferra/deferra/crediting/DailyAmounts", "size", "()I"⟩ : MethodName) prog_24_method_4_code 1 (some .int) :: ws) ({ frames := 0, cells := 0, slots := 0, locals := 0 } : Room)) (fun a U => a = #[(.ref o0)] ∧ Z.Warmed39 U.vm ∧ U.heap = h0) (fun _ _ _ _ _ => True) (fun _ U o U' => ∃ v L, o = .returned v ∧ Q4_0 Z a_ONE a_ZTT e_2 e_3 t0 o0 h0 n0 v U'.heap L ∧ FrameEnd U o U' L ({ frames := 0, cells := 0, slots := 0, locals := 0 } : Room).cells ({ frames := 0, cells := 0, slots := 0, locals := 0 } : Room).slots) := by
  refine MetFree.of_bodySF (plainFor_of_name pn_4) hisR ?_
  intro p e s m args below meth c s₁ Bd hml0 hP hK
  obtain ⟨rfl, hZ, hh⟩ := hP
  have hx := Bd.exec
  have hby := Bd.bytes
  have hml : c.maxLocals = 1 := hml0
  have hown : s.vm.findClass "com/example/deferra/deferra/crediting/DailyAmounts" = some m.cls := findClass_of_methodNamed Bd.named
  have X0 : Stand p l e ({ frames := 0, cells := 0, slots := 0, locals := 0 } : Room) s m #[(.ref o0)] below meth c s₁ [] 0 0 := Stand.of_body Bd
  have e0 : s₁.heap = h0 := by rw [← hh, Bd.state]; rfl
  have N0 := Fr.nil n0
  have pre0 : ∀ t, Steps p.tables e below (s₁.setTop (mkF m 0 #[rv o0] [])) t → Steps p.tables e below (s₁.setTop (entryFrame m #[(.ref o0)] 1)) t := fun t k => castTop (ef_4 m o0) k
  obtain ⟨T1, X1, e1, st1⟩ := getF X0 hx hZ hown (host := "") (Or.inl (w_21 hw)) Via.refl e0 f0 (g := (mkF m 1 #[rv o0] [(.ref o0)])) rfl rfl (hb hby d4_1)
  obtain ⟨fs, hr, hrun, hended, hW, hsame⟩ := X1.leave (v := some (.int t0)) (fun h => by rw [Bd.returns] at h; cases h)
  refine ⟨_, _, pre0 _ ?_, hrun, hended, _, _, rfl, ?_, ⟨_, rfl⟩, hW, hsame.mono (by decide) (by decide)⟩
  · show Steps p.tables e below (s₁.setTop (mkF m 0 #[rv o0] [])) _
    refine XS.aloadN X0.here hx rfl (hb hby d4_0) rfl rfl ?_
    refine st1 _ ?_
    exact retI X1 hx Bd.returns (hb hby d4_4) hr
  · show Q4_0 Z a_ONE a_ZTT e_2 e_3 t0 o0 h0 n0 _ T1.heap _
    exact ⟨rfl, N0, e1⟩
set_option maxRecDepth 65536 in
set_option maxHeartbeats 40000000 in
theorem sg_0 {p : Program} {l : Launch} {e : Env} {s : State} {m : MethodId} {args : Array Value} {below : List Frame} {meth : Method} {c : Code} {T0 : State} {locs : List Loc} {Z : State} {a0 : Array Value} {h0 : Heap} {n0 : Nat} (hw : ∀ d ∈ tables_1, d.before a0 Z = true) (a_ONE : Addr) (a_ZTT : Addr) (e_2 : Addr) (e_3 : Addr) (t0 : Int32) (t1 : Int32) (t2 : Int32) (t3 : Int32) (FF : Facts Z Z.heap a_ONE a_ZTT e_2 e_3)
    (X0 : Stand p l e room_1 s m args below meth c T0 locs 0 0) (hx : p.tables.exec = Jvm.exec) (hZ : Z.Warmed39 s.vm) (hby : c.code = code) (hml : c.maxLocals = 8) (hown : s.vm.findClass "com/example/deferra/deferra/crediting/DailyAmountsIsEmptyPinLaw" = some m.cls) (e0 : T0.heap = h0) (N0 : Fr n0 locs) (OO : Old Z n0 h0) (hk0 : (t0 &&& (3 : Int32)) = (0 : Int32)) :
    ∃ (T' : State) (h' : Heap) (lc : List Loc) (o0 o1 o2 : Addr) (j0 j1 : ClassId), Stand p l e room_1 s m args below meth c T' lc 3 11 ∧ T'.heap = h' ∧ Fr n0 lc ∧ Keep h0 h' [] ∧ h0.size ≤ o0 ∧ h0.size ≤ o1 ∧ h0.size ≤ o2 ∧ o0 ≠ o1 ∧ o0 ≠ o2 ∧ o1 ≠ o2 ∧ Exa Z h' o0 "com/example/deferra/deferra/crediting/DailyAmounts" ∧ Fld Z h' o0 "com/example/deferra/deferra/crediting/DailyAmounts" "days" "[I" (.ref o1) ∧ Fld Z h' o0 "com/example/deferra/deferra/crediting/DailyAmounts" "amounts" "[Ljava/math/BigDecimal;" (.ref o2) ∧ Fld Z h' o0 "com/example/deferra/deferra/crediting/DailyAmounts" "size" "I" (.int 0) ∧ Exa Z h' o1 "[I" ∧ Arv Z h' o1 j0 .int (4 : Int32) [(.int 0), (.int 0), (.int 0), (.int 0)] (.int 0) ∧ Exa Z h' o2 "[Ljava/math/BigDecimal;" ∧ Arv Z h' o2 j1 (.object "java/math/BigDecimal") (4 : Int32) [.null, .null, .null, .null] .null ∧ Ovr Z j1 "java/math/BigDecimal" ∧
      ∀ target, Steps p.tables e below (T'.setTop (mkF m 37 #[iv t0, iv t1, iv t2, iv t3, iv 0, rv o0, iv 1, .unset] [])) target → Steps p.tables e below (T0.setTop (mkF m 0 #[iv t0, iv t1, iv t2, iv t3, .unset, .unset, .unset, .unset] [])) target := by
  obtain ⟨T1, h1, X1, e1, E1, A1, D1, -, st1⟩ := newO X0 hx hZ hown (w_0 hw) (w_1 hw) (w_2 hw) e0 (g := (mkF m 5 #[iv t0, iv t1, iv t2, iv t3, iv 0, .unset, .unset, .unset] [])) rfl (hb hby at_5) (by decide) (by decide)
  obtain ⟨o0, g1⟩ : ∃ z, z = h0.size := ⟨_, rfl⟩
  rw [← g1] at A1 D1 st1
  have g2 : n0 ≤ o0 := Nat.le_trans (own_le OO) (Nat.le_of_eq g1.symm)
  have s3 : h0.size ≤ o0 := Nat.le_trans ((Keep.refl h0 [])).1 (Nat.le_of_eq g1.symm)
  have O1 := Old.ext OO E1
  have KK1 : Keep h0 h1 [] := Keep.ext (Keep.refl h0 []) E1
  have F4 : Fld Z h1 o0 "com/example/deferra/deferra/crediting/DailyAmounts" "days" "[I" .null := D1 (Or.inl (w_11 hw)) (ty := (.array .int)) (by decide)
  have F5 : Fld Z h1 o0 "com/example/deferra/deferra/crediting/DailyAmounts" "amounts" "[Ljava/math/BigDecimal;" .null := D1 (Or.inl (w_15 hw)) (ty := (.array (.object "java/math/BigDecimal"))) (by decide)
  have F6 : Fld Z h1 o0 "com/example/deferra/deferra/crediting/DailyAmounts" "size" "I" (.int 0) := D1 (Or.inl (w_22 hw)) (ty := .int) (by decide)
  obtain ⟨_, _, ⟨T7, L7, k7, n7⟩, -, X7, ⟨Lc7, hQ7, l7, y7, z7⟩, st7⟩ := X1.specialBack hx (y := (⟨"com/example/deferra/deferra/crediting/DailyAmounts", "<init>", "()V"⟩ : MethodName)) rfl hown (mvT hZ (w_3 hw)) (mvT hZ (w_4 hw)) (mvT hZ (w_5 hw)) (by decide) (backOf (W := 1) (rm1_0 l Z a0 hw [] a_ONE a_ZTT e_2 e_3 (0 : Int32) o0 h1 n0 FF O1 F4 A1 g2 F5 F6) hZ (w_5 hw) (w_2 hw) (by decide) (by decide)) (g := (mkF m 9 #[iv t0, iv t1, iv t2, iv t3, iv 0, .unset, .unset, .unset] [(.ref o0), (.ref o0)])) rfl (by rw [hml]; rfl) (Steps.refl _) (a := o0) (argsL := []) (rest := [(.ref o0)]) (lenOf pd_0 rfl) rfl (by show 2 * 0 + _ ≤ _; exact Nat.le_of_eq rfl) (hb hby at_9) (fun _ _ => ⟨rfl, e1, (by decide : 1 + 2 ≤ _), (by decide : 3 + 8 ≤ _)⟩)
  dsimp only [Pt.U, Pt.locs, Pt.cells, Pt.slots] at X7 l7 y7 z7 st7 hQ7
  subst l7 y7 z7
  obtain ⟨h7, e7⟩ : ∃ z, T7.heap = z := ⟨_, rfl⟩
  rw [e7] at hQ7
  obtain ⟨o1, o2, j0, j1, rfl, N7q, K7, sp7_o1, sp7_o2, ne7_o1_o2, R7_0, R7_1, R7_2, R7_3, R7_4, R7_5, R7_6, R7_7, R7_8⟩ := hQ7
  have N7 := Fr.app N0 N7q
  have g8 : n0 ≤ o1 := Nat.le_trans (own_le O1) sp7_o1
  have s9 : h0.size ≤ o1 := Nat.le_trans (KK1).1 sp7_o1
  have g10 : n0 ≤ o2 := Nat.le_trans (own_le O1) sp7_o2
  have s11 : h0.size ≤ o2 := Nat.le_trans (KK1).1 sp7_o2
  have O7 := Old.keep O1 K7 (allS g2 all0)
  have KK7 : Keep h0 h7 [] := Keep.trans KK1 K7 (allS (Or.inr s3) all0)
  obtain ⟨cq12, kq12, q12a, q12b, q12c⟩ := isOf hZ e7 R7_6
  obtain ⟨_, _, ⟨T12, L12, k12, n12⟩, -, X12, ⟨Lc12, hQ12, l12, y12, z12⟩, st12⟩ := X7.virtualBack hx (y := (⟨"com/example/deferra/deferra/crediting/DailyAmounts", "isEmpty", "()Z"⟩ : MethodName)) (z := (⟨"com/example/deferra/deferra/crediting/DailyAmounts", "isEmpty", "()Z"⟩ : MethodName)) hown (mvT hZ (w_16 hw)) (mvT hZ (w_17 hw)) (notFace_of_selects (args := #[]) (mvT hZ (w_19 hw))) (mvT hZ (w_19 hw)) (mvT hZ (w_18 hw)) (by decide) (backOf (W := 0) (rm3_0 l Z a0 hw [] a_ONE a_ZTT e_2 e_3 o0 h7 n0 FF O7 R7_8) hZ (w_20 hw) (w_2 hw) (by decide) (by decide)) q12a q12c (g := (mkF m 16 #[iv t0, iv t1, iv t2, iv t3, iv 0, rv o0, .unset, .unset] [(.ref o0)])) rfl (by rw [hml]; rfl) (Steps.refl _) (argsL := []) (rest := []) (lenOf pd_1 rfl) rfl (by show 2 * 0 + _ ≤ _; exact Nat.le_of_eq rfl) (hb hby at_16) (fun _ _ => ⟨rfl, e7, (by decide : 3 + 0 ≤ _), (by decide : 11 + 0 ≤ _)⟩)
  dsimp only [Pt.U, Pt.locs, Pt.cells, Pt.slots] at X12 l12 y12 z12 st12 hQ12
  subst l12 y12 z12
  obtain ⟨rfl, N12q, e12⟩ := hQ12
  have N12 := Fr.app N7 N12q
  obtain ⟨cq13, kq13, q13a, q13b, q13c⟩ := isOf hZ e12 R7_6
  obtain ⟨_, _, ⟨T13, L13, k13, n13⟩, -, X13, ⟨Lc13, hQ13, l13, y13, z13⟩, st13⟩ := X12.virtualBack hx (y := (⟨"com/example/deferra/deferra/crediting/DailyAmounts", "size", "()I"⟩ : MethodName)) (z := (⟨"com/example/deferra/deferra/crediting/DailyAmounts", "size", "()I"⟩ : MethodName)) hown (mvT hZ (w_23 hw)) (mvT hZ (w_24 hw)) (notFace_of_selects (args := #[]) (mvT hZ (w_26 hw))) (mvT hZ (w_26 hw)) (mvT hZ (w_25 hw)) (by decide) (backOf (W := 0) (rm4_0 l Z a0 hw [] a_ONE a_ZTT e_2 e_3 (0 : Int32) o0 h7 n0 FF O7 R7_8) hZ (w_27 hw) (w_2 hw) (by decide) (by decide)) q13a q13c (g := (mkF m 24 #[iv t0, iv t1, iv t2, iv t3, iv 0, rv o0, .unset, .unset] [(.ref o0)])) rfl (by rw [hml]; rfl) (Steps.refl _) (argsL := []) (rest := []) (lenOf pd_2 rfl) rfl (by show 2 * 0 + _ ≤ _; exact Nat.le_of_eq rfl) (hb hby at_24) (fun _ _ => ⟨rfl, e12, (by decide : 3 + 0 ≤ _), (by decide : 11 + 0 ≤ _)⟩)
  dsimp only [Pt.U, Pt.locs, Pt.cells, Pt.slots] at X13 l13 y13 z13 st13 hQ13
  subst l13 y13 z13
  obtain ⟨rfl, N13q, e13⟩ := hQ13
  have N13 := Fr.app N12 N13q
  have ne14 : o0 ≠ o1 := Nat.ne_of_lt (Nat.lt_of_lt_of_le (A1).lt sp7_o1)
  have ne15 : o0 ≠ o2 := Nat.ne_of_lt (Nat.lt_of_lt_of_le (A1).lt sp7_o2)
  refine ⟨T13, h7, _, o0, o1, o2, j0, j1, X13, e13, N13, KK7, s3, s9, s11, ne14, ne15, ne7_o1_o2, R7_6, R7_5, R7_7, R7_8, R7_0, R7_1, R7_2, R7_3, R7_4, fun target kt => ?_⟩
  show Steps p.tables e below (T0.setTop (mkF m 0 #[iv t0, iv t1, iv t2, iv t3, .unset, .unset, .unset, .unset] [])) _
  refine XS.iloadN X0.here hx rfl (hb hby at_0) rfl ?_
  refine XS.iconst X0.here hx rfl (hb hby at_1) ?_
  refine XS.iand X0.here hx rfl (hb hby at_2) rfl ?_
  show Steps p.tables e below (T0.setTop (mkF m 3 #[iv t0, iv t1, iv t2, iv t3, .unset, .unset, .unset, .unset] [(.int (t0 &&& (3 : Int32)))])) _
  rw [hk0]
  refine XS.istore X0.here hx rfl (hb hby at_3) rfl (l' := #[iv t0, iv t1, iv t2, iv t3, iv 0, .unset, .unset, .unset]) rfl ?_
  refine st1 _ ?_
  refine XS.dup X1.here hx rfl (hb hby at_8) rfl rfl ?_
  show Steps p.tables e below (T1.setTop (mkF m 9 #[iv t0, iv t1, iv t2, iv t3, iv 0, .unset, .unset, .unset] [(.ref o0), (.ref o0)])) _
  refine st7.trans ?_
  refine XS.astore X7.here hx rfl (hb hby at_12) rfl rfl (l' := #[iv t0, iv t1, iv t2, iv t3, iv 0, rv o0, .unset, .unset]) rfl ?_
  refine XS.aload X7.here hx rfl (hb hby at_14) rfl rfl ?_
  refine st12.trans ?_
  show Steps p.tables e below (T12.setTop (mkF m 19 #[iv t0, iv t1, iv t2, iv t3, iv 0, rv o0, .unset, .unset] [(.int 1)])) _
  refine XS.ifNo X12.here hx rfl (hb hby at_19) rfl (by decide) ?_
  refine XS.aload X12.here hx rfl (hb hby at_22) rfl rfl ?_
  refine st13.trans ?_
  show Steps p.tables e below (T13.setTop (mkF m 27 #[iv t0, iv t1, iv t2, iv t3, iv 0, rv o0, .unset, .unset] [(.int 0)])) _
  refine XS.ifNo X13.here hx rfl (hb hby at_27) rfl (by decide) ?_
  refine XS.iconst X13.here hx rfl (hb hby at_30) ?_
  refine XS.goto X13.here hx rfl (pc0 := 31) (pc' := 35) rfl (hb hby at_31) (by decide) (by decide) ?_
  refine XS.istore X13.here hx rfl (hb hby at_35) rfl (l' := #[iv t0, iv t1, iv t2, iv t3, iv 0, rv o0, iv 1, .unset]) rfl ?_
  exact kt
set_option maxRecDepth 65536 in
set_option maxHeartbeats 40000000 in
theorem sg_1 {p : Program} {l : Launch} {e : Env} {s : State} {m : MethodId} {args : Array Value} {below : List Frame} {meth : Method} {c : Code} {T0 : State} {locs : List Loc} {Z : State} {a0 : Array Value} {h0 : Heap} {n0 : Nat} (hw : ∀ d ∈ tables_1, d.before a0 Z = true) (a_ONE : Addr) (a_ZTT : Addr) (e_2 : Addr) (e_3 : Addr) (t0 : Int32) (t1 : Int32) (t2 : Int32) (t3 : Int32) (t4 : Int32) (o0 : Addr) (FF : Facts Z Z.heap a_ONE a_ZTT e_2 e_3)
    (X0 : Stand p l e room_1 s m args below meth c T0 locs 3 11) (hx : p.tables.exec = Jvm.exec) (hZ : Z.Warmed39 s.vm) (hby : c.code = code) (hml : c.maxLocals = 8) (hown : s.vm.findClass "com/example/deferra/deferra/crediting/DailyAmountsIsEmptyPinLaw" = some m.cls) (e0 : T0.heap = h0) (N0 : Fr n0 locs) (OO : Old Z n0 h0) :
    ∃ (T' : State) (h' : Heap) (lc : List Loc), Stand p l e room_1 s m args below meth c T' lc 3 11 ∧ T'.heap = h' ∧ Fr n0 lc ∧ Keep h0 h' [] ∧
      ∀ target, Steps p.tables e below (T'.setTop (mkF m 72 #[iv t0, iv t1, iv t2, iv t3, iv 0, rv o0, iv t4, .unset] [])) target → Steps p.tables e below (T0.setTop (mkF m 37 #[iv t0, iv t1, iv t2, iv t3, iv 0, rv o0, iv t4, .unset] [])) target := by
  refine ⟨T0, h0, _, X0, e0, N0, (Keep.refl h0 []), fun target kt => ?_⟩
  show Steps p.tables e below (T0.setTop (mkF m 37 #[iv t0, iv t1, iv t2, iv t3, iv 0, rv o0, iv t4, .unset] [])) _
  refine XS.iload X0.here hx rfl (hb hby at_37) rfl ?_
  refine XS.iconst X0.here hx rfl (hb hby at_39) ?_
  refine XS.icmpYes X0.here hx rfl (pc0 := 40) (pc' := 72) rfl (hb hby at_40) rfl (by decide) (by decide) (by decide) ?_
  exact kt
set_option maxRecDepth 65536 in
set_option maxHeartbeats 40000000 in
theorem sg_2 {p : Program} {l : Launch} {e : Env} {s : State} {m : MethodId} {args : Array Value} {below : List Frame} {meth : Method} {c : Code} {T0 : State} {locs : List Loc} {Z : State} {a0 : Array Value} {h0 : Heap} {n0 : Nat} (hw : ∀ d ∈ tables_1, d.before a0 Z = true) (a_ONE : Addr) (a_ZTT : Addr) (e_2 : Addr) (e_3 : Addr) (t0 : Int32) (t1 : Int32) (t2 : Int32) (t3 : Int32) (t4 : Int32) (o0 : Addr) (FF : Facts Z Z.heap a_ONE a_ZTT e_2 e_3)
    (X0 : Stand p l e room_1 s m args below meth c T0 locs 3 11) (hx : p.tables.exec = Jvm.exec) (hZ : Z.Warmed39 s.vm) (hby : c.code = code) (hml : c.maxLocals = 8) (hown : s.vm.findClass "com/example/deferra/deferra/crediting/DailyAmountsIsEmptyPinLaw" = some m.cls) (e0 : T0.heap = h0) (N0 : Fr n0 locs) (OO : Old Z n0 h0) :
    ∃ (T' : State) (h' : Heap) (lc : List Loc), Stand p l e room_1 s m args below meth c T' lc 3 11 ∧ T'.heap = h' ∧ Fr n0 lc ∧ Keep h0 h' [] ∧
      ∀ target, Steps p.tables e below (T'.setTop (mkF m 107 #[iv t0, iv t1, iv t2, iv t3, iv 0, rv o0, iv t4, .unset] [])) target → Steps p.tables e below (T0.setTop (mkF m 72 #[iv t0, iv t1, iv t2, iv t3, iv 0, rv o0, iv t4, .unset] [])) target := by
  refine ⟨T0, h0, _, X0, e0, N0, (Keep.refl h0 []), fun target kt => ?_⟩
  show Steps p.tables e below (T0.setTop (mkF m 72 #[iv t0, iv t1, iv t2, iv t3, iv 0, rv o0, iv t4, .unset] [])) _
  refine XS.iload X0.here hx rfl (hb hby at_72) rfl ?_
  refine XS.iconst X0.here hx rfl (hb hby at_74) ?_
  refine XS.icmpYes X0.here hx rfl (pc0 := 75) (pc' := 107) rfl (hb hby at_75) rfl (by decide) (by decide) (by decide) ?_
  exact kt
set_option maxRecDepth 65536 in
set_option maxHeartbeats 40000000 in
theorem sg_3 {p : Program} {l : Launch} {e : Env} {s : State} {m : MethodId} {args : Array Value} {below : List Frame} {meth : Method} {c : Code} {T0 : State} {locs : List Loc} {Z : State} {a0 : Array Value} {h0 : Heap} {n0 : Nat} (hw : ∀ d ∈ tables_1, d.before a0 Z = true) (a_ONE : Addr) (a_ZTT : Addr) (e_2 : Addr) (e_3 : Addr) (t0 : Int32) (t1 : Int32) (t2 : Int32) (t3 : Int32) (t4 : Int32) (o0 : Addr) (FF : Facts Z Z.heap a_ONE a_ZTT e_2 e_3)
    (X0 : Stand p l e room_1 s m args below meth c T0 locs 3 11) (hx : p.tables.exec = Jvm.exec) (hZ : Z.Warmed39 s.vm) (hby : c.code = code) (hml : c.maxLocals = 8) (hown : s.vm.findClass "com/example/deferra/deferra/crediting/DailyAmountsIsEmptyPinLaw" = some m.cls) (e0 : T0.heap = h0) (N0 : Fr n0 locs) (OO : Old Z n0 h0) :
    ∃ (T' : State) (h' : Heap) (lc : List Loc), Stand p l e room_1 s m args below meth c T' lc 3 11 ∧ T'.heap = h' ∧ Fr n0 lc ∧ Keep h0 h' [] ∧
      ∀ target, Steps p.tables e below (T'.setTop (mkF m 142 #[iv t0, iv t1, iv t2, iv t3, iv 0, rv o0, iv t4, .unset] [])) target → Steps p.tables e below (T0.setTop (mkF m 107 #[iv t0, iv t1, iv t2, iv t3, iv 0, rv o0, iv t4, .unset] [])) target := by
  refine ⟨T0, h0, _, X0, e0, N0, (Keep.refl h0 []), fun target kt => ?_⟩
  show Steps p.tables e below (T0.setTop (mkF m 107 #[iv t0, iv t1, iv t2, iv t3, iv 0, rv o0, iv t4, .unset] [])) _
  refine XS.iload X0.here hx rfl (hb hby at_107) rfl ?_
  refine XS.iconst X0.here hx rfl (hb hby at_109) ?_
  refine XS.icmpYes X0.here hx rfl (pc0 := 110) (pc' := 142) rfl (hb hby at_110) rfl (by decide) (by decide) (by decide) ?_
  exact kt
set_option maxRecDepth 65536 in
set_option maxHeartbeats 40000000 in
theorem sg_4 {p : Program} {l : Launch} {e : Env} {s : State} {m : MethodId} {args : Array Value} {below : List Frame} {meth : Method} {c : Code} {T0 : State} {locs : List Loc} {Z : State} {a0 : Array Value} {h0 : Heap} {n0 : Nat} (hw : ∀ d ∈ tables_1, d.before a0 Z = true) (a_ONE : Addr) (a_ZTT : Addr) (e_2 : Addr) (e_3 : Addr) (t0 : Int32) (t1 : Int32) (t2 : Int32) (t3 : Int32) (o0 : Addr) (FF : Facts Z Z.heap a_ONE a_ZTT e_2 e_3)
    (X0 : Stand p l e room_1 s m args below meth c T0 locs 3 11) (hx : p.tables.exec = Jvm.exec) (hZ : Z.Warmed39 s.vm) (hby : c.code = code) (hml : c.maxLocals = 8) (hown : s.vm.findClass "com/example/deferra/deferra/crediting/DailyAmountsIsEmptyPinLaw" = some m.cls) (e0 : T0.heap = h0) (N0 : Fr n0 locs) (OO : Old Z n0 h0) (f0 : Fld Z h0 o0 "com/example/deferra/deferra/crediting/DailyAmounts" "size" "I" (.int 0)) (f1 : Exa Z h0 o0 "com/example/deferra/deferra/crediting/DailyAmounts") :
    ∃ (T' : State) (h' : Heap) (lc : List Loc), Stand p l e room_1 s m args below meth c T' lc 3 11 ∧ T'.heap = h' ∧ Fr n0 lc ∧ Keep h0 h' [] ∧
      ∀ target, Steps p.tables e below (T'.setTop (mkF m 192 #[iv t0, iv t1, iv t2, iv t3, iv 0, rv o0, iv 1, iv 1] [(.int 1)])) target → Steps p.tables e below (T0.setTop (mkF m 142 #[iv t0, iv t1, iv t2, iv t3, iv 0, rv o0, iv 1, .unset] [])) target := by
  obtain ⟨cq1, kq1, q1a, q1b, q1c⟩ := isOf hZ e0 f1
  obtain ⟨_, _, ⟨T1, L1, k1, n1⟩, -, X1, ⟨Lc1, hQ1, l1, y1, z1⟩, st1⟩ := X0.virtualBack hx (y := (⟨"com/example/deferra/deferra/crediting/DailyAmounts", "isEmpty", "()Z"⟩ : MethodName)) (z := (⟨"com/example/deferra/deferra/crediting/DailyAmounts", "isEmpty", "()Z"⟩ : MethodName)) hown (mvT hZ (w_16 hw)) (mvT hZ (w_17 hw)) (notFace_of_selects (args := #[]) (mvT hZ (w_19 hw))) (mvT hZ (w_19 hw)) (mvT hZ (w_18 hw)) (by decide) (backOf (W := 0) (rm3_0 l Z a0 hw [] a_ONE a_ZTT e_2 e_3 o0 h0 n0 FF OO f0) hZ (w_20 hw) (w_2 hw) (by decide) (by decide)) q1a q1c (g := (mkF m 144 #[iv t0, iv t1, iv t2, iv t3, iv 0, rv o0, iv 1, .unset] [(.ref o0)])) rfl (by rw [hml]; rfl) (Steps.refl _) (argsL := []) (rest := []) (lenOf pd_1 rfl) rfl (by show 2 * 0 + _ ≤ _; exact Nat.le_of_eq rfl) (hb hby at_144) (fun _ _ => ⟨rfl, e0, (by decide : 3 + 0 ≤ _), (by decide : 11 + 0 ≤ _)⟩)
  dsimp only [Pt.U, Pt.locs, Pt.cells, Pt.slots] at X1 l1 y1 z1 st1 hQ1
  subst l1 y1 z1
  obtain ⟨rfl, N1q, e1⟩ := hQ1
  have N1 := Fr.app N0 N1q
  obtain ⟨cq2, kq2, q2a, q2b, q2c⟩ := isOf hZ e1 f1
  obtain ⟨_, _, ⟨T2, L2, k2, n2⟩, -, X2, ⟨Lc2, hQ2, l2, y2, z2⟩, st2⟩ := X1.virtualBack hx (y := (⟨"com/example/deferra/deferra/crediting/DailyAmounts", "size", "()I"⟩ : MethodName)) (z := (⟨"com/example/deferra/deferra/crediting/DailyAmounts", "size", "()I"⟩ : MethodName)) hown (mvT hZ (w_23 hw)) (mvT hZ (w_24 hw)) (notFace_of_selects (args := #[]) (mvT hZ (w_26 hw))) (mvT hZ (w_26 hw)) (mvT hZ (w_25 hw)) (by decide) (backOf (W := 1) (rm4_0 l Z a0 hw [] a_ONE a_ZTT e_2 e_3 (0 : Int32) o0 h0 n0 FF OO f0) hZ (w_27 hw) (w_2 hw) (by decide) (by decide)) q2a q2c (g := (mkF m 158 #[iv t0, iv t1, iv t2, iv t3, iv 0, rv o0, iv 1, iv 1] [(.ref o0), (.int 1)])) rfl (by rw [hml]; rfl) (Steps.refl _) (argsL := []) (rest := [(.int 1)]) (lenOf pd_2 rfl) rfl (by show 2 * 0 + _ ≤ _; exact Nat.le_of_eq rfl) (hb hby at_158) (fun _ _ => ⟨rfl, e1, (by decide : 3 + 0 ≤ _), (by decide : 11 + 0 ≤ _)⟩)
  dsimp only [Pt.U, Pt.locs, Pt.cells, Pt.slots] at X2 l2 y2 z2 st2 hQ2
  subst l2 y2 z2
  obtain ⟨rfl, N2q, e2⟩ := hQ2
  have N2 := Fr.app N1 N2q
  refine ⟨T2, h0, _, X2, e2, N2, (Keep.refl h0 []), fun target kt => ?_⟩
  show Steps p.tables e below (T0.setTop (mkF m 142 #[iv t0, iv t1, iv t2, iv t3, iv 0, rv o0, iv 1, .unset] [])) _
  refine XS.aload X0.here hx rfl (hb hby at_142) rfl rfl ?_
  refine st1.trans ?_
  refine XS.istore X1.here hx rfl (hb hby at_147) rfl (l' := #[iv t0, iv t1, iv t2, iv t3, iv 0, rv o0, iv 1, iv 1]) rfl ?_
  refine XS.iload X1.here hx rfl (hb hby at_149) rfl ?_
  show Steps p.tables e below (T1.setTop (mkF m 151 #[iv t0, iv t1, iv t2, iv t3, iv 0, rv o0, iv 1, iv 1] [(.int 1)])) _
  refine XS.ifNo X1.here hx rfl (hb hby at_151) rfl (by decide) ?_
  refine XS.iload X1.here hx rfl (hb hby at_154) rfl ?_
  refine XS.aload X1.here hx rfl (hb hby at_156) rfl rfl ?_
  refine st2.trans ?_
  show Steps p.tables e below (T2.setTop (mkF m 161 #[iv t0, iv t1, iv t2, iv t3, iv 0, rv o0, iv 1, iv 1] [(.int 0), (.int 1)])) _
  refine XS.ifNo X2.here hx rfl (hb hby at_161) rfl (by decide) ?_
  refine XS.iconst X2.here hx rfl (hb hby at_164) ?_
  refine XS.goto X2.here hx rfl (pc0 := 165) (pc' := 169) rfl (hb hby at_165) (by decide) (by decide) ?_
  refine XS.icmpNo X2.here hx rfl (hb hby at_169) rfl (by decide) ?_
  show Steps p.tables e below (T2.setTop (mkF m 172 #[iv t0, iv t1, iv t2, iv t3, iv 0, rv o0, iv 1, iv 1] [])) _
  refine XS.iload X2.here hx rfl (hb hby at_172) rfl ?_
  refine XS.iload X2.here hx rfl (hb hby at_174) rfl ?_
  refine XS.ifNo X2.here hx rfl (hb hby at_176) rfl (by decide) ?_
  refine XS.iconst X2.here hx rfl (hb hby at_179) ?_
  show Steps p.tables e below (T2.setTop (mkF m 180 #[iv t0, iv t1, iv t2, iv t3, iv 0, rv o0, iv 1, iv 1] [(.int 1), (.int 1)])) _
  refine XS.goto X2.here hx rfl (pc0 := 180) (pc' := 184) rfl (hb hby at_180) (by decide) (by decide) ?_
  refine XS.icmpNo X2.here hx rfl (hb hby at_184) rfl (by decide) ?_
  refine XS.iconst X2.here hx rfl (hb hby at_187) ?_
  refine XS.goto X2.here hx rfl (pc0 := 188) (pc' := 192) rfl (hb hby at_188) (by decide) (by decide) ?_
  exact kt
set_option maxRecDepth 65536 in
set_option maxHeartbeats 40000000 in
theorem rm0_0 (l : Launch) (Z : State) (a0 : Array Value) (hw : ∀ d ∈ tables_1, d.before a0 Z = true) (ws : List Jvm.Cond) (a_ONE : Addr) (a_ZTT : Addr) (e_2 : Addr) (e_3 : Addr) (p0 : Int32) (p1 : Int32) (p2 : Int32) (p3 : Int32) (h0 : Heap) (n0 : Nat) (FF : Facts Z Z.heap a_ONE a_ZTT e_2 e_3) (OO : Old Z n0 h0) (hk0 : (p0 &&& (3 : Int32)) = (0 : Int32)) :
    MetFree l x (head1 (Jvm.Cond.code x code maxLocals ret :: ws) room_1) (fun a U => a = #[(.int p0), (.int p1), (.int p2), (.int p3)] ∧ Z.Warmed39 U.vm ∧ U.heap = h0) (fun _ _ _ _ _ => True) (fun _ U o U' => ∃ v L, o = .returned v ∧ (v = some (.int (1 : Int32)) ∧ Fr n0 L) ∧ FrameEnd U o U' L room_1.cells room_1.slots) := by
  refine MetFree.of_bodySF (plainFor_of_name pn_0) hisR ?_
  intro p e s m args below meth c s₁ Bd hml0 hP hK
  obtain ⟨rfl, hZ, hh⟩ := hP
  have hx := Bd.exec
  have hby := Bd.bytes
  have hml : c.maxLocals = 8 := hml0
  have hown : s.vm.findClass "com/example/deferra/deferra/crediting/DailyAmountsIsEmptyPinLaw" = some m.cls := findClass_of_methodNamed Bd.named
  have X0 : Stand p l e room_1 s m #[(.int p0), (.int p1), (.int p2), (.int p3)] below meth c s₁ [] 0 0 := Stand.of_body Bd
  have e0 : s₁.heap = h0 := by rw [← hh, Bd.state]; rfl
  have N0 := Fr.nil n0
  have pre0 : ∀ t, Steps p.tables e below (s₁.setTop (mkF m 0 #[iv p0, iv p1, iv p2, iv p3, .unset, .unset, .unset, .unset] [])) t → Steps p.tables e below (s₁.setTop (entryFrame m #[(.int p0), (.int p1), (.int p2), (.int p3)] maxLocals)) t := fun t k => castTop (ef_0 m p0 p1 p2 p3) k
  obtain ⟨T1, h1, lc1, b1, b2, b3, kb2, kb3, X1, e1, N1, K1, sp1_b1, sp1_b2, sp1_b3, ne1_b1_b2, ne1_b1_b3, ne1_b2_b3, R1_0, R1_1, R1_2, R1_3, R1_4, R1_5, R1_6, R1_7, R1_8, st1⟩ := sg_0 hw a_ONE a_ZTT e_2 e_3 p0 p1 p2 p3 FF X0 hx hZ hby hml hown e0 N0 OO hk0
  have g2 : n0 ≤ b1 := Nat.le_trans (own_le OO) sp1_b1
  have g3 : n0 ≤ b2 := Nat.le_trans (own_le OO) sp1_b2
  have g4 : n0 ≤ b3 := Nat.le_trans (own_le OO) sp1_b3
  have O1 := Old.keep OO K1 all0
  obtain ⟨T5, h5, lc5, X5, e5, N5, K5, st5⟩ := sg_1 hw a_ONE a_ZTT e_2 e_3 p0 p1 p2 p3 (1 : Int32) b1 FF X1 hx hZ hby hml hown e1 N1 O1
  have O5 := Old.keep O1 K5 all0
  obtain ⟨T6, h6, lc6, X6, e6, N6, K6, st6⟩ := sg_2 hw a_ONE a_ZTT e_2 e_3 p0 p1 p2 p3 (1 : Int32) b1 FF X5 hx hZ hby hml hown e5 N5 O5
  have O6 := Old.keep O5 K6 all0
  obtain ⟨T7, h7, lc7, X7, e7, N7, K7, st7⟩ := sg_3 hw a_ONE a_ZTT e_2 e_3 p0 p1 p2 p3 (1 : Int32) b1 FF X6 hx hZ hby hml hown e6 N6 O6
  have O7 := Old.keep O6 K7 all0
  have F9 : Fld Z h7 b1 "com/example/deferra/deferra/crediting/DailyAmounts" "size" "I" (.int 0) := (Fld.keep (Fld.keep (Fld.keep R1_3 K5 nin0) K6 nin0) K7 nin0)
  have F10 : Exa Z h7 b1 "com/example/deferra/deferra/crediting/DailyAmounts" := (Exa.keep (Exa.keep (Exa.keep R1_0 K5) K6) K7)
  obtain ⟨T8, h8, lc8, X8, e8, N8, K8, st8⟩ := sg_4 hw a_ONE a_ZTT e_2 e_3 p0 p1 p2 p3 b1 FF X7 hx hZ hby hml hown e7 N7 O7 F9 F10
  have O8 := Old.keep O7 K8 all0
  obtain ⟨fs, hr, hrun, hended, hW, hsame⟩ := X8.leave (v := some (.int 1)) (fun h => by rw [Bd.returns] at h; cases h)
  refine ⟨_, _, pre0 _ ?_, hrun, hended, _, _, rfl, ?_, ⟨_, rfl⟩, hW, hsame.mono (by decide) (by decide)⟩
  · show Steps p.tables e below (s₁.setTop (mkF m 0 #[iv p0, iv p1, iv p2, iv p3, .unset, .unset, .unset, .unset] [])) _
    refine st1 _ ?_
    show Steps p.tables e below (T1.setTop (mkF m 37 #[iv p0, iv p1, iv p2, iv p3, iv 0, rv b1, iv 1, .unset] [])) _
    refine st5 _ ?_
    show Steps p.tables e below (T5.setTop (mkF m 72 #[iv p0, iv p1, iv p2, iv p3, iv 0, rv b1, iv 1, .unset] [])) _
    refine st6 _ ?_
    show Steps p.tables e below (T6.setTop (mkF m 107 #[iv p0, iv p1, iv p2, iv p3, iv 0, rv b1, iv 1, .unset] [])) _
    refine st7 _ ?_
    show Steps p.tables e below (T7.setTop (mkF m 142 #[iv p0, iv p1, iv p2, iv p3, iv 0, rv b1, iv 1, .unset] [])) _
    refine st8 _ ?_
    exact retN X8 hx (t := .boolean) Bd.returns (by simp) (hb hby at_192) hr
  · exact ⟨rfl, N8⟩
set_option maxRecDepth 65536 in
set_option maxHeartbeats 40000000 in
theorem sg_5 {p : Program} {l : Launch} {e : Env} {s : State} {m : MethodId} {args : Array Value} {below : List Frame} {meth : Method} {c : Code} {T0 : State} {locs : List Loc} {Z : State} {a0 : Array Value} {h0 : Heap} {n0 : Nat} (hw : ∀ d ∈ tables_1, d.before a0 Z = true) (a_ONE : Addr) (a_ZTT : Addr) (e_2 : Addr) (e_3 : Addr) (t0 : Int32) (t1 : Int32) (t2 : Int32) (t3 : Int32) (FF : Facts Z Z.heap a_ONE a_ZTT e_2 e_3)
    (X0 : Stand p l e room_1 s m args below meth c T0 locs 0 0) (hx : p.tables.exec = Jvm.exec) (hZ : Z.Warmed39 s.vm) (hby : c.code = code) (hml : c.maxLocals = 8) (hown : s.vm.findClass "com/example/deferra/deferra/crediting/DailyAmountsIsEmptyPinLaw" = some m.cls) (e0 : T0.heap = h0) (N0 : Fr n0 locs) (OO : Old Z n0 h0) (hk0 : (t0 &&& (3 : Int32)) = (1 : Int32)) :
    ∃ (T' : State) (h' : Heap) (lc : List Loc) (o0 o1 o2 : Addr) (j0 j1 : ClassId), Stand p l e room_1 s m args below meth c T' lc 3 11 ∧ T'.heap = h' ∧ Fr n0 lc ∧ Keep h0 h' [] ∧ h0.size ≤ o0 ∧ h0.size ≤ o1 ∧ h0.size ≤ o2 ∧ o0 ≠ o1 ∧ o0 ≠ o2 ∧ o1 ≠ o2 ∧ Exa Z h' o0 "com/example/deferra/deferra/crediting/DailyAmounts" ∧ Fld Z h' o0 "com/example/deferra/deferra/crediting/DailyAmounts" "days" "[I" (.ref o1) ∧ Fld Z h' o0 "com/example/deferra/deferra/crediting/DailyAmounts" "amounts" "[Ljava/math/BigDecimal;" (.ref o2) ∧ Fld Z h' o0 "com/example/deferra/deferra/crediting/DailyAmounts" "size" "I" (.int 0) ∧ Exa Z h' o1 "[I" ∧ Arv Z h' o1 j0 .int (4 : Int32) [(.int 0), (.int 0), (.int 0), (.int 0)] (.int 0) ∧ Exa Z h' o2 "[Ljava/math/BigDecimal;" ∧ Arv Z h' o2 j1 (.object "java/math/BigDecimal") (4 : Int32) [.null, .null, .null, .null] .null ∧ Ovr Z j1 "java/math/BigDecimal" ∧
      ∀ target, Steps p.tables e below (T'.setTop (mkF m 37 #[iv t0, iv t1, iv t2, iv t3, iv 1, rv o0, iv 1, .unset] [])) target → Steps p.tables e below (T0.setTop (mkF m 0 #[iv t0, iv t1, iv t2, iv t3, .unset, .unset, .unset, .unset] [])) target := by
  obtain ⟨T1, h1, X1, e1, E1, A1, D1, -, st1⟩ := newO X0 hx hZ hown (w_0 hw) (w_1 hw) (w_2 hw) e0 (g := (mkF m 5 #[iv t0, iv t1, iv t2, iv t3, iv 1, .unset, .unset, .unset] [])) rfl (hb hby at_5) (by decide) (by decide)
  obtain ⟨o0, g1⟩ : ∃ z, z = h0.size := ⟨_, rfl⟩
  rw [← g1] at A1 D1 st1
  have g2 : n0 ≤ o0 := Nat.le_trans (own_le OO) (Nat.le_of_eq g1.symm)
  have s3 : h0.size ≤ o0 := Nat.le_trans ((Keep.refl h0 [])).1 (Nat.le_of_eq g1.symm)
  have O1 := Old.ext OO E1
  have KK1 : Keep h0 h1 [] := Keep.ext (Keep.refl h0 []) E1
  have F4 : Fld Z h1 o0 "com/example/deferra/deferra/crediting/DailyAmounts" "days" "[I" .null := D1 (Or.inl (w_11 hw)) (ty := (.array .int)) (by decide)
  have F5 : Fld Z h1 o0 "com/example/deferra/deferra/crediting/DailyAmounts" "amounts" "[Ljava/math/BigDecimal;" .null := D1 (Or.inl (w_15 hw)) (ty := (.array (.object "java/math/BigDecimal"))) (by decide)
  have F6 : Fld Z h1 o0 "com/example/deferra/deferra/crediting/DailyAmounts" "size" "I" (.int 0) := D1 (Or.inl (w_22 hw)) (ty := .int) (by decide)
  obtain ⟨_, _, ⟨T7, L7, k7, n7⟩, -, X7, ⟨Lc7, hQ7, l7, y7, z7⟩, st7⟩ := X1.specialBack hx (y := (⟨"com/example/deferra/deferra/crediting/DailyAmounts", "<init>", "()V"⟩ : MethodName)) rfl hown (mvT hZ (w_3 hw)) (mvT hZ (w_4 hw)) (mvT hZ (w_5 hw)) (by decide) (backOf (W := 1) (rm1_0 l Z a0 hw [] a_ONE a_ZTT e_2 e_3 (0 : Int32) o0 h1 n0 FF O1 F4 A1 g2 F5 F6) hZ (w_5 hw) (w_2 hw) (by decide) (by decide)) (g := (mkF m 9 #[iv t0, iv t1, iv t2, iv t3, iv 1, .unset, .unset, .unset] [(.ref o0), (.ref o0)])) rfl (by rw [hml]; rfl) (Steps.refl _) (a := o0) (argsL := []) (rest := [(.ref o0)]) (lenOf pd_0 rfl) rfl (by show 2 * 0 + _ ≤ _; exact Nat.le_of_eq rfl) (hb hby at_9) (fun _ _ => ⟨rfl, e1, (by decide : 1 + 2 ≤ _), (by decide : 3 + 8 ≤ _)⟩)
  dsimp only [Pt.U, Pt.locs, Pt.cells, Pt.slots] at X7 l7 y7 z7 st7 hQ7
  subst l7 y7 z7
  obtain ⟨h7, e7⟩ : ∃ z, T7.heap = z := ⟨_, rfl⟩
  rw [e7] at hQ7
  obtain ⟨o1, o2, j0, j1, rfl, N7q, K7, sp7_o1, sp7_o2, ne7_o1_o2, R7_0, R7_1, R7_2, R7_3, R7_4, R7_5, R7_6, R7_7, R7_8⟩ := hQ7
  have N7 := Fr.app N0 N7q
  have g8 : n0 ≤ o1 := Nat.le_trans (own_le O1) sp7_o1
  have s9 : h0.size ≤ o1 := Nat.le_trans (KK1).1 sp7_o1
  have g10 : n0 ≤ o2 := Nat.le_trans (own_le O1) sp7_o2
  have s11 : h0.size ≤ o2 := Nat.le_trans (KK1).1 sp7_o2
  have O7 := Old.keep O1 K7 (allS g2 all0)
  have KK7 : Keep h0 h7 [] := Keep.trans KK1 K7 (allS (Or.inr s3) all0)
  obtain ⟨cq12, kq12, q12a, q12b, q12c⟩ := isOf hZ e7 R7_6
  obtain ⟨_, _, ⟨T12, L12, k12, n12⟩, -, X12, ⟨Lc12, hQ12, l12, y12, z12⟩, st12⟩ := X7.virtualBack hx (y := (⟨"com/example/deferra/deferra/crediting/DailyAmounts", "isEmpty", "()Z"⟩ : MethodName)) (z := (⟨"com/example/deferra/deferra/crediting/DailyAmounts", "isEmpty", "()Z"⟩ : MethodName)) hown (mvT hZ (w_16 hw)) (mvT hZ (w_17 hw)) (notFace_of_selects (args := #[]) (mvT hZ (w_19 hw))) (mvT hZ (w_19 hw)) (mvT hZ (w_18 hw)) (by decide) (backOf (W := 0) (rm3_0 l Z a0 hw [] a_ONE a_ZTT e_2 e_3 o0 h7 n0 FF O7 R7_8) hZ (w_20 hw) (w_2 hw) (by decide) (by decide)) q12a q12c (g := (mkF m 16 #[iv t0, iv t1, iv t2, iv t3, iv 1, rv o0, .unset, .unset] [(.ref o0)])) rfl (by rw [hml]; rfl) (Steps.refl _) (argsL := []) (rest := []) (lenOf pd_1 rfl) rfl (by show 2 * 0 + _ ≤ _; exact Nat.le_of_eq rfl) (hb hby at_16) (fun _ _ => ⟨rfl, e7, (by decide : 3 + 0 ≤ _), (by decide : 11 + 0 ≤ _)⟩)
  dsimp only [Pt.U, Pt.locs, Pt.cells, Pt.slots] at X12 l12 y12 z12 st12 hQ12
  subst l12 y12 z12
  obtain ⟨rfl, N12q, e12⟩ := hQ12
  have N12 := Fr.app N7 N12q
  obtain ⟨cq13, kq13, q13a, q13b, q13c⟩ := isOf hZ e12 R7_6
  obtain ⟨_, _, ⟨T13, L13, k13, n13⟩, -, X13, ⟨Lc13, hQ13, l13, y13, z13⟩, st13⟩ := X12.virtualBack hx (y := (⟨"com/example/deferra/deferra/crediting/DailyAmounts", "size", "()I"⟩ : MethodName)) (z := (⟨"com/example/deferra/deferra/crediting/DailyAmounts", "size", "()I"⟩ : MethodName)) hown (mvT hZ (w_23 hw)) (mvT hZ (w_24 hw)) (notFace_of_selects (args := #[]) (mvT hZ (w_26 hw))) (mvT hZ (w_26 hw)) (mvT hZ (w_25 hw)) (by decide) (backOf (W := 0) (rm4_0 l Z a0 hw [] a_ONE a_ZTT e_2 e_3 (0 : Int32) o0 h7 n0 FF O7 R7_8) hZ (w_27 hw) (w_2 hw) (by decide) (by decide)) q13a q13c (g := (mkF m 24 #[iv t0, iv t1, iv t2, iv t3, iv 1, rv o0, .unset, .unset] [(.ref o0)])) rfl (by rw [hml]; rfl) (Steps.refl _) (argsL := []) (rest := []) (lenOf pd_2 rfl) rfl (by show 2 * 0 + _ ≤ _; exact Nat.le_of_eq rfl) (hb hby at_24) (fun _ _ => ⟨rfl, e12, (by decide : 3 + 0 ≤ _), (by decide : 11 + 0 ≤ _)⟩)
  dsimp only [Pt.U, Pt.locs, Pt.cells, Pt.slots] at X13 l13 y13 z13 st13 hQ13
  subst l13 y13 z13
  obtain ⟨rfl, N13q, e13⟩ := hQ13
  have N13 := Fr.app N12 N13q
  have ne14 : o0 ≠ o1 := Nat.ne_of_lt (Nat.lt_of_lt_of_le (A1).lt sp7_o1)
  have ne15 : o0 ≠ o2 := Nat.ne_of_lt (Nat.lt_of_lt_of_le (A1).lt sp7_o2)
  refine ⟨T13, h7, _, o0, o1, o2, j0, j1, X13, e13, N13, KK7, s3, s9, s11, ne14, ne15, ne7_o1_o2, R7_6, R7_5, R7_7, R7_8, R7_0, R7_1, R7_2, R7_3, R7_4, fun target kt => ?_⟩
  show Steps p.tables e below (T0.setTop (mkF m 0 #[iv t0, iv t1, iv t2, iv t3, .unset, .unset, .unset, .unset] [])) _
  refine XS.iloadN X0.here hx rfl (hb hby at_0) rfl ?_
  refine XS.iconst X0.here hx rfl (hb hby at_1) ?_
  refine XS.iand X0.here hx rfl (hb hby at_2) rfl ?_
  show Steps p.tables e below (T0.setTop (mkF m 3 #[iv t0, iv t1, iv t2, iv t3, .unset, .unset, .unset, .unset] [(.int (t0 &&& (3 : Int32)))])) _
  rw [hk0]
  refine XS.istore X0.here hx rfl (hb hby at_3) rfl (l' := #[iv t0, iv t1, iv t2, iv t3, iv 1, .unset, .unset, .unset]) rfl ?_
  refine st1 _ ?_
  refine XS.dup X1.here hx rfl (hb hby at_8) rfl rfl ?_
  show Steps p.tables e below (T1.setTop (mkF m 9 #[iv t0, iv t1, iv t2, iv t3, iv 1, .unset, .unset, .unset] [(.ref o0), (.ref o0)])) _
  refine st7.trans ?_
  refine XS.astore X7.here hx rfl (hb hby at_12) rfl rfl (l' := #[iv t0, iv t1, iv t2, iv t3, iv 1, rv o0, .unset, .unset]) rfl ?_
  refine XS.aload X7.here hx rfl (hb hby at_14) rfl rfl ?_
  refine st12.trans ?_
  show Steps p.tables e below (T12.setTop (mkF m 19 #[iv t0, iv t1, iv t2, iv t3, iv 1, rv o0, .unset, .unset] [(.int 1)])) _
  refine XS.ifNo X12.here hx rfl (hb hby at_19) rfl (by decide) ?_
  refine XS.aload X12.here hx rfl (hb hby at_22) rfl rfl ?_
  refine st13.trans ?_
  show Steps p.tables e below (T13.setTop (mkF m 27 #[iv t0, iv t1, iv t2, iv t3, iv 1, rv o0, .unset, .unset] [(.int 0)])) _
  refine XS.ifNo X13.here hx rfl (hb hby at_27) rfl (by decide) ?_
  refine XS.iconst X13.here hx rfl (hb hby at_30) ?_
  refine XS.goto X13.here hx rfl (pc0 := 31) (pc' := 35) rfl (hb hby at_31) (by decide) (by decide) ?_
  refine XS.istore X13.here hx rfl (hb hby at_35) rfl (l' := #[iv t0, iv t1, iv t2, iv t3, iv 1, rv o0, iv 1, .unset]) rfl ?_
  exact kt
def Q7_0 (Z : State) (a_ONE : Addr) (a_ZTT : Addr) (e_2 : Addr) (e_3 : Addr) (h0 : Heap) (n0 : Nat) (v : Option Value) (h : Heap) (L : List Loc) : Prop := v = none ∧ Fr n0 L ∧ h = h0
set_option maxRecDepth 65536 in
set_option maxHeartbeats 40000000 in
theorem rm7_0 (l : Launch) (Z : State) (a0 : Array Value) (hw : ∀ d ∈ tables_1, d.before a0 Z = true) (ws : List Jvm.Cond) (a_ONE : Addr) (a_ZTT : Addr) (e_2 : Addr) (e_3 : Addr) (h0 : Heap) (n0 : Nat) (FF : Facts Z Z.heap a_ONE a_ZTT e_2 e_3) (OO : Old Z n0 h0) :
    MetFree l (⟨"java/util/Arrays", "rangeCheck", "(III)V"⟩ : MethodName) (head1 (Jvm.Cond.code (⟨"java/util/Arrays", "rangeCheck", "(III)V"⟩ : MethodName) jdk_65_method_30_code 3 none :: ws) ({ frames := 0, cells := 0, slots := 0, locals := 0 } : Room)) (fun a U => a = #[(.int 4), (.int 0), (.int 0)] ∧ Z.Warmed39 U.vm ∧ U.heap = h0) (fun _ _ _ _ _ => True) (fun _ U o U' => ∃ v L, o = .returned v ∧ Q7_0 Z a_ONE a_ZTT e_2 e_3 h0 n0 v U'.heap L ∧ FrameEnd U o U' L ({ frames := 0, cells := 0, slots := 0, locals := 0 } : Room).cells ({ frames := 0, cells := 0, slots := 0, locals := 0 } : Room).slots) := by
  refine MetFree.of_bodySF (plainFor_of_name pn_7) hisR ?_
  intro p e s m args below meth c s₁ Bd hml0 hP hK
  obtain ⟨rfl, hZ, hh⟩ := hP
  have hx := Bd.exec
  have hby := Bd.bytes
  have hml : c.maxLocals = 3 := hml0
  have hown : s.vm.findClass "java/util/Arrays" = some m.cls := findClass_of_methodNamed Bd.named
  have X0 : Stand p l e ({ frames := 0, cells := 0, slots := 0, locals := 0 } : Room) s m #[(.int 4), (.int 0), (.int 0)] below meth c s₁ [] 0 0 := Stand.of_body Bd
  have e0 : s₁.heap = h0 := by rw [← hh, Bd.state]; rfl
  have N0 := Fr.nil n0
  have pre0 : ∀ t, Steps p.tables e below (s₁.setTop (mkF m 0 #[iv 4, iv 0, iv 0] [])) t → Steps p.tables e below (s₁.setTop (entryFrame m #[(.int 4), (.int 0), (.int 0)] 3)) t := fun t k => castTop (ef_7 m 4 0 0) k
  obtain ⟨fs, hr, hrun, hended, hW, hsame⟩ := X0.leave (v := none) (fun _ => rfl)
  refine ⟨_, _, pre0 _ ?_, hrun, hended, _, _, rfl, ?_, ⟨_, rfl⟩, hW, hsame.mono (by decide) (by decide)⟩
  · show Steps p.tables e below (s₁.setTop (mkF m 0 #[iv 4, iv 0, iv 0] [])) _
    refine XS.iloadN X0.here hx rfl (hb hby d7_0) rfl ?_
    refine XS.iloadN X0.here hx rfl (hb hby d7_1) rfl ?_
    refine XS.icmpYes X0.here hx rfl (pc0 := 2) (pc' := 46) rfl (hb hby d7_2) rfl (by decide) (by decide) (by decide) ?_
    refine XS.iloadN X0.here hx rfl (hb hby d7_46) rfl ?_
    show Steps p.tables e below (s₁.setTop (mkF m 47 #[iv 4, iv 0, iv 0] [(.int 0)])) _
    refine XS.ifYes X0.here hx rfl (pc0 := 47) (pc' := 59) rfl (hb hby d7_47) rfl (by decide) (by decide) (by decide) ?_
    refine XS.iloadN X0.here hx rfl (hb hby d7_59) rfl ?_
    refine XS.iloadN X0.here hx rfl (hb hby d7_60) rfl ?_
    refine XS.icmpYes X0.here hx rfl (pc0 := 61) (pc' := 73) rfl (hb hby d7_61) rfl (by decide) (by decide) (by decide) ?_
    show Steps p.tables e below (s₁.setTop (mkF m 73 #[iv 4, iv 0, iv 0] [])) _
    exact X0.returnOut hx Bd.returns (hb hby d7_73) hr
  · show Q7_0 Z a_ONE a_ZTT e_2 e_3 h0 n0 _ s₁.heap _
    exact ⟨rfl, N0, e0⟩
def Q8_0 (Z : State) (a_ONE : Addr) (a_ZTT : Addr) (e_2 : Addr) (e_3 : Addr) (t0 : Int32) (o0 : Addr) (h0 : Heap) (n0 : Nat) (v : Option Value) (h : Heap) (L : List Loc) : Prop := v = some (.int (-1)) ∧ Fr n0 L ∧ h = h0
set_option maxRecDepth 65536 in
set_option maxHeartbeats 40000000 in
theorem rm8_0 (l : Launch) (Z : State) (a0 : Array Value) (hw : ∀ d ∈ tables_1, d.before a0 Z = true) (ws : List Jvm.Cond) (a_ONE : Addr) (a_ZTT : Addr) (e_2 : Addr) (e_3 : Addr) (t0 : Int32) (o0 : Addr) (h0 : Heap) (n0 : Nat) (FF : Facts Z Z.heap a_ONE a_ZTT e_2 e_3) (OO : Old Z n0 h0) :
    MetFree l (⟨"java/util/Arrays", "binarySearch0", "([IIII)I"⟩ : MethodName) (head1 (Jvm.Cond.code (⟨"java/util/Arrays", "binarySearch0", "([IIII)I"⟩ : MethodName) jdk_65_method_59_code 8 (some .int) :: ws) ({ frames := 0, cells := 0, slots := 0, locals := 0 } : Room)) (fun a U => a = #[(.ref o0), (.int 0), (.int 0), (.int t0)] ∧ Z.Warmed39 U.vm ∧ U.heap = h0) (fun _ _ _ _ _ => True) (fun _ U o U' => ∃ v L, o = .returned v ∧ Q8_0 Z a_ONE a_ZTT e_2 e_3 t0 o0 h0 n0 v U'.heap L ∧ FrameEnd U o U' L ({ frames := 0, cells := 0, slots := 0, locals := 0 } : Room).cells ({ frames := 0, cells := 0, slots := 0, locals := 0 } : Room).slots) := by
  refine MetFree.of_bodySF (plainFor_of_name pn_8) hisR ?_
  intro p e s m args below meth c s₁ Bd hml0 hP hK
  obtain ⟨rfl, hZ, hh⟩ := hP
  have hx := Bd.exec
  have hby := Bd.bytes
  have hml : c.maxLocals = 8 := hml0
  have hown : s.vm.findClass "java/util/Arrays" = some m.cls := findClass_of_methodNamed Bd.named
  have X0 : Stand p l e ({ frames := 0, cells := 0, slots := 0, locals := 0 } : Room) s m #[(.ref o0), (.int 0), (.int 0), (.int t0)] below meth c s₁ [] 0 0 := Stand.of_body Bd
  have e0 : s₁.heap = h0 := by rw [← hh, Bd.state]; rfl
  have N0 := Fr.nil n0
  have pre0 : ∀ t, Steps p.tables e below (s₁.setTop (mkF m 0 #[rv o0, iv 0, iv 0, iv t0, .unset, .unset, .unset, .unset] [])) t → Steps p.tables e below (s₁.setTop (entryFrame m #[(.ref o0), (.int 0), (.int 0), (.int t0)] 8)) t := fun t k => castTop (ef_8 m o0 0 0 t0) k
  obtain ⟨fs, hr, hrun, hended, hW, hsame⟩ := X0.leave (v := some (.int (-1))) (fun h => by rw [Bd.returns] at h; cases h)
  refine ⟨_, _, pre0 _ ?_, hrun, hended, _, _, rfl, ?_, ⟨_, rfl⟩, hW, hsame.mono (by decide) (by decide)⟩
  · show Steps p.tables e below (s₁.setTop (mkF m 0 #[rv o0, iv 0, iv 0, iv t0, .unset, .unset, .unset, .unset] [])) _
    refine XS.iloadN X0.here hx rfl (hb hby d8_0) rfl ?_
    refine XS.istore X0.here hx rfl (hb hby d8_1) rfl (l' := #[rv o0, iv 0, iv 0, iv t0, iv 0, .unset, .unset, .unset]) rfl ?_
    refine XS.iloadN X0.here hx rfl (hb hby d8_3) rfl ?_
    refine XS.iconst X0.here hx rfl (hb hby d8_4) ?_
    show Steps p.tables e below (s₁.setTop (mkF m 5 #[rv o0, iv 0, iv 0, iv t0, iv 0, .unset, .unset, .unset] [(.int 1), (.int 0)])) _
    refine XS.isub X0.here hx rfl (hb hby d8_5) rfl ?_
    show Steps p.tables e below (s₁.setTop (mkF m 6 #[rv o0, iv 0, iv 0, iv t0, iv 0, .unset, .unset, .unset] [(.int ((0 : Int32) - (1 : Int32)))])) _
    rw [(by decide : ((0 : Int32) - (1 : Int32)) = (-1 : Int32))]
    refine XS.istore X0.here hx rfl (hb hby d8_6) rfl (l' := #[rv o0, iv 0, iv 0, iv t0, iv 0, iv (-1), .unset, .unset]) rfl ?_
    refine XS.iload X0.here hx rfl (hb hby d8_8) rfl ?_
    refine XS.iload X0.here hx rfl (hb hby d8_10) rfl ?_
    show Steps p.tables e below (s₁.setTop (mkF m 12 #[rv o0, iv 0, iv 0, iv t0, iv 0, iv (-1), .unset, .unset] [(.int (-1)), (.int 0)])) _
    refine XS.icmpYes X0.here hx rfl (pc0 := 12) (pc' := 66) rfl (hb hby d8_12) rfl (by decide) (by decide) (by decide) ?_
    refine XS.iload X0.here hx rfl (hb hby d8_66) rfl ?_
    refine XS.iconst X0.here hx rfl (hb hby d8_68) ?_
    refine XS.iadd X0.here hx rfl (hb hby d8_69) rfl ?_
    show Steps p.tables e below (s₁.setTop (mkF m 70 #[rv o0, iv 0, iv 0, iv t0, iv 0, iv (-1), .unset, .unset] [(.int ((0 : Int32) + (1 : Int32)))])) _
    rw [(by decide : ((0 : Int32) + (1 : Int32)) = (1 : Int32))]
    refine XS.ineg X0.here hx rfl (hb hby d8_70) rfl ?_
    show Steps p.tables e below (s₁.setTop (mkF m 71 #[rv o0, iv 0, iv 0, iv t0, iv 0, iv (-1), .unset, .unset] [(.int (-(1 : Int32)))])) _
    rw [(by decide : (-(1 : Int32)) = (-1 : Int32))]
    exact retI X0 hx Bd.returns (hb hby d8_71) hr
  · show Q8_0 Z a_ONE a_ZTT e_2 e_3 t0 o0 h0 n0 _ s₁.heap _
    exact ⟨rfl, N0, e0⟩
def Q6_0 (Z : State) (a_ONE : Addr) (a_ZTT : Addr) (e_2 : Addr) (e_3 : Addr) (t0 : Int32) (t1 : Int32) (t2 : Int32) (t3 : Int32) (t4 : Int32) (o0 : Addr) (j0 : ClassId) (h0 : Heap) (n0 : Nat) (v : Option Value) (h : Heap) (L : List Loc) : Prop := v = some (.int (-1)) ∧ Fr n0 L ∧ h = h0
set_option maxRecDepth 65536 in
set_option maxHeartbeats 40000000 in
theorem rm6_0 (l : Launch) (Z : State) (a0 : Array Value) (hw : ∀ d ∈ tables_1, d.before a0 Z = true) (ws : List Jvm.Cond) (a_ONE : Addr) (a_ZTT : Addr) (e_2 : Addr) (e_3 : Addr) (t0 : Int32) (t1 : Int32) (t2 : Int32) (t3 : Int32) (t4 : Int32) (o0 : Addr) (j0 : ClassId) (h0 : Heap) (n0 : Nat) (FF : Facts Z Z.heap a_ONE a_ZTT e_2 e_3) (OO : Old Z n0 h0) (f0 : Arv Z h0 o0 j0 .int (4 : Int32) [(.int t0), (.int t1), (.int t2), (.int t3)] (.int 0)) :
    MetFree l (⟨"java/util/Arrays", "binarySearch", "([IIII)I"⟩ : MethodName) (head1 (Jvm.Cond.code (⟨"java/util/Arrays", "binarySearch", "([IIII)I"⟩ : MethodName) jdk_65_method_58_code 4 (some .int) :: ws) ({ frames := 1, cells := 0, slots := 0, locals := 19 } : Room)) (fun a U => a = #[(.ref o0), (.int 0), (.int 0), (.int t4)] ∧ Z.Warmed39 U.vm ∧ U.heap = h0) (fun _ _ _ _ _ => True) (fun _ U o U' => ∃ v L, o = .returned v ∧ Q6_0 Z a_ONE a_ZTT e_2 e_3 t0 t1 t2 t3 t4 o0 j0 h0 n0 v U'.heap L ∧ FrameEnd U o U' L ({ frames := 1, cells := 0, slots := 0, locals := 19 } : Room).cells ({ frames := 1, cells := 0, slots := 0, locals := 19 } : Room).slots) := by
  refine MetFree.of_bodySF (plainFor_of_name pn_6) hisR ?_
  intro p e s m args below meth c s₁ Bd hml0 hP hK
  obtain ⟨rfl, hZ, hh⟩ := hP
  have hx := Bd.exec
  have hby := Bd.bytes
  have hml : c.maxLocals = 4 := hml0
  have hown : s.vm.findClass "java/util/Arrays" = some m.cls := findClass_of_methodNamed Bd.named
  have X0 : Stand p l e ({ frames := 1, cells := 0, slots := 0, locals := 19 } : Room) s m #[(.ref o0), (.int 0), (.int 0), (.int t4)] below meth c s₁ [] 0 0 := Stand.of_body Bd
  have e0 : s₁.heap = h0 := by rw [← hh, Bd.state]; rfl
  have N0 := Fr.nil n0
  have pre0 : ∀ t, Steps p.tables e below (s₁.setTop (mkF m 0 #[rv o0, iv 0, iv 0, iv t4] [])) t → Steps p.tables e below (s₁.setTop (entryFrame m #[(.ref o0), (.int 0), (.int 0), (.int t4)] 4)) t := fun t k => castTop (ef_6 m o0 0 0 t4) k
  obtain ⟨c1, r1, q1, S1, M1, H1, G1⟩ := id f0
  obtain ⟨_, _, ⟨T2, L2, k2, n2⟩, -, X2, ⟨Lc2, hQ2, l2, y2, z2⟩, st2⟩ := Jvm.LawKit.callS X0 hx (y := (⟨"java/util/Arrays", "rangeCheck", "(III)V"⟩ : MethodName)) hown (mvT hZ (w_39 hw)) (mvT hZ (w_40 hw)) (mvT hZ (w_37 hw)) (mvT hZ (w_41 hw)) (by decide) (backOf (W := 0) (rm7_0 l Z a0 hw [] a_ONE a_ZTT e_2 e_3 h0 n0 FF OO) hZ (w_41 hw) (w_37 hw) (by decide) (by decide)) (g := (mkF m 4 #[rv o0, iv 0, iv 0, iv t4] [(.int 0), (.int 0), (.int 4)])) rfl (by rw [hml]; rfl) (argsL := [(.int 4), (.int 0), (.int 0)]) (rest := []) (lenOf pd_3 rfl) rfl (by show 2 * 0 + _ ≤ _; exact Nat.le_of_eq rfl) (hb hby d6_4) (fun _ _ => ⟨rfl, e0, (by decide : 0 + 0 ≤ _), (by decide : 0 + 0 ≤ _)⟩)
  dsimp only [Pt.U, Pt.locs, Pt.cells, Pt.slots] at X2 l2 y2 z2 st2 hQ2
  subst l2 y2 z2
  obtain ⟨rfl, N2q, e2⟩ := hQ2
  have N2 := Fr.app N0 N2q
  obtain ⟨_, _, ⟨T3, L3, k3, n3⟩, -, X3, ⟨Lc3, hQ3, l3, y3, z3⟩, st3⟩ := Jvm.LawKit.callS X2 hx (y := (⟨"java/util/Arrays", "binarySearch0", "([IIII)I"⟩ : MethodName)) hown (mvT hZ (w_42 hw)) (mvT hZ (w_43 hw)) (mvT hZ (w_37 hw)) (mvT hZ (w_44 hw)) (by decide) (backOf (W := 0) (rm8_0 l Z a0 hw [] a_ONE a_ZTT e_2 e_3 t4 o0 h0 n0 FF OO) hZ (w_44 hw) (w_37 hw) (by decide) (by decide)) (g := (mkF m 11 #[rv o0, iv 0, iv 0, iv t4] [(.int t4), (.int 0), (.int 0), (.ref o0)])) rfl (by rw [hml]; rfl) (argsL := [(.ref o0), (.int 0), (.int 0), (.int t4)]) (rest := []) (lenOf pd_4 rfl) rfl (by show 2 * 0 + _ ≤ _; exact Nat.le_of_eq rfl) (hb hby d6_11) (fun _ _ => ⟨rfl, e2, (by decide : 0 + 0 ≤ _), (by decide : 0 + 0 ≤ _)⟩)
  dsimp only [Pt.U, Pt.locs, Pt.cells, Pt.slots] at X3 l3 y3 z3 st3 hQ3
  subst l3 y3 z3
  obtain ⟨rfl, N3q, e3⟩ := hQ3
  have N3 := Fr.app N2 N3q
  obtain ⟨fs, hr, hrun, hended, hW, hsame⟩ := X3.leave (v := some (.int (-1))) (fun h => by rw [Bd.returns] at h; cases h)
  refine ⟨_, _, pre0 _ ?_, hrun, hended, _, _, rfl, ?_, ⟨_, rfl⟩, hW, hsame.mono (by decide) (by decide)⟩
  · show Steps p.tables e below (s₁.setTop (mkF m 0 #[rv o0, iv 0, iv 0, iv t4] [])) _
    refine XS.aloadN X0.here hx rfl (hb hby d6_0) rfl rfl ?_
    refine X0.arraylength hx (by rw [e0]; exact r1.1) (State.isArrayOf_alike hZ.alike r1.2.1) (g := (mkF m 1 #[rv o0, iv 0, iv 0, iv t4] [(.ref o0)])) rfl rfl (hb hby d6_1) _ ?_
    rw [len_of S1 M1]
    refine XS.iloadN X0.here hx rfl (hb hby d6_2) rfl ?_
    show Steps p.tables e below (s₁.setTop (mkF m 3 #[rv o0, iv 0, iv 0, iv t4] [(.int 0), (.int 4)])) _
    refine XS.iloadN X0.here hx rfl (hb hby d6_3) rfl ?_
    refine st2 _ ?_
    refine XS.aloadN X2.here hx rfl (hb hby d6_7) rfl rfl ?_
    refine XS.iloadN X2.here hx rfl (hb hby d6_8) rfl ?_
    show Steps p.tables e below (T2.setTop (mkF m 9 #[rv o0, iv 0, iv 0, iv t4] [(.int 0), (.ref o0)])) _
    refine XS.iloadN X2.here hx rfl (hb hby d6_9) rfl ?_
    refine XS.iloadN X2.here hx rfl (hb hby d6_10) rfl ?_
    refine st3 _ ?_
    exact retI X3 hx Bd.returns (hb hby d6_14) hr
  · show Q6_0 Z a_ONE a_ZTT e_2 e_3 t0 t1 t2 t3 t4 o0 j0 h0 n0 _ T3.heap _
    exact ⟨rfl, N3, e3⟩
def Q5_0 (Z : State) (a_ONE : Addr) (a_ZTT : Addr) (e_2 : Addr) (e_3 : Addr) (t0 : Int32) (t1 : Int32) (t2 : Int32) (t3 : Int32) (t4 : Int32) (o0 : Addr) (o1 : Addr) (o2 : Addr) (j0 : ClassId) (j1 : ClassId) (h0 : Heap) (n0 : Nat) (v : Option Value) (h : Heap) (L : List Loc) : Prop := v = none ∧ Fr n0 L ∧ Keep h0 h [o1, o2, o0] ∧ Arv Z h o1 j0 .int (4 : Int32) [(.int t4), (.int t1), (.int t2), (.int t3)] (.int 0) ∧ Exa Z h o1 "[I" ∧ Arv Z h o2 j1 (.object "java/math/BigDecimal") (4 : Int32) [(.ref a_ONE), .null, .null, .null] .null ∧ Ovr Z j1 "java/math/BigDecimal" ∧ Exa Z h o2 "[Ljava/math/BigDecimal;" ∧ Fld Z h o0 "com/example/deferra/deferra/crediting/DailyAmounts" "days" "[I" (.ref o1) ∧ Fld Z h o0 "com/example/deferra/deferra/crediting/DailyAmounts" "size" "I" (.int 1) ∧ Fld Z h o0 "com/example/deferra/deferra/crediting/DailyAmounts" "amounts" "[Ljava/math/BigDecimal;" (.ref o2) ∧ Exa Z h o0 "com/example/deferra/deferra/crediting/DailyAmounts"
set_option maxRecDepth 65536 in
set_option maxHeartbeats 40000000 in
theorem rm5_0 (l : Launch) (Z : State) (a0 : Array Value) (hw : ∀ d ∈ tables_1, d.before a0 Z = true) (ws : List Jvm.Cond) (a_ONE : Addr) (a_ZTT : Addr) (e_2 : Addr) (e_3 : Addr) (t0 : Int32) (t1 : Int32) (t2 : Int32) (t3 : Int32) (t4 : Int32) (o0 : Addr) (o1 : Addr) (o2 : Addr) (j0 : ClassId) (j1 : ClassId) (h0 : Heap) (n0 : Nat) (FF : Facts Z Z.heap a_ONE a_ZTT e_2 e_3) (OO : Old Z n0 h0) (f0 : Fld Z h0 o0 "com/example/deferra/deferra/crediting/DailyAmounts" "days" "[I" (.ref o1)) (f1 : Fld Z h0 o0 "com/example/deferra/deferra/crediting/DailyAmounts" "size" "I" (.int 0)) (f2 : Arv Z h0 o1 j0 .int (4 : Int32) [(.int t0), (.int t1), (.int t2), (.int t3)] (.int 0)) (u0 : n0 ≤ o1) (f3 : Fld Z h0 o0 "com/example/deferra/deferra/crediting/DailyAmounts" "amounts" "[Ljava/math/BigDecimal;" (.ref o2)) (v0 : o0 ≠ o1) (f4 : Arv Z h0 o2 j1 (.object "java/math/BigDecimal") (4 : Int32) [.null, .null, .null, .null] .null) (v1 : o2 ≠ o1) (u1 : n0 ≤ o2) (v2 : o0 ≠ o2) (f5 : Ovr Z j1 "java/math/BigDecimal") (f6 : Exa Z h0 o0 "com/example/deferra/deferra/crediting/DailyAmounts") (u2 : n0 ≤ o0) (f7 : Exa Z h0 o1 "[I") (f8 : Exa Z h0 o2 "[Ljava/math/BigDecimal;") :
    MetFree l (⟨"com/example/deferra/deferra/crediting/DailyAmounts", "add", "(ILjava/math/BigDecimal;)V"⟩ : MethodName) (head1 (Jvm.Cond.code (⟨"com/example/deferra/deferra/crediting/DailyAmounts", "add", "(ILjava/math/BigDecimal;)V"⟩ : MethodName) prog_24_method_2_code 5 none :: ws) ({ frames := 2, cells := 0, slots := 0, locals := 34 } : Room)) (fun a U => a = #[(.ref o0), (.int t4), (.ref a_ONE)] ∧ Z.Warmed39 U.vm ∧ U.heap = h0) (fun _ _ _ _ _ => True) (fun _ U o U' => ∃ v L, o = .returned v ∧ Q5_0 Z a_ONE a_ZTT e_2 e_3 t0 t1 t2 t3 t4 o0 o1 o2 j0 j1 h0 n0 v U'.heap L ∧ FrameEnd U o U' L ({ frames := 2, cells := 0, slots := 0, locals := 34 } : Room).cells ({ frames := 2, cells := 0, slots := 0, locals := 34 } : Room).slots) := by
  refine MetFree.of_bodySF (plainFor_of_name pn_5) hisR ?_
  intro p e s m args below meth c s₁ Bd hml0 hP hK
  obtain ⟨rfl, hZ, hh⟩ := hP
  have hx := Bd.exec
  have hby := Bd.bytes
  have hml : c.maxLocals = 5 := hml0
  have hown : s.vm.findClass "com/example/deferra/deferra/crediting/DailyAmounts" = some m.cls := findClass_of_methodNamed Bd.named
  have X0 : Stand p l e ({ frames := 2, cells := 0, slots := 0, locals := 34 } : Room) s m #[(.ref o0), (.int t4), (.ref a_ONE)] below meth c s₁ [] 0 0 := Stand.of_body Bd
  have e0 : s₁.heap = h0 := by rw [← hh, Bd.state]; rfl
  have N0 := Fr.nil n0
  have pre0 : ∀ t, Steps p.tables e below (s₁.setTop (mkF m 0 #[rv o0, iv t4, rv a_ONE, .unset, .unset] [])) t → Steps p.tables e below (s₁.setTop (entryFrame m #[(.ref o0), (.int t4), (.ref a_ONE)] 5)) t := fun t k => castTop (ef_5 m o0 t4 a_ONE) k
  obtain ⟨T1, X1, e1, st1⟩ := getF X0 hx hZ hown (host := "") (Or.inl (w_10 hw)) Via.refl e0 f0 (g := (mkF m 1 #[rv o0, iv t4, rv a_ONE, .unset, .unset] [(.ref o0)])) rfl rfl (hb hby d5_1)
  obtain ⟨T2, X2, e2, st2⟩ := getF X1 hx hZ hown (host := "") (Or.inl (w_21 hw)) Via.refl e1 f1 (g := (mkF m 6 #[rv o0, iv t4, rv a_ONE, .unset, .unset] [(.ref o0), (.int 0), (.ref o1)])) rfl rfl (hb hby d5_6)
  obtain ⟨_, _, ⟨T3, L3, k3, n3⟩, -, X3, ⟨Lc3, hQ3, l3, y3, z3⟩, st3⟩ := Jvm.LawKit.callS X2 hx (y := (⟨"java/util/Arrays", "binarySearch", "([IIII)I"⟩ : MethodName)) hown (mvT hZ (w_35 hw)) (mvT hZ (w_36 hw)) (mvT hZ (w_37 hw)) (mvT hZ (w_38 hw)) (by decide) (backOf (W := 0) (rm6_0 l Z a0 hw [] a_ONE a_ZTT e_2 e_3 t0 t1 t2 t3 t4 o1 j0 h0 n0 FF OO f2) hZ (w_38 hw) (w_37 hw) (by decide) (by decide)) (g := (mkF m 10 #[rv o0, iv t4, rv a_ONE, .unset, .unset] [(.int t4), (.int 0), (.int 0), (.ref o1)])) rfl (by rw [hml]; rfl) (argsL := [(.ref o1), (.int 0), (.int 0), (.int t4)]) (rest := []) (lenOf pd_4 rfl) rfl (by show 2 * 0 + _ ≤ _; exact Nat.le_of_eq rfl) (hb hby d5_10) (fun _ _ => ⟨rfl, e2, (by decide : 0 + 0 ≤ _), (by decide : 0 + 0 ≤ _)⟩)
  dsimp only [Pt.U, Pt.locs, Pt.cells, Pt.slots] at X3 l3 y3 z3 st3 hQ3
  subst l3 y3 z3
  obtain ⟨rfl, N3q, e3⟩ := hQ3
  have N3 := Fr.app N0 N3q
  obtain ⟨T4, X4, e4, st4⟩ := getF X3 hx hZ hown (host := "") (Or.inl (w_21 hw)) Via.refl e3 f1 (g := (mkF m 42 #[rv o0, iv t4, rv a_ONE, iv (-1), iv 0] [(.ref o0)])) rfl rfl (hb hby d5_42)
  obtain ⟨T5, X5, e5, st5⟩ := getF X4 hx hZ hown (host := "") (Or.inl (w_10 hw)) Via.refl e4 f0 (g := (mkF m 46 #[rv o0, iv t4, rv a_ONE, iv (-1), iv 0] [(.ref o0), (.int 0)])) rfl rfl (hb hby d5_46)
  obtain ⟨c6, r6, q6, S6, M6, H6, G6⟩ := id f2
  obtain ⟨T7, X7, e7, st7⟩ := getF X5 hx hZ hown (host := "") (Or.inl (w_10 hw)) Via.refl e5 f0 (g := (mkF m 91 #[rv o0, iv t4, rv a_ONE, iv (-1), iv 0] [(.ref o0)])) rfl rfl (hb hby d5_91)
  obtain ⟨T8, X8, e8, st8⟩ := getF X7 hx hZ hown (host := "") (Or.inl (w_10 hw)) Via.refl e7 f0 (g := (mkF m 97 #[rv o0, iv t4, rv a_ONE, iv (-1), iv 0] [(.ref o0), (.int 0), (.ref o1)])) rfl rfl (hb hby d5_97)
  obtain ⟨T9, X9, e9, st9⟩ := getF X8 hx hZ hown (host := "") (Or.inl (w_21 hw)) Via.refl e8 f1 (g := (mkF m 105 #[rv o0, iv t4, rv a_ONE, iv (-1), iv 0] [(.ref o0), (.int 1), (.ref o1), (.int 0), (.ref o1)])) rfl rfl (hb hby d5_105)
  obtain ⟨T10, h10, L10, X10, e10, N10, K10, V10, st10⟩ := cpA X9 hx hZ hown (w_45 hw) (w_48 hw) (w_46 hw) (w_47 hw) e9 f2 f2 (us := []) (Or.inl ⟨rfl, rfl⟩) (by decide) (by decide) (by decide) (by decide) (by decide) rfl (Nat.le_of_ble_eq_true rfl) N3 u0 (g := (mkF m 111 #[rv o0, iv t4, rv a_ONE, iv (-1), iv 0] [(.int 0), (.int 1), (.ref o1), (.int 0), (.ref o1)])) rfl (by rw [hml]; rfl) (rest := []) rfl (hb hby d5_111) (by decide) (W := 0) (by show 2 * 0 + _ ≤ _; exact Nat.le_of_eq rfl) (by decide)
  have O10 := Old.keep OO K10 (allS u0 all0)
  have KK10 : Keep h0 h10 [o1, o2, o0] := Keep.trans (Keep.refl h0 [o1, o2, o0]) K10 (allS (Or.inl (List.mem_of_getElem? (i := 0) rfl)) all0)
  have F11 : Arv Z h10 o1 j0 .int (4 : Int32) [(.int t0), (.int t1), (.int t2), (.int t3)] (.int 0) := V10
  have F12 : Fld Z h10 o0 "com/example/deferra/deferra/crediting/DailyAmounts" "amounts" "[Ljava/math/BigDecimal;" (.ref o2) := (Fld.keep f3 K10 (ninS v0 nin0))
  obtain ⟨T13, X13, e13, st13⟩ := getF X10 hx hZ hown (host := "") (Or.inl (w_14 hw)) Via.refl e10 F12 (g := (mkF m 115 #[rv o0, iv t4, rv a_ONE, iv (-1), iv 0] [(.ref o0)])) rfl rfl (hb hby d5_115)
  obtain ⟨T14, X14, e14, st14⟩ := getF X13 hx hZ hown (host := "") (Or.inl (w_14 hw)) Via.refl e13 F12 (g := (mkF m 121 #[rv o0, iv t4, rv a_ONE, iv (-1), iv 0] [(.ref o0), (.int 0), (.ref o2)])) rfl rfl (hb hby d5_121)
  have F15 : Fld Z h10 o0 "com/example/deferra/deferra/crediting/DailyAmounts" "size" "I" (.int 0) := (Fld.keep f1 K10 (ninS v0 nin0))
  obtain ⟨T16, X16, e16, st16⟩ := getF X14 hx hZ hown (host := "") (Or.inl (w_21 hw)) Via.refl e14 F15 (g := (mkF m 129 #[rv o0, iv t4, rv a_ONE, iv (-1), iv 0] [(.ref o0), (.int 1), (.ref o2), (.int 0), (.ref o2)])) rfl rfl (hb hby d5_129)
  have F17 : Arv Z h10 o2 j1 (.object "java/math/BigDecimal") (4 : Int32) [.null, .null, .null, .null] .null := (Arv.keep f4 K10 (ninS v1 nin0))
  obtain ⟨c18, r18, q18, S18, M18, H18, G18⟩ := id F17
  obtain ⟨T19, h19, L19, X19, e19, N19, K19, V19, st19⟩ := cpA X16 hx hZ hown (w_45 hw) (w_48 hw) (w_46 hw) (w_47 hw) e16 F17 F17 (us := []) (Or.inr ⟨rfl, rfl, (trivial : StoL Z h10 o2 [])⟩) (by decide) (by decide) (by decide) (by decide) (by decide) rfl (Nat.le_of_ble_eq_true rfl) N10 u1 (g := (mkF m 135 #[rv o0, iv t4, rv a_ONE, iv (-1), iv 0] [(.int 0), (.int 1), (.ref o2), (.int 0), (.ref o2)])) rfl (by rw [hml]; rfl) (rest := []) rfl (hb hby d5_135) (by decide) (W := 0) (by show 2 * 0 + _ ≤ _; exact Nat.le_of_eq rfl) (by decide)
  have O19 := Old.keep O10 K19 (allS u1 all0)
  have KK19 : Keep h0 h19 [o1, o2, o0] := Keep.trans KK10 K19 (allS (Or.inl (List.mem_of_getElem? (i := 1) rfl)) all0)
  have F20 : Arv Z h19 o2 j1 (.object "java/math/BigDecimal") (4 : Int32) [.null, .null, .null, .null] .null := V19
  have F21 : Fld Z h19 o0 "com/example/deferra/deferra/crediting/DailyAmounts" "days" "[I" (.ref o1) := (Fld.keep (Fld.keep f0 K10 (ninS v0 nin0)) K19 (ninS v2 nin0))
  obtain ⟨T22, X22, e22, st22⟩ := getF X19 hx hZ hown (host := "") (Or.inl (w_10 hw)) Via.refl e19 F21 (g := (mkF m 139 #[rv o0, iv t4, rv a_ONE, iv (-1), iv 0] [(.ref o0)])) rfl rfl (hb hby d5_139)
  have F24 : Arv Z h19 o1 j0 .int (4 : Int32) [(.int t0), (.int t1), (.int t2), (.int t3)] (.int 0) := (Arv.keep F11 K19 (ninS (Ne.symm v1) nin0))
  obtain ⟨c23, r23, q23, S23, M23, H23, G23⟩ := id F24
  have i25 : ¬ ((0 : Int32) < 0 ∨ c23.slots.size ≤ ((0 : Int32)).toNatClampNeg) := inb_of S23 ⟨by decide, by decide⟩
  obtain ⟨T26, h26, X26, e26, W26, st26⟩ := stI X22 hx hZ e22 r23 (j := (0 : Int32)) i25 (g := (mkF m 145 #[rv o0, iv t4, rv a_ONE, iv (-1), iv 0] [(.int t4), (.int 0), (.ref o1)])) rfl rfl (hb hby d5_145)
  have O26 := Old.wr O19 W26 u0
  have KK26 : Keep h0 h26 [o1, o2, o0] := Keep.wr KK19 W26 (Or.inl (List.mem_of_getElem? (i := 0) rfl))
  have N26 := Fr.snoc X26 N19 u0
  have F27 : Arv Z h26 o1 j0 .int (4 : Int32) [(.int t4), (.int t1), (.int t2), (.int t3)] (.int 0) := Arv.set r23 q23 S23 M23 H23 G23 rfl W26 0 rfl (Nat.le_of_ble_eq_true rfl)
  have F28 : Fld Z h26 o0 "com/example/deferra/deferra/crediting/DailyAmounts" "amounts" "[Ljava/math/BigDecimal;" (.ref o2) := (Fld.other W26 (Fld.keep F12 K19 (ninS v2 nin0)) (Or.inl v0))
  obtain ⟨T29, X29, e29, st29⟩ := getF X26 hx hZ hown (host := "") (Or.inl (w_14 hw)) Via.refl e26 F28 (g := (mkF m 147 #[rv o0, iv t4, rv a_ONE, iv (-1), iv 0] [(.ref o0)])) rfl rfl (hb hby d5_147)
  have F31 : Arv Z h26 o2 j1 (.object "java/math/BigDecimal") (4 : Int32) [.null, .null, .null, .null] .null := (Arv.other F20 W26 v1)
  obtain ⟨c30, r30, q30, S30, M30, H30, G30⟩ := id F31
  have i32 : ¬ ((0 : Int32) < 0 ∨ c30.slots.size ≤ ((0 : Int32)).toNatClampNeg) := inb_of S30 ⟨by decide, by decide⟩
  obtain ⟨T33, h33, X33, e33, W33, st33⟩ := stR X29 hx hZ e29 r30 (j := (0 : Int32)) i32 rfl (Sto.ofV r30 q30 f5 (Ins.self (Exa.ext O26.2 (fx_E_a_ONE FF)))) (g := (mkF m 153 #[rv o0, iv t4, rv a_ONE, iv (-1), iv 0] [(.ref a_ONE), (.int 0), (.ref o2)])) rfl rfl (hb hby d5_153)
  have O33 := Old.wr O26 W33 u1
  have KK33 : Keep h0 h33 [o1, o2, o0] := Keep.wr KK26 W33 (Or.inl (List.mem_of_getElem? (i := 1) rfl))
  have N33 := Fr.snoc X33 N26 u1
  have F34 : Arv Z h33 o2 j1 (.object "java/math/BigDecimal") (4 : Int32) [(.ref a_ONE), .null, .null, .null] .null := Arv.set r30 q30 S30 M30 H30 G30 rfl W33 0 rfl (Nat.le_of_ble_eq_true rfl)
  have F35 : Fld Z h33 o0 "com/example/deferra/deferra/crediting/DailyAmounts" "size" "I" (.int 0) := (Fld.other W33 (Fld.other W26 (Fld.keep F15 K19 (ninS v2 nin0)) (Or.inl v0)) (Or.inl v2))
  obtain ⟨T36, X36, e36, st36⟩ := getF X33 hx hZ hown (host := "") (Or.inl (w_21 hw)) Via.refl e33 F35 (g := (mkF m 156 #[rv o0, iv t4, rv a_ONE, iv (-1), iv 0] [(.ref o0), (.ref o0)])) rfl rfl (hb hby d5_156)
  have F37 : Exa Z h33 o0 "com/example/deferra/deferra/crediting/DailyAmounts" := (Exa.wr W33 (Exa.wr W26 (Exa.keep (Exa.keep f6 K10) K19)))
  obtain ⟨T38, h38, X38, e38, W38, st38⟩ := putF X36 hx hZ hown (host := "") (Or.inl (w_21 hw)) Via.refl e36 F35 F37 (Or.inl (w_22 hw)) (w_1 hw) (ty := .int) (by decide) rfl rfl (g := (mkF m 161 #[rv o0, iv t4, rv a_ONE, iv (-1), iv 0] [(.int 1), (.ref o0)])) rfl rfl (hb hby d5_161)
  have O38 := Old.wr O33 W38 u2
  have KK38 : Keep h0 h38 [o1, o2, o0] := Keep.wr KK33 W38 (Or.inl (List.mem_of_getElem? (i := 2) rfl))
  have N38 := Fr.snoc X38 N33 u2
  have F39 : Fld Z h38 o0 "com/example/deferra/deferra/crediting/DailyAmounts" "size" "I" (.int 1) := Fld.same W38 F35
  have F40 : Arv Z h38 o1 j0 .int (4 : Int32) [(.int t4), (.int t1), (.int t2), (.int t3)] (.int 0) := (Arv.other (Arv.other F27 W33 (Ne.symm v1)) W38 (Ne.symm v0))
  have F41 : Exa Z h38 o1 "[I" := (Exa.wr W38 (Exa.wr W33 (Exa.wr W26 (Exa.keep (Exa.keep f7 K10) K19))))
  have F42 : Arv Z h38 o2 j1 (.object "java/math/BigDecimal") (4 : Int32) [(.ref a_ONE), .null, .null, .null] .null := (Arv.other F34 W38 (Ne.symm v2))
  have F43 : Exa Z h38 o2 "[Ljava/math/BigDecimal;" := (Exa.wr W38 (Exa.wr W33 (Exa.wr W26 (Exa.keep (Exa.keep f8 K10) K19))))
  have F44 : Fld Z h38 o0 "com/example/deferra/deferra/crediting/DailyAmounts" "days" "[I" (.ref o1) := (Fld.other W38 (Fld.other W33 (Fld.other W26 F21 (Or.inl v0)) (Or.inl v2)) (Or.inr (slot_ne (Or.inl (w_11 hw)) (Or.inl (w_22 hw)) (by decide) (t := (.array .int)) (t' := .int) (by decide) (by decide))))
  have F45 : Fld Z h38 o0 "com/example/deferra/deferra/crediting/DailyAmounts" "amounts" "[Ljava/math/BigDecimal;" (.ref o2) := (Fld.other W38 (Fld.other W33 F28 (Or.inl v2)) (Or.inr (slot_ne (Or.inl (w_15 hw)) (Or.inl (w_22 hw)) (by decide) (t := (.array (.object "java/math/BigDecimal"))) (t' := .int) (by decide) (by decide))))
  have F46 : Exa Z h38 o0 "com/example/deferra/deferra/crediting/DailyAmounts" := (Exa.wr W38 F37)
  obtain ⟨fs, hr, hrun, hended, hW, hsame⟩ := X38.leave (v := none) (fun _ => rfl)
  refine ⟨_, _, pre0 _ ?_, hrun, hended, _, _, rfl, ?_, ⟨_, rfl⟩, hW, hsame.mono (by decide) (by decide)⟩
  · show Steps p.tables e below (s₁.setTop (mkF m 0 #[rv o0, iv t4, rv a_ONE, .unset, .unset] [])) _
    refine XS.aloadN X0.here hx rfl (hb hby d5_0) rfl rfl ?_
    refine st1 _ ?_
    refine XS.iconst X1.here hx rfl (hb hby d5_4) ?_
    refine XS.aloadN X1.here hx rfl (hb hby d5_5) rfl rfl ?_
    show Steps p.tables e below (T1.setTop (mkF m 6 #[rv o0, iv t4, rv a_ONE, .unset, .unset] [(.ref o0), (.int 0), (.ref o1)])) _
    refine st2 _ ?_
    refine XS.iloadN X2.here hx rfl (hb hby d5_9) rfl ?_
    refine st3 _ ?_
    refine XS.istoreN X3.here hx rfl (hb hby d5_13) rfl (l' := #[rv o0, iv t4, rv a_ONE, iv (-1), .unset]) rfl ?_
    show Steps p.tables e below (T3.setTop (mkF m 14 #[rv o0, iv t4, rv a_ONE, iv (-1), .unset] [])) _
    refine XS.iloadN X3.here hx rfl (hb hby d5_14) rfl ?_
    refine XS.ifYes X3.here hx rfl (pc0 := 15) (pc' := 35) rfl (hb hby d5_15) rfl (by decide) (by decide) (by decide) ?_
    refine XS.iloadN X3.here hx rfl (hb hby d5_35) rfl ?_
    refine XS.ineg X3.here hx rfl (hb hby d5_36) rfl ?_
    show Steps p.tables e below (T3.setTop (mkF m 37 #[rv o0, iv t4, rv a_ONE, iv (-1), .unset] [(.int (-(-1 : Int32)))])) _
    rw [(by decide : (-(-1 : Int32)) = (1 : Int32))]
    refine XS.iconst X3.here hx rfl (hb hby d5_37) ?_
    refine XS.isub X3.here hx rfl (hb hby d5_38) rfl ?_
    show Steps p.tables e below (T3.setTop (mkF m 39 #[rv o0, iv t4, rv a_ONE, iv (-1), .unset] [(.int ((1 : Int32) - (1 : Int32)))])) _
    rw [(by decide : ((1 : Int32) - (1 : Int32)) = (0 : Int32))]
    refine XS.istore X3.here hx rfl (hb hby d5_39) rfl (l' := #[rv o0, iv t4, rv a_ONE, iv (-1), iv 0]) rfl ?_
    refine XS.aloadN X3.here hx rfl (hb hby d5_41) rfl rfl ?_
    refine st4 _ ?_
    show Steps p.tables e below (T4.setTop (mkF m 45 #[rv o0, iv t4, rv a_ONE, iv (-1), iv 0] [(.int 0)])) _
    refine XS.aloadN X4.here hx rfl (hb hby d5_45) rfl rfl ?_
    refine st5 _ ?_
    refine X5.arraylength hx (by rw [e5]; exact r6.1) (State.isArrayOf_alike hZ.alike r6.2.1) (g := (mkF m 49 #[rv o0, iv t4, rv a_ONE, iv (-1), iv 0] [(.ref o1), (.int 0)])) rfl rfl (hb hby d5_49) _ ?_
    rw [len_of S6 M6]
    show Steps p.tables e below (T5.setTop (mkF m 50 #[rv o0, iv t4, rv a_ONE, iv (-1), iv 0] [(.int 4), (.int 0)])) _
    refine XS.icmpYes X5.here hx rfl (pc0 := 50) (pc' := 90) rfl (hb hby d5_50) rfl (by decide) (by decide) (by decide) ?_
    refine XS.aloadN X5.here hx rfl (hb hby d5_90) rfl rfl ?_
    refine st7 _ ?_
    refine XS.iload X7.here hx rfl (hb hby d5_94) rfl ?_
    show Steps p.tables e below (T7.setTop (mkF m 96 #[rv o0, iv t4, rv a_ONE, iv (-1), iv 0] [(.int 0), (.ref o1)])) _
    refine XS.aloadN X7.here hx rfl (hb hby d5_96) rfl rfl ?_
    refine st8 _ ?_
    refine XS.iload X8.here hx rfl (hb hby d5_100) rfl ?_
    refine XS.iconst X8.here hx rfl (hb hby d5_102) ?_
    show Steps p.tables e below (T8.setTop (mkF m 103 #[rv o0, iv t4, rv a_ONE, iv (-1), iv 0] [(.int 1), (.int 0), (.ref o1), (.int 0), (.ref o1)])) _
    refine XS.iadd X8.here hx rfl (hb hby d5_103) rfl ?_
    show Steps p.tables e below (T8.setTop (mkF m 104 #[rv o0, iv t4, rv a_ONE, iv (-1), iv 0] [(.int ((0 : Int32) + (1 : Int32))), (.ref o1), (.int 0), (.ref o1)])) _
    rw [(by decide : ((0 : Int32) + (1 : Int32)) = (1 : Int32))]
    refine XS.aloadN X8.here hx rfl (hb hby d5_104) rfl rfl ?_
    refine st9 _ ?_
    refine XS.iload X9.here hx rfl (hb hby d5_108) rfl ?_
    show Steps p.tables e below (T9.setTop (mkF m 110 #[rv o0, iv t4, rv a_ONE, iv (-1), iv 0] [(.int 0), (.int 0), (.int 1), (.ref o1), (.int 0), (.ref o1)])) _
    refine XS.isub X9.here hx rfl (hb hby d5_110) rfl ?_
    show Steps p.tables e below (T9.setTop (mkF m 111 #[rv o0, iv t4, rv a_ONE, iv (-1), iv 0] [(.int ((0 : Int32) - (0 : Int32))), (.int 1), (.ref o1), (.int 0), (.ref o1)])) _
    rw [(by decide : ((0 : Int32) - (0 : Int32)) = (0 : Int32))]
    refine st10 _ ?_
    refine XS.aloadN X10.here hx rfl (hb hby d5_114) rfl rfl ?_
    refine st13 _ ?_
    show Steps p.tables e below (T13.setTop (mkF m 118 #[rv o0, iv t4, rv a_ONE, iv (-1), iv 0] [(.ref o2)])) _
    refine XS.iload X13.here hx rfl (hb hby d5_118) rfl ?_
    refine XS.aloadN X13.here hx rfl (hb hby d5_120) rfl rfl ?_
    refine st14 _ ?_
    refine XS.iload X14.here hx rfl (hb hby d5_124) rfl ?_
    show Steps p.tables e below (T14.setTop (mkF m 126 #[rv o0, iv t4, rv a_ONE, iv (-1), iv 0] [(.int 0), (.ref o2), (.int 0), (.ref o2)])) _
    refine XS.iconst X14.here hx rfl (hb hby d5_126) ?_
    refine XS.iadd X14.here hx rfl (hb hby d5_127) rfl ?_
    show Steps p.tables e below (T14.setTop (mkF m 128 #[rv o0, iv t4, rv a_ONE, iv (-1), iv 0] [(.int ((0 : Int32) + (1 : Int32))), (.ref o2), (.int 0), (.ref o2)])) _
    rw [(by decide : ((0 : Int32) + (1 : Int32)) = (1 : Int32))]
    refine XS.aloadN X14.here hx rfl (hb hby d5_128) rfl rfl ?_
    refine st16 _ ?_
    refine XS.iload X16.here hx rfl (hb hby d5_132) rfl ?_
    show Steps p.tables e below (T16.setTop (mkF m 134 #[rv o0, iv t4, rv a_ONE, iv (-1), iv 0] [(.int 0), (.int 0), (.int 1), (.ref o2), (.int 0), (.ref o2)])) _
    refine XS.isub X16.here hx rfl (hb hby d5_134) rfl ?_
    show Steps p.tables e below (T16.setTop (mkF m 135 #[rv o0, iv t4, rv a_ONE, iv (-1), iv 0] [(.int ((0 : Int32) - (0 : Int32))), (.int 1), (.ref o2), (.int 0), (.ref o2)])) _
    rw [(by decide : ((0 : Int32) - (0 : Int32)) = (0 : Int32))]
    refine st19 _ ?_
    refine XS.aloadN X19.here hx rfl (hb hby d5_138) rfl rfl ?_
    refine st22 _ ?_
    show Steps p.tables e below (T22.setTop (mkF m 142 #[rv o0, iv t4, rv a_ONE, iv (-1), iv 0] [(.ref o1)])) _
    refine XS.iload X22.here hx rfl (hb hby d5_142) rfl ?_
    refine XS.iloadN X22.here hx rfl (hb hby d5_144) rfl ?_
    refine st26 _ ?_
    refine XS.aloadN X26.here hx rfl (hb hby d5_146) rfl rfl ?_
    show Steps p.tables e below (T26.setTop (mkF m 147 #[rv o0, iv t4, rv a_ONE, iv (-1), iv 0] [(.ref o0)])) _
    refine st29 _ ?_
    refine XS.iload X29.here hx rfl (hb hby d5_150) rfl ?_
    refine XS.aloadN X29.here hx rfl (hb hby d5_152) rfl rfl ?_
    refine st33 _ ?_
    show Steps p.tables e below (T33.setTop (mkF m 154 #[rv o0, iv t4, rv a_ONE, iv (-1), iv 0] [])) _
    refine XS.aloadN X33.here hx rfl (hb hby d5_154) rfl rfl ?_
    refine XS.dup X33.here hx rfl (hb hby d5_155) rfl rfl ?_
    refine st36 _ ?_
    refine XS.iconst X36.here hx rfl (hb hby d5_159) ?_
    show Steps p.tables e below (T36.setTop (mkF m 160 #[rv o0, iv t4, rv a_ONE, iv (-1), iv 0] [(.int 1), (.int 0), (.ref o0)])) _
    refine XS.iadd X36.here hx rfl (hb hby d5_160) rfl ?_
    show Steps p.tables e below (T36.setTop (mkF m 161 #[rv o0, iv t4, rv a_ONE, iv (-1), iv 0] [(.int ((0 : Int32) + (1 : Int32))), (.ref o0)])) _
    rw [(by decide : ((0 : Int32) + (1 : Int32)) = (1 : Int32))]
    refine st38 _ ?_
    exact X38.returnOut hx Bd.returns (hb hby d5_164) hr
  · show Q5_0 Z a_ONE a_ZTT e_2 e_3 t0 t1 t2 t3 t4 o0 o1 o2 j0 j1 h0 n0 _ T38.heap _
    rw [e38]
    exact ⟨rfl, N38, KK38, F40, F41, F42, f5, F43, F44, F39, F45, F46⟩
def Q3_1 (Z : State) (a_ONE : Addr) (a_ZTT : Addr) (e_2 : Addr) (e_3 : Addr) (o0 : Addr) (h0 : Heap) (n0 : Nat) (v : Option Value) (h : Heap) (L : List Loc) : Prop := v = some (.int 0) ∧ Fr n0 L ∧ h = h0
set_option maxRecDepth 65536 in
set_option maxHeartbeats 40000000 in
theorem rm3_1 (l : Launch) (Z : State) (a0 : Array Value) (hw : ∀ d ∈ tables_1, d.before a0 Z = true) (ws : List Jvm.Cond) (a_ONE : Addr) (a_ZTT : Addr) (e_2 : Addr) (e_3 : Addr) (o0 : Addr) (h0 : Heap) (n0 : Nat) (FF : Facts Z Z.heap a_ONE a_ZTT e_2 e_3) (OO : Old Z n0 h0) (f0 : Fld Z h0 o0 "com/example/deferra/deferra/crediting/DailyAmounts" "size" "I" (.int 1)) :
    MetFree l (⟨"com/example/deferra/deferra/crediting/DailyAmounts", "isEmpty", "()Z"⟩ : MethodName) (head1 (Jvm.Cond.code (⟨"com/example/deferra/deferra/crediting/DailyAmounts", "isEmpty", "()Z"⟩ : MethodName) prog_24_method_3_code 1 (some .boolean) :: ws) ({ frames := 0, cells := 0, slots := 0, locals := 0 } : Room)) (fun a U => a = #[(.ref o0)] ∧ Z.Warmed39 U.vm ∧ U.heap = h0) (fun _ _ _ _ _ => True) (fun _ U o U' => ∃ v L, o = .returned v ∧ Q3_1 Z a_ONE a_ZTT e_2 e_3 o0 h0 n0 v U'.heap L ∧ FrameEnd U o U' L ({ frames := 0, cells := 0, slots := 0, locals := 0 } : Room).cells ({ frames := 0, cells := 0, slots := 0, locals := 0 } : Room).slots) := by
  refine MetFree.of_bodySF (plainFor_of_name pn_3) hisR ?_
  intro p e s m args below meth c s₁ Bd hml0 hP hK
  obtain ⟨rfl, hZ, hh⟩ := hP
  have hx := Bd.exec
  have hby := Bd.bytes
  have hml : c.maxLocals = 1 := hml0
  have hown : s.vm.findClass "com/example/deferra/deferra/crediting/DailyAmounts" = some m.cls := findClass_of_methodNamed Bd.named
  have X0 : Stand p l e ({ frames := 0, cells := 0, slots := 0, locals := 0 } : Room) s m #[(.ref o0)] below meth c s₁ [] 0 0 := Stand.of_body Bd
  have e0 : s₁.heap = h0 := by rw [← hh, Bd.state]; rfl
  have N0 := Fr.nil n0
  have pre0 : ∀ t, Steps p.tables e below (s₁.setTop (mkF m 0 #[rv o0] [])) t → Steps p.tables e below (s₁.setTop (entryFrame m #[(.ref o0)] 1)) t := fun t k => castTop (ef_3 m o0) k
  obtain ⟨T1, X1, e1, st1⟩ := getF X0 hx hZ hown (host := "") (Or.inl (w_21 hw)) Via.refl e0 f0 (g := (mkF m 1 #[rv o0] [(.ref o0)])) rfl rfl (hb hby d3_1)
  obtain ⟨fs, hr, hrun, hended, hW, hsame⟩ := X1.leave (v := some (.int 0)) (fun h => by rw [Bd.returns] at h; cases h)
  refine ⟨_, _, pre0 _ ?_, hrun, hended, _, _, rfl, ?_, ⟨_, rfl⟩, hW, hsame.mono (by decide) (by decide)⟩
  · show Steps p.tables e below (s₁.setTop (mkF m 0 #[rv o0] [])) _
    refine XS.aloadN X0.here hx rfl (hb hby d3_0) rfl rfl ?_
    refine st1 _ ?_
    refine XS.ifYes X1.here hx rfl (pc0 := 4) (pc' := 11) rfl (hb hby d3_4) rfl (by decide) (by decide) (by decide) ?_
    refine XS.iconst X1.here hx rfl (hb hby d3_11) ?_
    show Steps p.tables e below (T1.setTop (mkF m 12 #[rv o0] [(.int 0)])) _
    exact retN X1 hx (t := .boolean) Bd.returns (by simp) (hb hby d3_12) hr
  · show Q3_1 Z a_ONE a_ZTT e_2 e_3 o0 h0 n0 _ T1.heap _
    exact ⟨rfl, N0, e1⟩
set_option maxRecDepth 65536 in
set_option maxHeartbeats 40000000 in
theorem sg_6 {p : Program} {l : Launch} {e : Env} {s : State} {m : MethodId} {args : Array Value} {below : List Frame} {meth : Method} {c : Code} {T0 : State} {locs : List Loc} {Z : State} {a0 : Array Value} {h0 : Heap} {n0 : Nat} (hw : ∀ d ∈ tables_1, d.before a0 Z = true) (a_ONE : Addr) (a_ZTT : Addr) (e_2 : Addr) (e_3 : Addr) (t0 : Int32) (t1 : Int32) (t2 : Int32) (t3 : Int32) (t4 : Int32) (t5 : Int32) (t6 : Int32) (t7 : Int32) (o0 : Addr) (o1 : Addr) (o2 : Addr) (j0 : ClassId) (j1 : ClassId) (FF : Facts Z Z.heap a_ONE a_ZTT e_2 e_3)
    (X0 : Stand p l e room_1 s m args below meth c T0 locs 3 11) (hx : p.tables.exec = Jvm.exec) (hZ : Z.Warmed39 s.vm) (hby : c.code = code) (hml : c.maxLocals = 8) (hown : s.vm.findClass "com/example/deferra/deferra/crediting/DailyAmountsIsEmptyPinLaw" = some m.cls) (e0 : T0.heap = h0) (N0 : Fr n0 locs) (OO : Old Z n0 h0) (f0 : Fld Z h0 o0 "com/example/deferra/deferra/crediting/DailyAmounts" "days" "[I" (.ref o1)) (f1 : Fld Z h0 o0 "com/example/deferra/deferra/crediting/DailyAmounts" "size" "I" (.int 0)) (f2 : Arv Z h0 o1 j0 .int (4 : Int32) [(.int t0), (.int t1), (.int t2), (.int t3)] (.int 0)) (f3 : Fld Z h0 o0 "com/example/deferra/deferra/crediting/DailyAmounts" "amounts" "[Ljava/math/BigDecimal;" (.ref o2)) (f4 : Arv Z h0 o2 j1 (.object "java/math/BigDecimal") (4 : Int32) [.null, .null, .null, .null] .null) (f5 : Ovr Z j1 "java/math/BigDecimal") (f6 : Exa Z h0 o0 "com/example/deferra/deferra/crediting/DailyAmounts") (f7 : Exa Z h0 o1 "[I") (f8 : Exa Z h0 o2 "[Ljava/math/BigDecimal;") (u0 : n0 ≤ o1) (v0 : o0 ≠ o1) (v1 : o2 ≠ o1) (u1 : n0 ≤ o2) (v2 : o0 ≠ o2) (u2 : n0 ≤ o0) :
    ∃ (T' : State) (h' : Heap) (lc : List Loc), Stand p l e room_1 s m args below meth c T' lc 3 11 ∧ T'.heap = h' ∧ Fr n0 lc ∧ Keep h0 h' [o0, o2, o1] ∧ Fld Z h' o0 "com/example/deferra/deferra/crediting/DailyAmounts" "days" "[I" (.ref o1) ∧ Fld Z h' o0 "com/example/deferra/deferra/crediting/DailyAmounts" "size" "I" (.int 1) ∧ Fld Z h' o0 "com/example/deferra/deferra/crediting/DailyAmounts" "amounts" "[Ljava/math/BigDecimal;" (.ref o2) ∧ Exa Z h' o0 "com/example/deferra/deferra/crediting/DailyAmounts" ∧ Arv Z h' o2 j1 (.object "java/math/BigDecimal") (4 : Int32) [(.ref a_ONE), .null, .null, .null] .null ∧ Ovr Z j1 "java/math/BigDecimal" ∧ Exa Z h' o2 "[Ljava/math/BigDecimal;" ∧ Arv Z h' o1 j0 .int (4 : Int32) [(.int t4), (.int t1), (.int t2), (.int t3)] (.int 0) ∧ Exa Z h' o1 "[I" ∧
      ∀ target, Steps p.tables e below (T'.setTop (mkF m 72 #[iv t5, iv t4, iv t6, iv t7, iv 1, rv o0, iv 1, .unset] [])) target → Steps p.tables e below (T0.setTop (mkF m 37 #[iv t5, iv t4, iv t6, iv t7, iv 1, rv o0, iv 1, .unset] [])) target := by
  obtain ⟨T1, X1, e1, st1⟩ := getS2 X0 hx hZ hown (host := "") (Or.inl (w_28 hw)) Via.refl e0 (Sta.ext OO.2 (fx_S_ONE FF)) (g := (mkF m 46 #[iv t5, iv t4, iv t6, iv t7, iv 1, rv o0, iv 1, .unset] [(.int t4), (.ref o0)])) rfl (hb hby at_46)
  obtain ⟨cq2, kq2, q2a, q2b, q2c⟩ := isOf hZ e1 f6
  obtain ⟨_, _, ⟨T2, L2, k2, n2⟩, -, X2, ⟨Lc2, hQ2, l2, y2, z2⟩, st2⟩ := X1.virtualBack hx (y := (⟨"com/example/deferra/deferra/crediting/DailyAmounts", "add", "(ILjava/math/BigDecimal;)V"⟩ : MethodName)) (z := (⟨"com/example/deferra/deferra/crediting/DailyAmounts", "add", "(ILjava/math/BigDecimal;)V"⟩ : MethodName)) hown (mvT hZ (w_30 hw)) (mvT hZ (w_31 hw)) (notFace_of_selects (args := #[]) (mvT hZ (w_33 hw))) (mvT hZ (w_33 hw)) (mvT hZ (w_32 hw)) (by decide) (backOf (W := 0) (rm5_0 l Z a0 hw [] a_ONE a_ZTT e_2 e_3 t0 t1 t2 t3 t4 o0 o1 o2 j0 j1 h0 n0 FF OO f0 f1 f2 u0 f3 v0 f4 v1 u1 v2 f5 f6 u2 f7 f8) hZ (w_34 hw) (w_2 hw) (by decide) (by decide)) q2a q2c (g := (mkF m 49 #[iv t5, iv t4, iv t6, iv t7, iv 1, rv o0, iv 1, .unset] [(.ref a_ONE), (.int t4), (.ref o0)])) rfl (by rw [hml]; rfl) (Steps.refl _) (argsL := [(.int t4), (.ref a_ONE)]) (rest := []) (lenOf pd_5 rfl) rfl (by show 2 * 0 + _ ≤ _; exact Nat.le_of_eq rfl) (hb hby at_49) (fun _ _ => ⟨rfl, e1, (by decide : 3 + 0 ≤ _), (by decide : 11 + 0 ≤ _)⟩)
  dsimp only [Pt.U, Pt.locs, Pt.cells, Pt.slots] at X2 l2 y2 z2 st2 hQ2
  subst l2 y2 z2
  obtain ⟨h2, e2⟩ : ∃ z, T2.heap = z := ⟨_, rfl⟩
  rw [e2] at hQ2
  obtain ⟨rfl, N2q, K2, R2_0, R2_1, R2_2, R2_3, R2_4, R2_5, R2_6, R2_7, R2_8⟩ := hQ2
  have N2 := Fr.app N0 N2q
  have O2 := Old.keep OO K2 (allS u0 (allS u1 (allS u2 all0)))
  have KK2 : Keep h0 h2 [o0, o2, o1] := Keep.trans (Keep.refl h0 [o0, o2, o1]) K2 (allS (Or.inl (List.mem_of_getElem? (i := 2) rfl)) (allS (Or.inl (List.mem_of_getElem? (i := 1) rfl)) (allS (Or.inl (List.mem_of_getElem? (i := 0) rfl)) all0)))
  obtain ⟨cq3, kq3, q3a, q3b, q3c⟩ := isOf hZ e2 R2_8
  obtain ⟨_, _, ⟨T3, L3, k3, n3⟩, -, X3, ⟨Lc3, hQ3, l3, y3, z3⟩, st3⟩ := X2.virtualBack hx (y := (⟨"com/example/deferra/deferra/crediting/DailyAmounts", "isEmpty", "()Z"⟩ : MethodName)) (z := (⟨"com/example/deferra/deferra/crediting/DailyAmounts", "isEmpty", "()Z"⟩ : MethodName)) hown (mvT hZ (w_16 hw)) (mvT hZ (w_17 hw)) (notFace_of_selects (args := #[]) (mvT hZ (w_19 hw))) (mvT hZ (w_19 hw)) (mvT hZ (w_18 hw)) (by decide) (backOf (W := 0) (rm3_1 l Z a0 hw [] a_ONE a_ZTT e_2 e_3 o0 h2 n0 FF O2 R2_6) hZ (w_20 hw) (w_2 hw) (by decide) (by decide)) q3a q3c (g := (mkF m 59 #[iv t5, iv t4, iv t6, iv t7, iv 1, rv o0, iv 1, .unset] [(.ref o0)])) rfl (by rw [hml]; rfl) (Steps.refl _) (argsL := []) (rest := []) (lenOf pd_1 rfl) rfl (by show 2 * 0 + _ ≤ _; exact Nat.le_of_eq rfl) (hb hby at_59) (fun _ _ => ⟨rfl, e2, (by decide : 3 + 0 ≤ _), (by decide : 11 + 0 ≤ _)⟩)
  dsimp only [Pt.U, Pt.locs, Pt.cells, Pt.slots] at X3 l3 y3 z3 st3 hQ3
  subst l3 y3 z3
  obtain ⟨rfl, N3q, e3⟩ := hQ3
  have N3 := Fr.app N2 N3q
  refine ⟨T3, h2, _, X3, e3, N3, KK2, R2_5, R2_6, R2_7, R2_8, R2_2, R2_3, R2_4, R2_0, R2_1, fun target kt => ?_⟩
  show Steps p.tables e below (T0.setTop (mkF m 37 #[iv t5, iv t4, iv t6, iv t7, iv 1, rv o0, iv 1, .unset] [])) _
  refine XS.iload X0.here hx rfl (hb hby at_37) rfl ?_
  refine XS.iconst X0.here hx rfl (hb hby at_39) ?_
  refine XS.icmpNo X0.here hx rfl (hb hby at_40) rfl (by decide) ?_
  refine XS.aload X0.here hx rfl (hb hby at_43) rfl rfl ?_
  show Steps p.tables e below (T0.setTop (mkF m 45 #[iv t5, iv t4, iv t6, iv t7, iv 1, rv o0, iv 1, .unset] [(.ref o0)])) _
  refine XS.iloadN X0.here hx rfl (hb hby at_45) rfl ?_
  refine st1 _ ?_
  refine st2.trans ?_
  refine XS.iload X2.here hx rfl (hb hby at_52) rfl ?_
  show Steps p.tables e below (T2.setTop (mkF m 54 #[iv t5, iv t4, iv t6, iv t7, iv 1, rv o0, iv 1, .unset] [(.int 1)])) _
  refine XS.ifNo X2.here hx rfl (hb hby at_54) rfl (by decide) ?_
  refine XS.aload X2.here hx rfl (hb hby at_57) rfl rfl ?_
  refine st3.trans ?_
  refine XS.ifNo X3.here hx rfl (hb hby at_62) rfl (by decide) ?_
  show Steps p.tables e below (T3.setTop (mkF m 65 #[iv t5, iv t4, iv t6, iv t7, iv 1, rv o0, iv 1, .unset] [])) _
  refine XS.iconst X3.here hx rfl (hb hby at_65) ?_
  refine XS.goto X3.here hx rfl (pc0 := 66) (pc' := 70) rfl (hb hby at_66) (by decide) (by decide) ?_
  refine XS.istore X3.here hx rfl (hb hby at_70) rfl (l' := #[iv t5, iv t4, iv t6, iv t7, iv 1, rv o0, iv 1, .unset]) rfl ?_
  exact kt
set_option maxRecDepth 65536 in
set_option maxHeartbeats 40000000 in
theorem sg_7 {p : Program} {l : Launch} {e : Env} {s : State} {m : MethodId} {args : Array Value} {below : List Frame} {meth : Method} {c : Code} {T0 : State} {locs : List Loc} {Z : State} {a0 : Array Value} {h0 : Heap} {n0 : Nat} (hw : ∀ d ∈ tables_1, d.before a0 Z = true) (a_ONE : Addr) (a_ZTT : Addr) (e_2 : Addr) (e_3 : Addr) (t0 : Int32) (t1 : Int32) (t2 : Int32) (t3 : Int32) (t4 : Int32) (o0 : Addr) (FF : Facts Z Z.heap a_ONE a_ZTT e_2 e_3)
    (X0 : Stand p l e room_1 s m args below meth c T0 locs 3 11) (hx : p.tables.exec = Jvm.exec) (hZ : Z.Warmed39 s.vm) (hby : c.code = code) (hml : c.maxLocals = 8) (hown : s.vm.findClass "com/example/deferra/deferra/crediting/DailyAmountsIsEmptyPinLaw" = some m.cls) (e0 : T0.heap = h0) (N0 : Fr n0 locs) (OO : Old Z n0 h0) :
    ∃ (T' : State) (h' : Heap) (lc : List Loc), Stand p l e room_1 s m args below meth c T' lc 3 11 ∧ T'.heap = h' ∧ Fr n0 lc ∧ Keep h0 h' [] ∧
      ∀ target, Steps p.tables e below (T'.setTop (mkF m 107 #[iv t0, iv t1, iv t2, iv t3, iv 1, rv o0, iv t4, .unset] [])) target → Steps p.tables e below (T0.setTop (mkF m 72 #[iv t0, iv t1, iv t2, iv t3, iv 1, rv o0, iv t4, .unset] [])) target := by
  refine ⟨T0, h0, _, X0, e0, N0, (Keep.refl h0 []), fun target kt => ?_⟩
  show Steps p.tables e below (T0.setTop (mkF m 72 #[iv t0, iv t1, iv t2, iv t3, iv 1, rv o0, iv t4, .unset] [])) _
  refine XS.iload X0.here hx rfl (hb hby at_72) rfl ?_
  refine XS.iconst X0.here hx rfl (hb hby at_74) ?_
  refine XS.icmpYes X0.here hx rfl (pc0 := 75) (pc' := 107) rfl (hb hby at_75) rfl (by decide) (by decide) (by decide) ?_
  exact kt
set_option maxRecDepth 65536 in
set_option maxHeartbeats 40000000 in
theorem sg_8 {p : Program} {l : Launch} {e : Env} {s : State} {m : MethodId} {args : Array Value} {below : List Frame} {meth : Method} {c : Code} {T0 : State} {locs : List Loc} {Z : State} {a0 : Array Value} {h0 : Heap} {n0 : Nat} (hw : ∀ d ∈ tables_1, d.before a0 Z = true) (a_ONE : Addr) (a_ZTT : Addr) (e_2 : Addr) (e_3 : Addr) (t0 : Int32) (t1 : Int32) (t2 : Int32) (t3 : Int32) (t4 : Int32) (o0 : Addr) (FF : Facts Z Z.heap a_ONE a_ZTT e_2 e_3)
    (X0 : Stand p l e room_1 s m args below meth c T0 locs 3 11) (hx : p.tables.exec = Jvm.exec) (hZ : Z.Warmed39 s.vm) (hby : c.code = code) (hml : c.maxLocals = 8) (hown : s.vm.findClass "com/example/deferra/deferra/crediting/DailyAmountsIsEmptyPinLaw" = some m.cls) (e0 : T0.heap = h0) (N0 : Fr n0 locs) (OO : Old Z n0 h0) :
    ∃ (T' : State) (h' : Heap) (lc : List Loc), Stand p l e room_1 s m args below meth c T' lc 3 11 ∧ T'.heap = h' ∧ Fr n0 lc ∧ Keep h0 h' [] ∧
      ∀ target, Steps p.tables e below (T'.setTop (mkF m 142 #[iv t0, iv t1, iv t2, iv t3, iv 1, rv o0, iv t4, .unset] [])) target → Steps p.tables e below (T0.setTop (mkF m 107 #[iv t0, iv t1, iv t2, iv t3, iv 1, rv o0, iv t4, .unset] [])) target := by
  refine ⟨T0, h0, _, X0, e0, N0, (Keep.refl h0 []), fun target kt => ?_⟩
  show Steps p.tables e below (T0.setTop (mkF m 107 #[iv t0, iv t1, iv t2, iv t3, iv 1, rv o0, iv t4, .unset] [])) _
  refine XS.iload X0.here hx rfl (hb hby at_107) rfl ?_
  refine XS.iconst X0.here hx rfl (hb hby at_109) ?_
  refine XS.icmpYes X0.here hx rfl (pc0 := 110) (pc' := 142) rfl (hb hby at_110) rfl (by decide) (by decide) (by decide) ?_
  exact kt
set_option maxRecDepth 65536 in
set_option maxHeartbeats 40000000 in
theorem sg_9 {p : Program} {l : Launch} {e : Env} {s : State} {m : MethodId} {args : Array Value} {below : List Frame} {meth : Method} {c : Code} {T0 : State} {locs : List Loc} {Z : State} {a0 : Array Value} {h0 : Heap} {n0 : Nat} (hw : ∀ d ∈ tables_1, d.before a0 Z = true) (a_ONE : Addr) (a_ZTT : Addr) (e_2 : Addr) (e_3 : Addr) (t0 : Int32) (t1 : Int32) (t2 : Int32) (t3 : Int32) (o0 : Addr) (FF : Facts Z Z.heap a_ONE a_ZTT e_2 e_3)
    (X0 : Stand p l e room_1 s m args below meth c T0 locs 3 11) (hx : p.tables.exec = Jvm.exec) (hZ : Z.Warmed39 s.vm) (hby : c.code = code) (hml : c.maxLocals = 8) (hown : s.vm.findClass "com/example/deferra/deferra/crediting/DailyAmountsIsEmptyPinLaw" = some m.cls) (e0 : T0.heap = h0) (N0 : Fr n0 locs) (OO : Old Z n0 h0) (f0 : Fld Z h0 o0 "com/example/deferra/deferra/crediting/DailyAmounts" "size" "I" (.int 1)) (f1 : Exa Z h0 o0 "com/example/deferra/deferra/crediting/DailyAmounts") :
    ∃ (T' : State) (h' : Heap) (lc : List Loc), Stand p l e room_1 s m args below meth c T' lc 3 11 ∧ T'.heap = h' ∧ Fr n0 lc ∧ Keep h0 h' [] ∧
      ∀ target, Steps p.tables e below (T'.setTop (mkF m 192 #[iv t0, iv t1, iv t2, iv t3, iv 1, rv o0, iv 1, iv 0] [(.int 1)])) target → Steps p.tables e below (T0.setTop (mkF m 142 #[iv t0, iv t1, iv t2, iv t3, iv 1, rv o0, iv 1, .unset] [])) target := by
  obtain ⟨cq1, kq1, q1a, q1b, q1c⟩ := isOf hZ e0 f1
  obtain ⟨_, _, ⟨T1, L1, k1, n1⟩, -, X1, ⟨Lc1, hQ1, l1, y1, z1⟩, st1⟩ := X0.virtualBack hx (y := (⟨"com/example/deferra/deferra/crediting/DailyAmounts", "isEmpty", "()Z"⟩ : MethodName)) (z := (⟨"com/example/deferra/deferra/crediting/DailyAmounts", "isEmpty", "()Z"⟩ : MethodName)) hown (mvT hZ (w_16 hw)) (mvT hZ (w_17 hw)) (notFace_of_selects (args := #[]) (mvT hZ (w_19 hw))) (mvT hZ (w_19 hw)) (mvT hZ (w_18 hw)) (by decide) (backOf (W := 0) (rm3_1 l Z a0 hw [] a_ONE a_ZTT e_2 e_3 o0 h0 n0 FF OO f0) hZ (w_20 hw) (w_2 hw) (by decide) (by decide)) q1a q1c (g := (mkF m 144 #[iv t0, iv t1, iv t2, iv t3, iv 1, rv o0, iv 1, .unset] [(.ref o0)])) rfl (by rw [hml]; rfl) (Steps.refl _) (argsL := []) (rest := []) (lenOf pd_1 rfl) rfl (by show 2 * 0 + _ ≤ _; exact Nat.le_of_eq rfl) (hb hby at_144) (fun _ _ => ⟨rfl, e0, (by decide : 3 + 0 ≤ _), (by decide : 11 + 0 ≤ _)⟩)
  dsimp only [Pt.U, Pt.locs, Pt.cells, Pt.slots] at X1 l1 y1 z1 st1 hQ1
  subst l1 y1 z1
  obtain ⟨rfl, N1q, e1⟩ := hQ1
  have N1 := Fr.app N0 N1q
  obtain ⟨cq2, kq2, q2a, q2b, q2c⟩ := isOf hZ e1 f1
  obtain ⟨_, _, ⟨T2, L2, k2, n2⟩, -, X2, ⟨Lc2, hQ2, l2, y2, z2⟩, st2⟩ := X1.virtualBack hx (y := (⟨"com/example/deferra/deferra/crediting/DailyAmounts", "size", "()I"⟩ : MethodName)) (z := (⟨"com/example/deferra/deferra/crediting/DailyAmounts", "size", "()I"⟩ : MethodName)) hown (mvT hZ (w_23 hw)) (mvT hZ (w_24 hw)) (notFace_of_selects (args := #[]) (mvT hZ (w_26 hw))) (mvT hZ (w_26 hw)) (mvT hZ (w_25 hw)) (by decide) (backOf (W := 1) (rm4_0 l Z a0 hw [] a_ONE a_ZTT e_2 e_3 (1 : Int32) o0 h0 n0 FF OO f0) hZ (w_27 hw) (w_2 hw) (by decide) (by decide)) q2a q2c (g := (mkF m 158 #[iv t0, iv t1, iv t2, iv t3, iv 1, rv o0, iv 1, iv 0] [(.ref o0), (.int 0)])) rfl (by rw [hml]; rfl) (Steps.refl _) (argsL := []) (rest := [(.int 0)]) (lenOf pd_2 rfl) rfl (by show 2 * 0 + _ ≤ _; exact Nat.le_of_eq rfl) (hb hby at_158) (fun _ _ => ⟨rfl, e1, (by decide : 3 + 0 ≤ _), (by decide : 11 + 0 ≤ _)⟩)
  dsimp only [Pt.U, Pt.locs, Pt.cells, Pt.slots] at X2 l2 y2 z2 st2 hQ2
  subst l2 y2 z2
  obtain ⟨rfl, N2q, e2⟩ := hQ2
  have N2 := Fr.app N1 N2q
  refine ⟨T2, h0, _, X2, e2, N2, (Keep.refl h0 []), fun target kt => ?_⟩
  show Steps p.tables e below (T0.setTop (mkF m 142 #[iv t0, iv t1, iv t2, iv t3, iv 1, rv o0, iv 1, .unset] [])) _
  refine XS.aload X0.here hx rfl (hb hby at_142) rfl rfl ?_
  refine st1.trans ?_
  refine XS.istore X1.here hx rfl (hb hby at_147) rfl (l' := #[iv t0, iv t1, iv t2, iv t3, iv 1, rv o0, iv 1, iv 0]) rfl ?_
  refine XS.iload X1.here hx rfl (hb hby at_149) rfl ?_
  show Steps p.tables e below (T1.setTop (mkF m 151 #[iv t0, iv t1, iv t2, iv t3, iv 1, rv o0, iv 1, iv 0] [(.int 1)])) _
  refine XS.ifNo X1.here hx rfl (hb hby at_151) rfl (by decide) ?_
  refine XS.iload X1.here hx rfl (hb hby at_154) rfl ?_
  refine XS.aload X1.here hx rfl (hb hby at_156) rfl rfl ?_
  refine st2.trans ?_
  show Steps p.tables e below (T2.setTop (mkF m 161 #[iv t0, iv t1, iv t2, iv t3, iv 1, rv o0, iv 1, iv 0] [(.int 1), (.int 0)])) _
  refine XS.ifYes X2.here hx rfl (pc0 := 161) (pc' := 168) rfl (hb hby at_161) rfl (by decide) (by decide) (by decide) ?_
  refine XS.iconst X2.here hx rfl (hb hby at_168) ?_
  refine XS.icmpNo X2.here hx rfl (hb hby at_169) rfl (by decide) ?_
  refine XS.iload X2.here hx rfl (hb hby at_172) rfl ?_
  show Steps p.tables e below (T2.setTop (mkF m 174 #[iv t0, iv t1, iv t2, iv t3, iv 1, rv o0, iv 1, iv 0] [(.int 0)])) _
  refine XS.iload X2.here hx rfl (hb hby at_174) rfl ?_
  refine XS.ifYes X2.here hx rfl (pc0 := 176) (pc' := 183) rfl (hb hby at_176) rfl (by decide) (by decide) (by decide) ?_
  refine XS.iconst X2.here hx rfl (hb hby at_183) ?_
  refine XS.icmpNo X2.here hx rfl (hb hby at_184) rfl (by decide) ?_
  show Steps p.tables e below (T2.setTop (mkF m 187 #[iv t0, iv t1, iv t2, iv t3, iv 1, rv o0, iv 1, iv 0] [])) _
  refine XS.iconst X2.here hx rfl (hb hby at_187) ?_
  refine XS.goto X2.here hx rfl (pc0 := 188) (pc' := 192) rfl (hb hby at_188) (by decide) (by decide) ?_
  exact kt
set_option maxRecDepth 65536 in
set_option maxHeartbeats 40000000 in
theorem rm0_1 (l : Launch) (Z : State) (a0 : Array Value) (hw : ∀ d ∈ tables_1, d.before a0 Z = true) (ws : List Jvm.Cond) (a_ONE : Addr) (a_ZTT : Addr) (e_2 : Addr) (e_3 : Addr) (p0 : Int32) (p1 : Int32) (p2 : Int32) (p3 : Int32) (h0 : Heap) (n0 : Nat) (FF : Facts Z Z.heap a_ONE a_ZTT e_2 e_3) (OO : Old Z n0 h0) (hk0 : (p0 &&& (3 : Int32)) = (1 : Int32)) :
    MetFree l x (head1 (Jvm.Cond.code x code maxLocals ret :: ws) room_1) (fun a U => a = #[(.int p0), (.int p1), (.int p2), (.int p3)] ∧ Z.Warmed39 U.vm ∧ U.heap = h0) (fun _ _ _ _ _ => True) (fun _ U o U' => ∃ v L, o = .returned v ∧ (v = some (.int (1 : Int32)) ∧ Fr n0 L) ∧ FrameEnd U o U' L room_1.cells room_1.slots) := by
  refine MetFree.of_bodySF (plainFor_of_name pn_0) hisR ?_
  intro p e s m args below meth c s₁ Bd hml0 hP hK
  obtain ⟨rfl, hZ, hh⟩ := hP
  have hx := Bd.exec
  have hby := Bd.bytes
  have hml : c.maxLocals = 8 := hml0
  have hown : s.vm.findClass "com/example/deferra/deferra/crediting/DailyAmountsIsEmptyPinLaw" = some m.cls := findClass_of_methodNamed Bd.named
  have X0 : Stand p l e room_1 s m #[(.int p0), (.int p1), (.int p2), (.int p3)] below meth c s₁ [] 0 0 := Stand.of_body Bd
  have e0 : s₁.heap = h0 := by rw [← hh, Bd.state]; rfl
  have N0 := Fr.nil n0
  have pre0 : ∀ t, Steps p.tables e below (s₁.setTop (mkF m 0 #[iv p0, iv p1, iv p2, iv p3, .unset, .unset, .unset, .unset] [])) t → Steps p.tables e below (s₁.setTop (entryFrame m #[(.int p0), (.int p1), (.int p2), (.int p3)] maxLocals)) t := fun t k => castTop (ef_0 m p0 p1 p2 p3) k
  obtain ⟨T1, h1, lc1, b1, b2, b3, kb2, kb3, X1, e1, N1, K1, sp1_b1, sp1_b2, sp1_b3, ne1_b1_b2, ne1_b1_b3, ne1_b2_b3, R1_0, R1_1, R1_2, R1_3, R1_4, R1_5, R1_6, R1_7, R1_8, st1⟩ := sg_5 hw a_ONE a_ZTT e_2 e_3 p0 p1 p2 p3 FF X0 hx hZ hby hml hown e0 N0 OO hk0
  have g2 : n0 ≤ b1 := Nat.le_trans (own_le OO) sp1_b1
  have g3 : n0 ≤ b2 := Nat.le_trans (own_le OO) sp1_b2
  have g4 : n0 ≤ b3 := Nat.le_trans (own_le OO) sp1_b3
  have O1 := Old.keep OO K1 all0
  obtain ⟨T5, h5, lc5, X5, e5, N5, K5, R5_0, R5_1, R5_2, R5_3, R5_4, R5_5, R5_6, R5_7, R5_8, st5⟩ := sg_6 hw a_ONE a_ZTT e_2 e_3 (0 : Int32) (0 : Int32) (0 : Int32) (0 : Int32) p1 p0 p2 p3 b1 b2 b3 kb2 kb3 FF X1 hx hZ hby hml hown e1 N1 O1 R1_1 R1_3 R1_5 R1_2 R1_7 R1_8 R1_0 R1_4 R1_6 g3 ne1_b1_b2 (Ne.symm ne1_b2_b3) g4 ne1_b1_b3 g2
  have O5 := Old.keep O1 K5 (allS g2 (allS g4 (allS g3 all0)))
  obtain ⟨T6, h6, lc6, X6, e6, N6, K6, st6⟩ := sg_7 hw a_ONE a_ZTT e_2 e_3 p0 p1 p2 p3 (1 : Int32) b1 FF X5 hx hZ hby hml hown e5 N5 O5
  have O6 := Old.keep O5 K6 all0
  obtain ⟨T7, h7, lc7, X7, e7, N7, K7, st7⟩ := sg_8 hw a_ONE a_ZTT e_2 e_3 p0 p1 p2 p3 (1 : Int32) b1 FF X6 hx hZ hby hml hown e6 N6 O6
  have O7 := Old.keep O6 K7 all0
  have F9 : Fld Z h7 b1 "com/example/deferra/deferra/crediting/DailyAmounts" "size" "I" (.int 1) := (Fld.keep (Fld.keep R5_1 K6 nin0) K7 nin0)
  have F10 : Exa Z h7 b1 "com/example/deferra/deferra/crediting/DailyAmounts" := (Exa.keep (Exa.keep R5_3 K6) K7)
  obtain ⟨T8, h8, lc8, X8, e8, N8, K8, st8⟩ := sg_9 hw a_ONE a_ZTT e_2 e_3 p0 p1 p2 p3 b1 FF X7 hx hZ hby hml hown e7 N7 O7 F9 F10
  have O8 := Old.keep O7 K8 all0
  obtain ⟨fs, hr, hrun, hended, hW, hsame⟩ := X8.leave (v := some (.int 1)) (fun h => by rw [Bd.returns] at h; cases h)
  refine ⟨_, _, pre0 _ ?_, hrun, hended, _, _, rfl, ?_, ⟨_, rfl⟩, hW, hsame.mono (by decide) (by decide)⟩
  · show Steps p.tables e below (s₁.setTop (mkF m 0 #[iv p0, iv p1, iv p2, iv p3, .unset, .unset, .unset, .unset] [])) _
    refine st1 _ ?_
    show Steps p.tables e below (T1.setTop (mkF m 37 #[iv p0, iv p1, iv p2, iv p3, iv 1, rv b1, iv 1, .unset] [])) _
    refine st5 _ ?_
    show Steps p.tables e below (T5.setTop (mkF m 72 #[iv p0, iv p1, iv p2, iv p3, iv 1, rv b1, iv 1, .unset] [])) _
    refine st6 _ ?_
    show Steps p.tables e below (T6.setTop (mkF m 107 #[iv p0, iv p1, iv p2, iv p3, iv 1, rv b1, iv 1, .unset] [])) _
    refine st7 _ ?_
    show Steps p.tables e below (T7.setTop (mkF m 142 #[iv p0, iv p1, iv p2, iv p3, iv 1, rv b1, iv 1, .unset] [])) _
    refine st8 _ ?_
    exact retN X8 hx (t := .boolean) Bd.returns (by simp) (hb hby at_192) hr
  · exact ⟨rfl, N8⟩
set_option maxRecDepth 65536 in
set_option maxHeartbeats 40000000 in
theorem sg_10 {p : Program} {l : Launch} {e : Env} {s : State} {m : MethodId} {args : Array Value} {below : List Frame} {meth : Method} {c : Code} {T0 : State} {locs : List Loc} {Z : State} {a0 : Array Value} {h0 : Heap} {n0 : Nat} (hw : ∀ d ∈ tables_1, d.before a0 Z = true) (a_ONE : Addr) (a_ZTT : Addr) (e_2 : Addr) (e_3 : Addr) (t0 : Int32) (t1 : Int32) (t2 : Int32) (t3 : Int32) (FF : Facts Z Z.heap a_ONE a_ZTT e_2 e_3)
    (X0 : Stand p l e room_1 s m args below meth c T0 locs 0 0) (hx : p.tables.exec = Jvm.exec) (hZ : Z.Warmed39 s.vm) (hby : c.code = code) (hml : c.maxLocals = 8) (hown : s.vm.findClass "com/example/deferra/deferra/crediting/DailyAmountsIsEmptyPinLaw" = some m.cls) (e0 : T0.heap = h0) (N0 : Fr n0 locs) (OO : Old Z n0 h0) (hk0 : (t0 &&& (3 : Int32)) = (2 : Int32)) :
    ∃ (T' : State) (h' : Heap) (lc : List Loc) (o0 o1 o2 : Addr) (j0 j1 : ClassId), Stand p l e room_1 s m args below meth c T' lc 3 11 ∧ T'.heap = h' ∧ Fr n0 lc ∧ Keep h0 h' [] ∧ h0.size ≤ o0 ∧ h0.size ≤ o1 ∧ h0.size ≤ o2 ∧ o0 ≠ o1 ∧ o0 ≠ o2 ∧ o1 ≠ o2 ∧ Exa Z h' o0 "com/example/deferra/deferra/crediting/DailyAmounts" ∧ Fld Z h' o0 "com/example/deferra/deferra/crediting/DailyAmounts" "days" "[I" (.ref o1) ∧ Fld Z h' o0 "com/example/deferra/deferra/crediting/DailyAmounts" "amounts" "[Ljava/math/BigDecimal;" (.ref o2) ∧ Fld Z h' o0 "com/example/deferra/deferra/crediting/DailyAmounts" "size" "I" (.int 0) ∧ Exa Z h' o1 "[I" ∧ Arv Z h' o1 j0 .int (4 : Int32) [(.int 0), (.int 0), (.int 0), (.int 0)] (.int 0) ∧ Exa Z h' o2 "[Ljava/math/BigDecimal;" ∧ Arv Z h' o2 j1 (.object "java/math/BigDecimal") (4 : Int32) [.null, .null, .null, .null] .null ∧ Ovr Z j1 "java/math/BigDecimal" ∧
      ∀ target, Steps p.tables e below (T'.setTop (mkF m 37 #[iv t0, iv t1, iv t2, iv t3, iv 2, rv o0, iv 1, .unset] [])) target → Steps p.tables e below (T0.setTop (mkF m 0 #[iv t0, iv t1, iv t2, iv t3, .unset, .unset, .unset, .unset] [])) target := by
  obtain ⟨T1, h1, X1, e1, E1, A1, D1, -, st1⟩ := newO X0 hx hZ hown (w_0 hw) (w_1 hw) (w_2 hw) e0 (g := (mkF m 5 #[iv t0, iv t1, iv t2, iv t3, iv 2, .unset, .unset, .unset] [])) rfl (hb hby at_5) (by decide) (by decide)
  obtain ⟨o0, g1⟩ : ∃ z, z = h0.size := ⟨_, rfl⟩
  rw [← g1] at A1 D1 st1
  have g2 : n0 ≤ o0 := Nat.le_trans (own_le OO) (Nat.le_of_eq g1.symm)
  have s3 : h0.size ≤ o0 := Nat.le_trans ((Keep.refl h0 [])).1 (Nat.le_of_eq g1.symm)
  have O1 := Old.ext OO E1
  have KK1 : Keep h0 h1 [] := Keep.ext (Keep.refl h0 []) E1
  have F4 : Fld Z h1 o0 "com/example/deferra/deferra/crediting/DailyAmounts" "days" "[I" .null := D1 (Or.inl (w_11 hw)) (ty := (.array .int)) (by decide)
  have F5 : Fld Z h1 o0 "com/example/deferra/deferra/crediting/DailyAmounts" "amounts" "[Ljava/math/BigDecimal;" .null := D1 (Or.inl (w_15 hw)) (ty := (.array (.object "java/math/BigDecimal"))) (by decide)
  have F6 : Fld Z h1 o0 "com/example/deferra/deferra/crediting/DailyAmounts" "size" "I" (.int 0) := D1 (Or.inl (w_22 hw)) (ty := .int) (by decide)
  obtain ⟨_, _, ⟨T7, L7, k7, n7⟩, -, X7, ⟨Lc7, hQ7, l7, y7, z7⟩, st7⟩ := X1.specialBack hx (y := (⟨"com/example/deferra/deferra/crediting/DailyAmounts", "<init>", "()V"⟩ : MethodName)) rfl hown (mvT hZ (w_3 hw)) (mvT hZ (w_4 hw)) (mvT hZ (w_5 hw)) (by decide) (backOf (W := 1) (rm1_0 l Z a0 hw [] a_ONE a_ZTT e_2 e_3 (0 : Int32) o0 h1 n0 FF O1 F4 A1 g2 F5 F6) hZ (w_5 hw) (w_2 hw) (by decide) (by decide)) (g := (mkF m 9 #[iv t0, iv t1, iv t2, iv t3, iv 2, .unset, .unset, .unset] [(.ref o0), (.ref o0)])) rfl (by rw [hml]; rfl) (Steps.refl _) (a := o0) (argsL := []) (rest := [(.ref o0)]) (lenOf pd_0 rfl) rfl (by show 2 * 0 + _ ≤ _; exact Nat.le_of_eq rfl) (hb hby at_9) (fun _ _ => ⟨rfl, e1, (by decide : 1 + 2 ≤ _), (by decide : 3 + 8 ≤ _)⟩)
  dsimp only [Pt.U, Pt.locs, Pt.cells, Pt.slots] at X7 l7 y7 z7 st7 hQ7
  subst l7 y7 z7
  obtain ⟨h7, e7⟩ : ∃ z, T7.heap = z := ⟨_, rfl⟩
  rw [e7] at hQ7
  obtain ⟨o1, o2, j0, j1, rfl, N7q, K7, sp7_o1, sp7_o2, ne7_o1_o2, R7_0, R7_1, R7_2, R7_3, R7_4, R7_5, R7_6, R7_7, R7_8⟩ := hQ7
  have N7 := Fr.app N0 N7q
  have g8 : n0 ≤ o1 := Nat.le_trans (own_le O1) sp7_o1
  have s9 : h0.size ≤ o1 := Nat.le_trans (KK1).1 sp7_o1
  have g10 : n0 ≤ o2 := Nat.le_trans (own_le O1) sp7_o2
  have s11 : h0.size ≤ o2 := Nat.le_trans (KK1).1 sp7_o2
  have O7 := Old.keep O1 K7 (allS g2 all0)
  have KK7 : Keep h0 h7 [] := Keep.trans KK1 K7 (allS (Or.inr s3) all0)
  obtain ⟨cq12, kq12, q12a, q12b, q12c⟩ := isOf hZ e7 R7_6
  obtain ⟨_, _, ⟨T12, L12, k12, n12⟩, -, X12, ⟨Lc12, hQ12, l12, y12, z12⟩, st12⟩ := X7.virtualBack hx (y := (⟨"com/example/deferra/deferra/crediting/DailyAmounts", "isEmpty", "()Z"⟩ : MethodName)) (z := (⟨"com/example/deferra/deferra/crediting/DailyAmounts", "isEmpty", "()Z"⟩ : MethodName)) hown (mvT hZ (w_16 hw)) (mvT hZ (w_17 hw)) (notFace_of_selects (args := #[]) (mvT hZ (w_19 hw))) (mvT hZ (w_19 hw)) (mvT hZ (w_18 hw)) (by decide) (backOf (W := 0) (rm3_0 l Z a0 hw [] a_ONE a_ZTT e_2 e_3 o0 h7 n0 FF O7 R7_8) hZ (w_20 hw) (w_2 hw) (by decide) (by decide)) q12a q12c (g := (mkF m 16 #[iv t0, iv t1, iv t2, iv t3, iv 2, rv o0, .unset, .unset] [(.ref o0)])) rfl (by rw [hml]; rfl) (Steps.refl _) (argsL := []) (rest := []) (lenOf pd_1 rfl) rfl (by show 2 * 0 + _ ≤ _; exact Nat.le_of_eq rfl) (hb hby at_16) (fun _ _ => ⟨rfl, e7, (by decide : 3 + 0 ≤ _), (by decide : 11 + 0 ≤ _)⟩)
  dsimp only [Pt.U, Pt.locs, Pt.cells, Pt.slots] at X12 l12 y12 z12 st12 hQ12
  subst l12 y12 z12
  obtain ⟨rfl, N12q, e12⟩ := hQ12
  have N12 := Fr.app N7 N12q
  obtain ⟨cq13, kq13, q13a, q13b, q13c⟩ := isOf hZ e12 R7_6
  obtain ⟨_, _, ⟨T13, L13, k13, n13⟩, -, X13, ⟨Lc13, hQ13, l13, y13, z13⟩, st13⟩ := X12.virtualBack hx (y := (⟨"com/example/deferra/deferra/crediting/DailyAmounts", "size", "()I"⟩ : MethodName)) (z := (⟨"com/example/deferra/deferra/crediting/DailyAmounts", "size", "()I"⟩ : MethodName)) hown (mvT hZ (w_23 hw)) (mvT hZ (w_24 hw)) (notFace_of_selects (args := #[]) (mvT hZ (w_26 hw))) (mvT hZ (w_26 hw)) (mvT hZ (w_25 hw)) (by decide) (backOf (W := 0) (rm4_0 l Z a0 hw [] a_ONE a_ZTT e_2 e_3 (0 : Int32) o0 h7 n0 FF O7 R7_8) hZ (w_27 hw) (w_2 hw) (by decide) (by decide)) q13a q13c (g := (mkF m 24 #[iv t0, iv t1, iv t2, iv t3, iv 2, rv o0, .unset, .unset] [(.ref o0)])) rfl (by rw [hml]; rfl) (Steps.refl _) (argsL := []) (rest := []) (lenOf pd_2 rfl) rfl (by show 2 * 0 + _ ≤ _; exact Nat.le_of_eq rfl) (hb hby at_24) (fun _ _ => ⟨rfl, e12, (by decide : 3 + 0 ≤ _), (by decide : 11 + 0 ≤ _)⟩)
  dsimp only [Pt.U, Pt.locs, Pt.cells, Pt.slots] at X13 l13 y13 z13 st13 hQ13
  subst l13 y13 z13
  obtain ⟨rfl, N13q, e13⟩ := hQ13
  have N13 := Fr.app N12 N13q
  have ne14 : o0 ≠ o1 := Nat.ne_of_lt (Nat.lt_of_lt_of_le (A1).lt sp7_o1)
  have ne15 : o0 ≠ o2 := Nat.ne_of_lt (Nat.lt_of_lt_of_le (A1).lt sp7_o2)
  refine ⟨T13, h7, _, o0, o1, o2, j0, j1, X13, e13, N13, KK7, s3, s9, s11, ne14, ne15, ne7_o1_o2, R7_6, R7_5, R7_7, R7_8, R7_0, R7_1, R7_2, R7_3, R7_4, fun target kt => ?_⟩
  show Steps p.tables e below (T0.setTop (mkF m 0 #[iv t0, iv t1, iv t2, iv t3, .unset, .unset, .unset, .unset] [])) _
  refine XS.iloadN X0.here hx rfl (hb hby at_0) rfl ?_
  refine XS.iconst X0.here hx rfl (hb hby at_1) ?_
  refine XS.iand X0.here hx rfl (hb hby at_2) rfl ?_
  show Steps p.tables e below (T0.setTop (mkF m 3 #[iv t0, iv t1, iv t2, iv t3, .unset, .unset, .unset, .unset] [(.int (t0 &&& (3 : Int32)))])) _
  rw [hk0]
  refine XS.istore X0.here hx rfl (hb hby at_3) rfl (l' := #[iv t0, iv t1, iv t2, iv t3, iv 2, .unset, .unset, .unset]) rfl ?_
  refine st1 _ ?_
  refine XS.dup X1.here hx rfl (hb hby at_8) rfl rfl ?_
  show Steps p.tables e below (T1.setTop (mkF m 9 #[iv t0, iv t1, iv t2, iv t3, iv 2, .unset, .unset, .unset] [(.ref o0), (.ref o0)])) _
  refine st7.trans ?_
  refine XS.astore X7.here hx rfl (hb hby at_12) rfl rfl (l' := #[iv t0, iv t1, iv t2, iv t3, iv 2, rv o0, .unset, .unset]) rfl ?_
  refine XS.aload X7.here hx rfl (hb hby at_14) rfl rfl ?_
  refine st12.trans ?_
  show Steps p.tables e below (T12.setTop (mkF m 19 #[iv t0, iv t1, iv t2, iv t3, iv 2, rv o0, .unset, .unset] [(.int 1)])) _
  refine XS.ifNo X12.here hx rfl (hb hby at_19) rfl (by decide) ?_
  refine XS.aload X12.here hx rfl (hb hby at_22) rfl rfl ?_
  refine st13.trans ?_
  show Steps p.tables e below (T13.setTop (mkF m 27 #[iv t0, iv t1, iv t2, iv t3, iv 2, rv o0, .unset, .unset] [(.int 0)])) _
  refine XS.ifNo X13.here hx rfl (hb hby at_27) rfl (by decide) ?_
  refine XS.iconst X13.here hx rfl (hb hby at_30) ?_
  refine XS.goto X13.here hx rfl (pc0 := 31) (pc' := 35) rfl (hb hby at_31) (by decide) (by decide) ?_
  refine XS.istore X13.here hx rfl (hb hby at_35) rfl (l' := #[iv t0, iv t1, iv t2, iv t3, iv 2, rv o0, iv 1, .unset]) rfl ?_
  exact kt
set_option maxRecDepth 65536 in
set_option maxHeartbeats 40000000 in
theorem sg_11 {p : Program} {l : Launch} {e : Env} {s : State} {m : MethodId} {args : Array Value} {below : List Frame} {meth : Method} {c : Code} {T0 : State} {locs : List Loc} {Z : State} {a0 : Array Value} {h0 : Heap} {n0 : Nat} (hw : ∀ d ∈ tables_1, d.before a0 Z = true) (a_ONE : Addr) (a_ZTT : Addr) (e_2 : Addr) (e_3 : Addr) (t0 : Int32) (t1 : Int32) (t2 : Int32) (t3 : Int32) (t4 : Int32) (t5 : Int32) (t6 : Int32) (t7 : Int32) (o0 : Addr) (o1 : Addr) (o2 : Addr) (j0 : ClassId) (j1 : ClassId) (FF : Facts Z Z.heap a_ONE a_ZTT e_2 e_3)
    (X0 : Stand p l e room_1 s m args below meth c T0 locs 3 11) (hx : p.tables.exec = Jvm.exec) (hZ : Z.Warmed39 s.vm) (hby : c.code = code) (hml : c.maxLocals = 8) (hown : s.vm.findClass "com/example/deferra/deferra/crediting/DailyAmountsIsEmptyPinLaw" = some m.cls) (e0 : T0.heap = h0) (N0 : Fr n0 locs) (OO : Old Z n0 h0) (f0 : Fld Z h0 o0 "com/example/deferra/deferra/crediting/DailyAmounts" "days" "[I" (.ref o1)) (f1 : Fld Z h0 o0 "com/example/deferra/deferra/crediting/DailyAmounts" "size" "I" (.int 0)) (f2 : Arv Z h0 o1 j0 .int (4 : Int32) [(.int t0), (.int t1), (.int t2), (.int t3)] (.int 0)) (f3 : Fld Z h0 o0 "com/example/deferra/deferra/crediting/DailyAmounts" "amounts" "[Ljava/math/BigDecimal;" (.ref o2)) (f4 : Arv Z h0 o2 j1 (.object "java/math/BigDecimal") (4 : Int32) [.null, .null, .null, .null] .null) (f5 : Ovr Z j1 "java/math/BigDecimal") (f6 : Exa Z h0 o0 "com/example/deferra/deferra/crediting/DailyAmounts") (f7 : Exa Z h0 o1 "[I") (f8 : Exa Z h0 o2 "[Ljava/math/BigDecimal;") (u0 : n0 ≤ o1) (v0 : o0 ≠ o1) (v1 : o2 ≠ o1) (u1 : n0 ≤ o2) (v2 : o0 ≠ o2) (u2 : n0 ≤ o0) :
    ∃ (T' : State) (h' : Heap) (lc : List Loc), Stand p l e room_1 s m args below meth c T' lc 3 11 ∧ T'.heap = h' ∧ Fr n0 lc ∧ Keep h0 h' [o0, o2, o1] ∧ Fld Z h' o0 "com/example/deferra/deferra/crediting/DailyAmounts" "days" "[I" (.ref o1) ∧ Fld Z h' o0 "com/example/deferra/deferra/crediting/DailyAmounts" "size" "I" (.int 1) ∧ Fld Z h' o0 "com/example/deferra/deferra/crediting/DailyAmounts" "amounts" "[Ljava/math/BigDecimal;" (.ref o2) ∧ Exa Z h' o0 "com/example/deferra/deferra/crediting/DailyAmounts" ∧ Arv Z h' o2 j1 (.object "java/math/BigDecimal") (4 : Int32) [(.ref a_ONE), .null, .null, .null] .null ∧ Ovr Z j1 "java/math/BigDecimal" ∧ Exa Z h' o2 "[Ljava/math/BigDecimal;" ∧ Arv Z h' o1 j0 .int (4 : Int32) [(.int t4), (.int t1), (.int t2), (.int t3)] (.int 0) ∧ Exa Z h' o1 "[I" ∧
      ∀ target, Steps p.tables e below (T'.setTop (mkF m 72 #[iv t5, iv t4, iv t6, iv t7, iv 2, rv o0, iv 1, .unset] [])) target → Steps p.tables e below (T0.setTop (mkF m 37 #[iv t5, iv t4, iv t6, iv t7, iv 2, rv o0, iv 1, .unset] [])) target := by
  obtain ⟨T1, X1, e1, st1⟩ := getS2 X0 hx hZ hown (host := "") (Or.inl (w_28 hw)) Via.refl e0 (Sta.ext OO.2 (fx_S_ONE FF)) (g := (mkF m 46 #[iv t5, iv t4, iv t6, iv t7, iv 2, rv o0, iv 1, .unset] [(.int t4), (.ref o0)])) rfl (hb hby at_46)
  obtain ⟨cq2, kq2, q2a, q2b, q2c⟩ := isOf hZ e1 f6
  obtain ⟨_, _, ⟨T2, L2, k2, n2⟩, -, X2, ⟨Lc2, hQ2, l2, y2, z2⟩, st2⟩ := X1.virtualBack hx (y := (⟨"com/example/deferra/deferra/crediting/DailyAmounts", "add", "(ILjava/math/BigDecimal;)V"⟩ : MethodName)) (z := (⟨"com/example/deferra/deferra/crediting/DailyAmounts", "add", "(ILjava/math/BigDecimal;)V"⟩ : MethodName)) hown (mvT hZ (w_30 hw)) (mvT hZ (w_31 hw)) (notFace_of_selects (args := #[]) (mvT hZ (w_33 hw))) (mvT hZ (w_33 hw)) (mvT hZ (w_32 hw)) (by decide) (backOf (W := 0) (rm5_0 l Z a0 hw [] a_ONE a_ZTT e_2 e_3 t0 t1 t2 t3 t4 o0 o1 o2 j0 j1 h0 n0 FF OO f0 f1 f2 u0 f3 v0 f4 v1 u1 v2 f5 f6 u2 f7 f8) hZ (w_34 hw) (w_2 hw) (by decide) (by decide)) q2a q2c (g := (mkF m 49 #[iv t5, iv t4, iv t6, iv t7, iv 2, rv o0, iv 1, .unset] [(.ref a_ONE), (.int t4), (.ref o0)])) rfl (by rw [hml]; rfl) (Steps.refl _) (argsL := [(.int t4), (.ref a_ONE)]) (rest := []) (lenOf pd_5 rfl) rfl (by show 2 * 0 + _ ≤ _; exact Nat.le_of_eq rfl) (hb hby at_49) (fun _ _ => ⟨rfl, e1, (by decide : 3 + 0 ≤ _), (by decide : 11 + 0 ≤ _)⟩)
  dsimp only [Pt.U, Pt.locs, Pt.cells, Pt.slots] at X2 l2 y2 z2 st2 hQ2
  subst l2 y2 z2
  obtain ⟨h2, e2⟩ : ∃ z, T2.heap = z := ⟨_, rfl⟩
  rw [e2] at hQ2
  obtain ⟨rfl, N2q, K2, R2_0, R2_1, R2_2, R2_3, R2_4, R2_5, R2_6, R2_7, R2_8⟩ := hQ2
  have N2 := Fr.app N0 N2q
  have O2 := Old.keep OO K2 (allS u0 (allS u1 (allS u2 all0)))
  have KK2 : Keep h0 h2 [o0, o2, o1] := Keep.trans (Keep.refl h0 [o0, o2, o1]) K2 (allS (Or.inl (List.mem_of_getElem? (i := 2) rfl)) (allS (Or.inl (List.mem_of_getElem? (i := 1) rfl)) (allS (Or.inl (List.mem_of_getElem? (i := 0) rfl)) all0)))
  obtain ⟨cq3, kq3, q3a, q3b, q3c⟩ := isOf hZ e2 R2_8
  obtain ⟨_, _, ⟨T3, L3, k3, n3⟩, -, X3, ⟨Lc3, hQ3, l3, y3, z3⟩, st3⟩ := X2.virtualBack hx (y := (⟨"com/example/deferra/deferra/crediting/DailyAmounts", "isEmpty", "()Z"⟩ : MethodName)) (z := (⟨"com/example/deferra/deferra/crediting/DailyAmounts", "isEmpty", "()Z"⟩ : MethodName)) hown (mvT hZ (w_16 hw)) (mvT hZ (w_17 hw)) (notFace_of_selects (args := #[]) (mvT hZ (w_19 hw))) (mvT hZ (w_19 hw)) (mvT hZ (w_18 hw)) (by decide) (backOf (W := 0) (rm3_1 l Z a0 hw [] a_ONE a_ZTT e_2 e_3 o0 h2 n0 FF O2 R2_6) hZ (w_20 hw) (w_2 hw) (by decide) (by decide)) q3a q3c (g := (mkF m 59 #[iv t5, iv t4, iv t6, iv t7, iv 2, rv o0, iv 1, .unset] [(.ref o0)])) rfl (by rw [hml]; rfl) (Steps.refl _) (argsL := []) (rest := []) (lenOf pd_1 rfl) rfl (by show 2 * 0 + _ ≤ _; exact Nat.le_of_eq rfl) (hb hby at_59) (fun _ _ => ⟨rfl, e2, (by decide : 3 + 0 ≤ _), (by decide : 11 + 0 ≤ _)⟩)
  dsimp only [Pt.U, Pt.locs, Pt.cells, Pt.slots] at X3 l3 y3 z3 st3 hQ3
  subst l3 y3 z3
  obtain ⟨rfl, N3q, e3⟩ := hQ3
  have N3 := Fr.app N2 N3q
  refine ⟨T3, h2, _, X3, e3, N3, KK2, R2_5, R2_6, R2_7, R2_8, R2_2, R2_3, R2_4, R2_0, R2_1, fun target kt => ?_⟩
  show Steps p.tables e below (T0.setTop (mkF m 37 #[iv t5, iv t4, iv t6, iv t7, iv 2, rv o0, iv 1, .unset] [])) _
  refine XS.iload X0.here hx rfl (hb hby at_37) rfl ?_
  refine XS.iconst X0.here hx rfl (hb hby at_39) ?_
  refine XS.icmpNo X0.here hx rfl (hb hby at_40) rfl (by decide) ?_
  refine XS.aload X0.here hx rfl (hb hby at_43) rfl rfl ?_
  show Steps p.tables e below (T0.setTop (mkF m 45 #[iv t5, iv t4, iv t6, iv t7, iv 2, rv o0, iv 1, .unset] [(.ref o0)])) _
  refine XS.iloadN X0.here hx rfl (hb hby at_45) rfl ?_
  refine st1 _ ?_
  refine st2.trans ?_
  refine XS.iload X2.here hx rfl (hb hby at_52) rfl ?_
  show Steps p.tables e below (T2.setTop (mkF m 54 #[iv t5, iv t4, iv t6, iv t7, iv 2, rv o0, iv 1, .unset] [(.int 1)])) _
  refine XS.ifNo X2.here hx rfl (hb hby at_54) rfl (by decide) ?_
  refine XS.aload X2.here hx rfl (hb hby at_57) rfl rfl ?_
  refine st3.trans ?_
  refine XS.ifNo X3.here hx rfl (hb hby at_62) rfl (by decide) ?_
  show Steps p.tables e below (T3.setTop (mkF m 65 #[iv t5, iv t4, iv t6, iv t7, iv 2, rv o0, iv 1, .unset] [])) _
  refine XS.iconst X3.here hx rfl (hb hby at_65) ?_
  refine XS.goto X3.here hx rfl (pc0 := 66) (pc' := 70) rfl (hb hby at_66) (by decide) (by decide) ?_
  refine XS.istore X3.here hx rfl (hb hby at_70) rfl (l' := #[iv t5, iv t4, iv t6, iv t7, iv 2, rv o0, iv 1, .unset]) rfl ?_
  exact kt
def Q7_1 (Z : State) (a_ONE : Addr) (a_ZTT : Addr) (e_2 : Addr) (e_3 : Addr) (h0 : Heap) (n0 : Nat) (v : Option Value) (h : Heap) (L : List Loc) : Prop := v = none ∧ Fr n0 L ∧ h = h0
set_option maxRecDepth 65536 in
set_option maxHeartbeats 40000000 in
theorem rm7_1 (l : Launch) (Z : State) (a0 : Array Value) (hw : ∀ d ∈ tables_1, d.before a0 Z = true) (ws : List Jvm.Cond) (a_ONE : Addr) (a_ZTT : Addr) (e_2 : Addr) (e_3 : Addr) (h0 : Heap) (n0 : Nat) (FF : Facts Z Z.heap a_ONE a_ZTT e_2 e_3) (OO : Old Z n0 h0) :
    MetFree l (⟨"java/util/Arrays", "rangeCheck", "(III)V"⟩ : MethodName) (head1 (Jvm.Cond.code (⟨"java/util/Arrays", "rangeCheck", "(III)V"⟩ : MethodName) jdk_65_method_30_code 3 none :: ws) ({ frames := 0, cells := 0, slots := 0, locals := 0 } : Room)) (fun a U => a = #[(.int 4), (.int 0), (.int 1)] ∧ Z.Warmed39 U.vm ∧ U.heap = h0) (fun _ _ _ _ _ => True) (fun _ U o U' => ∃ v L, o = .returned v ∧ Q7_1 Z a_ONE a_ZTT e_2 e_3 h0 n0 v U'.heap L ∧ FrameEnd U o U' L ({ frames := 0, cells := 0, slots := 0, locals := 0 } : Room).cells ({ frames := 0, cells := 0, slots := 0, locals := 0 } : Room).slots) := by
  refine MetFree.of_bodySF (plainFor_of_name pn_7) hisR ?_
  intro p e s m args below meth c s₁ Bd hml0 hP hK
  obtain ⟨rfl, hZ, hh⟩ := hP
  have hx := Bd.exec
  have hby := Bd.bytes
  have hml : c.maxLocals = 3 := hml0
  have hown : s.vm.findClass "java/util/Arrays" = some m.cls := findClass_of_methodNamed Bd.named
  have X0 : Stand p l e ({ frames := 0, cells := 0, slots := 0, locals := 0 } : Room) s m #[(.int 4), (.int 0), (.int 1)] below meth c s₁ [] 0 0 := Stand.of_body Bd
  have e0 : s₁.heap = h0 := by rw [← hh, Bd.state]; rfl
  have N0 := Fr.nil n0
  have pre0 : ∀ t, Steps p.tables e below (s₁.setTop (mkF m 0 #[iv 4, iv 0, iv 1] [])) t → Steps p.tables e below (s₁.setTop (entryFrame m #[(.int 4), (.int 0), (.int 1)] 3)) t := fun t k => castTop (ef_7 m 4 0 1) k
  obtain ⟨fs, hr, hrun, hended, hW, hsame⟩ := X0.leave (v := none) (fun _ => rfl)
  refine ⟨_, _, pre0 _ ?_, hrun, hended, _, _, rfl, ?_, ⟨_, rfl⟩, hW, hsame.mono (by decide) (by decide)⟩
  · show Steps p.tables e below (s₁.setTop (mkF m 0 #[iv 4, iv 0, iv 1] [])) _
    refine XS.iloadN X0.here hx rfl (hb hby d7_0) rfl ?_
    refine XS.iloadN X0.here hx rfl (hb hby d7_1) rfl ?_
    refine XS.icmpYes X0.here hx rfl (pc0 := 2) (pc' := 46) rfl (hb hby d7_2) rfl (by decide) (by decide) (by decide) ?_
    refine XS.iloadN X0.here hx rfl (hb hby d7_46) rfl ?_
    show Steps p.tables e below (s₁.setTop (mkF m 47 #[iv 4, iv 0, iv 1] [(.int 0)])) _
    refine XS.ifYes X0.here hx rfl (pc0 := 47) (pc' := 59) rfl (hb hby d7_47) rfl (by decide) (by decide) (by decide) ?_
    refine XS.iloadN X0.here hx rfl (hb hby d7_59) rfl ?_
    refine XS.iloadN X0.here hx rfl (hb hby d7_60) rfl ?_
    refine XS.icmpYes X0.here hx rfl (pc0 := 61) (pc' := 73) rfl (hb hby d7_61) rfl (by decide) (by decide) (by decide) ?_
    show Steps p.tables e below (s₁.setTop (mkF m 73 #[iv 4, iv 0, iv 1] [])) _
    exact X0.returnOut hx Bd.returns (hb hby d7_73) hr
  · show Q7_1 Z a_ONE a_ZTT e_2 e_3 h0 n0 _ s₁.heap _
    exact ⟨rfl, N0, e0⟩
def Q8_1 (Z : State) (a_ONE : Addr) (a_ZTT : Addr) (e_2 : Addr) (e_3 : Addr) (t0 : Int32) (t1 : Int32) (t2 : Int32) (t3 : Int32) (t4 : Int32) (o0 : Addr) (j0 : ClassId) (h0 : Heap) (n0 : Nat) (v : Option Value) (h : Heap) (L : List Loc) : Prop := v = some (.int (-2)) ∧ Fr n0 L ∧ h = h0
set_option maxRecDepth 65536 in
set_option maxHeartbeats 40000000 in
theorem rm8_1 (l : Launch) (Z : State) (a0 : Array Value) (hw : ∀ d ∈ tables_1, d.before a0 Z = true) (ws : List Jvm.Cond) (a_ONE : Addr) (a_ZTT : Addr) (e_2 : Addr) (e_3 : Addr) (t0 : Int32) (t1 : Int32) (t2 : Int32) (t3 : Int32) (t4 : Int32) (o0 : Addr) (j0 : ClassId) (h0 : Heap) (n0 : Nat) (FF : Facts Z Z.heap a_ONE a_ZTT e_2 e_3) (OO : Old Z n0 h0) (f0 : Arv Z h0 o0 j0 .int (4 : Int32) [(.int t0), (.int t2), (.int t3), (.int t4)] (.int 0)) (hq0 : t0 < t1) :
    MetFree l (⟨"java/util/Arrays", "binarySearch0", "([IIII)I"⟩ : MethodName) (head1 (Jvm.Cond.code (⟨"java/util/Arrays", "binarySearch0", "([IIII)I"⟩ : MethodName) jdk_65_method_59_code 8 (some .int) :: ws) ({ frames := 0, cells := 0, slots := 0, locals := 0 } : Room)) (fun a U => a = #[(.ref o0), (.int 0), (.int 1), (.int t1)] ∧ Z.Warmed39 U.vm ∧ U.heap = h0) (fun _ _ _ _ _ => True) (fun _ U o U' => ∃ v L, o = .returned v ∧ Q8_1 Z a_ONE a_ZTT e_2 e_3 t0 t1 t2 t3 t4 o0 j0 h0 n0 v U'.heap L ∧ FrameEnd U o U' L ({ frames := 0, cells := 0, slots := 0, locals := 0 } : Room).cells ({ frames := 0, cells := 0, slots := 0, locals := 0 } : Room).slots) := by
  refine MetFree.of_bodySF (plainFor_of_name pn_8) hisR ?_
  intro p e s m args below meth c s₁ Bd hml0 hP hK
  obtain ⟨rfl, hZ, hh⟩ := hP
  have hx := Bd.exec
  have hby := Bd.bytes
  have hml : c.maxLocals = 8 := hml0
  have hown : s.vm.findClass "java/util/Arrays" = some m.cls := findClass_of_methodNamed Bd.named
  have X0 : Stand p l e ({ frames := 0, cells := 0, slots := 0, locals := 0 } : Room) s m #[(.ref o0), (.int 0), (.int 1), (.int t1)] below meth c s₁ [] 0 0 := Stand.of_body Bd
  have e0 : s₁.heap = h0 := by rw [← hh, Bd.state]; rfl
  have N0 := Fr.nil n0
  have pre0 : ∀ t, Steps p.tables e below (s₁.setTop (mkF m 0 #[rv o0, iv 0, iv 1, iv t1, .unset, .unset, .unset, .unset] [])) t → Steps p.tables e below (s₁.setTop (entryFrame m #[(.ref o0), (.int 0), (.int 1), (.int t1)] 8)) t := fun t k => castTop (ef_8 m o0 0 1 t1) k
  obtain ⟨c1, r1, q1, S1, M1, H1, G1⟩ := id f0
  have i2 : ¬ ((0 : Int32) < 0 ∨ c1.slots.size ≤ ((0 : Int32)).toNatClampNeg) := inb_of S1 ⟨by decide, by decide⟩
  have y3 : c1.slots[((0 : Int32)).toNatClampNeg]? = some (.int t0) := H1 0 (by rw [S1]; decide)
  obtain ⟨fs, hr, hrun, hended, hW, hsame⟩ := X0.leave (v := some (.int (-2))) (fun h => by rw [Bd.returns] at h; cases h)
  refine ⟨_, _, pre0 _ ?_, hrun, hended, _, _, rfl, ?_, ⟨_, rfl⟩, hW, hsame.mono (by decide) (by decide)⟩
  · show Steps p.tables e below (s₁.setTop (mkF m 0 #[rv o0, iv 0, iv 1, iv t1, .unset, .unset, .unset, .unset] [])) _
    refine XS.iloadN X0.here hx rfl (hb hby d8_0) rfl ?_
    refine XS.istore X0.here hx rfl (hb hby d8_1) rfl (l' := #[rv o0, iv 0, iv 1, iv t1, iv 0, .unset, .unset, .unset]) rfl ?_
    refine XS.iloadN X0.here hx rfl (hb hby d8_3) rfl ?_
    refine XS.iconst X0.here hx rfl (hb hby d8_4) ?_
    show Steps p.tables e below (s₁.setTop (mkF m 5 #[rv o0, iv 0, iv 1, iv t1, iv 0, .unset, .unset, .unset] [(.int 1), (.int 1)])) _
    refine XS.isub X0.here hx rfl (hb hby d8_5) rfl ?_
    show Steps p.tables e below (s₁.setTop (mkF m 6 #[rv o0, iv 0, iv 1, iv t1, iv 0, .unset, .unset, .unset] [(.int ((1 : Int32) - (1 : Int32)))])) _
    rw [(by decide : ((1 : Int32) - (1 : Int32)) = (0 : Int32))]
    refine XS.istore X0.here hx rfl (hb hby d8_6) rfl (l' := #[rv o0, iv 0, iv 1, iv t1, iv 0, iv 0, .unset, .unset]) rfl ?_
    refine XS.iload X0.here hx rfl (hb hby d8_8) rfl ?_
    refine XS.iload X0.here hx rfl (hb hby d8_10) rfl ?_
    show Steps p.tables e below (s₁.setTop (mkF m 12 #[rv o0, iv 0, iv 1, iv t1, iv 0, iv 0, .unset, .unset] [(.int 0), (.int 0)])) _
    refine XS.icmpNo X0.here hx rfl (hb hby d8_12) rfl (by decide) ?_
    refine XS.iload X0.here hx rfl (hb hby d8_15) rfl ?_
    refine XS.iload X0.here hx rfl (hb hby d8_17) rfl ?_
    refine XS.iadd X0.here hx rfl (hb hby d8_19) rfl ?_
    show Steps p.tables e below (s₁.setTop (mkF m 20 #[rv o0, iv 0, iv 1, iv t1, iv 0, iv 0, .unset, .unset] [(.int ((0 : Int32) + (0 : Int32)))])) _
    rw [(by decide : ((0 : Int32) + (0 : Int32)) = (0 : Int32))]
    refine XS.iconst X0.here hx rfl (hb hby d8_20) ?_
    refine XS.iushr X0.here hx rfl (hb hby d8_21) rfl ?_
    show Steps p.tables e below (s₁.setTop (mkF m 22 #[rv o0, iv 0, iv 1, iv t1, iv 0, iv 0, .unset, .unset] [(.int (((0 : Int32).toUInt32 >>> ((1 : Int32) &&& 31).toUInt32).toInt32))])) _
    rw [(by decide : (((0 : Int32).toUInt32 >>> ((1 : Int32) &&& 31).toUInt32).toInt32) = (0 : Int32))]
    refine XS.istore X0.here hx rfl (hb hby d8_22) rfl (l' := #[rv o0, iv 0, iv 1, iv t1, iv 0, iv 0, iv 0, .unset]) rfl ?_
    refine XS.aloadN X0.here hx rfl (hb hby d8_24) rfl rfl ?_
    refine XS.iload X0.here hx rfl (hb hby d8_25) rfl ?_
    show Steps p.tables e below (s₁.setTop (mkF m 27 #[rv o0, iv 0, iv 1, iv t1, iv 0, iv 0, iv 0, .unset] [(.int 0), (.ref o0)])) _
    refine X0.iaload hx (j := (0 : Int32)) (v := (.int t0)) (by rw [e0]; exact r1.1) (State.isArrayOf_alike hZ.alike r1.2.1) r1.2.2 i2 y3 (g := (mkF m 27 #[rv o0, iv 0, iv 1, iv t1, iv 0, iv 0, iv 0, .unset] [(.int 0), (.ref o0)])) rfl rfl (hb hby d8_27) _ ?_
    refine XS.istore X0.here hx rfl (hb hby d8_28) rfl (l' := #[rv o0, iv 0, iv 1, iv t1, iv 0, iv 0, iv 0, iv t0]) rfl ?_
    refine XS.iload X0.here hx rfl (hb hby d8_30) rfl ?_
    refine XS.iloadN X0.here hx rfl (hb hby d8_32) rfl ?_
    show Steps p.tables e below (s₁.setTop (mkF m 33 #[rv o0, iv 0, iv 1, iv t1, iv 0, iv 0, iv 0, iv t0] [(.int t1), (.int t0)])) _
    refine XS.icmpNo X0.here hx rfl (hb hby d8_33) rfl (tlt hq0).2.1 ?_
    refine XS.iload X0.here hx rfl (hb hby d8_36) rfl ?_
    refine XS.iconst X0.here hx rfl (hb hby d8_38) ?_
    refine XS.iadd X0.here hx rfl (hb hby d8_39) rfl ?_
    show Steps p.tables e below (s₁.setTop (mkF m 40 #[rv o0, iv 0, iv 1, iv t1, iv 0, iv 0, iv 0, iv t0] [(.int ((0 : Int32) + (1 : Int32)))])) _
    rw [(by decide : ((0 : Int32) + (1 : Int32)) = (1 : Int32))]
    refine XS.istore X0.here hx rfl (hb hby d8_40) rfl (l' := #[rv o0, iv 0, iv 1, iv t1, iv 1, iv 0, iv 0, iv t0]) rfl ?_
    refine XS.goto X0.here hx rfl (pc0 := 42) (pc' := 63) rfl (hb hby d8_42) (by decide) (by decide) ?_
    refine XS.goto X0.here hx rfl (pc0 := 63) (pc' := 8) rfl (hb hby d8_63) (by decide) (by decide) ?_
    show Steps p.tables e below (s₁.setTop (mkF m 8 #[rv o0, iv 0, iv 1, iv t1, iv 1, iv 0, iv 0, iv t0] [])) _
    refine XS.iload X0.here hx rfl (hb hby d8_8) rfl ?_
    refine XS.iload X0.here hx rfl (hb hby d8_10) rfl ?_
    refine XS.icmpYes X0.here hx rfl (pc0 := 12) (pc' := 66) rfl (hb hby d8_12) rfl (by decide) (by decide) (by decide) ?_
    refine XS.iload X0.here hx rfl (hb hby d8_66) rfl ?_
    show Steps p.tables e below (s₁.setTop (mkF m 68 #[rv o0, iv 0, iv 1, iv t1, iv 1, iv 0, iv 0, iv t0] [(.int 1)])) _
    refine XS.iconst X0.here hx rfl (hb hby d8_68) ?_
    refine XS.iadd X0.here hx rfl (hb hby d8_69) rfl ?_
    show Steps p.tables e below (s₁.setTop (mkF m 70 #[rv o0, iv 0, iv 1, iv t1, iv 1, iv 0, iv 0, iv t0] [(.int ((1 : Int32) + (1 : Int32)))])) _
    rw [(by decide : ((1 : Int32) + (1 : Int32)) = (2 : Int32))]
    refine XS.ineg X0.here hx rfl (hb hby d8_70) rfl ?_
    show Steps p.tables e below (s₁.setTop (mkF m 71 #[rv o0, iv 0, iv 1, iv t1, iv 1, iv 0, iv 0, iv t0] [(.int (-(2 : Int32)))])) _
    rw [(by decide : (-(2 : Int32)) = (-2 : Int32))]
    exact retI X0 hx Bd.returns (hb hby d8_71) hr
  · show Q8_1 Z a_ONE a_ZTT e_2 e_3 t0 t1 t2 t3 t4 o0 j0 h0 n0 _ s₁.heap _
    exact ⟨rfl, N0, e0⟩
def Q6_1 (Z : State) (a_ONE : Addr) (a_ZTT : Addr) (e_2 : Addr) (e_3 : Addr) (t0 : Int32) (t1 : Int32) (t2 : Int32) (t3 : Int32) (t4 : Int32) (o0 : Addr) (j0 : ClassId) (h0 : Heap) (n0 : Nat) (v : Option Value) (h : Heap) (L : List Loc) : Prop := v = some (.int (-2)) ∧ Fr n0 L ∧ h = h0
set_option maxRecDepth 65536 in
set_option maxHeartbeats 40000000 in
theorem rm6_1 (l : Launch) (Z : State) (a0 : Array Value) (hw : ∀ d ∈ tables_1, d.before a0 Z = true) (ws : List Jvm.Cond) (a_ONE : Addr) (a_ZTT : Addr) (e_2 : Addr) (e_3 : Addr) (t0 : Int32) (t1 : Int32) (t2 : Int32) (t3 : Int32) (t4 : Int32) (o0 : Addr) (j0 : ClassId) (h0 : Heap) (n0 : Nat) (FF : Facts Z Z.heap a_ONE a_ZTT e_2 e_3) (OO : Old Z n0 h0) (f0 : Arv Z h0 o0 j0 .int (4 : Int32) [(.int t0), (.int t2), (.int t3), (.int t4)] (.int 0)) (hq0 : t0 < t1) :
    MetFree l (⟨"java/util/Arrays", "binarySearch", "([IIII)I"⟩ : MethodName) (head1 (Jvm.Cond.code (⟨"java/util/Arrays", "binarySearch", "([IIII)I"⟩ : MethodName) jdk_65_method_58_code 4 (some .int) :: ws) ({ frames := 1, cells := 0, slots := 0, locals := 19 } : Room)) (fun a U => a = #[(.ref o0), (.int 0), (.int 1), (.int t1)] ∧ Z.Warmed39 U.vm ∧ U.heap = h0) (fun _ _ _ _ _ => True) (fun _ U o U' => ∃ v L, o = .returned v ∧ Q6_1 Z a_ONE a_ZTT e_2 e_3 t0 t1 t2 t3 t4 o0 j0 h0 n0 v U'.heap L ∧ FrameEnd U o U' L ({ frames := 1, cells := 0, slots := 0, locals := 19 } : Room).cells ({ frames := 1, cells := 0, slots := 0, locals := 19 } : Room).slots) := by
  refine MetFree.of_bodySF (plainFor_of_name pn_6) hisR ?_
  intro p e s m args below meth c s₁ Bd hml0 hP hK
  obtain ⟨rfl, hZ, hh⟩ := hP
  have hx := Bd.exec
  have hby := Bd.bytes
  have hml : c.maxLocals = 4 := hml0
  have hown : s.vm.findClass "java/util/Arrays" = some m.cls := findClass_of_methodNamed Bd.named
  have X0 : Stand p l e ({ frames := 1, cells := 0, slots := 0, locals := 19 } : Room) s m #[(.ref o0), (.int 0), (.int 1), (.int t1)] below meth c s₁ [] 0 0 := Stand.of_body Bd
  have e0 : s₁.heap = h0 := by rw [← hh, Bd.state]; rfl
  have N0 := Fr.nil n0
  have pre0 : ∀ t, Steps p.tables e below (s₁.setTop (mkF m 0 #[rv o0, iv 0, iv 1, iv t1] [])) t → Steps p.tables e below (s₁.setTop (entryFrame m #[(.ref o0), (.int 0), (.int 1), (.int t1)] 4)) t := fun t k => castTop (ef_6 m o0 0 1 t1) k
  obtain ⟨c1, r1, q1, S1, M1, H1, G1⟩ := id f0
  obtain ⟨_, _, ⟨T2, L2, k2, n2⟩, -, X2, ⟨Lc2, hQ2, l2, y2, z2⟩, st2⟩ := Jvm.LawKit.callS X0 hx (y := (⟨"java/util/Arrays", "rangeCheck", "(III)V"⟩ : MethodName)) hown (mvT hZ (w_39 hw)) (mvT hZ (w_40 hw)) (mvT hZ (w_37 hw)) (mvT hZ (w_41 hw)) (by decide) (backOf (W := 0) (rm7_1 l Z a0 hw [] a_ONE a_ZTT e_2 e_3 h0 n0 FF OO) hZ (w_41 hw) (w_37 hw) (by decide) (by decide)) (g := (mkF m 4 #[rv o0, iv 0, iv 1, iv t1] [(.int 1), (.int 0), (.int 4)])) rfl (by rw [hml]; rfl) (argsL := [(.int 4), (.int 0), (.int 1)]) (rest := []) (lenOf pd_3 rfl) rfl (by show 2 * 0 + _ ≤ _; exact Nat.le_of_eq rfl) (hb hby d6_4) (fun _ _ => ⟨rfl, e0, (by decide : 0 + 0 ≤ _), (by decide : 0 + 0 ≤ _)⟩)
  dsimp only [Pt.U, Pt.locs, Pt.cells, Pt.slots] at X2 l2 y2 z2 st2 hQ2
  subst l2 y2 z2
  obtain ⟨rfl, N2q, e2⟩ := hQ2
  have N2 := Fr.app N0 N2q
  obtain ⟨_, _, ⟨T3, L3, k3, n3⟩, -, X3, ⟨Lc3, hQ3, l3, y3, z3⟩, st3⟩ := Jvm.LawKit.callS X2 hx (y := (⟨"java/util/Arrays", "binarySearch0", "([IIII)I"⟩ : MethodName)) hown (mvT hZ (w_42 hw)) (mvT hZ (w_43 hw)) (mvT hZ (w_37 hw)) (mvT hZ (w_44 hw)) (by decide) (backOf (W := 0) (rm8_1 l Z a0 hw [] a_ONE a_ZTT e_2 e_3 t0 t1 t2 t3 t4 o0 j0 h0 n0 FF OO f0 hq0) hZ (w_44 hw) (w_37 hw) (by decide) (by decide)) (g := (mkF m 11 #[rv o0, iv 0, iv 1, iv t1] [(.int t1), (.int 1), (.int 0), (.ref o0)])) rfl (by rw [hml]; rfl) (argsL := [(.ref o0), (.int 0), (.int 1), (.int t1)]) (rest := []) (lenOf pd_4 rfl) rfl (by show 2 * 0 + _ ≤ _; exact Nat.le_of_eq rfl) (hb hby d6_11) (fun _ _ => ⟨rfl, e2, (by decide : 0 + 0 ≤ _), (by decide : 0 + 0 ≤ _)⟩)
  dsimp only [Pt.U, Pt.locs, Pt.cells, Pt.slots] at X3 l3 y3 z3 st3 hQ3
  subst l3 y3 z3
  obtain ⟨rfl, N3q, e3⟩ := hQ3
  have N3 := Fr.app N2 N3q
  obtain ⟨fs, hr, hrun, hended, hW, hsame⟩ := X3.leave (v := some (.int (-2))) (fun h => by rw [Bd.returns] at h; cases h)
  refine ⟨_, _, pre0 _ ?_, hrun, hended, _, _, rfl, ?_, ⟨_, rfl⟩, hW, hsame.mono (by decide) (by decide)⟩
  · show Steps p.tables e below (s₁.setTop (mkF m 0 #[rv o0, iv 0, iv 1, iv t1] [])) _
    refine XS.aloadN X0.here hx rfl (hb hby d6_0) rfl rfl ?_
    refine X0.arraylength hx (by rw [e0]; exact r1.1) (State.isArrayOf_alike hZ.alike r1.2.1) (g := (mkF m 1 #[rv o0, iv 0, iv 1, iv t1] [(.ref o0)])) rfl rfl (hb hby d6_1) _ ?_
    rw [len_of S1 M1]
    refine XS.iloadN X0.here hx rfl (hb hby d6_2) rfl ?_
    show Steps p.tables e below (s₁.setTop (mkF m 3 #[rv o0, iv 0, iv 1, iv t1] [(.int 0), (.int 4)])) _
    refine XS.iloadN X0.here hx rfl (hb hby d6_3) rfl ?_
    refine st2 _ ?_
    refine XS.aloadN X2.here hx rfl (hb hby d6_7) rfl rfl ?_
    refine XS.iloadN X2.here hx rfl (hb hby d6_8) rfl ?_
    show Steps p.tables e below (T2.setTop (mkF m 9 #[rv o0, iv 0, iv 1, iv t1] [(.int 0), (.ref o0)])) _
    refine XS.iloadN X2.here hx rfl (hb hby d6_9) rfl ?_
    refine XS.iloadN X2.here hx rfl (hb hby d6_10) rfl ?_
    refine st3 _ ?_
    exact retI X3 hx Bd.returns (hb hby d6_14) hr
  · show Q6_1 Z a_ONE a_ZTT e_2 e_3 t0 t1 t2 t3 t4 o0 j0 h0 n0 _ T3.heap _
    exact ⟨rfl, N3, e3⟩
def Q5_1 (Z : State) (a_ONE : Addr) (a_ZTT : Addr) (e_2 : Addr) (e_3 : Addr) (t0 : Int32) (t1 : Int32) (t2 : Int32) (t3 : Int32) (t4 : Int32) (o0 : Addr) (o1 : Addr) (o2 : Addr) (j0 : ClassId) (j1 : ClassId) (h0 : Heap) (n0 : Nat) (v : Option Value) (h : Heap) (L : List Loc) : Prop := v = none ∧ Fr n0 L ∧ Keep h0 h [o1, o2, o0] ∧ Arv Z h o1 j0 .int (4 : Int32) [(.int t0), (.int t1), (.int t3), (.int t4)] (.int 0) ∧ Exa Z h o1 "[I" ∧ Arv Z h o2 j1 (.object "java/math/BigDecimal") (4 : Int32) [(.ref a_ONE), (.ref a_ONE), .null, .null] .null ∧ Ovr Z j1 "java/math/BigDecimal" ∧ Exa Z h o2 "[Ljava/math/BigDecimal;" ∧ Fld Z h o0 "com/example/deferra/deferra/crediting/DailyAmounts" "days" "[I" (.ref o1) ∧ Fld Z h o0 "com/example/deferra/deferra/crediting/DailyAmounts" "size" "I" (.int 2) ∧ Fld Z h o0 "com/example/deferra/deferra/crediting/DailyAmounts" "amounts" "[Ljava/math/BigDecimal;" (.ref o2) ∧ Exa Z h o0 "com/example/deferra/deferra/crediting/DailyAmounts"
set_option maxRecDepth 65536 in
set_option maxHeartbeats 40000000 in
theorem rm5_1 (l : Launch) (Z : State) (a0 : Array Value) (hw : ∀ d ∈ tables_1, d.before a0 Z = true) (ws : List Jvm.Cond) (a_ONE : Addr) (a_ZTT : Addr) (e_2 : Addr) (e_3 : Addr) (t0 : Int32) (t1 : Int32) (t2 : Int32) (t3 : Int32) (t4 : Int32) (o0 : Addr) (o1 : Addr) (o2 : Addr) (j0 : ClassId) (j1 : ClassId) (h0 : Heap) (n0 : Nat) (FF : Facts Z Z.heap a_ONE a_ZTT e_2 e_3) (OO : Old Z n0 h0) (f0 : Fld Z h0 o0 "com/example/deferra/deferra/crediting/DailyAmounts" "days" "[I" (.ref o1)) (f1 : Fld Z h0 o0 "com/example/deferra/deferra/crediting/DailyAmounts" "size" "I" (.int 1)) (f2 : Arv Z h0 o1 j0 .int (4 : Int32) [(.int t0), (.int t2), (.int t3), (.int t4)] (.int 0)) (u0 : n0 ≤ o1) (f3 : Fld Z h0 o0 "com/example/deferra/deferra/crediting/DailyAmounts" "amounts" "[Ljava/math/BigDecimal;" (.ref o2)) (v0 : o0 ≠ o1) (f4 : Arv Z h0 o2 j1 (.object "java/math/BigDecimal") (4 : Int32) [(.ref a_ONE), .null, .null, .null] .null) (v1 : o2 ≠ o1) (u1 : n0 ≤ o2) (v2 : o0 ≠ o2) (f5 : Ovr Z j1 "java/math/BigDecimal") (f6 : Exa Z h0 o0 "com/example/deferra/deferra/crediting/DailyAmounts") (u2 : n0 ≤ o0) (f7 : Exa Z h0 o1 "[I") (f8 : Exa Z h0 o2 "[Ljava/math/BigDecimal;") (hq0 : t0 < t1) :
    MetFree l (⟨"com/example/deferra/deferra/crediting/DailyAmounts", "add", "(ILjava/math/BigDecimal;)V"⟩ : MethodName) (head1 (Jvm.Cond.code (⟨"com/example/deferra/deferra/crediting/DailyAmounts", "add", "(ILjava/math/BigDecimal;)V"⟩ : MethodName) prog_24_method_2_code 5 none :: ws) ({ frames := 2, cells := 0, slots := 0, locals := 34 } : Room)) (fun a U => a = #[(.ref o0), (.int t1), (.ref a_ONE)] ∧ Z.Warmed39 U.vm ∧ U.heap = h0) (fun _ _ _ _ _ => True) (fun _ U o U' => ∃ v L, o = .returned v ∧ Q5_1 Z a_ONE a_ZTT e_2 e_3 t0 t1 t2 t3 t4 o0 o1 o2 j0 j1 h0 n0 v U'.heap L ∧ FrameEnd U o U' L ({ frames := 2, cells := 0, slots := 0, locals := 34 } : Room).cells ({ frames := 2, cells := 0, slots := 0, locals := 34 } : Room).slots) := by
  refine MetFree.of_bodySF (plainFor_of_name pn_5) hisR ?_
  intro p e s m args below meth c s₁ Bd hml0 hP hK
  obtain ⟨rfl, hZ, hh⟩ := hP
  have hx := Bd.exec
  have hby := Bd.bytes
  have hml : c.maxLocals = 5 := hml0
  have hown : s.vm.findClass "com/example/deferra/deferra/crediting/DailyAmounts" = some m.cls := findClass_of_methodNamed Bd.named
  have X0 : Stand p l e ({ frames := 2, cells := 0, slots := 0, locals := 34 } : Room) s m #[(.ref o0), (.int t1), (.ref a_ONE)] below meth c s₁ [] 0 0 := Stand.of_body Bd
  have e0 : s₁.heap = h0 := by rw [← hh, Bd.state]; rfl
  have N0 := Fr.nil n0
  have pre0 : ∀ t, Steps p.tables e below (s₁.setTop (mkF m 0 #[rv o0, iv t1, rv a_ONE, .unset, .unset] [])) t → Steps p.tables e below (s₁.setTop (entryFrame m #[(.ref o0), (.int t1), (.ref a_ONE)] 5)) t := fun t k => castTop (ef_5 m o0 t1 a_ONE) k
  obtain ⟨T1, X1, e1, st1⟩ := getF X0 hx hZ hown (host := "") (Or.inl (w_10 hw)) Via.refl e0 f0 (g := (mkF m 1 #[rv o0, iv t1, rv a_ONE, .unset, .unset] [(.ref o0)])) rfl rfl (hb hby d5_1)
  obtain ⟨T2, X2, e2, st2⟩ := getF X1 hx hZ hown (host := "") (Or.inl (w_21 hw)) Via.refl e1 f1 (g := (mkF m 6 #[rv o0, iv t1, rv a_ONE, .unset, .unset] [(.ref o0), (.int 0), (.ref o1)])) rfl rfl (hb hby d5_6)
  obtain ⟨_, _, ⟨T3, L3, k3, n3⟩, -, X3, ⟨Lc3, hQ3, l3, y3, z3⟩, st3⟩ := Jvm.LawKit.callS X2 hx (y := (⟨"java/util/Arrays", "binarySearch", "([IIII)I"⟩ : MethodName)) hown (mvT hZ (w_35 hw)) (mvT hZ (w_36 hw)) (mvT hZ (w_37 hw)) (mvT hZ (w_38 hw)) (by decide) (backOf (W := 0) (rm6_1 l Z a0 hw [] a_ONE a_ZTT e_2 e_3 t0 t1 t2 t3 t4 o1 j0 h0 n0 FF OO f2 hq0) hZ (w_38 hw) (w_37 hw) (by decide) (by decide)) (g := (mkF m 10 #[rv o0, iv t1, rv a_ONE, .unset, .unset] [(.int t1), (.int 1), (.int 0), (.ref o1)])) rfl (by rw [hml]; rfl) (argsL := [(.ref o1), (.int 0), (.int 1), (.int t1)]) (rest := []) (lenOf pd_4 rfl) rfl (by show 2 * 0 + _ ≤ _; exact Nat.le_of_eq rfl) (hb hby d5_10) (fun _ _ => ⟨rfl, e2, (by decide : 0 + 0 ≤ _), (by decide : 0 + 0 ≤ _)⟩)
  dsimp only [Pt.U, Pt.locs, Pt.cells, Pt.slots] at X3 l3 y3 z3 st3 hQ3
  subst l3 y3 z3
  obtain ⟨rfl, N3q, e3⟩ := hQ3
  have N3 := Fr.app N0 N3q
  obtain ⟨T4, X4, e4, st4⟩ := getF X3 hx hZ hown (host := "") (Or.inl (w_21 hw)) Via.refl e3 f1 (g := (mkF m 42 #[rv o0, iv t1, rv a_ONE, iv (-2), iv 1] [(.ref o0)])) rfl rfl (hb hby d5_42)
  obtain ⟨T5, X5, e5, st5⟩ := getF X4 hx hZ hown (host := "") (Or.inl (w_10 hw)) Via.refl e4 f0 (g := (mkF m 46 #[rv o0, iv t1, rv a_ONE, iv (-2), iv 1] [(.ref o0), (.int 1)])) rfl rfl (hb hby d5_46)
  obtain ⟨c6, r6, q6, S6, M6, H6, G6⟩ := id f2
  obtain ⟨T7, X7, e7, st7⟩ := getF X5 hx hZ hown (host := "") (Or.inl (w_10 hw)) Via.refl e5 f0 (g := (mkF m 91 #[rv o0, iv t1, rv a_ONE, iv (-2), iv 1] [(.ref o0)])) rfl rfl (hb hby d5_91)
  obtain ⟨T8, X8, e8, st8⟩ := getF X7 hx hZ hown (host := "") (Or.inl (w_10 hw)) Via.refl e7 f0 (g := (mkF m 97 #[rv o0, iv t1, rv a_ONE, iv (-2), iv 1] [(.ref o0), (.int 1), (.ref o1)])) rfl rfl (hb hby d5_97)
  obtain ⟨T9, X9, e9, st9⟩ := getF X8 hx hZ hown (host := "") (Or.inl (w_21 hw)) Via.refl e8 f1 (g := (mkF m 105 #[rv o0, iv t1, rv a_ONE, iv (-2), iv 1] [(.ref o0), (.int 2), (.ref o1), (.int 1), (.ref o1)])) rfl rfl (hb hby d5_105)
  obtain ⟨T10, h10, L10, X10, e10, N10, K10, V10, st10⟩ := cpA X9 hx hZ hown (w_45 hw) (w_48 hw) (w_46 hw) (w_47 hw) e9 f2 f2 (us := []) (Or.inl ⟨rfl, rfl⟩) (by decide) (by decide) (by decide) (by decide) (by decide) rfl (Nat.le_of_ble_eq_true rfl) N3 u0 (g := (mkF m 111 #[rv o0, iv t1, rv a_ONE, iv (-2), iv 1] [(.int 0), (.int 2), (.ref o1), (.int 1), (.ref o1)])) rfl (by rw [hml]; rfl) (rest := []) rfl (hb hby d5_111) (by decide) (W := 0) (by show 2 * 0 + _ ≤ _; exact Nat.le_of_eq rfl) (by decide)
  have O10 := Old.keep OO K10 (allS u0 all0)
  have KK10 : Keep h0 h10 [o1, o2, o0] := Keep.trans (Keep.refl h0 [o1, o2, o0]) K10 (allS (Or.inl (List.mem_of_getElem? (i := 0) rfl)) all0)
  have F11 : Arv Z h10 o1 j0 .int (4 : Int32) [(.int t0), (.int t2), (.int t3), (.int t4)] (.int 0) := V10
  have F12 : Fld Z h10 o0 "com/example/deferra/deferra/crediting/DailyAmounts" "amounts" "[Ljava/math/BigDecimal;" (.ref o2) := (Fld.keep f3 K10 (ninS v0 nin0))
  obtain ⟨T13, X13, e13, st13⟩ := getF X10 hx hZ hown (host := "") (Or.inl (w_14 hw)) Via.refl e10 F12 (g := (mkF m 115 #[rv o0, iv t1, rv a_ONE, iv (-2), iv 1] [(.ref o0)])) rfl rfl (hb hby d5_115)
  obtain ⟨T14, X14, e14, st14⟩ := getF X13 hx hZ hown (host := "") (Or.inl (w_14 hw)) Via.refl e13 F12 (g := (mkF m 121 #[rv o0, iv t1, rv a_ONE, iv (-2), iv 1] [(.ref o0), (.int 1), (.ref o2)])) rfl rfl (hb hby d5_121)
  have F15 : Fld Z h10 o0 "com/example/deferra/deferra/crediting/DailyAmounts" "size" "I" (.int 1) := (Fld.keep f1 K10 (ninS v0 nin0))
  obtain ⟨T16, X16, e16, st16⟩ := getF X14 hx hZ hown (host := "") (Or.inl (w_21 hw)) Via.refl e14 F15 (g := (mkF m 129 #[rv o0, iv t1, rv a_ONE, iv (-2), iv 1] [(.ref o0), (.int 2), (.ref o2), (.int 1), (.ref o2)])) rfl rfl (hb hby d5_129)
  have F17 : Arv Z h10 o2 j1 (.object "java/math/BigDecimal") (4 : Int32) [(.ref a_ONE), .null, .null, .null] .null := (Arv.keep f4 K10 (ninS v1 nin0))
  obtain ⟨c18, r18, q18, S18, M18, H18, G18⟩ := id F17
  obtain ⟨T19, h19, L19, X19, e19, N19, K19, V19, st19⟩ := cpA X16 hx hZ hown (w_45 hw) (w_48 hw) (w_46 hw) (w_47 hw) e16 F17 F17 (us := []) (Or.inr ⟨rfl, rfl, (trivial : StoL Z h10 o2 [])⟩) (by decide) (by decide) (by decide) (by decide) (by decide) rfl (Nat.le_of_ble_eq_true rfl) N10 u1 (g := (mkF m 135 #[rv o0, iv t1, rv a_ONE, iv (-2), iv 1] [(.int 0), (.int 2), (.ref o2), (.int 1), (.ref o2)])) rfl (by rw [hml]; rfl) (rest := []) rfl (hb hby d5_135) (by decide) (W := 0) (by show 2 * 0 + _ ≤ _; exact Nat.le_of_eq rfl) (by decide)
  have O19 := Old.keep O10 K19 (allS u1 all0)
  have KK19 : Keep h0 h19 [o1, o2, o0] := Keep.trans KK10 K19 (allS (Or.inl (List.mem_of_getElem? (i := 1) rfl)) all0)
  have F20 : Arv Z h19 o2 j1 (.object "java/math/BigDecimal") (4 : Int32) [(.ref a_ONE), .null, .null, .null] .null := V19
  have F21 : Fld Z h19 o0 "com/example/deferra/deferra/crediting/DailyAmounts" "days" "[I" (.ref o1) := (Fld.keep (Fld.keep f0 K10 (ninS v0 nin0)) K19 (ninS v2 nin0))
  obtain ⟨T22, X22, e22, st22⟩ := getF X19 hx hZ hown (host := "") (Or.inl (w_10 hw)) Via.refl e19 F21 (g := (mkF m 139 #[rv o0, iv t1, rv a_ONE, iv (-2), iv 1] [(.ref o0)])) rfl rfl (hb hby d5_139)
  have F24 : Arv Z h19 o1 j0 .int (4 : Int32) [(.int t0), (.int t2), (.int t3), (.int t4)] (.int 0) := (Arv.keep F11 K19 (ninS (Ne.symm v1) nin0))
  obtain ⟨c23, r23, q23, S23, M23, H23, G23⟩ := id F24
  have i25 : ¬ ((1 : Int32) < 0 ∨ c23.slots.size ≤ ((1 : Int32)).toNatClampNeg) := inb_of S23 ⟨by decide, by decide⟩
  obtain ⟨T26, h26, X26, e26, W26, st26⟩ := stI X22 hx hZ e22 r23 (j := (1 : Int32)) i25 (g := (mkF m 145 #[rv o0, iv t1, rv a_ONE, iv (-2), iv 1] [(.int t1), (.int 1), (.ref o1)])) rfl rfl (hb hby d5_145)
  have O26 := Old.wr O19 W26 u0
  have KK26 : Keep h0 h26 [o1, o2, o0] := Keep.wr KK19 W26 (Or.inl (List.mem_of_getElem? (i := 0) rfl))
  have N26 := Fr.snoc X26 N19 u0
  have F27 : Arv Z h26 o1 j0 .int (4 : Int32) [(.int t0), (.int t1), (.int t3), (.int t4)] (.int 0) := Arv.set r23 q23 S23 M23 H23 G23 rfl W26 1 rfl (Nat.le_of_ble_eq_true rfl)
  have F28 : Fld Z h26 o0 "com/example/deferra/deferra/crediting/DailyAmounts" "amounts" "[Ljava/math/BigDecimal;" (.ref o2) := (Fld.other W26 (Fld.keep F12 K19 (ninS v2 nin0)) (Or.inl v0))
  obtain ⟨T29, X29, e29, st29⟩ := getF X26 hx hZ hown (host := "") (Or.inl (w_14 hw)) Via.refl e26 F28 (g := (mkF m 147 #[rv o0, iv t1, rv a_ONE, iv (-2), iv 1] [(.ref o0)])) rfl rfl (hb hby d5_147)
  have F31 : Arv Z h26 o2 j1 (.object "java/math/BigDecimal") (4 : Int32) [(.ref a_ONE), .null, .null, .null] .null := (Arv.other F20 W26 v1)
  obtain ⟨c30, r30, q30, S30, M30, H30, G30⟩ := id F31
  have i32 : ¬ ((1 : Int32) < 0 ∨ c30.slots.size ≤ ((1 : Int32)).toNatClampNeg) := inb_of S30 ⟨by decide, by decide⟩
  obtain ⟨T33, h33, X33, e33, W33, st33⟩ := stR X29 hx hZ e29 r30 (j := (1 : Int32)) i32 rfl (Sto.ofV r30 q30 f5 (Ins.self (Exa.ext O26.2 (fx_E_a_ONE FF)))) (g := (mkF m 153 #[rv o0, iv t1, rv a_ONE, iv (-2), iv 1] [(.ref a_ONE), (.int 1), (.ref o2)])) rfl rfl (hb hby d5_153)
  have O33 := Old.wr O26 W33 u1
  have KK33 : Keep h0 h33 [o1, o2, o0] := Keep.wr KK26 W33 (Or.inl (List.mem_of_getElem? (i := 1) rfl))
  have N33 := Fr.snoc X33 N26 u1
  have F34 : Arv Z h33 o2 j1 (.object "java/math/BigDecimal") (4 : Int32) [(.ref a_ONE), (.ref a_ONE), .null, .null] .null := Arv.set r30 q30 S30 M30 H30 G30 rfl W33 1 rfl (Nat.le_of_ble_eq_true rfl)
  have F35 : Fld Z h33 o0 "com/example/deferra/deferra/crediting/DailyAmounts" "size" "I" (.int 1) := (Fld.other W33 (Fld.other W26 (Fld.keep F15 K19 (ninS v2 nin0)) (Or.inl v0)) (Or.inl v2))
  obtain ⟨T36, X36, e36, st36⟩ := getF X33 hx hZ hown (host := "") (Or.inl (w_21 hw)) Via.refl e33 F35 (g := (mkF m 156 #[rv o0, iv t1, rv a_ONE, iv (-2), iv 1] [(.ref o0), (.ref o0)])) rfl rfl (hb hby d5_156)
  have F37 : Exa Z h33 o0 "com/example/deferra/deferra/crediting/DailyAmounts" := (Exa.wr W33 (Exa.wr W26 (Exa.keep (Exa.keep f6 K10) K19)))
  obtain ⟨T38, h38, X38, e38, W38, st38⟩ := putF X36 hx hZ hown (host := "") (Or.inl (w_21 hw)) Via.refl e36 F35 F37 (Or.inl (w_22 hw)) (w_1 hw) (ty := .int) (by decide) rfl rfl (g := (mkF m 161 #[rv o0, iv t1, rv a_ONE, iv (-2), iv 1] [(.int 2), (.ref o0)])) rfl rfl (hb hby d5_161)
  have O38 := Old.wr O33 W38 u2
  have KK38 : Keep h0 h38 [o1, o2, o0] := Keep.wr KK33 W38 (Or.inl (List.mem_of_getElem? (i := 2) rfl))
  have N38 := Fr.snoc X38 N33 u2
  have F39 : Fld Z h38 o0 "com/example/deferra/deferra/crediting/DailyAmounts" "size" "I" (.int 2) := Fld.same W38 F35
  have F40 : Arv Z h38 o1 j0 .int (4 : Int32) [(.int t0), (.int t1), (.int t3), (.int t4)] (.int 0) := (Arv.other (Arv.other F27 W33 (Ne.symm v1)) W38 (Ne.symm v0))
  have F41 : Exa Z h38 o1 "[I" := (Exa.wr W38 (Exa.wr W33 (Exa.wr W26 (Exa.keep (Exa.keep f7 K10) K19))))
  have F42 : Arv Z h38 o2 j1 (.object "java/math/BigDecimal") (4 : Int32) [(.ref a_ONE), (.ref a_ONE), .null, .null] .null := (Arv.other F34 W38 (Ne.symm v2))
  have F43 : Exa Z h38 o2 "[Ljava/math/BigDecimal;" := (Exa.wr W38 (Exa.wr W33 (Exa.wr W26 (Exa.keep (Exa.keep f8 K10) K19))))
  have F44 : Fld Z h38 o0 "com/example/deferra/deferra/crediting/DailyAmounts" "days" "[I" (.ref o1) := (Fld.other W38 (Fld.other W33 (Fld.other W26 F21 (Or.inl v0)) (Or.inl v2)) (Or.inr (slot_ne (Or.inl (w_11 hw)) (Or.inl (w_22 hw)) (by decide) (t := (.array .int)) (t' := .int) (by decide) (by decide))))
  have F45 : Fld Z h38 o0 "com/example/deferra/deferra/crediting/DailyAmounts" "amounts" "[Ljava/math/BigDecimal;" (.ref o2) := (Fld.other W38 (Fld.other W33 F28 (Or.inl v2)) (Or.inr (slot_ne (Or.inl (w_15 hw)) (Or.inl (w_22 hw)) (by decide) (t := (.array (.object "java/math/BigDecimal"))) (t' := .int) (by decide) (by decide))))
  have F46 : Exa Z h38 o0 "com/example/deferra/deferra/crediting/DailyAmounts" := (Exa.wr W38 F37)
  obtain ⟨fs, hr, hrun, hended, hW, hsame⟩ := X38.leave (v := none) (fun _ => rfl)
  refine ⟨_, _, pre0 _ ?_, hrun, hended, _, _, rfl, ?_, ⟨_, rfl⟩, hW, hsame.mono (by decide) (by decide)⟩
  · show Steps p.tables e below (s₁.setTop (mkF m 0 #[rv o0, iv t1, rv a_ONE, .unset, .unset] [])) _
    refine XS.aloadN X0.here hx rfl (hb hby d5_0) rfl rfl ?_
    refine st1 _ ?_
    refine XS.iconst X1.here hx rfl (hb hby d5_4) ?_
    refine XS.aloadN X1.here hx rfl (hb hby d5_5) rfl rfl ?_
    show Steps p.tables e below (T1.setTop (mkF m 6 #[rv o0, iv t1, rv a_ONE, .unset, .unset] [(.ref o0), (.int 0), (.ref o1)])) _
    refine st2 _ ?_
    refine XS.iloadN X2.here hx rfl (hb hby d5_9) rfl ?_
    refine st3 _ ?_
    refine XS.istoreN X3.here hx rfl (hb hby d5_13) rfl (l' := #[rv o0, iv t1, rv a_ONE, iv (-2), .unset]) rfl ?_
    show Steps p.tables e below (T3.setTop (mkF m 14 #[rv o0, iv t1, rv a_ONE, iv (-2), .unset] [])) _
    refine XS.iloadN X3.here hx rfl (hb hby d5_14) rfl ?_
    refine XS.ifYes X3.here hx rfl (pc0 := 15) (pc' := 35) rfl (hb hby d5_15) rfl (by decide) (by decide) (by decide) ?_
    refine XS.iloadN X3.here hx rfl (hb hby d5_35) rfl ?_
    refine XS.ineg X3.here hx rfl (hb hby d5_36) rfl ?_
    show Steps p.tables e below (T3.setTop (mkF m 37 #[rv o0, iv t1, rv a_ONE, iv (-2), .unset] [(.int (-(-2 : Int32)))])) _
    rw [(by decide : (-(-2 : Int32)) = (2 : Int32))]
    refine XS.iconst X3.here hx rfl (hb hby d5_37) ?_
    refine XS.isub X3.here hx rfl (hb hby d5_38) rfl ?_
    show Steps p.tables e below (T3.setTop (mkF m 39 #[rv o0, iv t1, rv a_ONE, iv (-2), .unset] [(.int ((2 : Int32) - (1 : Int32)))])) _
    rw [(by decide : ((2 : Int32) - (1 : Int32)) = (1 : Int32))]
    refine XS.istore X3.here hx rfl (hb hby d5_39) rfl (l' := #[rv o0, iv t1, rv a_ONE, iv (-2), iv 1]) rfl ?_
    refine XS.aloadN X3.here hx rfl (hb hby d5_41) rfl rfl ?_
    refine st4 _ ?_
    show Steps p.tables e below (T4.setTop (mkF m 45 #[rv o0, iv t1, rv a_ONE, iv (-2), iv 1] [(.int 1)])) _
    refine XS.aloadN X4.here hx rfl (hb hby d5_45) rfl rfl ?_
    refine st5 _ ?_
    refine X5.arraylength hx (by rw [e5]; exact r6.1) (State.isArrayOf_alike hZ.alike r6.2.1) (g := (mkF m 49 #[rv o0, iv t1, rv a_ONE, iv (-2), iv 1] [(.ref o1), (.int 1)])) rfl rfl (hb hby d5_49) _ ?_
    rw [len_of S6 M6]
    show Steps p.tables e below (T5.setTop (mkF m 50 #[rv o0, iv t1, rv a_ONE, iv (-2), iv 1] [(.int 4), (.int 1)])) _
    refine XS.icmpYes X5.here hx rfl (pc0 := 50) (pc' := 90) rfl (hb hby d5_50) rfl (by decide) (by decide) (by decide) ?_
    refine XS.aloadN X5.here hx rfl (hb hby d5_90) rfl rfl ?_
    refine st7 _ ?_
    refine XS.iload X7.here hx rfl (hb hby d5_94) rfl ?_
    show Steps p.tables e below (T7.setTop (mkF m 96 #[rv o0, iv t1, rv a_ONE, iv (-2), iv 1] [(.int 1), (.ref o1)])) _
    refine XS.aloadN X7.here hx rfl (hb hby d5_96) rfl rfl ?_
    refine st8 _ ?_
    refine XS.iload X8.here hx rfl (hb hby d5_100) rfl ?_
    refine XS.iconst X8.here hx rfl (hb hby d5_102) ?_
    show Steps p.tables e below (T8.setTop (mkF m 103 #[rv o0, iv t1, rv a_ONE, iv (-2), iv 1] [(.int 1), (.int 1), (.ref o1), (.int 1), (.ref o1)])) _
    refine XS.iadd X8.here hx rfl (hb hby d5_103) rfl ?_
    show Steps p.tables e below (T8.setTop (mkF m 104 #[rv o0, iv t1, rv a_ONE, iv (-2), iv 1] [(.int ((1 : Int32) + (1 : Int32))), (.ref o1), (.int 1), (.ref o1)])) _
    rw [(by decide : ((1 : Int32) + (1 : Int32)) = (2 : Int32))]
    refine XS.aloadN X8.here hx rfl (hb hby d5_104) rfl rfl ?_
    refine st9 _ ?_
    refine XS.iload X9.here hx rfl (hb hby d5_108) rfl ?_
    show Steps p.tables e below (T9.setTop (mkF m 110 #[rv o0, iv t1, rv a_ONE, iv (-2), iv 1] [(.int 1), (.int 1), (.int 2), (.ref o1), (.int 1), (.ref o1)])) _
    refine XS.isub X9.here hx rfl (hb hby d5_110) rfl ?_
    show Steps p.tables e below (T9.setTop (mkF m 111 #[rv o0, iv t1, rv a_ONE, iv (-2), iv 1] [(.int ((1 : Int32) - (1 : Int32))), (.int 2), (.ref o1), (.int 1), (.ref o1)])) _
    rw [(by decide : ((1 : Int32) - (1 : Int32)) = (0 : Int32))]
    refine st10 _ ?_
    refine XS.aloadN X10.here hx rfl (hb hby d5_114) rfl rfl ?_
    refine st13 _ ?_
    show Steps p.tables e below (T13.setTop (mkF m 118 #[rv o0, iv t1, rv a_ONE, iv (-2), iv 1] [(.ref o2)])) _
    refine XS.iload X13.here hx rfl (hb hby d5_118) rfl ?_
    refine XS.aloadN X13.here hx rfl (hb hby d5_120) rfl rfl ?_
    refine st14 _ ?_
    refine XS.iload X14.here hx rfl (hb hby d5_124) rfl ?_
    show Steps p.tables e below (T14.setTop (mkF m 126 #[rv o0, iv t1, rv a_ONE, iv (-2), iv 1] [(.int 1), (.ref o2), (.int 1), (.ref o2)])) _
    refine XS.iconst X14.here hx rfl (hb hby d5_126) ?_
    refine XS.iadd X14.here hx rfl (hb hby d5_127) rfl ?_
    show Steps p.tables e below (T14.setTop (mkF m 128 #[rv o0, iv t1, rv a_ONE, iv (-2), iv 1] [(.int ((1 : Int32) + (1 : Int32))), (.ref o2), (.int 1), (.ref o2)])) _
    rw [(by decide : ((1 : Int32) + (1 : Int32)) = (2 : Int32))]
    refine XS.aloadN X14.here hx rfl (hb hby d5_128) rfl rfl ?_
    refine st16 _ ?_
    refine XS.iload X16.here hx rfl (hb hby d5_132) rfl ?_
    show Steps p.tables e below (T16.setTop (mkF m 134 #[rv o0, iv t1, rv a_ONE, iv (-2), iv 1] [(.int 1), (.int 1), (.int 2), (.ref o2), (.int 1), (.ref o2)])) _
    refine XS.isub X16.here hx rfl (hb hby d5_134) rfl ?_
    show Steps p.tables e below (T16.setTop (mkF m 135 #[rv o0, iv t1, rv a_ONE, iv (-2), iv 1] [(.int ((1 : Int32) - (1 : Int32))), (.int 2), (.ref o2), (.int 1), (.ref o2)])) _
    rw [(by decide : ((1 : Int32) - (1 : Int32)) = (0 : Int32))]
    refine st19 _ ?_
    refine XS.aloadN X19.here hx rfl (hb hby d5_138) rfl rfl ?_
    refine st22 _ ?_
    show Steps p.tables e below (T22.setTop (mkF m 142 #[rv o0, iv t1, rv a_ONE, iv (-2), iv 1] [(.ref o1)])) _
    refine XS.iload X22.here hx rfl (hb hby d5_142) rfl ?_
    refine XS.iloadN X22.here hx rfl (hb hby d5_144) rfl ?_
    refine st26 _ ?_
    refine XS.aloadN X26.here hx rfl (hb hby d5_146) rfl rfl ?_
    show Steps p.tables e below (T26.setTop (mkF m 147 #[rv o0, iv t1, rv a_ONE, iv (-2), iv 1] [(.ref o0)])) _
    refine st29 _ ?_
    refine XS.iload X29.here hx rfl (hb hby d5_150) rfl ?_
    refine XS.aloadN X29.here hx rfl (hb hby d5_152) rfl rfl ?_
    refine st33 _ ?_
    show Steps p.tables e below (T33.setTop (mkF m 154 #[rv o0, iv t1, rv a_ONE, iv (-2), iv 1] [])) _
    refine XS.aloadN X33.here hx rfl (hb hby d5_154) rfl rfl ?_
    refine XS.dup X33.here hx rfl (hb hby d5_155) rfl rfl ?_
    refine st36 _ ?_
    refine XS.iconst X36.here hx rfl (hb hby d5_159) ?_
    show Steps p.tables e below (T36.setTop (mkF m 160 #[rv o0, iv t1, rv a_ONE, iv (-2), iv 1] [(.int 1), (.int 1), (.ref o0)])) _
    refine XS.iadd X36.here hx rfl (hb hby d5_160) rfl ?_
    show Steps p.tables e below (T36.setTop (mkF m 161 #[rv o0, iv t1, rv a_ONE, iv (-2), iv 1] [(.int ((1 : Int32) + (1 : Int32))), (.ref o0)])) _
    rw [(by decide : ((1 : Int32) + (1 : Int32)) = (2 : Int32))]
    refine st38 _ ?_
    exact X38.returnOut hx Bd.returns (hb hby d5_164) hr
  · show Q5_1 Z a_ONE a_ZTT e_2 e_3 t0 t1 t2 t3 t4 o0 o1 o2 j0 j1 h0 n0 _ T38.heap _
    rw [e38]
    exact ⟨rfl, N38, KK38, F40, F41, F42, f5, F43, F44, F39, F45, F46⟩
def Q3_2 (Z : State) (a_ONE : Addr) (a_ZTT : Addr) (e_2 : Addr) (e_3 : Addr) (o0 : Addr) (h0 : Heap) (n0 : Nat) (v : Option Value) (h : Heap) (L : List Loc) : Prop := v = some (.int 0) ∧ Fr n0 L ∧ h = h0
set_option maxRecDepth 65536 in
set_option maxHeartbeats 40000000 in
theorem rm3_2 (l : Launch) (Z : State) (a0 : Array Value) (hw : ∀ d ∈ tables_1, d.before a0 Z = true) (ws : List Jvm.Cond) (a_ONE : Addr) (a_ZTT : Addr) (e_2 : Addr) (e_3 : Addr) (o0 : Addr) (h0 : Heap) (n0 : Nat) (FF : Facts Z Z.heap a_ONE a_ZTT e_2 e_3) (OO : Old Z n0 h0) (f0 : Fld Z h0 o0 "com/example/deferra/deferra/crediting/DailyAmounts" "size" "I" (.int 2)) :
    MetFree l (⟨"com/example/deferra/deferra/crediting/DailyAmounts", "isEmpty", "()Z"⟩ : MethodName) (head1 (Jvm.Cond.code (⟨"com/example/deferra/deferra/crediting/DailyAmounts", "isEmpty", "()Z"⟩ : MethodName) prog_24_method_3_code 1 (some .boolean) :: ws) ({ frames := 0, cells := 0, slots := 0, locals := 0 } : Room)) (fun a U => a = #[(.ref o0)] ∧ Z.Warmed39 U.vm ∧ U.heap = h0) (fun _ _ _ _ _ => True) (fun _ U o U' => ∃ v L, o = .returned v ∧ Q3_2 Z a_ONE a_ZTT e_2 e_3 o0 h0 n0 v U'.heap L ∧ FrameEnd U o U' L ({ frames := 0, cells := 0, slots := 0, locals := 0 } : Room).cells ({ frames := 0, cells := 0, slots := 0, locals := 0 } : Room).slots) := by
  refine MetFree.of_bodySF (plainFor_of_name pn_3) hisR ?_
  intro p e s m args below meth c s₁ Bd hml0 hP hK
  obtain ⟨rfl, hZ, hh⟩ := hP
  have hx := Bd.exec
  have hby := Bd.bytes
  have hml : c.maxLocals = 1 := hml0
  have hown : s.vm.findClass "com/example/deferra/deferra/crediting/DailyAmounts" = some m.cls := findClass_of_methodNamed Bd.named
  have X0 : Stand p l e ({ frames := 0, cells := 0, slots := 0, locals := 0 } : Room) s m #[(.ref o0)] below meth c s₁ [] 0 0 := Stand.of_body Bd
  have e0 : s₁.heap = h0 := by rw [← hh, Bd.state]; rfl
  have N0 := Fr.nil n0
  have pre0 : ∀ t, Steps p.tables e below (s₁.setTop (mkF m 0 #[rv o0] [])) t → Steps p.tables e below (s₁.setTop (entryFrame m #[(.ref o0)] 1)) t := fun t k => castTop (ef_3 m o0) k
  obtain ⟨T1, X1, e1, st1⟩ := getF X0 hx hZ hown (host := "") (Or.inl (w_21 hw)) Via.refl e0 f0 (g := (mkF m 1 #[rv o0] [(.ref o0)])) rfl rfl (hb hby d3_1)
  obtain ⟨fs, hr, hrun, hended, hW, hsame⟩ := X1.leave (v := some (.int 0)) (fun h => by rw [Bd.returns] at h; cases h)
  refine ⟨_, _, pre0 _ ?_, hrun, hended, _, _, rfl, ?_, ⟨_, rfl⟩, hW, hsame.mono (by decide) (by decide)⟩
  · show Steps p.tables e below (s₁.setTop (mkF m 0 #[rv o0] [])) _
    refine XS.aloadN X0.here hx rfl (hb hby d3_0) rfl rfl ?_
    refine st1 _ ?_
    refine XS.ifYes X1.here hx rfl (pc0 := 4) (pc' := 11) rfl (hb hby d3_4) rfl (by decide) (by decide) (by decide) ?_
    refine XS.iconst X1.here hx rfl (hb hby d3_11) ?_
    show Steps p.tables e below (T1.setTop (mkF m 12 #[rv o0] [(.int 0)])) _
    exact retN X1 hx (t := .boolean) Bd.returns (by simp) (hb hby d3_12) hr
  · show Q3_2 Z a_ONE a_ZTT e_2 e_3 o0 h0 n0 _ T1.heap _
    exact ⟨rfl, N0, e1⟩
set_option maxRecDepth 65536 in
set_option maxHeartbeats 40000000 in
theorem sg_12 {p : Program} {l : Launch} {e : Env} {s : State} {m : MethodId} {args : Array Value} {below : List Frame} {meth : Method} {c : Code} {T0 : State} {locs : List Loc} {Z : State} {a0 : Array Value} {h0 : Heap} {n0 : Nat} (hw : ∀ d ∈ tables_1, d.before a0 Z = true) (a_ONE : Addr) (a_ZTT : Addr) (e_2 : Addr) (e_3 : Addr) (t0 : Int32) (t1 : Int32) (t2 : Int32) (t3 : Int32) (t4 : Int32) (t5 : Int32) (t6 : Int32) (t7 : Int32) (o0 : Addr) (o1 : Addr) (o2 : Addr) (j0 : ClassId) (j1 : ClassId) (FF : Facts Z Z.heap a_ONE a_ZTT e_2 e_3)
    (X0 : Stand p l e room_1 s m args below meth c T0 locs 3 11) (hx : p.tables.exec = Jvm.exec) (hZ : Z.Warmed39 s.vm) (hby : c.code = code) (hml : c.maxLocals = 8) (hown : s.vm.findClass "com/example/deferra/deferra/crediting/DailyAmountsIsEmptyPinLaw" = some m.cls) (e0 : T0.heap = h0) (N0 : Fr n0 locs) (OO : Old Z n0 h0) (f0 : Fld Z h0 o0 "com/example/deferra/deferra/crediting/DailyAmounts" "days" "[I" (.ref o1)) (f1 : Fld Z h0 o0 "com/example/deferra/deferra/crediting/DailyAmounts" "size" "I" (.int 1)) (f2 : Arv Z h0 o1 j0 .int (4 : Int32) [(.int t0), (.int t2), (.int t3), (.int t4)] (.int 0)) (f3 : Fld Z h0 o0 "com/example/deferra/deferra/crediting/DailyAmounts" "amounts" "[Ljava/math/BigDecimal;" (.ref o2)) (f4 : Arv Z h0 o2 j1 (.object "java/math/BigDecimal") (4 : Int32) [(.ref a_ONE), .null, .null, .null] .null) (f5 : Ovr Z j1 "java/math/BigDecimal") (f6 : Exa Z h0 o0 "com/example/deferra/deferra/crediting/DailyAmounts") (f7 : Exa Z h0 o1 "[I") (f8 : Exa Z h0 o2 "[Ljava/math/BigDecimal;") (u0 : n0 ≤ o1) (v0 : o0 ≠ o1) (v1 : o2 ≠ o1) (u1 : n0 ≤ o2) (v2 : o0 ≠ o2) (u2 : n0 ≤ o0) (hq0 : t0 < t1) :
    ∃ (T' : State) (h' : Heap) (lc : List Loc), Stand p l e room_1 s m args below meth c T' lc 3 11 ∧ T'.heap = h' ∧ Fr n0 lc ∧ Keep h0 h' [o0, o2, o1] ∧ Fld Z h' o0 "com/example/deferra/deferra/crediting/DailyAmounts" "days" "[I" (.ref o1) ∧ Fld Z h' o0 "com/example/deferra/deferra/crediting/DailyAmounts" "size" "I" (.int 2) ∧ Fld Z h' o0 "com/example/deferra/deferra/crediting/DailyAmounts" "amounts" "[Ljava/math/BigDecimal;" (.ref o2) ∧ Exa Z h' o0 "com/example/deferra/deferra/crediting/DailyAmounts" ∧ Arv Z h' o2 j1 (.object "java/math/BigDecimal") (4 : Int32) [(.ref a_ONE), (.ref a_ONE), .null, .null] .null ∧ Ovr Z j1 "java/math/BigDecimal" ∧ Exa Z h' o2 "[Ljava/math/BigDecimal;" ∧ Arv Z h' o1 j0 .int (4 : Int32) [(.int t0), (.int t1), (.int t3), (.int t4)] (.int 0) ∧ Exa Z h' o1 "[I" ∧
      ∀ target, Steps p.tables e below (T'.setTop (mkF m 107 #[iv t5, iv t6, iv t1, iv t7, iv 2, rv o0, iv 1, .unset] [])) target → Steps p.tables e below (T0.setTop (mkF m 72 #[iv t5, iv t6, iv t1, iv t7, iv 2, rv o0, iv 1, .unset] [])) target := by
  obtain ⟨T1, X1, e1, st1⟩ := getS2 X0 hx hZ hown (host := "") (Or.inl (w_28 hw)) Via.refl e0 (Sta.ext OO.2 (fx_S_ONE FF)) (g := (mkF m 81 #[iv t5, iv t6, iv t1, iv t7, iv 2, rv o0, iv 1, .unset] [(.int t1), (.ref o0)])) rfl (hb hby at_81)
  obtain ⟨cq2, kq2, q2a, q2b, q2c⟩ := isOf hZ e1 f6
  obtain ⟨_, _, ⟨T2, L2, k2, n2⟩, -, X2, ⟨Lc2, hQ2, l2, y2, z2⟩, st2⟩ := X1.virtualBack hx (y := (⟨"com/example/deferra/deferra/crediting/DailyAmounts", "add", "(ILjava/math/BigDecimal;)V"⟩ : MethodName)) (z := (⟨"com/example/deferra/deferra/crediting/DailyAmounts", "add", "(ILjava/math/BigDecimal;)V"⟩ : MethodName)) hown (mvT hZ (w_30 hw)) (mvT hZ (w_31 hw)) (notFace_of_selects (args := #[]) (mvT hZ (w_33 hw))) (mvT hZ (w_33 hw)) (mvT hZ (w_32 hw)) (by decide) (backOf (W := 0) (rm5_1 l Z a0 hw [] a_ONE a_ZTT e_2 e_3 t0 t1 t2 t3 t4 o0 o1 o2 j0 j1 h0 n0 FF OO f0 f1 f2 u0 f3 v0 f4 v1 u1 v2 f5 f6 u2 f7 f8 hq0) hZ (w_34 hw) (w_2 hw) (by decide) (by decide)) q2a q2c (g := (mkF m 84 #[iv t5, iv t6, iv t1, iv t7, iv 2, rv o0, iv 1, .unset] [(.ref a_ONE), (.int t1), (.ref o0)])) rfl (by rw [hml]; rfl) (Steps.refl _) (argsL := [(.int t1), (.ref a_ONE)]) (rest := []) (lenOf pd_5 rfl) rfl (by show 2 * 0 + _ ≤ _; exact Nat.le_of_eq rfl) (hb hby at_84) (fun _ _ => ⟨rfl, e1, (by decide : 3 + 0 ≤ _), (by decide : 11 + 0 ≤ _)⟩)
  dsimp only [Pt.U, Pt.locs, Pt.cells, Pt.slots] at X2 l2 y2 z2 st2 hQ2
  subst l2 y2 z2
  obtain ⟨h2, e2⟩ : ∃ z, T2.heap = z := ⟨_, rfl⟩
  rw [e2] at hQ2
  obtain ⟨rfl, N2q, K2, R2_0, R2_1, R2_2, R2_3, R2_4, R2_5, R2_6, R2_7, R2_8⟩ := hQ2
  have N2 := Fr.app N0 N2q
  have O2 := Old.keep OO K2 (allS u0 (allS u1 (allS u2 all0)))
  have KK2 : Keep h0 h2 [o0, o2, o1] := Keep.trans (Keep.refl h0 [o0, o2, o1]) K2 (allS (Or.inl (List.mem_of_getElem? (i := 2) rfl)) (allS (Or.inl (List.mem_of_getElem? (i := 1) rfl)) (allS (Or.inl (List.mem_of_getElem? (i := 0) rfl)) all0)))
  obtain ⟨cq3, kq3, q3a, q3b, q3c⟩ := isOf hZ e2 R2_8
  obtain ⟨_, _, ⟨T3, L3, k3, n3⟩, -, X3, ⟨Lc3, hQ3, l3, y3, z3⟩, st3⟩ := X2.virtualBack hx (y := (⟨"com/example/deferra/deferra/crediting/DailyAmounts", "isEmpty", "()Z"⟩ : MethodName)) (z := (⟨"com/example/deferra/deferra/crediting/DailyAmounts", "isEmpty", "()Z"⟩ : MethodName)) hown (mvT hZ (w_16 hw)) (mvT hZ (w_17 hw)) (notFace_of_selects (args := #[]) (mvT hZ (w_19 hw))) (mvT hZ (w_19 hw)) (mvT hZ (w_18 hw)) (by decide) (backOf (W := 0) (rm3_2 l Z a0 hw [] a_ONE a_ZTT e_2 e_3 o0 h2 n0 FF O2 R2_6) hZ (w_20 hw) (w_2 hw) (by decide) (by decide)) q3a q3c (g := (mkF m 94 #[iv t5, iv t6, iv t1, iv t7, iv 2, rv o0, iv 1, .unset] [(.ref o0)])) rfl (by rw [hml]; rfl) (Steps.refl _) (argsL := []) (rest := []) (lenOf pd_1 rfl) rfl (by show 2 * 0 + _ ≤ _; exact Nat.le_of_eq rfl) (hb hby at_94) (fun _ _ => ⟨rfl, e2, (by decide : 3 + 0 ≤ _), (by decide : 11 + 0 ≤ _)⟩)
  dsimp only [Pt.U, Pt.locs, Pt.cells, Pt.slots] at X3 l3 y3 z3 st3 hQ3
  subst l3 y3 z3
  obtain ⟨rfl, N3q, e3⟩ := hQ3
  have N3 := Fr.app N2 N3q
  refine ⟨T3, h2, _, X3, e3, N3, KK2, R2_5, R2_6, R2_7, R2_8, R2_2, R2_3, R2_4, R2_0, R2_1, fun target kt => ?_⟩
  show Steps p.tables e below (T0.setTop (mkF m 72 #[iv t5, iv t6, iv t1, iv t7, iv 2, rv o0, iv 1, .unset] [])) _
  refine XS.iload X0.here hx rfl (hb hby at_72) rfl ?_
  refine XS.iconst X0.here hx rfl (hb hby at_74) ?_
  refine XS.icmpNo X0.here hx rfl (hb hby at_75) rfl (by decide) ?_
  refine XS.aload X0.here hx rfl (hb hby at_78) rfl rfl ?_
  show Steps p.tables e below (T0.setTop (mkF m 80 #[iv t5, iv t6, iv t1, iv t7, iv 2, rv o0, iv 1, .unset] [(.ref o0)])) _
  refine XS.iloadN X0.here hx rfl (hb hby at_80) rfl ?_
  refine st1 _ ?_
  refine st2.trans ?_
  refine XS.iload X2.here hx rfl (hb hby at_87) rfl ?_
  show Steps p.tables e below (T2.setTop (mkF m 89 #[iv t5, iv t6, iv t1, iv t7, iv 2, rv o0, iv 1, .unset] [(.int 1)])) _
  refine XS.ifNo X2.here hx rfl (hb hby at_89) rfl (by decide) ?_
  refine XS.aload X2.here hx rfl (hb hby at_92) rfl rfl ?_
  refine st3.trans ?_
  refine XS.ifNo X3.here hx rfl (hb hby at_97) rfl (by decide) ?_
  show Steps p.tables e below (T3.setTop (mkF m 100 #[iv t5, iv t6, iv t1, iv t7, iv 2, rv o0, iv 1, .unset] [])) _
  refine XS.iconst X3.here hx rfl (hb hby at_100) ?_
  refine XS.goto X3.here hx rfl (pc0 := 101) (pc' := 105) rfl (hb hby at_101) (by decide) (by decide) ?_
  refine XS.istore X3.here hx rfl (hb hby at_105) rfl (l' := #[iv t5, iv t6, iv t1, iv t7, iv 2, rv o0, iv 1, .unset]) rfl ?_
  exact kt
set_option maxRecDepth 65536 in
set_option maxHeartbeats 40000000 in
theorem sg_13 {p : Program} {l : Launch} {e : Env} {s : State} {m : MethodId} {args : Array Value} {below : List Frame} {meth : Method} {c : Code} {T0 : State} {locs : List Loc} {Z : State} {a0 : Array Value} {h0 : Heap} {n0 : Nat} (hw : ∀ d ∈ tables_1, d.before a0 Z = true) (a_ONE : Addr) (a_ZTT : Addr) (e_2 : Addr) (e_3 : Addr) (t0 : Int32) (t1 : Int32) (t2 : Int32) (t3 : Int32) (t4 : Int32) (o0 : Addr) (FF : Facts Z Z.heap a_ONE a_ZTT e_2 e_3)
    (X0 : Stand p l e room_1 s m args below meth c T0 locs 3 11) (hx : p.tables.exec = Jvm.exec) (hZ : Z.Warmed39 s.vm) (hby : c.code = code) (hml : c.maxLocals = 8) (hown : s.vm.findClass "com/example/deferra/deferra/crediting/DailyAmountsIsEmptyPinLaw" = some m.cls) (e0 : T0.heap = h0) (N0 : Fr n0 locs) (OO : Old Z n0 h0) :
    ∃ (T' : State) (h' : Heap) (lc : List Loc), Stand p l e room_1 s m args below meth c T' lc 3 11 ∧ T'.heap = h' ∧ Fr n0 lc ∧ Keep h0 h' [] ∧
      ∀ target, Steps p.tables e below (T'.setTop (mkF m 142 #[iv t0, iv t1, iv t2, iv t3, iv 2, rv o0, iv t4, .unset] [])) target → Steps p.tables e below (T0.setTop (mkF m 107 #[iv t0, iv t1, iv t2, iv t3, iv 2, rv o0, iv t4, .unset] [])) target := by
  refine ⟨T0, h0, _, X0, e0, N0, (Keep.refl h0 []), fun target kt => ?_⟩
  show Steps p.tables e below (T0.setTop (mkF m 107 #[iv t0, iv t1, iv t2, iv t3, iv 2, rv o0, iv t4, .unset] [])) _
  refine XS.iload X0.here hx rfl (hb hby at_107) rfl ?_
  refine XS.iconst X0.here hx rfl (hb hby at_109) ?_
  refine XS.icmpYes X0.here hx rfl (pc0 := 110) (pc' := 142) rfl (hb hby at_110) rfl (by decide) (by decide) (by decide) ?_
  exact kt
set_option maxRecDepth 65536 in
set_option maxHeartbeats 40000000 in
theorem sg_14 {p : Program} {l : Launch} {e : Env} {s : State} {m : MethodId} {args : Array Value} {below : List Frame} {meth : Method} {c : Code} {T0 : State} {locs : List Loc} {Z : State} {a0 : Array Value} {h0 : Heap} {n0 : Nat} (hw : ∀ d ∈ tables_1, d.before a0 Z = true) (a_ONE : Addr) (a_ZTT : Addr) (e_2 : Addr) (e_3 : Addr) (t0 : Int32) (t1 : Int32) (t2 : Int32) (t3 : Int32) (o0 : Addr) (FF : Facts Z Z.heap a_ONE a_ZTT e_2 e_3)
    (X0 : Stand p l e room_1 s m args below meth c T0 locs 3 11) (hx : p.tables.exec = Jvm.exec) (hZ : Z.Warmed39 s.vm) (hby : c.code = code) (hml : c.maxLocals = 8) (hown : s.vm.findClass "com/example/deferra/deferra/crediting/DailyAmountsIsEmptyPinLaw" = some m.cls) (e0 : T0.heap = h0) (N0 : Fr n0 locs) (OO : Old Z n0 h0) (f0 : Fld Z h0 o0 "com/example/deferra/deferra/crediting/DailyAmounts" "size" "I" (.int 2)) (f1 : Exa Z h0 o0 "com/example/deferra/deferra/crediting/DailyAmounts") :
    ∃ (T' : State) (h' : Heap) (lc : List Loc), Stand p l e room_1 s m args below meth c T' lc 3 11 ∧ T'.heap = h' ∧ Fr n0 lc ∧ Keep h0 h' [] ∧
      ∀ target, Steps p.tables e below (T'.setTop (mkF m 192 #[iv t0, iv t1, iv t2, iv t3, iv 2, rv o0, iv 1, iv 0] [(.int 1)])) target → Steps p.tables e below (T0.setTop (mkF m 142 #[iv t0, iv t1, iv t2, iv t3, iv 2, rv o0, iv 1, .unset] [])) target := by
  obtain ⟨cq1, kq1, q1a, q1b, q1c⟩ := isOf hZ e0 f1
  obtain ⟨_, _, ⟨T1, L1, k1, n1⟩, -, X1, ⟨Lc1, hQ1, l1, y1, z1⟩, st1⟩ := X0.virtualBack hx (y := (⟨"com/example/deferra/deferra/crediting/DailyAmounts", "isEmpty", "()Z"⟩ : MethodName)) (z := (⟨"com/example/deferra/deferra/crediting/DailyAmounts", "isEmpty", "()Z"⟩ : MethodName)) hown (mvT hZ (w_16 hw)) (mvT hZ (w_17 hw)) (notFace_of_selects (args := #[]) (mvT hZ (w_19 hw))) (mvT hZ (w_19 hw)) (mvT hZ (w_18 hw)) (by decide) (backOf (W := 0) (rm3_2 l Z a0 hw [] a_ONE a_ZTT e_2 e_3 o0 h0 n0 FF OO f0) hZ (w_20 hw) (w_2 hw) (by decide) (by decide)) q1a q1c (g := (mkF m 144 #[iv t0, iv t1, iv t2, iv t3, iv 2, rv o0, iv 1, .unset] [(.ref o0)])) rfl (by rw [hml]; rfl) (Steps.refl _) (argsL := []) (rest := []) (lenOf pd_1 rfl) rfl (by show 2 * 0 + _ ≤ _; exact Nat.le_of_eq rfl) (hb hby at_144) (fun _ _ => ⟨rfl, e0, (by decide : 3 + 0 ≤ _), (by decide : 11 + 0 ≤ _)⟩)
  dsimp only [Pt.U, Pt.locs, Pt.cells, Pt.slots] at X1 l1 y1 z1 st1 hQ1
  subst l1 y1 z1
  obtain ⟨rfl, N1q, e1⟩ := hQ1
  have N1 := Fr.app N0 N1q
  obtain ⟨cq2, kq2, q2a, q2b, q2c⟩ := isOf hZ e1 f1
  obtain ⟨_, _, ⟨T2, L2, k2, n2⟩, -, X2, ⟨Lc2, hQ2, l2, y2, z2⟩, st2⟩ := X1.virtualBack hx (y := (⟨"com/example/deferra/deferra/crediting/DailyAmounts", "size", "()I"⟩ : MethodName)) (z := (⟨"com/example/deferra/deferra/crediting/DailyAmounts", "size", "()I"⟩ : MethodName)) hown (mvT hZ (w_23 hw)) (mvT hZ (w_24 hw)) (notFace_of_selects (args := #[]) (mvT hZ (w_26 hw))) (mvT hZ (w_26 hw)) (mvT hZ (w_25 hw)) (by decide) (backOf (W := 1) (rm4_0 l Z a0 hw [] a_ONE a_ZTT e_2 e_3 (2 : Int32) o0 h0 n0 FF OO f0) hZ (w_27 hw) (w_2 hw) (by decide) (by decide)) q2a q2c (g := (mkF m 158 #[iv t0, iv t1, iv t2, iv t3, iv 2, rv o0, iv 1, iv 0] [(.ref o0), (.int 0)])) rfl (by rw [hml]; rfl) (Steps.refl _) (argsL := []) (rest := [(.int 0)]) (lenOf pd_2 rfl) rfl (by show 2 * 0 + _ ≤ _; exact Nat.le_of_eq rfl) (hb hby at_158) (fun _ _ => ⟨rfl, e1, (by decide : 3 + 0 ≤ _), (by decide : 11 + 0 ≤ _)⟩)
  dsimp only [Pt.U, Pt.locs, Pt.cells, Pt.slots] at X2 l2 y2 z2 st2 hQ2
  subst l2 y2 z2
  obtain ⟨rfl, N2q, e2⟩ := hQ2
  have N2 := Fr.app N1 N2q
  refine ⟨T2, h0, _, X2, e2, N2, (Keep.refl h0 []), fun target kt => ?_⟩
  show Steps p.tables e below (T0.setTop (mkF m 142 #[iv t0, iv t1, iv t2, iv t3, iv 2, rv o0, iv 1, .unset] [])) _
  refine XS.aload X0.here hx rfl (hb hby at_142) rfl rfl ?_
  refine st1.trans ?_
  refine XS.istore X1.here hx rfl (hb hby at_147) rfl (l' := #[iv t0, iv t1, iv t2, iv t3, iv 2, rv o0, iv 1, iv 0]) rfl ?_
  refine XS.iload X1.here hx rfl (hb hby at_149) rfl ?_
  show Steps p.tables e below (T1.setTop (mkF m 151 #[iv t0, iv t1, iv t2, iv t3, iv 2, rv o0, iv 1, iv 0] [(.int 1)])) _
  refine XS.ifNo X1.here hx rfl (hb hby at_151) rfl (by decide) ?_
  refine XS.iload X1.here hx rfl (hb hby at_154) rfl ?_
  refine XS.aload X1.here hx rfl (hb hby at_156) rfl rfl ?_
  refine st2.trans ?_
  show Steps p.tables e below (T2.setTop (mkF m 161 #[iv t0, iv t1, iv t2, iv t3, iv 2, rv o0, iv 1, iv 0] [(.int 2), (.int 0)])) _
  refine XS.ifYes X2.here hx rfl (pc0 := 161) (pc' := 168) rfl (hb hby at_161) rfl (by decide) (by decide) (by decide) ?_
  refine XS.iconst X2.here hx rfl (hb hby at_168) ?_
  refine XS.icmpNo X2.here hx rfl (hb hby at_169) rfl (by decide) ?_
  refine XS.iload X2.here hx rfl (hb hby at_172) rfl ?_
  show Steps p.tables e below (T2.setTop (mkF m 174 #[iv t0, iv t1, iv t2, iv t3, iv 2, rv o0, iv 1, iv 0] [(.int 0)])) _
  refine XS.iload X2.here hx rfl (hb hby at_174) rfl ?_
  refine XS.ifYes X2.here hx rfl (pc0 := 176) (pc' := 183) rfl (hb hby at_176) rfl (by decide) (by decide) (by decide) ?_
  refine XS.iconst X2.here hx rfl (hb hby at_183) ?_
  refine XS.icmpNo X2.here hx rfl (hb hby at_184) rfl (by decide) ?_
  show Steps p.tables e below (T2.setTop (mkF m 187 #[iv t0, iv t1, iv t2, iv t3, iv 2, rv o0, iv 1, iv 0] [])) _
  refine XS.iconst X2.here hx rfl (hb hby at_187) ?_
  refine XS.goto X2.here hx rfl (pc0 := 188) (pc' := 192) rfl (hb hby at_188) (by decide) (by decide) ?_
  exact kt
set_option maxRecDepth 65536 in
set_option maxHeartbeats 40000000 in
theorem rm0_2 (l : Launch) (Z : State) (a0 : Array Value) (hw : ∀ d ∈ tables_1, d.before a0 Z = true) (ws : List Jvm.Cond) (a_ONE : Addr) (a_ZTT : Addr) (e_2 : Addr) (e_3 : Addr) (p0 : Int32) (p1 : Int32) (p2 : Int32) (p3 : Int32) (h0 : Heap) (n0 : Nat) (FF : Facts Z Z.heap a_ONE a_ZTT e_2 e_3) (OO : Old Z n0 h0) (hk0 : (p0 &&& (3 : Int32)) = (2 : Int32)) (hd0 : p1 < p2) :
    MetFree l x (head1 (Jvm.Cond.code x code maxLocals ret :: ws) room_1) (fun a U => a = #[(.int p0), (.int p1), (.int p2), (.int p3)] ∧ Z.Warmed39 U.vm ∧ U.heap = h0) (fun _ _ _ _ _ => True) (fun _ U o U' => ∃ v L, o = .returned v ∧ (v = some (.int (1 : Int32)) ∧ Fr n0 L) ∧ FrameEnd U o U' L room_1.cells room_1.slots) := by
  refine MetFree.of_bodySF (plainFor_of_name pn_0) hisR ?_
  intro p e s m args below meth c s₁ Bd hml0 hP hK
  obtain ⟨rfl, hZ, hh⟩ := hP
  have hx := Bd.exec
  have hby := Bd.bytes
  have hml : c.maxLocals = 8 := hml0
  have hown : s.vm.findClass "com/example/deferra/deferra/crediting/DailyAmountsIsEmptyPinLaw" = some m.cls := findClass_of_methodNamed Bd.named
  have X0 : Stand p l e room_1 s m #[(.int p0), (.int p1), (.int p2), (.int p3)] below meth c s₁ [] 0 0 := Stand.of_body Bd
  have e0 : s₁.heap = h0 := by rw [← hh, Bd.state]; rfl
  have N0 := Fr.nil n0
  have pre0 : ∀ t, Steps p.tables e below (s₁.setTop (mkF m 0 #[iv p0, iv p1, iv p2, iv p3, .unset, .unset, .unset, .unset] [])) t → Steps p.tables e below (s₁.setTop (entryFrame m #[(.int p0), (.int p1), (.int p2), (.int p3)] maxLocals)) t := fun t k => castTop (ef_0 m p0 p1 p2 p3) k
  obtain ⟨T1, h1, lc1, b1, b2, b3, kb2, kb3, X1, e1, N1, K1, sp1_b1, sp1_b2, sp1_b3, ne1_b1_b2, ne1_b1_b3, ne1_b2_b3, R1_0, R1_1, R1_2, R1_3, R1_4, R1_5, R1_6, R1_7, R1_8, st1⟩ := sg_10 hw a_ONE a_ZTT e_2 e_3 p0 p1 p2 p3 FF X0 hx hZ hby hml hown e0 N0 OO hk0
  have g2 : n0 ≤ b1 := Nat.le_trans (own_le OO) sp1_b1
  have g3 : n0 ≤ b2 := Nat.le_trans (own_le OO) sp1_b2
  have g4 : n0 ≤ b3 := Nat.le_trans (own_le OO) sp1_b3
  have O1 := Old.keep OO K1 all0
  obtain ⟨T5, h5, lc5, X5, e5, N5, K5, R5_0, R5_1, R5_2, R5_3, R5_4, R5_5, R5_6, R5_7, R5_8, st5⟩ := sg_11 hw a_ONE a_ZTT e_2 e_3 (0 : Int32) (0 : Int32) (0 : Int32) (0 : Int32) p1 p0 p2 p3 b1 b2 b3 kb2 kb3 FF X1 hx hZ hby hml hown e1 N1 O1 R1_1 R1_3 R1_5 R1_2 R1_7 R1_8 R1_0 R1_4 R1_6 g3 ne1_b1_b2 (Ne.symm ne1_b2_b3) g4 ne1_b1_b3 g2
  have O5 := Old.keep O1 K5 (allS g2 (allS g4 (allS g3 all0)))
  obtain ⟨T6, h6, lc6, X6, e6, N6, K6, R6_0, R6_1, R6_2, R6_3, R6_4, R6_5, R6_6, R6_7, R6_8, st6⟩ := sg_12 hw a_ONE a_ZTT e_2 e_3 p1 p2 (0 : Int32) (0 : Int32) (0 : Int32) p0 p1 p3 b1 b2 b3 kb2 kb3 FF X5 hx hZ hby hml hown e5 N5 O5 R5_0 R5_1 R5_7 R5_2 R5_4 R5_5 R5_3 R5_8 R5_6 g3 ne1_b1_b2 (Ne.symm ne1_b2_b3) g4 ne1_b1_b3 g2 hd0
  have O6 := Old.keep O5 K6 (allS g2 (allS g4 (allS g3 all0)))
  obtain ⟨T7, h7, lc7, X7, e7, N7, K7, st7⟩ := sg_13 hw a_ONE a_ZTT e_2 e_3 p0 p1 p2 p3 (1 : Int32) b1 FF X6 hx hZ hby hml hown e6 N6 O6
  have O7 := Old.keep O6 K7 all0
  have F9 : Fld Z h7 b1 "com/example/deferra/deferra/crediting/DailyAmounts" "size" "I" (.int 2) := (Fld.keep R6_1 K7 nin0)
  have F10 : Exa Z h7 b1 "com/example/deferra/deferra/crediting/DailyAmounts" := (Exa.keep R6_3 K7)
  obtain ⟨T8, h8, lc8, X8, e8, N8, K8, st8⟩ := sg_14 hw a_ONE a_ZTT e_2 e_3 p0 p1 p2 p3 b1 FF X7 hx hZ hby hml hown e7 N7 O7 F9 F10
  have O8 := Old.keep O7 K8 all0
  obtain ⟨fs, hr, hrun, hended, hW, hsame⟩ := X8.leave (v := some (.int 1)) (fun h => by rw [Bd.returns] at h; cases h)
  refine ⟨_, _, pre0 _ ?_, hrun, hended, _, _, rfl, ?_, ⟨_, rfl⟩, hW, hsame.mono (by decide) (by decide)⟩
  · show Steps p.tables e below (s₁.setTop (mkF m 0 #[iv p0, iv p1, iv p2, iv p3, .unset, .unset, .unset, .unset] [])) _
    refine st1 _ ?_
    show Steps p.tables e below (T1.setTop (mkF m 37 #[iv p0, iv p1, iv p2, iv p3, iv 2, rv b1, iv 1, .unset] [])) _
    refine st5 _ ?_
    show Steps p.tables e below (T5.setTop (mkF m 72 #[iv p0, iv p1, iv p2, iv p3, iv 2, rv b1, iv 1, .unset] [])) _
    refine st6 _ ?_
    show Steps p.tables e below (T6.setTop (mkF m 107 #[iv p0, iv p1, iv p2, iv p3, iv 2, rv b1, iv 1, .unset] [])) _
    refine st7 _ ?_
    show Steps p.tables e below (T7.setTop (mkF m 142 #[iv p0, iv p1, iv p2, iv p3, iv 2, rv b1, iv 1, .unset] [])) _
    refine st8 _ ?_
    exact retN X8 hx (t := .boolean) Bd.returns (by simp) (hb hby at_192) hr
  · exact ⟨rfl, N8⟩
def Q8_2 (Z : State) (a_ONE : Addr) (a_ZTT : Addr) (e_2 : Addr) (e_3 : Addr) (t0 : Int32) (t1 : Int32) (t2 : Int32) (t3 : Int32) (t4 : Int32) (o0 : Addr) (j0 : ClassId) (h0 : Heap) (n0 : Nat) (v : Option Value) (h : Heap) (L : List Loc) : Prop := v = some (.int (-1)) ∧ Fr n0 L ∧ h = h0
set_option maxRecDepth 65536 in
set_option maxHeartbeats 40000000 in
theorem rm8_2 (l : Launch) (Z : State) (a0 : Array Value) (hw : ∀ d ∈ tables_1, d.before a0 Z = true) (ws : List Jvm.Cond) (a_ONE : Addr) (a_ZTT : Addr) (e_2 : Addr) (e_3 : Addr) (t0 : Int32) (t1 : Int32) (t2 : Int32) (t3 : Int32) (t4 : Int32) (o0 : Addr) (j0 : ClassId) (h0 : Heap) (n0 : Nat) (FF : Facts Z Z.heap a_ONE a_ZTT e_2 e_3) (OO : Old Z n0 h0) (f0 : Arv Z h0 o0 j0 .int (4 : Int32) [(.int t0), (.int t2), (.int t3), (.int t4)] (.int 0)) (hq0 : ¬ (t0 < t1)) (hq1 : t1 < t0) :
    MetFree l (⟨"java/util/Arrays", "binarySearch0", "([IIII)I"⟩ : MethodName) (head1 (Jvm.Cond.code (⟨"java/util/Arrays", "binarySearch0", "([IIII)I"⟩ : MethodName) jdk_65_method_59_code 8 (some .int) :: ws) ({ frames := 0, cells := 0, slots := 0, locals := 0 } : Room)) (fun a U => a = #[(.ref o0), (.int 0), (.int 1), (.int t1)] ∧ Z.Warmed39 U.vm ∧ U.heap = h0) (fun _ _ _ _ _ => True) (fun _ U o U' => ∃ v L, o = .returned v ∧ Q8_2 Z a_ONE a_ZTT e_2 e_3 t0 t1 t2 t3 t4 o0 j0 h0 n0 v U'.heap L ∧ FrameEnd U o U' L ({ frames := 0, cells := 0, slots := 0, locals := 0 } : Room).cells ({ frames := 0, cells := 0, slots := 0, locals := 0 } : Room).slots) := by
  refine MetFree.of_bodySF (plainFor_of_name pn_8) hisR ?_
  intro p e s m args below meth c s₁ Bd hml0 hP hK
  obtain ⟨rfl, hZ, hh⟩ := hP
  have hx := Bd.exec
  have hby := Bd.bytes
  have hml : c.maxLocals = 8 := hml0
  have hown : s.vm.findClass "java/util/Arrays" = some m.cls := findClass_of_methodNamed Bd.named
  have X0 : Stand p l e ({ frames := 0, cells := 0, slots := 0, locals := 0 } : Room) s m #[(.ref o0), (.int 0), (.int 1), (.int t1)] below meth c s₁ [] 0 0 := Stand.of_body Bd
  have e0 : s₁.heap = h0 := by rw [← hh, Bd.state]; rfl
  have N0 := Fr.nil n0
  have pre0 : ∀ t, Steps p.tables e below (s₁.setTop (mkF m 0 #[rv o0, iv 0, iv 1, iv t1, .unset, .unset, .unset, .unset] [])) t → Steps p.tables e below (s₁.setTop (entryFrame m #[(.ref o0), (.int 0), (.int 1), (.int t1)] 8)) t := fun t k => castTop (ef_8 m o0 0 1 t1) k
  obtain ⟨c1, r1, q1, S1, M1, H1, G1⟩ := id f0
  have i2 : ¬ ((0 : Int32) < 0 ∨ c1.slots.size ≤ ((0 : Int32)).toNatClampNeg) := inb_of S1 ⟨by decide, by decide⟩
  have y3 : c1.slots[((0 : Int32)).toNatClampNeg]? = some (.int t0) := H1 0 (by rw [S1]; decide)
  obtain ⟨fs, hr, hrun, hended, hW, hsame⟩ := X0.leave (v := some (.int (-1))) (fun h => by rw [Bd.returns] at h; cases h)
  refine ⟨_, _, pre0 _ ?_, hrun, hended, _, _, rfl, ?_, ⟨_, rfl⟩, hW, hsame.mono (by decide) (by decide)⟩
  · show Steps p.tables e below (s₁.setTop (mkF m 0 #[rv o0, iv 0, iv 1, iv t1, .unset, .unset, .unset, .unset] [])) _
    refine XS.iloadN X0.here hx rfl (hb hby d8_0) rfl ?_
    refine XS.istore X0.here hx rfl (hb hby d8_1) rfl (l' := #[rv o0, iv 0, iv 1, iv t1, iv 0, .unset, .unset, .unset]) rfl ?_
    refine XS.iloadN X0.here hx rfl (hb hby d8_3) rfl ?_
    refine XS.iconst X0.here hx rfl (hb hby d8_4) ?_
    show Steps p.tables e below (s₁.setTop (mkF m 5 #[rv o0, iv 0, iv 1, iv t1, iv 0, .unset, .unset, .unset] [(.int 1), (.int 1)])) _
    refine XS.isub X0.here hx rfl (hb hby d8_5) rfl ?_
    show Steps p.tables e below (s₁.setTop (mkF m 6 #[rv o0, iv 0, iv 1, iv t1, iv 0, .unset, .unset, .unset] [(.int ((1 : Int32) - (1 : Int32)))])) _
    rw [(by decide : ((1 : Int32) - (1 : Int32)) = (0 : Int32))]
    refine XS.istore X0.here hx rfl (hb hby d8_6) rfl (l' := #[rv o0, iv 0, iv 1, iv t1, iv 0, iv 0, .unset, .unset]) rfl ?_
    refine XS.iload X0.here hx rfl (hb hby d8_8) rfl ?_
    refine XS.iload X0.here hx rfl (hb hby d8_10) rfl ?_
    show Steps p.tables e below (s₁.setTop (mkF m 12 #[rv o0, iv 0, iv 1, iv t1, iv 0, iv 0, .unset, .unset] [(.int 0), (.int 0)])) _
    refine XS.icmpNo X0.here hx rfl (hb hby d8_12) rfl (by decide) ?_
    refine XS.iload X0.here hx rfl (hb hby d8_15) rfl ?_
    refine XS.iload X0.here hx rfl (hb hby d8_17) rfl ?_
    refine XS.iadd X0.here hx rfl (hb hby d8_19) rfl ?_
    show Steps p.tables e below (s₁.setTop (mkF m 20 #[rv o0, iv 0, iv 1, iv t1, iv 0, iv 0, .unset, .unset] [(.int ((0 : Int32) + (0 : Int32)))])) _
    rw [(by decide : ((0 : Int32) + (0 : Int32)) = (0 : Int32))]
    refine XS.iconst X0.here hx rfl (hb hby d8_20) ?_
    refine XS.iushr X0.here hx rfl (hb hby d8_21) rfl ?_
    show Steps p.tables e below (s₁.setTop (mkF m 22 #[rv o0, iv 0, iv 1, iv t1, iv 0, iv 0, .unset, .unset] [(.int (((0 : Int32).toUInt32 >>> ((1 : Int32) &&& 31).toUInt32).toInt32))])) _
    rw [(by decide : (((0 : Int32).toUInt32 >>> ((1 : Int32) &&& 31).toUInt32).toInt32) = (0 : Int32))]
    refine XS.istore X0.here hx rfl (hb hby d8_22) rfl (l' := #[rv o0, iv 0, iv 1, iv t1, iv 0, iv 0, iv 0, .unset]) rfl ?_
    refine XS.aloadN X0.here hx rfl (hb hby d8_24) rfl rfl ?_
    refine XS.iload X0.here hx rfl (hb hby d8_25) rfl ?_
    show Steps p.tables e below (s₁.setTop (mkF m 27 #[rv o0, iv 0, iv 1, iv t1, iv 0, iv 0, iv 0, .unset] [(.int 0), (.ref o0)])) _
    refine X0.iaload hx (j := (0 : Int32)) (v := (.int t0)) (by rw [e0]; exact r1.1) (State.isArrayOf_alike hZ.alike r1.2.1) r1.2.2 i2 y3 (g := (mkF m 27 #[rv o0, iv 0, iv 1, iv t1, iv 0, iv 0, iv 0, .unset] [(.int 0), (.ref o0)])) rfl rfl (hb hby d8_27) _ ?_
    refine XS.istore X0.here hx rfl (hb hby d8_28) rfl (l' := #[rv o0, iv 0, iv 1, iv t1, iv 0, iv 0, iv 0, iv t0]) rfl ?_
    refine XS.iload X0.here hx rfl (hb hby d8_30) rfl ?_
    refine XS.iloadN X0.here hx rfl (hb hby d8_32) rfl ?_
    show Steps p.tables e below (s₁.setTop (mkF m 33 #[rv o0, iv 0, iv 1, iv t1, iv 0, iv 0, iv 0, iv t0] [(.int t1), (.int t0)])) _
    refine XS.icmpYes X0.here hx rfl (pc0 := 33) (pc' := 45) rfl (hb hby d8_33) rfl (flt hq0).2.1 (by decide) (by decide) ?_
    refine XS.iload X0.here hx rfl (hb hby d8_45) rfl ?_
    refine XS.iloadN X0.here hx rfl (hb hby d8_47) rfl ?_
    refine XS.icmpNo X0.here hx rfl (hb hby d8_48) rfl (tlt hq1).2.2.2 ?_
    show Steps p.tables e below (s₁.setTop (mkF m 51 #[rv o0, iv 0, iv 1, iv t1, iv 0, iv 0, iv 0, iv t0] [])) _
    refine XS.iload X0.here hx rfl (hb hby d8_51) rfl ?_
    refine XS.iconst X0.here hx rfl (hb hby d8_53) ?_
    refine XS.isub X0.here hx rfl (hb hby d8_54) rfl ?_
    show Steps p.tables e below (s₁.setTop (mkF m 55 #[rv o0, iv 0, iv 1, iv t1, iv 0, iv 0, iv 0, iv t0] [(.int ((0 : Int32) - (1 : Int32)))])) _
    rw [(by decide : ((0 : Int32) - (1 : Int32)) = (-1 : Int32))]
    refine XS.istore X0.here hx rfl (hb hby d8_55) rfl (l' := #[rv o0, iv 0, iv 1, iv t1, iv 0, iv (-1), iv 0, iv t0]) rfl ?_
    refine XS.goto X0.here hx rfl (pc0 := 57) (pc' := 63) rfl (hb hby d8_57) (by decide) (by decide) ?_
    refine XS.goto X0.here hx rfl (pc0 := 63) (pc' := 8) rfl (hb hby d8_63) (by decide) (by decide) ?_
    show Steps p.tables e below (s₁.setTop (mkF m 8 #[rv o0, iv 0, iv 1, iv t1, iv 0, iv (-1), iv 0, iv t0] [])) _
    refine XS.iload X0.here hx rfl (hb hby d8_8) rfl ?_
    refine XS.iload X0.here hx rfl (hb hby d8_10) rfl ?_
    refine XS.icmpYes X0.here hx rfl (pc0 := 12) (pc' := 66) rfl (hb hby d8_12) rfl (by decide) (by decide) (by decide) ?_
    refine XS.iload X0.here hx rfl (hb hby d8_66) rfl ?_
    show Steps p.tables e below (s₁.setTop (mkF m 68 #[rv o0, iv 0, iv 1, iv t1, iv 0, iv (-1), iv 0, iv t0] [(.int 0)])) _
    refine XS.iconst X0.here hx rfl (hb hby d8_68) ?_
    refine XS.iadd X0.here hx rfl (hb hby d8_69) rfl ?_
    show Steps p.tables e below (s₁.setTop (mkF m 70 #[rv o0, iv 0, iv 1, iv t1, iv 0, iv (-1), iv 0, iv t0] [(.int ((0 : Int32) + (1 : Int32)))])) _
    rw [(by decide : ((0 : Int32) + (1 : Int32)) = (1 : Int32))]
    refine XS.ineg X0.here hx rfl (hb hby d8_70) rfl ?_
    show Steps p.tables e below (s₁.setTop (mkF m 71 #[rv o0, iv 0, iv 1, iv t1, iv 0, iv (-1), iv 0, iv t0] [(.int (-(1 : Int32)))])) _
    rw [(by decide : (-(1 : Int32)) = (-1 : Int32))]
    exact retI X0 hx Bd.returns (hb hby d8_71) hr
  · show Q8_2 Z a_ONE a_ZTT e_2 e_3 t0 t1 t2 t3 t4 o0 j0 h0 n0 _ s₁.heap _
    exact ⟨rfl, N0, e0⟩
def Q6_2 (Z : State) (a_ONE : Addr) (a_ZTT : Addr) (e_2 : Addr) (e_3 : Addr) (t0 : Int32) (t1 : Int32) (t2 : Int32) (t3 : Int32) (t4 : Int32) (o0 : Addr) (j0 : ClassId) (h0 : Heap) (n0 : Nat) (v : Option Value) (h : Heap) (L : List Loc) : Prop := v = some (.int (-1)) ∧ Fr n0 L ∧ h = h0
set_option maxRecDepth 65536 in
set_option maxHeartbeats 40000000 in
theorem rm6_2 (l : Launch) (Z : State) (a0 : Array Value) (hw : ∀ d ∈ tables_1, d.before a0 Z = true) (ws : List Jvm.Cond) (a_ONE : Addr) (a_ZTT : Addr) (e_2 : Addr) (e_3 : Addr) (t0 : Int32) (t1 : Int32) (t2 : Int32) (t3 : Int32) (t4 : Int32) (o0 : Addr) (j0 : ClassId) (h0 : Heap) (n0 : Nat) (FF : Facts Z Z.heap a_ONE a_ZTT e_2 e_3) (OO : Old Z n0 h0) (f0 : Arv Z h0 o0 j0 .int (4 : Int32) [(.int t0), (.int t2), (.int t3), (.int t4)] (.int 0)) (hq0 : ¬ (t0 < t1)) (hq1 : t1 < t0) :
    MetFree l (⟨"java/util/Arrays", "binarySearch", "([IIII)I"⟩ : MethodName) (head1 (Jvm.Cond.code (⟨"java/util/Arrays", "binarySearch", "([IIII)I"⟩ : MethodName) jdk_65_method_58_code 4 (some .int) :: ws) ({ frames := 1, cells := 0, slots := 0, locals := 19 } : Room)) (fun a U => a = #[(.ref o0), (.int 0), (.int 1), (.int t1)] ∧ Z.Warmed39 U.vm ∧ U.heap = h0) (fun _ _ _ _ _ => True) (fun _ U o U' => ∃ v L, o = .returned v ∧ Q6_2 Z a_ONE a_ZTT e_2 e_3 t0 t1 t2 t3 t4 o0 j0 h0 n0 v U'.heap L ∧ FrameEnd U o U' L ({ frames := 1, cells := 0, slots := 0, locals := 19 } : Room).cells ({ frames := 1, cells := 0, slots := 0, locals := 19 } : Room).slots) := by
  refine MetFree.of_bodySF (plainFor_of_name pn_6) hisR ?_
  intro p e s m args below meth c s₁ Bd hml0 hP hK
  obtain ⟨rfl, hZ, hh⟩ := hP
  have hx := Bd.exec
  have hby := Bd.bytes
  have hml : c.maxLocals = 4 := hml0
  have hown : s.vm.findClass "java/util/Arrays" = some m.cls := findClass_of_methodNamed Bd.named
  have X0 : Stand p l e ({ frames := 1, cells := 0, slots := 0, locals := 19 } : Room) s m #[(.ref o0), (.int 0), (.int 1), (.int t1)] below meth c s₁ [] 0 0 := Stand.of_body Bd
  have e0 : s₁.heap = h0 := by rw [← hh, Bd.state]; rfl
  have N0 := Fr.nil n0
  have pre0 : ∀ t, Steps p.tables e below (s₁.setTop (mkF m 0 #[rv o0, iv 0, iv 1, iv t1] [])) t → Steps p.tables e below (s₁.setTop (entryFrame m #[(.ref o0), (.int 0), (.int 1), (.int t1)] 4)) t := fun t k => castTop (ef_6 m o0 0 1 t1) k
  obtain ⟨c1, r1, q1, S1, M1, H1, G1⟩ := id f0
  obtain ⟨_, _, ⟨T2, L2, k2, n2⟩, -, X2, ⟨Lc2, hQ2, l2, y2, z2⟩, st2⟩ := Jvm.LawKit.callS X0 hx (y := (⟨"java/util/Arrays", "rangeCheck", "(III)V"⟩ : MethodName)) hown (mvT hZ (w_39 hw)) (mvT hZ (w_40 hw)) (mvT hZ (w_37 hw)) (mvT hZ (w_41 hw)) (by decide) (backOf (W := 0) (rm7_1 l Z a0 hw [] a_ONE a_ZTT e_2 e_3 h0 n0 FF OO) hZ (w_41 hw) (w_37 hw) (by decide) (by decide)) (g := (mkF m 4 #[rv o0, iv 0, iv 1, iv t1] [(.int 1), (.int 0), (.int 4)])) rfl (by rw [hml]; rfl) (argsL := [(.int 4), (.int 0), (.int 1)]) (rest := []) (lenOf pd_3 rfl) rfl (by show 2 * 0 + _ ≤ _; exact Nat.le_of_eq rfl) (hb hby d6_4) (fun _ _ => ⟨rfl, e0, (by decide : 0 + 0 ≤ _), (by decide : 0 + 0 ≤ _)⟩)
  dsimp only [Pt.U, Pt.locs, Pt.cells, Pt.slots] at X2 l2 y2 z2 st2 hQ2
  subst l2 y2 z2
  obtain ⟨rfl, N2q, e2⟩ := hQ2
  have N2 := Fr.app N0 N2q
  obtain ⟨_, _, ⟨T3, L3, k3, n3⟩, -, X3, ⟨Lc3, hQ3, l3, y3, z3⟩, st3⟩ := Jvm.LawKit.callS X2 hx (y := (⟨"java/util/Arrays", "binarySearch0", "([IIII)I"⟩ : MethodName)) hown (mvT hZ (w_42 hw)) (mvT hZ (w_43 hw)) (mvT hZ (w_37 hw)) (mvT hZ (w_44 hw)) (by decide) (backOf (W := 0) (rm8_2 l Z a0 hw [] a_ONE a_ZTT e_2 e_3 t0 t1 t2 t3 t4 o0 j0 h0 n0 FF OO f0 hq0 hq1) hZ (w_44 hw) (w_37 hw) (by decide) (by decide)) (g := (mkF m 11 #[rv o0, iv 0, iv 1, iv t1] [(.int t1), (.int 1), (.int 0), (.ref o0)])) rfl (by rw [hml]; rfl) (argsL := [(.ref o0), (.int 0), (.int 1), (.int t1)]) (rest := []) (lenOf pd_4 rfl) rfl (by show 2 * 0 + _ ≤ _; exact Nat.le_of_eq rfl) (hb hby d6_11) (fun _ _ => ⟨rfl, e2, (by decide : 0 + 0 ≤ _), (by decide : 0 + 0 ≤ _)⟩)
  dsimp only [Pt.U, Pt.locs, Pt.cells, Pt.slots] at X3 l3 y3 z3 st3 hQ3
  subst l3 y3 z3
  obtain ⟨rfl, N3q, e3⟩ := hQ3
  have N3 := Fr.app N2 N3q
  obtain ⟨fs, hr, hrun, hended, hW, hsame⟩ := X3.leave (v := some (.int (-1))) (fun h => by rw [Bd.returns] at h; cases h)
  refine ⟨_, _, pre0 _ ?_, hrun, hended, _, _, rfl, ?_, ⟨_, rfl⟩, hW, hsame.mono (by decide) (by decide)⟩
  · show Steps p.tables e below (s₁.setTop (mkF m 0 #[rv o0, iv 0, iv 1, iv t1] [])) _
    refine XS.aloadN X0.here hx rfl (hb hby d6_0) rfl rfl ?_
    refine X0.arraylength hx (by rw [e0]; exact r1.1) (State.isArrayOf_alike hZ.alike r1.2.1) (g := (mkF m 1 #[rv o0, iv 0, iv 1, iv t1] [(.ref o0)])) rfl rfl (hb hby d6_1) _ ?_
    rw [len_of S1 M1]
    refine XS.iloadN X0.here hx rfl (hb hby d6_2) rfl ?_
    show Steps p.tables e below (s₁.setTop (mkF m 3 #[rv o0, iv 0, iv 1, iv t1] [(.int 0), (.int 4)])) _
    refine XS.iloadN X0.here hx rfl (hb hby d6_3) rfl ?_
    refine st2 _ ?_
    refine XS.aloadN X2.here hx rfl (hb hby d6_7) rfl rfl ?_
    refine XS.iloadN X2.here hx rfl (hb hby d6_8) rfl ?_
    show Steps p.tables e below (T2.setTop (mkF m 9 #[rv o0, iv 0, iv 1, iv t1] [(.int 0), (.ref o0)])) _
    refine XS.iloadN X2.here hx rfl (hb hby d6_9) rfl ?_
    refine XS.iloadN X2.here hx rfl (hb hby d6_10) rfl ?_
    refine st3 _ ?_
    exact retI X3 hx Bd.returns (hb hby d6_14) hr
  · show Q6_2 Z a_ONE a_ZTT e_2 e_3 t0 t1 t2 t3 t4 o0 j0 h0 n0 _ T3.heap _
    exact ⟨rfl, N3, e3⟩
def Q5_2 (Z : State) (a_ONE : Addr) (a_ZTT : Addr) (e_2 : Addr) (e_3 : Addr) (t0 : Int32) (t1 : Int32) (t2 : Int32) (t3 : Int32) (t4 : Int32) (o0 : Addr) (o1 : Addr) (o2 : Addr) (j0 : ClassId) (j1 : ClassId) (h0 : Heap) (n0 : Nat) (v : Option Value) (h : Heap) (L : List Loc) : Prop := v = none ∧ Fr n0 L ∧ Keep h0 h [o1, o2, o0] ∧ Arv Z h o1 j0 .int (4 : Int32) [(.int t1), (.int t0), (.int t3), (.int t4)] (.int 0) ∧ Exa Z h o1 "[I" ∧ Arv Z h o2 j1 (.object "java/math/BigDecimal") (4 : Int32) [(.ref a_ONE), (.ref a_ONE), .null, .null] .null ∧ Ovr Z j1 "java/math/BigDecimal" ∧ Exa Z h o2 "[Ljava/math/BigDecimal;" ∧ Fld Z h o0 "com/example/deferra/deferra/crediting/DailyAmounts" "days" "[I" (.ref o1) ∧ Fld Z h o0 "com/example/deferra/deferra/crediting/DailyAmounts" "size" "I" (.int 2) ∧ Fld Z h o0 "com/example/deferra/deferra/crediting/DailyAmounts" "amounts" "[Ljava/math/BigDecimal;" (.ref o2) ∧ Exa Z h o0 "com/example/deferra/deferra/crediting/DailyAmounts"
set_option maxRecDepth 65536 in
set_option maxHeartbeats 40000000 in
theorem rm5_2 (l : Launch) (Z : State) (a0 : Array Value) (hw : ∀ d ∈ tables_1, d.before a0 Z = true) (ws : List Jvm.Cond) (a_ONE : Addr) (a_ZTT : Addr) (e_2 : Addr) (e_3 : Addr) (t0 : Int32) (t1 : Int32) (t2 : Int32) (t3 : Int32) (t4 : Int32) (o0 : Addr) (o1 : Addr) (o2 : Addr) (j0 : ClassId) (j1 : ClassId) (h0 : Heap) (n0 : Nat) (FF : Facts Z Z.heap a_ONE a_ZTT e_2 e_3) (OO : Old Z n0 h0) (f0 : Fld Z h0 o0 "com/example/deferra/deferra/crediting/DailyAmounts" "days" "[I" (.ref o1)) (f1 : Fld Z h0 o0 "com/example/deferra/deferra/crediting/DailyAmounts" "size" "I" (.int 1)) (f2 : Arv Z h0 o1 j0 .int (4 : Int32) [(.int t0), (.int t2), (.int t3), (.int t4)] (.int 0)) (u0 : n0 ≤ o1) (f3 : Fld Z h0 o0 "com/example/deferra/deferra/crediting/DailyAmounts" "amounts" "[Ljava/math/BigDecimal;" (.ref o2)) (v0 : o0 ≠ o1) (f4 : Arv Z h0 o2 j1 (.object "java/math/BigDecimal") (4 : Int32) [(.ref a_ONE), .null, .null, .null] .null) (v1 : o2 ≠ o1) (f5 : Ovr Z j1 "java/math/BigDecimal") (u1 : n0 ≤ o2) (v2 : o0 ≠ o2) (f6 : Exa Z h0 o0 "com/example/deferra/deferra/crediting/DailyAmounts") (u2 : n0 ≤ o0) (f7 : Exa Z h0 o1 "[I") (f8 : Exa Z h0 o2 "[Ljava/math/BigDecimal;") (hq0 : ¬ (t0 < t1)) (hq1 : t1 < t0) :
    MetFree l (⟨"com/example/deferra/deferra/crediting/DailyAmounts", "add", "(ILjava/math/BigDecimal;)V"⟩ : MethodName) (head1 (Jvm.Cond.code (⟨"com/example/deferra/deferra/crediting/DailyAmounts", "add", "(ILjava/math/BigDecimal;)V"⟩ : MethodName) prog_24_method_2_code 5 none :: ws) ({ frames := 2, cells := 0, slots := 0, locals := 34 } : Room)) (fun a U => a = #[(.ref o0), (.int t1), (.ref a_ONE)] ∧ Z.Warmed39 U.vm ∧ U.heap = h0) (fun _ _ _ _ _ => True) (fun _ U o U' => ∃ v L, o = .returned v ∧ Q5_2 Z a_ONE a_ZTT e_2 e_3 t0 t1 t2 t3 t4 o0 o1 o2 j0 j1 h0 n0 v U'.heap L ∧ FrameEnd U o U' L ({ frames := 2, cells := 0, slots := 0, locals := 34 } : Room).cells ({ frames := 2, cells := 0, slots := 0, locals := 34 } : Room).slots) := by
  refine MetFree.of_bodySF (plainFor_of_name pn_5) hisR ?_
  intro p e s m args below meth c s₁ Bd hml0 hP hK
  obtain ⟨rfl, hZ, hh⟩ := hP
  have hx := Bd.exec
  have hby := Bd.bytes
  have hml : c.maxLocals = 5 := hml0
  have hown : s.vm.findClass "com/example/deferra/deferra/crediting/DailyAmounts" = some m.cls := findClass_of_methodNamed Bd.named
  have X0 : Stand p l e ({ frames := 2, cells := 0, slots := 0, locals := 34 } : Room) s m #[(.ref o0), (.int t1), (.ref a_ONE)] below meth c s₁ [] 0 0 := Stand.of_body Bd
  have e0 : s₁.heap = h0 := by rw [← hh, Bd.state]; rfl
  have N0 := Fr.nil n0
  have pre0 : ∀ t, Steps p.tables e below (s₁.setTop (mkF m 0 #[rv o0, iv t1, rv a_ONE, .unset, .unset] [])) t → Steps p.tables e below (s₁.setTop (entryFrame m #[(.ref o0), (.int t1), (.ref a_ONE)] 5)) t := fun t k => castTop (ef_5 m o0 t1 a_ONE) k
  obtain ⟨T1, X1, e1, st1⟩ := getF X0 hx hZ hown (host := "") (Or.inl (w_10 hw)) Via.refl e0 f0 (g := (mkF m 1 #[rv o0, iv t1, rv a_ONE, .unset, .unset] [(.ref o0)])) rfl rfl (hb hby d5_1)
  obtain ⟨T2, X2, e2, st2⟩ := getF X1 hx hZ hown (host := "") (Or.inl (w_21 hw)) Via.refl e1 f1 (g := (mkF m 6 #[rv o0, iv t1, rv a_ONE, .unset, .unset] [(.ref o0), (.int 0), (.ref o1)])) rfl rfl (hb hby d5_6)
  obtain ⟨_, _, ⟨T3, L3, k3, n3⟩, -, X3, ⟨Lc3, hQ3, l3, y3, z3⟩, st3⟩ := Jvm.LawKit.callS X2 hx (y := (⟨"java/util/Arrays", "binarySearch", "([IIII)I"⟩ : MethodName)) hown (mvT hZ (w_35 hw)) (mvT hZ (w_36 hw)) (mvT hZ (w_37 hw)) (mvT hZ (w_38 hw)) (by decide) (backOf (W := 0) (rm6_2 l Z a0 hw [] a_ONE a_ZTT e_2 e_3 t0 t1 t2 t3 t4 o1 j0 h0 n0 FF OO f2 hq0 hq1) hZ (w_38 hw) (w_37 hw) (by decide) (by decide)) (g := (mkF m 10 #[rv o0, iv t1, rv a_ONE, .unset, .unset] [(.int t1), (.int 1), (.int 0), (.ref o1)])) rfl (by rw [hml]; rfl) (argsL := [(.ref o1), (.int 0), (.int 1), (.int t1)]) (rest := []) (lenOf pd_4 rfl) rfl (by show 2 * 0 + _ ≤ _; exact Nat.le_of_eq rfl) (hb hby d5_10) (fun _ _ => ⟨rfl, e2, (by decide : 0 + 0 ≤ _), (by decide : 0 + 0 ≤ _)⟩)
  dsimp only [Pt.U, Pt.locs, Pt.cells, Pt.slots] at X3 l3 y3 z3 st3 hQ3
  subst l3 y3 z3
  obtain ⟨rfl, N3q, e3⟩ := hQ3
  have N3 := Fr.app N0 N3q
  obtain ⟨T4, X4, e4, st4⟩ := getF X3 hx hZ hown (host := "") (Or.inl (w_21 hw)) Via.refl e3 f1 (g := (mkF m 42 #[rv o0, iv t1, rv a_ONE, iv (-1), iv 0] [(.ref o0)])) rfl rfl (hb hby d5_42)
  obtain ⟨T5, X5, e5, st5⟩ := getF X4 hx hZ hown (host := "") (Or.inl (w_10 hw)) Via.refl e4 f0 (g := (mkF m 46 #[rv o0, iv t1, rv a_ONE, iv (-1), iv 0] [(.ref o0), (.int 1)])) rfl rfl (hb hby d5_46)
  obtain ⟨c6, r6, q6, S6, M6, H6, G6⟩ := id f2
  obtain ⟨T7, X7, e7, st7⟩ := getF X5 hx hZ hown (host := "") (Or.inl (w_10 hw)) Via.refl e5 f0 (g := (mkF m 91 #[rv o0, iv t1, rv a_ONE, iv (-1), iv 0] [(.ref o0)])) rfl rfl (hb hby d5_91)
  obtain ⟨T8, X8, e8, st8⟩ := getF X7 hx hZ hown (host := "") (Or.inl (w_10 hw)) Via.refl e7 f0 (g := (mkF m 97 #[rv o0, iv t1, rv a_ONE, iv (-1), iv 0] [(.ref o0), (.int 0), (.ref o1)])) rfl rfl (hb hby d5_97)
  obtain ⟨T9, X9, e9, st9⟩ := getF X8 hx hZ hown (host := "") (Or.inl (w_21 hw)) Via.refl e8 f1 (g := (mkF m 105 #[rv o0, iv t1, rv a_ONE, iv (-1), iv 0] [(.ref o0), (.int 1), (.ref o1), (.int 0), (.ref o1)])) rfl rfl (hb hby d5_105)
  obtain ⟨T10, h10, L10, X10, e10, N10, K10, V10, st10⟩ := cpA X9 hx hZ hown (w_45 hw) (w_48 hw) (w_46 hw) (w_47 hw) e9 f2 f2 (us := [(.int t0)]) (Or.inl ⟨rfl, rfl⟩) (by decide) (by decide) (by decide) (by decide) (by decide) rfl (Nat.le_of_ble_eq_true rfl) N3 u0 (g := (mkF m 111 #[rv o0, iv t1, rv a_ONE, iv (-1), iv 0] [(.int 1), (.int 1), (.ref o1), (.int 0), (.ref o1)])) rfl (by rw [hml]; rfl) (rest := []) rfl (hb hby d5_111) (by decide) (W := 0) (by show 2 * 0 + _ ≤ _; exact Nat.le_of_eq rfl) (by decide)
  have O10 := Old.keep OO K10 (allS u0 all0)
  have KK10 : Keep h0 h10 [o1, o2, o0] := Keep.trans (Keep.refl h0 [o1, o2, o0]) K10 (allS (Or.inl (List.mem_of_getElem? (i := 0) rfl)) all0)
  have F11 : Arv Z h10 o1 j0 .int (4 : Int32) [(.int t0), (.int t0), (.int t3), (.int t4)] (.int 0) := V10
  have F12 : Fld Z h10 o0 "com/example/deferra/deferra/crediting/DailyAmounts" "amounts" "[Ljava/math/BigDecimal;" (.ref o2) := (Fld.keep f3 K10 (ninS v0 nin0))
  obtain ⟨T13, X13, e13, st13⟩ := getF X10 hx hZ hown (host := "") (Or.inl (w_14 hw)) Via.refl e10 F12 (g := (mkF m 115 #[rv o0, iv t1, rv a_ONE, iv (-1), iv 0] [(.ref o0)])) rfl rfl (hb hby d5_115)
  obtain ⟨T14, X14, e14, st14⟩ := getF X13 hx hZ hown (host := "") (Or.inl (w_14 hw)) Via.refl e13 F12 (g := (mkF m 121 #[rv o0, iv t1, rv a_ONE, iv (-1), iv 0] [(.ref o0), (.int 0), (.ref o2)])) rfl rfl (hb hby d5_121)
  have F15 : Fld Z h10 o0 "com/example/deferra/deferra/crediting/DailyAmounts" "size" "I" (.int 1) := (Fld.keep f1 K10 (ninS v0 nin0))
  obtain ⟨T16, X16, e16, st16⟩ := getF X14 hx hZ hown (host := "") (Or.inl (w_21 hw)) Via.refl e14 F15 (g := (mkF m 129 #[rv o0, iv t1, rv a_ONE, iv (-1), iv 0] [(.ref o0), (.int 1), (.ref o2), (.int 0), (.ref o2)])) rfl rfl (hb hby d5_129)
  have F17 : Arv Z h10 o2 j1 (.object "java/math/BigDecimal") (4 : Int32) [(.ref a_ONE), .null, .null, .null] .null := (Arv.keep f4 K10 (ninS v1 nin0))
  obtain ⟨c18, r18, q18, S18, M18, H18, G18⟩ := id F17
  obtain ⟨T19, h19, L19, X19, e19, N19, K19, V19, st19⟩ := cpA X16 hx hZ hown (w_45 hw) (w_48 hw) (w_46 hw) (w_47 hw) e16 F17 F17 (us := [(.ref a_ONE)]) (Or.inr ⟨rfl, rfl, (⟨(Sto.ofV r18 q18 f5 (Ins.self (Exa.ext O10.2 (fx_E_a_ONE FF)))), trivial⟩ : StoL Z h10 o2 [(.ref a_ONE)])⟩) (by decide) (by decide) (by decide) (by decide) (by decide) rfl (Nat.le_of_ble_eq_true rfl) N10 u1 (g := (mkF m 135 #[rv o0, iv t1, rv a_ONE, iv (-1), iv 0] [(.int 1), (.int 1), (.ref o2), (.int 0), (.ref o2)])) rfl (by rw [hml]; rfl) (rest := []) rfl (hb hby d5_135) (by decide) (W := 0) (by show 2 * 0 + _ ≤ _; exact Nat.le_of_eq rfl) (by decide)
  have O19 := Old.keep O10 K19 (allS u1 all0)
  have KK19 : Keep h0 h19 [o1, o2, o0] := Keep.trans KK10 K19 (allS (Or.inl (List.mem_of_getElem? (i := 1) rfl)) all0)
  have F20 : Arv Z h19 o2 j1 (.object "java/math/BigDecimal") (4 : Int32) [(.ref a_ONE), (.ref a_ONE), .null, .null] .null := V19
  have F21 : Fld Z h19 o0 "com/example/deferra/deferra/crediting/DailyAmounts" "days" "[I" (.ref o1) := (Fld.keep (Fld.keep f0 K10 (ninS v0 nin0)) K19 (ninS v2 nin0))
  obtain ⟨T22, X22, e22, st22⟩ := getF X19 hx hZ hown (host := "") (Or.inl (w_10 hw)) Via.refl e19 F21 (g := (mkF m 139 #[rv o0, iv t1, rv a_ONE, iv (-1), iv 0] [(.ref o0)])) rfl rfl (hb hby d5_139)
  have F24 : Arv Z h19 o1 j0 .int (4 : Int32) [(.int t0), (.int t0), (.int t3), (.int t4)] (.int 0) := (Arv.keep F11 K19 (ninS (Ne.symm v1) nin0))
  obtain ⟨c23, r23, q23, S23, M23, H23, G23⟩ := id F24
  have i25 : ¬ ((0 : Int32) < 0 ∨ c23.slots.size ≤ ((0 : Int32)).toNatClampNeg) := inb_of S23 ⟨by decide, by decide⟩
  obtain ⟨T26, h26, X26, e26, W26, st26⟩ := stI X22 hx hZ e22 r23 (j := (0 : Int32)) i25 (g := (mkF m 145 #[rv o0, iv t1, rv a_ONE, iv (-1), iv 0] [(.int t1), (.int 0), (.ref o1)])) rfl rfl (hb hby d5_145)
  have O26 := Old.wr O19 W26 u0
  have KK26 : Keep h0 h26 [o1, o2, o0] := Keep.wr KK19 W26 (Or.inl (List.mem_of_getElem? (i := 0) rfl))
  have N26 := Fr.snoc X26 N19 u0
  have F27 : Arv Z h26 o1 j0 .int (4 : Int32) [(.int t1), (.int t0), (.int t3), (.int t4)] (.int 0) := Arv.set r23 q23 S23 M23 H23 G23 rfl W26 0 rfl (Nat.le_of_ble_eq_true rfl)
  have F28 : Fld Z h26 o0 "com/example/deferra/deferra/crediting/DailyAmounts" "amounts" "[Ljava/math/BigDecimal;" (.ref o2) := (Fld.other W26 (Fld.keep F12 K19 (ninS v2 nin0)) (Or.inl v0))
  obtain ⟨T29, X29, e29, st29⟩ := getF X26 hx hZ hown (host := "") (Or.inl (w_14 hw)) Via.refl e26 F28 (g := (mkF m 147 #[rv o0, iv t1, rv a_ONE, iv (-1), iv 0] [(.ref o0)])) rfl rfl (hb hby d5_147)
  have F31 : Arv Z h26 o2 j1 (.object "java/math/BigDecimal") (4 : Int32) [(.ref a_ONE), (.ref a_ONE), .null, .null] .null := (Arv.other F20 W26 v1)
  obtain ⟨c30, r30, q30, S30, M30, H30, G30⟩ := id F31
  have i32 : ¬ ((0 : Int32) < 0 ∨ c30.slots.size ≤ ((0 : Int32)).toNatClampNeg) := inb_of S30 ⟨by decide, by decide⟩
  obtain ⟨T33, h33, X33, e33, W33, st33⟩ := stR X29 hx hZ e29 r30 (j := (0 : Int32)) i32 rfl (Sto.ofV r30 q30 f5 (Ins.self (Exa.ext O26.2 (fx_E_a_ONE FF)))) (g := (mkF m 153 #[rv o0, iv t1, rv a_ONE, iv (-1), iv 0] [(.ref a_ONE), (.int 0), (.ref o2)])) rfl rfl (hb hby d5_153)
  have O33 := Old.wr O26 W33 u1
  have KK33 : Keep h0 h33 [o1, o2, o0] := Keep.wr KK26 W33 (Or.inl (List.mem_of_getElem? (i := 1) rfl))
  have N33 := Fr.snoc X33 N26 u1
  have F34 : Arv Z h33 o2 j1 (.object "java/math/BigDecimal") (4 : Int32) [(.ref a_ONE), (.ref a_ONE), .null, .null] .null := Arv.set r30 q30 S30 M30 H30 G30 rfl W33 0 rfl (Nat.le_of_ble_eq_true rfl)
  have F35 : Fld Z h33 o0 "com/example/deferra/deferra/crediting/DailyAmounts" "size" "I" (.int 1) := (Fld.other W33 (Fld.other W26 (Fld.keep F15 K19 (ninS v2 nin0)) (Or.inl v0)) (Or.inl v2))
  obtain ⟨T36, X36, e36, st36⟩ := getF X33 hx hZ hown (host := "") (Or.inl (w_21 hw)) Via.refl e33 F35 (g := (mkF m 156 #[rv o0, iv t1, rv a_ONE, iv (-1), iv 0] [(.ref o0), (.ref o0)])) rfl rfl (hb hby d5_156)
  have F37 : Exa Z h33 o0 "com/example/deferra/deferra/crediting/DailyAmounts" := (Exa.wr W33 (Exa.wr W26 (Exa.keep (Exa.keep f6 K10) K19)))
  obtain ⟨T38, h38, X38, e38, W38, st38⟩ := putF X36 hx hZ hown (host := "") (Or.inl (w_21 hw)) Via.refl e36 F35 F37 (Or.inl (w_22 hw)) (w_1 hw) (ty := .int) (by decide) rfl rfl (g := (mkF m 161 #[rv o0, iv t1, rv a_ONE, iv (-1), iv 0] [(.int 2), (.ref o0)])) rfl rfl (hb hby d5_161)
  have O38 := Old.wr O33 W38 u2
  have KK38 : Keep h0 h38 [o1, o2, o0] := Keep.wr KK33 W38 (Or.inl (List.mem_of_getElem? (i := 2) rfl))
  have N38 := Fr.snoc X38 N33 u2
  have F39 : Fld Z h38 o0 "com/example/deferra/deferra/crediting/DailyAmounts" "size" "I" (.int 2) := Fld.same W38 F35
  have F40 : Arv Z h38 o1 j0 .int (4 : Int32) [(.int t1), (.int t0), (.int t3), (.int t4)] (.int 0) := (Arv.other (Arv.other F27 W33 (Ne.symm v1)) W38 (Ne.symm v0))
  have F41 : Exa Z h38 o1 "[I" := (Exa.wr W38 (Exa.wr W33 (Exa.wr W26 (Exa.keep (Exa.keep f7 K10) K19))))
  have F42 : Arv Z h38 o2 j1 (.object "java/math/BigDecimal") (4 : Int32) [(.ref a_ONE), (.ref a_ONE), .null, .null] .null := (Arv.other F34 W38 (Ne.symm v2))
  have F43 : Exa Z h38 o2 "[Ljava/math/BigDecimal;" := (Exa.wr W38 (Exa.wr W33 (Exa.wr W26 (Exa.keep (Exa.keep f8 K10) K19))))
  have F44 : Fld Z h38 o0 "com/example/deferra/deferra/crediting/DailyAmounts" "days" "[I" (.ref o1) := (Fld.other W38 (Fld.other W33 (Fld.other W26 F21 (Or.inl v0)) (Or.inl v2)) (Or.inr (slot_ne (Or.inl (w_11 hw)) (Or.inl (w_22 hw)) (by decide) (t := (.array .int)) (t' := .int) (by decide) (by decide))))
  have F45 : Fld Z h38 o0 "com/example/deferra/deferra/crediting/DailyAmounts" "amounts" "[Ljava/math/BigDecimal;" (.ref o2) := (Fld.other W38 (Fld.other W33 F28 (Or.inl v2)) (Or.inr (slot_ne (Or.inl (w_15 hw)) (Or.inl (w_22 hw)) (by decide) (t := (.array (.object "java/math/BigDecimal"))) (t' := .int) (by decide) (by decide))))
  have F46 : Exa Z h38 o0 "com/example/deferra/deferra/crediting/DailyAmounts" := (Exa.wr W38 F37)
  obtain ⟨fs, hr, hrun, hended, hW, hsame⟩ := X38.leave (v := none) (fun _ => rfl)
  refine ⟨_, _, pre0 _ ?_, hrun, hended, _, _, rfl, ?_, ⟨_, rfl⟩, hW, hsame.mono (by decide) (by decide)⟩
  · show Steps p.tables e below (s₁.setTop (mkF m 0 #[rv o0, iv t1, rv a_ONE, .unset, .unset] [])) _
    refine XS.aloadN X0.here hx rfl (hb hby d5_0) rfl rfl ?_
    refine st1 _ ?_
    refine XS.iconst X1.here hx rfl (hb hby d5_4) ?_
    refine XS.aloadN X1.here hx rfl (hb hby d5_5) rfl rfl ?_
    show Steps p.tables e below (T1.setTop (mkF m 6 #[rv o0, iv t1, rv a_ONE, .unset, .unset] [(.ref o0), (.int 0), (.ref o1)])) _
    refine st2 _ ?_
    refine XS.iloadN X2.here hx rfl (hb hby d5_9) rfl ?_
    refine st3 _ ?_
    refine XS.istoreN X3.here hx rfl (hb hby d5_13) rfl (l' := #[rv o0, iv t1, rv a_ONE, iv (-1), .unset]) rfl ?_
    show Steps p.tables e below (T3.setTop (mkF m 14 #[rv o0, iv t1, rv a_ONE, iv (-1), .unset] [])) _
    refine XS.iloadN X3.here hx rfl (hb hby d5_14) rfl ?_
    refine XS.ifYes X3.here hx rfl (pc0 := 15) (pc' := 35) rfl (hb hby d5_15) rfl (by decide) (by decide) (by decide) ?_
    refine XS.iloadN X3.here hx rfl (hb hby d5_35) rfl ?_
    refine XS.ineg X3.here hx rfl (hb hby d5_36) rfl ?_
    show Steps p.tables e below (T3.setTop (mkF m 37 #[rv o0, iv t1, rv a_ONE, iv (-1), .unset] [(.int (-(-1 : Int32)))])) _
    rw [(by decide : (-(-1 : Int32)) = (1 : Int32))]
    refine XS.iconst X3.here hx rfl (hb hby d5_37) ?_
    refine XS.isub X3.here hx rfl (hb hby d5_38) rfl ?_
    show Steps p.tables e below (T3.setTop (mkF m 39 #[rv o0, iv t1, rv a_ONE, iv (-1), .unset] [(.int ((1 : Int32) - (1 : Int32)))])) _
    rw [(by decide : ((1 : Int32) - (1 : Int32)) = (0 : Int32))]
    refine XS.istore X3.here hx rfl (hb hby d5_39) rfl (l' := #[rv o0, iv t1, rv a_ONE, iv (-1), iv 0]) rfl ?_
    refine XS.aloadN X3.here hx rfl (hb hby d5_41) rfl rfl ?_
    refine st4 _ ?_
    show Steps p.tables e below (T4.setTop (mkF m 45 #[rv o0, iv t1, rv a_ONE, iv (-1), iv 0] [(.int 1)])) _
    refine XS.aloadN X4.here hx rfl (hb hby d5_45) rfl rfl ?_
    refine st5 _ ?_
    refine X5.arraylength hx (by rw [e5]; exact r6.1) (State.isArrayOf_alike hZ.alike r6.2.1) (g := (mkF m 49 #[rv o0, iv t1, rv a_ONE, iv (-1), iv 0] [(.ref o1), (.int 1)])) rfl rfl (hb hby d5_49) _ ?_
    rw [len_of S6 M6]
    show Steps p.tables e below (T5.setTop (mkF m 50 #[rv o0, iv t1, rv a_ONE, iv (-1), iv 0] [(.int 4), (.int 1)])) _
    refine XS.icmpYes X5.here hx rfl (pc0 := 50) (pc' := 90) rfl (hb hby d5_50) rfl (by decide) (by decide) (by decide) ?_
    refine XS.aloadN X5.here hx rfl (hb hby d5_90) rfl rfl ?_
    refine st7 _ ?_
    refine XS.iload X7.here hx rfl (hb hby d5_94) rfl ?_
    show Steps p.tables e below (T7.setTop (mkF m 96 #[rv o0, iv t1, rv a_ONE, iv (-1), iv 0] [(.int 0), (.ref o1)])) _
    refine XS.aloadN X7.here hx rfl (hb hby d5_96) rfl rfl ?_
    refine st8 _ ?_
    refine XS.iload X8.here hx rfl (hb hby d5_100) rfl ?_
    refine XS.iconst X8.here hx rfl (hb hby d5_102) ?_
    show Steps p.tables e below (T8.setTop (mkF m 103 #[rv o0, iv t1, rv a_ONE, iv (-1), iv 0] [(.int 1), (.int 0), (.ref o1), (.int 0), (.ref o1)])) _
    refine XS.iadd X8.here hx rfl (hb hby d5_103) rfl ?_
    show Steps p.tables e below (T8.setTop (mkF m 104 #[rv o0, iv t1, rv a_ONE, iv (-1), iv 0] [(.int ((0 : Int32) + (1 : Int32))), (.ref o1), (.int 0), (.ref o1)])) _
    rw [(by decide : ((0 : Int32) + (1 : Int32)) = (1 : Int32))]
    refine XS.aloadN X8.here hx rfl (hb hby d5_104) rfl rfl ?_
    refine st9 _ ?_
    refine XS.iload X9.here hx rfl (hb hby d5_108) rfl ?_
    show Steps p.tables e below (T9.setTop (mkF m 110 #[rv o0, iv t1, rv a_ONE, iv (-1), iv 0] [(.int 0), (.int 1), (.int 1), (.ref o1), (.int 0), (.ref o1)])) _
    refine XS.isub X9.here hx rfl (hb hby d5_110) rfl ?_
    show Steps p.tables e below (T9.setTop (mkF m 111 #[rv o0, iv t1, rv a_ONE, iv (-1), iv 0] [(.int ((1 : Int32) - (0 : Int32))), (.int 1), (.ref o1), (.int 0), (.ref o1)])) _
    rw [(by decide : ((1 : Int32) - (0 : Int32)) = (1 : Int32))]
    refine st10 _ ?_
    refine XS.aloadN X10.here hx rfl (hb hby d5_114) rfl rfl ?_
    refine st13 _ ?_
    show Steps p.tables e below (T13.setTop (mkF m 118 #[rv o0, iv t1, rv a_ONE, iv (-1), iv 0] [(.ref o2)])) _
    refine XS.iload X13.here hx rfl (hb hby d5_118) rfl ?_
    refine XS.aloadN X13.here hx rfl (hb hby d5_120) rfl rfl ?_
    refine st14 _ ?_
    refine XS.iload X14.here hx rfl (hb hby d5_124) rfl ?_
    show Steps p.tables e below (T14.setTop (mkF m 126 #[rv o0, iv t1, rv a_ONE, iv (-1), iv 0] [(.int 0), (.ref o2), (.int 0), (.ref o2)])) _
    refine XS.iconst X14.here hx rfl (hb hby d5_126) ?_
    refine XS.iadd X14.here hx rfl (hb hby d5_127) rfl ?_
    show Steps p.tables e below (T14.setTop (mkF m 128 #[rv o0, iv t1, rv a_ONE, iv (-1), iv 0] [(.int ((0 : Int32) + (1 : Int32))), (.ref o2), (.int 0), (.ref o2)])) _
    rw [(by decide : ((0 : Int32) + (1 : Int32)) = (1 : Int32))]
    refine XS.aloadN X14.here hx rfl (hb hby d5_128) rfl rfl ?_
    refine st16 _ ?_
    refine XS.iload X16.here hx rfl (hb hby d5_132) rfl ?_
    show Steps p.tables e below (T16.setTop (mkF m 134 #[rv o0, iv t1, rv a_ONE, iv (-1), iv 0] [(.int 0), (.int 1), (.int 1), (.ref o2), (.int 0), (.ref o2)])) _
    refine XS.isub X16.here hx rfl (hb hby d5_134) rfl ?_
    show Steps p.tables e below (T16.setTop (mkF m 135 #[rv o0, iv t1, rv a_ONE, iv (-1), iv 0] [(.int ((1 : Int32) - (0 : Int32))), (.int 1), (.ref o2), (.int 0), (.ref o2)])) _
    rw [(by decide : ((1 : Int32) - (0 : Int32)) = (1 : Int32))]
    refine st19 _ ?_
    refine XS.aloadN X19.here hx rfl (hb hby d5_138) rfl rfl ?_
    refine st22 _ ?_
    show Steps p.tables e below (T22.setTop (mkF m 142 #[rv o0, iv t1, rv a_ONE, iv (-1), iv 0] [(.ref o1)])) _
    refine XS.iload X22.here hx rfl (hb hby d5_142) rfl ?_
    refine XS.iloadN X22.here hx rfl (hb hby d5_144) rfl ?_
    refine st26 _ ?_
    refine XS.aloadN X26.here hx rfl (hb hby d5_146) rfl rfl ?_
    show Steps p.tables e below (T26.setTop (mkF m 147 #[rv o0, iv t1, rv a_ONE, iv (-1), iv 0] [(.ref o0)])) _
    refine st29 _ ?_
    refine XS.iload X29.here hx rfl (hb hby d5_150) rfl ?_
    refine XS.aloadN X29.here hx rfl (hb hby d5_152) rfl rfl ?_
    refine st33 _ ?_
    show Steps p.tables e below (T33.setTop (mkF m 154 #[rv o0, iv t1, rv a_ONE, iv (-1), iv 0] [])) _
    refine XS.aloadN X33.here hx rfl (hb hby d5_154) rfl rfl ?_
    refine XS.dup X33.here hx rfl (hb hby d5_155) rfl rfl ?_
    refine st36 _ ?_
    refine XS.iconst X36.here hx rfl (hb hby d5_159) ?_
    show Steps p.tables e below (T36.setTop (mkF m 160 #[rv o0, iv t1, rv a_ONE, iv (-1), iv 0] [(.int 1), (.int 1), (.ref o0)])) _
    refine XS.iadd X36.here hx rfl (hb hby d5_160) rfl ?_
    show Steps p.tables e below (T36.setTop (mkF m 161 #[rv o0, iv t1, rv a_ONE, iv (-1), iv 0] [(.int ((1 : Int32) + (1 : Int32))), (.ref o0)])) _
    rw [(by decide : ((1 : Int32) + (1 : Int32)) = (2 : Int32))]
    refine st38 _ ?_
    exact X38.returnOut hx Bd.returns (hb hby d5_164) hr
  · show Q5_2 Z a_ONE a_ZTT e_2 e_3 t0 t1 t2 t3 t4 o0 o1 o2 j0 j1 h0 n0 _ T38.heap _
    rw [e38]
    exact ⟨rfl, N38, KK38, F40, F41, F42, f5, F43, F44, F39, F45, F46⟩
set_option maxRecDepth 65536 in
set_option maxHeartbeats 40000000 in
theorem sg_15 {p : Program} {l : Launch} {e : Env} {s : State} {m : MethodId} {args : Array Value} {below : List Frame} {meth : Method} {c : Code} {T0 : State} {locs : List Loc} {Z : State} {a0 : Array Value} {h0 : Heap} {n0 : Nat} (hw : ∀ d ∈ tables_1, d.before a0 Z = true) (a_ONE : Addr) (a_ZTT : Addr) (e_2 : Addr) (e_3 : Addr) (t0 : Int32) (t1 : Int32) (t2 : Int32) (t3 : Int32) (t4 : Int32) (t5 : Int32) (t6 : Int32) (t7 : Int32) (o0 : Addr) (o1 : Addr) (o2 : Addr) (j0 : ClassId) (j1 : ClassId) (FF : Facts Z Z.heap a_ONE a_ZTT e_2 e_3)
    (X0 : Stand p l e room_1 s m args below meth c T0 locs 3 11) (hx : p.tables.exec = Jvm.exec) (hZ : Z.Warmed39 s.vm) (hby : c.code = code) (hml : c.maxLocals = 8) (hown : s.vm.findClass "com/example/deferra/deferra/crediting/DailyAmountsIsEmptyPinLaw" = some m.cls) (e0 : T0.heap = h0) (N0 : Fr n0 locs) (OO : Old Z n0 h0) (f0 : Fld Z h0 o0 "com/example/deferra/deferra/crediting/DailyAmounts" "days" "[I" (.ref o1)) (f1 : Fld Z h0 o0 "com/example/deferra/deferra/crediting/DailyAmounts" "size" "I" (.int 1)) (f2 : Arv Z h0 o1 j0 .int (4 : Int32) [(.int t0), (.int t2), (.int t3), (.int t4)] (.int 0)) (f3 : Fld Z h0 o0 "com/example/deferra/deferra/crediting/DailyAmounts" "amounts" "[Ljava/math/BigDecimal;" (.ref o2)) (f4 : Arv Z h0 o2 j1 (.object "java/math/BigDecimal") (4 : Int32) [(.ref a_ONE), .null, .null, .null] .null) (f5 : Ovr Z j1 "java/math/BigDecimal") (f6 : Exa Z h0 o0 "com/example/deferra/deferra/crediting/DailyAmounts") (f7 : Exa Z h0 o1 "[I") (f8 : Exa Z h0 o2 "[Ljava/math/BigDecimal;") (u0 : n0 ≤ o1) (v0 : o0 ≠ o1) (v1 : o2 ≠ o1) (u1 : n0 ≤ o2) (v2 : o0 ≠ o2) (u2 : n0 ≤ o0) (hq0 : ¬ (t0 < t1)) (hq1 : t1 < t0) :
    ∃ (T' : State) (h' : Heap) (lc : List Loc), Stand p l e room_1 s m args below meth c T' lc 3 11 ∧ T'.heap = h' ∧ Fr n0 lc ∧ Keep h0 h' [o0, o2, o1] ∧ Fld Z h' o0 "com/example/deferra/deferra/crediting/DailyAmounts" "days" "[I" (.ref o1) ∧ Fld Z h' o0 "com/example/deferra/deferra/crediting/DailyAmounts" "size" "I" (.int 2) ∧ Fld Z h' o0 "com/example/deferra/deferra/crediting/DailyAmounts" "amounts" "[Ljava/math/BigDecimal;" (.ref o2) ∧ Exa Z h' o0 "com/example/deferra/deferra/crediting/DailyAmounts" ∧ Arv Z h' o2 j1 (.object "java/math/BigDecimal") (4 : Int32) [(.ref a_ONE), (.ref a_ONE), .null, .null] .null ∧ Ovr Z j1 "java/math/BigDecimal" ∧ Exa Z h' o2 "[Ljava/math/BigDecimal;" ∧ Arv Z h' o1 j0 .int (4 : Int32) [(.int t1), (.int t0), (.int t3), (.int t4)] (.int 0) ∧ Exa Z h' o1 "[I" ∧
      ∀ target, Steps p.tables e below (T'.setTop (mkF m 107 #[iv t5, iv t6, iv t1, iv t7, iv 2, rv o0, iv 1, .unset] [])) target → Steps p.tables e below (T0.setTop (mkF m 72 #[iv t5, iv t6, iv t1, iv t7, iv 2, rv o0, iv 1, .unset] [])) target := by
  obtain ⟨T1, X1, e1, st1⟩ := getS2 X0 hx hZ hown (host := "") (Or.inl (w_28 hw)) Via.refl e0 (Sta.ext OO.2 (fx_S_ONE FF)) (g := (mkF m 81 #[iv t5, iv t6, iv t1, iv t7, iv 2, rv o0, iv 1, .unset] [(.int t1), (.ref o0)])) rfl (hb hby at_81)
  obtain ⟨cq2, kq2, q2a, q2b, q2c⟩ := isOf hZ e1 f6
  obtain ⟨_, _, ⟨T2, L2, k2, n2⟩, -, X2, ⟨Lc2, hQ2, l2, y2, z2⟩, st2⟩ := X1.virtualBack hx (y := (⟨"com/example/deferra/deferra/crediting/DailyAmounts", "add", "(ILjava/math/BigDecimal;)V"⟩ : MethodName)) (z := (⟨"com/example/deferra/deferra/crediting/DailyAmounts", "add", "(ILjava/math/BigDecimal;)V"⟩ : MethodName)) hown (mvT hZ (w_30 hw)) (mvT hZ (w_31 hw)) (notFace_of_selects (args := #[]) (mvT hZ (w_33 hw))) (mvT hZ (w_33 hw)) (mvT hZ (w_32 hw)) (by decide) (backOf (W := 0) (rm5_2 l Z a0 hw [] a_ONE a_ZTT e_2 e_3 t0 t1 t2 t3 t4 o0 o1 o2 j0 j1 h0 n0 FF OO f0 f1 f2 u0 f3 v0 f4 v1 f5 u1 v2 f6 u2 f7 f8 hq0 hq1) hZ (w_34 hw) (w_2 hw) (by decide) (by decide)) q2a q2c (g := (mkF m 84 #[iv t5, iv t6, iv t1, iv t7, iv 2, rv o0, iv 1, .unset] [(.ref a_ONE), (.int t1), (.ref o0)])) rfl (by rw [hml]; rfl) (Steps.refl _) (argsL := [(.int t1), (.ref a_ONE)]) (rest := []) (lenOf pd_5 rfl) rfl (by show 2 * 0 + _ ≤ _; exact Nat.le_of_eq rfl) (hb hby at_84) (fun _ _ => ⟨rfl, e1, (by decide : 3 + 0 ≤ _), (by decide : 11 + 0 ≤ _)⟩)
  dsimp only [Pt.U, Pt.locs, Pt.cells, Pt.slots] at X2 l2 y2 z2 st2 hQ2
  subst l2 y2 z2
  obtain ⟨h2, e2⟩ : ∃ z, T2.heap = z := ⟨_, rfl⟩
  rw [e2] at hQ2
  obtain ⟨rfl, N2q, K2, R2_0, R2_1, R2_2, R2_3, R2_4, R2_5, R2_6, R2_7, R2_8⟩ := hQ2
  have N2 := Fr.app N0 N2q
  have O2 := Old.keep OO K2 (allS u0 (allS u1 (allS u2 all0)))
  have KK2 : Keep h0 h2 [o0, o2, o1] := Keep.trans (Keep.refl h0 [o0, o2, o1]) K2 (allS (Or.inl (List.mem_of_getElem? (i := 2) rfl)) (allS (Or.inl (List.mem_of_getElem? (i := 1) rfl)) (allS (Or.inl (List.mem_of_getElem? (i := 0) rfl)) all0)))
  obtain ⟨cq3, kq3, q3a, q3b, q3c⟩ := isOf hZ e2 R2_8
  obtain ⟨_, _, ⟨T3, L3, k3, n3⟩, -, X3, ⟨Lc3, hQ3, l3, y3, z3⟩, st3⟩ := X2.virtualBack hx (y := (⟨"com/example/deferra/deferra/crediting/DailyAmounts", "isEmpty", "()Z"⟩ : MethodName)) (z := (⟨"com/example/deferra/deferra/crediting/DailyAmounts", "isEmpty", "()Z"⟩ : MethodName)) hown (mvT hZ (w_16 hw)) (mvT hZ (w_17 hw)) (notFace_of_selects (args := #[]) (mvT hZ (w_19 hw))) (mvT hZ (w_19 hw)) (mvT hZ (w_18 hw)) (by decide) (backOf (W := 0) (rm3_2 l Z a0 hw [] a_ONE a_ZTT e_2 e_3 o0 h2 n0 FF O2 R2_6) hZ (w_20 hw) (w_2 hw) (by decide) (by decide)) q3a q3c (g := (mkF m 94 #[iv t5, iv t6, iv t1, iv t7, iv 2, rv o0, iv 1, .unset] [(.ref o0)])) rfl (by rw [hml]; rfl) (Steps.refl _) (argsL := []) (rest := []) (lenOf pd_1 rfl) rfl (by show 2 * 0 + _ ≤ _; exact Nat.le_of_eq rfl) (hb hby at_94) (fun _ _ => ⟨rfl, e2, (by decide : 3 + 0 ≤ _), (by decide : 11 + 0 ≤ _)⟩)
  dsimp only [Pt.U, Pt.locs, Pt.cells, Pt.slots] at X3 l3 y3 z3 st3 hQ3
  subst l3 y3 z3
  obtain ⟨rfl, N3q, e3⟩ := hQ3
  have N3 := Fr.app N2 N3q
  refine ⟨T3, h2, _, X3, e3, N3, KK2, R2_5, R2_6, R2_7, R2_8, R2_2, R2_3, R2_4, R2_0, R2_1, fun target kt => ?_⟩
  show Steps p.tables e below (T0.setTop (mkF m 72 #[iv t5, iv t6, iv t1, iv t7, iv 2, rv o0, iv 1, .unset] [])) _
  refine XS.iload X0.here hx rfl (hb hby at_72) rfl ?_
  refine XS.iconst X0.here hx rfl (hb hby at_74) ?_
  refine XS.icmpNo X0.here hx rfl (hb hby at_75) rfl (by decide) ?_
  refine XS.aload X0.here hx rfl (hb hby at_78) rfl rfl ?_
  show Steps p.tables e below (T0.setTop (mkF m 80 #[iv t5, iv t6, iv t1, iv t7, iv 2, rv o0, iv 1, .unset] [(.ref o0)])) _
  refine XS.iloadN X0.here hx rfl (hb hby at_80) rfl ?_
  refine st1 _ ?_
  refine st2.trans ?_
  refine XS.iload X2.here hx rfl (hb hby at_87) rfl ?_
  show Steps p.tables e below (T2.setTop (mkF m 89 #[iv t5, iv t6, iv t1, iv t7, iv 2, rv o0, iv 1, .unset] [(.int 1)])) _
  refine XS.ifNo X2.here hx rfl (hb hby at_89) rfl (by decide) ?_
  refine XS.aload X2.here hx rfl (hb hby at_92) rfl rfl ?_
  refine st3.trans ?_
  refine XS.ifNo X3.here hx rfl (hb hby at_97) rfl (by decide) ?_
  show Steps p.tables e below (T3.setTop (mkF m 100 #[iv t5, iv t6, iv t1, iv t7, iv 2, rv o0, iv 1, .unset] [])) _
  refine XS.iconst X3.here hx rfl (hb hby at_100) ?_
  refine XS.goto X3.here hx rfl (pc0 := 101) (pc' := 105) rfl (hb hby at_101) (by decide) (by decide) ?_
  refine XS.istore X3.here hx rfl (hb hby at_105) rfl (l' := #[iv t5, iv t6, iv t1, iv t7, iv 2, rv o0, iv 1, .unset]) rfl ?_
  exact kt
set_option maxRecDepth 65536 in
set_option maxHeartbeats 40000000 in
theorem rm0_3 (l : Launch) (Z : State) (a0 : Array Value) (hw : ∀ d ∈ tables_1, d.before a0 Z = true) (ws : List Jvm.Cond) (a_ONE : Addr) (a_ZTT : Addr) (e_2 : Addr) (e_3 : Addr) (p0 : Int32) (p1 : Int32) (p2 : Int32) (p3 : Int32) (h0 : Heap) (n0 : Nat) (FF : Facts Z Z.heap a_ONE a_ZTT e_2 e_3) (OO : Old Z n0 h0) (hk0 : (p0 &&& (3 : Int32)) = (2 : Int32)) (hd0 : ¬ (p1 < p2)) (hd1 : p2 < p1) :
    MetFree l x (head1 (Jvm.Cond.code x code maxLocals ret :: ws) room_1) (fun a U => a = #[(.int p0), (.int p1), (.int p2), (.int p3)] ∧ Z.Warmed39 U.vm ∧ U.heap = h0) (fun _ _ _ _ _ => True) (fun _ U o U' => ∃ v L, o = .returned v ∧ (v = some (.int (1 : Int32)) ∧ Fr n0 L) ∧ FrameEnd U o U' L room_1.cells room_1.slots) := by
  refine MetFree.of_bodySF (plainFor_of_name pn_0) hisR ?_
  intro p e s m args below meth c s₁ Bd hml0 hP hK
  obtain ⟨rfl, hZ, hh⟩ := hP
  have hx := Bd.exec
  have hby := Bd.bytes
  have hml : c.maxLocals = 8 := hml0
  have hown : s.vm.findClass "com/example/deferra/deferra/crediting/DailyAmountsIsEmptyPinLaw" = some m.cls := findClass_of_methodNamed Bd.named
  have X0 : Stand p l e room_1 s m #[(.int p0), (.int p1), (.int p2), (.int p3)] below meth c s₁ [] 0 0 := Stand.of_body Bd
  have e0 : s₁.heap = h0 := by rw [← hh, Bd.state]; rfl
  have N0 := Fr.nil n0
  have pre0 : ∀ t, Steps p.tables e below (s₁.setTop (mkF m 0 #[iv p0, iv p1, iv p2, iv p3, .unset, .unset, .unset, .unset] [])) t → Steps p.tables e below (s₁.setTop (entryFrame m #[(.int p0), (.int p1), (.int p2), (.int p3)] maxLocals)) t := fun t k => castTop (ef_0 m p0 p1 p2 p3) k
  obtain ⟨T1, h1, lc1, b1, b2, b3, kb2, kb3, X1, e1, N1, K1, sp1_b1, sp1_b2, sp1_b3, ne1_b1_b2, ne1_b1_b3, ne1_b2_b3, R1_0, R1_1, R1_2, R1_3, R1_4, R1_5, R1_6, R1_7, R1_8, st1⟩ := sg_10 hw a_ONE a_ZTT e_2 e_3 p0 p1 p2 p3 FF X0 hx hZ hby hml hown e0 N0 OO hk0
  have g2 : n0 ≤ b1 := Nat.le_trans (own_le OO) sp1_b1
  have g3 : n0 ≤ b2 := Nat.le_trans (own_le OO) sp1_b2
  have g4 : n0 ≤ b3 := Nat.le_trans (own_le OO) sp1_b3
  have O1 := Old.keep OO K1 all0
  obtain ⟨T5, h5, lc5, X5, e5, N5, K5, R5_0, R5_1, R5_2, R5_3, R5_4, R5_5, R5_6, R5_7, R5_8, st5⟩ := sg_11 hw a_ONE a_ZTT e_2 e_3 (0 : Int32) (0 : Int32) (0 : Int32) (0 : Int32) p1 p0 p2 p3 b1 b2 b3 kb2 kb3 FF X1 hx hZ hby hml hown e1 N1 O1 R1_1 R1_3 R1_5 R1_2 R1_7 R1_8 R1_0 R1_4 R1_6 g3 ne1_b1_b2 (Ne.symm ne1_b2_b3) g4 ne1_b1_b3 g2
  have O5 := Old.keep O1 K5 (allS g2 (allS g4 (allS g3 all0)))
  obtain ⟨T6, h6, lc6, X6, e6, N6, K6, R6_0, R6_1, R6_2, R6_3, R6_4, R6_5, R6_6, R6_7, R6_8, st6⟩ := sg_15 hw a_ONE a_ZTT e_2 e_3 p1 p2 (0 : Int32) (0 : Int32) (0 : Int32) p0 p1 p3 b1 b2 b3 kb2 kb3 FF X5 hx hZ hby hml hown e5 N5 O5 R5_0 R5_1 R5_7 R5_2 R5_4 R5_5 R5_3 R5_8 R5_6 g3 ne1_b1_b2 (Ne.symm ne1_b2_b3) g4 ne1_b1_b3 g2 hd0 hd1
  have O6 := Old.keep O5 K6 (allS g2 (allS g4 (allS g3 all0)))
  obtain ⟨T7, h7, lc7, X7, e7, N7, K7, st7⟩ := sg_13 hw a_ONE a_ZTT e_2 e_3 p0 p1 p2 p3 (1 : Int32) b1 FF X6 hx hZ hby hml hown e6 N6 O6
  have O7 := Old.keep O6 K7 all0
  have F9 : Fld Z h7 b1 "com/example/deferra/deferra/crediting/DailyAmounts" "size" "I" (.int 2) := (Fld.keep R6_1 K7 nin0)
  have F10 : Exa Z h7 b1 "com/example/deferra/deferra/crediting/DailyAmounts" := (Exa.keep R6_3 K7)
  obtain ⟨T8, h8, lc8, X8, e8, N8, K8, st8⟩ := sg_14 hw a_ONE a_ZTT e_2 e_3 p0 p1 p2 p3 b1 FF X7 hx hZ hby hml hown e7 N7 O7 F9 F10
  have O8 := Old.keep O7 K8 all0
  obtain ⟨fs, hr, hrun, hended, hW, hsame⟩ := X8.leave (v := some (.int 1)) (fun h => by rw [Bd.returns] at h; cases h)
  refine ⟨_, _, pre0 _ ?_, hrun, hended, _, _, rfl, ?_, ⟨_, rfl⟩, hW, hsame.mono (by decide) (by decide)⟩
  · show Steps p.tables e below (s₁.setTop (mkF m 0 #[iv p0, iv p1, iv p2, iv p3, .unset, .unset, .unset, .unset] [])) _
    refine st1 _ ?_
    show Steps p.tables e below (T1.setTop (mkF m 37 #[iv p0, iv p1, iv p2, iv p3, iv 2, rv b1, iv 1, .unset] [])) _
    refine st5 _ ?_
    show Steps p.tables e below (T5.setTop (mkF m 72 #[iv p0, iv p1, iv p2, iv p3, iv 2, rv b1, iv 1, .unset] [])) _
    refine st6 _ ?_
    show Steps p.tables e below (T6.setTop (mkF m 107 #[iv p0, iv p1, iv p2, iv p3, iv 2, rv b1, iv 1, .unset] [])) _
    refine st7 _ ?_
    show Steps p.tables e below (T7.setTop (mkF m 142 #[iv p0, iv p1, iv p2, iv p3, iv 2, rv b1, iv 1, .unset] [])) _
    refine st8 _ ?_
    exact retN X8 hx (t := .boolean) Bd.returns (by simp) (hb hby at_192) hr
  · exact ⟨rfl, N8⟩
def Q8_3 (Z : State) (a_ONE : Addr) (a_ZTT : Addr) (e_2 : Addr) (e_3 : Addr) (t0 : Int32) (t1 : Int32) (t2 : Int32) (t3 : Int32) (t4 : Int32) (o0 : Addr) (j0 : ClassId) (h0 : Heap) (n0 : Nat) (v : Option Value) (h : Heap) (L : List Loc) : Prop := v = some (.int 0) ∧ Fr n0 L ∧ h = h0
set_option maxRecDepth 65536 in
set_option maxHeartbeats 40000000 in
theorem rm8_3 (l : Launch) (Z : State) (a0 : Array Value) (hw : ∀ d ∈ tables_1, d.before a0 Z = true) (ws : List Jvm.Cond) (a_ONE : Addr) (a_ZTT : Addr) (e_2 : Addr) (e_3 : Addr) (t0 : Int32) (t1 : Int32) (t2 : Int32) (t3 : Int32) (t4 : Int32) (o0 : Addr) (j0 : ClassId) (h0 : Heap) (n0 : Nat) (FF : Facts Z Z.heap a_ONE a_ZTT e_2 e_3) (OO : Old Z n0 h0) (f0 : Arv Z h0 o0 j0 .int (4 : Int32) [(.int t0), (.int t2), (.int t3), (.int t4)] (.int 0)) (hq0 : ¬ (t0 < t1)) (hq1 : ¬ (t1 < t0)) :
    MetFree l (⟨"java/util/Arrays", "binarySearch0", "([IIII)I"⟩ : MethodName) (head1 (Jvm.Cond.code (⟨"java/util/Arrays", "binarySearch0", "([IIII)I"⟩ : MethodName) jdk_65_method_59_code 8 (some .int) :: ws) ({ frames := 0, cells := 0, slots := 0, locals := 0 } : Room)) (fun a U => a = #[(.ref o0), (.int 0), (.int 1), (.int t1)] ∧ Z.Warmed39 U.vm ∧ U.heap = h0) (fun _ _ _ _ _ => True) (fun _ U o U' => ∃ v L, o = .returned v ∧ Q8_3 Z a_ONE a_ZTT e_2 e_3 t0 t1 t2 t3 t4 o0 j0 h0 n0 v U'.heap L ∧ FrameEnd U o U' L ({ frames := 0, cells := 0, slots := 0, locals := 0 } : Room).cells ({ frames := 0, cells := 0, slots := 0, locals := 0 } : Room).slots) := by
  refine MetFree.of_bodySF (plainFor_of_name pn_8) hisR ?_
  intro p e s m args below meth c s₁ Bd hml0 hP hK
  obtain ⟨rfl, hZ, hh⟩ := hP
  have hx := Bd.exec
  have hby := Bd.bytes
  have hml : c.maxLocals = 8 := hml0
  have hown : s.vm.findClass "java/util/Arrays" = some m.cls := findClass_of_methodNamed Bd.named
  have X0 : Stand p l e ({ frames := 0, cells := 0, slots := 0, locals := 0 } : Room) s m #[(.ref o0), (.int 0), (.int 1), (.int t1)] below meth c s₁ [] 0 0 := Stand.of_body Bd
  have e0 : s₁.heap = h0 := by rw [← hh, Bd.state]; rfl
  have N0 := Fr.nil n0
  have pre0 : ∀ t, Steps p.tables e below (s₁.setTop (mkF m 0 #[rv o0, iv 0, iv 1, iv t1, .unset, .unset, .unset, .unset] [])) t → Steps p.tables e below (s₁.setTop (entryFrame m #[(.ref o0), (.int 0), (.int 1), (.int t1)] 8)) t := fun t k => castTop (ef_8 m o0 0 1 t1) k
  obtain ⟨c1, r1, q1, S1, M1, H1, G1⟩ := id f0
  have i2 : ¬ ((0 : Int32) < 0 ∨ c1.slots.size ≤ ((0 : Int32)).toNatClampNeg) := inb_of S1 ⟨by decide, by decide⟩
  have y3 : c1.slots[((0 : Int32)).toNatClampNeg]? = some (.int t0) := H1 0 (by rw [S1]; decide)
  obtain ⟨fs, hr, hrun, hended, hW, hsame⟩ := X0.leave (v := some (.int 0)) (fun h => by rw [Bd.returns] at h; cases h)
  refine ⟨_, _, pre0 _ ?_, hrun, hended, _, _, rfl, ?_, ⟨_, rfl⟩, hW, hsame.mono (by decide) (by decide)⟩
  · show Steps p.tables e below (s₁.setTop (mkF m 0 #[rv o0, iv 0, iv 1, iv t1, .unset, .unset, .unset, .unset] [])) _
    refine XS.iloadN X0.here hx rfl (hb hby d8_0) rfl ?_
    refine XS.istore X0.here hx rfl (hb hby d8_1) rfl (l' := #[rv o0, iv 0, iv 1, iv t1, iv 0, .unset, .unset, .unset]) rfl ?_
    refine XS.iloadN X0.here hx rfl (hb hby d8_3) rfl ?_
    refine XS.iconst X0.here hx rfl (hb hby d8_4) ?_
    show Steps p.tables e below (s₁.setTop (mkF m 5 #[rv o0, iv 0, iv 1, iv t1, iv 0, .unset, .unset, .unset] [(.int 1), (.int 1)])) _
    refine XS.isub X0.here hx rfl (hb hby d8_5) rfl ?_
    show Steps p.tables e below (s₁.setTop (mkF m 6 #[rv o0, iv 0, iv 1, iv t1, iv 0, .unset, .unset, .unset] [(.int ((1 : Int32) - (1 : Int32)))])) _
    rw [(by decide : ((1 : Int32) - (1 : Int32)) = (0 : Int32))]
    refine XS.istore X0.here hx rfl (hb hby d8_6) rfl (l' := #[rv o0, iv 0, iv 1, iv t1, iv 0, iv 0, .unset, .unset]) rfl ?_
    refine XS.iload X0.here hx rfl (hb hby d8_8) rfl ?_
    refine XS.iload X0.here hx rfl (hb hby d8_10) rfl ?_
    show Steps p.tables e below (s₁.setTop (mkF m 12 #[rv o0, iv 0, iv 1, iv t1, iv 0, iv 0, .unset, .unset] [(.int 0), (.int 0)])) _
    refine XS.icmpNo X0.here hx rfl (hb hby d8_12) rfl (by decide) ?_
    refine XS.iload X0.here hx rfl (hb hby d8_15) rfl ?_
    refine XS.iload X0.here hx rfl (hb hby d8_17) rfl ?_
    refine XS.iadd X0.here hx rfl (hb hby d8_19) rfl ?_
    show Steps p.tables e below (s₁.setTop (mkF m 20 #[rv o0, iv 0, iv 1, iv t1, iv 0, iv 0, .unset, .unset] [(.int ((0 : Int32) + (0 : Int32)))])) _
    rw [(by decide : ((0 : Int32) + (0 : Int32)) = (0 : Int32))]
    refine XS.iconst X0.here hx rfl (hb hby d8_20) ?_
    refine XS.iushr X0.here hx rfl (hb hby d8_21) rfl ?_
    show Steps p.tables e below (s₁.setTop (mkF m 22 #[rv o0, iv 0, iv 1, iv t1, iv 0, iv 0, .unset, .unset] [(.int (((0 : Int32).toUInt32 >>> ((1 : Int32) &&& 31).toUInt32).toInt32))])) _
    rw [(by decide : (((0 : Int32).toUInt32 >>> ((1 : Int32) &&& 31).toUInt32).toInt32) = (0 : Int32))]
    refine XS.istore X0.here hx rfl (hb hby d8_22) rfl (l' := #[rv o0, iv 0, iv 1, iv t1, iv 0, iv 0, iv 0, .unset]) rfl ?_
    refine XS.aloadN X0.here hx rfl (hb hby d8_24) rfl rfl ?_
    refine XS.iload X0.here hx rfl (hb hby d8_25) rfl ?_
    show Steps p.tables e below (s₁.setTop (mkF m 27 #[rv o0, iv 0, iv 1, iv t1, iv 0, iv 0, iv 0, .unset] [(.int 0), (.ref o0)])) _
    refine X0.iaload hx (j := (0 : Int32)) (v := (.int t0)) (by rw [e0]; exact r1.1) (State.isArrayOf_alike hZ.alike r1.2.1) r1.2.2 i2 y3 (g := (mkF m 27 #[rv o0, iv 0, iv 1, iv t1, iv 0, iv 0, iv 0, .unset] [(.int 0), (.ref o0)])) rfl rfl (hb hby d8_27) _ ?_
    refine XS.istore X0.here hx rfl (hb hby d8_28) rfl (l' := #[rv o0, iv 0, iv 1, iv t1, iv 0, iv 0, iv 0, iv t0]) rfl ?_
    refine XS.iload X0.here hx rfl (hb hby d8_30) rfl ?_
    refine XS.iloadN X0.here hx rfl (hb hby d8_32) rfl ?_
    show Steps p.tables e below (s₁.setTop (mkF m 33 #[rv o0, iv 0, iv 1, iv t1, iv 0, iv 0, iv 0, iv t0] [(.int t1), (.int t0)])) _
    refine XS.icmpYes X0.here hx rfl (pc0 := 33) (pc' := 45) rfl (hb hby d8_33) rfl (flt hq0).2.1 (by decide) (by decide) ?_
    refine XS.iload X0.here hx rfl (hb hby d8_45) rfl ?_
    refine XS.iloadN X0.here hx rfl (hb hby d8_47) rfl ?_
    refine XS.icmpYes X0.here hx rfl (pc0 := 48) (pc' := 60) rfl (hb hby d8_48) rfl (flt hq1).2.2.2 (by decide) (by decide) ?_
    show Steps p.tables e below (s₁.setTop (mkF m 60 #[rv o0, iv 0, iv 1, iv t1, iv 0, iv 0, iv 0, iv t0] [])) _
    refine XS.iload X0.here hx rfl (hb hby d8_60) rfl ?_
    exact retI X0 hx Bd.returns (hb hby d8_62) hr
  · show Q8_3 Z a_ONE a_ZTT e_2 e_3 t0 t1 t2 t3 t4 o0 j0 h0 n0 _ s₁.heap _
    exact ⟨rfl, N0, e0⟩
def Q6_3 (Z : State) (a_ONE : Addr) (a_ZTT : Addr) (e_2 : Addr) (e_3 : Addr) (t0 : Int32) (t1 : Int32) (t2 : Int32) (t3 : Int32) (t4 : Int32) (o0 : Addr) (j0 : ClassId) (h0 : Heap) (n0 : Nat) (v : Option Value) (h : Heap) (L : List Loc) : Prop := v = some (.int 0) ∧ Fr n0 L ∧ h = h0
set_option maxRecDepth 65536 in
set_option maxHeartbeats 40000000 in
theorem rm6_3 (l : Launch) (Z : State) (a0 : Array Value) (hw : ∀ d ∈ tables_1, d.before a0 Z = true) (ws : List Jvm.Cond) (a_ONE : Addr) (a_ZTT : Addr) (e_2 : Addr) (e_3 : Addr) (t0 : Int32) (t1 : Int32) (t2 : Int32) (t3 : Int32) (t4 : Int32) (o0 : Addr) (j0 : ClassId) (h0 : Heap) (n0 : Nat) (FF : Facts Z Z.heap a_ONE a_ZTT e_2 e_3) (OO : Old Z n0 h0) (f0 : Arv Z h0 o0 j0 .int (4 : Int32) [(.int t0), (.int t2), (.int t3), (.int t4)] (.int 0)) (hq0 : ¬ (t0 < t1)) (hq1 : ¬ (t1 < t0)) :
    MetFree l (⟨"java/util/Arrays", "binarySearch", "([IIII)I"⟩ : MethodName) (head1 (Jvm.Cond.code (⟨"java/util/Arrays", "binarySearch", "([IIII)I"⟩ : MethodName) jdk_65_method_58_code 4 (some .int) :: ws) ({ frames := 1, cells := 0, slots := 0, locals := 19 } : Room)) (fun a U => a = #[(.ref o0), (.int 0), (.int 1), (.int t1)] ∧ Z.Warmed39 U.vm ∧ U.heap = h0) (fun _ _ _ _ _ => True) (fun _ U o U' => ∃ v L, o = .returned v ∧ Q6_3 Z a_ONE a_ZTT e_2 e_3 t0 t1 t2 t3 t4 o0 j0 h0 n0 v U'.heap L ∧ FrameEnd U o U' L ({ frames := 1, cells := 0, slots := 0, locals := 19 } : Room).cells ({ frames := 1, cells := 0, slots := 0, locals := 19 } : Room).slots) := by
  refine MetFree.of_bodySF (plainFor_of_name pn_6) hisR ?_
  intro p e s m args below meth c s₁ Bd hml0 hP hK
  obtain ⟨rfl, hZ, hh⟩ := hP
  have hx := Bd.exec
  have hby := Bd.bytes
  have hml : c.maxLocals = 4 := hml0
  have hown : s.vm.findClass "java/util/Arrays" = some m.cls := findClass_of_methodNamed Bd.named
  have X0 : Stand p l e ({ frames := 1, cells := 0, slots := 0, locals := 19 } : Room) s m #[(.ref o0), (.int 0), (.int 1), (.int t1)] below meth c s₁ [] 0 0 := Stand.of_body Bd
  have e0 : s₁.heap = h0 := by rw [← hh, Bd.state]; rfl
  have N0 := Fr.nil n0
  have pre0 : ∀ t, Steps p.tables e below (s₁.setTop (mkF m 0 #[rv o0, iv 0, iv 1, iv t1] [])) t → Steps p.tables e below (s₁.setTop (entryFrame m #[(.ref o0), (.int 0), (.int 1), (.int t1)] 4)) t := fun t k => castTop (ef_6 m o0 0 1 t1) k
  obtain ⟨c1, r1, q1, S1, M1, H1, G1⟩ := id f0
  obtain ⟨_, _, ⟨T2, L2, k2, n2⟩, -, X2, ⟨Lc2, hQ2, l2, y2, z2⟩, st2⟩ := Jvm.LawKit.callS X0 hx (y := (⟨"java/util/Arrays", "rangeCheck", "(III)V"⟩ : MethodName)) hown (mvT hZ (w_39 hw)) (mvT hZ (w_40 hw)) (mvT hZ (w_37 hw)) (mvT hZ (w_41 hw)) (by decide) (backOf (W := 0) (rm7_1 l Z a0 hw [] a_ONE a_ZTT e_2 e_3 h0 n0 FF OO) hZ (w_41 hw) (w_37 hw) (by decide) (by decide)) (g := (mkF m 4 #[rv o0, iv 0, iv 1, iv t1] [(.int 1), (.int 0), (.int 4)])) rfl (by rw [hml]; rfl) (argsL := [(.int 4), (.int 0), (.int 1)]) (rest := []) (lenOf pd_3 rfl) rfl (by show 2 * 0 + _ ≤ _; exact Nat.le_of_eq rfl) (hb hby d6_4) (fun _ _ => ⟨rfl, e0, (by decide : 0 + 0 ≤ _), (by decide : 0 + 0 ≤ _)⟩)
  dsimp only [Pt.U, Pt.locs, Pt.cells, Pt.slots] at X2 l2 y2 z2 st2 hQ2
  subst l2 y2 z2
  obtain ⟨rfl, N2q, e2⟩ := hQ2
  have N2 := Fr.app N0 N2q
  obtain ⟨_, _, ⟨T3, L3, k3, n3⟩, -, X3, ⟨Lc3, hQ3, l3, y3, z3⟩, st3⟩ := Jvm.LawKit.callS X2 hx (y := (⟨"java/util/Arrays", "binarySearch0", "([IIII)I"⟩ : MethodName)) hown (mvT hZ (w_42 hw)) (mvT hZ (w_43 hw)) (mvT hZ (w_37 hw)) (mvT hZ (w_44 hw)) (by decide) (backOf (W := 0) (rm8_3 l Z a0 hw [] a_ONE a_ZTT e_2 e_3 t0 t1 t2 t3 t4 o0 j0 h0 n0 FF OO f0 hq0 hq1) hZ (w_44 hw) (w_37 hw) (by decide) (by decide)) (g := (mkF m 11 #[rv o0, iv 0, iv 1, iv t1] [(.int t1), (.int 1), (.int 0), (.ref o0)])) rfl (by rw [hml]; rfl) (argsL := [(.ref o0), (.int 0), (.int 1), (.int t1)]) (rest := []) (lenOf pd_4 rfl) rfl (by show 2 * 0 + _ ≤ _; exact Nat.le_of_eq rfl) (hb hby d6_11) (fun _ _ => ⟨rfl, e2, (by decide : 0 + 0 ≤ _), (by decide : 0 + 0 ≤ _)⟩)
  dsimp only [Pt.U, Pt.locs, Pt.cells, Pt.slots] at X3 l3 y3 z3 st3 hQ3
  subst l3 y3 z3
  obtain ⟨rfl, N3q, e3⟩ := hQ3
  have N3 := Fr.app N2 N3q
  obtain ⟨fs, hr, hrun, hended, hW, hsame⟩ := X3.leave (v := some (.int 0)) (fun h => by rw [Bd.returns] at h; cases h)
  refine ⟨_, _, pre0 _ ?_, hrun, hended, _, _, rfl, ?_, ⟨_, rfl⟩, hW, hsame.mono (by decide) (by decide)⟩
  · show Steps p.tables e below (s₁.setTop (mkF m 0 #[rv o0, iv 0, iv 1, iv t1] [])) _
    refine XS.aloadN X0.here hx rfl (hb hby d6_0) rfl rfl ?_
    refine X0.arraylength hx (by rw [e0]; exact r1.1) (State.isArrayOf_alike hZ.alike r1.2.1) (g := (mkF m 1 #[rv o0, iv 0, iv 1, iv t1] [(.ref o0)])) rfl rfl (hb hby d6_1) _ ?_
    rw [len_of S1 M1]
    refine XS.iloadN X0.here hx rfl (hb hby d6_2) rfl ?_
    show Steps p.tables e below (s₁.setTop (mkF m 3 #[rv o0, iv 0, iv 1, iv t1] [(.int 0), (.int 4)])) _
    refine XS.iloadN X0.here hx rfl (hb hby d6_3) rfl ?_
    refine st2 _ ?_
    refine XS.aloadN X2.here hx rfl (hb hby d6_7) rfl rfl ?_
    refine XS.iloadN X2.here hx rfl (hb hby d6_8) rfl ?_
    show Steps p.tables e below (T2.setTop (mkF m 9 #[rv o0, iv 0, iv 1, iv t1] [(.int 0), (.ref o0)])) _
    refine XS.iloadN X2.here hx rfl (hb hby d6_9) rfl ?_
    refine XS.iloadN X2.here hx rfl (hb hby d6_10) rfl ?_
    refine st3 _ ?_
    exact retI X3 hx Bd.returns (hb hby d6_14) hr
  · show Q6_3 Z a_ONE a_ZTT e_2 e_3 t0 t1 t2 t3 t4 o0 j0 h0 n0 _ T3.heap _
    exact ⟨rfl, N3, e3⟩
def Q12_0 (Z : State) (a_ONE : Addr) (a_ZTT : Addr) (e_2 : Addr) (e_3 : Addr) (h0 : Heap) (n0 : Nat) (v : Option Value) (h : Heap) (L : List Loc) : Prop := v = some (.long 2) ∧ Fr n0 L ∧ h = h0
set_option maxRecDepth 65536 in
set_option maxHeartbeats 40000000 in
theorem rm12_0 (l : Launch) (Z : State) (a0 : Array Value) (hw : ∀ d ∈ tables_1, d.before a0 Z = true) (ws : List Jvm.Cond) (a_ONE : Addr) (a_ZTT : Addr) (e_2 : Addr) (e_3 : Addr) (h0 : Heap) (n0 : Nat) (FF : Facts Z Z.heap a_ONE a_ZTT e_2 e_3) (OO : Old Z n0 h0) :
    MetFree l (⟨"java/math/BigDecimal", "add", "(JJ)J"⟩ : MethodName) (head1 (Jvm.Cond.code (⟨"java/math/BigDecimal", "add", "(JJ)J"⟩ : MethodName) jdk_17_method_132_code 6 (some .long) :: ws) ({ frames := 0, cells := 0, slots := 0, locals := 0 } : Room)) (fun a U => a = #[(.long 1), (.long 1)] ∧ Z.Warmed39 U.vm ∧ U.heap = h0) (fun _ _ _ _ _ => True) (fun _ U o U' => ∃ v L, o = .returned v ∧ Q12_0 Z a_ONE a_ZTT e_2 e_3 h0 n0 v U'.heap L ∧ FrameEnd U o U' L ({ frames := 0, cells := 0, slots := 0, locals := 0 } : Room).cells ({ frames := 0, cells := 0, slots := 0, locals := 0 } : Room).slots) := by
  refine MetFree.of_bodySF (plainFor_of_name pn_12) hisR ?_
  intro p e s m args below meth c s₁ Bd hml0 hP hK
  obtain ⟨rfl, hZ, hh⟩ := hP
  have hx := Bd.exec
  have hby := Bd.bytes
  have hml : c.maxLocals = 6 := hml0
  have hown : s.vm.findClass "java/math/BigDecimal" = some m.cls := findClass_of_methodNamed Bd.named
  have X0 : Stand p l e ({ frames := 0, cells := 0, slots := 0, locals := 0 } : Room) s m #[(.long 1), (.long 1)] below meth c s₁ [] 0 0 := Stand.of_body Bd
  have e0 : s₁.heap = h0 := by rw [← hh, Bd.state]; rfl
  have N0 := Fr.nil n0
  have pre0 : ∀ t, Steps p.tables e below (s₁.setTop (mkF m 0 #[.val (.long 1), .second, .val (.long 1), .second, .unset, .unset] [])) t → Steps p.tables e below (s₁.setTop (entryFrame m #[(.long 1), (.long 1)] 6)) t := fun t k => castTop (ef_12 m 1 1) k
  obtain ⟨fs, hr, hrun, hended, hW, hsame⟩ := X0.leave (v := some (.long 2)) (fun h => by rw [Bd.returns] at h; cases h)
  refine ⟨_, _, pre0 _ ?_, hrun, hended, _, _, rfl, ?_, ⟨_, rfl⟩, hW, hsame.mono (by decide) (by decide)⟩
  · show Steps p.tables e below (s₁.setTop (mkF m 0 #[.val (.long 1), .second, .val (.long 1), .second, .unset, .unset] [])) _
    refine XS.lloadN X0.here hx rfl (hb hby d12_0) rfl ?_
    refine XS.lloadN X0.here hx rfl (hb hby d12_1) rfl ?_
    refine XS.ladd X0.here hx rfl (hb hby d12_2) rfl ?_
    show Steps p.tables e below (s₁.setTop (mkF m 3 #[.val (.long 1), .second, .val (.long 1), .second, .unset, .unset] [(.long ((1 : Int64) + (1 : Int64)))])) _
    rw [(by decide : ((1 : Int64) + (1 : Int64)) = (2 : Int64))]
    refine XS.lstore X0.here hx rfl (hb hby d12_3) rfl (l' := #[.val (.long 1), .second, .val (.long 1), .second, .val (.long 2), .second]) rfl ?_
    refine XS.lload X0.here hx rfl (hb hby d12_5) rfl ?_
    refine XS.lloadN X0.here hx rfl (hb hby d12_7) rfl ?_
    show Steps p.tables e below (s₁.setTop (mkF m 8 #[.val (.long 1), .second, .val (.long 1), .second, .val (.long 2), .second] [(.long 1), (.long 2)])) _
    refine XS.lxor X0.here hx rfl (hb hby d12_8) rfl ?_
    show Steps p.tables e below (s₁.setTop (mkF m 9 #[.val (.long 1), .second, .val (.long 1), .second, .val (.long 2), .second] [(.long ((2 : Int64) ^^^ (1 : Int64)))])) _
    rw [(by decide : ((2 : Int64) ^^^ (1 : Int64)) = (3 : Int64))]
    refine XS.lload X0.here hx rfl (hb hby d12_9) rfl ?_
    refine XS.lloadN X0.here hx rfl (hb hby d12_11) rfl ?_
    refine XS.lxor X0.here hx rfl (hb hby d12_12) rfl ?_
    show Steps p.tables e below (s₁.setTop (mkF m 13 #[.val (.long 1), .second, .val (.long 1), .second, .val (.long 2), .second] [(.long ((2 : Int64) ^^^ (1 : Int64))), (.long 3)])) _
    rw [(by decide : ((2 : Int64) ^^^ (1 : Int64)) = (3 : Int64))]
    refine XS.land X0.here hx rfl (hb hby d12_13) rfl ?_
    show Steps p.tables e below (s₁.setTop (mkF m 14 #[.val (.long 1), .second, .val (.long 1), .second, .val (.long 2), .second] [(.long ((3 : Int64) &&& (3 : Int64)))])) _
    rw [(by decide : ((3 : Int64) &&& (3 : Int64)) = (3 : Int64))]
    refine XS.lconst X0.here hx rfl (hb hby d12_14) ?_
    refine XS.lcmp X0.here hx rfl (hb hby d12_15) rfl ?_
    show Steps p.tables e below (s₁.setTop (mkF m 16 #[.val (.long 1), .second, .val (.long 1), .second, .val (.long 2), .second] [(.int (if (3 : Int64) > (0 : Int64) then 1 else if (3 : Int64) = (0 : Int64) then 0 else -1))])) _
    rw [(by decide : (if (3 : Int64) > (0 : Int64) then 1 else if (3 : Int64) = (0 : Int64) then 0 else -1) = (1 : Int32))]
    refine XS.ifNo X0.here hx rfl (hb hby d12_16) rfl (by decide) ?_
    refine XS.lload X0.here hx rfl (hb hby d12_19) rfl ?_
    exact retOut X0 hx Bd.returns rfl (Or.inr (Or.inl ⟨rfl, rfl, _, rfl⟩)) (hb hby d12_21) hr
  · show Q12_0 Z a_ONE a_ZTT e_2 e_3 h0 n0 _ s₁.heap _
    exact ⟨rfl, N0, e0⟩
def Q14_0 (Z : State) (a_ONE : Addr) (a_ZTT : Addr) (e_2 : Addr) (e_3 : Addr) (h0 : Heap) (n0 : Nat) (v : Option Value) (h : Heap) (L : List Loc) : Prop := v = some (.ref e_2) ∧ Fr n0 L ∧ h = h0
set_option maxRecDepth 65536 in
set_option maxHeartbeats 40000000 in
theorem rm14_0 (l : Launch) (Z : State) (a0 : Array Value) (hw : ∀ d ∈ tables_1, d.before a0 Z = true) (ws : List Jvm.Cond) (a_ONE : Addr) (a_ZTT : Addr) (e_2 : Addr) (e_3 : Addr) (h0 : Heap) (n0 : Nat) (FF : Facts Z Z.heap a_ONE a_ZTT e_2 e_3) (OO : Old Z n0 h0) :
    MetFree l (⟨"java/math/BigDecimal", "valueOf", "(J)Ljava/math/BigDecimal;"⟩ : MethodName) (head1 (Jvm.Cond.code (⟨"java/math/BigDecimal", "valueOf", "(J)Ljava/math/BigDecimal;"⟩ : MethodName) jdk_17_method_21_code 2 (some (.object "java/math/BigDecimal")) :: ws) ({ frames := 0, cells := 0, slots := 0, locals := 0 } : Room)) (fun a U => a = #[(.long 2)] ∧ Z.Warmed39 U.vm ∧ U.heap = h0) (fun _ _ _ _ _ => True) (fun _ U o U' => ∃ v L, o = .returned v ∧ Q14_0 Z a_ONE a_ZTT e_2 e_3 h0 n0 v U'.heap L ∧ FrameEnd U o U' L ({ frames := 0, cells := 0, slots := 0, locals := 0 } : Room).cells ({ frames := 0, cells := 0, slots := 0, locals := 0 } : Room).slots) := by
  refine MetFree.of_bodySF (plainFor_of_name pn_14) hisR ?_
  intro p e s m args below meth c s₁ Bd hml0 hP hK
  obtain ⟨rfl, hZ, hh⟩ := hP
  have hx := Bd.exec
  have hby := Bd.bytes
  have hml : c.maxLocals = 2 := hml0
  have hown : s.vm.findClass "java/math/BigDecimal" = some m.cls := findClass_of_methodNamed Bd.named
  have X0 : Stand p l e ({ frames := 0, cells := 0, slots := 0, locals := 0 } : Room) s m #[(.long 2)] below meth c s₁ [] 0 0 := Stand.of_body Bd
  have e0 : s₁.heap = h0 := by rw [← hh, Bd.state]; rfl
  have N0 := Fr.nil n0
  have pre0 : ∀ t, Steps p.tables e below (s₁.setTop (mkF m 0 #[.val (.long 2), .second] [])) t → Steps p.tables e below (s₁.setTop (entryFrame m #[(.long 2)] 2)) t := fun t k => castTop (ef_14 m 2) k
  obtain ⟨T1, X1, e1, st1⟩ := getS2 X0 hx hZ hown (host := "") (Or.inl (w_75 hw)) Via.refl e0 (Sta.ext OO.2 (fx_S_ZERO_THROUGH_TEN FF)) (g := (mkF m 7 #[.val (.long 2), .second] [(.long 2)])) rfl (hb hby d14_7)
  obtain ⟨c2, r2, S2⟩ := own_Ar.ext OO.2 (fx_len_ZTT FF)
  obtain ⟨T3, X3, e3, st3⟩ := getS2 X1 hx hZ hown (host := "") (Or.inl (w_75 hw)) Via.refl e1 (Sta.ext OO.2 (fx_S_ZERO_THROUGH_TEN FF)) (g := (mkF m 16 #[.val (.long 2), .second] [])) rfl (hb hby d14_16)
  obtain ⟨c4, r4, i4, y4⟩ := own_El.ext OO.2 (fx_el_2 FF)
  obtain ⟨fs, hr, hrun, hended, hW, hsame⟩ := X3.leave (v := some (.ref e_2)) (fun h => by rw [Bd.returns] at h; cases h)
  refine ⟨_, _, pre0 _ ?_, hrun, hended, _, _, rfl, ?_, ⟨_, rfl⟩, hW, hsame.mono (by decide) (by decide)⟩
  · show Steps p.tables e below (s₁.setTop (mkF m 0 #[.val (.long 2), .second] [])) _
    refine XS.lloadN X0.here hx rfl (hb hby d14_0) rfl ?_
    refine XS.lconst X0.here hx rfl (hb hby d14_1) ?_
    refine XS.lcmp X0.here hx rfl (hb hby d14_2) rfl ?_
    show Steps p.tables e below (s₁.setTop (mkF m 3 #[.val (.long 2), .second] [(.int (if (2 : Int64) > (0 : Int64) then 1 else if (2 : Int64) = (0 : Int64) then 0 else -1))])) _
    rw [(by decide : (if (2 : Int64) > (0 : Int64) then 1 else if (2 : Int64) = (0 : Int64) then 0 else -1) = (1 : Int32))]
    refine XS.ifNo X0.here hx rfl (hb hby d14_3) rfl (by decide) ?_
    refine XS.lloadN X0.here hx rfl (hb hby d14_6) rfl ?_
    refine st1 _ ?_
    show Steps p.tables e below (T1.setTop (mkF m 10 #[.val (.long 2), .second] [(.ref a_ZTT), (.long 2)])) _
    refine X1.arraylength hx (by rw [e1]; exact r2.1) (State.isArrayOf_alike hZ.alike r2.2.1) (g := (mkF m 10 #[.val (.long 2), .second] [(.ref a_ZTT), (.long 2)])) rfl rfl (hb hby d14_10) _ ?_
    rw [S2]
    refine XS.i2l X1.here hx rfl (hb hby d14_11) rfl ?_
    show Steps p.tables e below (T1.setTop (mkF m 12 #[.val (.long 2), .second] [(.long ((11 : Int32).toInt64)), (.long 2)])) _
    rw [(by decide : ((11 : Int32).toInt64) = (11 : Int64))]
    refine XS.lcmp X1.here hx rfl (hb hby d14_12) rfl ?_
    show Steps p.tables e below (T1.setTop (mkF m 13 #[.val (.long 2), .second] [(.int (if (2 : Int64) > (11 : Int64) then 1 else if (2 : Int64) = (11 : Int64) then 0 else -1))])) _
    rw [(by decide : (if (2 : Int64) > (11 : Int64) then 1 else if (2 : Int64) = (11 : Int64) then 0 else -1) = (-1 : Int32))]
    refine XS.ifNo X1.here hx rfl (hb hby d14_13) rfl (by decide) ?_
    refine st3 _ ?_
    refine XS.lloadN X3.here hx rfl (hb hby d14_19) rfl ?_
    show Steps p.tables e below (T3.setTop (mkF m 20 #[.val (.long 2), .second] [(.long 2), (.ref a_ZTT)])) _
    refine XS.l2i X3.here hx rfl (hb hby d14_20) rfl ?_
    show Steps p.tables e below (T3.setTop (mkF m 21 #[.val (.long 2), .second] [(.int ((2 : Int64).toInt32)), (.ref a_ZTT)])) _
    rw [(by decide : ((2 : Int64).toInt32) = (2 : Int32))]
    refine X3.aaload hx (j := (2 : Int32)) (v := (.ref e_2)) (by rw [e3]; exact r4.1) (State.isArrayOf_alike hZ.alike r4.2.1) rfl r4.2.2 i4 y4 (g := (mkF m 21 #[.val (.long 2), .second] [(.int 2), (.ref a_ZTT)])) rfl rfl (hb hby d14_21) _ ?_
    exact retOut X3 hx Bd.returns rfl (Or.inr (Or.inr (Or.inr (Or.inr ⟨rfl, rfl, rfl⟩)))) (hb hby d14_22) hr
  · show Q14_0 Z a_ONE a_ZTT e_2 e_3 h0 n0 _ T3.heap _
    exact ⟨rfl, N0, e3⟩
def Q13_0 (Z : State) (a_ONE : Addr) (a_ZTT : Addr) (e_2 : Addr) (e_3 : Addr) (h0 : Heap) (n0 : Nat) (v : Option Value) (h : Heap) (L : List Loc) : Prop := v = some (.ref e_2) ∧ Fr n0 L ∧ h = h0
set_option maxRecDepth 65536 in
set_option maxHeartbeats 40000000 in
theorem rm13_0 (l : Launch) (Z : State) (a0 : Array Value) (hw : ∀ d ∈ tables_1, d.before a0 Z = true) (ws : List Jvm.Cond) (a_ONE : Addr) (a_ZTT : Addr) (e_2 : Addr) (e_3 : Addr) (h0 : Heap) (n0 : Nat) (FF : Facts Z Z.heap a_ONE a_ZTT e_2 e_3) (OO : Old Z n0 h0) :
    MetFree l (⟨"java/math/BigDecimal", "valueOf", "(JI)Ljava/math/BigDecimal;"⟩ : MethodName) (head1 (Jvm.Cond.code (⟨"java/math/BigDecimal", "valueOf", "(JI)Ljava/math/BigDecimal;"⟩ : MethodName) jdk_17_method_20_code 3 (some (.object "java/math/BigDecimal")) :: ws) ({ frames := 1, cells := 0, slots := 0, locals := 13 } : Room)) (fun a U => a = #[(.long 2), (.int 0)] ∧ Z.Warmed39 U.vm ∧ U.heap = h0) (fun _ _ _ _ _ => True) (fun _ U o U' => ∃ v L, o = .returned v ∧ Q13_0 Z a_ONE a_ZTT e_2 e_3 h0 n0 v U'.heap L ∧ FrameEnd U o U' L ({ frames := 1, cells := 0, slots := 0, locals := 13 } : Room).cells ({ frames := 1, cells := 0, slots := 0, locals := 13 } : Room).slots) := by
  refine MetFree.of_bodySF (plainFor_of_name pn_13) hisR ?_
  intro p e s m args below meth c s₁ Bd hml0 hP hK
  obtain ⟨rfl, hZ, hh⟩ := hP
  have hx := Bd.exec
  have hby := Bd.bytes
  have hml : c.maxLocals = 3 := hml0
  have hown : s.vm.findClass "java/math/BigDecimal" = some m.cls := findClass_of_methodNamed Bd.named
  have X0 : Stand p l e ({ frames := 1, cells := 0, slots := 0, locals := 13 } : Room) s m #[(.long 2), (.int 0)] below meth c s₁ [] 0 0 := Stand.of_body Bd
  have e0 : s₁.heap = h0 := by rw [← hh, Bd.state]; rfl
  have N0 := Fr.nil n0
  have pre0 : ∀ t, Steps p.tables e below (s₁.setTop (mkF m 0 #[.val (.long 2), .second, iv 0] [])) t → Steps p.tables e below (s₁.setTop (entryFrame m #[(.long 2), (.int 0)] 3)) t := fun t k => castTop (ef_13 m 2 0) k
  obtain ⟨_, _, ⟨T1, L1, k1, n1⟩, -, X1, ⟨Lc1, hQ1, l1, y1, z1⟩, st1⟩ := Jvm.LawKit.callS X0 hx (y := (⟨"java/math/BigDecimal", "valueOf", "(J)Ljava/math/BigDecimal;"⟩ : MethodName)) hown (mvT hZ (w_72 hw)) (mvT hZ (w_73 hw)) (mvT hZ (w_29 hw)) (mvT hZ (w_74 hw)) (by decide) (backOf (W := 0) (rm14_0 l Z a0 hw [] a_ONE a_ZTT e_2 e_3 h0 n0 FF OO) hZ (w_74 hw) (w_29 hw) (by decide) (by decide)) (g := (mkF m 5 #[.val (.long 2), .second, iv 0] [(.long 2)])) rfl (by rw [hml]; rfl) (argsL := [(.long 2)]) (rest := []) (lenOf pd_7 rfl) rfl (by show 2 * 0 + _ ≤ _; exact Nat.le_of_eq rfl) (hb hby d13_5) (fun _ _ => ⟨rfl, e0, (by decide : 0 + 0 ≤ _), (by decide : 0 + 0 ≤ _)⟩)
  dsimp only [Pt.U, Pt.locs, Pt.cells, Pt.slots] at X1 l1 y1 z1 st1 hQ1
  subst l1 y1 z1
  obtain ⟨rfl, N1q, e1⟩ := hQ1
  have N1 := Fr.app N0 N1q
  obtain ⟨fs, hr, hrun, hended, hW, hsame⟩ := X1.leave (v := some (.ref e_2)) (fun h => by rw [Bd.returns] at h; cases h)
  refine ⟨_, _, pre0 _ ?_, hrun, hended, _, _, rfl, ?_, ⟨_, rfl⟩, hW, hsame.mono (by decide) (by decide)⟩
  · show Steps p.tables e below (s₁.setTop (mkF m 0 #[.val (.long 2), .second, iv 0] [])) _
    refine XS.iloadN X0.here hx rfl (hb hby d13_0) rfl ?_
    refine XS.ifNo X0.here hx rfl (hb hby d13_1) rfl (by decide) ?_
    refine XS.lloadN X0.here hx rfl (hb hby d13_4) rfl ?_
    refine st1 _ ?_
    show Steps p.tables e below (T1.setTop (mkF m 8 #[.val (.long 2), .second, iv 0] [(.ref e_2)])) _
    exact retOut X1 hx Bd.returns rfl (Or.inr (Or.inr (Or.inr (Or.inr ⟨rfl, rfl, rfl⟩)))) (hb hby d13_8) hr
  · show Q13_0 Z a_ONE a_ZTT e_2 e_3 h0 n0 _ T1.heap _
    exact ⟨rfl, N1, e1⟩
def Q11_0 (Z : State) (a_ONE : Addr) (a_ZTT : Addr) (e_2 : Addr) (e_3 : Addr) (h0 : Heap) (n0 : Nat) (v : Option Value) (h : Heap) (L : List Loc) : Prop := v = some (.ref e_2) ∧ Fr n0 L ∧ h = h0
set_option maxRecDepth 65536 in
set_option maxHeartbeats 40000000 in
theorem rm11_0 (l : Launch) (Z : State) (a0 : Array Value) (hw : ∀ d ∈ tables_1, d.before a0 Z = true) (ws : List Jvm.Cond) (a_ONE : Addr) (a_ZTT : Addr) (e_2 : Addr) (e_3 : Addr) (h0 : Heap) (n0 : Nat) (FF : Facts Z Z.heap a_ONE a_ZTT e_2 e_3) (OO : Old Z n0 h0) :
    MetFree l (⟨"java/math/BigDecimal", "add", "(JJI)Ljava/math/BigDecimal;"⟩ : MethodName) (head1 (Jvm.Cond.code (⟨"java/math/BigDecimal", "add", "(JJI)Ljava/math/BigDecimal;"⟩ : MethodName) jdk_17_method_133_code 7 (some (.object "java/math/BigDecimal")) :: ws) ({ frames := 2, cells := 0, slots := 0, locals := 27 } : Room)) (fun a U => a = #[(.long 1), (.long 1), (.int 0)] ∧ Z.Warmed39 U.vm ∧ U.heap = h0) (fun _ _ _ _ _ => True) (fun _ U o U' => ∃ v L, o = .returned v ∧ Q11_0 Z a_ONE a_ZTT e_2 e_3 h0 n0 v U'.heap L ∧ FrameEnd U o U' L ({ frames := 2, cells := 0, slots := 0, locals := 27 } : Room).cells ({ frames := 2, cells := 0, slots := 0, locals := 27 } : Room).slots) := by
  refine MetFree.of_bodySF (plainFor_of_name pn_11) hisR ?_
  intro p e s m args below meth c s₁ Bd hml0 hP hK
  obtain ⟨rfl, hZ, hh⟩ := hP
  have hx := Bd.exec
  have hby := Bd.bytes
  have hml : c.maxLocals = 7 := hml0
  have hown : s.vm.findClass "java/math/BigDecimal" = some m.cls := findClass_of_methodNamed Bd.named
  have X0 : Stand p l e ({ frames := 2, cells := 0, slots := 0, locals := 27 } : Room) s m #[(.long 1), (.long 1), (.int 0)] below meth c s₁ [] 0 0 := Stand.of_body Bd
  have e0 : s₁.heap = h0 := by rw [← hh, Bd.state]; rfl
  have N0 := Fr.nil n0
  have pre0 : ∀ t, Steps p.tables e below (s₁.setTop (mkF m 0 #[.val (.long 1), .second, .val (.long 1), .second, iv 0, .unset, .unset] [])) t → Steps p.tables e below (s₁.setTop (entryFrame m #[(.long 1), (.long 1), (.int 0)] 7)) t := fun t k => castTop (ef_11 m 1 1 0) k
  obtain ⟨_, _, ⟨T1, L1, k1, n1⟩, -, X1, ⟨Lc1, hQ1, l1, y1, z1⟩, st1⟩ := Jvm.LawKit.callS X0 hx (y := (⟨"java/math/BigDecimal", "add", "(JJ)J"⟩ : MethodName)) hown (mvT hZ (w_66 hw)) (mvT hZ (w_67 hw)) (mvT hZ (w_29 hw)) (mvT hZ (w_68 hw)) (by decide) (backOf (W := 0) (rm12_0 l Z a0 hw [] a_ONE a_ZTT e_2 e_3 h0 n0 FF OO) hZ (w_68 hw) (w_29 hw) (by decide) (by decide)) (g := (mkF m 2 #[.val (.long 1), .second, .val (.long 1), .second, iv 0, .unset, .unset] [(.long 1), (.long 1)])) rfl (by rw [hml]; rfl) (argsL := [(.long 1), (.long 1)]) (rest := []) (lenOf pd_6 rfl) rfl (by show 2 * 0 + _ ≤ _; exact Nat.le_of_eq rfl) (hb hby d11_2) (fun _ _ => ⟨rfl, e0, (by decide : 0 + 0 ≤ _), (by decide : 0 + 0 ≤ _)⟩)
  dsimp only [Pt.U, Pt.locs, Pt.cells, Pt.slots] at X1 l1 y1 z1 st1 hQ1
  subst l1 y1 z1
  obtain ⟨rfl, N1q, e1⟩ := hQ1
  have N1 := Fr.app N0 N1q
  obtain ⟨_, _, ⟨T2, L2, k2, n2⟩, -, X2, ⟨Lc2, hQ2, l2, y2, z2⟩, st2⟩ := Jvm.LawKit.callS X1 hx (y := (⟨"java/math/BigDecimal", "valueOf", "(JI)Ljava/math/BigDecimal;"⟩ : MethodName)) hown (mvT hZ (w_69 hw)) (mvT hZ (w_70 hw)) (mvT hZ (w_29 hw)) (mvT hZ (w_71 hw)) (by decide) (backOf (W := 0) (rm13_0 l Z a0 hw [] a_ONE a_ZTT e_2 e_3 h0 n0 FF OO) hZ (w_71 hw) (w_29 hw) (by decide) (by decide)) (g := (mkF m 20 #[.val (.long 1), .second, .val (.long 1), .second, iv 0, .val (.long 2), .second] [(.int 0), (.long 2)])) rfl (by rw [hml]; rfl) (argsL := [(.long 2), (.int 0)]) (rest := []) (lenOf pd_8 rfl) rfl (by show 2 * 0 + _ ≤ _; exact Nat.le_of_eq rfl) (hb hby d11_20) (fun _ _ => ⟨rfl, e1, (by decide : 0 + 0 ≤ _), (by decide : 0 + 0 ≤ _)⟩)
  dsimp only [Pt.U, Pt.locs, Pt.cells, Pt.slots] at X2 l2 y2 z2 st2 hQ2
  subst l2 y2 z2
  obtain ⟨rfl, N2q, e2⟩ := hQ2
  have N2 := Fr.app N1 N2q
  obtain ⟨fs, hr, hrun, hended, hW, hsame⟩ := X2.leave (v := some (.ref e_2)) (fun h => by rw [Bd.returns] at h; cases h)
  refine ⟨_, _, pre0 _ ?_, hrun, hended, _, _, rfl, ?_, ⟨_, rfl⟩, hW, hsame.mono (by decide) (by decide)⟩
  · show Steps p.tables e below (s₁.setTop (mkF m 0 #[.val (.long 1), .second, .val (.long 1), .second, iv 0, .unset, .unset] [])) _
    refine XS.lloadN X0.here hx rfl (hb hby d11_0) rfl ?_
    refine XS.lloadN X0.here hx rfl (hb hby d11_1) rfl ?_
    refine st1 _ ?_
    refine XS.lstore X1.here hx rfl (hb hby d11_5) rfl (l' := #[.val (.long 1), .second, .val (.long 1), .second, iv 0, .val (.long 2), .second]) rfl ?_
    show Steps p.tables e below (T1.setTop (mkF m 7 #[.val (.long 1), .second, .val (.long 1), .second, iv 0, .val (.long 2), .second] [])) _
    refine XS.lload X1.here hx rfl (hb hby d11_7) rfl ?_
    refine X1.ldc2Long hx hown (mvT hZ (w_57 hw)) (g := (mkF m 9 #[.val (.long 1), .second, .val (.long 1), .second, iv 0, .val (.long 2), .second] [(.long 2)])) rfl (hb hby d11_9) _ ?_
    refine XS.lcmp X1.here hx rfl (hb hby d11_12) rfl ?_
    show Steps p.tables e below (T1.setTop (mkF m 13 #[.val (.long 1), .second, .val (.long 1), .second, iv 0, .val (.long 2), .second] [(.int (if (2 : Int64) > (-9223372036854775808 : Int64) then 1 else if (2 : Int64) = (-9223372036854775808 : Int64) then 0 else -1))])) _
    rw [(by decide : (if (2 : Int64) > (-9223372036854775808 : Int64) then 1 else if (2 : Int64) = (-9223372036854775808 : Int64) then 0 else -1) = (1 : Int32))]
    refine XS.ifNo X1.here hx rfl (hb hby d11_13) rfl (by decide) ?_
    refine XS.lload X1.here hx rfl (hb hby d11_16) rfl ?_
    refine XS.iload X1.here hx rfl (hb hby d11_18) rfl ?_
    show Steps p.tables e below (T1.setTop (mkF m 20 #[.val (.long 1), .second, .val (.long 1), .second, iv 0, .val (.long 2), .second] [(.int 0), (.long 2)])) _
    refine st2 _ ?_
    exact retOut X2 hx Bd.returns rfl (Or.inr (Or.inr (Or.inr (Or.inr ⟨rfl, rfl, rfl⟩)))) (hb hby d11_23) hr
  · show Q11_0 Z a_ONE a_ZTT e_2 e_3 h0 n0 _ T2.heap _
    exact ⟨rfl, N2, e2⟩
def Q10_0 (Z : State) (a_ONE : Addr) (a_ZTT : Addr) (e_2 : Addr) (e_3 : Addr) (h0 : Heap) (n0 : Nat) (v : Option Value) (h : Heap) (L : List Loc) : Prop := v = some (.ref e_2) ∧ Fr n0 L ∧ h = h0
set_option maxRecDepth 65536 in
set_option maxHeartbeats 40000000 in
theorem rm10_0 (l : Launch) (Z : State) (a0 : Array Value) (hw : ∀ d ∈ tables_1, d.before a0 Z = true) (ws : List Jvm.Cond) (a_ONE : Addr) (a_ZTT : Addr) (e_2 : Addr) (e_3 : Addr) (h0 : Heap) (n0 : Nat) (FF : Facts Z Z.heap a_ONE a_ZTT e_2 e_3) (OO : Old Z n0 h0) :
    MetFree l (⟨"java/math/BigDecimal", "add", "(JIJI)Ljava/math/BigDecimal;"⟩ : MethodName) (head1 (Jvm.Cond.code (⟨"java/math/BigDecimal", "add", "(JIJI)Ljava/math/BigDecimal;"⟩ : MethodName) jdk_17_method_134_code 12 (some (.object "java/math/BigDecimal")) :: ws) ({ frames := 3, cells := 0, slots := 0, locals := 45 } : Room)) (fun a U => a = #[(.long 1), (.int 0), (.long 1), (.int 0)] ∧ Z.Warmed39 U.vm ∧ U.heap = h0) (fun _ _ _ _ _ => True) (fun _ U o U' => ∃ v L, o = .returned v ∧ Q10_0 Z a_ONE a_ZTT e_2 e_3 h0 n0 v U'.heap L ∧ FrameEnd U o U' L ({ frames := 3, cells := 0, slots := 0, locals := 45 } : Room).cells ({ frames := 3, cells := 0, slots := 0, locals := 45 } : Room).slots) := by
  refine MetFree.of_bodySF (plainFor_of_name pn_10) hisR ?_
  intro p e s m args below meth c s₁ Bd hml0 hP hK
  obtain ⟨rfl, hZ, hh⟩ := hP
  have hx := Bd.exec
  have hby := Bd.bytes
  have hml : c.maxLocals = 12 := hml0
  have hown : s.vm.findClass "java/math/BigDecimal" = some m.cls := findClass_of_methodNamed Bd.named
  have X0 : Stand p l e ({ frames := 3, cells := 0, slots := 0, locals := 45 } : Room) s m #[(.long 1), (.int 0), (.long 1), (.int 0)] below meth c s₁ [] 0 0 := Stand.of_body Bd
  have e0 : s₁.heap = h0 := by rw [← hh, Bd.state]; rfl
  have N0 := Fr.nil n0
  have pre0 : ∀ t, Steps p.tables e below (s₁.setTop (mkF m 0 #[.val (.long 1), .second, iv 0, .val (.long 1), .second, iv 0, .unset, .unset, .unset, .unset, .unset, .unset] [])) t → Steps p.tables e below (s₁.setTop (entryFrame m #[(.long 1), (.int 0), (.long 1), (.int 0)] 12)) t := fun t k => castTop (ef_10 m 1 0 1 0) k
  obtain ⟨_, _, ⟨T1, L1, k1, n1⟩, -, X1, ⟨Lc1, hQ1, l1, y1, z1⟩, st1⟩ := Jvm.LawKit.callS X0 hx (y := (⟨"java/math/BigDecimal", "add", "(JJI)Ljava/math/BigDecimal;"⟩ : MethodName)) hown (mvT hZ (w_63 hw)) (mvT hZ (w_64 hw)) (mvT hZ (w_29 hw)) (mvT hZ (w_65 hw)) (by decide) (backOf (W := 0) (rm11_0 l Z a0 hw [] a_ONE a_ZTT e_2 e_3 h0 n0 FF OO) hZ (w_65 hw) (w_29 hw) (by decide) (by decide)) (g := (mkF m 18 #[.val (.long 1), .second, iv 0, .val (.long 1), .second, iv 0, .val (.long 0), .second, .unset, .unset, .unset, .unset] [(.int 0), (.long 1), (.long 1)])) rfl (by rw [hml]; rfl) (argsL := [(.long 1), (.long 1), (.int 0)]) (rest := []) (lenOf pd_9 rfl) rfl (by show 2 * 0 + _ ≤ _; exact Nat.le_of_eq rfl) (hb hby d10_18) (fun _ _ => ⟨rfl, e0, (by decide : 0 + 0 ≤ _), (by decide : 0 + 0 ≤ _)⟩)
  dsimp only [Pt.U, Pt.locs, Pt.cells, Pt.slots] at X1 l1 y1 z1 st1 hQ1
  subst l1 y1 z1
  obtain ⟨rfl, N1q, e1⟩ := hQ1
  have N1 := Fr.app N0 N1q
  obtain ⟨fs, hr, hrun, hended, hW, hsame⟩ := X1.leave (v := some (.ref e_2)) (fun h => by rw [Bd.returns] at h; cases h)
  refine ⟨_, _, pre0 _ ?_, hrun, hended, _, _, rfl, ?_, ⟨_, rfl⟩, hW, hsame.mono (by decide) (by decide)⟩
  · show Steps p.tables e below (s₁.setTop (mkF m 0 #[.val (.long 1), .second, iv 0, .val (.long 1), .second, iv 0, .unset, .unset, .unset, .unset, .unset, .unset] [])) _
    refine XS.iloadN X0.here hx rfl (hb hby d10_0) rfl ?_
    refine XS.i2l X0.here hx rfl (hb hby d10_1) rfl ?_
    show Steps p.tables e below (s₁.setTop (mkF m 2 #[.val (.long 1), .second, iv 0, .val (.long 1), .second, iv 0, .unset, .unset, .unset, .unset, .unset, .unset] [(.long ((0 : Int32).toInt64))])) _
    rw [(by decide : ((0 : Int32).toInt64) = (0 : Int64))]
    refine XS.iload X0.here hx rfl (hb hby d10_2) rfl ?_
    refine XS.i2l X0.here hx rfl (hb hby d10_4) rfl ?_
    show Steps p.tables e below (s₁.setTop (mkF m 5 #[.val (.long 1), .second, iv 0, .val (.long 1), .second, iv 0, .unset, .unset, .unset, .unset, .unset, .unset] [(.long ((0 : Int32).toInt64)), (.long 0)])) _
    rw [(by decide : ((0 : Int32).toInt64) = (0 : Int64))]
    refine XS.lsub X0.here hx rfl (hb hby d10_5) rfl ?_
    show Steps p.tables e below (s₁.setTop (mkF m 6 #[.val (.long 1), .second, iv 0, .val (.long 1), .second, iv 0, .unset, .unset, .unset, .unset, .unset, .unset] [(.long ((0 : Int64) - (0 : Int64)))])) _
    rw [(by decide : ((0 : Int64) - (0 : Int64)) = (0 : Int64))]
    refine XS.lstore X0.here hx rfl (hb hby d10_6) rfl (l' := #[.val (.long 1), .second, iv 0, .val (.long 1), .second, iv 0, .val (.long 0), .second, .unset, .unset, .unset, .unset]) rfl ?_
    refine XS.lload X0.here hx rfl (hb hby d10_8) rfl ?_
    refine XS.lconst X0.here hx rfl (hb hby d10_10) ?_
    show Steps p.tables e below (s₁.setTop (mkF m 11 #[.val (.long 1), .second, iv 0, .val (.long 1), .second, iv 0, .val (.long 0), .second, .unset, .unset, .unset, .unset] [(.long 0), (.long 0)])) _
    refine XS.lcmp X0.here hx rfl (hb hby d10_11) rfl ?_
    show Steps p.tables e below (s₁.setTop (mkF m 12 #[.val (.long 1), .second, iv 0, .val (.long 1), .second, iv 0, .val (.long 0), .second, .unset, .unset, .unset, .unset] [(.int (if (0 : Int64) > (0 : Int64) then 1 else if (0 : Int64) = (0 : Int64) then 0 else -1))])) _
    rw [(by decide : (if (0 : Int64) > (0 : Int64) then 1 else if (0 : Int64) = (0 : Int64) then 0 else -1) = (0 : Int32))]
    refine XS.ifNo X0.here hx rfl (hb hby d10_12) rfl (by decide) ?_
    refine XS.lloadN X0.here hx rfl (hb hby d10_15) rfl ?_
    refine XS.lloadN X0.here hx rfl (hb hby d10_16) rfl ?_
    show Steps p.tables e below (s₁.setTop (mkF m 17 #[.val (.long 1), .second, iv 0, .val (.long 1), .second, iv 0, .val (.long 0), .second, .unset, .unset, .unset, .unset] [(.long 1), (.long 1)])) _
    refine XS.iloadN X0.here hx rfl (hb hby d10_17) rfl ?_
    refine st1 _ ?_
    exact retOut X1 hx Bd.returns rfl (Or.inr (Or.inr (Or.inr (Or.inr ⟨rfl, rfl, rfl⟩)))) (hb hby d10_21) hr
  · show Q10_0 Z a_ONE a_ZTT e_2 e_3 h0 n0 _ T1.heap _
    exact ⟨rfl, N1, e1⟩
def Q9_0 (Z : State) (a_ONE : Addr) (a_ZTT : Addr) (e_2 : Addr) (e_3 : Addr) (h0 : Heap) (n0 : Nat) (v : Option Value) (h : Heap) (L : List Loc) : Prop := v = some (.ref e_2) ∧ Fr n0 L ∧ h = h0
set_option maxRecDepth 65536 in
set_option maxHeartbeats 40000000 in
theorem rm9_0 (l : Launch) (Z : State) (a0 : Array Value) (hw : ∀ d ∈ tables_1, d.before a0 Z = true) (ws : List Jvm.Cond) (a_ONE : Addr) (a_ZTT : Addr) (e_2 : Addr) (e_3 : Addr) (h0 : Heap) (n0 : Nat) (FF : Facts Z Z.heap a_ONE a_ZTT e_2 e_3) (OO : Old Z n0 h0) :
    MetFree l (⟨"java/math/BigDecimal", "add", "(Ljava/math/BigDecimal;)Ljava/math/BigDecimal;"⟩ : MethodName) (head1 (Jvm.Cond.code (⟨"java/math/BigDecimal", "add", "(Ljava/math/BigDecimal;)Ljava/math/BigDecimal;"⟩ : MethodName) jdk_17_method_26_code 2 (some (.object "java/math/BigDecimal")) :: ws) ({ frames := 4, cells := 0, slots := 0, locals := 68 } : Room)) (fun a U => a = #[(.ref a_ONE), (.ref a_ONE)] ∧ Z.Warmed39 U.vm ∧ U.heap = h0) (fun _ _ _ _ _ => True) (fun _ U o U' => ∃ v L, o = .returned v ∧ Q9_0 Z a_ONE a_ZTT e_2 e_3 h0 n0 v U'.heap L ∧ FrameEnd U o U' L ({ frames := 4, cells := 0, slots := 0, locals := 68 } : Room).cells ({ frames := 4, cells := 0, slots := 0, locals := 68 } : Room).slots) := by
  refine MetFree.of_bodySF (plainFor_of_name pn_9) hisR ?_
  intro p e s m args below meth c s₁ Bd hml0 hP hK
  obtain ⟨rfl, hZ, hh⟩ := hP
  have hx := Bd.exec
  have hby := Bd.bytes
  have hml : c.maxLocals = 2 := hml0
  have hown : s.vm.findClass "java/math/BigDecimal" = some m.cls := findClass_of_methodNamed Bd.named
  have X0 : Stand p l e ({ frames := 4, cells := 0, slots := 0, locals := 68 } : Room) s m #[(.ref a_ONE), (.ref a_ONE)] below meth c s₁ [] 0 0 := Stand.of_body Bd
  have e0 : s₁.heap = h0 := by rw [← hh, Bd.state]; rfl
  have N0 := Fr.nil n0
  have pre0 : ∀ t, Steps p.tables e below (s₁.setTop (mkF m 0 #[rv a_ONE, rv a_ONE] [])) t → Steps p.tables e below (s₁.setTop (entryFrame m #[(.ref a_ONE), (.ref a_ONE)] 2)) t := fun t k => castTop (ef_9 m a_ONE a_ONE) k
  obtain ⟨T1, X1, e1, st1⟩ := getF X0 hx hZ hown (host := "") (Or.inl (w_55 hw)) Via.refl e0 (Fld.ext OO.2 (fx_F_a_ONE_intCompact FF)) (g := (mkF m 1 #[rv a_ONE, rv a_ONE] [(.ref a_ONE)])) rfl rfl (hb hby d9_1)
  obtain ⟨T2, X2, e2, st2⟩ := getF X1 hx hZ hown (host := "") (Or.inl (w_55 hw)) Via.refl e1 (Fld.ext OO.2 (fx_F_a_ONE_intCompact FF)) (g := (mkF m 12 #[rv a_ONE, rv a_ONE] [(.ref a_ONE)])) rfl rfl (hb hby d9_12)
  obtain ⟨T3, X3, e3, st3⟩ := getF X2 hx hZ hown (host := "") (Or.inl (w_55 hw)) Via.refl e2 (Fld.ext OO.2 (fx_F_a_ONE_intCompact FF)) (g := (mkF m 23 #[rv a_ONE, rv a_ONE] [(.ref a_ONE)])) rfl rfl (hb hby d9_23)
  obtain ⟨T4, X4, e4, st4⟩ := getF X3 hx hZ hown (host := "") (Or.inl (w_58 hw)) Via.refl e3 (Fld.ext OO.2 (fx_F_a_ONE_scale FF)) (g := (mkF m 27 #[rv a_ONE, rv a_ONE] [(.ref a_ONE), (.long 1)])) rfl rfl (hb hby d9_27)
  obtain ⟨T5, X5, e5, st5⟩ := getF X4 hx hZ hown (host := "") (Or.inl (w_55 hw)) Via.refl e4 (Fld.ext OO.2 (fx_F_a_ONE_intCompact FF)) (g := (mkF m 31 #[rv a_ONE, rv a_ONE] [(.ref a_ONE), (.int 0), (.long 1)])) rfl rfl (hb hby d9_31)
  obtain ⟨T6, X6, e6, st6⟩ := getF X5 hx hZ hown (host := "") (Or.inl (w_58 hw)) Via.refl e5 (Fld.ext OO.2 (fx_F_a_ONE_scale FF)) (g := (mkF m 35 #[rv a_ONE, rv a_ONE] [(.ref a_ONE), (.long 1), (.int 0), (.long 1)])) rfl rfl (hb hby d9_35)
  obtain ⟨_, _, ⟨T7, L7, k7, n7⟩, -, X7, ⟨Lc7, hQ7, l7, y7, z7⟩, st7⟩ := Jvm.LawKit.callS X6 hx (y := (⟨"java/math/BigDecimal", "add", "(JIJI)Ljava/math/BigDecimal;"⟩ : MethodName)) hown (mvT hZ (w_60 hw)) (mvT hZ (w_61 hw)) (mvT hZ (w_29 hw)) (mvT hZ (w_62 hw)) (by decide) (backOf (W := 0) (rm10_0 l Z a0 hw [] a_ONE a_ZTT e_2 e_3 h0 n0 FF OO) hZ (w_62 hw) (w_29 hw) (by decide) (by decide)) (g := (mkF m 38 #[rv a_ONE, rv a_ONE] [(.int 0), (.long 1), (.int 0), (.long 1)])) rfl (by rw [hml]; rfl) (argsL := [(.long 1), (.int 0), (.long 1), (.int 0)]) (rest := []) (lenOf pd_10 rfl) rfl (by show 2 * 0 + _ ≤ _; exact Nat.le_of_eq rfl) (hb hby d9_38) (fun _ _ => ⟨rfl, e6, (by decide : 0 + 0 ≤ _), (by decide : 0 + 0 ≤ _)⟩)
  dsimp only [Pt.U, Pt.locs, Pt.cells, Pt.slots] at X7 l7 y7 z7 st7 hQ7
  subst l7 y7 z7
  obtain ⟨rfl, N7q, e7⟩ := hQ7
  have N7 := Fr.app N0 N7q
  obtain ⟨fs, hr, hrun, hended, hW, hsame⟩ := X7.leave (v := some (.ref e_2)) (fun h => by rw [Bd.returns] at h; cases h)
  refine ⟨_, _, pre0 _ ?_, hrun, hended, _, _, rfl, ?_, ⟨_, rfl⟩, hW, hsame.mono (by decide) (by decide)⟩
  · show Steps p.tables e below (s₁.setTop (mkF m 0 #[rv a_ONE, rv a_ONE] [])) _
    refine XS.aloadN X0.here hx rfl (hb hby d9_0) rfl rfl ?_
    refine st1 _ ?_
    refine X1.ldc2Long hx hown (mvT hZ (w_57 hw)) (g := (mkF m 4 #[rv a_ONE, rv a_ONE] [(.long 1)])) rfl (hb hby d9_4) _ ?_
    refine XS.lcmp X1.here hx rfl (hb hby d9_7) rfl ?_
    show Steps p.tables e below (T1.setTop (mkF m 8 #[rv a_ONE, rv a_ONE] [(.int (if (1 : Int64) > (-9223372036854775808 : Int64) then 1 else if (1 : Int64) = (-9223372036854775808 : Int64) then 0 else -1))])) _
    rw [(by decide : (if (1 : Int64) > (-9223372036854775808 : Int64) then 1 else if (1 : Int64) = (-9223372036854775808 : Int64) then 0 else -1) = (1 : Int32))]
    refine XS.ifNo X1.here hx rfl (hb hby d9_8) rfl (by decide) ?_
    refine XS.aloadN X1.here hx rfl (hb hby d9_11) rfl rfl ?_
    refine st2 _ ?_
    show Steps p.tables e below (T2.setTop (mkF m 15 #[rv a_ONE, rv a_ONE] [(.long 1)])) _
    refine X2.ldc2Long hx hown (mvT hZ (w_57 hw)) (g := (mkF m 15 #[rv a_ONE, rv a_ONE] [(.long 1)])) rfl (hb hby d9_15) _ ?_
    refine XS.lcmp X2.here hx rfl (hb hby d9_18) rfl ?_
    show Steps p.tables e below (T2.setTop (mkF m 19 #[rv a_ONE, rv a_ONE] [(.int (if (1 : Int64) > (-9223372036854775808 : Int64) then 1 else if (1 : Int64) = (-9223372036854775808 : Int64) then 0 else -1))])) _
    rw [(by decide : (if (1 : Int64) > (-9223372036854775808 : Int64) then 1 else if (1 : Int64) = (-9223372036854775808 : Int64) then 0 else -1) = (1 : Int32))]
    refine XS.ifNo X2.here hx rfl (hb hby d9_19) rfl (by decide) ?_
    refine XS.aloadN X2.here hx rfl (hb hby d9_22) rfl rfl ?_
    refine st3 _ ?_
    show Steps p.tables e below (T3.setTop (mkF m 26 #[rv a_ONE, rv a_ONE] [(.long 1)])) _
    refine XS.aloadN X3.here hx rfl (hb hby d9_26) rfl rfl ?_
    refine st4 _ ?_
    refine XS.aloadN X4.here hx rfl (hb hby d9_30) rfl rfl ?_
    refine st5 _ ?_
    show Steps p.tables e below (T5.setTop (mkF m 34 #[rv a_ONE, rv a_ONE] [(.long 1), (.int 0), (.long 1)])) _
    refine XS.aloadN X5.here hx rfl (hb hby d9_34) rfl rfl ?_
    refine st6 _ ?_
    refine st7 _ ?_
    exact retOut X7 hx Bd.returns rfl (Or.inr (Or.inr (Or.inr (Or.inr ⟨rfl, rfl, rfl⟩)))) (hb hby d9_41) hr
  · show Q9_0 Z a_ONE a_ZTT e_2 e_3 h0 n0 _ T7.heap _
    exact ⟨rfl, N7, e7⟩
def Q5_3 (Z : State) (a_ONE : Addr) (a_ZTT : Addr) (e_2 : Addr) (e_3 : Addr) (t0 : Int32) (t1 : Int32) (t2 : Int32) (t3 : Int32) (t4 : Int32) (o0 : Addr) (o1 : Addr) (o2 : Addr) (j0 : ClassId) (j1 : ClassId) (h0 : Heap) (n0 : Nat) (v : Option Value) (h : Heap) (L : List Loc) : Prop := v = none ∧ Fr n0 L ∧ Keep h0 h [o2] ∧ Arv Z h o2 j1 (.object "java/math/BigDecimal") (4 : Int32) [(.ref e_2), .null, .null, .null] .null ∧ Ovr Z j1 "java/math/BigDecimal" ∧ Exa Z h o2 "[Ljava/math/BigDecimal;"
set_option maxRecDepth 65536 in
set_option maxHeartbeats 40000000 in
theorem rm5_3 (l : Launch) (Z : State) (a0 : Array Value) (hw : ∀ d ∈ tables_1, d.before a0 Z = true) (ws : List Jvm.Cond) (a_ONE : Addr) (a_ZTT : Addr) (e_2 : Addr) (e_3 : Addr) (t0 : Int32) (t1 : Int32) (t2 : Int32) (t3 : Int32) (t4 : Int32) (o0 : Addr) (o1 : Addr) (o2 : Addr) (j0 : ClassId) (j1 : ClassId) (h0 : Heap) (n0 : Nat) (FF : Facts Z Z.heap a_ONE a_ZTT e_2 e_3) (OO : Old Z n0 h0) (f0 : Fld Z h0 o0 "com/example/deferra/deferra/crediting/DailyAmounts" "days" "[I" (.ref o1)) (f1 : Fld Z h0 o0 "com/example/deferra/deferra/crediting/DailyAmounts" "size" "I" (.int 1)) (f2 : Arv Z h0 o1 j0 .int (4 : Int32) [(.int t0), (.int t2), (.int t3), (.int t4)] (.int 0)) (f3 : Fld Z h0 o0 "com/example/deferra/deferra/crediting/DailyAmounts" "amounts" "[Ljava/math/BigDecimal;" (.ref o2)) (f4 : Arv Z h0 o2 j1 (.object "java/math/BigDecimal") (4 : Int32) [(.ref a_ONE), .null, .null, .null] .null) (f5 : Ovr Z j1 "java/math/BigDecimal") (u0 : n0 ≤ o2) (f6 : Exa Z h0 o2 "[Ljava/math/BigDecimal;") (hq0 : ¬ (t0 < t1)) (hq1 : ¬ (t1 < t0)) :
    MetFree l (⟨"com/example/deferra/deferra/crediting/DailyAmounts", "add", "(ILjava/math/BigDecimal;)V"⟩ : MethodName) (head1 (Jvm.Cond.code (⟨"com/example/deferra/deferra/crediting/DailyAmounts", "add", "(ILjava/math/BigDecimal;)V"⟩ : MethodName) prog_24_method_2_code 5 none :: ws) ({ frames := 5, cells := 0, slots := 0, locals := 83 } : Room)) (fun a U => a = #[(.ref o0), (.int t1), (.ref a_ONE)] ∧ Z.Warmed39 U.vm ∧ U.heap = h0) (fun _ _ _ _ _ => True) (fun _ U o U' => ∃ v L, o = .returned v ∧ Q5_3 Z a_ONE a_ZTT e_2 e_3 t0 t1 t2 t3 t4 o0 o1 o2 j0 j1 h0 n0 v U'.heap L ∧ FrameEnd U o U' L ({ frames := 5, cells := 0, slots := 0, locals := 83 } : Room).cells ({ frames := 5, cells := 0, slots := 0, locals := 83 } : Room).slots) := by
  refine MetFree.of_bodySF (plainFor_of_name pn_5) hisR ?_
  intro p e s m args below meth c s₁ Bd hml0 hP hK
  obtain ⟨rfl, hZ, hh⟩ := hP
  have hx := Bd.exec
  have hby := Bd.bytes
  have hml : c.maxLocals = 5 := hml0
  have hown : s.vm.findClass "com/example/deferra/deferra/crediting/DailyAmounts" = some m.cls := findClass_of_methodNamed Bd.named
  have X0 : Stand p l e ({ frames := 5, cells := 0, slots := 0, locals := 83 } : Room) s m #[(.ref o0), (.int t1), (.ref a_ONE)] below meth c s₁ [] 0 0 := Stand.of_body Bd
  have e0 : s₁.heap = h0 := by rw [← hh, Bd.state]; rfl
  have N0 := Fr.nil n0
  have pre0 : ∀ t, Steps p.tables e below (s₁.setTop (mkF m 0 #[rv o0, iv t1, rv a_ONE, .unset, .unset] [])) t → Steps p.tables e below (s₁.setTop (entryFrame m #[(.ref o0), (.int t1), (.ref a_ONE)] 5)) t := fun t k => castTop (ef_5 m o0 t1 a_ONE) k
  obtain ⟨T1, X1, e1, st1⟩ := getF X0 hx hZ hown (host := "") (Or.inl (w_10 hw)) Via.refl e0 f0 (g := (mkF m 1 #[rv o0, iv t1, rv a_ONE, .unset, .unset] [(.ref o0)])) rfl rfl (hb hby d5_1)
  obtain ⟨T2, X2, e2, st2⟩ := getF X1 hx hZ hown (host := "") (Or.inl (w_21 hw)) Via.refl e1 f1 (g := (mkF m 6 #[rv o0, iv t1, rv a_ONE, .unset, .unset] [(.ref o0), (.int 0), (.ref o1)])) rfl rfl (hb hby d5_6)
  obtain ⟨_, _, ⟨T3, L3, k3, n3⟩, -, X3, ⟨Lc3, hQ3, l3, y3, z3⟩, st3⟩ := Jvm.LawKit.callS X2 hx (y := (⟨"java/util/Arrays", "binarySearch", "([IIII)I"⟩ : MethodName)) hown (mvT hZ (w_35 hw)) (mvT hZ (w_36 hw)) (mvT hZ (w_37 hw)) (mvT hZ (w_38 hw)) (by decide) (backOf (W := 0) (rm6_3 l Z a0 hw [] a_ONE a_ZTT e_2 e_3 t0 t1 t2 t3 t4 o1 j0 h0 n0 FF OO f2 hq0 hq1) hZ (w_38 hw) (w_37 hw) (by decide) (by decide)) (g := (mkF m 10 #[rv o0, iv t1, rv a_ONE, .unset, .unset] [(.int t1), (.int 1), (.int 0), (.ref o1)])) rfl (by rw [hml]; rfl) (argsL := [(.ref o1), (.int 0), (.int 1), (.int t1)]) (rest := []) (lenOf pd_4 rfl) rfl (by show 2 * 0 + _ ≤ _; exact Nat.le_of_eq rfl) (hb hby d5_10) (fun _ _ => ⟨rfl, e2, (by decide : 0 + 0 ≤ _), (by decide : 0 + 0 ≤ _)⟩)
  dsimp only [Pt.U, Pt.locs, Pt.cells, Pt.slots] at X3 l3 y3 z3 st3 hQ3
  subst l3 y3 z3
  obtain ⟨rfl, N3q, e3⟩ := hQ3
  have N3 := Fr.app N0 N3q
  obtain ⟨T4, X4, e4, st4⟩ := getF X3 hx hZ hown (host := "") (Or.inl (w_14 hw)) Via.refl e3 f3 (g := (mkF m 19 #[rv o0, iv t1, rv a_ONE, iv 0, .unset] [(.ref o0)])) rfl rfl (hb hby d5_19)
  obtain ⟨T5, X5, e5, st5⟩ := getF X4 hx hZ hown (host := "") (Or.inl (w_14 hw)) Via.refl e4 f3 (g := (mkF m 24 #[rv o0, iv t1, rv a_ONE, iv 0, .unset] [(.ref o0), (.int 0), (.ref o2)])) rfl rfl (hb hby d5_24)
  obtain ⟨c6, r6, q6, S6, M6, H6, G6⟩ := id f4
  have i7 : ¬ ((0 : Int32) < 0 ∨ c6.slots.size ≤ ((0 : Int32)).toNatClampNeg) := inb_of S6 ⟨by decide, by decide⟩
  have y8 : c6.slots[((0 : Int32)).toNatClampNeg]? = some (.ref a_ONE) := H6 0 (by rw [S6]; decide)
  obtain ⟨cq9, kq9, q9a, q9b, q9c⟩ := isOf hZ e5 (Exa.ext OO.2 (fx_E_a_ONE FF))
  obtain ⟨_, _, ⟨T9, L9, k9, n9⟩, -, X9, ⟨Lc9, hQ9, l9, y9, z9⟩, st9⟩ := X5.virtualBack hx (y := (⟨"java/math/BigDecimal", "add", "(Ljava/math/BigDecimal;)Ljava/math/BigDecimal;"⟩ : MethodName)) (z := (⟨"java/math/BigDecimal", "add", "(Ljava/math/BigDecimal;)Ljava/math/BigDecimal;"⟩ : MethodName)) hown (mvT hZ (w_50 hw)) (mvT hZ (w_51 hw)) (notFace_of_selects (args := #[]) (mvT hZ (w_53 hw))) (mvT hZ (w_53 hw)) (mvT hZ (w_52 hw)) (by decide) (backOf (W := 2) (rm9_0 l Z a0 hw [] a_ONE a_ZTT e_2 e_3 h0 n0 FF OO) hZ (w_54 hw) (w_29 hw) (by decide) (by decide)) q9a q9c (g := (mkF m 30 #[rv o0, iv t1, rv a_ONE, iv 0, .unset] [(.ref a_ONE), (.ref a_ONE), (.int 0), (.ref o2)])) rfl (by rw [hml]; rfl) (Steps.refl _) (argsL := [(.ref a_ONE)]) (rest := [(.int 0), (.ref o2)]) (lenOf pd_11 rfl) rfl (by show 2 * 0 + _ ≤ _; exact Nat.le_of_eq rfl) (hb hby d5_30) (fun _ _ => ⟨rfl, e5, (by decide : 0 + 0 ≤ _), (by decide : 0 + 0 ≤ _)⟩)
  dsimp only [Pt.U, Pt.locs, Pt.cells, Pt.slots] at X9 l9 y9 z9 st9 hQ9
  subst l9 y9 z9
  obtain ⟨rfl, N9q, e9⟩ := hQ9
  have N9 := Fr.app N3 N9q
  obtain ⟨c10, r10, q10, S10, M10, H10, G10⟩ := id f4
  have i11 : ¬ ((0 : Int32) < 0 ∨ c10.slots.size ≤ ((0 : Int32)).toNatClampNeg) := inb_of S10 ⟨by decide, by decide⟩
  obtain ⟨T12, h12, X12, e12, W12, st12⟩ := stR X9 hx hZ e9 r10 (j := (0 : Int32)) i11 rfl (Sto.ofV r10 q10 f5 (Ins.self (Exa.ext OO.2 (fx_E_e_2 FF)))) (g := (mkF m 33 #[rv o0, iv t1, rv a_ONE, iv 0, .unset] [(.ref e_2), (.int 0), (.ref o2)])) rfl rfl (hb hby d5_33)
  have O12 := Old.wr OO W12 u0
  have KK12 : Keep h0 h12 [o2] := Keep.wr (Keep.refl h0 [o2]) W12 (Or.inl (List.mem_of_getElem? (i := 0) rfl))
  have N12 := Fr.snoc X12 N9 u0
  have F13 : Arv Z h12 o2 j1 (.object "java/math/BigDecimal") (4 : Int32) [(.ref e_2), .null, .null, .null] .null := Arv.set r10 q10 S10 M10 H10 G10 rfl W12 0 rfl (Nat.le_of_ble_eq_true rfl)
  have F14 : Exa Z h12 o2 "[Ljava/math/BigDecimal;" := (Exa.wr W12 f6)
  obtain ⟨fs, hr, hrun, hended, hW, hsame⟩ := X12.leave (v := none) (fun _ => rfl)
  refine ⟨_, _, pre0 _ ?_, hrun, hended, _, _, rfl, ?_, ⟨_, rfl⟩, hW, hsame.mono (by decide) (by decide)⟩
  · show Steps p.tables e below (s₁.setTop (mkF m 0 #[rv o0, iv t1, rv a_ONE, .unset, .unset] [])) _
    refine XS.aloadN X0.here hx rfl (hb hby d5_0) rfl rfl ?_
    refine st1 _ ?_
    refine XS.iconst X1.here hx rfl (hb hby d5_4) ?_
    refine XS.aloadN X1.here hx rfl (hb hby d5_5) rfl rfl ?_
    show Steps p.tables e below (T1.setTop (mkF m 6 #[rv o0, iv t1, rv a_ONE, .unset, .unset] [(.ref o0), (.int 0), (.ref o1)])) _
    refine st2 _ ?_
    refine XS.iloadN X2.here hx rfl (hb hby d5_9) rfl ?_
    refine st3 _ ?_
    refine XS.istoreN X3.here hx rfl (hb hby d5_13) rfl (l' := #[rv o0, iv t1, rv a_ONE, iv 0, .unset]) rfl ?_
    show Steps p.tables e below (T3.setTop (mkF m 14 #[rv o0, iv t1, rv a_ONE, iv 0, .unset] [])) _
    refine XS.iloadN X3.here hx rfl (hb hby d5_14) rfl ?_
    refine XS.ifNo X3.here hx rfl (hb hby d5_15) rfl (by decide) ?_
    refine XS.aloadN X3.here hx rfl (hb hby d5_18) rfl rfl ?_
    refine st4 _ ?_
    show Steps p.tables e below (T4.setTop (mkF m 22 #[rv o0, iv t1, rv a_ONE, iv 0, .unset] [(.ref o2)])) _
    refine XS.iloadN X4.here hx rfl (hb hby d5_22) rfl ?_
    refine XS.aloadN X4.here hx rfl (hb hby d5_23) rfl rfl ?_
    refine st5 _ ?_
    refine XS.iloadN X5.here hx rfl (hb hby d5_27) rfl ?_
    show Steps p.tables e below (T5.setTop (mkF m 28 #[rv o0, iv t1, rv a_ONE, iv 0, .unset] [(.int 0), (.ref o2), (.int 0), (.ref o2)])) _
    refine X5.aaload hx (j := (0 : Int32)) (v := (.ref a_ONE)) (by rw [e5]; exact r6.1) (State.isArrayOf_alike hZ.alike r6.2.1) rfl r6.2.2 i7 y8 (g := (mkF m 28 #[rv o0, iv t1, rv a_ONE, iv 0, .unset] [(.int 0), (.ref o2), (.int 0), (.ref o2)])) rfl rfl (hb hby d5_28) _ ?_
    refine XS.aloadN X5.here hx rfl (hb hby d5_29) rfl rfl ?_
    refine st9.trans ?_
    refine st12 _ ?_
    show Steps p.tables e below (T12.setTop (mkF m 34 #[rv o0, iv t1, rv a_ONE, iv 0, .unset] [])) _
    exact X12.returnOut hx Bd.returns (hb hby d5_34) hr
  · show Q5_3 Z a_ONE a_ZTT e_2 e_3 t0 t1 t2 t3 t4 o0 o1 o2 j0 j1 h0 n0 _ T12.heap _
    rw [e12]
    exact ⟨rfl, N12, KK12, F13, f5, F14⟩
set_option maxRecDepth 65536 in
set_option maxHeartbeats 40000000 in
theorem sg_16 {p : Program} {l : Launch} {e : Env} {s : State} {m : MethodId} {args : Array Value} {below : List Frame} {meth : Method} {c : Code} {T0 : State} {locs : List Loc} {Z : State} {a0 : Array Value} {h0 : Heap} {n0 : Nat} (hw : ∀ d ∈ tables_1, d.before a0 Z = true) (a_ONE : Addr) (a_ZTT : Addr) (e_2 : Addr) (e_3 : Addr) (t0 : Int32) (t1 : Int32) (t2 : Int32) (t3 : Int32) (t4 : Int32) (t5 : Int32) (t6 : Int32) (t7 : Int32) (o0 : Addr) (o1 : Addr) (o2 : Addr) (j0 : ClassId) (j1 : ClassId) (FF : Facts Z Z.heap a_ONE a_ZTT e_2 e_3)
    (X0 : Stand p l e room_1 s m args below meth c T0 locs 3 11) (hx : p.tables.exec = Jvm.exec) (hZ : Z.Warmed39 s.vm) (hby : c.code = code) (hml : c.maxLocals = 8) (hown : s.vm.findClass "com/example/deferra/deferra/crediting/DailyAmountsIsEmptyPinLaw" = some m.cls) (e0 : T0.heap = h0) (N0 : Fr n0 locs) (OO : Old Z n0 h0) (f0 : Fld Z h0 o0 "com/example/deferra/deferra/crediting/DailyAmounts" "days" "[I" (.ref o1)) (f1 : Fld Z h0 o0 "com/example/deferra/deferra/crediting/DailyAmounts" "size" "I" (.int 1)) (f2 : Arv Z h0 o1 j0 .int (4 : Int32) [(.int t0), (.int t2), (.int t3), (.int t4)] (.int 0)) (f3 : Fld Z h0 o0 "com/example/deferra/deferra/crediting/DailyAmounts" "amounts" "[Ljava/math/BigDecimal;" (.ref o2)) (f4 : Arv Z h0 o2 j1 (.object "java/math/BigDecimal") (4 : Int32) [(.ref a_ONE), .null, .null, .null] .null) (f5 : Ovr Z j1 "java/math/BigDecimal") (f6 : Exa Z h0 o2 "[Ljava/math/BigDecimal;") (u0 : n0 ≤ o2) (f7 : Exa Z h0 o0 "com/example/deferra/deferra/crediting/DailyAmounts") (v0 : o0 ≠ o2) (hq0 : ¬ (t0 < t1)) (hq1 : ¬ (t1 < t0)) :
    ∃ (T' : State) (h' : Heap) (lc : List Loc), Stand p l e room_1 s m args below meth c T' lc 3 11 ∧ T'.heap = h' ∧ Fr n0 lc ∧ Keep h0 h' [o2] ∧ Arv Z h' o2 j1 (.object "java/math/BigDecimal") (4 : Int32) [(.ref e_2), .null, .null, .null] .null ∧ Ovr Z j1 "java/math/BigDecimal" ∧ Exa Z h' o2 "[Ljava/math/BigDecimal;" ∧
      ∀ target, Steps p.tables e below (T'.setTop (mkF m 107 #[iv t5, iv t6, iv t1, iv t7, iv 2, rv o0, iv 1, .unset] [])) target → Steps p.tables e below (T0.setTop (mkF m 72 #[iv t5, iv t6, iv t1, iv t7, iv 2, rv o0, iv 1, .unset] [])) target := by
  obtain ⟨T1, X1, e1, st1⟩ := getS2 X0 hx hZ hown (host := "") (Or.inl (w_28 hw)) Via.refl e0 (Sta.ext OO.2 (fx_S_ONE FF)) (g := (mkF m 81 #[iv t5, iv t6, iv t1, iv t7, iv 2, rv o0, iv 1, .unset] [(.int t1), (.ref o0)])) rfl (hb hby at_81)
  obtain ⟨cq2, kq2, q2a, q2b, q2c⟩ := isOf hZ e1 f7
  obtain ⟨_, _, ⟨T2, L2, k2, n2⟩, -, X2, ⟨Lc2, hQ2, l2, y2, z2⟩, st2⟩ := X1.virtualBack hx (y := (⟨"com/example/deferra/deferra/crediting/DailyAmounts", "add", "(ILjava/math/BigDecimal;)V"⟩ : MethodName)) (z := (⟨"com/example/deferra/deferra/crediting/DailyAmounts", "add", "(ILjava/math/BigDecimal;)V"⟩ : MethodName)) hown (mvT hZ (w_30 hw)) (mvT hZ (w_31 hw)) (notFace_of_selects (args := #[]) (mvT hZ (w_33 hw))) (mvT hZ (w_33 hw)) (mvT hZ (w_32 hw)) (by decide) (backOf (W := 0) (rm5_3 l Z a0 hw [] a_ONE a_ZTT e_2 e_3 t0 t1 t2 t3 t4 o0 o1 o2 j0 j1 h0 n0 FF OO f0 f1 f2 f3 f4 f5 u0 f6 hq0 hq1) hZ (w_34 hw) (w_2 hw) (by decide) (by decide)) q2a q2c (g := (mkF m 84 #[iv t5, iv t6, iv t1, iv t7, iv 2, rv o0, iv 1, .unset] [(.ref a_ONE), (.int t1), (.ref o0)])) rfl (by rw [hml]; rfl) (Steps.refl _) (argsL := [(.int t1), (.ref a_ONE)]) (rest := []) (lenOf pd_5 rfl) rfl (by show 2 * 0 + _ ≤ _; exact Nat.le_of_eq rfl) (hb hby at_84) (fun _ _ => ⟨rfl, e1, (by decide : 3 + 0 ≤ _), (by decide : 11 + 0 ≤ _)⟩)
  dsimp only [Pt.U, Pt.locs, Pt.cells, Pt.slots] at X2 l2 y2 z2 st2 hQ2
  subst l2 y2 z2
  obtain ⟨h2, e2⟩ : ∃ z, T2.heap = z := ⟨_, rfl⟩
  rw [e2] at hQ2
  obtain ⟨rfl, N2q, K2, R2_0, R2_1, R2_2⟩ := hQ2
  have N2 := Fr.app N0 N2q
  have O2 := Old.keep OO K2 (allS u0 all0)
  have KK2 : Keep h0 h2 [o2] := Keep.trans (Keep.refl h0 [o2]) K2 (allS (Or.inl (List.mem_of_getElem? (i := 0) rfl)) all0)
  have F4 : Fld Z h2 o0 "com/example/deferra/deferra/crediting/DailyAmounts" "size" "I" (.int 1) := (Fld.keep f1 K2 (ninS v0 nin0))
  have F5 : Exa Z h2 o0 "com/example/deferra/deferra/crediting/DailyAmounts" := (Exa.keep f7 K2)
  obtain ⟨cq3, kq3, q3a, q3b, q3c⟩ := isOf hZ e2 F5
  obtain ⟨_, _, ⟨T3, L3, k3, n3⟩, -, X3, ⟨Lc3, hQ3, l3, y3, z3⟩, st3⟩ := X2.virtualBack hx (y := (⟨"com/example/deferra/deferra/crediting/DailyAmounts", "isEmpty", "()Z"⟩ : MethodName)) (z := (⟨"com/example/deferra/deferra/crediting/DailyAmounts", "isEmpty", "()Z"⟩ : MethodName)) hown (mvT hZ (w_16 hw)) (mvT hZ (w_17 hw)) (notFace_of_selects (args := #[]) (mvT hZ (w_19 hw))) (mvT hZ (w_19 hw)) (mvT hZ (w_18 hw)) (by decide) (backOf (W := 0) (rm3_1 l Z a0 hw [] a_ONE a_ZTT e_2 e_3 o0 h2 n0 FF O2 F4) hZ (w_20 hw) (w_2 hw) (by decide) (by decide)) q3a q3c (g := (mkF m 94 #[iv t5, iv t6, iv t1, iv t7, iv 2, rv o0, iv 1, .unset] [(.ref o0)])) rfl (by rw [hml]; rfl) (Steps.refl _) (argsL := []) (rest := []) (lenOf pd_1 rfl) rfl (by show 2 * 0 + _ ≤ _; exact Nat.le_of_eq rfl) (hb hby at_94) (fun _ _ => ⟨rfl, e2, (by decide : 3 + 0 ≤ _), (by decide : 11 + 0 ≤ _)⟩)
  dsimp only [Pt.U, Pt.locs, Pt.cells, Pt.slots] at X3 l3 y3 z3 st3 hQ3
  subst l3 y3 z3
  obtain ⟨rfl, N3q, e3⟩ := hQ3
  have N3 := Fr.app N2 N3q
  refine ⟨T3, h2, _, X3, e3, N3, KK2, R2_0, R2_1, R2_2, fun target kt => ?_⟩
  show Steps p.tables e below (T0.setTop (mkF m 72 #[iv t5, iv t6, iv t1, iv t7, iv 2, rv o0, iv 1, .unset] [])) _
  refine XS.iload X0.here hx rfl (hb hby at_72) rfl ?_
  refine XS.iconst X0.here hx rfl (hb hby at_74) ?_
  refine XS.icmpNo X0.here hx rfl (hb hby at_75) rfl (by decide) ?_
  refine XS.aload X0.here hx rfl (hb hby at_78) rfl rfl ?_
  show Steps p.tables e below (T0.setTop (mkF m 80 #[iv t5, iv t6, iv t1, iv t7, iv 2, rv o0, iv 1, .unset] [(.ref o0)])) _
  refine XS.iloadN X0.here hx rfl (hb hby at_80) rfl ?_
  refine st1 _ ?_
  refine st2.trans ?_
  refine XS.iload X2.here hx rfl (hb hby at_87) rfl ?_
  show Steps p.tables e below (T2.setTop (mkF m 89 #[iv t5, iv t6, iv t1, iv t7, iv 2, rv o0, iv 1, .unset] [(.int 1)])) _
  refine XS.ifNo X2.here hx rfl (hb hby at_89) rfl (by decide) ?_
  refine XS.aload X2.here hx rfl (hb hby at_92) rfl rfl ?_
  refine st3.trans ?_
  refine XS.ifNo X3.here hx rfl (hb hby at_97) rfl (by decide) ?_
  show Steps p.tables e below (T3.setTop (mkF m 100 #[iv t5, iv t6, iv t1, iv t7, iv 2, rv o0, iv 1, .unset] [])) _
  refine XS.iconst X3.here hx rfl (hb hby at_100) ?_
  refine XS.goto X3.here hx rfl (pc0 := 101) (pc' := 105) rfl (hb hby at_101) (by decide) (by decide) ?_
  refine XS.istore X3.here hx rfl (hb hby at_105) rfl (l' := #[iv t5, iv t6, iv t1, iv t7, iv 2, rv o0, iv 1, .unset]) rfl ?_
  exact kt
set_option maxRecDepth 65536 in
set_option maxHeartbeats 40000000 in
theorem sg_17 {p : Program} {l : Launch} {e : Env} {s : State} {m : MethodId} {args : Array Value} {below : List Frame} {meth : Method} {c : Code} {T0 : State} {locs : List Loc} {Z : State} {a0 : Array Value} {h0 : Heap} {n0 : Nat} (hw : ∀ d ∈ tables_1, d.before a0 Z = true) (a_ONE : Addr) (a_ZTT : Addr) (e_2 : Addr) (e_3 : Addr) (t0 : Int32) (t1 : Int32) (t2 : Int32) (t3 : Int32) (o0 : Addr) (FF : Facts Z Z.heap a_ONE a_ZTT e_2 e_3)
    (X0 : Stand p l e room_1 s m args below meth c T0 locs 3 11) (hx : p.tables.exec = Jvm.exec) (hZ : Z.Warmed39 s.vm) (hby : c.code = code) (hml : c.maxLocals = 8) (hown : s.vm.findClass "com/example/deferra/deferra/crediting/DailyAmountsIsEmptyPinLaw" = some m.cls) (e0 : T0.heap = h0) (N0 : Fr n0 locs) (OO : Old Z n0 h0) (f0 : Fld Z h0 o0 "com/example/deferra/deferra/crediting/DailyAmounts" "size" "I" (.int 1)) (f1 : Exa Z h0 o0 "com/example/deferra/deferra/crediting/DailyAmounts") :
    ∃ (T' : State) (h' : Heap) (lc : List Loc), Stand p l e room_1 s m args below meth c T' lc 3 11 ∧ T'.heap = h' ∧ Fr n0 lc ∧ Keep h0 h' [] ∧
      ∀ target, Steps p.tables e below (T'.setTop (mkF m 192 #[iv t0, iv t1, iv t2, iv t3, iv 2, rv o0, iv 1, iv 0] [(.int 1)])) target → Steps p.tables e below (T0.setTop (mkF m 142 #[iv t0, iv t1, iv t2, iv t3, iv 2, rv o0, iv 1, .unset] [])) target := by
  obtain ⟨cq1, kq1, q1a, q1b, q1c⟩ := isOf hZ e0 f1
  obtain ⟨_, _, ⟨T1, L1, k1, n1⟩, -, X1, ⟨Lc1, hQ1, l1, y1, z1⟩, st1⟩ := X0.virtualBack hx (y := (⟨"com/example/deferra/deferra/crediting/DailyAmounts", "isEmpty", "()Z"⟩ : MethodName)) (z := (⟨"com/example/deferra/deferra/crediting/DailyAmounts", "isEmpty", "()Z"⟩ : MethodName)) hown (mvT hZ (w_16 hw)) (mvT hZ (w_17 hw)) (notFace_of_selects (args := #[]) (mvT hZ (w_19 hw))) (mvT hZ (w_19 hw)) (mvT hZ (w_18 hw)) (by decide) (backOf (W := 0) (rm3_1 l Z a0 hw [] a_ONE a_ZTT e_2 e_3 o0 h0 n0 FF OO f0) hZ (w_20 hw) (w_2 hw) (by decide) (by decide)) q1a q1c (g := (mkF m 144 #[iv t0, iv t1, iv t2, iv t3, iv 2, rv o0, iv 1, .unset] [(.ref o0)])) rfl (by rw [hml]; rfl) (Steps.refl _) (argsL := []) (rest := []) (lenOf pd_1 rfl) rfl (by show 2 * 0 + _ ≤ _; exact Nat.le_of_eq rfl) (hb hby at_144) (fun _ _ => ⟨rfl, e0, (by decide : 3 + 0 ≤ _), (by decide : 11 + 0 ≤ _)⟩)
  dsimp only [Pt.U, Pt.locs, Pt.cells, Pt.slots] at X1 l1 y1 z1 st1 hQ1
  subst l1 y1 z1
  obtain ⟨rfl, N1q, e1⟩ := hQ1
  have N1 := Fr.app N0 N1q
  obtain ⟨cq2, kq2, q2a, q2b, q2c⟩ := isOf hZ e1 f1
  obtain ⟨_, _, ⟨T2, L2, k2, n2⟩, -, X2, ⟨Lc2, hQ2, l2, y2, z2⟩, st2⟩ := X1.virtualBack hx (y := (⟨"com/example/deferra/deferra/crediting/DailyAmounts", "size", "()I"⟩ : MethodName)) (z := (⟨"com/example/deferra/deferra/crediting/DailyAmounts", "size", "()I"⟩ : MethodName)) hown (mvT hZ (w_23 hw)) (mvT hZ (w_24 hw)) (notFace_of_selects (args := #[]) (mvT hZ (w_26 hw))) (mvT hZ (w_26 hw)) (mvT hZ (w_25 hw)) (by decide) (backOf (W := 1) (rm4_0 l Z a0 hw [] a_ONE a_ZTT e_2 e_3 (1 : Int32) o0 h0 n0 FF OO f0) hZ (w_27 hw) (w_2 hw) (by decide) (by decide)) q2a q2c (g := (mkF m 158 #[iv t0, iv t1, iv t2, iv t3, iv 2, rv o0, iv 1, iv 0] [(.ref o0), (.int 0)])) rfl (by rw [hml]; rfl) (Steps.refl _) (argsL := []) (rest := [(.int 0)]) (lenOf pd_2 rfl) rfl (by show 2 * 0 + _ ≤ _; exact Nat.le_of_eq rfl) (hb hby at_158) (fun _ _ => ⟨rfl, e1, (by decide : 3 + 0 ≤ _), (by decide : 11 + 0 ≤ _)⟩)
  dsimp only [Pt.U, Pt.locs, Pt.cells, Pt.slots] at X2 l2 y2 z2 st2 hQ2
  subst l2 y2 z2
  obtain ⟨rfl, N2q, e2⟩ := hQ2
  have N2 := Fr.app N1 N2q
  refine ⟨T2, h0, _, X2, e2, N2, (Keep.refl h0 []), fun target kt => ?_⟩
  show Steps p.tables e below (T0.setTop (mkF m 142 #[iv t0, iv t1, iv t2, iv t3, iv 2, rv o0, iv 1, .unset] [])) _
  refine XS.aload X0.here hx rfl (hb hby at_142) rfl rfl ?_
  refine st1.trans ?_
  refine XS.istore X1.here hx rfl (hb hby at_147) rfl (l' := #[iv t0, iv t1, iv t2, iv t3, iv 2, rv o0, iv 1, iv 0]) rfl ?_
  refine XS.iload X1.here hx rfl (hb hby at_149) rfl ?_
  show Steps p.tables e below (T1.setTop (mkF m 151 #[iv t0, iv t1, iv t2, iv t3, iv 2, rv o0, iv 1, iv 0] [(.int 1)])) _
  refine XS.ifNo X1.here hx rfl (hb hby at_151) rfl (by decide) ?_
  refine XS.iload X1.here hx rfl (hb hby at_154) rfl ?_
  refine XS.aload X1.here hx rfl (hb hby at_156) rfl rfl ?_
  refine st2.trans ?_
  show Steps p.tables e below (T2.setTop (mkF m 161 #[iv t0, iv t1, iv t2, iv t3, iv 2, rv o0, iv 1, iv 0] [(.int 1), (.int 0)])) _
  refine XS.ifYes X2.here hx rfl (pc0 := 161) (pc' := 168) rfl (hb hby at_161) rfl (by decide) (by decide) (by decide) ?_
  refine XS.iconst X2.here hx rfl (hb hby at_168) ?_
  refine XS.icmpNo X2.here hx rfl (hb hby at_169) rfl (by decide) ?_
  refine XS.iload X2.here hx rfl (hb hby at_172) rfl ?_
  show Steps p.tables e below (T2.setTop (mkF m 174 #[iv t0, iv t1, iv t2, iv t3, iv 2, rv o0, iv 1, iv 0] [(.int 0)])) _
  refine XS.iload X2.here hx rfl (hb hby at_174) rfl ?_
  refine XS.ifYes X2.here hx rfl (pc0 := 176) (pc' := 183) rfl (hb hby at_176) rfl (by decide) (by decide) (by decide) ?_
  refine XS.iconst X2.here hx rfl (hb hby at_183) ?_
  refine XS.icmpNo X2.here hx rfl (hb hby at_184) rfl (by decide) ?_
  show Steps p.tables e below (T2.setTop (mkF m 187 #[iv t0, iv t1, iv t2, iv t3, iv 2, rv o0, iv 1, iv 0] [])) _
  refine XS.iconst X2.here hx rfl (hb hby at_187) ?_
  refine XS.goto X2.here hx rfl (pc0 := 188) (pc' := 192) rfl (hb hby at_188) (by decide) (by decide) ?_
  exact kt
set_option maxRecDepth 65536 in
set_option maxHeartbeats 40000000 in
theorem rm0_4 (l : Launch) (Z : State) (a0 : Array Value) (hw : ∀ d ∈ tables_1, d.before a0 Z = true) (ws : List Jvm.Cond) (a_ONE : Addr) (a_ZTT : Addr) (e_2 : Addr) (e_3 : Addr) (p0 : Int32) (p1 : Int32) (p2 : Int32) (p3 : Int32) (h0 : Heap) (n0 : Nat) (FF : Facts Z Z.heap a_ONE a_ZTT e_2 e_3) (OO : Old Z n0 h0) (hk0 : (p0 &&& (3 : Int32)) = (2 : Int32)) (hd0 : ¬ (p1 < p2)) (hd1 : ¬ (p2 < p1)) :
    MetFree l x (head1 (Jvm.Cond.code x code maxLocals ret :: ws) room_1) (fun a U => a = #[(.int p0), (.int p1), (.int p2), (.int p3)] ∧ Z.Warmed39 U.vm ∧ U.heap = h0) (fun _ _ _ _ _ => True) (fun _ U o U' => ∃ v L, o = .returned v ∧ (v = some (.int (1 : Int32)) ∧ Fr n0 L) ∧ FrameEnd U o U' L room_1.cells room_1.slots) := by
  refine MetFree.of_bodySF (plainFor_of_name pn_0) hisR ?_
  intro p e s m args below meth c s₁ Bd hml0 hP hK
  obtain ⟨rfl, hZ, hh⟩ := hP
  have hx := Bd.exec
  have hby := Bd.bytes
  have hml : c.maxLocals = 8 := hml0
  have hown : s.vm.findClass "com/example/deferra/deferra/crediting/DailyAmountsIsEmptyPinLaw" = some m.cls := findClass_of_methodNamed Bd.named
  have X0 : Stand p l e room_1 s m #[(.int p0), (.int p1), (.int p2), (.int p3)] below meth c s₁ [] 0 0 := Stand.of_body Bd
  have e0 : s₁.heap = h0 := by rw [← hh, Bd.state]; rfl
  have N0 := Fr.nil n0
  have pre0 : ∀ t, Steps p.tables e below (s₁.setTop (mkF m 0 #[iv p0, iv p1, iv p2, iv p3, .unset, .unset, .unset, .unset] [])) t → Steps p.tables e below (s₁.setTop (entryFrame m #[(.int p0), (.int p1), (.int p2), (.int p3)] maxLocals)) t := fun t k => castTop (ef_0 m p0 p1 p2 p3) k
  obtain ⟨T1, h1, lc1, b1, b2, b3, kb2, kb3, X1, e1, N1, K1, sp1_b1, sp1_b2, sp1_b3, ne1_b1_b2, ne1_b1_b3, ne1_b2_b3, R1_0, R1_1, R1_2, R1_3, R1_4, R1_5, R1_6, R1_7, R1_8, st1⟩ := sg_10 hw a_ONE a_ZTT e_2 e_3 p0 p1 p2 p3 FF X0 hx hZ hby hml hown e0 N0 OO hk0
  have g2 : n0 ≤ b1 := Nat.le_trans (own_le OO) sp1_b1
  have g3 : n0 ≤ b2 := Nat.le_trans (own_le OO) sp1_b2
  have g4 : n0 ≤ b3 := Nat.le_trans (own_le OO) sp1_b3
  have O1 := Old.keep OO K1 all0
  obtain ⟨T5, h5, lc5, X5, e5, N5, K5, R5_0, R5_1, R5_2, R5_3, R5_4, R5_5, R5_6, R5_7, R5_8, st5⟩ := sg_11 hw a_ONE a_ZTT e_2 e_3 (0 : Int32) (0 : Int32) (0 : Int32) (0 : Int32) p1 p0 p2 p3 b1 b2 b3 kb2 kb3 FF X1 hx hZ hby hml hown e1 N1 O1 R1_1 R1_3 R1_5 R1_2 R1_7 R1_8 R1_0 R1_4 R1_6 g3 ne1_b1_b2 (Ne.symm ne1_b2_b3) g4 ne1_b1_b3 g2
  have O5 := Old.keep O1 K5 (allS g2 (allS g4 (allS g3 all0)))
  obtain ⟨T6, h6, lc6, X6, e6, N6, K6, R6_0, R6_1, R6_2, st6⟩ := sg_16 hw a_ONE a_ZTT e_2 e_3 p1 p2 (0 : Int32) (0 : Int32) (0 : Int32) p0 p1 p3 b1 b2 b3 kb2 kb3 FF X5 hx hZ hby hml hown e5 N5 O5 R5_0 R5_1 R5_7 R5_2 R5_4 R5_5 R5_6 g4 R5_3 ne1_b1_b3 hd0 hd1
  have O6 := Old.keep O5 K6 (allS g4 all0)
  obtain ⟨T7, h7, lc7, X7, e7, N7, K7, st7⟩ := sg_13 hw a_ONE a_ZTT e_2 e_3 p0 p1 p2 p3 (1 : Int32) b1 FF X6 hx hZ hby hml hown e6 N6 O6
  have O7 := Old.keep O6 K7 all0
  have F9 : Fld Z h7 b1 "com/example/deferra/deferra/crediting/DailyAmounts" "size" "I" (.int 1) := (Fld.keep (Fld.keep R5_1 K6 (ninS ne1_b1_b3 nin0)) K7 nin0)
  have F10 : Exa Z h7 b1 "com/example/deferra/deferra/crediting/DailyAmounts" := (Exa.keep (Exa.keep R5_3 K6) K7)
  obtain ⟨T8, h8, lc8, X8, e8, N8, K8, st8⟩ := sg_17 hw a_ONE a_ZTT e_2 e_3 p0 p1 p2 p3 b1 FF X7 hx hZ hby hml hown e7 N7 O7 F9 F10
  have O8 := Old.keep O7 K8 all0
  obtain ⟨fs, hr, hrun, hended, hW, hsame⟩ := X8.leave (v := some (.int 1)) (fun h => by rw [Bd.returns] at h; cases h)
  refine ⟨_, _, pre0 _ ?_, hrun, hended, _, _, rfl, ?_, ⟨_, rfl⟩, hW, hsame.mono (by decide) (by decide)⟩
  · show Steps p.tables e below (s₁.setTop (mkF m 0 #[iv p0, iv p1, iv p2, iv p3, .unset, .unset, .unset, .unset] [])) _
    refine st1 _ ?_
    show Steps p.tables e below (T1.setTop (mkF m 37 #[iv p0, iv p1, iv p2, iv p3, iv 2, rv b1, iv 1, .unset] [])) _
    refine st5 _ ?_
    show Steps p.tables e below (T5.setTop (mkF m 72 #[iv p0, iv p1, iv p2, iv p3, iv 2, rv b1, iv 1, .unset] [])) _
    refine st6 _ ?_
    show Steps p.tables e below (T6.setTop (mkF m 107 #[iv p0, iv p1, iv p2, iv p3, iv 2, rv b1, iv 1, .unset] [])) _
    refine st7 _ ?_
    show Steps p.tables e below (T7.setTop (mkF m 142 #[iv p0, iv p1, iv p2, iv p3, iv 2, rv b1, iv 1, .unset] [])) _
    refine st8 _ ?_
    exact retN X8 hx (t := .boolean) Bd.returns (by simp) (hb hby at_192) hr
  · exact ⟨rfl, N8⟩
set_option maxRecDepth 65536 in
set_option maxHeartbeats 40000000 in
theorem sg_18 {p : Program} {l : Launch} {e : Env} {s : State} {m : MethodId} {args : Array Value} {below : List Frame} {meth : Method} {c : Code} {T0 : State} {locs : List Loc} {Z : State} {a0 : Array Value} {h0 : Heap} {n0 : Nat} (hw : ∀ d ∈ tables_1, d.before a0 Z = true) (a_ONE : Addr) (a_ZTT : Addr) (e_2 : Addr) (e_3 : Addr) (t0 : Int32) (t1 : Int32) (t2 : Int32) (t3 : Int32) (FF : Facts Z Z.heap a_ONE a_ZTT e_2 e_3)
    (X0 : Stand p l e room_1 s m args below meth c T0 locs 0 0) (hx : p.tables.exec = Jvm.exec) (hZ : Z.Warmed39 s.vm) (hby : c.code = code) (hml : c.maxLocals = 8) (hown : s.vm.findClass "com/example/deferra/deferra/crediting/DailyAmountsIsEmptyPinLaw" = some m.cls) (e0 : T0.heap = h0) (N0 : Fr n0 locs) (OO : Old Z n0 h0) (hk0 : (t0 &&& (3 : Int32)) = (3 : Int32)) :
    ∃ (T' : State) (h' : Heap) (lc : List Loc) (o0 o1 o2 : Addr) (j0 j1 : ClassId), Stand p l e room_1 s m args below meth c T' lc 3 11 ∧ T'.heap = h' ∧ Fr n0 lc ∧ Keep h0 h' [] ∧ h0.size ≤ o0 ∧ h0.size ≤ o1 ∧ h0.size ≤ o2 ∧ o0 ≠ o1 ∧ o0 ≠ o2 ∧ o1 ≠ o2 ∧ Exa Z h' o0 "com/example/deferra/deferra/crediting/DailyAmounts" ∧ Fld Z h' o0 "com/example/deferra/deferra/crediting/DailyAmounts" "days" "[I" (.ref o1) ∧ Fld Z h' o0 "com/example/deferra/deferra/crediting/DailyAmounts" "amounts" "[Ljava/math/BigDecimal;" (.ref o2) ∧ Fld Z h' o0 "com/example/deferra/deferra/crediting/DailyAmounts" "size" "I" (.int 0) ∧ Exa Z h' o1 "[I" ∧ Arv Z h' o1 j0 .int (4 : Int32) [(.int 0), (.int 0), (.int 0), (.int 0)] (.int 0) ∧ Exa Z h' o2 "[Ljava/math/BigDecimal;" ∧ Arv Z h' o2 j1 (.object "java/math/BigDecimal") (4 : Int32) [.null, .null, .null, .null] .null ∧ Ovr Z j1 "java/math/BigDecimal" ∧
      ∀ target, Steps p.tables e below (T'.setTop (mkF m 37 #[iv t0, iv t1, iv t2, iv t3, iv 3, rv o0, iv 1, .unset] [])) target → Steps p.tables e below (T0.setTop (mkF m 0 #[iv t0, iv t1, iv t2, iv t3, .unset, .unset, .unset, .unset] [])) target := by
  obtain ⟨T1, h1, X1, e1, E1, A1, D1, -, st1⟩ := newO X0 hx hZ hown (w_0 hw) (w_1 hw) (w_2 hw) e0 (g := (mkF m 5 #[iv t0, iv t1, iv t2, iv t3, iv 3, .unset, .unset, .unset] [])) rfl (hb hby at_5) (by decide) (by decide)
  obtain ⟨o0, g1⟩ : ∃ z, z = h0.size := ⟨_, rfl⟩
  rw [← g1] at A1 D1 st1
  have g2 : n0 ≤ o0 := Nat.le_trans (own_le OO) (Nat.le_of_eq g1.symm)
  have s3 : h0.size ≤ o0 := Nat.le_trans ((Keep.refl h0 [])).1 (Nat.le_of_eq g1.symm)
  have O1 := Old.ext OO E1
  have KK1 : Keep h0 h1 [] := Keep.ext (Keep.refl h0 []) E1
  have F4 : Fld Z h1 o0 "com/example/deferra/deferra/crediting/DailyAmounts" "days" "[I" .null := D1 (Or.inl (w_11 hw)) (ty := (.array .int)) (by decide)
  have F5 : Fld Z h1 o0 "com/example/deferra/deferra/crediting/DailyAmounts" "amounts" "[Ljava/math/BigDecimal;" .null := D1 (Or.inl (w_15 hw)) (ty := (.array (.object "java/math/BigDecimal"))) (by decide)
  have F6 : Fld Z h1 o0 "com/example/deferra/deferra/crediting/DailyAmounts" "size" "I" (.int 0) := D1 (Or.inl (w_22 hw)) (ty := .int) (by decide)
  obtain ⟨_, _, ⟨T7, L7, k7, n7⟩, -, X7, ⟨Lc7, hQ7, l7, y7, z7⟩, st7⟩ := X1.specialBack hx (y := (⟨"com/example/deferra/deferra/crediting/DailyAmounts", "<init>", "()V"⟩ : MethodName)) rfl hown (mvT hZ (w_3 hw)) (mvT hZ (w_4 hw)) (mvT hZ (w_5 hw)) (by decide) (backOf (W := 1) (rm1_0 l Z a0 hw [] a_ONE a_ZTT e_2 e_3 (0 : Int32) o0 h1 n0 FF O1 F4 A1 g2 F5 F6) hZ (w_5 hw) (w_2 hw) (by decide) (by decide)) (g := (mkF m 9 #[iv t0, iv t1, iv t2, iv t3, iv 3, .unset, .unset, .unset] [(.ref o0), (.ref o0)])) rfl (by rw [hml]; rfl) (Steps.refl _) (a := o0) (argsL := []) (rest := [(.ref o0)]) (lenOf pd_0 rfl) rfl (by show 2 * 0 + _ ≤ _; exact Nat.le_of_eq rfl) (hb hby at_9) (fun _ _ => ⟨rfl, e1, (by decide : 1 + 2 ≤ _), (by decide : 3 + 8 ≤ _)⟩)
  dsimp only [Pt.U, Pt.locs, Pt.cells, Pt.slots] at X7 l7 y7 z7 st7 hQ7
  subst l7 y7 z7
  obtain ⟨h7, e7⟩ : ∃ z, T7.heap = z := ⟨_, rfl⟩
  rw [e7] at hQ7
  obtain ⟨o1, o2, j0, j1, rfl, N7q, K7, sp7_o1, sp7_o2, ne7_o1_o2, R7_0, R7_1, R7_2, R7_3, R7_4, R7_5, R7_6, R7_7, R7_8⟩ := hQ7
  have N7 := Fr.app N0 N7q
  have g8 : n0 ≤ o1 := Nat.le_trans (own_le O1) sp7_o1
  have s9 : h0.size ≤ o1 := Nat.le_trans (KK1).1 sp7_o1
  have g10 : n0 ≤ o2 := Nat.le_trans (own_le O1) sp7_o2
  have s11 : h0.size ≤ o2 := Nat.le_trans (KK1).1 sp7_o2
  have O7 := Old.keep O1 K7 (allS g2 all0)
  have KK7 : Keep h0 h7 [] := Keep.trans KK1 K7 (allS (Or.inr s3) all0)
  obtain ⟨cq12, kq12, q12a, q12b, q12c⟩ := isOf hZ e7 R7_6
  obtain ⟨_, _, ⟨T12, L12, k12, n12⟩, -, X12, ⟨Lc12, hQ12, l12, y12, z12⟩, st12⟩ := X7.virtualBack hx (y := (⟨"com/example/deferra/deferra/crediting/DailyAmounts", "isEmpty", "()Z"⟩ : MethodName)) (z := (⟨"com/example/deferra/deferra/crediting/DailyAmounts", "isEmpty", "()Z"⟩ : MethodName)) hown (mvT hZ (w_16 hw)) (mvT hZ (w_17 hw)) (notFace_of_selects (args := #[]) (mvT hZ (w_19 hw))) (mvT hZ (w_19 hw)) (mvT hZ (w_18 hw)) (by decide) (backOf (W := 0) (rm3_0 l Z a0 hw [] a_ONE a_ZTT e_2 e_3 o0 h7 n0 FF O7 R7_8) hZ (w_20 hw) (w_2 hw) (by decide) (by decide)) q12a q12c (g := (mkF m 16 #[iv t0, iv t1, iv t2, iv t3, iv 3, rv o0, .unset, .unset] [(.ref o0)])) rfl (by rw [hml]; rfl) (Steps.refl _) (argsL := []) (rest := []) (lenOf pd_1 rfl) rfl (by show 2 * 0 + _ ≤ _; exact Nat.le_of_eq rfl) (hb hby at_16) (fun _ _ => ⟨rfl, e7, (by decide : 3 + 0 ≤ _), (by decide : 11 + 0 ≤ _)⟩)
  dsimp only [Pt.U, Pt.locs, Pt.cells, Pt.slots] at X12 l12 y12 z12 st12 hQ12
  subst l12 y12 z12
  obtain ⟨rfl, N12q, e12⟩ := hQ12
  have N12 := Fr.app N7 N12q
  obtain ⟨cq13, kq13, q13a, q13b, q13c⟩ := isOf hZ e12 R7_6
  obtain ⟨_, _, ⟨T13, L13, k13, n13⟩, -, X13, ⟨Lc13, hQ13, l13, y13, z13⟩, st13⟩ := X12.virtualBack hx (y := (⟨"com/example/deferra/deferra/crediting/DailyAmounts", "size", "()I"⟩ : MethodName)) (z := (⟨"com/example/deferra/deferra/crediting/DailyAmounts", "size", "()I"⟩ : MethodName)) hown (mvT hZ (w_23 hw)) (mvT hZ (w_24 hw)) (notFace_of_selects (args := #[]) (mvT hZ (w_26 hw))) (mvT hZ (w_26 hw)) (mvT hZ (w_25 hw)) (by decide) (backOf (W := 0) (rm4_0 l Z a0 hw [] a_ONE a_ZTT e_2 e_3 (0 : Int32) o0 h7 n0 FF O7 R7_8) hZ (w_27 hw) (w_2 hw) (by decide) (by decide)) q13a q13c (g := (mkF m 24 #[iv t0, iv t1, iv t2, iv t3, iv 3, rv o0, .unset, .unset] [(.ref o0)])) rfl (by rw [hml]; rfl) (Steps.refl _) (argsL := []) (rest := []) (lenOf pd_2 rfl) rfl (by show 2 * 0 + _ ≤ _; exact Nat.le_of_eq rfl) (hb hby at_24) (fun _ _ => ⟨rfl, e12, (by decide : 3 + 0 ≤ _), (by decide : 11 + 0 ≤ _)⟩)
  dsimp only [Pt.U, Pt.locs, Pt.cells, Pt.slots] at X13 l13 y13 z13 st13 hQ13
  subst l13 y13 z13
  obtain ⟨rfl, N13q, e13⟩ := hQ13
  have N13 := Fr.app N12 N13q
  have ne14 : o0 ≠ o1 := Nat.ne_of_lt (Nat.lt_of_lt_of_le (A1).lt sp7_o1)
  have ne15 : o0 ≠ o2 := Nat.ne_of_lt (Nat.lt_of_lt_of_le (A1).lt sp7_o2)
  refine ⟨T13, h7, _, o0, o1, o2, j0, j1, X13, e13, N13, KK7, s3, s9, s11, ne14, ne15, ne7_o1_o2, R7_6, R7_5, R7_7, R7_8, R7_0, R7_1, R7_2, R7_3, R7_4, fun target kt => ?_⟩
  show Steps p.tables e below (T0.setTop (mkF m 0 #[iv t0, iv t1, iv t2, iv t3, .unset, .unset, .unset, .unset] [])) _
  refine XS.iloadN X0.here hx rfl (hb hby at_0) rfl ?_
  refine XS.iconst X0.here hx rfl (hb hby at_1) ?_
  refine XS.iand X0.here hx rfl (hb hby at_2) rfl ?_
  show Steps p.tables e below (T0.setTop (mkF m 3 #[iv t0, iv t1, iv t2, iv t3, .unset, .unset, .unset, .unset] [(.int (t0 &&& (3 : Int32)))])) _
  rw [hk0]
  refine XS.istore X0.here hx rfl (hb hby at_3) rfl (l' := #[iv t0, iv t1, iv t2, iv t3, iv 3, .unset, .unset, .unset]) rfl ?_
  refine st1 _ ?_
  refine XS.dup X1.here hx rfl (hb hby at_8) rfl rfl ?_
  show Steps p.tables e below (T1.setTop (mkF m 9 #[iv t0, iv t1, iv t2, iv t3, iv 3, .unset, .unset, .unset] [(.ref o0), (.ref o0)])) _
  refine st7.trans ?_
  refine XS.astore X7.here hx rfl (hb hby at_12) rfl rfl (l' := #[iv t0, iv t1, iv t2, iv t3, iv 3, rv o0, .unset, .unset]) rfl ?_
  refine XS.aload X7.here hx rfl (hb hby at_14) rfl rfl ?_
  refine st12.trans ?_
  show Steps p.tables e below (T12.setTop (mkF m 19 #[iv t0, iv t1, iv t2, iv t3, iv 3, rv o0, .unset, .unset] [(.int 1)])) _
  refine XS.ifNo X12.here hx rfl (hb hby at_19) rfl (by decide) ?_
  refine XS.aload X12.here hx rfl (hb hby at_22) rfl rfl ?_
  refine st13.trans ?_
  show Steps p.tables e below (T13.setTop (mkF m 27 #[iv t0, iv t1, iv t2, iv t3, iv 3, rv o0, .unset, .unset] [(.int 0)])) _
  refine XS.ifNo X13.here hx rfl (hb hby at_27) rfl (by decide) ?_
  refine XS.iconst X13.here hx rfl (hb hby at_30) ?_
  refine XS.goto X13.here hx rfl (pc0 := 31) (pc' := 35) rfl (hb hby at_31) (by decide) (by decide) ?_
  refine XS.istore X13.here hx rfl (hb hby at_35) rfl (l' := #[iv t0, iv t1, iv t2, iv t3, iv 3, rv o0, iv 1, .unset]) rfl ?_
  exact kt
set_option maxRecDepth 65536 in
set_option maxHeartbeats 40000000 in
theorem sg_19 {p : Program} {l : Launch} {e : Env} {s : State} {m : MethodId} {args : Array Value} {below : List Frame} {meth : Method} {c : Code} {T0 : State} {locs : List Loc} {Z : State} {a0 : Array Value} {h0 : Heap} {n0 : Nat} (hw : ∀ d ∈ tables_1, d.before a0 Z = true) (a_ONE : Addr) (a_ZTT : Addr) (e_2 : Addr) (e_3 : Addr) (t0 : Int32) (t1 : Int32) (t2 : Int32) (t3 : Int32) (t4 : Int32) (t5 : Int32) (t6 : Int32) (t7 : Int32) (o0 : Addr) (o1 : Addr) (o2 : Addr) (j0 : ClassId) (j1 : ClassId) (FF : Facts Z Z.heap a_ONE a_ZTT e_2 e_3)
    (X0 : Stand p l e room_1 s m args below meth c T0 locs 3 11) (hx : p.tables.exec = Jvm.exec) (hZ : Z.Warmed39 s.vm) (hby : c.code = code) (hml : c.maxLocals = 8) (hown : s.vm.findClass "com/example/deferra/deferra/crediting/DailyAmountsIsEmptyPinLaw" = some m.cls) (e0 : T0.heap = h0) (N0 : Fr n0 locs) (OO : Old Z n0 h0) (f0 : Fld Z h0 o0 "com/example/deferra/deferra/crediting/DailyAmounts" "days" "[I" (.ref o1)) (f1 : Fld Z h0 o0 "com/example/deferra/deferra/crediting/DailyAmounts" "size" "I" (.int 0)) (f2 : Arv Z h0 o1 j0 .int (4 : Int32) [(.int t0), (.int t1), (.int t2), (.int t3)] (.int 0)) (f3 : Fld Z h0 o0 "com/example/deferra/deferra/crediting/DailyAmounts" "amounts" "[Ljava/math/BigDecimal;" (.ref o2)) (f4 : Arv Z h0 o2 j1 (.object "java/math/BigDecimal") (4 : Int32) [.null, .null, .null, .null] .null) (f5 : Ovr Z j1 "java/math/BigDecimal") (f6 : Exa Z h0 o0 "com/example/deferra/deferra/crediting/DailyAmounts") (f7 : Exa Z h0 o1 "[I") (f8 : Exa Z h0 o2 "[Ljava/math/BigDecimal;") (u0 : n0 ≤ o1) (v0 : o0 ≠ o1) (v1 : o2 ≠ o1) (u1 : n0 ≤ o2) (v2 : o0 ≠ o2) (u2 : n0 ≤ o0) :
    ∃ (T' : State) (h' : Heap) (lc : List Loc), Stand p l e room_1 s m args below meth c T' lc 3 11 ∧ T'.heap = h' ∧ Fr n0 lc ∧ Keep h0 h' [o0, o2, o1] ∧ Fld Z h' o0 "com/example/deferra/deferra/crediting/DailyAmounts" "days" "[I" (.ref o1) ∧ Fld Z h' o0 "com/example/deferra/deferra/crediting/DailyAmounts" "size" "I" (.int 1) ∧ Fld Z h' o0 "com/example/deferra/deferra/crediting/DailyAmounts" "amounts" "[Ljava/math/BigDecimal;" (.ref o2) ∧ Exa Z h' o0 "com/example/deferra/deferra/crediting/DailyAmounts" ∧ Arv Z h' o2 j1 (.object "java/math/BigDecimal") (4 : Int32) [(.ref a_ONE), .null, .null, .null] .null ∧ Ovr Z j1 "java/math/BigDecimal" ∧ Exa Z h' o2 "[Ljava/math/BigDecimal;" ∧ Arv Z h' o1 j0 .int (4 : Int32) [(.int t4), (.int t1), (.int t2), (.int t3)] (.int 0) ∧ Exa Z h' o1 "[I" ∧
      ∀ target, Steps p.tables e below (T'.setTop (mkF m 72 #[iv t5, iv t4, iv t6, iv t7, iv 3, rv o0, iv 1, .unset] [])) target → Steps p.tables e below (T0.setTop (mkF m 37 #[iv t5, iv t4, iv t6, iv t7, iv 3, rv o0, iv 1, .unset] [])) target := by
  obtain ⟨T1, X1, e1, st1⟩ := getS2 X0 hx hZ hown (host := "") (Or.inl (w_28 hw)) Via.refl e0 (Sta.ext OO.2 (fx_S_ONE FF)) (g := (mkF m 46 #[iv t5, iv t4, iv t6, iv t7, iv 3, rv o0, iv 1, .unset] [(.int t4), (.ref o0)])) rfl (hb hby at_46)
  obtain ⟨cq2, kq2, q2a, q2b, q2c⟩ := isOf hZ e1 f6
  obtain ⟨_, _, ⟨T2, L2, k2, n2⟩, -, X2, ⟨Lc2, hQ2, l2, y2, z2⟩, st2⟩ := X1.virtualBack hx (y := (⟨"com/example/deferra/deferra/crediting/DailyAmounts", "add", "(ILjava/math/BigDecimal;)V"⟩ : MethodName)) (z := (⟨"com/example/deferra/deferra/crediting/DailyAmounts", "add", "(ILjava/math/BigDecimal;)V"⟩ : MethodName)) hown (mvT hZ (w_30 hw)) (mvT hZ (w_31 hw)) (notFace_of_selects (args := #[]) (mvT hZ (w_33 hw))) (mvT hZ (w_33 hw)) (mvT hZ (w_32 hw)) (by decide) (backOf (W := 0) (rm5_0 l Z a0 hw [] a_ONE a_ZTT e_2 e_3 t0 t1 t2 t3 t4 o0 o1 o2 j0 j1 h0 n0 FF OO f0 f1 f2 u0 f3 v0 f4 v1 u1 v2 f5 f6 u2 f7 f8) hZ (w_34 hw) (w_2 hw) (by decide) (by decide)) q2a q2c (g := (mkF m 49 #[iv t5, iv t4, iv t6, iv t7, iv 3, rv o0, iv 1, .unset] [(.ref a_ONE), (.int t4), (.ref o0)])) rfl (by rw [hml]; rfl) (Steps.refl _) (argsL := [(.int t4), (.ref a_ONE)]) (rest := []) (lenOf pd_5 rfl) rfl (by show 2 * 0 + _ ≤ _; exact Nat.le_of_eq rfl) (hb hby at_49) (fun _ _ => ⟨rfl, e1, (by decide : 3 + 0 ≤ _), (by decide : 11 + 0 ≤ _)⟩)
  dsimp only [Pt.U, Pt.locs, Pt.cells, Pt.slots] at X2 l2 y2 z2 st2 hQ2
  subst l2 y2 z2
  obtain ⟨h2, e2⟩ : ∃ z, T2.heap = z := ⟨_, rfl⟩
  rw [e2] at hQ2
  obtain ⟨rfl, N2q, K2, R2_0, R2_1, R2_2, R2_3, R2_4, R2_5, R2_6, R2_7, R2_8⟩ := hQ2
  have N2 := Fr.app N0 N2q
  have O2 := Old.keep OO K2 (allS u0 (allS u1 (allS u2 all0)))
  have KK2 : Keep h0 h2 [o0, o2, o1] := Keep.trans (Keep.refl h0 [o0, o2, o1]) K2 (allS (Or.inl (List.mem_of_getElem? (i := 2) rfl)) (allS (Or.inl (List.mem_of_getElem? (i := 1) rfl)) (allS (Or.inl (List.mem_of_getElem? (i := 0) rfl)) all0)))
  obtain ⟨cq3, kq3, q3a, q3b, q3c⟩ := isOf hZ e2 R2_8
  obtain ⟨_, _, ⟨T3, L3, k3, n3⟩, -, X3, ⟨Lc3, hQ3, l3, y3, z3⟩, st3⟩ := X2.virtualBack hx (y := (⟨"com/example/deferra/deferra/crediting/DailyAmounts", "isEmpty", "()Z"⟩ : MethodName)) (z := (⟨"com/example/deferra/deferra/crediting/DailyAmounts", "isEmpty", "()Z"⟩ : MethodName)) hown (mvT hZ (w_16 hw)) (mvT hZ (w_17 hw)) (notFace_of_selects (args := #[]) (mvT hZ (w_19 hw))) (mvT hZ (w_19 hw)) (mvT hZ (w_18 hw)) (by decide) (backOf (W := 0) (rm3_1 l Z a0 hw [] a_ONE a_ZTT e_2 e_3 o0 h2 n0 FF O2 R2_6) hZ (w_20 hw) (w_2 hw) (by decide) (by decide)) q3a q3c (g := (mkF m 59 #[iv t5, iv t4, iv t6, iv t7, iv 3, rv o0, iv 1, .unset] [(.ref o0)])) rfl (by rw [hml]; rfl) (Steps.refl _) (argsL := []) (rest := []) (lenOf pd_1 rfl) rfl (by show 2 * 0 + _ ≤ _; exact Nat.le_of_eq rfl) (hb hby at_59) (fun _ _ => ⟨rfl, e2, (by decide : 3 + 0 ≤ _), (by decide : 11 + 0 ≤ _)⟩)
  dsimp only [Pt.U, Pt.locs, Pt.cells, Pt.slots] at X3 l3 y3 z3 st3 hQ3
  subst l3 y3 z3
  obtain ⟨rfl, N3q, e3⟩ := hQ3
  have N3 := Fr.app N2 N3q
  refine ⟨T3, h2, _, X3, e3, N3, KK2, R2_5, R2_6, R2_7, R2_8, R2_2, R2_3, R2_4, R2_0, R2_1, fun target kt => ?_⟩
  show Steps p.tables e below (T0.setTop (mkF m 37 #[iv t5, iv t4, iv t6, iv t7, iv 3, rv o0, iv 1, .unset] [])) _
  refine XS.iload X0.here hx rfl (hb hby at_37) rfl ?_
  refine XS.iconst X0.here hx rfl (hb hby at_39) ?_
  refine XS.icmpNo X0.here hx rfl (hb hby at_40) rfl (by decide) ?_
  refine XS.aload X0.here hx rfl (hb hby at_43) rfl rfl ?_
  show Steps p.tables e below (T0.setTop (mkF m 45 #[iv t5, iv t4, iv t6, iv t7, iv 3, rv o0, iv 1, .unset] [(.ref o0)])) _
  refine XS.iloadN X0.here hx rfl (hb hby at_45) rfl ?_
  refine st1 _ ?_
  refine st2.trans ?_
  refine XS.iload X2.here hx rfl (hb hby at_52) rfl ?_
  show Steps p.tables e below (T2.setTop (mkF m 54 #[iv t5, iv t4, iv t6, iv t7, iv 3, rv o0, iv 1, .unset] [(.int 1)])) _
  refine XS.ifNo X2.here hx rfl (hb hby at_54) rfl (by decide) ?_
  refine XS.aload X2.here hx rfl (hb hby at_57) rfl rfl ?_
  refine st3.trans ?_
  refine XS.ifNo X3.here hx rfl (hb hby at_62) rfl (by decide) ?_
  show Steps p.tables e below (T3.setTop (mkF m 65 #[iv t5, iv t4, iv t6, iv t7, iv 3, rv o0, iv 1, .unset] [])) _
  refine XS.iconst X3.here hx rfl (hb hby at_65) ?_
  refine XS.goto X3.here hx rfl (pc0 := 66) (pc' := 70) rfl (hb hby at_66) (by decide) (by decide) ?_
  refine XS.istore X3.here hx rfl (hb hby at_70) rfl (l' := #[iv t5, iv t4, iv t6, iv t7, iv 3, rv o0, iv 1, .unset]) rfl ?_
  exact kt
set_option maxRecDepth 65536 in
set_option maxHeartbeats 40000000 in
theorem sg_20 {p : Program} {l : Launch} {e : Env} {s : State} {m : MethodId} {args : Array Value} {below : List Frame} {meth : Method} {c : Code} {T0 : State} {locs : List Loc} {Z : State} {a0 : Array Value} {h0 : Heap} {n0 : Nat} (hw : ∀ d ∈ tables_1, d.before a0 Z = true) (a_ONE : Addr) (a_ZTT : Addr) (e_2 : Addr) (e_3 : Addr) (t0 : Int32) (t1 : Int32) (t2 : Int32) (t3 : Int32) (t4 : Int32) (t5 : Int32) (t6 : Int32) (t7 : Int32) (o0 : Addr) (o1 : Addr) (o2 : Addr) (j0 : ClassId) (j1 : ClassId) (FF : Facts Z Z.heap a_ONE a_ZTT e_2 e_3)
    (X0 : Stand p l e room_1 s m args below meth c T0 locs 3 11) (hx : p.tables.exec = Jvm.exec) (hZ : Z.Warmed39 s.vm) (hby : c.code = code) (hml : c.maxLocals = 8) (hown : s.vm.findClass "com/example/deferra/deferra/crediting/DailyAmountsIsEmptyPinLaw" = some m.cls) (e0 : T0.heap = h0) (N0 : Fr n0 locs) (OO : Old Z n0 h0) (f0 : Fld Z h0 o0 "com/example/deferra/deferra/crediting/DailyAmounts" "days" "[I" (.ref o1)) (f1 : Fld Z h0 o0 "com/example/deferra/deferra/crediting/DailyAmounts" "size" "I" (.int 1)) (f2 : Arv Z h0 o1 j0 .int (4 : Int32) [(.int t0), (.int t2), (.int t3), (.int t4)] (.int 0)) (f3 : Fld Z h0 o0 "com/example/deferra/deferra/crediting/DailyAmounts" "amounts" "[Ljava/math/BigDecimal;" (.ref o2)) (f4 : Arv Z h0 o2 j1 (.object "java/math/BigDecimal") (4 : Int32) [(.ref a_ONE), .null, .null, .null] .null) (f5 : Ovr Z j1 "java/math/BigDecimal") (f6 : Exa Z h0 o0 "com/example/deferra/deferra/crediting/DailyAmounts") (f7 : Exa Z h0 o1 "[I") (f8 : Exa Z h0 o2 "[Ljava/math/BigDecimal;") (u0 : n0 ≤ o1) (v0 : o0 ≠ o1) (v1 : o2 ≠ o1) (u1 : n0 ≤ o2) (v2 : o0 ≠ o2) (u2 : n0 ≤ o0) (hq0 : t0 < t1) :
    ∃ (T' : State) (h' : Heap) (lc : List Loc), Stand p l e room_1 s m args below meth c T' lc 3 11 ∧ T'.heap = h' ∧ Fr n0 lc ∧ Keep h0 h' [o0, o2, o1] ∧ Fld Z h' o0 "com/example/deferra/deferra/crediting/DailyAmounts" "days" "[I" (.ref o1) ∧ Fld Z h' o0 "com/example/deferra/deferra/crediting/DailyAmounts" "size" "I" (.int 2) ∧ Fld Z h' o0 "com/example/deferra/deferra/crediting/DailyAmounts" "amounts" "[Ljava/math/BigDecimal;" (.ref o2) ∧ Exa Z h' o0 "com/example/deferra/deferra/crediting/DailyAmounts" ∧ Arv Z h' o2 j1 (.object "java/math/BigDecimal") (4 : Int32) [(.ref a_ONE), (.ref a_ONE), .null, .null] .null ∧ Ovr Z j1 "java/math/BigDecimal" ∧ Exa Z h' o2 "[Ljava/math/BigDecimal;" ∧ Arv Z h' o1 j0 .int (4 : Int32) [(.int t0), (.int t1), (.int t3), (.int t4)] (.int 0) ∧ Exa Z h' o1 "[I" ∧
      ∀ target, Steps p.tables e below (T'.setTop (mkF m 107 #[iv t5, iv t6, iv t1, iv t7, iv 3, rv o0, iv 1, .unset] [])) target → Steps p.tables e below (T0.setTop (mkF m 72 #[iv t5, iv t6, iv t1, iv t7, iv 3, rv o0, iv 1, .unset] [])) target := by
  obtain ⟨T1, X1, e1, st1⟩ := getS2 X0 hx hZ hown (host := "") (Or.inl (w_28 hw)) Via.refl e0 (Sta.ext OO.2 (fx_S_ONE FF)) (g := (mkF m 81 #[iv t5, iv t6, iv t1, iv t7, iv 3, rv o0, iv 1, .unset] [(.int t1), (.ref o0)])) rfl (hb hby at_81)
  obtain ⟨cq2, kq2, q2a, q2b, q2c⟩ := isOf hZ e1 f6
  obtain ⟨_, _, ⟨T2, L2, k2, n2⟩, -, X2, ⟨Lc2, hQ2, l2, y2, z2⟩, st2⟩ := X1.virtualBack hx (y := (⟨"com/example/deferra/deferra/crediting/DailyAmounts", "add", "(ILjava/math/BigDecimal;)V"⟩ : MethodName)) (z := (⟨"com/example/deferra/deferra/crediting/DailyAmounts", "add", "(ILjava/math/BigDecimal;)V"⟩ : MethodName)) hown (mvT hZ (w_30 hw)) (mvT hZ (w_31 hw)) (notFace_of_selects (args := #[]) (mvT hZ (w_33 hw))) (mvT hZ (w_33 hw)) (mvT hZ (w_32 hw)) (by decide) (backOf (W := 0) (rm5_1 l Z a0 hw [] a_ONE a_ZTT e_2 e_3 t0 t1 t2 t3 t4 o0 o1 o2 j0 j1 h0 n0 FF OO f0 f1 f2 u0 f3 v0 f4 v1 u1 v2 f5 f6 u2 f7 f8 hq0) hZ (w_34 hw) (w_2 hw) (by decide) (by decide)) q2a q2c (g := (mkF m 84 #[iv t5, iv t6, iv t1, iv t7, iv 3, rv o0, iv 1, .unset] [(.ref a_ONE), (.int t1), (.ref o0)])) rfl (by rw [hml]; rfl) (Steps.refl _) (argsL := [(.int t1), (.ref a_ONE)]) (rest := []) (lenOf pd_5 rfl) rfl (by show 2 * 0 + _ ≤ _; exact Nat.le_of_eq rfl) (hb hby at_84) (fun _ _ => ⟨rfl, e1, (by decide : 3 + 0 ≤ _), (by decide : 11 + 0 ≤ _)⟩)
  dsimp only [Pt.U, Pt.locs, Pt.cells, Pt.slots] at X2 l2 y2 z2 st2 hQ2
  subst l2 y2 z2
  obtain ⟨h2, e2⟩ : ∃ z, T2.heap = z := ⟨_, rfl⟩
  rw [e2] at hQ2
  obtain ⟨rfl, N2q, K2, R2_0, R2_1, R2_2, R2_3, R2_4, R2_5, R2_6, R2_7, R2_8⟩ := hQ2
  have N2 := Fr.app N0 N2q
  have O2 := Old.keep OO K2 (allS u0 (allS u1 (allS u2 all0)))
  have KK2 : Keep h0 h2 [o0, o2, o1] := Keep.trans (Keep.refl h0 [o0, o2, o1]) K2 (allS (Or.inl (List.mem_of_getElem? (i := 2) rfl)) (allS (Or.inl (List.mem_of_getElem? (i := 1) rfl)) (allS (Or.inl (List.mem_of_getElem? (i := 0) rfl)) all0)))
  obtain ⟨cq3, kq3, q3a, q3b, q3c⟩ := isOf hZ e2 R2_8
  obtain ⟨_, _, ⟨T3, L3, k3, n3⟩, -, X3, ⟨Lc3, hQ3, l3, y3, z3⟩, st3⟩ := X2.virtualBack hx (y := (⟨"com/example/deferra/deferra/crediting/DailyAmounts", "isEmpty", "()Z"⟩ : MethodName)) (z := (⟨"com/example/deferra/deferra/crediting/DailyAmounts", "isEmpty", "()Z"⟩ : MethodName)) hown (mvT hZ (w_16 hw)) (mvT hZ (w_17 hw)) (notFace_of_selects (args := #[]) (mvT hZ (w_19 hw))) (mvT hZ (w_19 hw)) (mvT hZ (w_18 hw)) (by decide) (backOf (W := 0) (rm3_2 l Z a0 hw [] a_ONE a_ZTT e_2 e_3 o0 h2 n0 FF O2 R2_6) hZ (w_20 hw) (w_2 hw) (by decide) (by decide)) q3a q3c (g := (mkF m 94 #[iv t5, iv t6, iv t1, iv t7, iv 3, rv o0, iv 1, .unset] [(.ref o0)])) rfl (by rw [hml]; rfl) (Steps.refl _) (argsL := []) (rest := []) (lenOf pd_1 rfl) rfl (by show 2 * 0 + _ ≤ _; exact Nat.le_of_eq rfl) (hb hby at_94) (fun _ _ => ⟨rfl, e2, (by decide : 3 + 0 ≤ _), (by decide : 11 + 0 ≤ _)⟩)
  dsimp only [Pt.U, Pt.locs, Pt.cells, Pt.slots] at X3 l3 y3 z3 st3 hQ3
  subst l3 y3 z3
  obtain ⟨rfl, N3q, e3⟩ := hQ3
  have N3 := Fr.app N2 N3q
  refine ⟨T3, h2, _, X3, e3, N3, KK2, R2_5, R2_6, R2_7, R2_8, R2_2, R2_3, R2_4, R2_0, R2_1, fun target kt => ?_⟩
  show Steps p.tables e below (T0.setTop (mkF m 72 #[iv t5, iv t6, iv t1, iv t7, iv 3, rv o0, iv 1, .unset] [])) _
  refine XS.iload X0.here hx rfl (hb hby at_72) rfl ?_
  refine XS.iconst X0.here hx rfl (hb hby at_74) ?_
  refine XS.icmpNo X0.here hx rfl (hb hby at_75) rfl (by decide) ?_
  refine XS.aload X0.here hx rfl (hb hby at_78) rfl rfl ?_
  show Steps p.tables e below (T0.setTop (mkF m 80 #[iv t5, iv t6, iv t1, iv t7, iv 3, rv o0, iv 1, .unset] [(.ref o0)])) _
  refine XS.iloadN X0.here hx rfl (hb hby at_80) rfl ?_
  refine st1 _ ?_
  refine st2.trans ?_
  refine XS.iload X2.here hx rfl (hb hby at_87) rfl ?_
  show Steps p.tables e below (T2.setTop (mkF m 89 #[iv t5, iv t6, iv t1, iv t7, iv 3, rv o0, iv 1, .unset] [(.int 1)])) _
  refine XS.ifNo X2.here hx rfl (hb hby at_89) rfl (by decide) ?_
  refine XS.aload X2.here hx rfl (hb hby at_92) rfl rfl ?_
  refine st3.trans ?_
  refine XS.ifNo X3.here hx rfl (hb hby at_97) rfl (by decide) ?_
  show Steps p.tables e below (T3.setTop (mkF m 100 #[iv t5, iv t6, iv t1, iv t7, iv 3, rv o0, iv 1, .unset] [])) _
  refine XS.iconst X3.here hx rfl (hb hby at_100) ?_
  refine XS.goto X3.here hx rfl (pc0 := 101) (pc' := 105) rfl (hb hby at_101) (by decide) (by decide) ?_
  refine XS.istore X3.here hx rfl (hb hby at_105) rfl (l' := #[iv t5, iv t6, iv t1, iv t7, iv 3, rv o0, iv 1, .unset]) rfl ?_
  exact kt
def Q7_2 (Z : State) (a_ONE : Addr) (a_ZTT : Addr) (e_2 : Addr) (e_3 : Addr) (h0 : Heap) (n0 : Nat) (v : Option Value) (h : Heap) (L : List Loc) : Prop := v = none ∧ Fr n0 L ∧ h = h0
set_option maxRecDepth 65536 in
set_option maxHeartbeats 40000000 in
theorem rm7_2 (l : Launch) (Z : State) (a0 : Array Value) (hw : ∀ d ∈ tables_1, d.before a0 Z = true) (ws : List Jvm.Cond) (a_ONE : Addr) (a_ZTT : Addr) (e_2 : Addr) (e_3 : Addr) (h0 : Heap) (n0 : Nat) (FF : Facts Z Z.heap a_ONE a_ZTT e_2 e_3) (OO : Old Z n0 h0) :
    MetFree l (⟨"java/util/Arrays", "rangeCheck", "(III)V"⟩ : MethodName) (head1 (Jvm.Cond.code (⟨"java/util/Arrays", "rangeCheck", "(III)V"⟩ : MethodName) jdk_65_method_30_code 3 none :: ws) ({ frames := 0, cells := 0, slots := 0, locals := 0 } : Room)) (fun a U => a = #[(.int 4), (.int 0), (.int 2)] ∧ Z.Warmed39 U.vm ∧ U.heap = h0) (fun _ _ _ _ _ => True) (fun _ U o U' => ∃ v L, o = .returned v ∧ Q7_2 Z a_ONE a_ZTT e_2 e_3 h0 n0 v U'.heap L ∧ FrameEnd U o U' L ({ frames := 0, cells := 0, slots := 0, locals := 0 } : Room).cells ({ frames := 0, cells := 0, slots := 0, locals := 0 } : Room).slots) := by
  refine MetFree.of_bodySF (plainFor_of_name pn_7) hisR ?_
  intro p e s m args below meth c s₁ Bd hml0 hP hK
  obtain ⟨rfl, hZ, hh⟩ := hP
  have hx := Bd.exec
  have hby := Bd.bytes
  have hml : c.maxLocals = 3 := hml0
  have hown : s.vm.findClass "java/util/Arrays" = some m.cls := findClass_of_methodNamed Bd.named
  have X0 : Stand p l e ({ frames := 0, cells := 0, slots := 0, locals := 0 } : Room) s m #[(.int 4), (.int 0), (.int 2)] below meth c s₁ [] 0 0 := Stand.of_body Bd
  have e0 : s₁.heap = h0 := by rw [← hh, Bd.state]; rfl
  have N0 := Fr.nil n0
  have pre0 : ∀ t, Steps p.tables e below (s₁.setTop (mkF m 0 #[iv 4, iv 0, iv 2] [])) t → Steps p.tables e below (s₁.setTop (entryFrame m #[(.int 4), (.int 0), (.int 2)] 3)) t := fun t k => castTop (ef_7 m 4 0 2) k
  obtain ⟨fs, hr, hrun, hended, hW, hsame⟩ := X0.leave (v := none) (fun _ => rfl)
  refine ⟨_, _, pre0 _ ?_, hrun, hended, _, _, rfl, ?_, ⟨_, rfl⟩, hW, hsame.mono (by decide) (by decide)⟩
  · show Steps p.tables e below (s₁.setTop (mkF m 0 #[iv 4, iv 0, iv 2] [])) _
    refine XS.iloadN X0.here hx rfl (hb hby d7_0) rfl ?_
    refine XS.iloadN X0.here hx rfl (hb hby d7_1) rfl ?_
    refine XS.icmpYes X0.here hx rfl (pc0 := 2) (pc' := 46) rfl (hb hby d7_2) rfl (by decide) (by decide) (by decide) ?_
    refine XS.iloadN X0.here hx rfl (hb hby d7_46) rfl ?_
    show Steps p.tables e below (s₁.setTop (mkF m 47 #[iv 4, iv 0, iv 2] [(.int 0)])) _
    refine XS.ifYes X0.here hx rfl (pc0 := 47) (pc' := 59) rfl (hb hby d7_47) rfl (by decide) (by decide) (by decide) ?_
    refine XS.iloadN X0.here hx rfl (hb hby d7_59) rfl ?_
    refine XS.iloadN X0.here hx rfl (hb hby d7_60) rfl ?_
    refine XS.icmpYes X0.here hx rfl (pc0 := 61) (pc' := 73) rfl (hb hby d7_61) rfl (by decide) (by decide) (by decide) ?_
    show Steps p.tables e below (s₁.setTop (mkF m 73 #[iv 4, iv 0, iv 2] [])) _
    exact X0.returnOut hx Bd.returns (hb hby d7_73) hr
  · show Q7_2 Z a_ONE a_ZTT e_2 e_3 h0 n0 _ s₁.heap _
    exact ⟨rfl, N0, e0⟩
def Q8_4 (Z : State) (a_ONE : Addr) (a_ZTT : Addr) (e_2 : Addr) (e_3 : Addr) (t0 : Int32) (t1 : Int32) (t2 : Int32) (t3 : Int32) (t4 : Int32) (o0 : Addr) (j0 : ClassId) (h0 : Heap) (n0 : Nat) (v : Option Value) (h : Heap) (L : List Loc) : Prop := v = some (.int (-3)) ∧ Fr n0 L ∧ h = h0
set_option maxRecDepth 65536 in
set_option maxHeartbeats 40000000 in
theorem rm8_4 (l : Launch) (Z : State) (a0 : Array Value) (hw : ∀ d ∈ tables_1, d.before a0 Z = true) (ws : List Jvm.Cond) (a_ONE : Addr) (a_ZTT : Addr) (e_2 : Addr) (e_3 : Addr) (t0 : Int32) (t1 : Int32) (t2 : Int32) (t3 : Int32) (t4 : Int32) (o0 : Addr) (j0 : ClassId) (h0 : Heap) (n0 : Nat) (FF : Facts Z Z.heap a_ONE a_ZTT e_2 e_3) (OO : Old Z n0 h0) (f0 : Arv Z h0 o0 j0 .int (4 : Int32) [(.int t0), (.int t2), (.int t3), (.int t4)] (.int 0)) (hq0 : t0 < t1) (hq1 : t2 < t1) :
    MetFree l (⟨"java/util/Arrays", "binarySearch0", "([IIII)I"⟩ : MethodName) (head1 (Jvm.Cond.code (⟨"java/util/Arrays", "binarySearch0", "([IIII)I"⟩ : MethodName) jdk_65_method_59_code 8 (some .int) :: ws) ({ frames := 0, cells := 0, slots := 0, locals := 0 } : Room)) (fun a U => a = #[(.ref o0), (.int 0), (.int 2), (.int t1)] ∧ Z.Warmed39 U.vm ∧ U.heap = h0) (fun _ _ _ _ _ => True) (fun _ U o U' => ∃ v L, o = .returned v ∧ Q8_4 Z a_ONE a_ZTT e_2 e_3 t0 t1 t2 t3 t4 o0 j0 h0 n0 v U'.heap L ∧ FrameEnd U o U' L ({ frames := 0, cells := 0, slots := 0, locals := 0 } : Room).cells ({ frames := 0, cells := 0, slots := 0, locals := 0 } : Room).slots) := by
  refine MetFree.of_bodySF (plainFor_of_name pn_8) hisR ?_
  intro p e s m args below meth c s₁ Bd hml0 hP hK
  obtain ⟨rfl, hZ, hh⟩ := hP
  have hx := Bd.exec
  have hby := Bd.bytes
  have hml : c.maxLocals = 8 := hml0
  have hown : s.vm.findClass "java/util/Arrays" = some m.cls := findClass_of_methodNamed Bd.named
  have X0 : Stand p l e ({ frames := 0, cells := 0, slots := 0, locals := 0 } : Room) s m #[(.ref o0), (.int 0), (.int 2), (.int t1)] below meth c s₁ [] 0 0 := Stand.of_body Bd
  have e0 : s₁.heap = h0 := by rw [← hh, Bd.state]; rfl
  have N0 := Fr.nil n0
  have pre0 : ∀ t, Steps p.tables e below (s₁.setTop (mkF m 0 #[rv o0, iv 0, iv 2, iv t1, .unset, .unset, .unset, .unset] [])) t → Steps p.tables e below (s₁.setTop (entryFrame m #[(.ref o0), (.int 0), (.int 2), (.int t1)] 8)) t := fun t k => castTop (ef_8 m o0 0 2 t1) k
  obtain ⟨c1, r1, q1, S1, M1, H1, G1⟩ := id f0
  have i2 : ¬ ((0 : Int32) < 0 ∨ c1.slots.size ≤ ((0 : Int32)).toNatClampNeg) := inb_of S1 ⟨by decide, by decide⟩
  have y3 : c1.slots[((0 : Int32)).toNatClampNeg]? = some (.int t0) := H1 0 (by rw [S1]; decide)
  obtain ⟨c4, r4, q4, S4, M4, H4, G4⟩ := id f0
  have i5 : ¬ ((1 : Int32) < 0 ∨ c4.slots.size ≤ ((1 : Int32)).toNatClampNeg) := inb_of S4 ⟨by decide, by decide⟩
  have y6 : c4.slots[((1 : Int32)).toNatClampNeg]? = some (.int t2) := H4 1 (by rw [S4]; decide)
  obtain ⟨fs, hr, hrun, hended, hW, hsame⟩ := X0.leave (v := some (.int (-3))) (fun h => by rw [Bd.returns] at h; cases h)
  refine ⟨_, _, pre0 _ ?_, hrun, hended, _, _, rfl, ?_, ⟨_, rfl⟩, hW, hsame.mono (by decide) (by decide)⟩
  · show Steps p.tables e below (s₁.setTop (mkF m 0 #[rv o0, iv 0, iv 2, iv t1, .unset, .unset, .unset, .unset] [])) _
    refine XS.iloadN X0.here hx rfl (hb hby d8_0) rfl ?_
    refine XS.istore X0.here hx rfl (hb hby d8_1) rfl (l' := #[rv o0, iv 0, iv 2, iv t1, iv 0, .unset, .unset, .unset]) rfl ?_
    refine XS.iloadN X0.here hx rfl (hb hby d8_3) rfl ?_
    refine XS.iconst X0.here hx rfl (hb hby d8_4) ?_
    show Steps p.tables e below (s₁.setTop (mkF m 5 #[rv o0, iv 0, iv 2, iv t1, iv 0, .unset, .unset, .unset] [(.int 1), (.int 2)])) _
    refine XS.isub X0.here hx rfl (hb hby d8_5) rfl ?_
    show Steps p.tables e below (s₁.setTop (mkF m 6 #[rv o0, iv 0, iv 2, iv t1, iv 0, .unset, .unset, .unset] [(.int ((2 : Int32) - (1 : Int32)))])) _
    rw [(by decide : ((2 : Int32) - (1 : Int32)) = (1 : Int32))]
    refine XS.istore X0.here hx rfl (hb hby d8_6) rfl (l' := #[rv o0, iv 0, iv 2, iv t1, iv 0, iv 1, .unset, .unset]) rfl ?_
    refine XS.iload X0.here hx rfl (hb hby d8_8) rfl ?_
    refine XS.iload X0.here hx rfl (hb hby d8_10) rfl ?_
    show Steps p.tables e below (s₁.setTop (mkF m 12 #[rv o0, iv 0, iv 2, iv t1, iv 0, iv 1, .unset, .unset] [(.int 1), (.int 0)])) _
    refine XS.icmpNo X0.here hx rfl (hb hby d8_12) rfl (by decide) ?_
    refine XS.iload X0.here hx rfl (hb hby d8_15) rfl ?_
    refine XS.iload X0.here hx rfl (hb hby d8_17) rfl ?_
    refine XS.iadd X0.here hx rfl (hb hby d8_19) rfl ?_
    show Steps p.tables e below (s₁.setTop (mkF m 20 #[rv o0, iv 0, iv 2, iv t1, iv 0, iv 1, .unset, .unset] [(.int ((0 : Int32) + (1 : Int32)))])) _
    rw [(by decide : ((0 : Int32) + (1 : Int32)) = (1 : Int32))]
    refine XS.iconst X0.here hx rfl (hb hby d8_20) ?_
    refine XS.iushr X0.here hx rfl (hb hby d8_21) rfl ?_
    show Steps p.tables e below (s₁.setTop (mkF m 22 #[rv o0, iv 0, iv 2, iv t1, iv 0, iv 1, .unset, .unset] [(.int (((1 : Int32).toUInt32 >>> ((1 : Int32) &&& 31).toUInt32).toInt32))])) _
    rw [(by decide : (((1 : Int32).toUInt32 >>> ((1 : Int32) &&& 31).toUInt32).toInt32) = (0 : Int32))]
    refine XS.istore X0.here hx rfl (hb hby d8_22) rfl (l' := #[rv o0, iv 0, iv 2, iv t1, iv 0, iv 1, iv 0, .unset]) rfl ?_
    refine XS.aloadN X0.here hx rfl (hb hby d8_24) rfl rfl ?_
    refine XS.iload X0.here hx rfl (hb hby d8_25) rfl ?_
    show Steps p.tables e below (s₁.setTop (mkF m 27 #[rv o0, iv 0, iv 2, iv t1, iv 0, iv 1, iv 0, .unset] [(.int 0), (.ref o0)])) _
    refine X0.iaload hx (j := (0 : Int32)) (v := (.int t0)) (by rw [e0]; exact r1.1) (State.isArrayOf_alike hZ.alike r1.2.1) r1.2.2 i2 y3 (g := (mkF m 27 #[rv o0, iv 0, iv 2, iv t1, iv 0, iv 1, iv 0, .unset] [(.int 0), (.ref o0)])) rfl rfl (hb hby d8_27) _ ?_
    refine XS.istore X0.here hx rfl (hb hby d8_28) rfl (l' := #[rv o0, iv 0, iv 2, iv t1, iv 0, iv 1, iv 0, iv t0]) rfl ?_
    refine XS.iload X0.here hx rfl (hb hby d8_30) rfl ?_
    refine XS.iloadN X0.here hx rfl (hb hby d8_32) rfl ?_
    show Steps p.tables e below (s₁.setTop (mkF m 33 #[rv o0, iv 0, iv 2, iv t1, iv 0, iv 1, iv 0, iv t0] [(.int t1), (.int t0)])) _
    refine XS.icmpNo X0.here hx rfl (hb hby d8_33) rfl (tlt hq0).2.1 ?_
    refine XS.iload X0.here hx rfl (hb hby d8_36) rfl ?_
    refine XS.iconst X0.here hx rfl (hb hby d8_38) ?_
    refine XS.iadd X0.here hx rfl (hb hby d8_39) rfl ?_
    show Steps p.tables e below (s₁.setTop (mkF m 40 #[rv o0, iv 0, iv 2, iv t1, iv 0, iv 1, iv 0, iv t0] [(.int ((0 : Int32) + (1 : Int32)))])) _
    rw [(by decide : ((0 : Int32) + (1 : Int32)) = (1 : Int32))]
    refine XS.istore X0.here hx rfl (hb hby d8_40) rfl (l' := #[rv o0, iv 0, iv 2, iv t1, iv 1, iv 1, iv 0, iv t0]) rfl ?_
    refine XS.goto X0.here hx rfl (pc0 := 42) (pc' := 63) rfl (hb hby d8_42) (by decide) (by decide) ?_
    refine XS.goto X0.here hx rfl (pc0 := 63) (pc' := 8) rfl (hb hby d8_63) (by decide) (by decide) ?_
    show Steps p.tables e below (s₁.setTop (mkF m 8 #[rv o0, iv 0, iv 2, iv t1, iv 1, iv 1, iv 0, iv t0] [])) _
    refine XS.iload X0.here hx rfl (hb hby d8_8) rfl ?_
    refine XS.iload X0.here hx rfl (hb hby d8_10) rfl ?_
    refine XS.icmpNo X0.here hx rfl (hb hby d8_12) rfl (by decide) ?_
    refine XS.iload X0.here hx rfl (hb hby d8_15) rfl ?_
    show Steps p.tables e below (s₁.setTop (mkF m 17 #[rv o0, iv 0, iv 2, iv t1, iv 1, iv 1, iv 0, iv t0] [(.int 1)])) _
    refine XS.iload X0.here hx rfl (hb hby d8_17) rfl ?_
    refine XS.iadd X0.here hx rfl (hb hby d8_19) rfl ?_
    show Steps p.tables e below (s₁.setTop (mkF m 20 #[rv o0, iv 0, iv 2, iv t1, iv 1, iv 1, iv 0, iv t0] [(.int ((1 : Int32) + (1 : Int32)))])) _
    rw [(by decide : ((1 : Int32) + (1 : Int32)) = (2 : Int32))]
    refine XS.iconst X0.here hx rfl (hb hby d8_20) ?_
    refine XS.iushr X0.here hx rfl (hb hby d8_21) rfl ?_
    show Steps p.tables e below (s₁.setTop (mkF m 22 #[rv o0, iv 0, iv 2, iv t1, iv 1, iv 1, iv 0, iv t0] [(.int (((2 : Int32).toUInt32 >>> ((1 : Int32) &&& 31).toUInt32).toInt32))])) _
    rw [(by decide : (((2 : Int32).toUInt32 >>> ((1 : Int32) &&& 31).toUInt32).toInt32) = (1 : Int32))]
    refine XS.istore X0.here hx rfl (hb hby d8_22) rfl (l' := #[rv o0, iv 0, iv 2, iv t1, iv 1, iv 1, iv 1, iv t0]) rfl ?_
    refine XS.aloadN X0.here hx rfl (hb hby d8_24) rfl rfl ?_
    refine XS.iload X0.here hx rfl (hb hby d8_25) rfl ?_
    show Steps p.tables e below (s₁.setTop (mkF m 27 #[rv o0, iv 0, iv 2, iv t1, iv 1, iv 1, iv 1, iv t0] [(.int 1), (.ref o0)])) _
    refine X0.iaload hx (j := (1 : Int32)) (v := (.int t2)) (by rw [e0]; exact r4.1) (State.isArrayOf_alike hZ.alike r4.2.1) r4.2.2 i5 y6 (g := (mkF m 27 #[rv o0, iv 0, iv 2, iv t1, iv 1, iv 1, iv 1, iv t0] [(.int 1), (.ref o0)])) rfl rfl (hb hby d8_27) _ ?_
    refine XS.istore X0.here hx rfl (hb hby d8_28) rfl (l' := #[rv o0, iv 0, iv 2, iv t1, iv 1, iv 1, iv 1, iv t2]) rfl ?_
    refine XS.iload X0.here hx rfl (hb hby d8_30) rfl ?_
    refine XS.iloadN X0.here hx rfl (hb hby d8_32) rfl ?_
    show Steps p.tables e below (s₁.setTop (mkF m 33 #[rv o0, iv 0, iv 2, iv t1, iv 1, iv 1, iv 1, iv t2] [(.int t1), (.int t2)])) _
    refine XS.icmpNo X0.here hx rfl (hb hby d8_33) rfl (tlt hq1).2.1 ?_
    refine XS.iload X0.here hx rfl (hb hby d8_36) rfl ?_
    refine XS.iconst X0.here hx rfl (hb hby d8_38) ?_
    refine XS.iadd X0.here hx rfl (hb hby d8_39) rfl ?_
    show Steps p.tables e below (s₁.setTop (mkF m 40 #[rv o0, iv 0, iv 2, iv t1, iv 1, iv 1, iv 1, iv t2] [(.int ((1 : Int32) + (1 : Int32)))])) _
    rw [(by decide : ((1 : Int32) + (1 : Int32)) = (2 : Int32))]
    refine XS.istore X0.here hx rfl (hb hby d8_40) rfl (l' := #[rv o0, iv 0, iv 2, iv t1, iv 2, iv 1, iv 1, iv t2]) rfl ?_
    refine XS.goto X0.here hx rfl (pc0 := 42) (pc' := 63) rfl (hb hby d8_42) (by decide) (by decide) ?_
    refine XS.goto X0.here hx rfl (pc0 := 63) (pc' := 8) rfl (hb hby d8_63) (by decide) (by decide) ?_
    show Steps p.tables e below (s₁.setTop (mkF m 8 #[rv o0, iv 0, iv 2, iv t1, iv 2, iv 1, iv 1, iv t2] [])) _
    refine XS.iload X0.here hx rfl (hb hby d8_8) rfl ?_
    refine XS.iload X0.here hx rfl (hb hby d8_10) rfl ?_
    refine XS.icmpYes X0.here hx rfl (pc0 := 12) (pc' := 66) rfl (hb hby d8_12) rfl (by decide) (by decide) (by decide) ?_
    refine XS.iload X0.here hx rfl (hb hby d8_66) rfl ?_
    show Steps p.tables e below (s₁.setTop (mkF m 68 #[rv o0, iv 0, iv 2, iv t1, iv 2, iv 1, iv 1, iv t2] [(.int 2)])) _
    refine XS.iconst X0.here hx rfl (hb hby d8_68) ?_
    refine XS.iadd X0.here hx rfl (hb hby d8_69) rfl ?_
    show Steps p.tables e below (s₁.setTop (mkF m 70 #[rv o0, iv 0, iv 2, iv t1, iv 2, iv 1, iv 1, iv t2] [(.int ((2 : Int32) + (1 : Int32)))])) _
    rw [(by decide : ((2 : Int32) + (1 : Int32)) = (3 : Int32))]
    refine XS.ineg X0.here hx rfl (hb hby d8_70) rfl ?_
    show Steps p.tables e below (s₁.setTop (mkF m 71 #[rv o0, iv 0, iv 2, iv t1, iv 2, iv 1, iv 1, iv t2] [(.int (-(3 : Int32)))])) _
    rw [(by decide : (-(3 : Int32)) = (-3 : Int32))]
    exact retI X0 hx Bd.returns (hb hby d8_71) hr
  · show Q8_4 Z a_ONE a_ZTT e_2 e_3 t0 t1 t2 t3 t4 o0 j0 h0 n0 _ s₁.heap _
    exact ⟨rfl, N0, e0⟩
def Q6_4 (Z : State) (a_ONE : Addr) (a_ZTT : Addr) (e_2 : Addr) (e_3 : Addr) (t0 : Int32) (t1 : Int32) (t2 : Int32) (t3 : Int32) (t4 : Int32) (o0 : Addr) (j0 : ClassId) (h0 : Heap) (n0 : Nat) (v : Option Value) (h : Heap) (L : List Loc) : Prop := v = some (.int (-3)) ∧ Fr n0 L ∧ h = h0
set_option maxRecDepth 65536 in
set_option maxHeartbeats 40000000 in
theorem rm6_4 (l : Launch) (Z : State) (a0 : Array Value) (hw : ∀ d ∈ tables_1, d.before a0 Z = true) (ws : List Jvm.Cond) (a_ONE : Addr) (a_ZTT : Addr) (e_2 : Addr) (e_3 : Addr) (t0 : Int32) (t1 : Int32) (t2 : Int32) (t3 : Int32) (t4 : Int32) (o0 : Addr) (j0 : ClassId) (h0 : Heap) (n0 : Nat) (FF : Facts Z Z.heap a_ONE a_ZTT e_2 e_3) (OO : Old Z n0 h0) (f0 : Arv Z h0 o0 j0 .int (4 : Int32) [(.int t0), (.int t2), (.int t3), (.int t4)] (.int 0)) (hq0 : t0 < t1) (hq1 : t2 < t1) :
    MetFree l (⟨"java/util/Arrays", "binarySearch", "([IIII)I"⟩ : MethodName) (head1 (Jvm.Cond.code (⟨"java/util/Arrays", "binarySearch", "([IIII)I"⟩ : MethodName) jdk_65_method_58_code 4 (some .int) :: ws) ({ frames := 1, cells := 0, slots := 0, locals := 19 } : Room)) (fun a U => a = #[(.ref o0), (.int 0), (.int 2), (.int t1)] ∧ Z.Warmed39 U.vm ∧ U.heap = h0) (fun _ _ _ _ _ => True) (fun _ U o U' => ∃ v L, o = .returned v ∧ Q6_4 Z a_ONE a_ZTT e_2 e_3 t0 t1 t2 t3 t4 o0 j0 h0 n0 v U'.heap L ∧ FrameEnd U o U' L ({ frames := 1, cells := 0, slots := 0, locals := 19 } : Room).cells ({ frames := 1, cells := 0, slots := 0, locals := 19 } : Room).slots) := by
  refine MetFree.of_bodySF (plainFor_of_name pn_6) hisR ?_
  intro p e s m args below meth c s₁ Bd hml0 hP hK
  obtain ⟨rfl, hZ, hh⟩ := hP
  have hx := Bd.exec
  have hby := Bd.bytes
  have hml : c.maxLocals = 4 := hml0
  have hown : s.vm.findClass "java/util/Arrays" = some m.cls := findClass_of_methodNamed Bd.named
  have X0 : Stand p l e ({ frames := 1, cells := 0, slots := 0, locals := 19 } : Room) s m #[(.ref o0), (.int 0), (.int 2), (.int t1)] below meth c s₁ [] 0 0 := Stand.of_body Bd
  have e0 : s₁.heap = h0 := by rw [← hh, Bd.state]; rfl
  have N0 := Fr.nil n0
  have pre0 : ∀ t, Steps p.tables e below (s₁.setTop (mkF m 0 #[rv o0, iv 0, iv 2, iv t1] [])) t → Steps p.tables e below (s₁.setTop (entryFrame m #[(.ref o0), (.int 0), (.int 2), (.int t1)] 4)) t := fun t k => castTop (ef_6 m o0 0 2 t1) k
  obtain ⟨c1, r1, q1, S1, M1, H1, G1⟩ := id f0
  obtain ⟨_, _, ⟨T2, L2, k2, n2⟩, -, X2, ⟨Lc2, hQ2, l2, y2, z2⟩, st2⟩ := Jvm.LawKit.callS X0 hx (y := (⟨"java/util/Arrays", "rangeCheck", "(III)V"⟩ : MethodName)) hown (mvT hZ (w_39 hw)) (mvT hZ (w_40 hw)) (mvT hZ (w_37 hw)) (mvT hZ (w_41 hw)) (by decide) (backOf (W := 0) (rm7_2 l Z a0 hw [] a_ONE a_ZTT e_2 e_3 h0 n0 FF OO) hZ (w_41 hw) (w_37 hw) (by decide) (by decide)) (g := (mkF m 4 #[rv o0, iv 0, iv 2, iv t1] [(.int 2), (.int 0), (.int 4)])) rfl (by rw [hml]; rfl) (argsL := [(.int 4), (.int 0), (.int 2)]) (rest := []) (lenOf pd_3 rfl) rfl (by show 2 * 0 + _ ≤ _; exact Nat.le_of_eq rfl) (hb hby d6_4) (fun _ _ => ⟨rfl, e0, (by decide : 0 + 0 ≤ _), (by decide : 0 + 0 ≤ _)⟩)
  dsimp only [Pt.U, Pt.locs, Pt.cells, Pt.slots] at X2 l2 y2 z2 st2 hQ2
  subst l2 y2 z2
  obtain ⟨rfl, N2q, e2⟩ := hQ2
  have N2 := Fr.app N0 N2q
  obtain ⟨_, _, ⟨T3, L3, k3, n3⟩, -, X3, ⟨Lc3, hQ3, l3, y3, z3⟩, st3⟩ := Jvm.LawKit.callS X2 hx (y := (⟨"java/util/Arrays", "binarySearch0", "([IIII)I"⟩ : MethodName)) hown (mvT hZ (w_42 hw)) (mvT hZ (w_43 hw)) (mvT hZ (w_37 hw)) (mvT hZ (w_44 hw)) (by decide) (backOf (W := 0) (rm8_4 l Z a0 hw [] a_ONE a_ZTT e_2 e_3 t0 t1 t2 t3 t4 o0 j0 h0 n0 FF OO f0 hq0 hq1) hZ (w_44 hw) (w_37 hw) (by decide) (by decide)) (g := (mkF m 11 #[rv o0, iv 0, iv 2, iv t1] [(.int t1), (.int 2), (.int 0), (.ref o0)])) rfl (by rw [hml]; rfl) (argsL := [(.ref o0), (.int 0), (.int 2), (.int t1)]) (rest := []) (lenOf pd_4 rfl) rfl (by show 2 * 0 + _ ≤ _; exact Nat.le_of_eq rfl) (hb hby d6_11) (fun _ _ => ⟨rfl, e2, (by decide : 0 + 0 ≤ _), (by decide : 0 + 0 ≤ _)⟩)
  dsimp only [Pt.U, Pt.locs, Pt.cells, Pt.slots] at X3 l3 y3 z3 st3 hQ3
  subst l3 y3 z3
  obtain ⟨rfl, N3q, e3⟩ := hQ3
  have N3 := Fr.app N2 N3q
  obtain ⟨fs, hr, hrun, hended, hW, hsame⟩ := X3.leave (v := some (.int (-3))) (fun h => by rw [Bd.returns] at h; cases h)
  refine ⟨_, _, pre0 _ ?_, hrun, hended, _, _, rfl, ?_, ⟨_, rfl⟩, hW, hsame.mono (by decide) (by decide)⟩
  · show Steps p.tables e below (s₁.setTop (mkF m 0 #[rv o0, iv 0, iv 2, iv t1] [])) _
    refine XS.aloadN X0.here hx rfl (hb hby d6_0) rfl rfl ?_
    refine X0.arraylength hx (by rw [e0]; exact r1.1) (State.isArrayOf_alike hZ.alike r1.2.1) (g := (mkF m 1 #[rv o0, iv 0, iv 2, iv t1] [(.ref o0)])) rfl rfl (hb hby d6_1) _ ?_
    rw [len_of S1 M1]
    refine XS.iloadN X0.here hx rfl (hb hby d6_2) rfl ?_
    show Steps p.tables e below (s₁.setTop (mkF m 3 #[rv o0, iv 0, iv 2, iv t1] [(.int 0), (.int 4)])) _
    refine XS.iloadN X0.here hx rfl (hb hby d6_3) rfl ?_
    refine st2 _ ?_
    refine XS.aloadN X2.here hx rfl (hb hby d6_7) rfl rfl ?_
    refine XS.iloadN X2.here hx rfl (hb hby d6_8) rfl ?_
    show Steps p.tables e below (T2.setTop (mkF m 9 #[rv o0, iv 0, iv 2, iv t1] [(.int 0), (.ref o0)])) _
    refine XS.iloadN X2.here hx rfl (hb hby d6_9) rfl ?_
    refine XS.iloadN X2.here hx rfl (hb hby d6_10) rfl ?_
    refine st3 _ ?_
    exact retI X3 hx Bd.returns (hb hby d6_14) hr
  · show Q6_4 Z a_ONE a_ZTT e_2 e_3 t0 t1 t2 t3 t4 o0 j0 h0 n0 _ T3.heap _
    exact ⟨rfl, N3, e3⟩
def Q5_4 (Z : State) (a_ONE : Addr) (a_ZTT : Addr) (e_2 : Addr) (e_3 : Addr) (t0 : Int32) (t1 : Int32) (t2 : Int32) (t3 : Int32) (t4 : Int32) (o0 : Addr) (o1 : Addr) (o2 : Addr) (j0 : ClassId) (j1 : ClassId) (h0 : Heap) (n0 : Nat) (v : Option Value) (h : Heap) (L : List Loc) : Prop := v = none ∧ Fr n0 L ∧ Keep h0 h [o1, o2, o0] ∧ Arv Z h o1 j0 .int (4 : Int32) [(.int t0), (.int t2), (.int t1), (.int t4)] (.int 0) ∧ Exa Z h o1 "[I" ∧ Arv Z h o2 j1 (.object "java/math/BigDecimal") (4 : Int32) [(.ref a_ONE), (.ref a_ONE), (.ref a_ONE), .null] .null ∧ Ovr Z j1 "java/math/BigDecimal" ∧ Exa Z h o2 "[Ljava/math/BigDecimal;" ∧ Fld Z h o0 "com/example/deferra/deferra/crediting/DailyAmounts" "days" "[I" (.ref o1) ∧ Fld Z h o0 "com/example/deferra/deferra/crediting/DailyAmounts" "size" "I" (.int 3) ∧ Fld Z h o0 "com/example/deferra/deferra/crediting/DailyAmounts" "amounts" "[Ljava/math/BigDecimal;" (.ref o2) ∧ Exa Z h o0 "com/example/deferra/deferra/crediting/DailyAmounts"
set_option maxRecDepth 65536 in
set_option maxHeartbeats 40000000 in
theorem rm5_4 (l : Launch) (Z : State) (a0 : Array Value) (hw : ∀ d ∈ tables_1, d.before a0 Z = true) (ws : List Jvm.Cond) (a_ONE : Addr) (a_ZTT : Addr) (e_2 : Addr) (e_3 : Addr) (t0 : Int32) (t1 : Int32) (t2 : Int32) (t3 : Int32) (t4 : Int32) (o0 : Addr) (o1 : Addr) (o2 : Addr) (j0 : ClassId) (j1 : ClassId) (h0 : Heap) (n0 : Nat) (FF : Facts Z Z.heap a_ONE a_ZTT e_2 e_3) (OO : Old Z n0 h0) (f0 : Fld Z h0 o0 "com/example/deferra/deferra/crediting/DailyAmounts" "days" "[I" (.ref o1)) (f1 : Fld Z h0 o0 "com/example/deferra/deferra/crediting/DailyAmounts" "size" "I" (.int 2)) (f2 : Arv Z h0 o1 j0 .int (4 : Int32) [(.int t0), (.int t2), (.int t3), (.int t4)] (.int 0)) (u0 : n0 ≤ o1) (f3 : Fld Z h0 o0 "com/example/deferra/deferra/crediting/DailyAmounts" "amounts" "[Ljava/math/BigDecimal;" (.ref o2)) (v0 : o0 ≠ o1) (f4 : Arv Z h0 o2 j1 (.object "java/math/BigDecimal") (4 : Int32) [(.ref a_ONE), (.ref a_ONE), .null, .null] .null) (v1 : o2 ≠ o1) (u1 : n0 ≤ o2) (v2 : o0 ≠ o2) (f5 : Ovr Z j1 "java/math/BigDecimal") (f6 : Exa Z h0 o0 "com/example/deferra/deferra/crediting/DailyAmounts") (u2 : n0 ≤ o0) (f7 : Exa Z h0 o1 "[I") (f8 : Exa Z h0 o2 "[Ljava/math/BigDecimal;") (hq0 : t0 < t1) (hq1 : t2 < t1) :
    MetFree l (⟨"com/example/deferra/deferra/crediting/DailyAmounts", "add", "(ILjava/math/BigDecimal;)V"⟩ : MethodName) (head1 (Jvm.Cond.code (⟨"com/example/deferra/deferra/crediting/DailyAmounts", "add", "(ILjava/math/BigDecimal;)V"⟩ : MethodName) prog_24_method_2_code 5 none :: ws) ({ frames := 2, cells := 0, slots := 0, locals := 34 } : Room)) (fun a U => a = #[(.ref o0), (.int t1), (.ref a_ONE)] ∧ Z.Warmed39 U.vm ∧ U.heap = h0) (fun _ _ _ _ _ => True) (fun _ U o U' => ∃ v L, o = .returned v ∧ Q5_4 Z a_ONE a_ZTT e_2 e_3 t0 t1 t2 t3 t4 o0 o1 o2 j0 j1 h0 n0 v U'.heap L ∧ FrameEnd U o U' L ({ frames := 2, cells := 0, slots := 0, locals := 34 } : Room).cells ({ frames := 2, cells := 0, slots := 0, locals := 34 } : Room).slots) := by
  refine MetFree.of_bodySF (plainFor_of_name pn_5) hisR ?_
  intro p e s m args below meth c s₁ Bd hml0 hP hK
  obtain ⟨rfl, hZ, hh⟩ := hP
  have hx := Bd.exec
  have hby := Bd.bytes
  have hml : c.maxLocals = 5 := hml0
  have hown : s.vm.findClass "com/example/deferra/deferra/crediting/DailyAmounts" = some m.cls := findClass_of_methodNamed Bd.named
  have X0 : Stand p l e ({ frames := 2, cells := 0, slots := 0, locals := 34 } : Room) s m #[(.ref o0), (.int t1), (.ref a_ONE)] below meth c s₁ [] 0 0 := Stand.of_body Bd
  have e0 : s₁.heap = h0 := by rw [← hh, Bd.state]; rfl
  have N0 := Fr.nil n0
  have pre0 : ∀ t, Steps p.tables e below (s₁.setTop (mkF m 0 #[rv o0, iv t1, rv a_ONE, .unset, .unset] [])) t → Steps p.tables e below (s₁.setTop (entryFrame m #[(.ref o0), (.int t1), (.ref a_ONE)] 5)) t := fun t k => castTop (ef_5 m o0 t1 a_ONE) k
  obtain ⟨T1, X1, e1, st1⟩ := getF X0 hx hZ hown (host := "") (Or.inl (w_10 hw)) Via.refl e0 f0 (g := (mkF m 1 #[rv o0, iv t1, rv a_ONE, .unset, .unset] [(.ref o0)])) rfl rfl (hb hby d5_1)
  obtain ⟨T2, X2, e2, st2⟩ := getF X1 hx hZ hown (host := "") (Or.inl (w_21 hw)) Via.refl e1 f1 (g := (mkF m 6 #[rv o0, iv t1, rv a_ONE, .unset, .unset] [(.ref o0), (.int 0), (.ref o1)])) rfl rfl (hb hby d5_6)
  obtain ⟨_, _, ⟨T3, L3, k3, n3⟩, -, X3, ⟨Lc3, hQ3, l3, y3, z3⟩, st3⟩ := Jvm.LawKit.callS X2 hx (y := (⟨"java/util/Arrays", "binarySearch", "([IIII)I"⟩ : MethodName)) hown (mvT hZ (w_35 hw)) (mvT hZ (w_36 hw)) (mvT hZ (w_37 hw)) (mvT hZ (w_38 hw)) (by decide) (backOf (W := 0) (rm6_4 l Z a0 hw [] a_ONE a_ZTT e_2 e_3 t0 t1 t2 t3 t4 o1 j0 h0 n0 FF OO f2 hq0 hq1) hZ (w_38 hw) (w_37 hw) (by decide) (by decide)) (g := (mkF m 10 #[rv o0, iv t1, rv a_ONE, .unset, .unset] [(.int t1), (.int 2), (.int 0), (.ref o1)])) rfl (by rw [hml]; rfl) (argsL := [(.ref o1), (.int 0), (.int 2), (.int t1)]) (rest := []) (lenOf pd_4 rfl) rfl (by show 2 * 0 + _ ≤ _; exact Nat.le_of_eq rfl) (hb hby d5_10) (fun _ _ => ⟨rfl, e2, (by decide : 0 + 0 ≤ _), (by decide : 0 + 0 ≤ _)⟩)
  dsimp only [Pt.U, Pt.locs, Pt.cells, Pt.slots] at X3 l3 y3 z3 st3 hQ3
  subst l3 y3 z3
  obtain ⟨rfl, N3q, e3⟩ := hQ3
  have N3 := Fr.app N0 N3q
  obtain ⟨T4, X4, e4, st4⟩ := getF X3 hx hZ hown (host := "") (Or.inl (w_21 hw)) Via.refl e3 f1 (g := (mkF m 42 #[rv o0, iv t1, rv a_ONE, iv (-3), iv 2] [(.ref o0)])) rfl rfl (hb hby d5_42)
  obtain ⟨T5, X5, e5, st5⟩ := getF X4 hx hZ hown (host := "") (Or.inl (w_10 hw)) Via.refl e4 f0 (g := (mkF m 46 #[rv o0, iv t1, rv a_ONE, iv (-3), iv 2] [(.ref o0), (.int 2)])) rfl rfl (hb hby d5_46)
  obtain ⟨c6, r6, q6, S6, M6, H6, G6⟩ := id f2
  obtain ⟨T7, X7, e7, st7⟩ := getF X5 hx hZ hown (host := "") (Or.inl (w_10 hw)) Via.refl e5 f0 (g := (mkF m 91 #[rv o0, iv t1, rv a_ONE, iv (-3), iv 2] [(.ref o0)])) rfl rfl (hb hby d5_91)
  obtain ⟨T8, X8, e8, st8⟩ := getF X7 hx hZ hown (host := "") (Or.inl (w_10 hw)) Via.refl e7 f0 (g := (mkF m 97 #[rv o0, iv t1, rv a_ONE, iv (-3), iv 2] [(.ref o0), (.int 2), (.ref o1)])) rfl rfl (hb hby d5_97)
  obtain ⟨T9, X9, e9, st9⟩ := getF X8 hx hZ hown (host := "") (Or.inl (w_21 hw)) Via.refl e8 f1 (g := (mkF m 105 #[rv o0, iv t1, rv a_ONE, iv (-3), iv 2] [(.ref o0), (.int 3), (.ref o1), (.int 2), (.ref o1)])) rfl rfl (hb hby d5_105)
  obtain ⟨T10, h10, L10, X10, e10, N10, K10, V10, st10⟩ := cpA X9 hx hZ hown (w_45 hw) (w_48 hw) (w_46 hw) (w_47 hw) e9 f2 f2 (us := []) (Or.inl ⟨rfl, rfl⟩) (by decide) (by decide) (by decide) (by decide) (by decide) rfl (Nat.le_of_ble_eq_true rfl) N3 u0 (g := (mkF m 111 #[rv o0, iv t1, rv a_ONE, iv (-3), iv 2] [(.int 0), (.int 3), (.ref o1), (.int 2), (.ref o1)])) rfl (by rw [hml]; rfl) (rest := []) rfl (hb hby d5_111) (by decide) (W := 0) (by show 2 * 0 + _ ≤ _; exact Nat.le_of_eq rfl) (by decide)
  have O10 := Old.keep OO K10 (allS u0 all0)
  have KK10 : Keep h0 h10 [o1, o2, o0] := Keep.trans (Keep.refl h0 [o1, o2, o0]) K10 (allS (Or.inl (List.mem_of_getElem? (i := 0) rfl)) all0)
  have F11 : Arv Z h10 o1 j0 .int (4 : Int32) [(.int t0), (.int t2), (.int t3), (.int t4)] (.int 0) := V10
  have F12 : Fld Z h10 o0 "com/example/deferra/deferra/crediting/DailyAmounts" "amounts" "[Ljava/math/BigDecimal;" (.ref o2) := (Fld.keep f3 K10 (ninS v0 nin0))
  obtain ⟨T13, X13, e13, st13⟩ := getF X10 hx hZ hown (host := "") (Or.inl (w_14 hw)) Via.refl e10 F12 (g := (mkF m 115 #[rv o0, iv t1, rv a_ONE, iv (-3), iv 2] [(.ref o0)])) rfl rfl (hb hby d5_115)
  obtain ⟨T14, X14, e14, st14⟩ := getF X13 hx hZ hown (host := "") (Or.inl (w_14 hw)) Via.refl e13 F12 (g := (mkF m 121 #[rv o0, iv t1, rv a_ONE, iv (-3), iv 2] [(.ref o0), (.int 2), (.ref o2)])) rfl rfl (hb hby d5_121)
  have F15 : Fld Z h10 o0 "com/example/deferra/deferra/crediting/DailyAmounts" "size" "I" (.int 2) := (Fld.keep f1 K10 (ninS v0 nin0))
  obtain ⟨T16, X16, e16, st16⟩ := getF X14 hx hZ hown (host := "") (Or.inl (w_21 hw)) Via.refl e14 F15 (g := (mkF m 129 #[rv o0, iv t1, rv a_ONE, iv (-3), iv 2] [(.ref o0), (.int 3), (.ref o2), (.int 2), (.ref o2)])) rfl rfl (hb hby d5_129)
  have F17 : Arv Z h10 o2 j1 (.object "java/math/BigDecimal") (4 : Int32) [(.ref a_ONE), (.ref a_ONE), .null, .null] .null := (Arv.keep f4 K10 (ninS v1 nin0))
  obtain ⟨c18, r18, q18, S18, M18, H18, G18⟩ := id F17
  obtain ⟨T19, h19, L19, X19, e19, N19, K19, V19, st19⟩ := cpA X16 hx hZ hown (w_45 hw) (w_48 hw) (w_46 hw) (w_47 hw) e16 F17 F17 (us := []) (Or.inr ⟨rfl, rfl, (trivial : StoL Z h10 o2 [])⟩) (by decide) (by decide) (by decide) (by decide) (by decide) rfl (Nat.le_of_ble_eq_true rfl) N10 u1 (g := (mkF m 135 #[rv o0, iv t1, rv a_ONE, iv (-3), iv 2] [(.int 0), (.int 3), (.ref o2), (.int 2), (.ref o2)])) rfl (by rw [hml]; rfl) (rest := []) rfl (hb hby d5_135) (by decide) (W := 0) (by show 2 * 0 + _ ≤ _; exact Nat.le_of_eq rfl) (by decide)
  have O19 := Old.keep O10 K19 (allS u1 all0)
  have KK19 : Keep h0 h19 [o1, o2, o0] := Keep.trans KK10 K19 (allS (Or.inl (List.mem_of_getElem? (i := 1) rfl)) all0)
  have F20 : Arv Z h19 o2 j1 (.object "java/math/BigDecimal") (4 : Int32) [(.ref a_ONE), (.ref a_ONE), .null, .null] .null := V19
  have F21 : Fld Z h19 o0 "com/example/deferra/deferra/crediting/DailyAmounts" "days" "[I" (.ref o1) := (Fld.keep (Fld.keep f0 K10 (ninS v0 nin0)) K19 (ninS v2 nin0))
  obtain ⟨T22, X22, e22, st22⟩ := getF X19 hx hZ hown (host := "") (Or.inl (w_10 hw)) Via.refl e19 F21 (g := (mkF m 139 #[rv o0, iv t1, rv a_ONE, iv (-3), iv 2] [(.ref o0)])) rfl rfl (hb hby d5_139)
  have F24 : Arv Z h19 o1 j0 .int (4 : Int32) [(.int t0), (.int t2), (.int t3), (.int t4)] (.int 0) := (Arv.keep F11 K19 (ninS (Ne.symm v1) nin0))
  obtain ⟨c23, r23, q23, S23, M23, H23, G23⟩ := id F24
  have i25 : ¬ ((2 : Int32) < 0 ∨ c23.slots.size ≤ ((2 : Int32)).toNatClampNeg) := inb_of S23 ⟨by decide, by decide⟩
  obtain ⟨T26, h26, X26, e26, W26, st26⟩ := stI X22 hx hZ e22 r23 (j := (2 : Int32)) i25 (g := (mkF m 145 #[rv o0, iv t1, rv a_ONE, iv (-3), iv 2] [(.int t1), (.int 2), (.ref o1)])) rfl rfl (hb hby d5_145)
  have O26 := Old.wr O19 W26 u0
  have KK26 : Keep h0 h26 [o1, o2, o0] := Keep.wr KK19 W26 (Or.inl (List.mem_of_getElem? (i := 0) rfl))
  have N26 := Fr.snoc X26 N19 u0
  have F27 : Arv Z h26 o1 j0 .int (4 : Int32) [(.int t0), (.int t2), (.int t1), (.int t4)] (.int 0) := Arv.set r23 q23 S23 M23 H23 G23 rfl W26 2 rfl (Nat.le_of_ble_eq_true rfl)
  have F28 : Fld Z h26 o0 "com/example/deferra/deferra/crediting/DailyAmounts" "amounts" "[Ljava/math/BigDecimal;" (.ref o2) := (Fld.other W26 (Fld.keep F12 K19 (ninS v2 nin0)) (Or.inl v0))
  obtain ⟨T29, X29, e29, st29⟩ := getF X26 hx hZ hown (host := "") (Or.inl (w_14 hw)) Via.refl e26 F28 (g := (mkF m 147 #[rv o0, iv t1, rv a_ONE, iv (-3), iv 2] [(.ref o0)])) rfl rfl (hb hby d5_147)
  have F31 : Arv Z h26 o2 j1 (.object "java/math/BigDecimal") (4 : Int32) [(.ref a_ONE), (.ref a_ONE), .null, .null] .null := (Arv.other F20 W26 v1)
  obtain ⟨c30, r30, q30, S30, M30, H30, G30⟩ := id F31
  have i32 : ¬ ((2 : Int32) < 0 ∨ c30.slots.size ≤ ((2 : Int32)).toNatClampNeg) := inb_of S30 ⟨by decide, by decide⟩
  obtain ⟨T33, h33, X33, e33, W33, st33⟩ := stR X29 hx hZ e29 r30 (j := (2 : Int32)) i32 rfl (Sto.ofV r30 q30 f5 (Ins.self (Exa.ext O26.2 (fx_E_a_ONE FF)))) (g := (mkF m 153 #[rv o0, iv t1, rv a_ONE, iv (-3), iv 2] [(.ref a_ONE), (.int 2), (.ref o2)])) rfl rfl (hb hby d5_153)
  have O33 := Old.wr O26 W33 u1
  have KK33 : Keep h0 h33 [o1, o2, o0] := Keep.wr KK26 W33 (Or.inl (List.mem_of_getElem? (i := 1) rfl))
  have N33 := Fr.snoc X33 N26 u1
  have F34 : Arv Z h33 o2 j1 (.object "java/math/BigDecimal") (4 : Int32) [(.ref a_ONE), (.ref a_ONE), (.ref a_ONE), .null] .null := Arv.set r30 q30 S30 M30 H30 G30 rfl W33 2 rfl (Nat.le_of_ble_eq_true rfl)
  have F35 : Fld Z h33 o0 "com/example/deferra/deferra/crediting/DailyAmounts" "size" "I" (.int 2) := (Fld.other W33 (Fld.other W26 (Fld.keep F15 K19 (ninS v2 nin0)) (Or.inl v0)) (Or.inl v2))
  obtain ⟨T36, X36, e36, st36⟩ := getF X33 hx hZ hown (host := "") (Or.inl (w_21 hw)) Via.refl e33 F35 (g := (mkF m 156 #[rv o0, iv t1, rv a_ONE, iv (-3), iv 2] [(.ref o0), (.ref o0)])) rfl rfl (hb hby d5_156)
  have F37 : Exa Z h33 o0 "com/example/deferra/deferra/crediting/DailyAmounts" := (Exa.wr W33 (Exa.wr W26 (Exa.keep (Exa.keep f6 K10) K19)))
  obtain ⟨T38, h38, X38, e38, W38, st38⟩ := putF X36 hx hZ hown (host := "") (Or.inl (w_21 hw)) Via.refl e36 F35 F37 (Or.inl (w_22 hw)) (w_1 hw) (ty := .int) (by decide) rfl rfl (g := (mkF m 161 #[rv o0, iv t1, rv a_ONE, iv (-3), iv 2] [(.int 3), (.ref o0)])) rfl rfl (hb hby d5_161)
  have O38 := Old.wr O33 W38 u2
  have KK38 : Keep h0 h38 [o1, o2, o0] := Keep.wr KK33 W38 (Or.inl (List.mem_of_getElem? (i := 2) rfl))
  have N38 := Fr.snoc X38 N33 u2
  have F39 : Fld Z h38 o0 "com/example/deferra/deferra/crediting/DailyAmounts" "size" "I" (.int 3) := Fld.same W38 F35
  have F40 : Arv Z h38 o1 j0 .int (4 : Int32) [(.int t0), (.int t2), (.int t1), (.int t4)] (.int 0) := (Arv.other (Arv.other F27 W33 (Ne.symm v1)) W38 (Ne.symm v0))
  have F41 : Exa Z h38 o1 "[I" := (Exa.wr W38 (Exa.wr W33 (Exa.wr W26 (Exa.keep (Exa.keep f7 K10) K19))))
  have F42 : Arv Z h38 o2 j1 (.object "java/math/BigDecimal") (4 : Int32) [(.ref a_ONE), (.ref a_ONE), (.ref a_ONE), .null] .null := (Arv.other F34 W38 (Ne.symm v2))
  have F43 : Exa Z h38 o2 "[Ljava/math/BigDecimal;" := (Exa.wr W38 (Exa.wr W33 (Exa.wr W26 (Exa.keep (Exa.keep f8 K10) K19))))
  have F44 : Fld Z h38 o0 "com/example/deferra/deferra/crediting/DailyAmounts" "days" "[I" (.ref o1) := (Fld.other W38 (Fld.other W33 (Fld.other W26 F21 (Or.inl v0)) (Or.inl v2)) (Or.inr (slot_ne (Or.inl (w_11 hw)) (Or.inl (w_22 hw)) (by decide) (t := (.array .int)) (t' := .int) (by decide) (by decide))))
  have F45 : Fld Z h38 o0 "com/example/deferra/deferra/crediting/DailyAmounts" "amounts" "[Ljava/math/BigDecimal;" (.ref o2) := (Fld.other W38 (Fld.other W33 F28 (Or.inl v2)) (Or.inr (slot_ne (Or.inl (w_15 hw)) (Or.inl (w_22 hw)) (by decide) (t := (.array (.object "java/math/BigDecimal"))) (t' := .int) (by decide) (by decide))))
  have F46 : Exa Z h38 o0 "com/example/deferra/deferra/crediting/DailyAmounts" := (Exa.wr W38 F37)
  obtain ⟨fs, hr, hrun, hended, hW, hsame⟩ := X38.leave (v := none) (fun _ => rfl)
  refine ⟨_, _, pre0 _ ?_, hrun, hended, _, _, rfl, ?_, ⟨_, rfl⟩, hW, hsame.mono (by decide) (by decide)⟩
  · show Steps p.tables e below (s₁.setTop (mkF m 0 #[rv o0, iv t1, rv a_ONE, .unset, .unset] [])) _
    refine XS.aloadN X0.here hx rfl (hb hby d5_0) rfl rfl ?_
    refine st1 _ ?_
    refine XS.iconst X1.here hx rfl (hb hby d5_4) ?_
    refine XS.aloadN X1.here hx rfl (hb hby d5_5) rfl rfl ?_
    show Steps p.tables e below (T1.setTop (mkF m 6 #[rv o0, iv t1, rv a_ONE, .unset, .unset] [(.ref o0), (.int 0), (.ref o1)])) _
    refine st2 _ ?_
    refine XS.iloadN X2.here hx rfl (hb hby d5_9) rfl ?_
    refine st3 _ ?_
    refine XS.istoreN X3.here hx rfl (hb hby d5_13) rfl (l' := #[rv o0, iv t1, rv a_ONE, iv (-3), .unset]) rfl ?_
    show Steps p.tables e below (T3.setTop (mkF m 14 #[rv o0, iv t1, rv a_ONE, iv (-3), .unset] [])) _
    refine XS.iloadN X3.here hx rfl (hb hby d5_14) rfl ?_
    refine XS.ifYes X3.here hx rfl (pc0 := 15) (pc' := 35) rfl (hb hby d5_15) rfl (by decide) (by decide) (by decide) ?_
    refine XS.iloadN X3.here hx rfl (hb hby d5_35) rfl ?_
    refine XS.ineg X3.here hx rfl (hb hby d5_36) rfl ?_
    show Steps p.tables e below (T3.setTop (mkF m 37 #[rv o0, iv t1, rv a_ONE, iv (-3), .unset] [(.int (-(-3 : Int32)))])) _
    rw [(by decide : (-(-3 : Int32)) = (3 : Int32))]
    refine XS.iconst X3.here hx rfl (hb hby d5_37) ?_
    refine XS.isub X3.here hx rfl (hb hby d5_38) rfl ?_
    show Steps p.tables e below (T3.setTop (mkF m 39 #[rv o0, iv t1, rv a_ONE, iv (-3), .unset] [(.int ((3 : Int32) - (1 : Int32)))])) _
    rw [(by decide : ((3 : Int32) - (1 : Int32)) = (2 : Int32))]
    refine XS.istore X3.here hx rfl (hb hby d5_39) rfl (l' := #[rv o0, iv t1, rv a_ONE, iv (-3), iv 2]) rfl ?_
    refine XS.aloadN X3.here hx rfl (hb hby d5_41) rfl rfl ?_
    refine st4 _ ?_
    show Steps p.tables e below (T4.setTop (mkF m 45 #[rv o0, iv t1, rv a_ONE, iv (-3), iv 2] [(.int 2)])) _
    refine XS.aloadN X4.here hx rfl (hb hby d5_45) rfl rfl ?_
    refine st5 _ ?_
    refine X5.arraylength hx (by rw [e5]; exact r6.1) (State.isArrayOf_alike hZ.alike r6.2.1) (g := (mkF m 49 #[rv o0, iv t1, rv a_ONE, iv (-3), iv 2] [(.ref o1), (.int 2)])) rfl rfl (hb hby d5_49) _ ?_
    rw [len_of S6 M6]
    show Steps p.tables e below (T5.setTop (mkF m 50 #[rv o0, iv t1, rv a_ONE, iv (-3), iv 2] [(.int 4), (.int 2)])) _
    refine XS.icmpYes X5.here hx rfl (pc0 := 50) (pc' := 90) rfl (hb hby d5_50) rfl (by decide) (by decide) (by decide) ?_
    refine XS.aloadN X5.here hx rfl (hb hby d5_90) rfl rfl ?_
    refine st7 _ ?_
    refine XS.iload X7.here hx rfl (hb hby d5_94) rfl ?_
    show Steps p.tables e below (T7.setTop (mkF m 96 #[rv o0, iv t1, rv a_ONE, iv (-3), iv 2] [(.int 2), (.ref o1)])) _
    refine XS.aloadN X7.here hx rfl (hb hby d5_96) rfl rfl ?_
    refine st8 _ ?_
    refine XS.iload X8.here hx rfl (hb hby d5_100) rfl ?_
    refine XS.iconst X8.here hx rfl (hb hby d5_102) ?_
    show Steps p.tables e below (T8.setTop (mkF m 103 #[rv o0, iv t1, rv a_ONE, iv (-3), iv 2] [(.int 1), (.int 2), (.ref o1), (.int 2), (.ref o1)])) _
    refine XS.iadd X8.here hx rfl (hb hby d5_103) rfl ?_
    show Steps p.tables e below (T8.setTop (mkF m 104 #[rv o0, iv t1, rv a_ONE, iv (-3), iv 2] [(.int ((2 : Int32) + (1 : Int32))), (.ref o1), (.int 2), (.ref o1)])) _
    rw [(by decide : ((2 : Int32) + (1 : Int32)) = (3 : Int32))]
    refine XS.aloadN X8.here hx rfl (hb hby d5_104) rfl rfl ?_
    refine st9 _ ?_
    refine XS.iload X9.here hx rfl (hb hby d5_108) rfl ?_
    show Steps p.tables e below (T9.setTop (mkF m 110 #[rv o0, iv t1, rv a_ONE, iv (-3), iv 2] [(.int 2), (.int 2), (.int 3), (.ref o1), (.int 2), (.ref o1)])) _
    refine XS.isub X9.here hx rfl (hb hby d5_110) rfl ?_
    show Steps p.tables e below (T9.setTop (mkF m 111 #[rv o0, iv t1, rv a_ONE, iv (-3), iv 2] [(.int ((2 : Int32) - (2 : Int32))), (.int 3), (.ref o1), (.int 2), (.ref o1)])) _
    rw [(by decide : ((2 : Int32) - (2 : Int32)) = (0 : Int32))]
    refine st10 _ ?_
    refine XS.aloadN X10.here hx rfl (hb hby d5_114) rfl rfl ?_
    refine st13 _ ?_
    show Steps p.tables e below (T13.setTop (mkF m 118 #[rv o0, iv t1, rv a_ONE, iv (-3), iv 2] [(.ref o2)])) _
    refine XS.iload X13.here hx rfl (hb hby d5_118) rfl ?_
    refine XS.aloadN X13.here hx rfl (hb hby d5_120) rfl rfl ?_
    refine st14 _ ?_
    refine XS.iload X14.here hx rfl (hb hby d5_124) rfl ?_
    show Steps p.tables e below (T14.setTop (mkF m 126 #[rv o0, iv t1, rv a_ONE, iv (-3), iv 2] [(.int 2), (.ref o2), (.int 2), (.ref o2)])) _
    refine XS.iconst X14.here hx rfl (hb hby d5_126) ?_
    refine XS.iadd X14.here hx rfl (hb hby d5_127) rfl ?_
    show Steps p.tables e below (T14.setTop (mkF m 128 #[rv o0, iv t1, rv a_ONE, iv (-3), iv 2] [(.int ((2 : Int32) + (1 : Int32))), (.ref o2), (.int 2), (.ref o2)])) _
    rw [(by decide : ((2 : Int32) + (1 : Int32)) = (3 : Int32))]
    refine XS.aloadN X14.here hx rfl (hb hby d5_128) rfl rfl ?_
    refine st16 _ ?_
    refine XS.iload X16.here hx rfl (hb hby d5_132) rfl ?_
    show Steps p.tables e below (T16.setTop (mkF m 134 #[rv o0, iv t1, rv a_ONE, iv (-3), iv 2] [(.int 2), (.int 2), (.int 3), (.ref o2), (.int 2), (.ref o2)])) _
    refine XS.isub X16.here hx rfl (hb hby d5_134) rfl ?_
    show Steps p.tables e below (T16.setTop (mkF m 135 #[rv o0, iv t1, rv a_ONE, iv (-3), iv 2] [(.int ((2 : Int32) - (2 : Int32))), (.int 3), (.ref o2), (.int 2), (.ref o2)])) _
    rw [(by decide : ((2 : Int32) - (2 : Int32)) = (0 : Int32))]
    refine st19 _ ?_
    refine XS.aloadN X19.here hx rfl (hb hby d5_138) rfl rfl ?_
    refine st22 _ ?_
    show Steps p.tables e below (T22.setTop (mkF m 142 #[rv o0, iv t1, rv a_ONE, iv (-3), iv 2] [(.ref o1)])) _
    refine XS.iload X22.here hx rfl (hb hby d5_142) rfl ?_
    refine XS.iloadN X22.here hx rfl (hb hby d5_144) rfl ?_
    refine st26 _ ?_
    refine XS.aloadN X26.here hx rfl (hb hby d5_146) rfl rfl ?_
    show Steps p.tables e below (T26.setTop (mkF m 147 #[rv o0, iv t1, rv a_ONE, iv (-3), iv 2] [(.ref o0)])) _
    refine st29 _ ?_
    refine XS.iload X29.here hx rfl (hb hby d5_150) rfl ?_
    refine XS.aloadN X29.here hx rfl (hb hby d5_152) rfl rfl ?_
    refine st33 _ ?_
    show Steps p.tables e below (T33.setTop (mkF m 154 #[rv o0, iv t1, rv a_ONE, iv (-3), iv 2] [])) _
    refine XS.aloadN X33.here hx rfl (hb hby d5_154) rfl rfl ?_
    refine XS.dup X33.here hx rfl (hb hby d5_155) rfl rfl ?_
    refine st36 _ ?_
    refine XS.iconst X36.here hx rfl (hb hby d5_159) ?_
    show Steps p.tables e below (T36.setTop (mkF m 160 #[rv o0, iv t1, rv a_ONE, iv (-3), iv 2] [(.int 1), (.int 2), (.ref o0)])) _
    refine XS.iadd X36.here hx rfl (hb hby d5_160) rfl ?_
    show Steps p.tables e below (T36.setTop (mkF m 161 #[rv o0, iv t1, rv a_ONE, iv (-3), iv 2] [(.int ((2 : Int32) + (1 : Int32))), (.ref o0)])) _
    rw [(by decide : ((2 : Int32) + (1 : Int32)) = (3 : Int32))]
    refine st38 _ ?_
    exact X38.returnOut hx Bd.returns (hb hby d5_164) hr
  · show Q5_4 Z a_ONE a_ZTT e_2 e_3 t0 t1 t2 t3 t4 o0 o1 o2 j0 j1 h0 n0 _ T38.heap _
    rw [e38]
    exact ⟨rfl, N38, KK38, F40, F41, F42, f5, F43, F44, F39, F45, F46⟩
def Q3_3 (Z : State) (a_ONE : Addr) (a_ZTT : Addr) (e_2 : Addr) (e_3 : Addr) (o0 : Addr) (h0 : Heap) (n0 : Nat) (v : Option Value) (h : Heap) (L : List Loc) : Prop := v = some (.int 0) ∧ Fr n0 L ∧ h = h0
set_option maxRecDepth 65536 in
set_option maxHeartbeats 40000000 in
theorem rm3_3 (l : Launch) (Z : State) (a0 : Array Value) (hw : ∀ d ∈ tables_1, d.before a0 Z = true) (ws : List Jvm.Cond) (a_ONE : Addr) (a_ZTT : Addr) (e_2 : Addr) (e_3 : Addr) (o0 : Addr) (h0 : Heap) (n0 : Nat) (FF : Facts Z Z.heap a_ONE a_ZTT e_2 e_3) (OO : Old Z n0 h0) (f0 : Fld Z h0 o0 "com/example/deferra/deferra/crediting/DailyAmounts" "size" "I" (.int 3)) :
    MetFree l (⟨"com/example/deferra/deferra/crediting/DailyAmounts", "isEmpty", "()Z"⟩ : MethodName) (head1 (Jvm.Cond.code (⟨"com/example/deferra/deferra/crediting/DailyAmounts", "isEmpty", "()Z"⟩ : MethodName) prog_24_method_3_code 1 (some .boolean) :: ws) ({ frames := 0, cells := 0, slots := 0, locals := 0 } : Room)) (fun a U => a = #[(.ref o0)] ∧ Z.Warmed39 U.vm ∧ U.heap = h0) (fun _ _ _ _ _ => True) (fun _ U o U' => ∃ v L, o = .returned v ∧ Q3_3 Z a_ONE a_ZTT e_2 e_3 o0 h0 n0 v U'.heap L ∧ FrameEnd U o U' L ({ frames := 0, cells := 0, slots := 0, locals := 0 } : Room).cells ({ frames := 0, cells := 0, slots := 0, locals := 0 } : Room).slots) := by
  refine MetFree.of_bodySF (plainFor_of_name pn_3) hisR ?_
  intro p e s m args below meth c s₁ Bd hml0 hP hK
  obtain ⟨rfl, hZ, hh⟩ := hP
  have hx := Bd.exec
  have hby := Bd.bytes
  have hml : c.maxLocals = 1 := hml0
  have hown : s.vm.findClass "com/example/deferra/deferra/crediting/DailyAmounts" = some m.cls := findClass_of_methodNamed Bd.named
  have X0 : Stand p l e ({ frames := 0, cells := 0, slots := 0, locals := 0 } : Room) s m #[(.ref o0)] below meth c s₁ [] 0 0 := Stand.of_body Bd
  have e0 : s₁.heap = h0 := by rw [← hh, Bd.state]; rfl
  have N0 := Fr.nil n0
  have pre0 : ∀ t, Steps p.tables e below (s₁.setTop (mkF m 0 #[rv o0] [])) t → Steps p.tables e below (s₁.setTop (entryFrame m #[(.ref o0)] 1)) t := fun t k => castTop (ef_3 m o0) k
  obtain ⟨T1, X1, e1, st1⟩ := getF X0 hx hZ hown (host := "") (Or.inl (w_21 hw)) Via.refl e0 f0 (g := (mkF m 1 #[rv o0] [(.ref o0)])) rfl rfl (hb hby d3_1)
  obtain ⟨fs, hr, hrun, hended, hW, hsame⟩ := X1.leave (v := some (.int 0)) (fun h => by rw [Bd.returns] at h; cases h)
  refine ⟨_, _, pre0 _ ?_, hrun, hended, _, _, rfl, ?_, ⟨_, rfl⟩, hW, hsame.mono (by decide) (by decide)⟩
  · show Steps p.tables e below (s₁.setTop (mkF m 0 #[rv o0] [])) _
    refine XS.aloadN X0.here hx rfl (hb hby d3_0) rfl rfl ?_
    refine st1 _ ?_
    refine XS.ifYes X1.here hx rfl (pc0 := 4) (pc' := 11) rfl (hb hby d3_4) rfl (by decide) (by decide) (by decide) ?_
    refine XS.iconst X1.here hx rfl (hb hby d3_11) ?_
    show Steps p.tables e below (T1.setTop (mkF m 12 #[rv o0] [(.int 0)])) _
    exact retN X1 hx (t := .boolean) Bd.returns (by simp) (hb hby d3_12) hr
  · show Q3_3 Z a_ONE a_ZTT e_2 e_3 o0 h0 n0 _ T1.heap _
    exact ⟨rfl, N0, e1⟩
set_option maxRecDepth 65536 in
set_option maxHeartbeats 40000000 in
theorem sg_21 {p : Program} {l : Launch} {e : Env} {s : State} {m : MethodId} {args : Array Value} {below : List Frame} {meth : Method} {c : Code} {T0 : State} {locs : List Loc} {Z : State} {a0 : Array Value} {h0 : Heap} {n0 : Nat} (hw : ∀ d ∈ tables_1, d.before a0 Z = true) (a_ONE : Addr) (a_ZTT : Addr) (e_2 : Addr) (e_3 : Addr) (t0 : Int32) (t1 : Int32) (t2 : Int32) (t3 : Int32) (t4 : Int32) (t5 : Int32) (t6 : Int32) (t7 : Int32) (o0 : Addr) (o1 : Addr) (o2 : Addr) (j0 : ClassId) (j1 : ClassId) (FF : Facts Z Z.heap a_ONE a_ZTT e_2 e_3)
    (X0 : Stand p l e room_1 s m args below meth c T0 locs 3 11) (hx : p.tables.exec = Jvm.exec) (hZ : Z.Warmed39 s.vm) (hby : c.code = code) (hml : c.maxLocals = 8) (hown : s.vm.findClass "com/example/deferra/deferra/crediting/DailyAmountsIsEmptyPinLaw" = some m.cls) (e0 : T0.heap = h0) (N0 : Fr n0 locs) (OO : Old Z n0 h0) (f0 : Fld Z h0 o0 "com/example/deferra/deferra/crediting/DailyAmounts" "days" "[I" (.ref o1)) (f1 : Fld Z h0 o0 "com/example/deferra/deferra/crediting/DailyAmounts" "size" "I" (.int 2)) (f2 : Arv Z h0 o1 j0 .int (4 : Int32) [(.int t0), (.int t2), (.int t3), (.int t4)] (.int 0)) (f3 : Fld Z h0 o0 "com/example/deferra/deferra/crediting/DailyAmounts" "amounts" "[Ljava/math/BigDecimal;" (.ref o2)) (f4 : Arv Z h0 o2 j1 (.object "java/math/BigDecimal") (4 : Int32) [(.ref a_ONE), (.ref a_ONE), .null, .null] .null) (f5 : Ovr Z j1 "java/math/BigDecimal") (f6 : Exa Z h0 o0 "com/example/deferra/deferra/crediting/DailyAmounts") (f7 : Exa Z h0 o1 "[I") (f8 : Exa Z h0 o2 "[Ljava/math/BigDecimal;") (u0 : n0 ≤ o1) (v0 : o0 ≠ o1) (v1 : o2 ≠ o1) (u1 : n0 ≤ o2) (v2 : o0 ≠ o2) (u2 : n0 ≤ o0) (hq0 : t0 < t1) (hq1 : t2 < t1) :
    ∃ (T' : State) (h' : Heap) (lc : List Loc), Stand p l e room_1 s m args below meth c T' lc 3 11 ∧ T'.heap = h' ∧ Fr n0 lc ∧ Keep h0 h' [o0, o2, o1] ∧ Fld Z h' o0 "com/example/deferra/deferra/crediting/DailyAmounts" "days" "[I" (.ref o1) ∧ Fld Z h' o0 "com/example/deferra/deferra/crediting/DailyAmounts" "size" "I" (.int 3) ∧ Fld Z h' o0 "com/example/deferra/deferra/crediting/DailyAmounts" "amounts" "[Ljava/math/BigDecimal;" (.ref o2) ∧ Exa Z h' o0 "com/example/deferra/deferra/crediting/DailyAmounts" ∧ Arv Z h' o2 j1 (.object "java/math/BigDecimal") (4 : Int32) [(.ref a_ONE), (.ref a_ONE), (.ref a_ONE), .null] .null ∧ Ovr Z j1 "java/math/BigDecimal" ∧ Exa Z h' o2 "[Ljava/math/BigDecimal;" ∧ Arv Z h' o1 j0 .int (4 : Int32) [(.int t0), (.int t2), (.int t1), (.int t4)] (.int 0) ∧ Exa Z h' o1 "[I" ∧
      ∀ target, Steps p.tables e below (T'.setTop (mkF m 142 #[iv t5, iv t6, iv t7, iv t1, iv 3, rv o0, iv 1, .unset] [])) target → Steps p.tables e below (T0.setTop (mkF m 107 #[iv t5, iv t6, iv t7, iv t1, iv 3, rv o0, iv 1, .unset] [])) target := by
  obtain ⟨T1, X1, e1, st1⟩ := getS2 X0 hx hZ hown (host := "") (Or.inl (w_28 hw)) Via.refl e0 (Sta.ext OO.2 (fx_S_ONE FF)) (g := (mkF m 116 #[iv t5, iv t6, iv t7, iv t1, iv 3, rv o0, iv 1, .unset] [(.int t1), (.ref o0)])) rfl (hb hby at_116)
  obtain ⟨cq2, kq2, q2a, q2b, q2c⟩ := isOf hZ e1 f6
  obtain ⟨_, _, ⟨T2, L2, k2, n2⟩, -, X2, ⟨Lc2, hQ2, l2, y2, z2⟩, st2⟩ := X1.virtualBack hx (y := (⟨"com/example/deferra/deferra/crediting/DailyAmounts", "add", "(ILjava/math/BigDecimal;)V"⟩ : MethodName)) (z := (⟨"com/example/deferra/deferra/crediting/DailyAmounts", "add", "(ILjava/math/BigDecimal;)V"⟩ : MethodName)) hown (mvT hZ (w_30 hw)) (mvT hZ (w_31 hw)) (notFace_of_selects (args := #[]) (mvT hZ (w_33 hw))) (mvT hZ (w_33 hw)) (mvT hZ (w_32 hw)) (by decide) (backOf (W := 0) (rm5_4 l Z a0 hw [] a_ONE a_ZTT e_2 e_3 t0 t1 t2 t3 t4 o0 o1 o2 j0 j1 h0 n0 FF OO f0 f1 f2 u0 f3 v0 f4 v1 u1 v2 f5 f6 u2 f7 f8 hq0 hq1) hZ (w_34 hw) (w_2 hw) (by decide) (by decide)) q2a q2c (g := (mkF m 119 #[iv t5, iv t6, iv t7, iv t1, iv 3, rv o0, iv 1, .unset] [(.ref a_ONE), (.int t1), (.ref o0)])) rfl (by rw [hml]; rfl) (Steps.refl _) (argsL := [(.int t1), (.ref a_ONE)]) (rest := []) (lenOf pd_5 rfl) rfl (by show 2 * 0 + _ ≤ _; exact Nat.le_of_eq rfl) (hb hby at_119) (fun _ _ => ⟨rfl, e1, (by decide : 3 + 0 ≤ _), (by decide : 11 + 0 ≤ _)⟩)
  dsimp only [Pt.U, Pt.locs, Pt.cells, Pt.slots] at X2 l2 y2 z2 st2 hQ2
  subst l2 y2 z2
  obtain ⟨h2, e2⟩ : ∃ z, T2.heap = z := ⟨_, rfl⟩
  rw [e2] at hQ2
  obtain ⟨rfl, N2q, K2, R2_0, R2_1, R2_2, R2_3, R2_4, R2_5, R2_6, R2_7, R2_8⟩ := hQ2
  have N2 := Fr.app N0 N2q
  have O2 := Old.keep OO K2 (allS u0 (allS u1 (allS u2 all0)))
  have KK2 : Keep h0 h2 [o0, o2, o1] := Keep.trans (Keep.refl h0 [o0, o2, o1]) K2 (allS (Or.inl (List.mem_of_getElem? (i := 2) rfl)) (allS (Or.inl (List.mem_of_getElem? (i := 1) rfl)) (allS (Or.inl (List.mem_of_getElem? (i := 0) rfl)) all0)))
  obtain ⟨cq3, kq3, q3a, q3b, q3c⟩ := isOf hZ e2 R2_8
  obtain ⟨_, _, ⟨T3, L3, k3, n3⟩, -, X3, ⟨Lc3, hQ3, l3, y3, z3⟩, st3⟩ := X2.virtualBack hx (y := (⟨"com/example/deferra/deferra/crediting/DailyAmounts", "isEmpty", "()Z"⟩ : MethodName)) (z := (⟨"com/example/deferra/deferra/crediting/DailyAmounts", "isEmpty", "()Z"⟩ : MethodName)) hown (mvT hZ (w_16 hw)) (mvT hZ (w_17 hw)) (notFace_of_selects (args := #[]) (mvT hZ (w_19 hw))) (mvT hZ (w_19 hw)) (mvT hZ (w_18 hw)) (by decide) (backOf (W := 0) (rm3_3 l Z a0 hw [] a_ONE a_ZTT e_2 e_3 o0 h2 n0 FF O2 R2_6) hZ (w_20 hw) (w_2 hw) (by decide) (by decide)) q3a q3c (g := (mkF m 129 #[iv t5, iv t6, iv t7, iv t1, iv 3, rv o0, iv 1, .unset] [(.ref o0)])) rfl (by rw [hml]; rfl) (Steps.refl _) (argsL := []) (rest := []) (lenOf pd_1 rfl) rfl (by show 2 * 0 + _ ≤ _; exact Nat.le_of_eq rfl) (hb hby at_129) (fun _ _ => ⟨rfl, e2, (by decide : 3 + 0 ≤ _), (by decide : 11 + 0 ≤ _)⟩)
  dsimp only [Pt.U, Pt.locs, Pt.cells, Pt.slots] at X3 l3 y3 z3 st3 hQ3
  subst l3 y3 z3
  obtain ⟨rfl, N3q, e3⟩ := hQ3
  have N3 := Fr.app N2 N3q
  refine ⟨T3, h2, _, X3, e3, N3, KK2, R2_5, R2_6, R2_7, R2_8, R2_2, R2_3, R2_4, R2_0, R2_1, fun target kt => ?_⟩
  show Steps p.tables e below (T0.setTop (mkF m 107 #[iv t5, iv t6, iv t7, iv t1, iv 3, rv o0, iv 1, .unset] [])) _
  refine XS.iload X0.here hx rfl (hb hby at_107) rfl ?_
  refine XS.iconst X0.here hx rfl (hb hby at_109) ?_
  refine XS.icmpNo X0.here hx rfl (hb hby at_110) rfl (by decide) ?_
  refine XS.aload X0.here hx rfl (hb hby at_113) rfl rfl ?_
  show Steps p.tables e below (T0.setTop (mkF m 115 #[iv t5, iv t6, iv t7, iv t1, iv 3, rv o0, iv 1, .unset] [(.ref o0)])) _
  refine XS.iloadN X0.here hx rfl (hb hby at_115) rfl ?_
  refine st1 _ ?_
  refine st2.trans ?_
  refine XS.iload X2.here hx rfl (hb hby at_122) rfl ?_
  show Steps p.tables e below (T2.setTop (mkF m 124 #[iv t5, iv t6, iv t7, iv t1, iv 3, rv o0, iv 1, .unset] [(.int 1)])) _
  refine XS.ifNo X2.here hx rfl (hb hby at_124) rfl (by decide) ?_
  refine XS.aload X2.here hx rfl (hb hby at_127) rfl rfl ?_
  refine st3.trans ?_
  refine XS.ifNo X3.here hx rfl (hb hby at_132) rfl (by decide) ?_
  show Steps p.tables e below (T3.setTop (mkF m 135 #[iv t5, iv t6, iv t7, iv t1, iv 3, rv o0, iv 1, .unset] [])) _
  refine XS.iconst X3.here hx rfl (hb hby at_135) ?_
  refine XS.goto X3.here hx rfl (pc0 := 136) (pc' := 140) rfl (hb hby at_136) (by decide) (by decide) ?_
  refine XS.istore X3.here hx rfl (hb hby at_140) rfl (l' := #[iv t5, iv t6, iv t7, iv t1, iv 3, rv o0, iv 1, .unset]) rfl ?_
  exact kt
set_option maxRecDepth 65536 in
set_option maxHeartbeats 40000000 in
theorem sg_22 {p : Program} {l : Launch} {e : Env} {s : State} {m : MethodId} {args : Array Value} {below : List Frame} {meth : Method} {c : Code} {T0 : State} {locs : List Loc} {Z : State} {a0 : Array Value} {h0 : Heap} {n0 : Nat} (hw : ∀ d ∈ tables_1, d.before a0 Z = true) (a_ONE : Addr) (a_ZTT : Addr) (e_2 : Addr) (e_3 : Addr) (t0 : Int32) (t1 : Int32) (t2 : Int32) (t3 : Int32) (o0 : Addr) (FF : Facts Z Z.heap a_ONE a_ZTT e_2 e_3)
    (X0 : Stand p l e room_1 s m args below meth c T0 locs 3 11) (hx : p.tables.exec = Jvm.exec) (hZ : Z.Warmed39 s.vm) (hby : c.code = code) (hml : c.maxLocals = 8) (hown : s.vm.findClass "com/example/deferra/deferra/crediting/DailyAmountsIsEmptyPinLaw" = some m.cls) (e0 : T0.heap = h0) (N0 : Fr n0 locs) (OO : Old Z n0 h0) (f0 : Fld Z h0 o0 "com/example/deferra/deferra/crediting/DailyAmounts" "size" "I" (.int 3)) (f1 : Exa Z h0 o0 "com/example/deferra/deferra/crediting/DailyAmounts") :
    ∃ (T' : State) (h' : Heap) (lc : List Loc), Stand p l e room_1 s m args below meth c T' lc 3 11 ∧ T'.heap = h' ∧ Fr n0 lc ∧ Keep h0 h' [] ∧
      ∀ target, Steps p.tables e below (T'.setTop (mkF m 192 #[iv t0, iv t1, iv t2, iv t3, iv 3, rv o0, iv 1, iv 0] [(.int 1)])) target → Steps p.tables e below (T0.setTop (mkF m 142 #[iv t0, iv t1, iv t2, iv t3, iv 3, rv o0, iv 1, .unset] [])) target := by
  obtain ⟨cq1, kq1, q1a, q1b, q1c⟩ := isOf hZ e0 f1
  obtain ⟨_, _, ⟨T1, L1, k1, n1⟩, -, X1, ⟨Lc1, hQ1, l1, y1, z1⟩, st1⟩ := X0.virtualBack hx (y := (⟨"com/example/deferra/deferra/crediting/DailyAmounts", "isEmpty", "()Z"⟩ : MethodName)) (z := (⟨"com/example/deferra/deferra/crediting/DailyAmounts", "isEmpty", "()Z"⟩ : MethodName)) hown (mvT hZ (w_16 hw)) (mvT hZ (w_17 hw)) (notFace_of_selects (args := #[]) (mvT hZ (w_19 hw))) (mvT hZ (w_19 hw)) (mvT hZ (w_18 hw)) (by decide) (backOf (W := 0) (rm3_3 l Z a0 hw [] a_ONE a_ZTT e_2 e_3 o0 h0 n0 FF OO f0) hZ (w_20 hw) (w_2 hw) (by decide) (by decide)) q1a q1c (g := (mkF m 144 #[iv t0, iv t1, iv t2, iv t3, iv 3, rv o0, iv 1, .unset] [(.ref o0)])) rfl (by rw [hml]; rfl) (Steps.refl _) (argsL := []) (rest := []) (lenOf pd_1 rfl) rfl (by show 2 * 0 + _ ≤ _; exact Nat.le_of_eq rfl) (hb hby at_144) (fun _ _ => ⟨rfl, e0, (by decide : 3 + 0 ≤ _), (by decide : 11 + 0 ≤ _)⟩)
  dsimp only [Pt.U, Pt.locs, Pt.cells, Pt.slots] at X1 l1 y1 z1 st1 hQ1
  subst l1 y1 z1
  obtain ⟨rfl, N1q, e1⟩ := hQ1
  have N1 := Fr.app N0 N1q
  obtain ⟨cq2, kq2, q2a, q2b, q2c⟩ := isOf hZ e1 f1
  obtain ⟨_, _, ⟨T2, L2, k2, n2⟩, -, X2, ⟨Lc2, hQ2, l2, y2, z2⟩, st2⟩ := X1.virtualBack hx (y := (⟨"com/example/deferra/deferra/crediting/DailyAmounts", "size", "()I"⟩ : MethodName)) (z := (⟨"com/example/deferra/deferra/crediting/DailyAmounts", "size", "()I"⟩ : MethodName)) hown (mvT hZ (w_23 hw)) (mvT hZ (w_24 hw)) (notFace_of_selects (args := #[]) (mvT hZ (w_26 hw))) (mvT hZ (w_26 hw)) (mvT hZ (w_25 hw)) (by decide) (backOf (W := 1) (rm4_0 l Z a0 hw [] a_ONE a_ZTT e_2 e_3 (3 : Int32) o0 h0 n0 FF OO f0) hZ (w_27 hw) (w_2 hw) (by decide) (by decide)) q2a q2c (g := (mkF m 158 #[iv t0, iv t1, iv t2, iv t3, iv 3, rv o0, iv 1, iv 0] [(.ref o0), (.int 0)])) rfl (by rw [hml]; rfl) (Steps.refl _) (argsL := []) (rest := [(.int 0)]) (lenOf pd_2 rfl) rfl (by show 2 * 0 + _ ≤ _; exact Nat.le_of_eq rfl) (hb hby at_158) (fun _ _ => ⟨rfl, e1, (by decide : 3 + 0 ≤ _), (by decide : 11 + 0 ≤ _)⟩)
  dsimp only [Pt.U, Pt.locs, Pt.cells, Pt.slots] at X2 l2 y2 z2 st2 hQ2
  subst l2 y2 z2
  obtain ⟨rfl, N2q, e2⟩ := hQ2
  have N2 := Fr.app N1 N2q
  refine ⟨T2, h0, _, X2, e2, N2, (Keep.refl h0 []), fun target kt => ?_⟩
  show Steps p.tables e below (T0.setTop (mkF m 142 #[iv t0, iv t1, iv t2, iv t3, iv 3, rv o0, iv 1, .unset] [])) _
  refine XS.aload X0.here hx rfl (hb hby at_142) rfl rfl ?_
  refine st1.trans ?_
  refine XS.istore X1.here hx rfl (hb hby at_147) rfl (l' := #[iv t0, iv t1, iv t2, iv t3, iv 3, rv o0, iv 1, iv 0]) rfl ?_
  refine XS.iload X1.here hx rfl (hb hby at_149) rfl ?_
  show Steps p.tables e below (T1.setTop (mkF m 151 #[iv t0, iv t1, iv t2, iv t3, iv 3, rv o0, iv 1, iv 0] [(.int 1)])) _
  refine XS.ifNo X1.here hx rfl (hb hby at_151) rfl (by decide) ?_
  refine XS.iload X1.here hx rfl (hb hby at_154) rfl ?_
  refine XS.aload X1.here hx rfl (hb hby at_156) rfl rfl ?_
  refine st2.trans ?_
  show Steps p.tables e below (T2.setTop (mkF m 161 #[iv t0, iv t1, iv t2, iv t3, iv 3, rv o0, iv 1, iv 0] [(.int 3), (.int 0)])) _
  refine XS.ifYes X2.here hx rfl (pc0 := 161) (pc' := 168) rfl (hb hby at_161) rfl (by decide) (by decide) (by decide) ?_
  refine XS.iconst X2.here hx rfl (hb hby at_168) ?_
  refine XS.icmpNo X2.here hx rfl (hb hby at_169) rfl (by decide) ?_
  refine XS.iload X2.here hx rfl (hb hby at_172) rfl ?_
  show Steps p.tables e below (T2.setTop (mkF m 174 #[iv t0, iv t1, iv t2, iv t3, iv 3, rv o0, iv 1, iv 0] [(.int 0)])) _
  refine XS.iload X2.here hx rfl (hb hby at_174) rfl ?_
  refine XS.ifYes X2.here hx rfl (pc0 := 176) (pc' := 183) rfl (hb hby at_176) rfl (by decide) (by decide) (by decide) ?_
  refine XS.iconst X2.here hx rfl (hb hby at_183) ?_
  refine XS.icmpNo X2.here hx rfl (hb hby at_184) rfl (by decide) ?_
  show Steps p.tables e below (T2.setTop (mkF m 187 #[iv t0, iv t1, iv t2, iv t3, iv 3, rv o0, iv 1, iv 0] [])) _
  refine XS.iconst X2.here hx rfl (hb hby at_187) ?_
  refine XS.goto X2.here hx rfl (pc0 := 188) (pc' := 192) rfl (hb hby at_188) (by decide) (by decide) ?_
  exact kt
set_option maxRecDepth 65536 in
set_option maxHeartbeats 40000000 in
theorem rm0_5 (l : Launch) (Z : State) (a0 : Array Value) (hw : ∀ d ∈ tables_1, d.before a0 Z = true) (ws : List Jvm.Cond) (a_ONE : Addr) (a_ZTT : Addr) (e_2 : Addr) (e_3 : Addr) (p0 : Int32) (p1 : Int32) (p2 : Int32) (p3 : Int32) (h0 : Heap) (n0 : Nat) (FF : Facts Z Z.heap a_ONE a_ZTT e_2 e_3) (OO : Old Z n0 h0) (hk0 : (p0 &&& (3 : Int32)) = (3 : Int32)) (hd0 : p1 < p2) (hd1 : p1 < p3) (hd2 : p2 < p3) :
    MetFree l x (head1 (Jvm.Cond.code x code maxLocals ret :: ws) room_1) (fun a U => a = #[(.int p0), (.int p1), (.int p2), (.int p3)] ∧ Z.Warmed39 U.vm ∧ U.heap = h0) (fun _ _ _ _ _ => True) (fun _ U o U' => ∃ v L, o = .returned v ∧ (v = some (.int (1 : Int32)) ∧ Fr n0 L) ∧ FrameEnd U o U' L room_1.cells room_1.slots) := by
  refine MetFree.of_bodySF (plainFor_of_name pn_0) hisR ?_
  intro p e s m args below meth c s₁ Bd hml0 hP hK
  obtain ⟨rfl, hZ, hh⟩ := hP
  have hx := Bd.exec
  have hby := Bd.bytes
  have hml : c.maxLocals = 8 := hml0
  have hown : s.vm.findClass "com/example/deferra/deferra/crediting/DailyAmountsIsEmptyPinLaw" = some m.cls := findClass_of_methodNamed Bd.named
  have X0 : Stand p l e room_1 s m #[(.int p0), (.int p1), (.int p2), (.int p3)] below meth c s₁ [] 0 0 := Stand.of_body Bd
  have e0 : s₁.heap = h0 := by rw [← hh, Bd.state]; rfl
  have N0 := Fr.nil n0
  have pre0 : ∀ t, Steps p.tables e below (s₁.setTop (mkF m 0 #[iv p0, iv p1, iv p2, iv p3, .unset, .unset, .unset, .unset] [])) t → Steps p.tables e below (s₁.setTop (entryFrame m #[(.int p0), (.int p1), (.int p2), (.int p3)] maxLocals)) t := fun t k => castTop (ef_0 m p0 p1 p2 p3) k
  obtain ⟨T1, h1, lc1, b1, b2, b3, kb2, kb3, X1, e1, N1, K1, sp1_b1, sp1_b2, sp1_b3, ne1_b1_b2, ne1_b1_b3, ne1_b2_b3, R1_0, R1_1, R1_2, R1_3, R1_4, R1_5, R1_6, R1_7, R1_8, st1⟩ := sg_18 hw a_ONE a_ZTT e_2 e_3 p0 p1 p2 p3 FF X0 hx hZ hby hml hown e0 N0 OO hk0
  have g2 : n0 ≤ b1 := Nat.le_trans (own_le OO) sp1_b1
  have g3 : n0 ≤ b2 := Nat.le_trans (own_le OO) sp1_b2
  have g4 : n0 ≤ b3 := Nat.le_trans (own_le OO) sp1_b3
  have O1 := Old.keep OO K1 all0
  obtain ⟨T5, h5, lc5, X5, e5, N5, K5, R5_0, R5_1, R5_2, R5_3, R5_4, R5_5, R5_6, R5_7, R5_8, st5⟩ := sg_19 hw a_ONE a_ZTT e_2 e_3 (0 : Int32) (0 : Int32) (0 : Int32) (0 : Int32) p1 p0 p2 p3 b1 b2 b3 kb2 kb3 FF X1 hx hZ hby hml hown e1 N1 O1 R1_1 R1_3 R1_5 R1_2 R1_7 R1_8 R1_0 R1_4 R1_6 g3 ne1_b1_b2 (Ne.symm ne1_b2_b3) g4 ne1_b1_b3 g2
  have O5 := Old.keep O1 K5 (allS g2 (allS g4 (allS g3 all0)))
  obtain ⟨T6, h6, lc6, X6, e6, N6, K6, R6_0, R6_1, R6_2, R6_3, R6_4, R6_5, R6_6, R6_7, R6_8, st6⟩ := sg_20 hw a_ONE a_ZTT e_2 e_3 p1 p2 (0 : Int32) (0 : Int32) (0 : Int32) p0 p1 p3 b1 b2 b3 kb2 kb3 FF X5 hx hZ hby hml hown e5 N5 O5 R5_0 R5_1 R5_7 R5_2 R5_4 R5_5 R5_3 R5_8 R5_6 g3 ne1_b1_b2 (Ne.symm ne1_b2_b3) g4 ne1_b1_b3 g2 hd0
  have O6 := Old.keep O5 K6 (allS g2 (allS g4 (allS g3 all0)))
  obtain ⟨T7, h7, lc7, X7, e7, N7, K7, R7_0, R7_1, R7_2, R7_3, R7_4, R7_5, R7_6, R7_7, R7_8, st7⟩ := sg_21 hw a_ONE a_ZTT e_2 e_3 p1 p3 p2 (0 : Int32) (0 : Int32) p0 p1 p2 b1 b2 b3 kb2 kb3 FF X6 hx hZ hby hml hown e6 N6 O6 R6_0 R6_1 R6_7 R6_2 R6_4 R6_5 R6_3 R6_8 R6_6 g3 ne1_b1_b2 (Ne.symm ne1_b2_b3) g4 ne1_b1_b3 g2 hd1 hd2
  have O7 := Old.keep O6 K7 (allS g2 (allS g4 (allS g3 all0)))
  obtain ⟨T8, h8, lc8, X8, e8, N8, K8, st8⟩ := sg_22 hw a_ONE a_ZTT e_2 e_3 p0 p1 p2 p3 b1 FF X7 hx hZ hby hml hown e7 N7 O7 R7_1 R7_3
  have O8 := Old.keep O7 K8 all0
  obtain ⟨fs, hr, hrun, hended, hW, hsame⟩ := X8.leave (v := some (.int 1)) (fun h => by rw [Bd.returns] at h; cases h)
  refine ⟨_, _, pre0 _ ?_, hrun, hended, _, _, rfl, ?_, ⟨_, rfl⟩, hW, hsame.mono (by decide) (by decide)⟩
  · show Steps p.tables e below (s₁.setTop (mkF m 0 #[iv p0, iv p1, iv p2, iv p3, .unset, .unset, .unset, .unset] [])) _
    refine st1 _ ?_
    show Steps p.tables e below (T1.setTop (mkF m 37 #[iv p0, iv p1, iv p2, iv p3, iv 3, rv b1, iv 1, .unset] [])) _
    refine st5 _ ?_
    show Steps p.tables e below (T5.setTop (mkF m 72 #[iv p0, iv p1, iv p2, iv p3, iv 3, rv b1, iv 1, .unset] [])) _
    refine st6 _ ?_
    show Steps p.tables e below (T6.setTop (mkF m 107 #[iv p0, iv p1, iv p2, iv p3, iv 3, rv b1, iv 1, .unset] [])) _
    refine st7 _ ?_
    show Steps p.tables e below (T7.setTop (mkF m 142 #[iv p0, iv p1, iv p2, iv p3, iv 3, rv b1, iv 1, .unset] [])) _
    refine st8 _ ?_
    exact retN X8 hx (t := .boolean) Bd.returns (by simp) (hb hby at_192) hr
  · exact ⟨rfl, N8⟩
def Q8_5 (Z : State) (a_ONE : Addr) (a_ZTT : Addr) (e_2 : Addr) (e_3 : Addr) (t0 : Int32) (t1 : Int32) (t2 : Int32) (t3 : Int32) (t4 : Int32) (o0 : Addr) (j0 : ClassId) (h0 : Heap) (n0 : Nat) (v : Option Value) (h : Heap) (L : List Loc) : Prop := v = some (.int (-2)) ∧ Fr n0 L ∧ h = h0
set_option maxRecDepth 65536 in
set_option maxHeartbeats 40000000 in
theorem rm8_5 (l : Launch) (Z : State) (a0 : Array Value) (hw : ∀ d ∈ tables_1, d.before a0 Z = true) (ws : List Jvm.Cond) (a_ONE : Addr) (a_ZTT : Addr) (e_2 : Addr) (e_3 : Addr) (t0 : Int32) (t1 : Int32) (t2 : Int32) (t3 : Int32) (t4 : Int32) (o0 : Addr) (j0 : ClassId) (h0 : Heap) (n0 : Nat) (FF : Facts Z Z.heap a_ONE a_ZTT e_2 e_3) (OO : Old Z n0 h0) (f0 : Arv Z h0 o0 j0 .int (4 : Int32) [(.int t0), (.int t2), (.int t3), (.int t4)] (.int 0)) (hq0 : t0 < t1) (hq1 : ¬ (t2 < t1)) (hq2 : t1 < t2) :
    MetFree l (⟨"java/util/Arrays", "binarySearch0", "([IIII)I"⟩ : MethodName) (head1 (Jvm.Cond.code (⟨"java/util/Arrays", "binarySearch0", "([IIII)I"⟩ : MethodName) jdk_65_method_59_code 8 (some .int) :: ws) ({ frames := 0, cells := 0, slots := 0, locals := 0 } : Room)) (fun a U => a = #[(.ref o0), (.int 0), (.int 2), (.int t1)] ∧ Z.Warmed39 U.vm ∧ U.heap = h0) (fun _ _ _ _ _ => True) (fun _ U o U' => ∃ v L, o = .returned v ∧ Q8_5 Z a_ONE a_ZTT e_2 e_3 t0 t1 t2 t3 t4 o0 j0 h0 n0 v U'.heap L ∧ FrameEnd U o U' L ({ frames := 0, cells := 0, slots := 0, locals := 0 } : Room).cells ({ frames := 0, cells := 0, slots := 0, locals := 0 } : Room).slots) := by
  refine MetFree.of_bodySF (plainFor_of_name pn_8) hisR ?_
  intro p e s m args below meth c s₁ Bd hml0 hP hK
  obtain ⟨rfl, hZ, hh⟩ := hP
  have hx := Bd.exec
  have hby := Bd.bytes
  have hml : c.maxLocals = 8 := hml0
  have hown : s.vm.findClass "java/util/Arrays" = some m.cls := findClass_of_methodNamed Bd.named
  have X0 : Stand p l e ({ frames := 0, cells := 0, slots := 0, locals := 0 } : Room) s m #[(.ref o0), (.int 0), (.int 2), (.int t1)] below meth c s₁ [] 0 0 := Stand.of_body Bd
  have e0 : s₁.heap = h0 := by rw [← hh, Bd.state]; rfl
  have N0 := Fr.nil n0
  have pre0 : ∀ t, Steps p.tables e below (s₁.setTop (mkF m 0 #[rv o0, iv 0, iv 2, iv t1, .unset, .unset, .unset, .unset] [])) t → Steps p.tables e below (s₁.setTop (entryFrame m #[(.ref o0), (.int 0), (.int 2), (.int t1)] 8)) t := fun t k => castTop (ef_8 m o0 0 2 t1) k
  obtain ⟨c1, r1, q1, S1, M1, H1, G1⟩ := id f0
  have i2 : ¬ ((0 : Int32) < 0 ∨ c1.slots.size ≤ ((0 : Int32)).toNatClampNeg) := inb_of S1 ⟨by decide, by decide⟩
  have y3 : c1.slots[((0 : Int32)).toNatClampNeg]? = some (.int t0) := H1 0 (by rw [S1]; decide)
  obtain ⟨c4, r4, q4, S4, M4, H4, G4⟩ := id f0
  have i5 : ¬ ((1 : Int32) < 0 ∨ c4.slots.size ≤ ((1 : Int32)).toNatClampNeg) := inb_of S4 ⟨by decide, by decide⟩
  have y6 : c4.slots[((1 : Int32)).toNatClampNeg]? = some (.int t2) := H4 1 (by rw [S4]; decide)
  obtain ⟨fs, hr, hrun, hended, hW, hsame⟩ := X0.leave (v := some (.int (-2))) (fun h => by rw [Bd.returns] at h; cases h)
  refine ⟨_, _, pre0 _ ?_, hrun, hended, _, _, rfl, ?_, ⟨_, rfl⟩, hW, hsame.mono (by decide) (by decide)⟩
  · show Steps p.tables e below (s₁.setTop (mkF m 0 #[rv o0, iv 0, iv 2, iv t1, .unset, .unset, .unset, .unset] [])) _
    refine XS.iloadN X0.here hx rfl (hb hby d8_0) rfl ?_
    refine XS.istore X0.here hx rfl (hb hby d8_1) rfl (l' := #[rv o0, iv 0, iv 2, iv t1, iv 0, .unset, .unset, .unset]) rfl ?_
    refine XS.iloadN X0.here hx rfl (hb hby d8_3) rfl ?_
    refine XS.iconst X0.here hx rfl (hb hby d8_4) ?_
    show Steps p.tables e below (s₁.setTop (mkF m 5 #[rv o0, iv 0, iv 2, iv t1, iv 0, .unset, .unset, .unset] [(.int 1), (.int 2)])) _
    refine XS.isub X0.here hx rfl (hb hby d8_5) rfl ?_
    show Steps p.tables e below (s₁.setTop (mkF m 6 #[rv o0, iv 0, iv 2, iv t1, iv 0, .unset, .unset, .unset] [(.int ((2 : Int32) - (1 : Int32)))])) _
    rw [(by decide : ((2 : Int32) - (1 : Int32)) = (1 : Int32))]
    refine XS.istore X0.here hx rfl (hb hby d8_6) rfl (l' := #[rv o0, iv 0, iv 2, iv t1, iv 0, iv 1, .unset, .unset]) rfl ?_
    refine XS.iload X0.here hx rfl (hb hby d8_8) rfl ?_
    refine XS.iload X0.here hx rfl (hb hby d8_10) rfl ?_
    show Steps p.tables e below (s₁.setTop (mkF m 12 #[rv o0, iv 0, iv 2, iv t1, iv 0, iv 1, .unset, .unset] [(.int 1), (.int 0)])) _
    refine XS.icmpNo X0.here hx rfl (hb hby d8_12) rfl (by decide) ?_
    refine XS.iload X0.here hx rfl (hb hby d8_15) rfl ?_
    refine XS.iload X0.here hx rfl (hb hby d8_17) rfl ?_
    refine XS.iadd X0.here hx rfl (hb hby d8_19) rfl ?_
    show Steps p.tables e below (s₁.setTop (mkF m 20 #[rv o0, iv 0, iv 2, iv t1, iv 0, iv 1, .unset, .unset] [(.int ((0 : Int32) + (1 : Int32)))])) _
    rw [(by decide : ((0 : Int32) + (1 : Int32)) = (1 : Int32))]
    refine XS.iconst X0.here hx rfl (hb hby d8_20) ?_
    refine XS.iushr X0.here hx rfl (hb hby d8_21) rfl ?_
    show Steps p.tables e below (s₁.setTop (mkF m 22 #[rv o0, iv 0, iv 2, iv t1, iv 0, iv 1, .unset, .unset] [(.int (((1 : Int32).toUInt32 >>> ((1 : Int32) &&& 31).toUInt32).toInt32))])) _
    rw [(by decide : (((1 : Int32).toUInt32 >>> ((1 : Int32) &&& 31).toUInt32).toInt32) = (0 : Int32))]
    refine XS.istore X0.here hx rfl (hb hby d8_22) rfl (l' := #[rv o0, iv 0, iv 2, iv t1, iv 0, iv 1, iv 0, .unset]) rfl ?_
    refine XS.aloadN X0.here hx rfl (hb hby d8_24) rfl rfl ?_
    refine XS.iload X0.here hx rfl (hb hby d8_25) rfl ?_
    show Steps p.tables e below (s₁.setTop (mkF m 27 #[rv o0, iv 0, iv 2, iv t1, iv 0, iv 1, iv 0, .unset] [(.int 0), (.ref o0)])) _
    refine X0.iaload hx (j := (0 : Int32)) (v := (.int t0)) (by rw [e0]; exact r1.1) (State.isArrayOf_alike hZ.alike r1.2.1) r1.2.2 i2 y3 (g := (mkF m 27 #[rv o0, iv 0, iv 2, iv t1, iv 0, iv 1, iv 0, .unset] [(.int 0), (.ref o0)])) rfl rfl (hb hby d8_27) _ ?_
    refine XS.istore X0.here hx rfl (hb hby d8_28) rfl (l' := #[rv o0, iv 0, iv 2, iv t1, iv 0, iv 1, iv 0, iv t0]) rfl ?_
    refine XS.iload X0.here hx rfl (hb hby d8_30) rfl ?_
    refine XS.iloadN X0.here hx rfl (hb hby d8_32) rfl ?_
    show Steps p.tables e below (s₁.setTop (mkF m 33 #[rv o0, iv 0, iv 2, iv t1, iv 0, iv 1, iv 0, iv t0] [(.int t1), (.int t0)])) _
    refine XS.icmpNo X0.here hx rfl (hb hby d8_33) rfl (tlt hq0).2.1 ?_
    refine XS.iload X0.here hx rfl (hb hby d8_36) rfl ?_
    refine XS.iconst X0.here hx rfl (hb hby d8_38) ?_
    refine XS.iadd X0.here hx rfl (hb hby d8_39) rfl ?_
    show Steps p.tables e below (s₁.setTop (mkF m 40 #[rv o0, iv 0, iv 2, iv t1, iv 0, iv 1, iv 0, iv t0] [(.int ((0 : Int32) + (1 : Int32)))])) _
    rw [(by decide : ((0 : Int32) + (1 : Int32)) = (1 : Int32))]
    refine XS.istore X0.here hx rfl (hb hby d8_40) rfl (l' := #[rv o0, iv 0, iv 2, iv t1, iv 1, iv 1, iv 0, iv t0]) rfl ?_
    refine XS.goto X0.here hx rfl (pc0 := 42) (pc' := 63) rfl (hb hby d8_42) (by decide) (by decide) ?_
    refine XS.goto X0.here hx rfl (pc0 := 63) (pc' := 8) rfl (hb hby d8_63) (by decide) (by decide) ?_
    show Steps p.tables e below (s₁.setTop (mkF m 8 #[rv o0, iv 0, iv 2, iv t1, iv 1, iv 1, iv 0, iv t0] [])) _
    refine XS.iload X0.here hx rfl (hb hby d8_8) rfl ?_
    refine XS.iload X0.here hx rfl (hb hby d8_10) rfl ?_
    refine XS.icmpNo X0.here hx rfl (hb hby d8_12) rfl (by decide) ?_
    refine XS.iload X0.here hx rfl (hb hby d8_15) rfl ?_
    show Steps p.tables e below (s₁.setTop (mkF m 17 #[rv o0, iv 0, iv 2, iv t1, iv 1, iv 1, iv 0, iv t0] [(.int 1)])) _
    refine XS.iload X0.here hx rfl (hb hby d8_17) rfl ?_
    refine XS.iadd X0.here hx rfl (hb hby d8_19) rfl ?_
    show Steps p.tables e below (s₁.setTop (mkF m 20 #[rv o0, iv 0, iv 2, iv t1, iv 1, iv 1, iv 0, iv t0] [(.int ((1 : Int32) + (1 : Int32)))])) _
    rw [(by decide : ((1 : Int32) + (1 : Int32)) = (2 : Int32))]
    refine XS.iconst X0.here hx rfl (hb hby d8_20) ?_
    refine XS.iushr X0.here hx rfl (hb hby d8_21) rfl ?_
    show Steps p.tables e below (s₁.setTop (mkF m 22 #[rv o0, iv 0, iv 2, iv t1, iv 1, iv 1, iv 0, iv t0] [(.int (((2 : Int32).toUInt32 >>> ((1 : Int32) &&& 31).toUInt32).toInt32))])) _
    rw [(by decide : (((2 : Int32).toUInt32 >>> ((1 : Int32) &&& 31).toUInt32).toInt32) = (1 : Int32))]
    refine XS.istore X0.here hx rfl (hb hby d8_22) rfl (l' := #[rv o0, iv 0, iv 2, iv t1, iv 1, iv 1, iv 1, iv t0]) rfl ?_
    refine XS.aloadN X0.here hx rfl (hb hby d8_24) rfl rfl ?_
    refine XS.iload X0.here hx rfl (hb hby d8_25) rfl ?_
    show Steps p.tables e below (s₁.setTop (mkF m 27 #[rv o0, iv 0, iv 2, iv t1, iv 1, iv 1, iv 1, iv t0] [(.int 1), (.ref o0)])) _
    refine X0.iaload hx (j := (1 : Int32)) (v := (.int t2)) (by rw [e0]; exact r4.1) (State.isArrayOf_alike hZ.alike r4.2.1) r4.2.2 i5 y6 (g := (mkF m 27 #[rv o0, iv 0, iv 2, iv t1, iv 1, iv 1, iv 1, iv t0] [(.int 1), (.ref o0)])) rfl rfl (hb hby d8_27) _ ?_
    refine XS.istore X0.here hx rfl (hb hby d8_28) rfl (l' := #[rv o0, iv 0, iv 2, iv t1, iv 1, iv 1, iv 1, iv t2]) rfl ?_
    refine XS.iload X0.here hx rfl (hb hby d8_30) rfl ?_
    refine XS.iloadN X0.here hx rfl (hb hby d8_32) rfl ?_
    show Steps p.tables e below (s₁.setTop (mkF m 33 #[rv o0, iv 0, iv 2, iv t1, iv 1, iv 1, iv 1, iv t2] [(.int t1), (.int t2)])) _
    refine XS.icmpYes X0.here hx rfl (pc0 := 33) (pc' := 45) rfl (hb hby d8_33) rfl (flt hq1).2.1 (by decide) (by decide) ?_
    refine XS.iload X0.here hx rfl (hb hby d8_45) rfl ?_
    refine XS.iloadN X0.here hx rfl (hb hby d8_47) rfl ?_
    refine XS.icmpNo X0.here hx rfl (hb hby d8_48) rfl (tlt hq2).2.2.2 ?_
    show Steps p.tables e below (s₁.setTop (mkF m 51 #[rv o0, iv 0, iv 2, iv t1, iv 1, iv 1, iv 1, iv t2] [])) _
    refine XS.iload X0.here hx rfl (hb hby d8_51) rfl ?_
    refine XS.iconst X0.here hx rfl (hb hby d8_53) ?_
    refine XS.isub X0.here hx rfl (hb hby d8_54) rfl ?_
    show Steps p.tables e below (s₁.setTop (mkF m 55 #[rv o0, iv 0, iv 2, iv t1, iv 1, iv 1, iv 1, iv t2] [(.int ((1 : Int32) - (1 : Int32)))])) _
    rw [(by decide : ((1 : Int32) - (1 : Int32)) = (0 : Int32))]
    refine XS.istore X0.here hx rfl (hb hby d8_55) rfl (l' := #[rv o0, iv 0, iv 2, iv t1, iv 1, iv 0, iv 1, iv t2]) rfl ?_
    refine XS.goto X0.here hx rfl (pc0 := 57) (pc' := 63) rfl (hb hby d8_57) (by decide) (by decide) ?_
    refine XS.goto X0.here hx rfl (pc0 := 63) (pc' := 8) rfl (hb hby d8_63) (by decide) (by decide) ?_
    show Steps p.tables e below (s₁.setTop (mkF m 8 #[rv o0, iv 0, iv 2, iv t1, iv 1, iv 0, iv 1, iv t2] [])) _
    refine XS.iload X0.here hx rfl (hb hby d8_8) rfl ?_
    refine XS.iload X0.here hx rfl (hb hby d8_10) rfl ?_
    refine XS.icmpYes X0.here hx rfl (pc0 := 12) (pc' := 66) rfl (hb hby d8_12) rfl (by decide) (by decide) (by decide) ?_
    refine XS.iload X0.here hx rfl (hb hby d8_66) rfl ?_
    show Steps p.tables e below (s₁.setTop (mkF m 68 #[rv o0, iv 0, iv 2, iv t1, iv 1, iv 0, iv 1, iv t2] [(.int 1)])) _
    refine XS.iconst X0.here hx rfl (hb hby d8_68) ?_
    refine XS.iadd X0.here hx rfl (hb hby d8_69) rfl ?_
    show Steps p.tables e below (s₁.setTop (mkF m 70 #[rv o0, iv 0, iv 2, iv t1, iv 1, iv 0, iv 1, iv t2] [(.int ((1 : Int32) + (1 : Int32)))])) _
    rw [(by decide : ((1 : Int32) + (1 : Int32)) = (2 : Int32))]
    refine XS.ineg X0.here hx rfl (hb hby d8_70) rfl ?_
    show Steps p.tables e below (s₁.setTop (mkF m 71 #[rv o0, iv 0, iv 2, iv t1, iv 1, iv 0, iv 1, iv t2] [(.int (-(2 : Int32)))])) _
    rw [(by decide : (-(2 : Int32)) = (-2 : Int32))]
    exact retI X0 hx Bd.returns (hb hby d8_71) hr
  · show Q8_5 Z a_ONE a_ZTT e_2 e_3 t0 t1 t2 t3 t4 o0 j0 h0 n0 _ s₁.heap _
    exact ⟨rfl, N0, e0⟩
def Q6_5 (Z : State) (a_ONE : Addr) (a_ZTT : Addr) (e_2 : Addr) (e_3 : Addr) (t0 : Int32) (t1 : Int32) (t2 : Int32) (t3 : Int32) (t4 : Int32) (o0 : Addr) (j0 : ClassId) (h0 : Heap) (n0 : Nat) (v : Option Value) (h : Heap) (L : List Loc) : Prop := v = some (.int (-2)) ∧ Fr n0 L ∧ h = h0
set_option maxRecDepth 65536 in
set_option maxHeartbeats 40000000 in
theorem rm6_5 (l : Launch) (Z : State) (a0 : Array Value) (hw : ∀ d ∈ tables_1, d.before a0 Z = true) (ws : List Jvm.Cond) (a_ONE : Addr) (a_ZTT : Addr) (e_2 : Addr) (e_3 : Addr) (t0 : Int32) (t1 : Int32) (t2 : Int32) (t3 : Int32) (t4 : Int32) (o0 : Addr) (j0 : ClassId) (h0 : Heap) (n0 : Nat) (FF : Facts Z Z.heap a_ONE a_ZTT e_2 e_3) (OO : Old Z n0 h0) (f0 : Arv Z h0 o0 j0 .int (4 : Int32) [(.int t0), (.int t2), (.int t3), (.int t4)] (.int 0)) (hq0 : t0 < t1) (hq1 : ¬ (t2 < t1)) (hq2 : t1 < t2) :
    MetFree l (⟨"java/util/Arrays", "binarySearch", "([IIII)I"⟩ : MethodName) (head1 (Jvm.Cond.code (⟨"java/util/Arrays", "binarySearch", "([IIII)I"⟩ : MethodName) jdk_65_method_58_code 4 (some .int) :: ws) ({ frames := 1, cells := 0, slots := 0, locals := 19 } : Room)) (fun a U => a = #[(.ref o0), (.int 0), (.int 2), (.int t1)] ∧ Z.Warmed39 U.vm ∧ U.heap = h0) (fun _ _ _ _ _ => True) (fun _ U o U' => ∃ v L, o = .returned v ∧ Q6_5 Z a_ONE a_ZTT e_2 e_3 t0 t1 t2 t3 t4 o0 j0 h0 n0 v U'.heap L ∧ FrameEnd U o U' L ({ frames := 1, cells := 0, slots := 0, locals := 19 } : Room).cells ({ frames := 1, cells := 0, slots := 0, locals := 19 } : Room).slots) := by
  refine MetFree.of_bodySF (plainFor_of_name pn_6) hisR ?_
  intro p e s m args below meth c s₁ Bd hml0 hP hK
  obtain ⟨rfl, hZ, hh⟩ := hP
  have hx := Bd.exec
  have hby := Bd.bytes
  have hml : c.maxLocals = 4 := hml0
  have hown : s.vm.findClass "java/util/Arrays" = some m.cls := findClass_of_methodNamed Bd.named
  have X0 : Stand p l e ({ frames := 1, cells := 0, slots := 0, locals := 19 } : Room) s m #[(.ref o0), (.int 0), (.int 2), (.int t1)] below meth c s₁ [] 0 0 := Stand.of_body Bd
  have e0 : s₁.heap = h0 := by rw [← hh, Bd.state]; rfl
  have N0 := Fr.nil n0
  have pre0 : ∀ t, Steps p.tables e below (s₁.setTop (mkF m 0 #[rv o0, iv 0, iv 2, iv t1] [])) t → Steps p.tables e below (s₁.setTop (entryFrame m #[(.ref o0), (.int 0), (.int 2), (.int t1)] 4)) t := fun t k => castTop (ef_6 m o0 0 2 t1) k
  obtain ⟨c1, r1, q1, S1, M1, H1, G1⟩ := id f0
  obtain ⟨_, _, ⟨T2, L2, k2, n2⟩, -, X2, ⟨Lc2, hQ2, l2, y2, z2⟩, st2⟩ := Jvm.LawKit.callS X0 hx (y := (⟨"java/util/Arrays", "rangeCheck", "(III)V"⟩ : MethodName)) hown (mvT hZ (w_39 hw)) (mvT hZ (w_40 hw)) (mvT hZ (w_37 hw)) (mvT hZ (w_41 hw)) (by decide) (backOf (W := 0) (rm7_2 l Z a0 hw [] a_ONE a_ZTT e_2 e_3 h0 n0 FF OO) hZ (w_41 hw) (w_37 hw) (by decide) (by decide)) (g := (mkF m 4 #[rv o0, iv 0, iv 2, iv t1] [(.int 2), (.int 0), (.int 4)])) rfl (by rw [hml]; rfl) (argsL := [(.int 4), (.int 0), (.int 2)]) (rest := []) (lenOf pd_3 rfl) rfl (by show 2 * 0 + _ ≤ _; exact Nat.le_of_eq rfl) (hb hby d6_4) (fun _ _ => ⟨rfl, e0, (by decide : 0 + 0 ≤ _), (by decide : 0 + 0 ≤ _)⟩)
  dsimp only [Pt.U, Pt.locs, Pt.cells, Pt.slots] at X2 l2 y2 z2 st2 hQ2
  subst l2 y2 z2
  obtain ⟨rfl, N2q, e2⟩ := hQ2
  have N2 := Fr.app N0 N2q
  obtain ⟨_, _, ⟨T3, L3, k3, n3⟩, -, X3, ⟨Lc3, hQ3, l3, y3, z3⟩, st3⟩ := Jvm.LawKit.callS X2 hx (y := (⟨"java/util/Arrays", "binarySearch0", "([IIII)I"⟩ : MethodName)) hown (mvT hZ (w_42 hw)) (mvT hZ (w_43 hw)) (mvT hZ (w_37 hw)) (mvT hZ (w_44 hw)) (by decide) (backOf (W := 0) (rm8_5 l Z a0 hw [] a_ONE a_ZTT e_2 e_3 t0 t1 t2 t3 t4 o0 j0 h0 n0 FF OO f0 hq0 hq1 hq2) hZ (w_44 hw) (w_37 hw) (by decide) (by decide)) (g := (mkF m 11 #[rv o0, iv 0, iv 2, iv t1] [(.int t1), (.int 2), (.int 0), (.ref o0)])) rfl (by rw [hml]; rfl) (argsL := [(.ref o0), (.int 0), (.int 2), (.int t1)]) (rest := []) (lenOf pd_4 rfl) rfl (by show 2 * 0 + _ ≤ _; exact Nat.le_of_eq rfl) (hb hby d6_11) (fun _ _ => ⟨rfl, e2, (by decide : 0 + 0 ≤ _), (by decide : 0 + 0 ≤ _)⟩)
  dsimp only [Pt.U, Pt.locs, Pt.cells, Pt.slots] at X3 l3 y3 z3 st3 hQ3
  subst l3 y3 z3
  obtain ⟨rfl, N3q, e3⟩ := hQ3
  have N3 := Fr.app N2 N3q
  obtain ⟨fs, hr, hrun, hended, hW, hsame⟩ := X3.leave (v := some (.int (-2))) (fun h => by rw [Bd.returns] at h; cases h)
  refine ⟨_, _, pre0 _ ?_, hrun, hended, _, _, rfl, ?_, ⟨_, rfl⟩, hW, hsame.mono (by decide) (by decide)⟩
  · show Steps p.tables e below (s₁.setTop (mkF m 0 #[rv o0, iv 0, iv 2, iv t1] [])) _
    refine XS.aloadN X0.here hx rfl (hb hby d6_0) rfl rfl ?_
    refine X0.arraylength hx (by rw [e0]; exact r1.1) (State.isArrayOf_alike hZ.alike r1.2.1) (g := (mkF m 1 #[rv o0, iv 0, iv 2, iv t1] [(.ref o0)])) rfl rfl (hb hby d6_1) _ ?_
    rw [len_of S1 M1]
    refine XS.iloadN X0.here hx rfl (hb hby d6_2) rfl ?_
    show Steps p.tables e below (s₁.setTop (mkF m 3 #[rv o0, iv 0, iv 2, iv t1] [(.int 0), (.int 4)])) _
    refine XS.iloadN X0.here hx rfl (hb hby d6_3) rfl ?_
    refine st2 _ ?_
    refine XS.aloadN X2.here hx rfl (hb hby d6_7) rfl rfl ?_
    refine XS.iloadN X2.here hx rfl (hb hby d6_8) rfl ?_
    show Steps p.tables e below (T2.setTop (mkF m 9 #[rv o0, iv 0, iv 2, iv t1] [(.int 0), (.ref o0)])) _
    refine XS.iloadN X2.here hx rfl (hb hby d6_9) rfl ?_
    refine XS.iloadN X2.here hx rfl (hb hby d6_10) rfl ?_
    refine st3 _ ?_
    exact retI X3 hx Bd.returns (hb hby d6_14) hr
  · show Q6_5 Z a_ONE a_ZTT e_2 e_3 t0 t1 t2 t3 t4 o0 j0 h0 n0 _ T3.heap _
    exact ⟨rfl, N3, e3⟩
def Q5_5 (Z : State) (a_ONE : Addr) (a_ZTT : Addr) (e_2 : Addr) (e_3 : Addr) (t0 : Int32) (t1 : Int32) (t2 : Int32) (t3 : Int32) (t4 : Int32) (o0 : Addr) (o1 : Addr) (o2 : Addr) (j0 : ClassId) (j1 : ClassId) (h0 : Heap) (n0 : Nat) (v : Option Value) (h : Heap) (L : List Loc) : Prop := v = none ∧ Fr n0 L ∧ Keep h0 h [o1, o2, o0] ∧ Arv Z h o1 j0 .int (4 : Int32) [(.int t0), (.int t1), (.int t2), (.int t4)] (.int 0) ∧ Exa Z h o1 "[I" ∧ Arv Z h o2 j1 (.object "java/math/BigDecimal") (4 : Int32) [(.ref a_ONE), (.ref a_ONE), (.ref a_ONE), .null] .null ∧ Ovr Z j1 "java/math/BigDecimal" ∧ Exa Z h o2 "[Ljava/math/BigDecimal;" ∧ Fld Z h o0 "com/example/deferra/deferra/crediting/DailyAmounts" "days" "[I" (.ref o1) ∧ Fld Z h o0 "com/example/deferra/deferra/crediting/DailyAmounts" "size" "I" (.int 3) ∧ Fld Z h o0 "com/example/deferra/deferra/crediting/DailyAmounts" "amounts" "[Ljava/math/BigDecimal;" (.ref o2) ∧ Exa Z h o0 "com/example/deferra/deferra/crediting/DailyAmounts"
set_option maxRecDepth 65536 in
set_option maxHeartbeats 40000000 in
theorem rm5_5 (l : Launch) (Z : State) (a0 : Array Value) (hw : ∀ d ∈ tables_1, d.before a0 Z = true) (ws : List Jvm.Cond) (a_ONE : Addr) (a_ZTT : Addr) (e_2 : Addr) (e_3 : Addr) (t0 : Int32) (t1 : Int32) (t2 : Int32) (t3 : Int32) (t4 : Int32) (o0 : Addr) (o1 : Addr) (o2 : Addr) (j0 : ClassId) (j1 : ClassId) (h0 : Heap) (n0 : Nat) (FF : Facts Z Z.heap a_ONE a_ZTT e_2 e_3) (OO : Old Z n0 h0) (f0 : Fld Z h0 o0 "com/example/deferra/deferra/crediting/DailyAmounts" "days" "[I" (.ref o1)) (f1 : Fld Z h0 o0 "com/example/deferra/deferra/crediting/DailyAmounts" "size" "I" (.int 2)) (f2 : Arv Z h0 o1 j0 .int (4 : Int32) [(.int t0), (.int t2), (.int t3), (.int t4)] (.int 0)) (u0 : n0 ≤ o1) (f3 : Fld Z h0 o0 "com/example/deferra/deferra/crediting/DailyAmounts" "amounts" "[Ljava/math/BigDecimal;" (.ref o2)) (v0 : o0 ≠ o1) (f4 : Arv Z h0 o2 j1 (.object "java/math/BigDecimal") (4 : Int32) [(.ref a_ONE), (.ref a_ONE), .null, .null] .null) (v1 : o2 ≠ o1) (f5 : Ovr Z j1 "java/math/BigDecimal") (u1 : n0 ≤ o2) (v2 : o0 ≠ o2) (f6 : Exa Z h0 o0 "com/example/deferra/deferra/crediting/DailyAmounts") (u2 : n0 ≤ o0) (f7 : Exa Z h0 o1 "[I") (f8 : Exa Z h0 o2 "[Ljava/math/BigDecimal;") (hq0 : t0 < t1) (hq1 : ¬ (t2 < t1)) (hq2 : t1 < t2) :
    MetFree l (⟨"com/example/deferra/deferra/crediting/DailyAmounts", "add", "(ILjava/math/BigDecimal;)V"⟩ : MethodName) (head1 (Jvm.Cond.code (⟨"com/example/deferra/deferra/crediting/DailyAmounts", "add", "(ILjava/math/BigDecimal;)V"⟩ : MethodName) prog_24_method_2_code 5 none :: ws) ({ frames := 2, cells := 0, slots := 0, locals := 34 } : Room)) (fun a U => a = #[(.ref o0), (.int t1), (.ref a_ONE)] ∧ Z.Warmed39 U.vm ∧ U.heap = h0) (fun _ _ _ _ _ => True) (fun _ U o U' => ∃ v L, o = .returned v ∧ Q5_5 Z a_ONE a_ZTT e_2 e_3 t0 t1 t2 t3 t4 o0 o1 o2 j0 j1 h0 n0 v U'.heap L ∧ FrameEnd U o U' L ({ frames := 2, cells := 0, slots := 0, locals := 34 } : Room).cells ({ frames := 2, cells := 0, slots := 0, locals := 34 } : Room).slots) := by
  refine MetFree.of_bodySF (plainFor_of_name pn_5) hisR ?_
  intro p e s m args below meth c s₁ Bd hml0 hP hK
  obtain ⟨rfl, hZ, hh⟩ := hP
  have hx := Bd.exec
  have hby := Bd.bytes
  have hml : c.maxLocals = 5 := hml0
  have hown : s.vm.findClass "com/example/deferra/deferra/crediting/DailyAmounts" = some m.cls := findClass_of_methodNamed Bd.named
  have X0 : Stand p l e ({ frames := 2, cells := 0, slots := 0, locals := 34 } : Room) s m #[(.ref o0), (.int t1), (.ref a_ONE)] below meth c s₁ [] 0 0 := Stand.of_body Bd
  have e0 : s₁.heap = h0 := by rw [← hh, Bd.state]; rfl
  have N0 := Fr.nil n0
  have pre0 : ∀ t, Steps p.tables e below (s₁.setTop (mkF m 0 #[rv o0, iv t1, rv a_ONE, .unset, .unset] [])) t → Steps p.tables e below (s₁.setTop (entryFrame m #[(.ref o0), (.int t1), (.ref a_ONE)] 5)) t := fun t k => castTop (ef_5 m o0 t1 a_ONE) k
  obtain ⟨T1, X1, e1, st1⟩ := getF X0 hx hZ hown (host := "") (Or.inl (w_10 hw)) Via.refl e0 f0 (g := (mkF m 1 #[rv o0, iv t1, rv a_ONE, .unset, .unset] [(.ref o0)])) rfl rfl (hb hby d5_1)
  obtain ⟨T2, X2, e2, st2⟩ := getF X1 hx hZ hown (host := "") (Or.inl (w_21 hw)) Via.refl e1 f1 (g := (mkF m 6 #[rv o0, iv t1, rv a_ONE, .unset, .unset] [(.ref o0), (.int 0), (.ref o1)])) rfl rfl (hb hby d5_6)
  obtain ⟨_, _, ⟨T3, L3, k3, n3⟩, -, X3, ⟨Lc3, hQ3, l3, y3, z3⟩, st3⟩ := Jvm.LawKit.callS X2 hx (y := (⟨"java/util/Arrays", "binarySearch", "([IIII)I"⟩ : MethodName)) hown (mvT hZ (w_35 hw)) (mvT hZ (w_36 hw)) (mvT hZ (w_37 hw)) (mvT hZ (w_38 hw)) (by decide) (backOf (W := 0) (rm6_5 l Z a0 hw [] a_ONE a_ZTT e_2 e_3 t0 t1 t2 t3 t4 o1 j0 h0 n0 FF OO f2 hq0 hq1 hq2) hZ (w_38 hw) (w_37 hw) (by decide) (by decide)) (g := (mkF m 10 #[rv o0, iv t1, rv a_ONE, .unset, .unset] [(.int t1), (.int 2), (.int 0), (.ref o1)])) rfl (by rw [hml]; rfl) (argsL := [(.ref o1), (.int 0), (.int 2), (.int t1)]) (rest := []) (lenOf pd_4 rfl) rfl (by show 2 * 0 + _ ≤ _; exact Nat.le_of_eq rfl) (hb hby d5_10) (fun _ _ => ⟨rfl, e2, (by decide : 0 + 0 ≤ _), (by decide : 0 + 0 ≤ _)⟩)
  dsimp only [Pt.U, Pt.locs, Pt.cells, Pt.slots] at X3 l3 y3 z3 st3 hQ3
  subst l3 y3 z3
  obtain ⟨rfl, N3q, e3⟩ := hQ3
  have N3 := Fr.app N0 N3q
  obtain ⟨T4, X4, e4, st4⟩ := getF X3 hx hZ hown (host := "") (Or.inl (w_21 hw)) Via.refl e3 f1 (g := (mkF m 42 #[rv o0, iv t1, rv a_ONE, iv (-2), iv 1] [(.ref o0)])) rfl rfl (hb hby d5_42)
  obtain ⟨T5, X5, e5, st5⟩ := getF X4 hx hZ hown (host := "") (Or.inl (w_10 hw)) Via.refl e4 f0 (g := (mkF m 46 #[rv o0, iv t1, rv a_ONE, iv (-2), iv 1] [(.ref o0), (.int 2)])) rfl rfl (hb hby d5_46)
  obtain ⟨c6, r6, q6, S6, M6, H6, G6⟩ := id f2
  obtain ⟨T7, X7, e7, st7⟩ := getF X5 hx hZ hown (host := "") (Or.inl (w_10 hw)) Via.refl e5 f0 (g := (mkF m 91 #[rv o0, iv t1, rv a_ONE, iv (-2), iv 1] [(.ref o0)])) rfl rfl (hb hby d5_91)
  obtain ⟨T8, X8, e8, st8⟩ := getF X7 hx hZ hown (host := "") (Or.inl (w_10 hw)) Via.refl e7 f0 (g := (mkF m 97 #[rv o0, iv t1, rv a_ONE, iv (-2), iv 1] [(.ref o0), (.int 1), (.ref o1)])) rfl rfl (hb hby d5_97)
  obtain ⟨T9, X9, e9, st9⟩ := getF X8 hx hZ hown (host := "") (Or.inl (w_21 hw)) Via.refl e8 f1 (g := (mkF m 105 #[rv o0, iv t1, rv a_ONE, iv (-2), iv 1] [(.ref o0), (.int 2), (.ref o1), (.int 1), (.ref o1)])) rfl rfl (hb hby d5_105)
  obtain ⟨T10, h10, L10, X10, e10, N10, K10, V10, st10⟩ := cpA X9 hx hZ hown (w_45 hw) (w_48 hw) (w_46 hw) (w_47 hw) e9 f2 f2 (us := [(.int t2)]) (Or.inl ⟨rfl, rfl⟩) (by decide) (by decide) (by decide) (by decide) (by decide) rfl (Nat.le_of_ble_eq_true rfl) N3 u0 (g := (mkF m 111 #[rv o0, iv t1, rv a_ONE, iv (-2), iv 1] [(.int 1), (.int 2), (.ref o1), (.int 1), (.ref o1)])) rfl (by rw [hml]; rfl) (rest := []) rfl (hb hby d5_111) (by decide) (W := 0) (by show 2 * 0 + _ ≤ _; exact Nat.le_of_eq rfl) (by decide)
  have O10 := Old.keep OO K10 (allS u0 all0)
  have KK10 : Keep h0 h10 [o1, o2, o0] := Keep.trans (Keep.refl h0 [o1, o2, o0]) K10 (allS (Or.inl (List.mem_of_getElem? (i := 0) rfl)) all0)
  have F11 : Arv Z h10 o1 j0 .int (4 : Int32) [(.int t0), (.int t2), (.int t2), (.int t4)] (.int 0) := V10
  have F12 : Fld Z h10 o0 "com/example/deferra/deferra/crediting/DailyAmounts" "amounts" "[Ljava/math/BigDecimal;" (.ref o2) := (Fld.keep f3 K10 (ninS v0 nin0))
  obtain ⟨T13, X13, e13, st13⟩ := getF X10 hx hZ hown (host := "") (Or.inl (w_14 hw)) Via.refl e10 F12 (g := (mkF m 115 #[rv o0, iv t1, rv a_ONE, iv (-2), iv 1] [(.ref o0)])) rfl rfl (hb hby d5_115)
  obtain ⟨T14, X14, e14, st14⟩ := getF X13 hx hZ hown (host := "") (Or.inl (w_14 hw)) Via.refl e13 F12 (g := (mkF m 121 #[rv o0, iv t1, rv a_ONE, iv (-2), iv 1] [(.ref o0), (.int 1), (.ref o2)])) rfl rfl (hb hby d5_121)
  have F15 : Fld Z h10 o0 "com/example/deferra/deferra/crediting/DailyAmounts" "size" "I" (.int 2) := (Fld.keep f1 K10 (ninS v0 nin0))
  obtain ⟨T16, X16, e16, st16⟩ := getF X14 hx hZ hown (host := "") (Or.inl (w_21 hw)) Via.refl e14 F15 (g := (mkF m 129 #[rv o0, iv t1, rv a_ONE, iv (-2), iv 1] [(.ref o0), (.int 2), (.ref o2), (.int 1), (.ref o2)])) rfl rfl (hb hby d5_129)
  have F17 : Arv Z h10 o2 j1 (.object "java/math/BigDecimal") (4 : Int32) [(.ref a_ONE), (.ref a_ONE), .null, .null] .null := (Arv.keep f4 K10 (ninS v1 nin0))
  obtain ⟨c18, r18, q18, S18, M18, H18, G18⟩ := id F17
  obtain ⟨T19, h19, L19, X19, e19, N19, K19, V19, st19⟩ := cpA X16 hx hZ hown (w_45 hw) (w_48 hw) (w_46 hw) (w_47 hw) e16 F17 F17 (us := [(.ref a_ONE)]) (Or.inr ⟨rfl, rfl, (⟨(Sto.ofV r18 q18 f5 (Ins.self (Exa.ext O10.2 (fx_E_a_ONE FF)))), trivial⟩ : StoL Z h10 o2 [(.ref a_ONE)])⟩) (by decide) (by decide) (by decide) (by decide) (by decide) rfl (Nat.le_of_ble_eq_true rfl) N10 u1 (g := (mkF m 135 #[rv o0, iv t1, rv a_ONE, iv (-2), iv 1] [(.int 1), (.int 2), (.ref o2), (.int 1), (.ref o2)])) rfl (by rw [hml]; rfl) (rest := []) rfl (hb hby d5_135) (by decide) (W := 0) (by show 2 * 0 + _ ≤ _; exact Nat.le_of_eq rfl) (by decide)
  have O19 := Old.keep O10 K19 (allS u1 all0)
  have KK19 : Keep h0 h19 [o1, o2, o0] := Keep.trans KK10 K19 (allS (Or.inl (List.mem_of_getElem? (i := 1) rfl)) all0)
  have F20 : Arv Z h19 o2 j1 (.object "java/math/BigDecimal") (4 : Int32) [(.ref a_ONE), (.ref a_ONE), (.ref a_ONE), .null] .null := V19
  have F21 : Fld Z h19 o0 "com/example/deferra/deferra/crediting/DailyAmounts" "days" "[I" (.ref o1) := (Fld.keep (Fld.keep f0 K10 (ninS v0 nin0)) K19 (ninS v2 nin0))
  obtain ⟨T22, X22, e22, st22⟩ := getF X19 hx hZ hown (host := "") (Or.inl (w_10 hw)) Via.refl e19 F21 (g := (mkF m 139 #[rv o0, iv t1, rv a_ONE, iv (-2), iv 1] [(.ref o0)])) rfl rfl (hb hby d5_139)
  have F24 : Arv Z h19 o1 j0 .int (4 : Int32) [(.int t0), (.int t2), (.int t2), (.int t4)] (.int 0) := (Arv.keep F11 K19 (ninS (Ne.symm v1) nin0))
  obtain ⟨c23, r23, q23, S23, M23, H23, G23⟩ := id F24
  have i25 : ¬ ((1 : Int32) < 0 ∨ c23.slots.size ≤ ((1 : Int32)).toNatClampNeg) := inb_of S23 ⟨by decide, by decide⟩
  obtain ⟨T26, h26, X26, e26, W26, st26⟩ := stI X22 hx hZ e22 r23 (j := (1 : Int32)) i25 (g := (mkF m 145 #[rv o0, iv t1, rv a_ONE, iv (-2), iv 1] [(.int t1), (.int 1), (.ref o1)])) rfl rfl (hb hby d5_145)
  have O26 := Old.wr O19 W26 u0
  have KK26 : Keep h0 h26 [o1, o2, o0] := Keep.wr KK19 W26 (Or.inl (List.mem_of_getElem? (i := 0) rfl))
  have N26 := Fr.snoc X26 N19 u0
  have F27 : Arv Z h26 o1 j0 .int (4 : Int32) [(.int t0), (.int t1), (.int t2), (.int t4)] (.int 0) := Arv.set r23 q23 S23 M23 H23 G23 rfl W26 1 rfl (Nat.le_of_ble_eq_true rfl)
  have F28 : Fld Z h26 o0 "com/example/deferra/deferra/crediting/DailyAmounts" "amounts" "[Ljava/math/BigDecimal;" (.ref o2) := (Fld.other W26 (Fld.keep F12 K19 (ninS v2 nin0)) (Or.inl v0))
  obtain ⟨T29, X29, e29, st29⟩ := getF X26 hx hZ hown (host := "") (Or.inl (w_14 hw)) Via.refl e26 F28 (g := (mkF m 147 #[rv o0, iv t1, rv a_ONE, iv (-2), iv 1] [(.ref o0)])) rfl rfl (hb hby d5_147)
  have F31 : Arv Z h26 o2 j1 (.object "java/math/BigDecimal") (4 : Int32) [(.ref a_ONE), (.ref a_ONE), (.ref a_ONE), .null] .null := (Arv.other F20 W26 v1)
  obtain ⟨c30, r30, q30, S30, M30, H30, G30⟩ := id F31
  have i32 : ¬ ((1 : Int32) < 0 ∨ c30.slots.size ≤ ((1 : Int32)).toNatClampNeg) := inb_of S30 ⟨by decide, by decide⟩
  obtain ⟨T33, h33, X33, e33, W33, st33⟩ := stR X29 hx hZ e29 r30 (j := (1 : Int32)) i32 rfl (Sto.ofV r30 q30 f5 (Ins.self (Exa.ext O26.2 (fx_E_a_ONE FF)))) (g := (mkF m 153 #[rv o0, iv t1, rv a_ONE, iv (-2), iv 1] [(.ref a_ONE), (.int 1), (.ref o2)])) rfl rfl (hb hby d5_153)
  have O33 := Old.wr O26 W33 u1
  have KK33 : Keep h0 h33 [o1, o2, o0] := Keep.wr KK26 W33 (Or.inl (List.mem_of_getElem? (i := 1) rfl))
  have N33 := Fr.snoc X33 N26 u1
  have F34 : Arv Z h33 o2 j1 (.object "java/math/BigDecimal") (4 : Int32) [(.ref a_ONE), (.ref a_ONE), (.ref a_ONE), .null] .null := Arv.set r30 q30 S30 M30 H30 G30 rfl W33 1 rfl (Nat.le_of_ble_eq_true rfl)
  have F35 : Fld Z h33 o0 "com/example/deferra/deferra/crediting/DailyAmounts" "size" "I" (.int 2) := (Fld.other W33 (Fld.other W26 (Fld.keep F15 K19 (ninS v2 nin0)) (Or.inl v0)) (Or.inl v2))
  obtain ⟨T36, X36, e36, st36⟩ := getF X33 hx hZ hown (host := "") (Or.inl (w_21 hw)) Via.refl e33 F35 (g := (mkF m 156 #[rv o0, iv t1, rv a_ONE, iv (-2), iv 1] [(.ref o0), (.ref o0)])) rfl rfl (hb hby d5_156)
  have F37 : Exa Z h33 o0 "com/example/deferra/deferra/crediting/DailyAmounts" := (Exa.wr W33 (Exa.wr W26 (Exa.keep (Exa.keep f6 K10) K19)))
  obtain ⟨T38, h38, X38, e38, W38, st38⟩ := putF X36 hx hZ hown (host := "") (Or.inl (w_21 hw)) Via.refl e36 F35 F37 (Or.inl (w_22 hw)) (w_1 hw) (ty := .int) (by decide) rfl rfl (g := (mkF m 161 #[rv o0, iv t1, rv a_ONE, iv (-2), iv 1] [(.int 3), (.ref o0)])) rfl rfl (hb hby d5_161)
  have O38 := Old.wr O33 W38 u2
  have KK38 : Keep h0 h38 [o1, o2, o0] := Keep.wr KK33 W38 (Or.inl (List.mem_of_getElem? (i := 2) rfl))
  have N38 := Fr.snoc X38 N33 u2
  have F39 : Fld Z h38 o0 "com/example/deferra/deferra/crediting/DailyAmounts" "size" "I" (.int 3) := Fld.same W38 F35
  have F40 : Arv Z h38 o1 j0 .int (4 : Int32) [(.int t0), (.int t1), (.int t2), (.int t4)] (.int 0) := (Arv.other (Arv.other F27 W33 (Ne.symm v1)) W38 (Ne.symm v0))
  have F41 : Exa Z h38 o1 "[I" := (Exa.wr W38 (Exa.wr W33 (Exa.wr W26 (Exa.keep (Exa.keep f7 K10) K19))))
  have F42 : Arv Z h38 o2 j1 (.object "java/math/BigDecimal") (4 : Int32) [(.ref a_ONE), (.ref a_ONE), (.ref a_ONE), .null] .null := (Arv.other F34 W38 (Ne.symm v2))
  have F43 : Exa Z h38 o2 "[Ljava/math/BigDecimal;" := (Exa.wr W38 (Exa.wr W33 (Exa.wr W26 (Exa.keep (Exa.keep f8 K10) K19))))
  have F44 : Fld Z h38 o0 "com/example/deferra/deferra/crediting/DailyAmounts" "days" "[I" (.ref o1) := (Fld.other W38 (Fld.other W33 (Fld.other W26 F21 (Or.inl v0)) (Or.inl v2)) (Or.inr (slot_ne (Or.inl (w_11 hw)) (Or.inl (w_22 hw)) (by decide) (t := (.array .int)) (t' := .int) (by decide) (by decide))))
  have F45 : Fld Z h38 o0 "com/example/deferra/deferra/crediting/DailyAmounts" "amounts" "[Ljava/math/BigDecimal;" (.ref o2) := (Fld.other W38 (Fld.other W33 F28 (Or.inl v2)) (Or.inr (slot_ne (Or.inl (w_15 hw)) (Or.inl (w_22 hw)) (by decide) (t := (.array (.object "java/math/BigDecimal"))) (t' := .int) (by decide) (by decide))))
  have F46 : Exa Z h38 o0 "com/example/deferra/deferra/crediting/DailyAmounts" := (Exa.wr W38 F37)
  obtain ⟨fs, hr, hrun, hended, hW, hsame⟩ := X38.leave (v := none) (fun _ => rfl)
  refine ⟨_, _, pre0 _ ?_, hrun, hended, _, _, rfl, ?_, ⟨_, rfl⟩, hW, hsame.mono (by decide) (by decide)⟩
  · show Steps p.tables e below (s₁.setTop (mkF m 0 #[rv o0, iv t1, rv a_ONE, .unset, .unset] [])) _
    refine XS.aloadN X0.here hx rfl (hb hby d5_0) rfl rfl ?_
    refine st1 _ ?_
    refine XS.iconst X1.here hx rfl (hb hby d5_4) ?_
    refine XS.aloadN X1.here hx rfl (hb hby d5_5) rfl rfl ?_
    show Steps p.tables e below (T1.setTop (mkF m 6 #[rv o0, iv t1, rv a_ONE, .unset, .unset] [(.ref o0), (.int 0), (.ref o1)])) _
    refine st2 _ ?_
    refine XS.iloadN X2.here hx rfl (hb hby d5_9) rfl ?_
    refine st3 _ ?_
    refine XS.istoreN X3.here hx rfl (hb hby d5_13) rfl (l' := #[rv o0, iv t1, rv a_ONE, iv (-2), .unset]) rfl ?_
    show Steps p.tables e below (T3.setTop (mkF m 14 #[rv o0, iv t1, rv a_ONE, iv (-2), .unset] [])) _
    refine XS.iloadN X3.here hx rfl (hb hby d5_14) rfl ?_
    refine XS.ifYes X3.here hx rfl (pc0 := 15) (pc' := 35) rfl (hb hby d5_15) rfl (by decide) (by decide) (by decide) ?_
    refine XS.iloadN X3.here hx rfl (hb hby d5_35) rfl ?_
    refine XS.ineg X3.here hx rfl (hb hby d5_36) rfl ?_
    show Steps p.tables e below (T3.setTop (mkF m 37 #[rv o0, iv t1, rv a_ONE, iv (-2), .unset] [(.int (-(-2 : Int32)))])) _
    rw [(by decide : (-(-2 : Int32)) = (2 : Int32))]
    refine XS.iconst X3.here hx rfl (hb hby d5_37) ?_
    refine XS.isub X3.here hx rfl (hb hby d5_38) rfl ?_
    show Steps p.tables e below (T3.setTop (mkF m 39 #[rv o0, iv t1, rv a_ONE, iv (-2), .unset] [(.int ((2 : Int32) - (1 : Int32)))])) _
    rw [(by decide : ((2 : Int32) - (1 : Int32)) = (1 : Int32))]
    refine XS.istore X3.here hx rfl (hb hby d5_39) rfl (l' := #[rv o0, iv t1, rv a_ONE, iv (-2), iv 1]) rfl ?_
    refine XS.aloadN X3.here hx rfl (hb hby d5_41) rfl rfl ?_
    refine st4 _ ?_
    show Steps p.tables e below (T4.setTop (mkF m 45 #[rv o0, iv t1, rv a_ONE, iv (-2), iv 1] [(.int 2)])) _
    refine XS.aloadN X4.here hx rfl (hb hby d5_45) rfl rfl ?_
    refine st5 _ ?_
    refine X5.arraylength hx (by rw [e5]; exact r6.1) (State.isArrayOf_alike hZ.alike r6.2.1) (g := (mkF m 49 #[rv o0, iv t1, rv a_ONE, iv (-2), iv 1] [(.ref o1), (.int 2)])) rfl rfl (hb hby d5_49) _ ?_
    rw [len_of S6 M6]
    show Steps p.tables e below (T5.setTop (mkF m 50 #[rv o0, iv t1, rv a_ONE, iv (-2), iv 1] [(.int 4), (.int 2)])) _
    refine XS.icmpYes X5.here hx rfl (pc0 := 50) (pc' := 90) rfl (hb hby d5_50) rfl (by decide) (by decide) (by decide) ?_
    refine XS.aloadN X5.here hx rfl (hb hby d5_90) rfl rfl ?_
    refine st7 _ ?_
    refine XS.iload X7.here hx rfl (hb hby d5_94) rfl ?_
    show Steps p.tables e below (T7.setTop (mkF m 96 #[rv o0, iv t1, rv a_ONE, iv (-2), iv 1] [(.int 1), (.ref o1)])) _
    refine XS.aloadN X7.here hx rfl (hb hby d5_96) rfl rfl ?_
    refine st8 _ ?_
    refine XS.iload X8.here hx rfl (hb hby d5_100) rfl ?_
    refine XS.iconst X8.here hx rfl (hb hby d5_102) ?_
    show Steps p.tables e below (T8.setTop (mkF m 103 #[rv o0, iv t1, rv a_ONE, iv (-2), iv 1] [(.int 1), (.int 1), (.ref o1), (.int 1), (.ref o1)])) _
    refine XS.iadd X8.here hx rfl (hb hby d5_103) rfl ?_
    show Steps p.tables e below (T8.setTop (mkF m 104 #[rv o0, iv t1, rv a_ONE, iv (-2), iv 1] [(.int ((1 : Int32) + (1 : Int32))), (.ref o1), (.int 1), (.ref o1)])) _
    rw [(by decide : ((1 : Int32) + (1 : Int32)) = (2 : Int32))]
    refine XS.aloadN X8.here hx rfl (hb hby d5_104) rfl rfl ?_
    refine st9 _ ?_
    refine XS.iload X9.here hx rfl (hb hby d5_108) rfl ?_
    show Steps p.tables e below (T9.setTop (mkF m 110 #[rv o0, iv t1, rv a_ONE, iv (-2), iv 1] [(.int 1), (.int 2), (.int 2), (.ref o1), (.int 1), (.ref o1)])) _
    refine XS.isub X9.here hx rfl (hb hby d5_110) rfl ?_
    show Steps p.tables e below (T9.setTop (mkF m 111 #[rv o0, iv t1, rv a_ONE, iv (-2), iv 1] [(.int ((2 : Int32) - (1 : Int32))), (.int 2), (.ref o1), (.int 1), (.ref o1)])) _
    rw [(by decide : ((2 : Int32) - (1 : Int32)) = (1 : Int32))]
    refine st10 _ ?_
    refine XS.aloadN X10.here hx rfl (hb hby d5_114) rfl rfl ?_
    refine st13 _ ?_
    show Steps p.tables e below (T13.setTop (mkF m 118 #[rv o0, iv t1, rv a_ONE, iv (-2), iv 1] [(.ref o2)])) _
    refine XS.iload X13.here hx rfl (hb hby d5_118) rfl ?_
    refine XS.aloadN X13.here hx rfl (hb hby d5_120) rfl rfl ?_
    refine st14 _ ?_
    refine XS.iload X14.here hx rfl (hb hby d5_124) rfl ?_
    show Steps p.tables e below (T14.setTop (mkF m 126 #[rv o0, iv t1, rv a_ONE, iv (-2), iv 1] [(.int 1), (.ref o2), (.int 1), (.ref o2)])) _
    refine XS.iconst X14.here hx rfl (hb hby d5_126) ?_
    refine XS.iadd X14.here hx rfl (hb hby d5_127) rfl ?_
    show Steps p.tables e below (T14.setTop (mkF m 128 #[rv o0, iv t1, rv a_ONE, iv (-2), iv 1] [(.int ((1 : Int32) + (1 : Int32))), (.ref o2), (.int 1), (.ref o2)])) _
    rw [(by decide : ((1 : Int32) + (1 : Int32)) = (2 : Int32))]
    refine XS.aloadN X14.here hx rfl (hb hby d5_128) rfl rfl ?_
    refine st16 _ ?_
    refine XS.iload X16.here hx rfl (hb hby d5_132) rfl ?_
    show Steps p.tables e below (T16.setTop (mkF m 134 #[rv o0, iv t1, rv a_ONE, iv (-2), iv 1] [(.int 1), (.int 2), (.int 2), (.ref o2), (.int 1), (.ref o2)])) _
    refine XS.isub X16.here hx rfl (hb hby d5_134) rfl ?_
    show Steps p.tables e below (T16.setTop (mkF m 135 #[rv o0, iv t1, rv a_ONE, iv (-2), iv 1] [(.int ((2 : Int32) - (1 : Int32))), (.int 2), (.ref o2), (.int 1), (.ref o2)])) _
    rw [(by decide : ((2 : Int32) - (1 : Int32)) = (1 : Int32))]
    refine st19 _ ?_
    refine XS.aloadN X19.here hx rfl (hb hby d5_138) rfl rfl ?_
    refine st22 _ ?_
    show Steps p.tables e below (T22.setTop (mkF m 142 #[rv o0, iv t1, rv a_ONE, iv (-2), iv 1] [(.ref o1)])) _
    refine XS.iload X22.here hx rfl (hb hby d5_142) rfl ?_
    refine XS.iloadN X22.here hx rfl (hb hby d5_144) rfl ?_
    refine st26 _ ?_
    refine XS.aloadN X26.here hx rfl (hb hby d5_146) rfl rfl ?_
    show Steps p.tables e below (T26.setTop (mkF m 147 #[rv o0, iv t1, rv a_ONE, iv (-2), iv 1] [(.ref o0)])) _
    refine st29 _ ?_
    refine XS.iload X29.here hx rfl (hb hby d5_150) rfl ?_
    refine XS.aloadN X29.here hx rfl (hb hby d5_152) rfl rfl ?_
    refine st33 _ ?_
    show Steps p.tables e below (T33.setTop (mkF m 154 #[rv o0, iv t1, rv a_ONE, iv (-2), iv 1] [])) _
    refine XS.aloadN X33.here hx rfl (hb hby d5_154) rfl rfl ?_
    refine XS.dup X33.here hx rfl (hb hby d5_155) rfl rfl ?_
    refine st36 _ ?_
    refine XS.iconst X36.here hx rfl (hb hby d5_159) ?_
    show Steps p.tables e below (T36.setTop (mkF m 160 #[rv o0, iv t1, rv a_ONE, iv (-2), iv 1] [(.int 1), (.int 2), (.ref o0)])) _
    refine XS.iadd X36.here hx rfl (hb hby d5_160) rfl ?_
    show Steps p.tables e below (T36.setTop (mkF m 161 #[rv o0, iv t1, rv a_ONE, iv (-2), iv 1] [(.int ((2 : Int32) + (1 : Int32))), (.ref o0)])) _
    rw [(by decide : ((2 : Int32) + (1 : Int32)) = (3 : Int32))]
    refine st38 _ ?_
    exact X38.returnOut hx Bd.returns (hb hby d5_164) hr
  · show Q5_5 Z a_ONE a_ZTT e_2 e_3 t0 t1 t2 t3 t4 o0 o1 o2 j0 j1 h0 n0 _ T38.heap _
    rw [e38]
    exact ⟨rfl, N38, KK38, F40, F41, F42, f5, F43, F44, F39, F45, F46⟩
set_option maxRecDepth 65536 in
set_option maxHeartbeats 40000000 in
theorem sg_23 {p : Program} {l : Launch} {e : Env} {s : State} {m : MethodId} {args : Array Value} {below : List Frame} {meth : Method} {c : Code} {T0 : State} {locs : List Loc} {Z : State} {a0 : Array Value} {h0 : Heap} {n0 : Nat} (hw : ∀ d ∈ tables_1, d.before a0 Z = true) (a_ONE : Addr) (a_ZTT : Addr) (e_2 : Addr) (e_3 : Addr) (t0 : Int32) (t1 : Int32) (t2 : Int32) (t3 : Int32) (t4 : Int32) (t5 : Int32) (t6 : Int32) (t7 : Int32) (o0 : Addr) (o1 : Addr) (o2 : Addr) (j0 : ClassId) (j1 : ClassId) (FF : Facts Z Z.heap a_ONE a_ZTT e_2 e_3)
    (X0 : Stand p l e room_1 s m args below meth c T0 locs 3 11) (hx : p.tables.exec = Jvm.exec) (hZ : Z.Warmed39 s.vm) (hby : c.code = code) (hml : c.maxLocals = 8) (hown : s.vm.findClass "com/example/deferra/deferra/crediting/DailyAmountsIsEmptyPinLaw" = some m.cls) (e0 : T0.heap = h0) (N0 : Fr n0 locs) (OO : Old Z n0 h0) (f0 : Fld Z h0 o0 "com/example/deferra/deferra/crediting/DailyAmounts" "days" "[I" (.ref o1)) (f1 : Fld Z h0 o0 "com/example/deferra/deferra/crediting/DailyAmounts" "size" "I" (.int 2)) (f2 : Arv Z h0 o1 j0 .int (4 : Int32) [(.int t0), (.int t2), (.int t3), (.int t4)] (.int 0)) (f3 : Fld Z h0 o0 "com/example/deferra/deferra/crediting/DailyAmounts" "amounts" "[Ljava/math/BigDecimal;" (.ref o2)) (f4 : Arv Z h0 o2 j1 (.object "java/math/BigDecimal") (4 : Int32) [(.ref a_ONE), (.ref a_ONE), .null, .null] .null) (f5 : Ovr Z j1 "java/math/BigDecimal") (f6 : Exa Z h0 o0 "com/example/deferra/deferra/crediting/DailyAmounts") (f7 : Exa Z h0 o1 "[I") (f8 : Exa Z h0 o2 "[Ljava/math/BigDecimal;") (u0 : n0 ≤ o1) (v0 : o0 ≠ o1) (v1 : o2 ≠ o1) (u1 : n0 ≤ o2) (v2 : o0 ≠ o2) (u2 : n0 ≤ o0) (hq0 : t0 < t1) (hq1 : ¬ (t2 < t1)) (hq2 : t1 < t2) :
    ∃ (T' : State) (h' : Heap) (lc : List Loc), Stand p l e room_1 s m args below meth c T' lc 3 11 ∧ T'.heap = h' ∧ Fr n0 lc ∧ Keep h0 h' [o0, o2, o1] ∧ Fld Z h' o0 "com/example/deferra/deferra/crediting/DailyAmounts" "days" "[I" (.ref o1) ∧ Fld Z h' o0 "com/example/deferra/deferra/crediting/DailyAmounts" "size" "I" (.int 3) ∧ Fld Z h' o0 "com/example/deferra/deferra/crediting/DailyAmounts" "amounts" "[Ljava/math/BigDecimal;" (.ref o2) ∧ Exa Z h' o0 "com/example/deferra/deferra/crediting/DailyAmounts" ∧ Arv Z h' o2 j1 (.object "java/math/BigDecimal") (4 : Int32) [(.ref a_ONE), (.ref a_ONE), (.ref a_ONE), .null] .null ∧ Ovr Z j1 "java/math/BigDecimal" ∧ Exa Z h' o2 "[Ljava/math/BigDecimal;" ∧ Arv Z h' o1 j0 .int (4 : Int32) [(.int t0), (.int t1), (.int t2), (.int t4)] (.int 0) ∧ Exa Z h' o1 "[I" ∧
      ∀ target, Steps p.tables e below (T'.setTop (mkF m 142 #[iv t5, iv t6, iv t7, iv t1, iv 3, rv o0, iv 1, .unset] [])) target → Steps p.tables e below (T0.setTop (mkF m 107 #[iv t5, iv t6, iv t7, iv t1, iv 3, rv o0, iv 1, .unset] [])) target := by
  obtain ⟨T1, X1, e1, st1⟩ := getS2 X0 hx hZ hown (host := "") (Or.inl (w_28 hw)) Via.refl e0 (Sta.ext OO.2 (fx_S_ONE FF)) (g := (mkF m 116 #[iv t5, iv t6, iv t7, iv t1, iv 3, rv o0, iv 1, .unset] [(.int t1), (.ref o0)])) rfl (hb hby at_116)
  obtain ⟨cq2, kq2, q2a, q2b, q2c⟩ := isOf hZ e1 f6
  obtain ⟨_, _, ⟨T2, L2, k2, n2⟩, -, X2, ⟨Lc2, hQ2, l2, y2, z2⟩, st2⟩ := X1.virtualBack hx (y := (⟨"com/example/deferra/deferra/crediting/DailyAmounts", "add", "(ILjava/math/BigDecimal;)V"⟩ : MethodName)) (z := (⟨"com/example/deferra/deferra/crediting/DailyAmounts", "add", "(ILjava/math/BigDecimal;)V"⟩ : MethodName)) hown (mvT hZ (w_30 hw)) (mvT hZ (w_31 hw)) (notFace_of_selects (args := #[]) (mvT hZ (w_33 hw))) (mvT hZ (w_33 hw)) (mvT hZ (w_32 hw)) (by decide) (backOf (W := 0) (rm5_5 l Z a0 hw [] a_ONE a_ZTT e_2 e_3 t0 t1 t2 t3 t4 o0 o1 o2 j0 j1 h0 n0 FF OO f0 f1 f2 u0 f3 v0 f4 v1 f5 u1 v2 f6 u2 f7 f8 hq0 hq1 hq2) hZ (w_34 hw) (w_2 hw) (by decide) (by decide)) q2a q2c (g := (mkF m 119 #[iv t5, iv t6, iv t7, iv t1, iv 3, rv o0, iv 1, .unset] [(.ref a_ONE), (.int t1), (.ref o0)])) rfl (by rw [hml]; rfl) (Steps.refl _) (argsL := [(.int t1), (.ref a_ONE)]) (rest := []) (lenOf pd_5 rfl) rfl (by show 2 * 0 + _ ≤ _; exact Nat.le_of_eq rfl) (hb hby at_119) (fun _ _ => ⟨rfl, e1, (by decide : 3 + 0 ≤ _), (by decide : 11 + 0 ≤ _)⟩)
  dsimp only [Pt.U, Pt.locs, Pt.cells, Pt.slots] at X2 l2 y2 z2 st2 hQ2
  subst l2 y2 z2
  obtain ⟨h2, e2⟩ : ∃ z, T2.heap = z := ⟨_, rfl⟩
  rw [e2] at hQ2
  obtain ⟨rfl, N2q, K2, R2_0, R2_1, R2_2, R2_3, R2_4, R2_5, R2_6, R2_7, R2_8⟩ := hQ2
  have N2 := Fr.app N0 N2q
  have O2 := Old.keep OO K2 (allS u0 (allS u1 (allS u2 all0)))
  have KK2 : Keep h0 h2 [o0, o2, o1] := Keep.trans (Keep.refl h0 [o0, o2, o1]) K2 (allS (Or.inl (List.mem_of_getElem? (i := 2) rfl)) (allS (Or.inl (List.mem_of_getElem? (i := 1) rfl)) (allS (Or.inl (List.mem_of_getElem? (i := 0) rfl)) all0)))
  obtain ⟨cq3, kq3, q3a, q3b, q3c⟩ := isOf hZ e2 R2_8
  obtain ⟨_, _, ⟨T3, L3, k3, n3⟩, -, X3, ⟨Lc3, hQ3, l3, y3, z3⟩, st3⟩ := X2.virtualBack hx (y := (⟨"com/example/deferra/deferra/crediting/DailyAmounts", "isEmpty", "()Z"⟩ : MethodName)) (z := (⟨"com/example/deferra/deferra/crediting/DailyAmounts", "isEmpty", "()Z"⟩ : MethodName)) hown (mvT hZ (w_16 hw)) (mvT hZ (w_17 hw)) (notFace_of_selects (args := #[]) (mvT hZ (w_19 hw))) (mvT hZ (w_19 hw)) (mvT hZ (w_18 hw)) (by decide) (backOf (W := 0) (rm3_3 l Z a0 hw [] a_ONE a_ZTT e_2 e_3 o0 h2 n0 FF O2 R2_6) hZ (w_20 hw) (w_2 hw) (by decide) (by decide)) q3a q3c (g := (mkF m 129 #[iv t5, iv t6, iv t7, iv t1, iv 3, rv o0, iv 1, .unset] [(.ref o0)])) rfl (by rw [hml]; rfl) (Steps.refl _) (argsL := []) (rest := []) (lenOf pd_1 rfl) rfl (by show 2 * 0 + _ ≤ _; exact Nat.le_of_eq rfl) (hb hby at_129) (fun _ _ => ⟨rfl, e2, (by decide : 3 + 0 ≤ _), (by decide : 11 + 0 ≤ _)⟩)
  dsimp only [Pt.U, Pt.locs, Pt.cells, Pt.slots] at X3 l3 y3 z3 st3 hQ3
  subst l3 y3 z3
  obtain ⟨rfl, N3q, e3⟩ := hQ3
  have N3 := Fr.app N2 N3q
  refine ⟨T3, h2, _, X3, e3, N3, KK2, R2_5, R2_6, R2_7, R2_8, R2_2, R2_3, R2_4, R2_0, R2_1, fun target kt => ?_⟩
  show Steps p.tables e below (T0.setTop (mkF m 107 #[iv t5, iv t6, iv t7, iv t1, iv 3, rv o0, iv 1, .unset] [])) _
  refine XS.iload X0.here hx rfl (hb hby at_107) rfl ?_
  refine XS.iconst X0.here hx rfl (hb hby at_109) ?_
  refine XS.icmpNo X0.here hx rfl (hb hby at_110) rfl (by decide) ?_
  refine XS.aload X0.here hx rfl (hb hby at_113) rfl rfl ?_
  show Steps p.tables e below (T0.setTop (mkF m 115 #[iv t5, iv t6, iv t7, iv t1, iv 3, rv o0, iv 1, .unset] [(.ref o0)])) _
  refine XS.iloadN X0.here hx rfl (hb hby at_115) rfl ?_
  refine st1 _ ?_
  refine st2.trans ?_
  refine XS.iload X2.here hx rfl (hb hby at_122) rfl ?_
  show Steps p.tables e below (T2.setTop (mkF m 124 #[iv t5, iv t6, iv t7, iv t1, iv 3, rv o0, iv 1, .unset] [(.int 1)])) _
  refine XS.ifNo X2.here hx rfl (hb hby at_124) rfl (by decide) ?_
  refine XS.aload X2.here hx rfl (hb hby at_127) rfl rfl ?_
  refine st3.trans ?_
  refine XS.ifNo X3.here hx rfl (hb hby at_132) rfl (by decide) ?_
  show Steps p.tables e below (T3.setTop (mkF m 135 #[iv t5, iv t6, iv t7, iv t1, iv 3, rv o0, iv 1, .unset] [])) _
  refine XS.iconst X3.here hx rfl (hb hby at_135) ?_
  refine XS.goto X3.here hx rfl (pc0 := 136) (pc' := 140) rfl (hb hby at_136) (by decide) (by decide) ?_
  refine XS.istore X3.here hx rfl (hb hby at_140) rfl (l' := #[iv t5, iv t6, iv t7, iv t1, iv 3, rv o0, iv 1, .unset]) rfl ?_
  exact kt
set_option maxRecDepth 65536 in
set_option maxHeartbeats 40000000 in
theorem rm0_6 (l : Launch) (Z : State) (a0 : Array Value) (hw : ∀ d ∈ tables_1, d.before a0 Z = true) (ws : List Jvm.Cond) (a_ONE : Addr) (a_ZTT : Addr) (e_2 : Addr) (e_3 : Addr) (p0 : Int32) (p1 : Int32) (p2 : Int32) (p3 : Int32) (h0 : Heap) (n0 : Nat) (FF : Facts Z Z.heap a_ONE a_ZTT e_2 e_3) (OO : Old Z n0 h0) (hk0 : (p0 &&& (3 : Int32)) = (3 : Int32)) (hd0 : p1 < p2) (hd1 : p1 < p3) (hd2 : ¬ (p2 < p3)) (hd3 : p3 < p2) :
    MetFree l x (head1 (Jvm.Cond.code x code maxLocals ret :: ws) room_1) (fun a U => a = #[(.int p0), (.int p1), (.int p2), (.int p3)] ∧ Z.Warmed39 U.vm ∧ U.heap = h0) (fun _ _ _ _ _ => True) (fun _ U o U' => ∃ v L, o = .returned v ∧ (v = some (.int (1 : Int32)) ∧ Fr n0 L) ∧ FrameEnd U o U' L room_1.cells room_1.slots) := by
  refine MetFree.of_bodySF (plainFor_of_name pn_0) hisR ?_
  intro p e s m args below meth c s₁ Bd hml0 hP hK
  obtain ⟨rfl, hZ, hh⟩ := hP
  have hx := Bd.exec
  have hby := Bd.bytes
  have hml : c.maxLocals = 8 := hml0
  have hown : s.vm.findClass "com/example/deferra/deferra/crediting/DailyAmountsIsEmptyPinLaw" = some m.cls := findClass_of_methodNamed Bd.named
  have X0 : Stand p l e room_1 s m #[(.int p0), (.int p1), (.int p2), (.int p3)] below meth c s₁ [] 0 0 := Stand.of_body Bd
  have e0 : s₁.heap = h0 := by rw [← hh, Bd.state]; rfl
  have N0 := Fr.nil n0
  have pre0 : ∀ t, Steps p.tables e below (s₁.setTop (mkF m 0 #[iv p0, iv p1, iv p2, iv p3, .unset, .unset, .unset, .unset] [])) t → Steps p.tables e below (s₁.setTop (entryFrame m #[(.int p0), (.int p1), (.int p2), (.int p3)] maxLocals)) t := fun t k => castTop (ef_0 m p0 p1 p2 p3) k
  obtain ⟨T1, h1, lc1, b1, b2, b3, kb2, kb3, X1, e1, N1, K1, sp1_b1, sp1_b2, sp1_b3, ne1_b1_b2, ne1_b1_b3, ne1_b2_b3, R1_0, R1_1, R1_2, R1_3, R1_4, R1_5, R1_6, R1_7, R1_8, st1⟩ := sg_18 hw a_ONE a_ZTT e_2 e_3 p0 p1 p2 p3 FF X0 hx hZ hby hml hown e0 N0 OO hk0
  have g2 : n0 ≤ b1 := Nat.le_trans (own_le OO) sp1_b1
  have g3 : n0 ≤ b2 := Nat.le_trans (own_le OO) sp1_b2
  have g4 : n0 ≤ b3 := Nat.le_trans (own_le OO) sp1_b3
  have O1 := Old.keep OO K1 all0
  obtain ⟨T5, h5, lc5, X5, e5, N5, K5, R5_0, R5_1, R5_2, R5_3, R5_4, R5_5, R5_6, R5_7, R5_8, st5⟩ := sg_19 hw a_ONE a_ZTT e_2 e_3 (0 : Int32) (0 : Int32) (0 : Int32) (0 : Int32) p1 p0 p2 p3 b1 b2 b3 kb2 kb3 FF X1 hx hZ hby hml hown e1 N1 O1 R1_1 R1_3 R1_5 R1_2 R1_7 R1_8 R1_0 R1_4 R1_6 g3 ne1_b1_b2 (Ne.symm ne1_b2_b3) g4 ne1_b1_b3 g2
  have O5 := Old.keep O1 K5 (allS g2 (allS g4 (allS g3 all0)))
  obtain ⟨T6, h6, lc6, X6, e6, N6, K6, R6_0, R6_1, R6_2, R6_3, R6_4, R6_5, R6_6, R6_7, R6_8, st6⟩ := sg_20 hw a_ONE a_ZTT e_2 e_3 p1 p2 (0 : Int32) (0 : Int32) (0 : Int32) p0 p1 p3 b1 b2 b3 kb2 kb3 FF X5 hx hZ hby hml hown e5 N5 O5 R5_0 R5_1 R5_7 R5_2 R5_4 R5_5 R5_3 R5_8 R5_6 g3 ne1_b1_b2 (Ne.symm ne1_b2_b3) g4 ne1_b1_b3 g2 hd0
  have O6 := Old.keep O5 K6 (allS g2 (allS g4 (allS g3 all0)))
  obtain ⟨T7, h7, lc7, X7, e7, N7, K7, R7_0, R7_1, R7_2, R7_3, R7_4, R7_5, R7_6, R7_7, R7_8, st7⟩ := sg_23 hw a_ONE a_ZTT e_2 e_3 p1 p3 p2 (0 : Int32) (0 : Int32) p0 p1 p2 b1 b2 b3 kb2 kb3 FF X6 hx hZ hby hml hown e6 N6 O6 R6_0 R6_1 R6_7 R6_2 R6_4 R6_5 R6_3 R6_8 R6_6 g3 ne1_b1_b2 (Ne.symm ne1_b2_b3) g4 ne1_b1_b3 g2 hd1 hd2 hd3
  have O7 := Old.keep O6 K7 (allS g2 (allS g4 (allS g3 all0)))
  obtain ⟨T8, h8, lc8, X8, e8, N8, K8, st8⟩ := sg_22 hw a_ONE a_ZTT e_2 e_3 p0 p1 p2 p3 b1 FF X7 hx hZ hby hml hown e7 N7 O7 R7_1 R7_3
  have O8 := Old.keep O7 K8 all0
  obtain ⟨fs, hr, hrun, hended, hW, hsame⟩ := X8.leave (v := some (.int 1)) (fun h => by rw [Bd.returns] at h; cases h)
  refine ⟨_, _, pre0 _ ?_, hrun, hended, _, _, rfl, ?_, ⟨_, rfl⟩, hW, hsame.mono (by decide) (by decide)⟩
  · show Steps p.tables e below (s₁.setTop (mkF m 0 #[iv p0, iv p1, iv p2, iv p3, .unset, .unset, .unset, .unset] [])) _
    refine st1 _ ?_
    show Steps p.tables e below (T1.setTop (mkF m 37 #[iv p0, iv p1, iv p2, iv p3, iv 3, rv b1, iv 1, .unset] [])) _
    refine st5 _ ?_
    show Steps p.tables e below (T5.setTop (mkF m 72 #[iv p0, iv p1, iv p2, iv p3, iv 3, rv b1, iv 1, .unset] [])) _
    refine st6 _ ?_
    show Steps p.tables e below (T6.setTop (mkF m 107 #[iv p0, iv p1, iv p2, iv p3, iv 3, rv b1, iv 1, .unset] [])) _
    refine st7 _ ?_
    show Steps p.tables e below (T7.setTop (mkF m 142 #[iv p0, iv p1, iv p2, iv p3, iv 3, rv b1, iv 1, .unset] [])) _
    refine st8 _ ?_
    exact retN X8 hx (t := .boolean) Bd.returns (by simp) (hb hby at_192) hr
  · exact ⟨rfl, N8⟩
def Q8_6 (Z : State) (a_ONE : Addr) (a_ZTT : Addr) (e_2 : Addr) (e_3 : Addr) (t0 : Int32) (t1 : Int32) (t2 : Int32) (t3 : Int32) (t4 : Int32) (o0 : Addr) (j0 : ClassId) (h0 : Heap) (n0 : Nat) (v : Option Value) (h : Heap) (L : List Loc) : Prop := v = some (.int 1) ∧ Fr n0 L ∧ h = h0
set_option maxRecDepth 65536 in
set_option maxHeartbeats 40000000 in
theorem rm8_6 (l : Launch) (Z : State) (a0 : Array Value) (hw : ∀ d ∈ tables_1, d.before a0 Z = true) (ws : List Jvm.Cond) (a_ONE : Addr) (a_ZTT : Addr) (e_2 : Addr) (e_3 : Addr) (t0 : Int32) (t1 : Int32) (t2 : Int32) (t3 : Int32) (t4 : Int32) (o0 : Addr) (j0 : ClassId) (h0 : Heap) (n0 : Nat) (FF : Facts Z Z.heap a_ONE a_ZTT e_2 e_3) (OO : Old Z n0 h0) (f0 : Arv Z h0 o0 j0 .int (4 : Int32) [(.int t0), (.int t2), (.int t3), (.int t4)] (.int 0)) (hq0 : t0 < t1) (hq1 : ¬ (t2 < t1)) (hq2 : ¬ (t1 < t2)) :
    MetFree l (⟨"java/util/Arrays", "binarySearch0", "([IIII)I"⟩ : MethodName) (head1 (Jvm.Cond.code (⟨"java/util/Arrays", "binarySearch0", "([IIII)I"⟩ : MethodName) jdk_65_method_59_code 8 (some .int) :: ws) ({ frames := 0, cells := 0, slots := 0, locals := 0 } : Room)) (fun a U => a = #[(.ref o0), (.int 0), (.int 2), (.int t1)] ∧ Z.Warmed39 U.vm ∧ U.heap = h0) (fun _ _ _ _ _ => True) (fun _ U o U' => ∃ v L, o = .returned v ∧ Q8_6 Z a_ONE a_ZTT e_2 e_3 t0 t1 t2 t3 t4 o0 j0 h0 n0 v U'.heap L ∧ FrameEnd U o U' L ({ frames := 0, cells := 0, slots := 0, locals := 0 } : Room).cells ({ frames := 0, cells := 0, slots := 0, locals := 0 } : Room).slots) := by
  refine MetFree.of_bodySF (plainFor_of_name pn_8) hisR ?_
  intro p e s m args below meth c s₁ Bd hml0 hP hK
  obtain ⟨rfl, hZ, hh⟩ := hP
  have hx := Bd.exec
  have hby := Bd.bytes
  have hml : c.maxLocals = 8 := hml0
  have hown : s.vm.findClass "java/util/Arrays" = some m.cls := findClass_of_methodNamed Bd.named
  have X0 : Stand p l e ({ frames := 0, cells := 0, slots := 0, locals := 0 } : Room) s m #[(.ref o0), (.int 0), (.int 2), (.int t1)] below meth c s₁ [] 0 0 := Stand.of_body Bd
  have e0 : s₁.heap = h0 := by rw [← hh, Bd.state]; rfl
  have N0 := Fr.nil n0
  have pre0 : ∀ t, Steps p.tables e below (s₁.setTop (mkF m 0 #[rv o0, iv 0, iv 2, iv t1, .unset, .unset, .unset, .unset] [])) t → Steps p.tables e below (s₁.setTop (entryFrame m #[(.ref o0), (.int 0), (.int 2), (.int t1)] 8)) t := fun t k => castTop (ef_8 m o0 0 2 t1) k
  obtain ⟨c1, r1, q1, S1, M1, H1, G1⟩ := id f0
  have i2 : ¬ ((0 : Int32) < 0 ∨ c1.slots.size ≤ ((0 : Int32)).toNatClampNeg) := inb_of S1 ⟨by decide, by decide⟩
  have y3 : c1.slots[((0 : Int32)).toNatClampNeg]? = some (.int t0) := H1 0 (by rw [S1]; decide)
  obtain ⟨c4, r4, q4, S4, M4, H4, G4⟩ := id f0
  have i5 : ¬ ((1 : Int32) < 0 ∨ c4.slots.size ≤ ((1 : Int32)).toNatClampNeg) := inb_of S4 ⟨by decide, by decide⟩
  have y6 : c4.slots[((1 : Int32)).toNatClampNeg]? = some (.int t2) := H4 1 (by rw [S4]; decide)
  obtain ⟨fs, hr, hrun, hended, hW, hsame⟩ := X0.leave (v := some (.int 1)) (fun h => by rw [Bd.returns] at h; cases h)
  refine ⟨_, _, pre0 _ ?_, hrun, hended, _, _, rfl, ?_, ⟨_, rfl⟩, hW, hsame.mono (by decide) (by decide)⟩
  · show Steps p.tables e below (s₁.setTop (mkF m 0 #[rv o0, iv 0, iv 2, iv t1, .unset, .unset, .unset, .unset] [])) _
    refine XS.iloadN X0.here hx rfl (hb hby d8_0) rfl ?_
    refine XS.istore X0.here hx rfl (hb hby d8_1) rfl (l' := #[rv o0, iv 0, iv 2, iv t1, iv 0, .unset, .unset, .unset]) rfl ?_
    refine XS.iloadN X0.here hx rfl (hb hby d8_3) rfl ?_
    refine XS.iconst X0.here hx rfl (hb hby d8_4) ?_
    show Steps p.tables e below (s₁.setTop (mkF m 5 #[rv o0, iv 0, iv 2, iv t1, iv 0, .unset, .unset, .unset] [(.int 1), (.int 2)])) _
    refine XS.isub X0.here hx rfl (hb hby d8_5) rfl ?_
    show Steps p.tables e below (s₁.setTop (mkF m 6 #[rv o0, iv 0, iv 2, iv t1, iv 0, .unset, .unset, .unset] [(.int ((2 : Int32) - (1 : Int32)))])) _
    rw [(by decide : ((2 : Int32) - (1 : Int32)) = (1 : Int32))]
    refine XS.istore X0.here hx rfl (hb hby d8_6) rfl (l' := #[rv o0, iv 0, iv 2, iv t1, iv 0, iv 1, .unset, .unset]) rfl ?_
    refine XS.iload X0.here hx rfl (hb hby d8_8) rfl ?_
    refine XS.iload X0.here hx rfl (hb hby d8_10) rfl ?_
    show Steps p.tables e below (s₁.setTop (mkF m 12 #[rv o0, iv 0, iv 2, iv t1, iv 0, iv 1, .unset, .unset] [(.int 1), (.int 0)])) _
    refine XS.icmpNo X0.here hx rfl (hb hby d8_12) rfl (by decide) ?_
    refine XS.iload X0.here hx rfl (hb hby d8_15) rfl ?_
    refine XS.iload X0.here hx rfl (hb hby d8_17) rfl ?_
    refine XS.iadd X0.here hx rfl (hb hby d8_19) rfl ?_
    show Steps p.tables e below (s₁.setTop (mkF m 20 #[rv o0, iv 0, iv 2, iv t1, iv 0, iv 1, .unset, .unset] [(.int ((0 : Int32) + (1 : Int32)))])) _
    rw [(by decide : ((0 : Int32) + (1 : Int32)) = (1 : Int32))]
    refine XS.iconst X0.here hx rfl (hb hby d8_20) ?_
    refine XS.iushr X0.here hx rfl (hb hby d8_21) rfl ?_
    show Steps p.tables e below (s₁.setTop (mkF m 22 #[rv o0, iv 0, iv 2, iv t1, iv 0, iv 1, .unset, .unset] [(.int (((1 : Int32).toUInt32 >>> ((1 : Int32) &&& 31).toUInt32).toInt32))])) _
    rw [(by decide : (((1 : Int32).toUInt32 >>> ((1 : Int32) &&& 31).toUInt32).toInt32) = (0 : Int32))]
    refine XS.istore X0.here hx rfl (hb hby d8_22) rfl (l' := #[rv o0, iv 0, iv 2, iv t1, iv 0, iv 1, iv 0, .unset]) rfl ?_
    refine XS.aloadN X0.here hx rfl (hb hby d8_24) rfl rfl ?_
    refine XS.iload X0.here hx rfl (hb hby d8_25) rfl ?_
    show Steps p.tables e below (s₁.setTop (mkF m 27 #[rv o0, iv 0, iv 2, iv t1, iv 0, iv 1, iv 0, .unset] [(.int 0), (.ref o0)])) _
    refine X0.iaload hx (j := (0 : Int32)) (v := (.int t0)) (by rw [e0]; exact r1.1) (State.isArrayOf_alike hZ.alike r1.2.1) r1.2.2 i2 y3 (g := (mkF m 27 #[rv o0, iv 0, iv 2, iv t1, iv 0, iv 1, iv 0, .unset] [(.int 0), (.ref o0)])) rfl rfl (hb hby d8_27) _ ?_
    refine XS.istore X0.here hx rfl (hb hby d8_28) rfl (l' := #[rv o0, iv 0, iv 2, iv t1, iv 0, iv 1, iv 0, iv t0]) rfl ?_
    refine XS.iload X0.here hx rfl (hb hby d8_30) rfl ?_
    refine XS.iloadN X0.here hx rfl (hb hby d8_32) rfl ?_
    show Steps p.tables e below (s₁.setTop (mkF m 33 #[rv o0, iv 0, iv 2, iv t1, iv 0, iv 1, iv 0, iv t0] [(.int t1), (.int t0)])) _
    refine XS.icmpNo X0.here hx rfl (hb hby d8_33) rfl (tlt hq0).2.1 ?_
    refine XS.iload X0.here hx rfl (hb hby d8_36) rfl ?_
    refine XS.iconst X0.here hx rfl (hb hby d8_38) ?_
    refine XS.iadd X0.here hx rfl (hb hby d8_39) rfl ?_
    show Steps p.tables e below (s₁.setTop (mkF m 40 #[rv o0, iv 0, iv 2, iv t1, iv 0, iv 1, iv 0, iv t0] [(.int ((0 : Int32) + (1 : Int32)))])) _
    rw [(by decide : ((0 : Int32) + (1 : Int32)) = (1 : Int32))]
    refine XS.istore X0.here hx rfl (hb hby d8_40) rfl (l' := #[rv o0, iv 0, iv 2, iv t1, iv 1, iv 1, iv 0, iv t0]) rfl ?_
    refine XS.goto X0.here hx rfl (pc0 := 42) (pc' := 63) rfl (hb hby d8_42) (by decide) (by decide) ?_
    refine XS.goto X0.here hx rfl (pc0 := 63) (pc' := 8) rfl (hb hby d8_63) (by decide) (by decide) ?_
    show Steps p.tables e below (s₁.setTop (mkF m 8 #[rv o0, iv 0, iv 2, iv t1, iv 1, iv 1, iv 0, iv t0] [])) _
    refine XS.iload X0.here hx rfl (hb hby d8_8) rfl ?_
    refine XS.iload X0.here hx rfl (hb hby d8_10) rfl ?_
    refine XS.icmpNo X0.here hx rfl (hb hby d8_12) rfl (by decide) ?_
    refine XS.iload X0.here hx rfl (hb hby d8_15) rfl ?_
    show Steps p.tables e below (s₁.setTop (mkF m 17 #[rv o0, iv 0, iv 2, iv t1, iv 1, iv 1, iv 0, iv t0] [(.int 1)])) _
    refine XS.iload X0.here hx rfl (hb hby d8_17) rfl ?_
    refine XS.iadd X0.here hx rfl (hb hby d8_19) rfl ?_
    show Steps p.tables e below (s₁.setTop (mkF m 20 #[rv o0, iv 0, iv 2, iv t1, iv 1, iv 1, iv 0, iv t0] [(.int ((1 : Int32) + (1 : Int32)))])) _
    rw [(by decide : ((1 : Int32) + (1 : Int32)) = (2 : Int32))]
    refine XS.iconst X0.here hx rfl (hb hby d8_20) ?_
    refine XS.iushr X0.here hx rfl (hb hby d8_21) rfl ?_
    show Steps p.tables e below (s₁.setTop (mkF m 22 #[rv o0, iv 0, iv 2, iv t1, iv 1, iv 1, iv 0, iv t0] [(.int (((2 : Int32).toUInt32 >>> ((1 : Int32) &&& 31).toUInt32).toInt32))])) _
    rw [(by decide : (((2 : Int32).toUInt32 >>> ((1 : Int32) &&& 31).toUInt32).toInt32) = (1 : Int32))]
    refine XS.istore X0.here hx rfl (hb hby d8_22) rfl (l' := #[rv o0, iv 0, iv 2, iv t1, iv 1, iv 1, iv 1, iv t0]) rfl ?_
    refine XS.aloadN X0.here hx rfl (hb hby d8_24) rfl rfl ?_
    refine XS.iload X0.here hx rfl (hb hby d8_25) rfl ?_
    show Steps p.tables e below (s₁.setTop (mkF m 27 #[rv o0, iv 0, iv 2, iv t1, iv 1, iv 1, iv 1, iv t0] [(.int 1), (.ref o0)])) _
    refine X0.iaload hx (j := (1 : Int32)) (v := (.int t2)) (by rw [e0]; exact r4.1) (State.isArrayOf_alike hZ.alike r4.2.1) r4.2.2 i5 y6 (g := (mkF m 27 #[rv o0, iv 0, iv 2, iv t1, iv 1, iv 1, iv 1, iv t0] [(.int 1), (.ref o0)])) rfl rfl (hb hby d8_27) _ ?_
    refine XS.istore X0.here hx rfl (hb hby d8_28) rfl (l' := #[rv o0, iv 0, iv 2, iv t1, iv 1, iv 1, iv 1, iv t2]) rfl ?_
    refine XS.iload X0.here hx rfl (hb hby d8_30) rfl ?_
    refine XS.iloadN X0.here hx rfl (hb hby d8_32) rfl ?_
    show Steps p.tables e below (s₁.setTop (mkF m 33 #[rv o0, iv 0, iv 2, iv t1, iv 1, iv 1, iv 1, iv t2] [(.int t1), (.int t2)])) _
    refine XS.icmpYes X0.here hx rfl (pc0 := 33) (pc' := 45) rfl (hb hby d8_33) rfl (flt hq1).2.1 (by decide) (by decide) ?_
    refine XS.iload X0.here hx rfl (hb hby d8_45) rfl ?_
    refine XS.iloadN X0.here hx rfl (hb hby d8_47) rfl ?_
    refine XS.icmpYes X0.here hx rfl (pc0 := 48) (pc' := 60) rfl (hb hby d8_48) rfl (flt hq2).2.2.2 (by decide) (by decide) ?_
    show Steps p.tables e below (s₁.setTop (mkF m 60 #[rv o0, iv 0, iv 2, iv t1, iv 1, iv 1, iv 1, iv t2] [])) _
    refine XS.iload X0.here hx rfl (hb hby d8_60) rfl ?_
    exact retI X0 hx Bd.returns (hb hby d8_62) hr
  · show Q8_6 Z a_ONE a_ZTT e_2 e_3 t0 t1 t2 t3 t4 o0 j0 h0 n0 _ s₁.heap _
    exact ⟨rfl, N0, e0⟩
def Q6_6 (Z : State) (a_ONE : Addr) (a_ZTT : Addr) (e_2 : Addr) (e_3 : Addr) (t0 : Int32) (t1 : Int32) (t2 : Int32) (t3 : Int32) (t4 : Int32) (o0 : Addr) (j0 : ClassId) (h0 : Heap) (n0 : Nat) (v : Option Value) (h : Heap) (L : List Loc) : Prop := v = some (.int 1) ∧ Fr n0 L ∧ h = h0
set_option maxRecDepth 65536 in
set_option maxHeartbeats 40000000 in
theorem rm6_6 (l : Launch) (Z : State) (a0 : Array Value) (hw : ∀ d ∈ tables_1, d.before a0 Z = true) (ws : List Jvm.Cond) (a_ONE : Addr) (a_ZTT : Addr) (e_2 : Addr) (e_3 : Addr) (t0 : Int32) (t1 : Int32) (t2 : Int32) (t3 : Int32) (t4 : Int32) (o0 : Addr) (j0 : ClassId) (h0 : Heap) (n0 : Nat) (FF : Facts Z Z.heap a_ONE a_ZTT e_2 e_3) (OO : Old Z n0 h0) (f0 : Arv Z h0 o0 j0 .int (4 : Int32) [(.int t0), (.int t2), (.int t3), (.int t4)] (.int 0)) (hq0 : t0 < t1) (hq1 : ¬ (t2 < t1)) (hq2 : ¬ (t1 < t2)) :
    MetFree l (⟨"java/util/Arrays", "binarySearch", "([IIII)I"⟩ : MethodName) (head1 (Jvm.Cond.code (⟨"java/util/Arrays", "binarySearch", "([IIII)I"⟩ : MethodName) jdk_65_method_58_code 4 (some .int) :: ws) ({ frames := 1, cells := 0, slots := 0, locals := 19 } : Room)) (fun a U => a = #[(.ref o0), (.int 0), (.int 2), (.int t1)] ∧ Z.Warmed39 U.vm ∧ U.heap = h0) (fun _ _ _ _ _ => True) (fun _ U o U' => ∃ v L, o = .returned v ∧ Q6_6 Z a_ONE a_ZTT e_2 e_3 t0 t1 t2 t3 t4 o0 j0 h0 n0 v U'.heap L ∧ FrameEnd U o U' L ({ frames := 1, cells := 0, slots := 0, locals := 19 } : Room).cells ({ frames := 1, cells := 0, slots := 0, locals := 19 } : Room).slots) := by
  refine MetFree.of_bodySF (plainFor_of_name pn_6) hisR ?_
  intro p e s m args below meth c s₁ Bd hml0 hP hK
  obtain ⟨rfl, hZ, hh⟩ := hP
  have hx := Bd.exec
  have hby := Bd.bytes
  have hml : c.maxLocals = 4 := hml0
  have hown : s.vm.findClass "java/util/Arrays" = some m.cls := findClass_of_methodNamed Bd.named
  have X0 : Stand p l e ({ frames := 1, cells := 0, slots := 0, locals := 19 } : Room) s m #[(.ref o0), (.int 0), (.int 2), (.int t1)] below meth c s₁ [] 0 0 := Stand.of_body Bd
  have e0 : s₁.heap = h0 := by rw [← hh, Bd.state]; rfl
  have N0 := Fr.nil n0
  have pre0 : ∀ t, Steps p.tables e below (s₁.setTop (mkF m 0 #[rv o0, iv 0, iv 2, iv t1] [])) t → Steps p.tables e below (s₁.setTop (entryFrame m #[(.ref o0), (.int 0), (.int 2), (.int t1)] 4)) t := fun t k => castTop (ef_6 m o0 0 2 t1) k
  obtain ⟨c1, r1, q1, S1, M1, H1, G1⟩ := id f0
  obtain ⟨_, _, ⟨T2, L2, k2, n2⟩, -, X2, ⟨Lc2, hQ2, l2, y2, z2⟩, st2⟩ := Jvm.LawKit.callS X0 hx (y := (⟨"java/util/Arrays", "rangeCheck", "(III)V"⟩ : MethodName)) hown (mvT hZ (w_39 hw)) (mvT hZ (w_40 hw)) (mvT hZ (w_37 hw)) (mvT hZ (w_41 hw)) (by decide) (backOf (W := 0) (rm7_2 l Z a0 hw [] a_ONE a_ZTT e_2 e_3 h0 n0 FF OO) hZ (w_41 hw) (w_37 hw) (by decide) (by decide)) (g := (mkF m 4 #[rv o0, iv 0, iv 2, iv t1] [(.int 2), (.int 0), (.int 4)])) rfl (by rw [hml]; rfl) (argsL := [(.int 4), (.int 0), (.int 2)]) (rest := []) (lenOf pd_3 rfl) rfl (by show 2 * 0 + _ ≤ _; exact Nat.le_of_eq rfl) (hb hby d6_4) (fun _ _ => ⟨rfl, e0, (by decide : 0 + 0 ≤ _), (by decide : 0 + 0 ≤ _)⟩)
  dsimp only [Pt.U, Pt.locs, Pt.cells, Pt.slots] at X2 l2 y2 z2 st2 hQ2
  subst l2 y2 z2
  obtain ⟨rfl, N2q, e2⟩ := hQ2
  have N2 := Fr.app N0 N2q
  obtain ⟨_, _, ⟨T3, L3, k3, n3⟩, -, X3, ⟨Lc3, hQ3, l3, y3, z3⟩, st3⟩ := Jvm.LawKit.callS X2 hx (y := (⟨"java/util/Arrays", "binarySearch0", "([IIII)I"⟩ : MethodName)) hown (mvT hZ (w_42 hw)) (mvT hZ (w_43 hw)) (mvT hZ (w_37 hw)) (mvT hZ (w_44 hw)) (by decide) (backOf (W := 0) (rm8_6 l Z a0 hw [] a_ONE a_ZTT e_2 e_3 t0 t1 t2 t3 t4 o0 j0 h0 n0 FF OO f0 hq0 hq1 hq2) hZ (w_44 hw) (w_37 hw) (by decide) (by decide)) (g := (mkF m 11 #[rv o0, iv 0, iv 2, iv t1] [(.int t1), (.int 2), (.int 0), (.ref o0)])) rfl (by rw [hml]; rfl) (argsL := [(.ref o0), (.int 0), (.int 2), (.int t1)]) (rest := []) (lenOf pd_4 rfl) rfl (by show 2 * 0 + _ ≤ _; exact Nat.le_of_eq rfl) (hb hby d6_11) (fun _ _ => ⟨rfl, e2, (by decide : 0 + 0 ≤ _), (by decide : 0 + 0 ≤ _)⟩)
  dsimp only [Pt.U, Pt.locs, Pt.cells, Pt.slots] at X3 l3 y3 z3 st3 hQ3
  subst l3 y3 z3
  obtain ⟨rfl, N3q, e3⟩ := hQ3
  have N3 := Fr.app N2 N3q
  obtain ⟨fs, hr, hrun, hended, hW, hsame⟩ := X3.leave (v := some (.int 1)) (fun h => by rw [Bd.returns] at h; cases h)
  refine ⟨_, _, pre0 _ ?_, hrun, hended, _, _, rfl, ?_, ⟨_, rfl⟩, hW, hsame.mono (by decide) (by decide)⟩
  · show Steps p.tables e below (s₁.setTop (mkF m 0 #[rv o0, iv 0, iv 2, iv t1] [])) _
    refine XS.aloadN X0.here hx rfl (hb hby d6_0) rfl rfl ?_
    refine X0.arraylength hx (by rw [e0]; exact r1.1) (State.isArrayOf_alike hZ.alike r1.2.1) (g := (mkF m 1 #[rv o0, iv 0, iv 2, iv t1] [(.ref o0)])) rfl rfl (hb hby d6_1) _ ?_
    rw [len_of S1 M1]
    refine XS.iloadN X0.here hx rfl (hb hby d6_2) rfl ?_
    show Steps p.tables e below (s₁.setTop (mkF m 3 #[rv o0, iv 0, iv 2, iv t1] [(.int 0), (.int 4)])) _
    refine XS.iloadN X0.here hx rfl (hb hby d6_3) rfl ?_
    refine st2 _ ?_
    refine XS.aloadN X2.here hx rfl (hb hby d6_7) rfl rfl ?_
    refine XS.iloadN X2.here hx rfl (hb hby d6_8) rfl ?_
    show Steps p.tables e below (T2.setTop (mkF m 9 #[rv o0, iv 0, iv 2, iv t1] [(.int 0), (.ref o0)])) _
    refine XS.iloadN X2.here hx rfl (hb hby d6_9) rfl ?_
    refine XS.iloadN X2.here hx rfl (hb hby d6_10) rfl ?_
    refine st3 _ ?_
    exact retI X3 hx Bd.returns (hb hby d6_14) hr
  · show Q6_6 Z a_ONE a_ZTT e_2 e_3 t0 t1 t2 t3 t4 o0 j0 h0 n0 _ T3.heap _
    exact ⟨rfl, N3, e3⟩
def Q5_6 (Z : State) (a_ONE : Addr) (a_ZTT : Addr) (e_2 : Addr) (e_3 : Addr) (t0 : Int32) (t1 : Int32) (t2 : Int32) (t3 : Int32) (t4 : Int32) (o0 : Addr) (o1 : Addr) (o2 : Addr) (j0 : ClassId) (j1 : ClassId) (h0 : Heap) (n0 : Nat) (v : Option Value) (h : Heap) (L : List Loc) : Prop := v = none ∧ Fr n0 L ∧ Keep h0 h [o2] ∧ Arv Z h o2 j1 (.object "java/math/BigDecimal") (4 : Int32) [(.ref a_ONE), (.ref e_2), .null, .null] .null ∧ Ovr Z j1 "java/math/BigDecimal" ∧ Exa Z h o2 "[Ljava/math/BigDecimal;"
set_option maxRecDepth 65536 in
set_option maxHeartbeats 40000000 in
theorem rm5_6 (l : Launch) (Z : State) (a0 : Array Value) (hw : ∀ d ∈ tables_1, d.before a0 Z = true) (ws : List Jvm.Cond) (a_ONE : Addr) (a_ZTT : Addr) (e_2 : Addr) (e_3 : Addr) (t0 : Int32) (t1 : Int32) (t2 : Int32) (t3 : Int32) (t4 : Int32) (o0 : Addr) (o1 : Addr) (o2 : Addr) (j0 : ClassId) (j1 : ClassId) (h0 : Heap) (n0 : Nat) (FF : Facts Z Z.heap a_ONE a_ZTT e_2 e_3) (OO : Old Z n0 h0) (f0 : Fld Z h0 o0 "com/example/deferra/deferra/crediting/DailyAmounts" "days" "[I" (.ref o1)) (f1 : Fld Z h0 o0 "com/example/deferra/deferra/crediting/DailyAmounts" "size" "I" (.int 2)) (f2 : Arv Z h0 o1 j0 .int (4 : Int32) [(.int t0), (.int t2), (.int t3), (.int t4)] (.int 0)) (f3 : Fld Z h0 o0 "com/example/deferra/deferra/crediting/DailyAmounts" "amounts" "[Ljava/math/BigDecimal;" (.ref o2)) (f4 : Arv Z h0 o2 j1 (.object "java/math/BigDecimal") (4 : Int32) [(.ref a_ONE), (.ref a_ONE), .null, .null] .null) (f5 : Ovr Z j1 "java/math/BigDecimal") (u0 : n0 ≤ o2) (f6 : Exa Z h0 o2 "[Ljava/math/BigDecimal;") (hq0 : t0 < t1) (hq1 : ¬ (t2 < t1)) (hq2 : ¬ (t1 < t2)) :
    MetFree l (⟨"com/example/deferra/deferra/crediting/DailyAmounts", "add", "(ILjava/math/BigDecimal;)V"⟩ : MethodName) (head1 (Jvm.Cond.code (⟨"com/example/deferra/deferra/crediting/DailyAmounts", "add", "(ILjava/math/BigDecimal;)V"⟩ : MethodName) prog_24_method_2_code 5 none :: ws) ({ frames := 5, cells := 0, slots := 0, locals := 83 } : Room)) (fun a U => a = #[(.ref o0), (.int t1), (.ref a_ONE)] ∧ Z.Warmed39 U.vm ∧ U.heap = h0) (fun _ _ _ _ _ => True) (fun _ U o U' => ∃ v L, o = .returned v ∧ Q5_6 Z a_ONE a_ZTT e_2 e_3 t0 t1 t2 t3 t4 o0 o1 o2 j0 j1 h0 n0 v U'.heap L ∧ FrameEnd U o U' L ({ frames := 5, cells := 0, slots := 0, locals := 83 } : Room).cells ({ frames := 5, cells := 0, slots := 0, locals := 83 } : Room).slots) := by
  refine MetFree.of_bodySF (plainFor_of_name pn_5) hisR ?_
  intro p e s m args below meth c s₁ Bd hml0 hP hK
  obtain ⟨rfl, hZ, hh⟩ := hP
  have hx := Bd.exec
  have hby := Bd.bytes
  have hml : c.maxLocals = 5 := hml0
  have hown : s.vm.findClass "com/example/deferra/deferra/crediting/DailyAmounts" = some m.cls := findClass_of_methodNamed Bd.named
  have X0 : Stand p l e ({ frames := 5, cells := 0, slots := 0, locals := 83 } : Room) s m #[(.ref o0), (.int t1), (.ref a_ONE)] below meth c s₁ [] 0 0 := Stand.of_body Bd
  have e0 : s₁.heap = h0 := by rw [← hh, Bd.state]; rfl
  have N0 := Fr.nil n0
  have pre0 : ∀ t, Steps p.tables e below (s₁.setTop (mkF m 0 #[rv o0, iv t1, rv a_ONE, .unset, .unset] [])) t → Steps p.tables e below (s₁.setTop (entryFrame m #[(.ref o0), (.int t1), (.ref a_ONE)] 5)) t := fun t k => castTop (ef_5 m o0 t1 a_ONE) k
  obtain ⟨T1, X1, e1, st1⟩ := getF X0 hx hZ hown (host := "") (Or.inl (w_10 hw)) Via.refl e0 f0 (g := (mkF m 1 #[rv o0, iv t1, rv a_ONE, .unset, .unset] [(.ref o0)])) rfl rfl (hb hby d5_1)
  obtain ⟨T2, X2, e2, st2⟩ := getF X1 hx hZ hown (host := "") (Or.inl (w_21 hw)) Via.refl e1 f1 (g := (mkF m 6 #[rv o0, iv t1, rv a_ONE, .unset, .unset] [(.ref o0), (.int 0), (.ref o1)])) rfl rfl (hb hby d5_6)
  obtain ⟨_, _, ⟨T3, L3, k3, n3⟩, -, X3, ⟨Lc3, hQ3, l3, y3, z3⟩, st3⟩ := Jvm.LawKit.callS X2 hx (y := (⟨"java/util/Arrays", "binarySearch", "([IIII)I"⟩ : MethodName)) hown (mvT hZ (w_35 hw)) (mvT hZ (w_36 hw)) (mvT hZ (w_37 hw)) (mvT hZ (w_38 hw)) (by decide) (backOf (W := 0) (rm6_6 l Z a0 hw [] a_ONE a_ZTT e_2 e_3 t0 t1 t2 t3 t4 o1 j0 h0 n0 FF OO f2 hq0 hq1 hq2) hZ (w_38 hw) (w_37 hw) (by decide) (by decide)) (g := (mkF m 10 #[rv o0, iv t1, rv a_ONE, .unset, .unset] [(.int t1), (.int 2), (.int 0), (.ref o1)])) rfl (by rw [hml]; rfl) (argsL := [(.ref o1), (.int 0), (.int 2), (.int t1)]) (rest := []) (lenOf pd_4 rfl) rfl (by show 2 * 0 + _ ≤ _; exact Nat.le_of_eq rfl) (hb hby d5_10) (fun _ _ => ⟨rfl, e2, (by decide : 0 + 0 ≤ _), (by decide : 0 + 0 ≤ _)⟩)
  dsimp only [Pt.U, Pt.locs, Pt.cells, Pt.slots] at X3 l3 y3 z3 st3 hQ3
  subst l3 y3 z3
  obtain ⟨rfl, N3q, e3⟩ := hQ3
  have N3 := Fr.app N0 N3q
  obtain ⟨T4, X4, e4, st4⟩ := getF X3 hx hZ hown (host := "") (Or.inl (w_14 hw)) Via.refl e3 f3 (g := (mkF m 19 #[rv o0, iv t1, rv a_ONE, iv 1, .unset] [(.ref o0)])) rfl rfl (hb hby d5_19)
  obtain ⟨T5, X5, e5, st5⟩ := getF X4 hx hZ hown (host := "") (Or.inl (w_14 hw)) Via.refl e4 f3 (g := (mkF m 24 #[rv o0, iv t1, rv a_ONE, iv 1, .unset] [(.ref o0), (.int 1), (.ref o2)])) rfl rfl (hb hby d5_24)
  obtain ⟨c6, r6, q6, S6, M6, H6, G6⟩ := id f4
  have i7 : ¬ ((1 : Int32) < 0 ∨ c6.slots.size ≤ ((1 : Int32)).toNatClampNeg) := inb_of S6 ⟨by decide, by decide⟩
  have y8 : c6.slots[((1 : Int32)).toNatClampNeg]? = some (.ref a_ONE) := H6 1 (by rw [S6]; decide)
  obtain ⟨cq9, kq9, q9a, q9b, q9c⟩ := isOf hZ e5 (Exa.ext OO.2 (fx_E_a_ONE FF))
  obtain ⟨_, _, ⟨T9, L9, k9, n9⟩, -, X9, ⟨Lc9, hQ9, l9, y9, z9⟩, st9⟩ := X5.virtualBack hx (y := (⟨"java/math/BigDecimal", "add", "(Ljava/math/BigDecimal;)Ljava/math/BigDecimal;"⟩ : MethodName)) (z := (⟨"java/math/BigDecimal", "add", "(Ljava/math/BigDecimal;)Ljava/math/BigDecimal;"⟩ : MethodName)) hown (mvT hZ (w_50 hw)) (mvT hZ (w_51 hw)) (notFace_of_selects (args := #[]) (mvT hZ (w_53 hw))) (mvT hZ (w_53 hw)) (mvT hZ (w_52 hw)) (by decide) (backOf (W := 2) (rm9_0 l Z a0 hw [] a_ONE a_ZTT e_2 e_3 h0 n0 FF OO) hZ (w_54 hw) (w_29 hw) (by decide) (by decide)) q9a q9c (g := (mkF m 30 #[rv o0, iv t1, rv a_ONE, iv 1, .unset] [(.ref a_ONE), (.ref a_ONE), (.int 1), (.ref o2)])) rfl (by rw [hml]; rfl) (Steps.refl _) (argsL := [(.ref a_ONE)]) (rest := [(.int 1), (.ref o2)]) (lenOf pd_11 rfl) rfl (by show 2 * 0 + _ ≤ _; exact Nat.le_of_eq rfl) (hb hby d5_30) (fun _ _ => ⟨rfl, e5, (by decide : 0 + 0 ≤ _), (by decide : 0 + 0 ≤ _)⟩)
  dsimp only [Pt.U, Pt.locs, Pt.cells, Pt.slots] at X9 l9 y9 z9 st9 hQ9
  subst l9 y9 z9
  obtain ⟨rfl, N9q, e9⟩ := hQ9
  have N9 := Fr.app N3 N9q
  obtain ⟨c10, r10, q10, S10, M10, H10, G10⟩ := id f4
  have i11 : ¬ ((1 : Int32) < 0 ∨ c10.slots.size ≤ ((1 : Int32)).toNatClampNeg) := inb_of S10 ⟨by decide, by decide⟩
  obtain ⟨T12, h12, X12, e12, W12, st12⟩ := stR X9 hx hZ e9 r10 (j := (1 : Int32)) i11 rfl (Sto.ofV r10 q10 f5 (Ins.self (Exa.ext OO.2 (fx_E_e_2 FF)))) (g := (mkF m 33 #[rv o0, iv t1, rv a_ONE, iv 1, .unset] [(.ref e_2), (.int 1), (.ref o2)])) rfl rfl (hb hby d5_33)
  have O12 := Old.wr OO W12 u0
  have KK12 : Keep h0 h12 [o2] := Keep.wr (Keep.refl h0 [o2]) W12 (Or.inl (List.mem_of_getElem? (i := 0) rfl))
  have N12 := Fr.snoc X12 N9 u0
  have F13 : Arv Z h12 o2 j1 (.object "java/math/BigDecimal") (4 : Int32) [(.ref a_ONE), (.ref e_2), .null, .null] .null := Arv.set r10 q10 S10 M10 H10 G10 rfl W12 1 rfl (Nat.le_of_ble_eq_true rfl)
  have F14 : Exa Z h12 o2 "[Ljava/math/BigDecimal;" := (Exa.wr W12 f6)
  obtain ⟨fs, hr, hrun, hended, hW, hsame⟩ := X12.leave (v := none) (fun _ => rfl)
  refine ⟨_, _, pre0 _ ?_, hrun, hended, _, _, rfl, ?_, ⟨_, rfl⟩, hW, hsame.mono (by decide) (by decide)⟩
  · show Steps p.tables e below (s₁.setTop (mkF m 0 #[rv o0, iv t1, rv a_ONE, .unset, .unset] [])) _
    refine XS.aloadN X0.here hx rfl (hb hby d5_0) rfl rfl ?_
    refine st1 _ ?_
    refine XS.iconst X1.here hx rfl (hb hby d5_4) ?_
    refine XS.aloadN X1.here hx rfl (hb hby d5_5) rfl rfl ?_
    show Steps p.tables e below (T1.setTop (mkF m 6 #[rv o0, iv t1, rv a_ONE, .unset, .unset] [(.ref o0), (.int 0), (.ref o1)])) _
    refine st2 _ ?_
    refine XS.iloadN X2.here hx rfl (hb hby d5_9) rfl ?_
    refine st3 _ ?_
    refine XS.istoreN X3.here hx rfl (hb hby d5_13) rfl (l' := #[rv o0, iv t1, rv a_ONE, iv 1, .unset]) rfl ?_
    show Steps p.tables e below (T3.setTop (mkF m 14 #[rv o0, iv t1, rv a_ONE, iv 1, .unset] [])) _
    refine XS.iloadN X3.here hx rfl (hb hby d5_14) rfl ?_
    refine XS.ifNo X3.here hx rfl (hb hby d5_15) rfl (by decide) ?_
    refine XS.aloadN X3.here hx rfl (hb hby d5_18) rfl rfl ?_
    refine st4 _ ?_
    show Steps p.tables e below (T4.setTop (mkF m 22 #[rv o0, iv t1, rv a_ONE, iv 1, .unset] [(.ref o2)])) _
    refine XS.iloadN X4.here hx rfl (hb hby d5_22) rfl ?_
    refine XS.aloadN X4.here hx rfl (hb hby d5_23) rfl rfl ?_
    refine st5 _ ?_
    refine XS.iloadN X5.here hx rfl (hb hby d5_27) rfl ?_
    show Steps p.tables e below (T5.setTop (mkF m 28 #[rv o0, iv t1, rv a_ONE, iv 1, .unset] [(.int 1), (.ref o2), (.int 1), (.ref o2)])) _
    refine X5.aaload hx (j := (1 : Int32)) (v := (.ref a_ONE)) (by rw [e5]; exact r6.1) (State.isArrayOf_alike hZ.alike r6.2.1) rfl r6.2.2 i7 y8 (g := (mkF m 28 #[rv o0, iv t1, rv a_ONE, iv 1, .unset] [(.int 1), (.ref o2), (.int 1), (.ref o2)])) rfl rfl (hb hby d5_28) _ ?_
    refine XS.aloadN X5.here hx rfl (hb hby d5_29) rfl rfl ?_
    refine st9.trans ?_
    refine st12 _ ?_
    show Steps p.tables e below (T12.setTop (mkF m 34 #[rv o0, iv t1, rv a_ONE, iv 1, .unset] [])) _
    exact X12.returnOut hx Bd.returns (hb hby d5_34) hr
  · show Q5_6 Z a_ONE a_ZTT e_2 e_3 t0 t1 t2 t3 t4 o0 o1 o2 j0 j1 h0 n0 _ T12.heap _
    rw [e12]
    exact ⟨rfl, N12, KK12, F13, f5, F14⟩
set_option maxRecDepth 65536 in
set_option maxHeartbeats 40000000 in
theorem sg_24 {p : Program} {l : Launch} {e : Env} {s : State} {m : MethodId} {args : Array Value} {below : List Frame} {meth : Method} {c : Code} {T0 : State} {locs : List Loc} {Z : State} {a0 : Array Value} {h0 : Heap} {n0 : Nat} (hw : ∀ d ∈ tables_1, d.before a0 Z = true) (a_ONE : Addr) (a_ZTT : Addr) (e_2 : Addr) (e_3 : Addr) (t0 : Int32) (t1 : Int32) (t2 : Int32) (t3 : Int32) (t4 : Int32) (t5 : Int32) (t6 : Int32) (t7 : Int32) (o0 : Addr) (o1 : Addr) (o2 : Addr) (j0 : ClassId) (j1 : ClassId) (FF : Facts Z Z.heap a_ONE a_ZTT e_2 e_3)
    (X0 : Stand p l e room_1 s m args below meth c T0 locs 3 11) (hx : p.tables.exec = Jvm.exec) (hZ : Z.Warmed39 s.vm) (hby : c.code = code) (hml : c.maxLocals = 8) (hown : s.vm.findClass "com/example/deferra/deferra/crediting/DailyAmountsIsEmptyPinLaw" = some m.cls) (e0 : T0.heap = h0) (N0 : Fr n0 locs) (OO : Old Z n0 h0) (f0 : Fld Z h0 o0 "com/example/deferra/deferra/crediting/DailyAmounts" "days" "[I" (.ref o1)) (f1 : Fld Z h0 o0 "com/example/deferra/deferra/crediting/DailyAmounts" "size" "I" (.int 2)) (f2 : Arv Z h0 o1 j0 .int (4 : Int32) [(.int t0), (.int t2), (.int t3), (.int t4)] (.int 0)) (f3 : Fld Z h0 o0 "com/example/deferra/deferra/crediting/DailyAmounts" "amounts" "[Ljava/math/BigDecimal;" (.ref o2)) (f4 : Arv Z h0 o2 j1 (.object "java/math/BigDecimal") (4 : Int32) [(.ref a_ONE), (.ref a_ONE), .null, .null] .null) (f5 : Ovr Z j1 "java/math/BigDecimal") (f6 : Exa Z h0 o2 "[Ljava/math/BigDecimal;") (u0 : n0 ≤ o2) (f7 : Exa Z h0 o0 "com/example/deferra/deferra/crediting/DailyAmounts") (v0 : o0 ≠ o2) (hq0 : t0 < t1) (hq1 : ¬ (t2 < t1)) (hq2 : ¬ (t1 < t2)) :
    ∃ (T' : State) (h' : Heap) (lc : List Loc), Stand p l e room_1 s m args below meth c T' lc 3 11 ∧ T'.heap = h' ∧ Fr n0 lc ∧ Keep h0 h' [o2] ∧ Arv Z h' o2 j1 (.object "java/math/BigDecimal") (4 : Int32) [(.ref a_ONE), (.ref e_2), .null, .null] .null ∧ Ovr Z j1 "java/math/BigDecimal" ∧ Exa Z h' o2 "[Ljava/math/BigDecimal;" ∧
      ∀ target, Steps p.tables e below (T'.setTop (mkF m 142 #[iv t5, iv t6, iv t7, iv t1, iv 3, rv o0, iv 1, .unset] [])) target → Steps p.tables e below (T0.setTop (mkF m 107 #[iv t5, iv t6, iv t7, iv t1, iv 3, rv o0, iv 1, .unset] [])) target := by
  obtain ⟨T1, X1, e1, st1⟩ := getS2 X0 hx hZ hown (host := "") (Or.inl (w_28 hw)) Via.refl e0 (Sta.ext OO.2 (fx_S_ONE FF)) (g := (mkF m 116 #[iv t5, iv t6, iv t7, iv t1, iv 3, rv o0, iv 1, .unset] [(.int t1), (.ref o0)])) rfl (hb hby at_116)
  obtain ⟨cq2, kq2, q2a, q2b, q2c⟩ := isOf hZ e1 f7
  obtain ⟨_, _, ⟨T2, L2, k2, n2⟩, -, X2, ⟨Lc2, hQ2, l2, y2, z2⟩, st2⟩ := X1.virtualBack hx (y := (⟨"com/example/deferra/deferra/crediting/DailyAmounts", "add", "(ILjava/math/BigDecimal;)V"⟩ : MethodName)) (z := (⟨"com/example/deferra/deferra/crediting/DailyAmounts", "add", "(ILjava/math/BigDecimal;)V"⟩ : MethodName)) hown (mvT hZ (w_30 hw)) (mvT hZ (w_31 hw)) (notFace_of_selects (args := #[]) (mvT hZ (w_33 hw))) (mvT hZ (w_33 hw)) (mvT hZ (w_32 hw)) (by decide) (backOf (W := 0) (rm5_6 l Z a0 hw [] a_ONE a_ZTT e_2 e_3 t0 t1 t2 t3 t4 o0 o1 o2 j0 j1 h0 n0 FF OO f0 f1 f2 f3 f4 f5 u0 f6 hq0 hq1 hq2) hZ (w_34 hw) (w_2 hw) (by decide) (by decide)) q2a q2c (g := (mkF m 119 #[iv t5, iv t6, iv t7, iv t1, iv 3, rv o0, iv 1, .unset] [(.ref a_ONE), (.int t1), (.ref o0)])) rfl (by rw [hml]; rfl) (Steps.refl _) (argsL := [(.int t1), (.ref a_ONE)]) (rest := []) (lenOf pd_5 rfl) rfl (by show 2 * 0 + _ ≤ _; exact Nat.le_of_eq rfl) (hb hby at_119) (fun _ _ => ⟨rfl, e1, (by decide : 3 + 0 ≤ _), (by decide : 11 + 0 ≤ _)⟩)
  dsimp only [Pt.U, Pt.locs, Pt.cells, Pt.slots] at X2 l2 y2 z2 st2 hQ2
  subst l2 y2 z2
  obtain ⟨h2, e2⟩ : ∃ z, T2.heap = z := ⟨_, rfl⟩
  rw [e2] at hQ2
  obtain ⟨rfl, N2q, K2, R2_0, R2_1, R2_2⟩ := hQ2
  have N2 := Fr.app N0 N2q
  have O2 := Old.keep OO K2 (allS u0 all0)
  have KK2 : Keep h0 h2 [o2] := Keep.trans (Keep.refl h0 [o2]) K2 (allS (Or.inl (List.mem_of_getElem? (i := 0) rfl)) all0)
  have F4 : Fld Z h2 o0 "com/example/deferra/deferra/crediting/DailyAmounts" "size" "I" (.int 2) := (Fld.keep f1 K2 (ninS v0 nin0))
  have F5 : Exa Z h2 o0 "com/example/deferra/deferra/crediting/DailyAmounts" := (Exa.keep f7 K2)
  obtain ⟨cq3, kq3, q3a, q3b, q3c⟩ := isOf hZ e2 F5
  obtain ⟨_, _, ⟨T3, L3, k3, n3⟩, -, X3, ⟨Lc3, hQ3, l3, y3, z3⟩, st3⟩ := X2.virtualBack hx (y := (⟨"com/example/deferra/deferra/crediting/DailyAmounts", "isEmpty", "()Z"⟩ : MethodName)) (z := (⟨"com/example/deferra/deferra/crediting/DailyAmounts", "isEmpty", "()Z"⟩ : MethodName)) hown (mvT hZ (w_16 hw)) (mvT hZ (w_17 hw)) (notFace_of_selects (args := #[]) (mvT hZ (w_19 hw))) (mvT hZ (w_19 hw)) (mvT hZ (w_18 hw)) (by decide) (backOf (W := 0) (rm3_2 l Z a0 hw [] a_ONE a_ZTT e_2 e_3 o0 h2 n0 FF O2 F4) hZ (w_20 hw) (w_2 hw) (by decide) (by decide)) q3a q3c (g := (mkF m 129 #[iv t5, iv t6, iv t7, iv t1, iv 3, rv o0, iv 1, .unset] [(.ref o0)])) rfl (by rw [hml]; rfl) (Steps.refl _) (argsL := []) (rest := []) (lenOf pd_1 rfl) rfl (by show 2 * 0 + _ ≤ _; exact Nat.le_of_eq rfl) (hb hby at_129) (fun _ _ => ⟨rfl, e2, (by decide : 3 + 0 ≤ _), (by decide : 11 + 0 ≤ _)⟩)
  dsimp only [Pt.U, Pt.locs, Pt.cells, Pt.slots] at X3 l3 y3 z3 st3 hQ3
  subst l3 y3 z3
  obtain ⟨rfl, N3q, e3⟩ := hQ3
  have N3 := Fr.app N2 N3q
  refine ⟨T3, h2, _, X3, e3, N3, KK2, R2_0, R2_1, R2_2, fun target kt => ?_⟩
  show Steps p.tables e below (T0.setTop (mkF m 107 #[iv t5, iv t6, iv t7, iv t1, iv 3, rv o0, iv 1, .unset] [])) _
  refine XS.iload X0.here hx rfl (hb hby at_107) rfl ?_
  refine XS.iconst X0.here hx rfl (hb hby at_109) ?_
  refine XS.icmpNo X0.here hx rfl (hb hby at_110) rfl (by decide) ?_
  refine XS.aload X0.here hx rfl (hb hby at_113) rfl rfl ?_
  show Steps p.tables e below (T0.setTop (mkF m 115 #[iv t5, iv t6, iv t7, iv t1, iv 3, rv o0, iv 1, .unset] [(.ref o0)])) _
  refine XS.iloadN X0.here hx rfl (hb hby at_115) rfl ?_
  refine st1 _ ?_
  refine st2.trans ?_
  refine XS.iload X2.here hx rfl (hb hby at_122) rfl ?_
  show Steps p.tables e below (T2.setTop (mkF m 124 #[iv t5, iv t6, iv t7, iv t1, iv 3, rv o0, iv 1, .unset] [(.int 1)])) _
  refine XS.ifNo X2.here hx rfl (hb hby at_124) rfl (by decide) ?_
  refine XS.aload X2.here hx rfl (hb hby at_127) rfl rfl ?_
  refine st3.trans ?_
  refine XS.ifNo X3.here hx rfl (hb hby at_132) rfl (by decide) ?_
  show Steps p.tables e below (T3.setTop (mkF m 135 #[iv t5, iv t6, iv t7, iv t1, iv 3, rv o0, iv 1, .unset] [])) _
  refine XS.iconst X3.here hx rfl (hb hby at_135) ?_
  refine XS.goto X3.here hx rfl (pc0 := 136) (pc' := 140) rfl (hb hby at_136) (by decide) (by decide) ?_
  refine XS.istore X3.here hx rfl (hb hby at_140) rfl (l' := #[iv t5, iv t6, iv t7, iv t1, iv 3, rv o0, iv 1, .unset]) rfl ?_
  exact kt
set_option maxRecDepth 65536 in
set_option maxHeartbeats 40000000 in
theorem sg_25 {p : Program} {l : Launch} {e : Env} {s : State} {m : MethodId} {args : Array Value} {below : List Frame} {meth : Method} {c : Code} {T0 : State} {locs : List Loc} {Z : State} {a0 : Array Value} {h0 : Heap} {n0 : Nat} (hw : ∀ d ∈ tables_1, d.before a0 Z = true) (a_ONE : Addr) (a_ZTT : Addr) (e_2 : Addr) (e_3 : Addr) (t0 : Int32) (t1 : Int32) (t2 : Int32) (t3 : Int32) (o0 : Addr) (FF : Facts Z Z.heap a_ONE a_ZTT e_2 e_3)
    (X0 : Stand p l e room_1 s m args below meth c T0 locs 3 11) (hx : p.tables.exec = Jvm.exec) (hZ : Z.Warmed39 s.vm) (hby : c.code = code) (hml : c.maxLocals = 8) (hown : s.vm.findClass "com/example/deferra/deferra/crediting/DailyAmountsIsEmptyPinLaw" = some m.cls) (e0 : T0.heap = h0) (N0 : Fr n0 locs) (OO : Old Z n0 h0) (f0 : Fld Z h0 o0 "com/example/deferra/deferra/crediting/DailyAmounts" "size" "I" (.int 2)) (f1 : Exa Z h0 o0 "com/example/deferra/deferra/crediting/DailyAmounts") :
    ∃ (T' : State) (h' : Heap) (lc : List Loc), Stand p l e room_1 s m args below meth c T' lc 3 11 ∧ T'.heap = h' ∧ Fr n0 lc ∧ Keep h0 h' [] ∧
      ∀ target, Steps p.tables e below (T'.setTop (mkF m 192 #[iv t0, iv t1, iv t2, iv t3, iv 3, rv o0, iv 1, iv 0] [(.int 1)])) target → Steps p.tables e below (T0.setTop (mkF m 142 #[iv t0, iv t1, iv t2, iv t3, iv 3, rv o0, iv 1, .unset] [])) target := by
  obtain ⟨cq1, kq1, q1a, q1b, q1c⟩ := isOf hZ e0 f1
  obtain ⟨_, _, ⟨T1, L1, k1, n1⟩, -, X1, ⟨Lc1, hQ1, l1, y1, z1⟩, st1⟩ := X0.virtualBack hx (y := (⟨"com/example/deferra/deferra/crediting/DailyAmounts", "isEmpty", "()Z"⟩ : MethodName)) (z := (⟨"com/example/deferra/deferra/crediting/DailyAmounts", "isEmpty", "()Z"⟩ : MethodName)) hown (mvT hZ (w_16 hw)) (mvT hZ (w_17 hw)) (notFace_of_selects (args := #[]) (mvT hZ (w_19 hw))) (mvT hZ (w_19 hw)) (mvT hZ (w_18 hw)) (by decide) (backOf (W := 0) (rm3_2 l Z a0 hw [] a_ONE a_ZTT e_2 e_3 o0 h0 n0 FF OO f0) hZ (w_20 hw) (w_2 hw) (by decide) (by decide)) q1a q1c (g := (mkF m 144 #[iv t0, iv t1, iv t2, iv t3, iv 3, rv o0, iv 1, .unset] [(.ref o0)])) rfl (by rw [hml]; rfl) (Steps.refl _) (argsL := []) (rest := []) (lenOf pd_1 rfl) rfl (by show 2 * 0 + _ ≤ _; exact Nat.le_of_eq rfl) (hb hby at_144) (fun _ _ => ⟨rfl, e0, (by decide : 3 + 0 ≤ _), (by decide : 11 + 0 ≤ _)⟩)
  dsimp only [Pt.U, Pt.locs, Pt.cells, Pt.slots] at X1 l1 y1 z1 st1 hQ1
  subst l1 y1 z1
  obtain ⟨rfl, N1q, e1⟩ := hQ1
  have N1 := Fr.app N0 N1q
  obtain ⟨cq2, kq2, q2a, q2b, q2c⟩ := isOf hZ e1 f1
  obtain ⟨_, _, ⟨T2, L2, k2, n2⟩, -, X2, ⟨Lc2, hQ2, l2, y2, z2⟩, st2⟩ := X1.virtualBack hx (y := (⟨"com/example/deferra/deferra/crediting/DailyAmounts", "size", "()I"⟩ : MethodName)) (z := (⟨"com/example/deferra/deferra/crediting/DailyAmounts", "size", "()I"⟩ : MethodName)) hown (mvT hZ (w_23 hw)) (mvT hZ (w_24 hw)) (notFace_of_selects (args := #[]) (mvT hZ (w_26 hw))) (mvT hZ (w_26 hw)) (mvT hZ (w_25 hw)) (by decide) (backOf (W := 1) (rm4_0 l Z a0 hw [] a_ONE a_ZTT e_2 e_3 (2 : Int32) o0 h0 n0 FF OO f0) hZ (w_27 hw) (w_2 hw) (by decide) (by decide)) q2a q2c (g := (mkF m 158 #[iv t0, iv t1, iv t2, iv t3, iv 3, rv o0, iv 1, iv 0] [(.ref o0), (.int 0)])) rfl (by rw [hml]; rfl) (Steps.refl _) (argsL := []) (rest := [(.int 0)]) (lenOf pd_2 rfl) rfl (by show 2 * 0 + _ ≤ _; exact Nat.le_of_eq rfl) (hb hby at_158) (fun _ _ => ⟨rfl, e1, (by decide : 3 + 0 ≤ _), (by decide : 11 + 0 ≤ _)⟩)
  dsimp only [Pt.U, Pt.locs, Pt.cells, Pt.slots] at X2 l2 y2 z2 st2 hQ2
  subst l2 y2 z2
  obtain ⟨rfl, N2q, e2⟩ := hQ2
  have N2 := Fr.app N1 N2q
  refine ⟨T2, h0, _, X2, e2, N2, (Keep.refl h0 []), fun target kt => ?_⟩
  show Steps p.tables e below (T0.setTop (mkF m 142 #[iv t0, iv t1, iv t2, iv t3, iv 3, rv o0, iv 1, .unset] [])) _
  refine XS.aload X0.here hx rfl (hb hby at_142) rfl rfl ?_
  refine st1.trans ?_
  refine XS.istore X1.here hx rfl (hb hby at_147) rfl (l' := #[iv t0, iv t1, iv t2, iv t3, iv 3, rv o0, iv 1, iv 0]) rfl ?_
  refine XS.iload X1.here hx rfl (hb hby at_149) rfl ?_
  show Steps p.tables e below (T1.setTop (mkF m 151 #[iv t0, iv t1, iv t2, iv t3, iv 3, rv o0, iv 1, iv 0] [(.int 1)])) _
  refine XS.ifNo X1.here hx rfl (hb hby at_151) rfl (by decide) ?_
  refine XS.iload X1.here hx rfl (hb hby at_154) rfl ?_
  refine XS.aload X1.here hx rfl (hb hby at_156) rfl rfl ?_
  refine st2.trans ?_
  show Steps p.tables e below (T2.setTop (mkF m 161 #[iv t0, iv t1, iv t2, iv t3, iv 3, rv o0, iv 1, iv 0] [(.int 2), (.int 0)])) _
  refine XS.ifYes X2.here hx rfl (pc0 := 161) (pc' := 168) rfl (hb hby at_161) rfl (by decide) (by decide) (by decide) ?_
  refine XS.iconst X2.here hx rfl (hb hby at_168) ?_
  refine XS.icmpNo X2.here hx rfl (hb hby at_169) rfl (by decide) ?_
  refine XS.iload X2.here hx rfl (hb hby at_172) rfl ?_
  show Steps p.tables e below (T2.setTop (mkF m 174 #[iv t0, iv t1, iv t2, iv t3, iv 3, rv o0, iv 1, iv 0] [(.int 0)])) _
  refine XS.iload X2.here hx rfl (hb hby at_174) rfl ?_
  refine XS.ifYes X2.here hx rfl (pc0 := 176) (pc' := 183) rfl (hb hby at_176) rfl (by decide) (by decide) (by decide) ?_
  refine XS.iconst X2.here hx rfl (hb hby at_183) ?_
  refine XS.icmpNo X2.here hx rfl (hb hby at_184) rfl (by decide) ?_
  show Steps p.tables e below (T2.setTop (mkF m 187 #[iv t0, iv t1, iv t2, iv t3, iv 3, rv o0, iv 1, iv 0] [])) _
  refine XS.iconst X2.here hx rfl (hb hby at_187) ?_
  refine XS.goto X2.here hx rfl (pc0 := 188) (pc' := 192) rfl (hb hby at_188) (by decide) (by decide) ?_
  exact kt
set_option maxRecDepth 65536 in
set_option maxHeartbeats 40000000 in
theorem rm0_7 (l : Launch) (Z : State) (a0 : Array Value) (hw : ∀ d ∈ tables_1, d.before a0 Z = true) (ws : List Jvm.Cond) (a_ONE : Addr) (a_ZTT : Addr) (e_2 : Addr) (e_3 : Addr) (p0 : Int32) (p1 : Int32) (p2 : Int32) (p3 : Int32) (h0 : Heap) (n0 : Nat) (FF : Facts Z Z.heap a_ONE a_ZTT e_2 e_3) (OO : Old Z n0 h0) (hk0 : (p0 &&& (3 : Int32)) = (3 : Int32)) (hd0 : p1 < p2) (hd1 : p1 < p3) (hd2 : ¬ (p2 < p3)) (hd3 : ¬ (p3 < p2)) :
    MetFree l x (head1 (Jvm.Cond.code x code maxLocals ret :: ws) room_1) (fun a U => a = #[(.int p0), (.int p1), (.int p2), (.int p3)] ∧ Z.Warmed39 U.vm ∧ U.heap = h0) (fun _ _ _ _ _ => True) (fun _ U o U' => ∃ v L, o = .returned v ∧ (v = some (.int (1 : Int32)) ∧ Fr n0 L) ∧ FrameEnd U o U' L room_1.cells room_1.slots) := by
  refine MetFree.of_bodySF (plainFor_of_name pn_0) hisR ?_
  intro p e s m args below meth c s₁ Bd hml0 hP hK
  obtain ⟨rfl, hZ, hh⟩ := hP
  have hx := Bd.exec
  have hby := Bd.bytes
  have hml : c.maxLocals = 8 := hml0
  have hown : s.vm.findClass "com/example/deferra/deferra/crediting/DailyAmountsIsEmptyPinLaw" = some m.cls := findClass_of_methodNamed Bd.named
  have X0 : Stand p l e room_1 s m #[(.int p0), (.int p1), (.int p2), (.int p3)] below meth c s₁ [] 0 0 := Stand.of_body Bd
  have e0 : s₁.heap = h0 := by rw [← hh, Bd.state]; rfl
  have N0 := Fr.nil n0
  have pre0 : ∀ t, Steps p.tables e below (s₁.setTop (mkF m 0 #[iv p0, iv p1, iv p2, iv p3, .unset, .unset, .unset, .unset] [])) t → Steps p.tables e below (s₁.setTop (entryFrame m #[(.int p0), (.int p1), (.int p2), (.int p3)] maxLocals)) t := fun t k => castTop (ef_0 m p0 p1 p2 p3) k
  obtain ⟨T1, h1, lc1, b1, b2, b3, kb2, kb3, X1, e1, N1, K1, sp1_b1, sp1_b2, sp1_b3, ne1_b1_b2, ne1_b1_b3, ne1_b2_b3, R1_0, R1_1, R1_2, R1_3, R1_4, R1_5, R1_6, R1_7, R1_8, st1⟩ := sg_18 hw a_ONE a_ZTT e_2 e_3 p0 p1 p2 p3 FF X0 hx hZ hby hml hown e0 N0 OO hk0
  have g2 : n0 ≤ b1 := Nat.le_trans (own_le OO) sp1_b1
  have g3 : n0 ≤ b2 := Nat.le_trans (own_le OO) sp1_b2
  have g4 : n0 ≤ b3 := Nat.le_trans (own_le OO) sp1_b3
  have O1 := Old.keep OO K1 all0
  obtain ⟨T5, h5, lc5, X5, e5, N5, K5, R5_0, R5_1, R5_2, R5_3, R5_4, R5_5, R5_6, R5_7, R5_8, st5⟩ := sg_19 hw a_ONE a_ZTT e_2 e_3 (0 : Int32) (0 : Int32) (0 : Int32) (0 : Int32) p1 p0 p2 p3 b1 b2 b3 kb2 kb3 FF X1 hx hZ hby hml hown e1 N1 O1 R1_1 R1_3 R1_5 R1_2 R1_7 R1_8 R1_0 R1_4 R1_6 g3 ne1_b1_b2 (Ne.symm ne1_b2_b3) g4 ne1_b1_b3 g2
  have O5 := Old.keep O1 K5 (allS g2 (allS g4 (allS g3 all0)))
  obtain ⟨T6, h6, lc6, X6, e6, N6, K6, R6_0, R6_1, R6_2, R6_3, R6_4, R6_5, R6_6, R6_7, R6_8, st6⟩ := sg_20 hw a_ONE a_ZTT e_2 e_3 p1 p2 (0 : Int32) (0 : Int32) (0 : Int32) p0 p1 p3 b1 b2 b3 kb2 kb3 FF X5 hx hZ hby hml hown e5 N5 O5 R5_0 R5_1 R5_7 R5_2 R5_4 R5_5 R5_3 R5_8 R5_6 g3 ne1_b1_b2 (Ne.symm ne1_b2_b3) g4 ne1_b1_b3 g2 hd0
  have O6 := Old.keep O5 K6 (allS g2 (allS g4 (allS g3 all0)))
  obtain ⟨T7, h7, lc7, X7, e7, N7, K7, R7_0, R7_1, R7_2, st7⟩ := sg_24 hw a_ONE a_ZTT e_2 e_3 p1 p3 p2 (0 : Int32) (0 : Int32) p0 p1 p2 b1 b2 b3 kb2 kb3 FF X6 hx hZ hby hml hown e6 N6 O6 R6_0 R6_1 R6_7 R6_2 R6_4 R6_5 R6_6 g4 R6_3 ne1_b1_b3 hd1 hd2 hd3
  have O7 := Old.keep O6 K7 (allS g4 all0)
  have F9 : Fld Z h7 b1 "com/example/deferra/deferra/crediting/DailyAmounts" "size" "I" (.int 2) := (Fld.keep R6_1 K7 (ninS ne1_b1_b3 nin0))
  have F10 : Exa Z h7 b1 "com/example/deferra/deferra/crediting/DailyAmounts" := (Exa.keep R6_3 K7)
  obtain ⟨T8, h8, lc8, X8, e8, N8, K8, st8⟩ := sg_25 hw a_ONE a_ZTT e_2 e_3 p0 p1 p2 p3 b1 FF X7 hx hZ hby hml hown e7 N7 O7 F9 F10
  have O8 := Old.keep O7 K8 all0
  obtain ⟨fs, hr, hrun, hended, hW, hsame⟩ := X8.leave (v := some (.int 1)) (fun h => by rw [Bd.returns] at h; cases h)
  refine ⟨_, _, pre0 _ ?_, hrun, hended, _, _, rfl, ?_, ⟨_, rfl⟩, hW, hsame.mono (by decide) (by decide)⟩
  · show Steps p.tables e below (s₁.setTop (mkF m 0 #[iv p0, iv p1, iv p2, iv p3, .unset, .unset, .unset, .unset] [])) _
    refine st1 _ ?_
    show Steps p.tables e below (T1.setTop (mkF m 37 #[iv p0, iv p1, iv p2, iv p3, iv 3, rv b1, iv 1, .unset] [])) _
    refine st5 _ ?_
    show Steps p.tables e below (T5.setTop (mkF m 72 #[iv p0, iv p1, iv p2, iv p3, iv 3, rv b1, iv 1, .unset] [])) _
    refine st6 _ ?_
    show Steps p.tables e below (T6.setTop (mkF m 107 #[iv p0, iv p1, iv p2, iv p3, iv 3, rv b1, iv 1, .unset] [])) _
    refine st7 _ ?_
    show Steps p.tables e below (T7.setTop (mkF m 142 #[iv p0, iv p1, iv p2, iv p3, iv 3, rv b1, iv 1, .unset] [])) _
    refine st8 _ ?_
    exact retN X8 hx (t := .boolean) Bd.returns (by simp) (hb hby at_192) hr
  · exact ⟨rfl, N8⟩
def Q8_7 (Z : State) (a_ONE : Addr) (a_ZTT : Addr) (e_2 : Addr) (e_3 : Addr) (t0 : Int32) (t1 : Int32) (t2 : Int32) (t3 : Int32) (t4 : Int32) (o0 : Addr) (j0 : ClassId) (h0 : Heap) (n0 : Nat) (v : Option Value) (h : Heap) (L : List Loc) : Prop := v = some (.int (-1)) ∧ Fr n0 L ∧ h = h0
set_option maxRecDepth 65536 in
set_option maxHeartbeats 40000000 in
theorem rm8_7 (l : Launch) (Z : State) (a0 : Array Value) (hw : ∀ d ∈ tables_1, d.before a0 Z = true) (ws : List Jvm.Cond) (a_ONE : Addr) (a_ZTT : Addr) (e_2 : Addr) (e_3 : Addr) (t0 : Int32) (t1 : Int32) (t2 : Int32) (t3 : Int32) (t4 : Int32) (o0 : Addr) (j0 : ClassId) (h0 : Heap) (n0 : Nat) (FF : Facts Z Z.heap a_ONE a_ZTT e_2 e_3) (OO : Old Z n0 h0) (f0 : Arv Z h0 o0 j0 .int (4 : Int32) [(.int t0), (.int t2), (.int t3), (.int t4)] (.int 0)) (hq0 : ¬ (t0 < t1)) (hq1 : t1 < t0) :
    MetFree l (⟨"java/util/Arrays", "binarySearch0", "([IIII)I"⟩ : MethodName) (head1 (Jvm.Cond.code (⟨"java/util/Arrays", "binarySearch0", "([IIII)I"⟩ : MethodName) jdk_65_method_59_code 8 (some .int) :: ws) ({ frames := 0, cells := 0, slots := 0, locals := 0 } : Room)) (fun a U => a = #[(.ref o0), (.int 0), (.int 2), (.int t1)] ∧ Z.Warmed39 U.vm ∧ U.heap = h0) (fun _ _ _ _ _ => True) (fun _ U o U' => ∃ v L, o = .returned v ∧ Q8_7 Z a_ONE a_ZTT e_2 e_3 t0 t1 t2 t3 t4 o0 j0 h0 n0 v U'.heap L ∧ FrameEnd U o U' L ({ frames := 0, cells := 0, slots := 0, locals := 0 } : Room).cells ({ frames := 0, cells := 0, slots := 0, locals := 0 } : Room).slots) := by
  refine MetFree.of_bodySF (plainFor_of_name pn_8) hisR ?_
  intro p e s m args below meth c s₁ Bd hml0 hP hK
  obtain ⟨rfl, hZ, hh⟩ := hP
  have hx := Bd.exec
  have hby := Bd.bytes
  have hml : c.maxLocals = 8 := hml0
  have hown : s.vm.findClass "java/util/Arrays" = some m.cls := findClass_of_methodNamed Bd.named
  have X0 : Stand p l e ({ frames := 0, cells := 0, slots := 0, locals := 0 } : Room) s m #[(.ref o0), (.int 0), (.int 2), (.int t1)] below meth c s₁ [] 0 0 := Stand.of_body Bd
  have e0 : s₁.heap = h0 := by rw [← hh, Bd.state]; rfl
  have N0 := Fr.nil n0
  have pre0 : ∀ t, Steps p.tables e below (s₁.setTop (mkF m 0 #[rv o0, iv 0, iv 2, iv t1, .unset, .unset, .unset, .unset] [])) t → Steps p.tables e below (s₁.setTop (entryFrame m #[(.ref o0), (.int 0), (.int 2), (.int t1)] 8)) t := fun t k => castTop (ef_8 m o0 0 2 t1) k
  obtain ⟨c1, r1, q1, S1, M1, H1, G1⟩ := id f0
  have i2 : ¬ ((0 : Int32) < 0 ∨ c1.slots.size ≤ ((0 : Int32)).toNatClampNeg) := inb_of S1 ⟨by decide, by decide⟩
  have y3 : c1.slots[((0 : Int32)).toNatClampNeg]? = some (.int t0) := H1 0 (by rw [S1]; decide)
  obtain ⟨fs, hr, hrun, hended, hW, hsame⟩ := X0.leave (v := some (.int (-1))) (fun h => by rw [Bd.returns] at h; cases h)
  refine ⟨_, _, pre0 _ ?_, hrun, hended, _, _, rfl, ?_, ⟨_, rfl⟩, hW, hsame.mono (by decide) (by decide)⟩
  · show Steps p.tables e below (s₁.setTop (mkF m 0 #[rv o0, iv 0, iv 2, iv t1, .unset, .unset, .unset, .unset] [])) _
    refine XS.iloadN X0.here hx rfl (hb hby d8_0) rfl ?_
    refine XS.istore X0.here hx rfl (hb hby d8_1) rfl (l' := #[rv o0, iv 0, iv 2, iv t1, iv 0, .unset, .unset, .unset]) rfl ?_
    refine XS.iloadN X0.here hx rfl (hb hby d8_3) rfl ?_
    refine XS.iconst X0.here hx rfl (hb hby d8_4) ?_
    show Steps p.tables e below (s₁.setTop (mkF m 5 #[rv o0, iv 0, iv 2, iv t1, iv 0, .unset, .unset, .unset] [(.int 1), (.int 2)])) _
    refine XS.isub X0.here hx rfl (hb hby d8_5) rfl ?_
    show Steps p.tables e below (s₁.setTop (mkF m 6 #[rv o0, iv 0, iv 2, iv t1, iv 0, .unset, .unset, .unset] [(.int ((2 : Int32) - (1 : Int32)))])) _
    rw [(by decide : ((2 : Int32) - (1 : Int32)) = (1 : Int32))]
    refine XS.istore X0.here hx rfl (hb hby d8_6) rfl (l' := #[rv o0, iv 0, iv 2, iv t1, iv 0, iv 1, .unset, .unset]) rfl ?_
    refine XS.iload X0.here hx rfl (hb hby d8_8) rfl ?_
    refine XS.iload X0.here hx rfl (hb hby d8_10) rfl ?_
    show Steps p.tables e below (s₁.setTop (mkF m 12 #[rv o0, iv 0, iv 2, iv t1, iv 0, iv 1, .unset, .unset] [(.int 1), (.int 0)])) _
    refine XS.icmpNo X0.here hx rfl (hb hby d8_12) rfl (by decide) ?_
    refine XS.iload X0.here hx rfl (hb hby d8_15) rfl ?_
    refine XS.iload X0.here hx rfl (hb hby d8_17) rfl ?_
    refine XS.iadd X0.here hx rfl (hb hby d8_19) rfl ?_
    show Steps p.tables e below (s₁.setTop (mkF m 20 #[rv o0, iv 0, iv 2, iv t1, iv 0, iv 1, .unset, .unset] [(.int ((0 : Int32) + (1 : Int32)))])) _
    rw [(by decide : ((0 : Int32) + (1 : Int32)) = (1 : Int32))]
    refine XS.iconst X0.here hx rfl (hb hby d8_20) ?_
    refine XS.iushr X0.here hx rfl (hb hby d8_21) rfl ?_
    show Steps p.tables e below (s₁.setTop (mkF m 22 #[rv o0, iv 0, iv 2, iv t1, iv 0, iv 1, .unset, .unset] [(.int (((1 : Int32).toUInt32 >>> ((1 : Int32) &&& 31).toUInt32).toInt32))])) _
    rw [(by decide : (((1 : Int32).toUInt32 >>> ((1 : Int32) &&& 31).toUInt32).toInt32) = (0 : Int32))]
    refine XS.istore X0.here hx rfl (hb hby d8_22) rfl (l' := #[rv o0, iv 0, iv 2, iv t1, iv 0, iv 1, iv 0, .unset]) rfl ?_
    refine XS.aloadN X0.here hx rfl (hb hby d8_24) rfl rfl ?_
    refine XS.iload X0.here hx rfl (hb hby d8_25) rfl ?_
    show Steps p.tables e below (s₁.setTop (mkF m 27 #[rv o0, iv 0, iv 2, iv t1, iv 0, iv 1, iv 0, .unset] [(.int 0), (.ref o0)])) _
    refine X0.iaload hx (j := (0 : Int32)) (v := (.int t0)) (by rw [e0]; exact r1.1) (State.isArrayOf_alike hZ.alike r1.2.1) r1.2.2 i2 y3 (g := (mkF m 27 #[rv o0, iv 0, iv 2, iv t1, iv 0, iv 1, iv 0, .unset] [(.int 0), (.ref o0)])) rfl rfl (hb hby d8_27) _ ?_
    refine XS.istore X0.here hx rfl (hb hby d8_28) rfl (l' := #[rv o0, iv 0, iv 2, iv t1, iv 0, iv 1, iv 0, iv t0]) rfl ?_
    refine XS.iload X0.here hx rfl (hb hby d8_30) rfl ?_
    refine XS.iloadN X0.here hx rfl (hb hby d8_32) rfl ?_
    show Steps p.tables e below (s₁.setTop (mkF m 33 #[rv o0, iv 0, iv 2, iv t1, iv 0, iv 1, iv 0, iv t0] [(.int t1), (.int t0)])) _
    refine XS.icmpYes X0.here hx rfl (pc0 := 33) (pc' := 45) rfl (hb hby d8_33) rfl (flt hq0).2.1 (by decide) (by decide) ?_
    refine XS.iload X0.here hx rfl (hb hby d8_45) rfl ?_
    refine XS.iloadN X0.here hx rfl (hb hby d8_47) rfl ?_
    refine XS.icmpNo X0.here hx rfl (hb hby d8_48) rfl (tlt hq1).2.2.2 ?_
    show Steps p.tables e below (s₁.setTop (mkF m 51 #[rv o0, iv 0, iv 2, iv t1, iv 0, iv 1, iv 0, iv t0] [])) _
    refine XS.iload X0.here hx rfl (hb hby d8_51) rfl ?_
    refine XS.iconst X0.here hx rfl (hb hby d8_53) ?_
    refine XS.isub X0.here hx rfl (hb hby d8_54) rfl ?_
    show Steps p.tables e below (s₁.setTop (mkF m 55 #[rv o0, iv 0, iv 2, iv t1, iv 0, iv 1, iv 0, iv t0] [(.int ((0 : Int32) - (1 : Int32)))])) _
    rw [(by decide : ((0 : Int32) - (1 : Int32)) = (-1 : Int32))]
    refine XS.istore X0.here hx rfl (hb hby d8_55) rfl (l' := #[rv o0, iv 0, iv 2, iv t1, iv 0, iv (-1), iv 0, iv t0]) rfl ?_
    refine XS.goto X0.here hx rfl (pc0 := 57) (pc' := 63) rfl (hb hby d8_57) (by decide) (by decide) ?_
    refine XS.goto X0.here hx rfl (pc0 := 63) (pc' := 8) rfl (hb hby d8_63) (by decide) (by decide) ?_
    show Steps p.tables e below (s₁.setTop (mkF m 8 #[rv o0, iv 0, iv 2, iv t1, iv 0, iv (-1), iv 0, iv t0] [])) _
    refine XS.iload X0.here hx rfl (hb hby d8_8) rfl ?_
    refine XS.iload X0.here hx rfl (hb hby d8_10) rfl ?_
    refine XS.icmpYes X0.here hx rfl (pc0 := 12) (pc' := 66) rfl (hb hby d8_12) rfl (by decide) (by decide) (by decide) ?_
    refine XS.iload X0.here hx rfl (hb hby d8_66) rfl ?_
    show Steps p.tables e below (s₁.setTop (mkF m 68 #[rv o0, iv 0, iv 2, iv t1, iv 0, iv (-1), iv 0, iv t0] [(.int 0)])) _
    refine XS.iconst X0.here hx rfl (hb hby d8_68) ?_
    refine XS.iadd X0.here hx rfl (hb hby d8_69) rfl ?_
    show Steps p.tables e below (s₁.setTop (mkF m 70 #[rv o0, iv 0, iv 2, iv t1, iv 0, iv (-1), iv 0, iv t0] [(.int ((0 : Int32) + (1 : Int32)))])) _
    rw [(by decide : ((0 : Int32) + (1 : Int32)) = (1 : Int32))]
    refine XS.ineg X0.here hx rfl (hb hby d8_70) rfl ?_
    show Steps p.tables e below (s₁.setTop (mkF m 71 #[rv o0, iv 0, iv 2, iv t1, iv 0, iv (-1), iv 0, iv t0] [(.int (-(1 : Int32)))])) _
    rw [(by decide : (-(1 : Int32)) = (-1 : Int32))]
    exact retI X0 hx Bd.returns (hb hby d8_71) hr
  · show Q8_7 Z a_ONE a_ZTT e_2 e_3 t0 t1 t2 t3 t4 o0 j0 h0 n0 _ s₁.heap _
    exact ⟨rfl, N0, e0⟩
def Q6_7 (Z : State) (a_ONE : Addr) (a_ZTT : Addr) (e_2 : Addr) (e_3 : Addr) (t0 : Int32) (t1 : Int32) (t2 : Int32) (t3 : Int32) (t4 : Int32) (o0 : Addr) (j0 : ClassId) (h0 : Heap) (n0 : Nat) (v : Option Value) (h : Heap) (L : List Loc) : Prop := v = some (.int (-1)) ∧ Fr n0 L ∧ h = h0
set_option maxRecDepth 65536 in
set_option maxHeartbeats 40000000 in
theorem rm6_7 (l : Launch) (Z : State) (a0 : Array Value) (hw : ∀ d ∈ tables_1, d.before a0 Z = true) (ws : List Jvm.Cond) (a_ONE : Addr) (a_ZTT : Addr) (e_2 : Addr) (e_3 : Addr) (t0 : Int32) (t1 : Int32) (t2 : Int32) (t3 : Int32) (t4 : Int32) (o0 : Addr) (j0 : ClassId) (h0 : Heap) (n0 : Nat) (FF : Facts Z Z.heap a_ONE a_ZTT e_2 e_3) (OO : Old Z n0 h0) (f0 : Arv Z h0 o0 j0 .int (4 : Int32) [(.int t0), (.int t2), (.int t3), (.int t4)] (.int 0)) (hq0 : ¬ (t0 < t1)) (hq1 : t1 < t0) :
    MetFree l (⟨"java/util/Arrays", "binarySearch", "([IIII)I"⟩ : MethodName) (head1 (Jvm.Cond.code (⟨"java/util/Arrays", "binarySearch", "([IIII)I"⟩ : MethodName) jdk_65_method_58_code 4 (some .int) :: ws) ({ frames := 1, cells := 0, slots := 0, locals := 19 } : Room)) (fun a U => a = #[(.ref o0), (.int 0), (.int 2), (.int t1)] ∧ Z.Warmed39 U.vm ∧ U.heap = h0) (fun _ _ _ _ _ => True) (fun _ U o U' => ∃ v L, o = .returned v ∧ Q6_7 Z a_ONE a_ZTT e_2 e_3 t0 t1 t2 t3 t4 o0 j0 h0 n0 v U'.heap L ∧ FrameEnd U o U' L ({ frames := 1, cells := 0, slots := 0, locals := 19 } : Room).cells ({ frames := 1, cells := 0, slots := 0, locals := 19 } : Room).slots) := by
  refine MetFree.of_bodySF (plainFor_of_name pn_6) hisR ?_
  intro p e s m args below meth c s₁ Bd hml0 hP hK
  obtain ⟨rfl, hZ, hh⟩ := hP
  have hx := Bd.exec
  have hby := Bd.bytes
  have hml : c.maxLocals = 4 := hml0
  have hown : s.vm.findClass "java/util/Arrays" = some m.cls := findClass_of_methodNamed Bd.named
  have X0 : Stand p l e ({ frames := 1, cells := 0, slots := 0, locals := 19 } : Room) s m #[(.ref o0), (.int 0), (.int 2), (.int t1)] below meth c s₁ [] 0 0 := Stand.of_body Bd
  have e0 : s₁.heap = h0 := by rw [← hh, Bd.state]; rfl
  have N0 := Fr.nil n0
  have pre0 : ∀ t, Steps p.tables e below (s₁.setTop (mkF m 0 #[rv o0, iv 0, iv 2, iv t1] [])) t → Steps p.tables e below (s₁.setTop (entryFrame m #[(.ref o0), (.int 0), (.int 2), (.int t1)] 4)) t := fun t k => castTop (ef_6 m o0 0 2 t1) k
  obtain ⟨c1, r1, q1, S1, M1, H1, G1⟩ := id f0
  obtain ⟨_, _, ⟨T2, L2, k2, n2⟩, -, X2, ⟨Lc2, hQ2, l2, y2, z2⟩, st2⟩ := Jvm.LawKit.callS X0 hx (y := (⟨"java/util/Arrays", "rangeCheck", "(III)V"⟩ : MethodName)) hown (mvT hZ (w_39 hw)) (mvT hZ (w_40 hw)) (mvT hZ (w_37 hw)) (mvT hZ (w_41 hw)) (by decide) (backOf (W := 0) (rm7_2 l Z a0 hw [] a_ONE a_ZTT e_2 e_3 h0 n0 FF OO) hZ (w_41 hw) (w_37 hw) (by decide) (by decide)) (g := (mkF m 4 #[rv o0, iv 0, iv 2, iv t1] [(.int 2), (.int 0), (.int 4)])) rfl (by rw [hml]; rfl) (argsL := [(.int 4), (.int 0), (.int 2)]) (rest := []) (lenOf pd_3 rfl) rfl (by show 2 * 0 + _ ≤ _; exact Nat.le_of_eq rfl) (hb hby d6_4) (fun _ _ => ⟨rfl, e0, (by decide : 0 + 0 ≤ _), (by decide : 0 + 0 ≤ _)⟩)
  dsimp only [Pt.U, Pt.locs, Pt.cells, Pt.slots] at X2 l2 y2 z2 st2 hQ2
  subst l2 y2 z2
  obtain ⟨rfl, N2q, e2⟩ := hQ2
  have N2 := Fr.app N0 N2q
  obtain ⟨_, _, ⟨T3, L3, k3, n3⟩, -, X3, ⟨Lc3, hQ3, l3, y3, z3⟩, st3⟩ := Jvm.LawKit.callS X2 hx (y := (⟨"java/util/Arrays", "binarySearch0", "([IIII)I"⟩ : MethodName)) hown (mvT hZ (w_42 hw)) (mvT hZ (w_43 hw)) (mvT hZ (w_37 hw)) (mvT hZ (w_44 hw)) (by decide) (backOf (W := 0) (rm8_7 l Z a0 hw [] a_ONE a_ZTT e_2 e_3 t0 t1 t2 t3 t4 o0 j0 h0 n0 FF OO f0 hq0 hq1) hZ (w_44 hw) (w_37 hw) (by decide) (by decide)) (g := (mkF m 11 #[rv o0, iv 0, iv 2, iv t1] [(.int t1), (.int 2), (.int 0), (.ref o0)])) rfl (by rw [hml]; rfl) (argsL := [(.ref o0), (.int 0), (.int 2), (.int t1)]) (rest := []) (lenOf pd_4 rfl) rfl (by show 2 * 0 + _ ≤ _; exact Nat.le_of_eq rfl) (hb hby d6_11) (fun _ _ => ⟨rfl, e2, (by decide : 0 + 0 ≤ _), (by decide : 0 + 0 ≤ _)⟩)
  dsimp only [Pt.U, Pt.locs, Pt.cells, Pt.slots] at X3 l3 y3 z3 st3 hQ3
  subst l3 y3 z3
  obtain ⟨rfl, N3q, e3⟩ := hQ3
  have N3 := Fr.app N2 N3q
  obtain ⟨fs, hr, hrun, hended, hW, hsame⟩ := X3.leave (v := some (.int (-1))) (fun h => by rw [Bd.returns] at h; cases h)
  refine ⟨_, _, pre0 _ ?_, hrun, hended, _, _, rfl, ?_, ⟨_, rfl⟩, hW, hsame.mono (by decide) (by decide)⟩
  · show Steps p.tables e below (s₁.setTop (mkF m 0 #[rv o0, iv 0, iv 2, iv t1] [])) _
    refine XS.aloadN X0.here hx rfl (hb hby d6_0) rfl rfl ?_
    refine X0.arraylength hx (by rw [e0]; exact r1.1) (State.isArrayOf_alike hZ.alike r1.2.1) (g := (mkF m 1 #[rv o0, iv 0, iv 2, iv t1] [(.ref o0)])) rfl rfl (hb hby d6_1) _ ?_
    rw [len_of S1 M1]
    refine XS.iloadN X0.here hx rfl (hb hby d6_2) rfl ?_
    show Steps p.tables e below (s₁.setTop (mkF m 3 #[rv o0, iv 0, iv 2, iv t1] [(.int 0), (.int 4)])) _
    refine XS.iloadN X0.here hx rfl (hb hby d6_3) rfl ?_
    refine st2 _ ?_
    refine XS.aloadN X2.here hx rfl (hb hby d6_7) rfl rfl ?_
    refine XS.iloadN X2.here hx rfl (hb hby d6_8) rfl ?_
    show Steps p.tables e below (T2.setTop (mkF m 9 #[rv o0, iv 0, iv 2, iv t1] [(.int 0), (.ref o0)])) _
    refine XS.iloadN X2.here hx rfl (hb hby d6_9) rfl ?_
    refine XS.iloadN X2.here hx rfl (hb hby d6_10) rfl ?_
    refine st3 _ ?_
    exact retI X3 hx Bd.returns (hb hby d6_14) hr
  · show Q6_7 Z a_ONE a_ZTT e_2 e_3 t0 t1 t2 t3 t4 o0 j0 h0 n0 _ T3.heap _
    exact ⟨rfl, N3, e3⟩
def Q5_7 (Z : State) (a_ONE : Addr) (a_ZTT : Addr) (e_2 : Addr) (e_3 : Addr) (t0 : Int32) (t1 : Int32) (t2 : Int32) (t3 : Int32) (t4 : Int32) (o0 : Addr) (o1 : Addr) (o2 : Addr) (j0 : ClassId) (j1 : ClassId) (h0 : Heap) (n0 : Nat) (v : Option Value) (h : Heap) (L : List Loc) : Prop := v = none ∧ Fr n0 L ∧ Keep h0 h [o1, o2, o0] ∧ Arv Z h o1 j0 .int (4 : Int32) [(.int t1), (.int t0), (.int t2), (.int t4)] (.int 0) ∧ Exa Z h o1 "[I" ∧ Arv Z h o2 j1 (.object "java/math/BigDecimal") (4 : Int32) [(.ref a_ONE), (.ref a_ONE), (.ref a_ONE), .null] .null ∧ Ovr Z j1 "java/math/BigDecimal" ∧ Exa Z h o2 "[Ljava/math/BigDecimal;" ∧ Fld Z h o0 "com/example/deferra/deferra/crediting/DailyAmounts" "days" "[I" (.ref o1) ∧ Fld Z h o0 "com/example/deferra/deferra/crediting/DailyAmounts" "size" "I" (.int 3) ∧ Fld Z h o0 "com/example/deferra/deferra/crediting/DailyAmounts" "amounts" "[Ljava/math/BigDecimal;" (.ref o2) ∧ Exa Z h o0 "com/example/deferra/deferra/crediting/DailyAmounts"
set_option maxRecDepth 65536 in
set_option maxHeartbeats 40000000 in
theorem rm5_7 (l : Launch) (Z : State) (a0 : Array Value) (hw : ∀ d ∈ tables_1, d.before a0 Z = true) (ws : List Jvm.Cond) (a_ONE : Addr) (a_ZTT : Addr) (e_2 : Addr) (e_3 : Addr) (t0 : Int32) (t1 : Int32) (t2 : Int32) (t3 : Int32) (t4 : Int32) (o0 : Addr) (o1 : Addr) (o2 : Addr) (j0 : ClassId) (j1 : ClassId) (h0 : Heap) (n0 : Nat) (FF : Facts Z Z.heap a_ONE a_ZTT e_2 e_3) (OO : Old Z n0 h0) (f0 : Fld Z h0 o0 "com/example/deferra/deferra/crediting/DailyAmounts" "days" "[I" (.ref o1)) (f1 : Fld Z h0 o0 "com/example/deferra/deferra/crediting/DailyAmounts" "size" "I" (.int 2)) (f2 : Arv Z h0 o1 j0 .int (4 : Int32) [(.int t0), (.int t2), (.int t3), (.int t4)] (.int 0)) (u0 : n0 ≤ o1) (f3 : Fld Z h0 o0 "com/example/deferra/deferra/crediting/DailyAmounts" "amounts" "[Ljava/math/BigDecimal;" (.ref o2)) (v0 : o0 ≠ o1) (f4 : Arv Z h0 o2 j1 (.object "java/math/BigDecimal") (4 : Int32) [(.ref a_ONE), (.ref a_ONE), .null, .null] .null) (v1 : o2 ≠ o1) (f5 : Ovr Z j1 "java/math/BigDecimal") (u1 : n0 ≤ o2) (v2 : o0 ≠ o2) (f6 : Exa Z h0 o0 "com/example/deferra/deferra/crediting/DailyAmounts") (u2 : n0 ≤ o0) (f7 : Exa Z h0 o1 "[I") (f8 : Exa Z h0 o2 "[Ljava/math/BigDecimal;") (hq0 : ¬ (t0 < t1)) (hq1 : t1 < t0) :
    MetFree l (⟨"com/example/deferra/deferra/crediting/DailyAmounts", "add", "(ILjava/math/BigDecimal;)V"⟩ : MethodName) (head1 (Jvm.Cond.code (⟨"com/example/deferra/deferra/crediting/DailyAmounts", "add", "(ILjava/math/BigDecimal;)V"⟩ : MethodName) prog_24_method_2_code 5 none :: ws) ({ frames := 2, cells := 0, slots := 0, locals := 34 } : Room)) (fun a U => a = #[(.ref o0), (.int t1), (.ref a_ONE)] ∧ Z.Warmed39 U.vm ∧ U.heap = h0) (fun _ _ _ _ _ => True) (fun _ U o U' => ∃ v L, o = .returned v ∧ Q5_7 Z a_ONE a_ZTT e_2 e_3 t0 t1 t2 t3 t4 o0 o1 o2 j0 j1 h0 n0 v U'.heap L ∧ FrameEnd U o U' L ({ frames := 2, cells := 0, slots := 0, locals := 34 } : Room).cells ({ frames := 2, cells := 0, slots := 0, locals := 34 } : Room).slots) := by
  refine MetFree.of_bodySF (plainFor_of_name pn_5) hisR ?_
  intro p e s m args below meth c s₁ Bd hml0 hP hK
  obtain ⟨rfl, hZ, hh⟩ := hP
  have hx := Bd.exec
  have hby := Bd.bytes
  have hml : c.maxLocals = 5 := hml0
  have hown : s.vm.findClass "com/example/deferra/deferra/crediting/DailyAmounts" = some m.cls := findClass_of_methodNamed Bd.named
  have X0 : Stand p l e ({ frames := 2, cells := 0, slots := 0, locals := 34 } : Room) s m #[(.ref o0), (.int t1), (.ref a_ONE)] below meth c s₁ [] 0 0 := Stand.of_body Bd
  have e0 : s₁.heap = h0 := by rw [← hh, Bd.state]; rfl
  have N0 := Fr.nil n0
  have pre0 : ∀ t, Steps p.tables e below (s₁.setTop (mkF m 0 #[rv o0, iv t1, rv a_ONE, .unset, .unset] [])) t → Steps p.tables e below (s₁.setTop (entryFrame m #[(.ref o0), (.int t1), (.ref a_ONE)] 5)) t := fun t k => castTop (ef_5 m o0 t1 a_ONE) k
  obtain ⟨T1, X1, e1, st1⟩ := getF X0 hx hZ hown (host := "") (Or.inl (w_10 hw)) Via.refl e0 f0 (g := (mkF m 1 #[rv o0, iv t1, rv a_ONE, .unset, .unset] [(.ref o0)])) rfl rfl (hb hby d5_1)
  obtain ⟨T2, X2, e2, st2⟩ := getF X1 hx hZ hown (host := "") (Or.inl (w_21 hw)) Via.refl e1 f1 (g := (mkF m 6 #[rv o0, iv t1, rv a_ONE, .unset, .unset] [(.ref o0), (.int 0), (.ref o1)])) rfl rfl (hb hby d5_6)
  obtain ⟨_, _, ⟨T3, L3, k3, n3⟩, -, X3, ⟨Lc3, hQ3, l3, y3, z3⟩, st3⟩ := Jvm.LawKit.callS X2 hx (y := (⟨"java/util/Arrays", "binarySearch", "([IIII)I"⟩ : MethodName)) hown (mvT hZ (w_35 hw)) (mvT hZ (w_36 hw)) (mvT hZ (w_37 hw)) (mvT hZ (w_38 hw)) (by decide) (backOf (W := 0) (rm6_7 l Z a0 hw [] a_ONE a_ZTT e_2 e_3 t0 t1 t2 t3 t4 o1 j0 h0 n0 FF OO f2 hq0 hq1) hZ (w_38 hw) (w_37 hw) (by decide) (by decide)) (g := (mkF m 10 #[rv o0, iv t1, rv a_ONE, .unset, .unset] [(.int t1), (.int 2), (.int 0), (.ref o1)])) rfl (by rw [hml]; rfl) (argsL := [(.ref o1), (.int 0), (.int 2), (.int t1)]) (rest := []) (lenOf pd_4 rfl) rfl (by show 2 * 0 + _ ≤ _; exact Nat.le_of_eq rfl) (hb hby d5_10) (fun _ _ => ⟨rfl, e2, (by decide : 0 + 0 ≤ _), (by decide : 0 + 0 ≤ _)⟩)
  dsimp only [Pt.U, Pt.locs, Pt.cells, Pt.slots] at X3 l3 y3 z3 st3 hQ3
  subst l3 y3 z3
  obtain ⟨rfl, N3q, e3⟩ := hQ3
  have N3 := Fr.app N0 N3q
  obtain ⟨T4, X4, e4, st4⟩ := getF X3 hx hZ hown (host := "") (Or.inl (w_21 hw)) Via.refl e3 f1 (g := (mkF m 42 #[rv o0, iv t1, rv a_ONE, iv (-1), iv 0] [(.ref o0)])) rfl rfl (hb hby d5_42)
  obtain ⟨T5, X5, e5, st5⟩ := getF X4 hx hZ hown (host := "") (Or.inl (w_10 hw)) Via.refl e4 f0 (g := (mkF m 46 #[rv o0, iv t1, rv a_ONE, iv (-1), iv 0] [(.ref o0), (.int 2)])) rfl rfl (hb hby d5_46)
  obtain ⟨c6, r6, q6, S6, M6, H6, G6⟩ := id f2
  obtain ⟨T7, X7, e7, st7⟩ := getF X5 hx hZ hown (host := "") (Or.inl (w_10 hw)) Via.refl e5 f0 (g := (mkF m 91 #[rv o0, iv t1, rv a_ONE, iv (-1), iv 0] [(.ref o0)])) rfl rfl (hb hby d5_91)
  obtain ⟨T8, X8, e8, st8⟩ := getF X7 hx hZ hown (host := "") (Or.inl (w_10 hw)) Via.refl e7 f0 (g := (mkF m 97 #[rv o0, iv t1, rv a_ONE, iv (-1), iv 0] [(.ref o0), (.int 0), (.ref o1)])) rfl rfl (hb hby d5_97)
  obtain ⟨T9, X9, e9, st9⟩ := getF X8 hx hZ hown (host := "") (Or.inl (w_21 hw)) Via.refl e8 f1 (g := (mkF m 105 #[rv o0, iv t1, rv a_ONE, iv (-1), iv 0] [(.ref o0), (.int 1), (.ref o1), (.int 0), (.ref o1)])) rfl rfl (hb hby d5_105)
  obtain ⟨T10, h10, L10, X10, e10, N10, K10, V10, st10⟩ := cpA X9 hx hZ hown (w_45 hw) (w_48 hw) (w_46 hw) (w_47 hw) e9 f2 f2 (us := [(.int t0), (.int t2)]) (Or.inl ⟨rfl, rfl⟩) (by decide) (by decide) (by decide) (by decide) (by decide) rfl (Nat.le_of_ble_eq_true rfl) N3 u0 (g := (mkF m 111 #[rv o0, iv t1, rv a_ONE, iv (-1), iv 0] [(.int 2), (.int 1), (.ref o1), (.int 0), (.ref o1)])) rfl (by rw [hml]; rfl) (rest := []) rfl (hb hby d5_111) (by decide) (W := 0) (by show 2 * 0 + _ ≤ _; exact Nat.le_of_eq rfl) (by decide)
  have O10 := Old.keep OO K10 (allS u0 all0)
  have KK10 : Keep h0 h10 [o1, o2, o0] := Keep.trans (Keep.refl h0 [o1, o2, o0]) K10 (allS (Or.inl (List.mem_of_getElem? (i := 0) rfl)) all0)
  have F11 : Arv Z h10 o1 j0 .int (4 : Int32) [(.int t0), (.int t0), (.int t2), (.int t4)] (.int 0) := V10
  have F12 : Fld Z h10 o0 "com/example/deferra/deferra/crediting/DailyAmounts" "amounts" "[Ljava/math/BigDecimal;" (.ref o2) := (Fld.keep f3 K10 (ninS v0 nin0))
  obtain ⟨T13, X13, e13, st13⟩ := getF X10 hx hZ hown (host := "") (Or.inl (w_14 hw)) Via.refl e10 F12 (g := (mkF m 115 #[rv o0, iv t1, rv a_ONE, iv (-1), iv 0] [(.ref o0)])) rfl rfl (hb hby d5_115)
  obtain ⟨T14, X14, e14, st14⟩ := getF X13 hx hZ hown (host := "") (Or.inl (w_14 hw)) Via.refl e13 F12 (g := (mkF m 121 #[rv o0, iv t1, rv a_ONE, iv (-1), iv 0] [(.ref o0), (.int 0), (.ref o2)])) rfl rfl (hb hby d5_121)
  have F15 : Fld Z h10 o0 "com/example/deferra/deferra/crediting/DailyAmounts" "size" "I" (.int 2) := (Fld.keep f1 K10 (ninS v0 nin0))
  obtain ⟨T16, X16, e16, st16⟩ := getF X14 hx hZ hown (host := "") (Or.inl (w_21 hw)) Via.refl e14 F15 (g := (mkF m 129 #[rv o0, iv t1, rv a_ONE, iv (-1), iv 0] [(.ref o0), (.int 1), (.ref o2), (.int 0), (.ref o2)])) rfl rfl (hb hby d5_129)
  have F17 : Arv Z h10 o2 j1 (.object "java/math/BigDecimal") (4 : Int32) [(.ref a_ONE), (.ref a_ONE), .null, .null] .null := (Arv.keep f4 K10 (ninS v1 nin0))
  obtain ⟨c18, r18, q18, S18, M18, H18, G18⟩ := id F17
  obtain ⟨T19, h19, L19, X19, e19, N19, K19, V19, st19⟩ := cpA X16 hx hZ hown (w_45 hw) (w_48 hw) (w_46 hw) (w_47 hw) e16 F17 F17 (us := [(.ref a_ONE), (.ref a_ONE)]) (Or.inr ⟨rfl, rfl, (⟨(Sto.ofV r18 q18 f5 (Ins.self (Exa.ext O10.2 (fx_E_a_ONE FF)))), ⟨(Sto.ofV r18 q18 f5 (Ins.self (Exa.ext O10.2 (fx_E_a_ONE FF)))), trivial⟩⟩ : StoL Z h10 o2 [(.ref a_ONE), (.ref a_ONE)])⟩) (by decide) (by decide) (by decide) (by decide) (by decide) rfl (Nat.le_of_ble_eq_true rfl) N10 u1 (g := (mkF m 135 #[rv o0, iv t1, rv a_ONE, iv (-1), iv 0] [(.int 2), (.int 1), (.ref o2), (.int 0), (.ref o2)])) rfl (by rw [hml]; rfl) (rest := []) rfl (hb hby d5_135) (by decide) (W := 0) (by show 2 * 0 + _ ≤ _; exact Nat.le_of_eq rfl) (by decide)
  have O19 := Old.keep O10 K19 (allS u1 all0)
  have KK19 : Keep h0 h19 [o1, o2, o0] := Keep.trans KK10 K19 (allS (Or.inl (List.mem_of_getElem? (i := 1) rfl)) all0)
  have F20 : Arv Z h19 o2 j1 (.object "java/math/BigDecimal") (4 : Int32) [(.ref a_ONE), (.ref a_ONE), (.ref a_ONE), .null] .null := V19
  have F21 : Fld Z h19 o0 "com/example/deferra/deferra/crediting/DailyAmounts" "days" "[I" (.ref o1) := (Fld.keep (Fld.keep f0 K10 (ninS v0 nin0)) K19 (ninS v2 nin0))
  obtain ⟨T22, X22, e22, st22⟩ := getF X19 hx hZ hown (host := "") (Or.inl (w_10 hw)) Via.refl e19 F21 (g := (mkF m 139 #[rv o0, iv t1, rv a_ONE, iv (-1), iv 0] [(.ref o0)])) rfl rfl (hb hby d5_139)
  have F24 : Arv Z h19 o1 j0 .int (4 : Int32) [(.int t0), (.int t0), (.int t2), (.int t4)] (.int 0) := (Arv.keep F11 K19 (ninS (Ne.symm v1) nin0))
  obtain ⟨c23, r23, q23, S23, M23, H23, G23⟩ := id F24
  have i25 : ¬ ((0 : Int32) < 0 ∨ c23.slots.size ≤ ((0 : Int32)).toNatClampNeg) := inb_of S23 ⟨by decide, by decide⟩
  obtain ⟨T26, h26, X26, e26, W26, st26⟩ := stI X22 hx hZ e22 r23 (j := (0 : Int32)) i25 (g := (mkF m 145 #[rv o0, iv t1, rv a_ONE, iv (-1), iv 0] [(.int t1), (.int 0), (.ref o1)])) rfl rfl (hb hby d5_145)
  have O26 := Old.wr O19 W26 u0
  have KK26 : Keep h0 h26 [o1, o2, o0] := Keep.wr KK19 W26 (Or.inl (List.mem_of_getElem? (i := 0) rfl))
  have N26 := Fr.snoc X26 N19 u0
  have F27 : Arv Z h26 o1 j0 .int (4 : Int32) [(.int t1), (.int t0), (.int t2), (.int t4)] (.int 0) := Arv.set r23 q23 S23 M23 H23 G23 rfl W26 0 rfl (Nat.le_of_ble_eq_true rfl)
  have F28 : Fld Z h26 o0 "com/example/deferra/deferra/crediting/DailyAmounts" "amounts" "[Ljava/math/BigDecimal;" (.ref o2) := (Fld.other W26 (Fld.keep F12 K19 (ninS v2 nin0)) (Or.inl v0))
  obtain ⟨T29, X29, e29, st29⟩ := getF X26 hx hZ hown (host := "") (Or.inl (w_14 hw)) Via.refl e26 F28 (g := (mkF m 147 #[rv o0, iv t1, rv a_ONE, iv (-1), iv 0] [(.ref o0)])) rfl rfl (hb hby d5_147)
  have F31 : Arv Z h26 o2 j1 (.object "java/math/BigDecimal") (4 : Int32) [(.ref a_ONE), (.ref a_ONE), (.ref a_ONE), .null] .null := (Arv.other F20 W26 v1)
  obtain ⟨c30, r30, q30, S30, M30, H30, G30⟩ := id F31
  have i32 : ¬ ((0 : Int32) < 0 ∨ c30.slots.size ≤ ((0 : Int32)).toNatClampNeg) := inb_of S30 ⟨by decide, by decide⟩
  obtain ⟨T33, h33, X33, e33, W33, st33⟩ := stR X29 hx hZ e29 r30 (j := (0 : Int32)) i32 rfl (Sto.ofV r30 q30 f5 (Ins.self (Exa.ext O26.2 (fx_E_a_ONE FF)))) (g := (mkF m 153 #[rv o0, iv t1, rv a_ONE, iv (-1), iv 0] [(.ref a_ONE), (.int 0), (.ref o2)])) rfl rfl (hb hby d5_153)
  have O33 := Old.wr O26 W33 u1
  have KK33 : Keep h0 h33 [o1, o2, o0] := Keep.wr KK26 W33 (Or.inl (List.mem_of_getElem? (i := 1) rfl))
  have N33 := Fr.snoc X33 N26 u1
  have F34 : Arv Z h33 o2 j1 (.object "java/math/BigDecimal") (4 : Int32) [(.ref a_ONE), (.ref a_ONE), (.ref a_ONE), .null] .null := Arv.set r30 q30 S30 M30 H30 G30 rfl W33 0 rfl (Nat.le_of_ble_eq_true rfl)
  have F35 : Fld Z h33 o0 "com/example/deferra/deferra/crediting/DailyAmounts" "size" "I" (.int 2) := (Fld.other W33 (Fld.other W26 (Fld.keep F15 K19 (ninS v2 nin0)) (Or.inl v0)) (Or.inl v2))
  obtain ⟨T36, X36, e36, st36⟩ := getF X33 hx hZ hown (host := "") (Or.inl (w_21 hw)) Via.refl e33 F35 (g := (mkF m 156 #[rv o0, iv t1, rv a_ONE, iv (-1), iv 0] [(.ref o0), (.ref o0)])) rfl rfl (hb hby d5_156)
  have F37 : Exa Z h33 o0 "com/example/deferra/deferra/crediting/DailyAmounts" := (Exa.wr W33 (Exa.wr W26 (Exa.keep (Exa.keep f6 K10) K19)))
  obtain ⟨T38, h38, X38, e38, W38, st38⟩ := putF X36 hx hZ hown (host := "") (Or.inl (w_21 hw)) Via.refl e36 F35 F37 (Or.inl (w_22 hw)) (w_1 hw) (ty := .int) (by decide) rfl rfl (g := (mkF m 161 #[rv o0, iv t1, rv a_ONE, iv (-1), iv 0] [(.int 3), (.ref o0)])) rfl rfl (hb hby d5_161)
  have O38 := Old.wr O33 W38 u2
  have KK38 : Keep h0 h38 [o1, o2, o0] := Keep.wr KK33 W38 (Or.inl (List.mem_of_getElem? (i := 2) rfl))
  have N38 := Fr.snoc X38 N33 u2
  have F39 : Fld Z h38 o0 "com/example/deferra/deferra/crediting/DailyAmounts" "size" "I" (.int 3) := Fld.same W38 F35
  have F40 : Arv Z h38 o1 j0 .int (4 : Int32) [(.int t1), (.int t0), (.int t2), (.int t4)] (.int 0) := (Arv.other (Arv.other F27 W33 (Ne.symm v1)) W38 (Ne.symm v0))
  have F41 : Exa Z h38 o1 "[I" := (Exa.wr W38 (Exa.wr W33 (Exa.wr W26 (Exa.keep (Exa.keep f7 K10) K19))))
  have F42 : Arv Z h38 o2 j1 (.object "java/math/BigDecimal") (4 : Int32) [(.ref a_ONE), (.ref a_ONE), (.ref a_ONE), .null] .null := (Arv.other F34 W38 (Ne.symm v2))
  have F43 : Exa Z h38 o2 "[Ljava/math/BigDecimal;" := (Exa.wr W38 (Exa.wr W33 (Exa.wr W26 (Exa.keep (Exa.keep f8 K10) K19))))
  have F44 : Fld Z h38 o0 "com/example/deferra/deferra/crediting/DailyAmounts" "days" "[I" (.ref o1) := (Fld.other W38 (Fld.other W33 (Fld.other W26 F21 (Or.inl v0)) (Or.inl v2)) (Or.inr (slot_ne (Or.inl (w_11 hw)) (Or.inl (w_22 hw)) (by decide) (t := (.array .int)) (t' := .int) (by decide) (by decide))))
  have F45 : Fld Z h38 o0 "com/example/deferra/deferra/crediting/DailyAmounts" "amounts" "[Ljava/math/BigDecimal;" (.ref o2) := (Fld.other W38 (Fld.other W33 F28 (Or.inl v2)) (Or.inr (slot_ne (Or.inl (w_15 hw)) (Or.inl (w_22 hw)) (by decide) (t := (.array (.object "java/math/BigDecimal"))) (t' := .int) (by decide) (by decide))))
  have F46 : Exa Z h38 o0 "com/example/deferra/deferra/crediting/DailyAmounts" := (Exa.wr W38 F37)
  obtain ⟨fs, hr, hrun, hended, hW, hsame⟩ := X38.leave (v := none) (fun _ => rfl)
  refine ⟨_, _, pre0 _ ?_, hrun, hended, _, _, rfl, ?_, ⟨_, rfl⟩, hW, hsame.mono (by decide) (by decide)⟩
  · show Steps p.tables e below (s₁.setTop (mkF m 0 #[rv o0, iv t1, rv a_ONE, .unset, .unset] [])) _
    refine XS.aloadN X0.here hx rfl (hb hby d5_0) rfl rfl ?_
    refine st1 _ ?_
    refine XS.iconst X1.here hx rfl (hb hby d5_4) ?_
    refine XS.aloadN X1.here hx rfl (hb hby d5_5) rfl rfl ?_
    show Steps p.tables e below (T1.setTop (mkF m 6 #[rv o0, iv t1, rv a_ONE, .unset, .unset] [(.ref o0), (.int 0), (.ref o1)])) _
    refine st2 _ ?_
    refine XS.iloadN X2.here hx rfl (hb hby d5_9) rfl ?_
    refine st3 _ ?_
    refine XS.istoreN X3.here hx rfl (hb hby d5_13) rfl (l' := #[rv o0, iv t1, rv a_ONE, iv (-1), .unset]) rfl ?_
    show Steps p.tables e below (T3.setTop (mkF m 14 #[rv o0, iv t1, rv a_ONE, iv (-1), .unset] [])) _
    refine XS.iloadN X3.here hx rfl (hb hby d5_14) rfl ?_
    refine XS.ifYes X3.here hx rfl (pc0 := 15) (pc' := 35) rfl (hb hby d5_15) rfl (by decide) (by decide) (by decide) ?_
    refine XS.iloadN X3.here hx rfl (hb hby d5_35) rfl ?_
    refine XS.ineg X3.here hx rfl (hb hby d5_36) rfl ?_
    show Steps p.tables e below (T3.setTop (mkF m 37 #[rv o0, iv t1, rv a_ONE, iv (-1), .unset] [(.int (-(-1 : Int32)))])) _
    rw [(by decide : (-(-1 : Int32)) = (1 : Int32))]
    refine XS.iconst X3.here hx rfl (hb hby d5_37) ?_
    refine XS.isub X3.here hx rfl (hb hby d5_38) rfl ?_
    show Steps p.tables e below (T3.setTop (mkF m 39 #[rv o0, iv t1, rv a_ONE, iv (-1), .unset] [(.int ((1 : Int32) - (1 : Int32)))])) _
    rw [(by decide : ((1 : Int32) - (1 : Int32)) = (0 : Int32))]
    refine XS.istore X3.here hx rfl (hb hby d5_39) rfl (l' := #[rv o0, iv t1, rv a_ONE, iv (-1), iv 0]) rfl ?_
    refine XS.aloadN X3.here hx rfl (hb hby d5_41) rfl rfl ?_
    refine st4 _ ?_
    show Steps p.tables e below (T4.setTop (mkF m 45 #[rv o0, iv t1, rv a_ONE, iv (-1), iv 0] [(.int 2)])) _
    refine XS.aloadN X4.here hx rfl (hb hby d5_45) rfl rfl ?_
    refine st5 _ ?_
    refine X5.arraylength hx (by rw [e5]; exact r6.1) (State.isArrayOf_alike hZ.alike r6.2.1) (g := (mkF m 49 #[rv o0, iv t1, rv a_ONE, iv (-1), iv 0] [(.ref o1), (.int 2)])) rfl rfl (hb hby d5_49) _ ?_
    rw [len_of S6 M6]
    show Steps p.tables e below (T5.setTop (mkF m 50 #[rv o0, iv t1, rv a_ONE, iv (-1), iv 0] [(.int 4), (.int 2)])) _
    refine XS.icmpYes X5.here hx rfl (pc0 := 50) (pc' := 90) rfl (hb hby d5_50) rfl (by decide) (by decide) (by decide) ?_
    refine XS.aloadN X5.here hx rfl (hb hby d5_90) rfl rfl ?_
    refine st7 _ ?_
    refine XS.iload X7.here hx rfl (hb hby d5_94) rfl ?_
    show Steps p.tables e below (T7.setTop (mkF m 96 #[rv o0, iv t1, rv a_ONE, iv (-1), iv 0] [(.int 0), (.ref o1)])) _
    refine XS.aloadN X7.here hx rfl (hb hby d5_96) rfl rfl ?_
    refine st8 _ ?_
    refine XS.iload X8.here hx rfl (hb hby d5_100) rfl ?_
    refine XS.iconst X8.here hx rfl (hb hby d5_102) ?_
    show Steps p.tables e below (T8.setTop (mkF m 103 #[rv o0, iv t1, rv a_ONE, iv (-1), iv 0] [(.int 1), (.int 0), (.ref o1), (.int 0), (.ref o1)])) _
    refine XS.iadd X8.here hx rfl (hb hby d5_103) rfl ?_
    show Steps p.tables e below (T8.setTop (mkF m 104 #[rv o0, iv t1, rv a_ONE, iv (-1), iv 0] [(.int ((0 : Int32) + (1 : Int32))), (.ref o1), (.int 0), (.ref o1)])) _
    rw [(by decide : ((0 : Int32) + (1 : Int32)) = (1 : Int32))]
    refine XS.aloadN X8.here hx rfl (hb hby d5_104) rfl rfl ?_
    refine st9 _ ?_
    refine XS.iload X9.here hx rfl (hb hby d5_108) rfl ?_
    show Steps p.tables e below (T9.setTop (mkF m 110 #[rv o0, iv t1, rv a_ONE, iv (-1), iv 0] [(.int 0), (.int 2), (.int 1), (.ref o1), (.int 0), (.ref o1)])) _
    refine XS.isub X9.here hx rfl (hb hby d5_110) rfl ?_
    show Steps p.tables e below (T9.setTop (mkF m 111 #[rv o0, iv t1, rv a_ONE, iv (-1), iv 0] [(.int ((2 : Int32) - (0 : Int32))), (.int 1), (.ref o1), (.int 0), (.ref o1)])) _
    rw [(by decide : ((2 : Int32) - (0 : Int32)) = (2 : Int32))]
    refine st10 _ ?_
    refine XS.aloadN X10.here hx rfl (hb hby d5_114) rfl rfl ?_
    refine st13 _ ?_
    show Steps p.tables e below (T13.setTop (mkF m 118 #[rv o0, iv t1, rv a_ONE, iv (-1), iv 0] [(.ref o2)])) _
    refine XS.iload X13.here hx rfl (hb hby d5_118) rfl ?_
    refine XS.aloadN X13.here hx rfl (hb hby d5_120) rfl rfl ?_
    refine st14 _ ?_
    refine XS.iload X14.here hx rfl (hb hby d5_124) rfl ?_
    show Steps p.tables e below (T14.setTop (mkF m 126 #[rv o0, iv t1, rv a_ONE, iv (-1), iv 0] [(.int 0), (.ref o2), (.int 0), (.ref o2)])) _
    refine XS.iconst X14.here hx rfl (hb hby d5_126) ?_
    refine XS.iadd X14.here hx rfl (hb hby d5_127) rfl ?_
    show Steps p.tables e below (T14.setTop (mkF m 128 #[rv o0, iv t1, rv a_ONE, iv (-1), iv 0] [(.int ((0 : Int32) + (1 : Int32))), (.ref o2), (.int 0), (.ref o2)])) _
    rw [(by decide : ((0 : Int32) + (1 : Int32)) = (1 : Int32))]
    refine XS.aloadN X14.here hx rfl (hb hby d5_128) rfl rfl ?_
    refine st16 _ ?_
    refine XS.iload X16.here hx rfl (hb hby d5_132) rfl ?_
    show Steps p.tables e below (T16.setTop (mkF m 134 #[rv o0, iv t1, rv a_ONE, iv (-1), iv 0] [(.int 0), (.int 2), (.int 1), (.ref o2), (.int 0), (.ref o2)])) _
    refine XS.isub X16.here hx rfl (hb hby d5_134) rfl ?_
    show Steps p.tables e below (T16.setTop (mkF m 135 #[rv o0, iv t1, rv a_ONE, iv (-1), iv 0] [(.int ((2 : Int32) - (0 : Int32))), (.int 1), (.ref o2), (.int 0), (.ref o2)])) _
    rw [(by decide : ((2 : Int32) - (0 : Int32)) = (2 : Int32))]
    refine st19 _ ?_
    refine XS.aloadN X19.here hx rfl (hb hby d5_138) rfl rfl ?_
    refine st22 _ ?_
    show Steps p.tables e below (T22.setTop (mkF m 142 #[rv o0, iv t1, rv a_ONE, iv (-1), iv 0] [(.ref o1)])) _
    refine XS.iload X22.here hx rfl (hb hby d5_142) rfl ?_
    refine XS.iloadN X22.here hx rfl (hb hby d5_144) rfl ?_
    refine st26 _ ?_
    refine XS.aloadN X26.here hx rfl (hb hby d5_146) rfl rfl ?_
    show Steps p.tables e below (T26.setTop (mkF m 147 #[rv o0, iv t1, rv a_ONE, iv (-1), iv 0] [(.ref o0)])) _
    refine st29 _ ?_
    refine XS.iload X29.here hx rfl (hb hby d5_150) rfl ?_
    refine XS.aloadN X29.here hx rfl (hb hby d5_152) rfl rfl ?_
    refine st33 _ ?_
    show Steps p.tables e below (T33.setTop (mkF m 154 #[rv o0, iv t1, rv a_ONE, iv (-1), iv 0] [])) _
    refine XS.aloadN X33.here hx rfl (hb hby d5_154) rfl rfl ?_
    refine XS.dup X33.here hx rfl (hb hby d5_155) rfl rfl ?_
    refine st36 _ ?_
    refine XS.iconst X36.here hx rfl (hb hby d5_159) ?_
    show Steps p.tables e below (T36.setTop (mkF m 160 #[rv o0, iv t1, rv a_ONE, iv (-1), iv 0] [(.int 1), (.int 2), (.ref o0)])) _
    refine XS.iadd X36.here hx rfl (hb hby d5_160) rfl ?_
    show Steps p.tables e below (T36.setTop (mkF m 161 #[rv o0, iv t1, rv a_ONE, iv (-1), iv 0] [(.int ((2 : Int32) + (1 : Int32))), (.ref o0)])) _
    rw [(by decide : ((2 : Int32) + (1 : Int32)) = (3 : Int32))]
    refine st38 _ ?_
    exact X38.returnOut hx Bd.returns (hb hby d5_164) hr
  · show Q5_7 Z a_ONE a_ZTT e_2 e_3 t0 t1 t2 t3 t4 o0 o1 o2 j0 j1 h0 n0 _ T38.heap _
    rw [e38]
    exact ⟨rfl, N38, KK38, F40, F41, F42, f5, F43, F44, F39, F45, F46⟩
set_option maxRecDepth 65536 in
set_option maxHeartbeats 40000000 in
theorem sg_26 {p : Program} {l : Launch} {e : Env} {s : State} {m : MethodId} {args : Array Value} {below : List Frame} {meth : Method} {c : Code} {T0 : State} {locs : List Loc} {Z : State} {a0 : Array Value} {h0 : Heap} {n0 : Nat} (hw : ∀ d ∈ tables_1, d.before a0 Z = true) (a_ONE : Addr) (a_ZTT : Addr) (e_2 : Addr) (e_3 : Addr) (t0 : Int32) (t1 : Int32) (t2 : Int32) (t3 : Int32) (t4 : Int32) (t5 : Int32) (t6 : Int32) (t7 : Int32) (o0 : Addr) (o1 : Addr) (o2 : Addr) (j0 : ClassId) (j1 : ClassId) (FF : Facts Z Z.heap a_ONE a_ZTT e_2 e_3)
    (X0 : Stand p l e room_1 s m args below meth c T0 locs 3 11) (hx : p.tables.exec = Jvm.exec) (hZ : Z.Warmed39 s.vm) (hby : c.code = code) (hml : c.maxLocals = 8) (hown : s.vm.findClass "com/example/deferra/deferra/crediting/DailyAmountsIsEmptyPinLaw" = some m.cls) (e0 : T0.heap = h0) (N0 : Fr n0 locs) (OO : Old Z n0 h0) (f0 : Fld Z h0 o0 "com/example/deferra/deferra/crediting/DailyAmounts" "days" "[I" (.ref o1)) (f1 : Fld Z h0 o0 "com/example/deferra/deferra/crediting/DailyAmounts" "size" "I" (.int 2)) (f2 : Arv Z h0 o1 j0 .int (4 : Int32) [(.int t0), (.int t2), (.int t3), (.int t4)] (.int 0)) (f3 : Fld Z h0 o0 "com/example/deferra/deferra/crediting/DailyAmounts" "amounts" "[Ljava/math/BigDecimal;" (.ref o2)) (f4 : Arv Z h0 o2 j1 (.object "java/math/BigDecimal") (4 : Int32) [(.ref a_ONE), (.ref a_ONE), .null, .null] .null) (f5 : Ovr Z j1 "java/math/BigDecimal") (f6 : Exa Z h0 o0 "com/example/deferra/deferra/crediting/DailyAmounts") (f7 : Exa Z h0 o1 "[I") (f8 : Exa Z h0 o2 "[Ljava/math/BigDecimal;") (u0 : n0 ≤ o1) (v0 : o0 ≠ o1) (v1 : o2 ≠ o1) (u1 : n0 ≤ o2) (v2 : o0 ≠ o2) (u2 : n0 ≤ o0) (hq0 : ¬ (t0 < t1)) (hq1 : t1 < t0) :
    ∃ (T' : State) (h' : Heap) (lc : List Loc), Stand p l e room_1 s m args below meth c T' lc 3 11 ∧ T'.heap = h' ∧ Fr n0 lc ∧ Keep h0 h' [o0, o2, o1] ∧ Fld Z h' o0 "com/example/deferra/deferra/crediting/DailyAmounts" "days" "[I" (.ref o1) ∧ Fld Z h' o0 "com/example/deferra/deferra/crediting/DailyAmounts" "size" "I" (.int 3) ∧ Fld Z h' o0 "com/example/deferra/deferra/crediting/DailyAmounts" "amounts" "[Ljava/math/BigDecimal;" (.ref o2) ∧ Exa Z h' o0 "com/example/deferra/deferra/crediting/DailyAmounts" ∧ Arv Z h' o2 j1 (.object "java/math/BigDecimal") (4 : Int32) [(.ref a_ONE), (.ref a_ONE), (.ref a_ONE), .null] .null ∧ Ovr Z j1 "java/math/BigDecimal" ∧ Exa Z h' o2 "[Ljava/math/BigDecimal;" ∧ Arv Z h' o1 j0 .int (4 : Int32) [(.int t1), (.int t0), (.int t2), (.int t4)] (.int 0) ∧ Exa Z h' o1 "[I" ∧
      ∀ target, Steps p.tables e below (T'.setTop (mkF m 142 #[iv t5, iv t6, iv t7, iv t1, iv 3, rv o0, iv 1, .unset] [])) target → Steps p.tables e below (T0.setTop (mkF m 107 #[iv t5, iv t6, iv t7, iv t1, iv 3, rv o0, iv 1, .unset] [])) target := by
  obtain ⟨T1, X1, e1, st1⟩ := getS2 X0 hx hZ hown (host := "") (Or.inl (w_28 hw)) Via.refl e0 (Sta.ext OO.2 (fx_S_ONE FF)) (g := (mkF m 116 #[iv t5, iv t6, iv t7, iv t1, iv 3, rv o0, iv 1, .unset] [(.int t1), (.ref o0)])) rfl (hb hby at_116)
  obtain ⟨cq2, kq2, q2a, q2b, q2c⟩ := isOf hZ e1 f6
  obtain ⟨_, _, ⟨T2, L2, k2, n2⟩, -, X2, ⟨Lc2, hQ2, l2, y2, z2⟩, st2⟩ := X1.virtualBack hx (y := (⟨"com/example/deferra/deferra/crediting/DailyAmounts", "add", "(ILjava/math/BigDecimal;)V"⟩ : MethodName)) (z := (⟨"com/example/deferra/deferra/crediting/DailyAmounts", "add", "(ILjava/math/BigDecimal;)V"⟩ : MethodName)) hown (mvT hZ (w_30 hw)) (mvT hZ (w_31 hw)) (notFace_of_selects (args := #[]) (mvT hZ (w_33 hw))) (mvT hZ (w_33 hw)) (mvT hZ (w_32 hw)) (by decide) (backOf (W := 0) (rm5_7 l Z a0 hw [] a_ONE a_ZTT e_2 e_3 t0 t1 t2 t3 t4 o0 o1 o2 j0 j1 h0 n0 FF OO f0 f1 f2 u0 f3 v0 f4 v1 f5 u1 v2 f6 u2 f7 f8 hq0 hq1) hZ (w_34 hw) (w_2 hw) (by decide) (by decide)) q2a q2c (g := (mkF m 119 #[iv t5, iv t6, iv t7, iv t1, iv 3, rv o0, iv 1, .unset] [(.ref a_ONE), (.int t1), (.ref o0)])) rfl (by rw [hml]; rfl) (Steps.refl _) (argsL := [(.int t1), (.ref a_ONE)]) (rest := []) (lenOf pd_5 rfl) rfl (by show 2 * 0 + _ ≤ _; exact Nat.le_of_eq rfl) (hb hby at_119) (fun _ _ => ⟨rfl, e1, (by decide : 3 + 0 ≤ _), (by decide : 11 + 0 ≤ _)⟩)
  dsimp only [Pt.U, Pt.locs, Pt.cells, Pt.slots] at X2 l2 y2 z2 st2 hQ2
  subst l2 y2 z2
  obtain ⟨h2, e2⟩ : ∃ z, T2.heap = z := ⟨_, rfl⟩
  rw [e2] at hQ2
  obtain ⟨rfl, N2q, K2, R2_0, R2_1, R2_2, R2_3, R2_4, R2_5, R2_6, R2_7, R2_8⟩ := hQ2
  have N2 := Fr.app N0 N2q
  have O2 := Old.keep OO K2 (allS u0 (allS u1 (allS u2 all0)))
  have KK2 : Keep h0 h2 [o0, o2, o1] := Keep.trans (Keep.refl h0 [o0, o2, o1]) K2 (allS (Or.inl (List.mem_of_getElem? (i := 2) rfl)) (allS (Or.inl (List.mem_of_getElem? (i := 1) rfl)) (allS (Or.inl (List.mem_of_getElem? (i := 0) rfl)) all0)))
  obtain ⟨cq3, kq3, q3a, q3b, q3c⟩ := isOf hZ e2 R2_8
  obtain ⟨_, _, ⟨T3, L3, k3, n3⟩, -, X3, ⟨Lc3, hQ3, l3, y3, z3⟩, st3⟩ := X2.virtualBack hx (y := (⟨"com/example/deferra/deferra/crediting/DailyAmounts", "isEmpty", "()Z"⟩ : MethodName)) (z := (⟨"com/example/deferra/deferra/crediting/DailyAmounts", "isEmpty", "()Z"⟩ : MethodName)) hown (mvT hZ (w_16 hw)) (mvT hZ (w_17 hw)) (notFace_of_selects (args := #[]) (mvT hZ (w_19 hw))) (mvT hZ (w_19 hw)) (mvT hZ (w_18 hw)) (by decide) (backOf (W := 0) (rm3_3 l Z a0 hw [] a_ONE a_ZTT e_2 e_3 o0 h2 n0 FF O2 R2_6) hZ (w_20 hw) (w_2 hw) (by decide) (by decide)) q3a q3c (g := (mkF m 129 #[iv t5, iv t6, iv t7, iv t1, iv 3, rv o0, iv 1, .unset] [(.ref o0)])) rfl (by rw [hml]; rfl) (Steps.refl _) (argsL := []) (rest := []) (lenOf pd_1 rfl) rfl (by show 2 * 0 + _ ≤ _; exact Nat.le_of_eq rfl) (hb hby at_129) (fun _ _ => ⟨rfl, e2, (by decide : 3 + 0 ≤ _), (by decide : 11 + 0 ≤ _)⟩)
  dsimp only [Pt.U, Pt.locs, Pt.cells, Pt.slots] at X3 l3 y3 z3 st3 hQ3
  subst l3 y3 z3
  obtain ⟨rfl, N3q, e3⟩ := hQ3
  have N3 := Fr.app N2 N3q
  refine ⟨T3, h2, _, X3, e3, N3, KK2, R2_5, R2_6, R2_7, R2_8, R2_2, R2_3, R2_4, R2_0, R2_1, fun target kt => ?_⟩
  show Steps p.tables e below (T0.setTop (mkF m 107 #[iv t5, iv t6, iv t7, iv t1, iv 3, rv o0, iv 1, .unset] [])) _
  refine XS.iload X0.here hx rfl (hb hby at_107) rfl ?_
  refine XS.iconst X0.here hx rfl (hb hby at_109) ?_
  refine XS.icmpNo X0.here hx rfl (hb hby at_110) rfl (by decide) ?_
  refine XS.aload X0.here hx rfl (hb hby at_113) rfl rfl ?_
  show Steps p.tables e below (T0.setTop (mkF m 115 #[iv t5, iv t6, iv t7, iv t1, iv 3, rv o0, iv 1, .unset] [(.ref o0)])) _
  refine XS.iloadN X0.here hx rfl (hb hby at_115) rfl ?_
  refine st1 _ ?_
  refine st2.trans ?_
  refine XS.iload X2.here hx rfl (hb hby at_122) rfl ?_
  show Steps p.tables e below (T2.setTop (mkF m 124 #[iv t5, iv t6, iv t7, iv t1, iv 3, rv o0, iv 1, .unset] [(.int 1)])) _
  refine XS.ifNo X2.here hx rfl (hb hby at_124) rfl (by decide) ?_
  refine XS.aload X2.here hx rfl (hb hby at_127) rfl rfl ?_
  refine st3.trans ?_
  refine XS.ifNo X3.here hx rfl (hb hby at_132) rfl (by decide) ?_
  show Steps p.tables e below (T3.setTop (mkF m 135 #[iv t5, iv t6, iv t7, iv t1, iv 3, rv o0, iv 1, .unset] [])) _
  refine XS.iconst X3.here hx rfl (hb hby at_135) ?_
  refine XS.goto X3.here hx rfl (pc0 := 136) (pc' := 140) rfl (hb hby at_136) (by decide) (by decide) ?_
  refine XS.istore X3.here hx rfl (hb hby at_140) rfl (l' := #[iv t5, iv t6, iv t7, iv t1, iv 3, rv o0, iv 1, .unset]) rfl ?_
  exact kt
set_option maxRecDepth 65536 in
set_option maxHeartbeats 40000000 in
theorem rm0_8 (l : Launch) (Z : State) (a0 : Array Value) (hw : ∀ d ∈ tables_1, d.before a0 Z = true) (ws : List Jvm.Cond) (a_ONE : Addr) (a_ZTT : Addr) (e_2 : Addr) (e_3 : Addr) (p0 : Int32) (p1 : Int32) (p2 : Int32) (p3 : Int32) (h0 : Heap) (n0 : Nat) (FF : Facts Z Z.heap a_ONE a_ZTT e_2 e_3) (OO : Old Z n0 h0) (hk0 : (p0 &&& (3 : Int32)) = (3 : Int32)) (hd0 : p1 < p2) (hd1 : ¬ (p1 < p3)) (hd2 : p3 < p1) :
    MetFree l x (head1 (Jvm.Cond.code x code maxLocals ret :: ws) room_1) (fun a U => a = #[(.int p0), (.int p1), (.int p2), (.int p3)] ∧ Z.Warmed39 U.vm ∧ U.heap = h0) (fun _ _ _ _ _ => True) (fun _ U o U' => ∃ v L, o = .returned v ∧ (v = some (.int (1 : Int32)) ∧ Fr n0 L) ∧ FrameEnd U o U' L room_1.cells room_1.slots) := by
  refine MetFree.of_bodySF (plainFor_of_name pn_0) hisR ?_
  intro p e s m args below meth c s₁ Bd hml0 hP hK
  obtain ⟨rfl, hZ, hh⟩ := hP
  have hx := Bd.exec
  have hby := Bd.bytes
  have hml : c.maxLocals = 8 := hml0
  have hown : s.vm.findClass "com/example/deferra/deferra/crediting/DailyAmountsIsEmptyPinLaw" = some m.cls := findClass_of_methodNamed Bd.named
  have X0 : Stand p l e room_1 s m #[(.int p0), (.int p1), (.int p2), (.int p3)] below meth c s₁ [] 0 0 := Stand.of_body Bd
  have e0 : s₁.heap = h0 := by rw [← hh, Bd.state]; rfl
  have N0 := Fr.nil n0
  have pre0 : ∀ t, Steps p.tables e below (s₁.setTop (mkF m 0 #[iv p0, iv p1, iv p2, iv p3, .unset, .unset, .unset, .unset] [])) t → Steps p.tables e below (s₁.setTop (entryFrame m #[(.int p0), (.int p1), (.int p2), (.int p3)] maxLocals)) t := fun t k => castTop (ef_0 m p0 p1 p2 p3) k
  obtain ⟨T1, h1, lc1, b1, b2, b3, kb2, kb3, X1, e1, N1, K1, sp1_b1, sp1_b2, sp1_b3, ne1_b1_b2, ne1_b1_b3, ne1_b2_b3, R1_0, R1_1, R1_2, R1_3, R1_4, R1_5, R1_6, R1_7, R1_8, st1⟩ := sg_18 hw a_ONE a_ZTT e_2 e_3 p0 p1 p2 p3 FF X0 hx hZ hby hml hown e0 N0 OO hk0
  have g2 : n0 ≤ b1 := Nat.le_trans (own_le OO) sp1_b1
  have g3 : n0 ≤ b2 := Nat.le_trans (own_le OO) sp1_b2
  have g4 : n0 ≤ b3 := Nat.le_trans (own_le OO) sp1_b3
  have O1 := Old.keep OO K1 all0
  obtain ⟨T5, h5, lc5, X5, e5, N5, K5, R5_0, R5_1, R5_2, R5_3, R5_4, R5_5, R5_6, R5_7, R5_8, st5⟩ := sg_19 hw a_ONE a_ZTT e_2 e_3 (0 : Int32) (0 : Int32) (0 : Int32) (0 : Int32) p1 p0 p2 p3 b1 b2 b3 kb2 kb3 FF X1 hx hZ hby hml hown e1 N1 O1 R1_1 R1_3 R1_5 R1_2 R1_7 R1_8 R1_0 R1_4 R1_6 g3 ne1_b1_b2 (Ne.symm ne1_b2_b3) g4 ne1_b1_b3 g2
  have O5 := Old.keep O1 K5 (allS g2 (allS g4 (allS g3 all0)))
  obtain ⟨T6, h6, lc6, X6, e6, N6, K6, R6_0, R6_1, R6_2, R6_3, R6_4, R6_5, R6_6, R6_7, R6_8, st6⟩ := sg_20 hw a_ONE a_ZTT e_2 e_3 p1 p2 (0 : Int32) (0 : Int32) (0 : Int32) p0 p1 p3 b1 b2 b3 kb2 kb3 FF X5 hx hZ hby hml hown e5 N5 O5 R5_0 R5_1 R5_7 R5_2 R5_4 R5_5 R5_3 R5_8 R5_6 g3 ne1_b1_b2 (Ne.symm ne1_b2_b3) g4 ne1_b1_b3 g2 hd0
  have O6 := Old.keep O5 K6 (allS g2 (allS g4 (allS g3 all0)))
  obtain ⟨T7, h7, lc7, X7, e7, N7, K7, R7_0, R7_1, R7_2, R7_3, R7_4, R7_5, R7_6, R7_7, R7_8, st7⟩ := sg_26 hw a_ONE a_ZTT e_2 e_3 p1 p3 p2 (0 : Int32) (0 : Int32) p0 p1 p2 b1 b2 b3 kb2 kb3 FF X6 hx hZ hby hml hown e6 N6 O6 R6_0 R6_1 R6_7 R6_2 R6_4 R6_5 R6_3 R6_8 R6_6 g3 ne1_b1_b2 (Ne.symm ne1_b2_b3) g4 ne1_b1_b3 g2 hd1 hd2
  have O7 := Old.keep O6 K7 (allS g2 (allS g4 (allS g3 all0)))
  obtain ⟨T8, h8, lc8, X8, e8, N8, K8, st8⟩ := sg_22 hw a_ONE a_ZTT e_2 e_3 p0 p1 p2 p3 b1 FF X7 hx hZ hby hml hown e7 N7 O7 R7_1 R7_3
  have O8 := Old.keep O7 K8 all0
  obtain ⟨fs, hr, hrun, hended, hW, hsame⟩ := X8.leave (v := some (.int 1)) (fun h => by rw [Bd.returns] at h; cases h)
  refine ⟨_, _, pre0 _ ?_, hrun, hended, _, _, rfl, ?_, ⟨_, rfl⟩, hW, hsame.mono (by decide) (by decide)⟩
  · show Steps p.tables e below (s₁.setTop (mkF m 0 #[iv p0, iv p1, iv p2, iv p3, .unset, .unset, .unset, .unset] [])) _
    refine st1 _ ?_
    show Steps p.tables e below (T1.setTop (mkF m 37 #[iv p0, iv p1, iv p2, iv p3, iv 3, rv b1, iv 1, .unset] [])) _
    refine st5 _ ?_
    show Steps p.tables e below (T5.setTop (mkF m 72 #[iv p0, iv p1, iv p2, iv p3, iv 3, rv b1, iv 1, .unset] [])) _
    refine st6 _ ?_
    show Steps p.tables e below (T6.setTop (mkF m 107 #[iv p0, iv p1, iv p2, iv p3, iv 3, rv b1, iv 1, .unset] [])) _
    refine st7 _ ?_
    show Steps p.tables e below (T7.setTop (mkF m 142 #[iv p0, iv p1, iv p2, iv p3, iv 3, rv b1, iv 1, .unset] [])) _
    refine st8 _ ?_
    exact retN X8 hx (t := .boolean) Bd.returns (by simp) (hb hby at_192) hr
  · exact ⟨rfl, N8⟩
def Q8_8 (Z : State) (a_ONE : Addr) (a_ZTT : Addr) (e_2 : Addr) (e_3 : Addr) (t0 : Int32) (t1 : Int32) (t2 : Int32) (t3 : Int32) (t4 : Int32) (o0 : Addr) (j0 : ClassId) (h0 : Heap) (n0 : Nat) (v : Option Value) (h : Heap) (L : List Loc) : Prop := v = some (.int 0) ∧ Fr n0 L ∧ h = h0
set_option maxRecDepth 65536 in
set_option maxHeartbeats 40000000 in
theorem rm8_8 (l : Launch) (Z : State) (a0 : Array Value) (hw : ∀ d ∈ tables_1, d.before a0 Z = true) (ws : List Jvm.Cond) (a_ONE : Addr) (a_ZTT : Addr) (e_2 : Addr) (e_3 : Addr) (t0 : Int32) (t1 : Int32) (t2 : Int32) (t3 : Int32) (t4 : Int32) (o0 : Addr) (j0 : ClassId) (h0 : Heap) (n0 : Nat) (FF : Facts Z Z.heap a_ONE a_ZTT e_2 e_3) (OO : Old Z n0 h0) (f0 : Arv Z h0 o0 j0 .int (4 : Int32) [(.int t0), (.int t2), (.int t3), (.int t4)] (.int 0)) (hq0 : ¬ (t0 < t1)) (hq1 : ¬ (t1 < t0)) :
    MetFree l (⟨"java/util/Arrays", "binarySearch0", "([IIII)I"⟩ : MethodName) (head1 (Jvm.Cond.code (⟨"java/util/Arrays", "binarySearch0", "([IIII)I"⟩ : MethodName) jdk_65_method_59_code 8 (some .int) :: ws) ({ frames := 0, cells := 0, slots := 0, locals := 0 } : Room)) (fun a U => a = #[(.ref o0), (.int 0), (.int 2), (.int t1)] ∧ Z.Warmed39 U.vm ∧ U.heap = h0) (fun _ _ _ _ _ => True) (fun _ U o U' => ∃ v L, o = .returned v ∧ Q8_8 Z a_ONE a_ZTT e_2 e_3 t0 t1 t2 t3 t4 o0 j0 h0 n0 v U'.heap L ∧ FrameEnd U o U' L ({ frames := 0, cells := 0, slots := 0, locals := 0 } : Room).cells ({ frames := 0, cells := 0, slots := 0, locals := 0 } : Room).slots) := by
  refine MetFree.of_bodySF (plainFor_of_name pn_8) hisR ?_
  intro p e s m args below meth c s₁ Bd hml0 hP hK
  obtain ⟨rfl, hZ, hh⟩ := hP
  have hx := Bd.exec
  have hby := Bd.bytes
  have hml : c.maxLocals = 8 := hml0
  have hown : s.vm.findClass "java/util/Arrays" = some m.cls := findClass_of_methodNamed Bd.named
  have X0 : Stand p l e ({ frames := 0, cells := 0, slots := 0, locals := 0 } : Room) s m #[(.ref o0), (.int 0), (.int 2), (.int t1)] below meth c s₁ [] 0 0 := Stand.of_body Bd
  have e0 : s₁.heap = h0 := by rw [← hh, Bd.state]; rfl
  have N0 := Fr.nil n0
  have pre0 : ∀ t, Steps p.tables e below (s₁.setTop (mkF m 0 #[rv o0, iv 0, iv 2, iv t1, .unset, .unset, .unset, .unset] [])) t → Steps p.tables e below (s₁.setTop (entryFrame m #[(.ref o0), (.int 0), (.int 2), (.int t1)] 8)) t := fun t k => castTop (ef_8 m o0 0 2 t1) k
  obtain ⟨c1, r1, q1, S1, M1, H1, G1⟩ := id f0
  have i2 : ¬ ((0 : Int32) < 0 ∨ c1.slots.size ≤ ((0 : Int32)).toNatClampNeg) := inb_of S1 ⟨by decide, by decide⟩
  have y3 : c1.slots[((0 : Int32)).toNatClampNeg]? = some (.int t0) := H1 0 (by rw [S1]; decide)
  obtain ⟨fs, hr, hrun, hended, hW, hsame⟩ := X0.leave (v := some (.int 0)) (fun h => by rw [Bd.returns] at h; cases h)
  refine ⟨_, _, pre0 _ ?_, hrun, hended, _, _, rfl, ?_, ⟨_, rfl⟩, hW, hsame.mono (by decide) (by decide)⟩
  · show Steps p.tables e below (s₁.setTop (mkF m 0 #[rv o0, iv 0, iv 2, iv t1, .unset, .unset, .unset, .unset] [])) _
    refine XS.iloadN X0.here hx rfl (hb hby d8_0) rfl ?_
    refine XS.istore X0.here hx rfl (hb hby d8_1) rfl (l' := #[rv o0, iv 0, iv 2, iv t1, iv 0, .unset, .unset, .unset]) rfl ?_
    refine XS.iloadN X0.here hx rfl (hb hby d8_3) rfl ?_
    refine XS.iconst X0.here hx rfl (hb hby d8_4) ?_
    show Steps p.tables e below (s₁.setTop (mkF m 5 #[rv o0, iv 0, iv 2, iv t1, iv 0, .unset, .unset, .unset] [(.int 1), (.int 2)])) _
    refine XS.isub X0.here hx rfl (hb hby d8_5) rfl ?_
    show Steps p.tables e below (s₁.setTop (mkF m 6 #[rv o0, iv 0, iv 2, iv t1, iv 0, .unset, .unset, .unset] [(.int ((2 : Int32) - (1 : Int32)))])) _
    rw [(by decide : ((2 : Int32) - (1 : Int32)) = (1 : Int32))]
    refine XS.istore X0.here hx rfl (hb hby d8_6) rfl (l' := #[rv o0, iv 0, iv 2, iv t1, iv 0, iv 1, .unset, .unset]) rfl ?_
    refine XS.iload X0.here hx rfl (hb hby d8_8) rfl ?_
    refine XS.iload X0.here hx rfl (hb hby d8_10) rfl ?_
    show Steps p.tables e below (s₁.setTop (mkF m 12 #[rv o0, iv 0, iv 2, iv t1, iv 0, iv 1, .unset, .unset] [(.int 1), (.int 0)])) _
    refine XS.icmpNo X0.here hx rfl (hb hby d8_12) rfl (by decide) ?_
    refine XS.iload X0.here hx rfl (hb hby d8_15) rfl ?_
    refine XS.iload X0.here hx rfl (hb hby d8_17) rfl ?_
    refine XS.iadd X0.here hx rfl (hb hby d8_19) rfl ?_
    show Steps p.tables e below (s₁.setTop (mkF m 20 #[rv o0, iv 0, iv 2, iv t1, iv 0, iv 1, .unset, .unset] [(.int ((0 : Int32) + (1 : Int32)))])) _
    rw [(by decide : ((0 : Int32) + (1 : Int32)) = (1 : Int32))]
    refine XS.iconst X0.here hx rfl (hb hby d8_20) ?_
    refine XS.iushr X0.here hx rfl (hb hby d8_21) rfl ?_
    show Steps p.tables e below (s₁.setTop (mkF m 22 #[rv o0, iv 0, iv 2, iv t1, iv 0, iv 1, .unset, .unset] [(.int (((1 : Int32).toUInt32 >>> ((1 : Int32) &&& 31).toUInt32).toInt32))])) _
    rw [(by decide : (((1 : Int32).toUInt32 >>> ((1 : Int32) &&& 31).toUInt32).toInt32) = (0 : Int32))]
    refine XS.istore X0.here hx rfl (hb hby d8_22) rfl (l' := #[rv o0, iv 0, iv 2, iv t1, iv 0, iv 1, iv 0, .unset]) rfl ?_
    refine XS.aloadN X0.here hx rfl (hb hby d8_24) rfl rfl ?_
    refine XS.iload X0.here hx rfl (hb hby d8_25) rfl ?_
    show Steps p.tables e below (s₁.setTop (mkF m 27 #[rv o0, iv 0, iv 2, iv t1, iv 0, iv 1, iv 0, .unset] [(.int 0), (.ref o0)])) _
    refine X0.iaload hx (j := (0 : Int32)) (v := (.int t0)) (by rw [e0]; exact r1.1) (State.isArrayOf_alike hZ.alike r1.2.1) r1.2.2 i2 y3 (g := (mkF m 27 #[rv o0, iv 0, iv 2, iv t1, iv 0, iv 1, iv 0, .unset] [(.int 0), (.ref o0)])) rfl rfl (hb hby d8_27) _ ?_
    refine XS.istore X0.here hx rfl (hb hby d8_28) rfl (l' := #[rv o0, iv 0, iv 2, iv t1, iv 0, iv 1, iv 0, iv t0]) rfl ?_
    refine XS.iload X0.here hx rfl (hb hby d8_30) rfl ?_
    refine XS.iloadN X0.here hx rfl (hb hby d8_32) rfl ?_
    show Steps p.tables e below (s₁.setTop (mkF m 33 #[rv o0, iv 0, iv 2, iv t1, iv 0, iv 1, iv 0, iv t0] [(.int t1), (.int t0)])) _
    refine XS.icmpYes X0.here hx rfl (pc0 := 33) (pc' := 45) rfl (hb hby d8_33) rfl (flt hq0).2.1 (by decide) (by decide) ?_
    refine XS.iload X0.here hx rfl (hb hby d8_45) rfl ?_
    refine XS.iloadN X0.here hx rfl (hb hby d8_47) rfl ?_
    refine XS.icmpYes X0.here hx rfl (pc0 := 48) (pc' := 60) rfl (hb hby d8_48) rfl (flt hq1).2.2.2 (by decide) (by decide) ?_
    show Steps p.tables e below (s₁.setTop (mkF m 60 #[rv o0, iv 0, iv 2, iv t1, iv 0, iv 1, iv 0, iv t0] [])) _
    refine XS.iload X0.here hx rfl (hb hby d8_60) rfl ?_
    exact retI X0 hx Bd.returns (hb hby d8_62) hr
  · show Q8_8 Z a_ONE a_ZTT e_2 e_3 t0 t1 t2 t3 t4 o0 j0 h0 n0 _ s₁.heap _
    exact ⟨rfl, N0, e0⟩
def Q6_8 (Z : State) (a_ONE : Addr) (a_ZTT : Addr) (e_2 : Addr) (e_3 : Addr) (t0 : Int32) (t1 : Int32) (t2 : Int32) (t3 : Int32) (t4 : Int32) (o0 : Addr) (j0 : ClassId) (h0 : Heap) (n0 : Nat) (v : Option Value) (h : Heap) (L : List Loc) : Prop := v = some (.int 0) ∧ Fr n0 L ∧ h = h0
set_option maxRecDepth 65536 in
set_option maxHeartbeats 40000000 in
theorem rm6_8 (l : Launch) (Z : State) (a0 : Array Value) (hw : ∀ d ∈ tables_1, d.before a0 Z = true) (ws : List Jvm.Cond) (a_ONE : Addr) (a_ZTT : Addr) (e_2 : Addr) (e_3 : Addr) (t0 : Int32) (t1 : Int32) (t2 : Int32) (t3 : Int32) (t4 : Int32) (o0 : Addr) (j0 : ClassId) (h0 : Heap) (n0 : Nat) (FF : Facts Z Z.heap a_ONE a_ZTT e_2 e_3) (OO : Old Z n0 h0) (f0 : Arv Z h0 o0 j0 .int (4 : Int32) [(.int t0), (.int t2), (.int t3), (.int t4)] (.int 0)) (hq0 : ¬ (t0 < t1)) (hq1 : ¬ (t1 < t0)) :
    MetFree l (⟨"java/util/Arrays", "binarySearch", "([IIII)I"⟩ : MethodName) (head1 (Jvm.Cond.code (⟨"java/util/Arrays", "binarySearch", "([IIII)I"⟩ : MethodName) jdk_65_method_58_code 4 (some .int) :: ws) ({ frames := 1, cells := 0, slots := 0, locals := 19 } : Room)) (fun a U => a = #[(.ref o0), (.int 0), (.int 2), (.int t1)] ∧ Z.Warmed39 U.vm ∧ U.heap = h0) (fun _ _ _ _ _ => True) (fun _ U o U' => ∃ v L, o = .returned v ∧ Q6_8 Z a_ONE a_ZTT e_2 e_3 t0 t1 t2 t3 t4 o0 j0 h0 n0 v U'.heap L ∧ FrameEnd U o U' L ({ frames := 1, cells := 0, slots := 0, locals := 19 } : Room).cells ({ frames := 1, cells := 0, slots := 0, locals := 19 } : Room).slots) := by
  refine MetFree.of_bodySF (plainFor_of_name pn_6) hisR ?_
  intro p e s m args below meth c s₁ Bd hml0 hP hK
  obtain ⟨rfl, hZ, hh⟩ := hP
  have hx := Bd.exec
  have hby := Bd.bytes
  have hml : c.maxLocals = 4 := hml0
  have hown : s.vm.findClass "java/util/Arrays" = some m.cls := findClass_of_methodNamed Bd.named
  have X0 : Stand p l e ({ frames := 1, cells := 0, slots := 0, locals := 19 } : Room) s m #[(.ref o0), (.int 0), (.int 2), (.int t1)] below meth c s₁ [] 0 0 := Stand.of_body Bd
  have e0 : s₁.heap = h0 := by rw [← hh, Bd.state]; rfl
  have N0 := Fr.nil n0
  have pre0 : ∀ t, Steps p.tables e below (s₁.setTop (mkF m 0 #[rv o0, iv 0, iv 2, iv t1] [])) t → Steps p.tables e below (s₁.setTop (entryFrame m #[(.ref o0), (.int 0), (.int 2), (.int t1)] 4)) t := fun t k => castTop (ef_6 m o0 0 2 t1) k
  obtain ⟨c1, r1, q1, S1, M1, H1, G1⟩ := id f0
  obtain ⟨_, _, ⟨T2, L2, k2, n2⟩, -, X2, ⟨Lc2, hQ2, l2, y2, z2⟩, st2⟩ := Jvm.LawKit.callS X0 hx (y := (⟨"java/util/Arrays", "rangeCheck", "(III)V"⟩ : MethodName)) hown (mvT hZ (w_39 hw)) (mvT hZ (w_40 hw)) (mvT hZ (w_37 hw)) (mvT hZ (w_41 hw)) (by decide) (backOf (W := 0) (rm7_2 l Z a0 hw [] a_ONE a_ZTT e_2 e_3 h0 n0 FF OO) hZ (w_41 hw) (w_37 hw) (by decide) (by decide)) (g := (mkF m 4 #[rv o0, iv 0, iv 2, iv t1] [(.int 2), (.int 0), (.int 4)])) rfl (by rw [hml]; rfl) (argsL := [(.int 4), (.int 0), (.int 2)]) (rest := []) (lenOf pd_3 rfl) rfl (by show 2 * 0 + _ ≤ _; exact Nat.le_of_eq rfl) (hb hby d6_4) (fun _ _ => ⟨rfl, e0, (by decide : 0 + 0 ≤ _), (by decide : 0 + 0 ≤ _)⟩)
  dsimp only [Pt.U, Pt.locs, Pt.cells, Pt.slots] at X2 l2 y2 z2 st2 hQ2
  subst l2 y2 z2
  obtain ⟨rfl, N2q, e2⟩ := hQ2
  have N2 := Fr.app N0 N2q
  obtain ⟨_, _, ⟨T3, L3, k3, n3⟩, -, X3, ⟨Lc3, hQ3, l3, y3, z3⟩, st3⟩ := Jvm.LawKit.callS X2 hx (y := (⟨"java/util/Arrays", "binarySearch0", "([IIII)I"⟩ : MethodName)) hown (mvT hZ (w_42 hw)) (mvT hZ (w_43 hw)) (mvT hZ (w_37 hw)) (mvT hZ (w_44 hw)) (by decide) (backOf (W := 0) (rm8_8 l Z a0 hw [] a_ONE a_ZTT e_2 e_3 t0 t1 t2 t3 t4 o0 j0 h0 n0 FF OO f0 hq0 hq1) hZ (w_44 hw) (w_37 hw) (by decide) (by decide)) (g := (mkF m 11 #[rv o0, iv 0, iv 2, iv t1] [(.int t1), (.int 2), (.int 0), (.ref o0)])) rfl (by rw [hml]; rfl) (argsL := [(.ref o0), (.int 0), (.int 2), (.int t1)]) (rest := []) (lenOf pd_4 rfl) rfl (by show 2 * 0 + _ ≤ _; exact Nat.le_of_eq rfl) (hb hby d6_11) (fun _ _ => ⟨rfl, e2, (by decide : 0 + 0 ≤ _), (by decide : 0 + 0 ≤ _)⟩)
  dsimp only [Pt.U, Pt.locs, Pt.cells, Pt.slots] at X3 l3 y3 z3 st3 hQ3
  subst l3 y3 z3
  obtain ⟨rfl, N3q, e3⟩ := hQ3
  have N3 := Fr.app N2 N3q
  obtain ⟨fs, hr, hrun, hended, hW, hsame⟩ := X3.leave (v := some (.int 0)) (fun h => by rw [Bd.returns] at h; cases h)
  refine ⟨_, _, pre0 _ ?_, hrun, hended, _, _, rfl, ?_, ⟨_, rfl⟩, hW, hsame.mono (by decide) (by decide)⟩
  · show Steps p.tables e below (s₁.setTop (mkF m 0 #[rv o0, iv 0, iv 2, iv t1] [])) _
    refine XS.aloadN X0.here hx rfl (hb hby d6_0) rfl rfl ?_
    refine X0.arraylength hx (by rw [e0]; exact r1.1) (State.isArrayOf_alike hZ.alike r1.2.1) (g := (mkF m 1 #[rv o0, iv 0, iv 2, iv t1] [(.ref o0)])) rfl rfl (hb hby d6_1) _ ?_
    rw [len_of S1 M1]
    refine XS.iloadN X0.here hx rfl (hb hby d6_2) rfl ?_
    show Steps p.tables e below (s₁.setTop (mkF m 3 #[rv o0, iv 0, iv 2, iv t1] [(.int 0), (.int 4)])) _
    refine XS.iloadN X0.here hx rfl (hb hby d6_3) rfl ?_
    refine st2 _ ?_
    refine XS.aloadN X2.here hx rfl (hb hby d6_7) rfl rfl ?_
    refine XS.iloadN X2.here hx rfl (hb hby d6_8) rfl ?_
    show Steps p.tables e below (T2.setTop (mkF m 9 #[rv o0, iv 0, iv 2, iv t1] [(.int 0), (.ref o0)])) _
    refine XS.iloadN X2.here hx rfl (hb hby d6_9) rfl ?_
    refine XS.iloadN X2.here hx rfl (hb hby d6_10) rfl ?_
    refine st3 _ ?_
    exact retI X3 hx Bd.returns (hb hby d6_14) hr
  · show Q6_8 Z a_ONE a_ZTT e_2 e_3 t0 t1 t2 t3 t4 o0 j0 h0 n0 _ T3.heap _
    exact ⟨rfl, N3, e3⟩
def Q5_8 (Z : State) (a_ONE : Addr) (a_ZTT : Addr) (e_2 : Addr) (e_3 : Addr) (t0 : Int32) (t1 : Int32) (t2 : Int32) (t3 : Int32) (t4 : Int32) (o0 : Addr) (o1 : Addr) (o2 : Addr) (j0 : ClassId) (j1 : ClassId) (h0 : Heap) (n0 : Nat) (v : Option Value) (h : Heap) (L : List Loc) : Prop := v = none ∧ Fr n0 L ∧ Keep h0 h [o2] ∧ Arv Z h o2 j1 (.object "java/math/BigDecimal") (4 : Int32) [(.ref e_2), (.ref a_ONE), .null, .null] .null ∧ Ovr Z j1 "java/math/BigDecimal" ∧ Exa Z h o2 "[Ljava/math/BigDecimal;"
set_option maxRecDepth 65536 in
set_option maxHeartbeats 40000000 in
theorem rm5_8 (l : Launch) (Z : State) (a0 : Array Value) (hw : ∀ d ∈ tables_1, d.before a0 Z = true) (ws : List Jvm.Cond) (a_ONE : Addr) (a_ZTT : Addr) (e_2 : Addr) (e_3 : Addr) (t0 : Int32) (t1 : Int32) (t2 : Int32) (t3 : Int32) (t4 : Int32) (o0 : Addr) (o1 : Addr) (o2 : Addr) (j0 : ClassId) (j1 : ClassId) (h0 : Heap) (n0 : Nat) (FF : Facts Z Z.heap a_ONE a_ZTT e_2 e_3) (OO : Old Z n0 h0) (f0 : Fld Z h0 o0 "com/example/deferra/deferra/crediting/DailyAmounts" "days" "[I" (.ref o1)) (f1 : Fld Z h0 o0 "com/example/deferra/deferra/crediting/DailyAmounts" "size" "I" (.int 2)) (f2 : Arv Z h0 o1 j0 .int (4 : Int32) [(.int t0), (.int t2), (.int t3), (.int t4)] (.int 0)) (f3 : Fld Z h0 o0 "com/example/deferra/deferra/crediting/DailyAmounts" "amounts" "[Ljava/math/BigDecimal;" (.ref o2)) (f4 : Arv Z h0 o2 j1 (.object "java/math/BigDecimal") (4 : Int32) [(.ref a_ONE), (.ref a_ONE), .null, .null] .null) (f5 : Ovr Z j1 "java/math/BigDecimal") (u0 : n0 ≤ o2) (f6 : Exa Z h0 o2 "[Ljava/math/BigDecimal;") (hq0 : ¬ (t0 < t1)) (hq1 : ¬ (t1 < t0)) :
    MetFree l (⟨"com/example/deferra/deferra/crediting/DailyAmounts", "add", "(ILjava/math/BigDecimal;)V"⟩ : MethodName) (head1 (Jvm.Cond.code (⟨"com/example/deferra/deferra/crediting/DailyAmounts", "add", "(ILjava/math/BigDecimal;)V"⟩ : MethodName) prog_24_method_2_code 5 none :: ws) ({ frames := 5, cells := 0, slots := 0, locals := 83 } : Room)) (fun a U => a = #[(.ref o0), (.int t1), (.ref a_ONE)] ∧ Z.Warmed39 U.vm ∧ U.heap = h0) (fun _ _ _ _ _ => True) (fun _ U o U' => ∃ v L, o = .returned v ∧ Q5_8 Z a_ONE a_ZTT e_2 e_3 t0 t1 t2 t3 t4 o0 o1 o2 j0 j1 h0 n0 v U'.heap L ∧ FrameEnd U o U' L ({ frames := 5, cells := 0, slots := 0, locals := 83 } : Room).cells ({ frames := 5, cells := 0, slots := 0, locals := 83 } : Room).slots) := by
  refine MetFree.of_bodySF (plainFor_of_name pn_5) hisR ?_
  intro p e s m args below meth c s₁ Bd hml0 hP hK
  obtain ⟨rfl, hZ, hh⟩ := hP
  have hx := Bd.exec
  have hby := Bd.bytes
  have hml : c.maxLocals = 5 := hml0
  have hown : s.vm.findClass "com/example/deferra/deferra/crediting/DailyAmounts" = some m.cls := findClass_of_methodNamed Bd.named
  have X0 : Stand p l e ({ frames := 5, cells := 0, slots := 0, locals := 83 } : Room) s m #[(.ref o0), (.int t1), (.ref a_ONE)] below meth c s₁ [] 0 0 := Stand.of_body Bd
  have e0 : s₁.heap = h0 := by rw [← hh, Bd.state]; rfl
  have N0 := Fr.nil n0
  have pre0 : ∀ t, Steps p.tables e below (s₁.setTop (mkF m 0 #[rv o0, iv t1, rv a_ONE, .unset, .unset] [])) t → Steps p.tables e below (s₁.setTop (entryFrame m #[(.ref o0), (.int t1), (.ref a_ONE)] 5)) t := fun t k => castTop (ef_5 m o0 t1 a_ONE) k
  obtain ⟨T1, X1, e1, st1⟩ := getF X0 hx hZ hown (host := "") (Or.inl (w_10 hw)) Via.refl e0 f0 (g := (mkF m 1 #[rv o0, iv t1, rv a_ONE, .unset, .unset] [(.ref o0)])) rfl rfl (hb hby d5_1)
  obtain ⟨T2, X2, e2, st2⟩ := getF X1 hx hZ hown (host := "") (Or.inl (w_21 hw)) Via.refl e1 f1 (g := (mkF m 6 #[rv o0, iv t1, rv a_ONE, .unset, .unset] [(.ref o0), (.int 0), (.ref o1)])) rfl rfl (hb hby d5_6)
  obtain ⟨_, _, ⟨T3, L3, k3, n3⟩, -, X3, ⟨Lc3, hQ3, l3, y3, z3⟩, st3⟩ := Jvm.LawKit.callS X2 hx (y := (⟨"java/util/Arrays", "binarySearch", "([IIII)I"⟩ : MethodName)) hown (mvT hZ (w_35 hw)) (mvT hZ (w_36 hw)) (mvT hZ (w_37 hw)) (mvT hZ (w_38 hw)) (by decide) (backOf (W := 0) (rm6_8 l Z a0 hw [] a_ONE a_ZTT e_2 e_3 t0 t1 t2 t3 t4 o1 j0 h0 n0 FF OO f2 hq0 hq1) hZ (w_38 hw) (w_37 hw) (by decide) (by decide)) (g := (mkF m 10 #[rv o0, iv t1, rv a_ONE, .unset, .unset] [(.int t1), (.int 2), (.int 0), (.ref o1)])) rfl (by rw [hml]; rfl) (argsL := [(.ref o1), (.int 0), (.int 2), (.int t1)]) (rest := []) (lenOf pd_4 rfl) rfl (by show 2 * 0 + _ ≤ _; exact Nat.le_of_eq rfl) (hb hby d5_10) (fun _ _ => ⟨rfl, e2, (by decide : 0 + 0 ≤ _), (by decide : 0 + 0 ≤ _)⟩)
  dsimp only [Pt.U, Pt.locs, Pt.cells, Pt.slots] at X3 l3 y3 z3 st3 hQ3
  subst l3 y3 z3
  obtain ⟨rfl, N3q, e3⟩ := hQ3
  have N3 := Fr.app N0 N3q
  obtain ⟨T4, X4, e4, st4⟩ := getF X3 hx hZ hown (host := "") (Or.inl (w_14 hw)) Via.refl e3 f3 (g := (mkF m 19 #[rv o0, iv t1, rv a_ONE, iv 0, .unset] [(.ref o0)])) rfl rfl (hb hby d5_19)
  obtain ⟨T5, X5, e5, st5⟩ := getF X4 hx hZ hown (host := "") (Or.inl (w_14 hw)) Via.refl e4 f3 (g := (mkF m 24 #[rv o0, iv t1, rv a_ONE, iv 0, .unset] [(.ref o0), (.int 0), (.ref o2)])) rfl rfl (hb hby d5_24)
  obtain ⟨c6, r6, q6, S6, M6, H6, G6⟩ := id f4
  have i7 : ¬ ((0 : Int32) < 0 ∨ c6.slots.size ≤ ((0 : Int32)).toNatClampNeg) := inb_of S6 ⟨by decide, by decide⟩
  have y8 : c6.slots[((0 : Int32)).toNatClampNeg]? = some (.ref a_ONE) := H6 0 (by rw [S6]; decide)
  obtain ⟨cq9, kq9, q9a, q9b, q9c⟩ := isOf hZ e5 (Exa.ext OO.2 (fx_E_a_ONE FF))
  obtain ⟨_, _, ⟨T9, L9, k9, n9⟩, -, X9, ⟨Lc9, hQ9, l9, y9, z9⟩, st9⟩ := X5.virtualBack hx (y := (⟨"java/math/BigDecimal", "add", "(Ljava/math/BigDecimal;)Ljava/math/BigDecimal;"⟩ : MethodName)) (z := (⟨"java/math/BigDecimal", "add", "(Ljava/math/BigDecimal;)Ljava/math/BigDecimal;"⟩ : MethodName)) hown (mvT hZ (w_50 hw)) (mvT hZ (w_51 hw)) (notFace_of_selects (args := #[]) (mvT hZ (w_53 hw))) (mvT hZ (w_53 hw)) (mvT hZ (w_52 hw)) (by decide) (backOf (W := 2) (rm9_0 l Z a0 hw [] a_ONE a_ZTT e_2 e_3 h0 n0 FF OO) hZ (w_54 hw) (w_29 hw) (by decide) (by decide)) q9a q9c (g := (mkF m 30 #[rv o0, iv t1, rv a_ONE, iv 0, .unset] [(.ref a_ONE), (.ref a_ONE), (.int 0), (.ref o2)])) rfl (by rw [hml]; rfl) (Steps.refl _) (argsL := [(.ref a_ONE)]) (rest := [(.int 0), (.ref o2)]) (lenOf pd_11 rfl) rfl (by show 2 * 0 + _ ≤ _; exact Nat.le_of_eq rfl) (hb hby d5_30) (fun _ _ => ⟨rfl, e5, (by decide : 0 + 0 ≤ _), (by decide : 0 + 0 ≤ _)⟩)
  dsimp only [Pt.U, Pt.locs, Pt.cells, Pt.slots] at X9 l9 y9 z9 st9 hQ9
  subst l9 y9 z9
  obtain ⟨rfl, N9q, e9⟩ := hQ9
  have N9 := Fr.app N3 N9q
  obtain ⟨c10, r10, q10, S10, M10, H10, G10⟩ := id f4
  have i11 : ¬ ((0 : Int32) < 0 ∨ c10.slots.size ≤ ((0 : Int32)).toNatClampNeg) := inb_of S10 ⟨by decide, by decide⟩
  obtain ⟨T12, h12, X12, e12, W12, st12⟩ := stR X9 hx hZ e9 r10 (j := (0 : Int32)) i11 rfl (Sto.ofV r10 q10 f5 (Ins.self (Exa.ext OO.2 (fx_E_e_2 FF)))) (g := (mkF m 33 #[rv o0, iv t1, rv a_ONE, iv 0, .unset] [(.ref e_2), (.int 0), (.ref o2)])) rfl rfl (hb hby d5_33)
  have O12 := Old.wr OO W12 u0
  have KK12 : Keep h0 h12 [o2] := Keep.wr (Keep.refl h0 [o2]) W12 (Or.inl (List.mem_of_getElem? (i := 0) rfl))
  have N12 := Fr.snoc X12 N9 u0
  have F13 : Arv Z h12 o2 j1 (.object "java/math/BigDecimal") (4 : Int32) [(.ref e_2), (.ref a_ONE), .null, .null] .null := Arv.set r10 q10 S10 M10 H10 G10 rfl W12 0 rfl (Nat.le_of_ble_eq_true rfl)
  have F14 : Exa Z h12 o2 "[Ljava/math/BigDecimal;" := (Exa.wr W12 f6)
  obtain ⟨fs, hr, hrun, hended, hW, hsame⟩ := X12.leave (v := none) (fun _ => rfl)
  refine ⟨_, _, pre0 _ ?_, hrun, hended, _, _, rfl, ?_, ⟨_, rfl⟩, hW, hsame.mono (by decide) (by decide)⟩
  · show Steps p.tables e below (s₁.setTop (mkF m 0 #[rv o0, iv t1, rv a_ONE, .unset, .unset] [])) _
    refine XS.aloadN X0.here hx rfl (hb hby d5_0) rfl rfl ?_
    refine st1 _ ?_
    refine XS.iconst X1.here hx rfl (hb hby d5_4) ?_
    refine XS.aloadN X1.here hx rfl (hb hby d5_5) rfl rfl ?_
    show Steps p.tables e below (T1.setTop (mkF m 6 #[rv o0, iv t1, rv a_ONE, .unset, .unset] [(.ref o0), (.int 0), (.ref o1)])) _
    refine st2 _ ?_
    refine XS.iloadN X2.here hx rfl (hb hby d5_9) rfl ?_
    refine st3 _ ?_
    refine XS.istoreN X3.here hx rfl (hb hby d5_13) rfl (l' := #[rv o0, iv t1, rv a_ONE, iv 0, .unset]) rfl ?_
    show Steps p.tables e below (T3.setTop (mkF m 14 #[rv o0, iv t1, rv a_ONE, iv 0, .unset] [])) _
    refine XS.iloadN X3.here hx rfl (hb hby d5_14) rfl ?_
    refine XS.ifNo X3.here hx rfl (hb hby d5_15) rfl (by decide) ?_
    refine XS.aloadN X3.here hx rfl (hb hby d5_18) rfl rfl ?_
    refine st4 _ ?_
    show Steps p.tables e below (T4.setTop (mkF m 22 #[rv o0, iv t1, rv a_ONE, iv 0, .unset] [(.ref o2)])) _
    refine XS.iloadN X4.here hx rfl (hb hby d5_22) rfl ?_
    refine XS.aloadN X4.here hx rfl (hb hby d5_23) rfl rfl ?_
    refine st5 _ ?_
    refine XS.iloadN X5.here hx rfl (hb hby d5_27) rfl ?_
    show Steps p.tables e below (T5.setTop (mkF m 28 #[rv o0, iv t1, rv a_ONE, iv 0, .unset] [(.int 0), (.ref o2), (.int 0), (.ref o2)])) _
    refine X5.aaload hx (j := (0 : Int32)) (v := (.ref a_ONE)) (by rw [e5]; exact r6.1) (State.isArrayOf_alike hZ.alike r6.2.1) rfl r6.2.2 i7 y8 (g := (mkF m 28 #[rv o0, iv t1, rv a_ONE, iv 0, .unset] [(.int 0), (.ref o2), (.int 0), (.ref o2)])) rfl rfl (hb hby d5_28) _ ?_
    refine XS.aloadN X5.here hx rfl (hb hby d5_29) rfl rfl ?_
    refine st9.trans ?_
    refine st12 _ ?_
    show Steps p.tables e below (T12.setTop (mkF m 34 #[rv o0, iv t1, rv a_ONE, iv 0, .unset] [])) _
    exact X12.returnOut hx Bd.returns (hb hby d5_34) hr
  · show Q5_8 Z a_ONE a_ZTT e_2 e_3 t0 t1 t2 t3 t4 o0 o1 o2 j0 j1 h0 n0 _ T12.heap _
    rw [e12]
    exact ⟨rfl, N12, KK12, F13, f5, F14⟩
set_option maxRecDepth 65536 in
set_option maxHeartbeats 40000000 in
theorem sg_27 {p : Program} {l : Launch} {e : Env} {s : State} {m : MethodId} {args : Array Value} {below : List Frame} {meth : Method} {c : Code} {T0 : State} {locs : List Loc} {Z : State} {a0 : Array Value} {h0 : Heap} {n0 : Nat} (hw : ∀ d ∈ tables_1, d.before a0 Z = true) (a_ONE : Addr) (a_ZTT : Addr) (e_2 : Addr) (e_3 : Addr) (t0 : Int32) (t1 : Int32) (t2 : Int32) (t3 : Int32) (t4 : Int32) (t5 : Int32) (t6 : Int32) (t7 : Int32) (o0 : Addr) (o1 : Addr) (o2 : Addr) (j0 : ClassId) (j1 : ClassId) (FF : Facts Z Z.heap a_ONE a_ZTT e_2 e_3)
    (X0 : Stand p l e room_1 s m args below meth c T0 locs 3 11) (hx : p.tables.exec = Jvm.exec) (hZ : Z.Warmed39 s.vm) (hby : c.code = code) (hml : c.maxLocals = 8) (hown : s.vm.findClass "com/example/deferra/deferra/crediting/DailyAmountsIsEmptyPinLaw" = some m.cls) (e0 : T0.heap = h0) (N0 : Fr n0 locs) (OO : Old Z n0 h0) (f0 : Fld Z h0 o0 "com/example/deferra/deferra/crediting/DailyAmounts" "days" "[I" (.ref o1)) (f1 : Fld Z h0 o0 "com/example/deferra/deferra/crediting/DailyAmounts" "size" "I" (.int 2)) (f2 : Arv Z h0 o1 j0 .int (4 : Int32) [(.int t0), (.int t2), (.int t3), (.int t4)] (.int 0)) (f3 : Fld Z h0 o0 "com/example/deferra/deferra/crediting/DailyAmounts" "amounts" "[Ljava/math/BigDecimal;" (.ref o2)) (f4 : Arv Z h0 o2 j1 (.object "java/math/BigDecimal") (4 : Int32) [(.ref a_ONE), (.ref a_ONE), .null, .null] .null) (f5 : Ovr Z j1 "java/math/BigDecimal") (f6 : Exa Z h0 o2 "[Ljava/math/BigDecimal;") (u0 : n0 ≤ o2) (f7 : Exa Z h0 o0 "com/example/deferra/deferra/crediting/DailyAmounts") (v0 : o0 ≠ o2) (hq0 : ¬ (t0 < t1)) (hq1 : ¬ (t1 < t0)) :
    ∃ (T' : State) (h' : Heap) (lc : List Loc), Stand p l e room_1 s m args below meth c T' lc 3 11 ∧ T'.heap = h' ∧ Fr n0 lc ∧ Keep h0 h' [o2] ∧ Arv Z h' o2 j1 (.object "java/math/BigDecimal") (4 : Int32) [(.ref e_2), (.ref a_ONE), .null, .null] .null ∧ Ovr Z j1 "java/math/BigDecimal" ∧ Exa Z h' o2 "[Ljava/math/BigDecimal;" ∧
      ∀ target, Steps p.tables e below (T'.setTop (mkF m 142 #[iv t5, iv t6, iv t7, iv t1, iv 3, rv o0, iv 1, .unset] [])) target → Steps p.tables e below (T0.setTop (mkF m 107 #[iv t5, iv t6, iv t7, iv t1, iv 3, rv o0, iv 1, .unset] [])) target := by
  obtain ⟨T1, X1, e1, st1⟩ := getS2 X0 hx hZ hown (host := "") (Or.inl (w_28 hw)) Via.refl e0 (Sta.ext OO.2 (fx_S_ONE FF)) (g := (mkF m 116 #[iv t5, iv t6, iv t7, iv t1, iv 3, rv o0, iv 1, .unset] [(.int t1), (.ref o0)])) rfl (hb hby at_116)
  obtain ⟨cq2, kq2, q2a, q2b, q2c⟩ := isOf hZ e1 f7
  obtain ⟨_, _, ⟨T2, L2, k2, n2⟩, -, X2, ⟨Lc2, hQ2, l2, y2, z2⟩, st2⟩ := X1.virtualBack hx (y := (⟨"com/example/deferra/deferra/crediting/DailyAmounts", "add", "(ILjava/math/BigDecimal;)V"⟩ : MethodName)) (z := (⟨"com/example/deferra/deferra/crediting/DailyAmounts", "add", "(ILjava/math/BigDecimal;)V"⟩ : MethodName)) hown (mvT hZ (w_30 hw)) (mvT hZ (w_31 hw)) (notFace_of_selects (args := #[]) (mvT hZ (w_33 hw))) (mvT hZ (w_33 hw)) (mvT hZ (w_32 hw)) (by decide) (backOf (W := 0) (rm5_8 l Z a0 hw [] a_ONE a_ZTT e_2 e_3 t0 t1 t2 t3 t4 o0 o1 o2 j0 j1 h0 n0 FF OO f0 f1 f2 f3 f4 f5 u0 f6 hq0 hq1) hZ (w_34 hw) (w_2 hw) (by decide) (by decide)) q2a q2c (g := (mkF m 119 #[iv t5, iv t6, iv t7, iv t1, iv 3, rv o0, iv 1, .unset] [(.ref a_ONE), (.int t1), (.ref o0)])) rfl (by rw [hml]; rfl) (Steps.refl _) (argsL := [(.int t1), (.ref a_ONE)]) (rest := []) (lenOf pd_5 rfl) rfl (by show 2 * 0 + _ ≤ _; exact Nat.le_of_eq rfl) (hb hby at_119) (fun _ _ => ⟨rfl, e1, (by decide : 3 + 0 ≤ _), (by decide : 11 + 0 ≤ _)⟩)
  dsimp only [Pt.U, Pt.locs, Pt.cells, Pt.slots] at X2 l2 y2 z2 st2 hQ2
  subst l2 y2 z2
  obtain ⟨h2, e2⟩ : ∃ z, T2.heap = z := ⟨_, rfl⟩
  rw [e2] at hQ2
  obtain ⟨rfl, N2q, K2, R2_0, R2_1, R2_2⟩ := hQ2
  have N2 := Fr.app N0 N2q
  have O2 := Old.keep OO K2 (allS u0 all0)
  have KK2 : Keep h0 h2 [o2] := Keep.trans (Keep.refl h0 [o2]) K2 (allS (Or.inl (List.mem_of_getElem? (i := 0) rfl)) all0)
  have F4 : Fld Z h2 o0 "com/example/deferra/deferra/crediting/DailyAmounts" "size" "I" (.int 2) := (Fld.keep f1 K2 (ninS v0 nin0))
  have F5 : Exa Z h2 o0 "com/example/deferra/deferra/crediting/DailyAmounts" := (Exa.keep f7 K2)
  obtain ⟨cq3, kq3, q3a, q3b, q3c⟩ := isOf hZ e2 F5
  obtain ⟨_, _, ⟨T3, L3, k3, n3⟩, -, X3, ⟨Lc3, hQ3, l3, y3, z3⟩, st3⟩ := X2.virtualBack hx (y := (⟨"com/example/deferra/deferra/crediting/DailyAmounts", "isEmpty", "()Z"⟩ : MethodName)) (z := (⟨"com/example/deferra/deferra/crediting/DailyAmounts", "isEmpty", "()Z"⟩ : MethodName)) hown (mvT hZ (w_16 hw)) (mvT hZ (w_17 hw)) (notFace_of_selects (args := #[]) (mvT hZ (w_19 hw))) (mvT hZ (w_19 hw)) (mvT hZ (w_18 hw)) (by decide) (backOf (W := 0) (rm3_2 l Z a0 hw [] a_ONE a_ZTT e_2 e_3 o0 h2 n0 FF O2 F4) hZ (w_20 hw) (w_2 hw) (by decide) (by decide)) q3a q3c (g := (mkF m 129 #[iv t5, iv t6, iv t7, iv t1, iv 3, rv o0, iv 1, .unset] [(.ref o0)])) rfl (by rw [hml]; rfl) (Steps.refl _) (argsL := []) (rest := []) (lenOf pd_1 rfl) rfl (by show 2 * 0 + _ ≤ _; exact Nat.le_of_eq rfl) (hb hby at_129) (fun _ _ => ⟨rfl, e2, (by decide : 3 + 0 ≤ _), (by decide : 11 + 0 ≤ _)⟩)
  dsimp only [Pt.U, Pt.locs, Pt.cells, Pt.slots] at X3 l3 y3 z3 st3 hQ3
  subst l3 y3 z3
  obtain ⟨rfl, N3q, e3⟩ := hQ3
  have N3 := Fr.app N2 N3q
  refine ⟨T3, h2, _, X3, e3, N3, KK2, R2_0, R2_1, R2_2, fun target kt => ?_⟩
  show Steps p.tables e below (T0.setTop (mkF m 107 #[iv t5, iv t6, iv t7, iv t1, iv 3, rv o0, iv 1, .unset] [])) _
  refine XS.iload X0.here hx rfl (hb hby at_107) rfl ?_
  refine XS.iconst X0.here hx rfl (hb hby at_109) ?_
  refine XS.icmpNo X0.here hx rfl (hb hby at_110) rfl (by decide) ?_
  refine XS.aload X0.here hx rfl (hb hby at_113) rfl rfl ?_
  show Steps p.tables e below (T0.setTop (mkF m 115 #[iv t5, iv t6, iv t7, iv t1, iv 3, rv o0, iv 1, .unset] [(.ref o0)])) _
  refine XS.iloadN X0.here hx rfl (hb hby at_115) rfl ?_
  refine st1 _ ?_
  refine st2.trans ?_
  refine XS.iload X2.here hx rfl (hb hby at_122) rfl ?_
  show Steps p.tables e below (T2.setTop (mkF m 124 #[iv t5, iv t6, iv t7, iv t1, iv 3, rv o0, iv 1, .unset] [(.int 1)])) _
  refine XS.ifNo X2.here hx rfl (hb hby at_124) rfl (by decide) ?_
  refine XS.aload X2.here hx rfl (hb hby at_127) rfl rfl ?_
  refine st3.trans ?_
  refine XS.ifNo X3.here hx rfl (hb hby at_132) rfl (by decide) ?_
  show Steps p.tables e below (T3.setTop (mkF m 135 #[iv t5, iv t6, iv t7, iv t1, iv 3, rv o0, iv 1, .unset] [])) _
  refine XS.iconst X3.here hx rfl (hb hby at_135) ?_
  refine XS.goto X3.here hx rfl (pc0 := 136) (pc' := 140) rfl (hb hby at_136) (by decide) (by decide) ?_
  refine XS.istore X3.here hx rfl (hb hby at_140) rfl (l' := #[iv t5, iv t6, iv t7, iv t1, iv 3, rv o0, iv 1, .unset]) rfl ?_
  exact kt
set_option maxRecDepth 65536 in
set_option maxHeartbeats 40000000 in
theorem rm0_9 (l : Launch) (Z : State) (a0 : Array Value) (hw : ∀ d ∈ tables_1, d.before a0 Z = true) (ws : List Jvm.Cond) (a_ONE : Addr) (a_ZTT : Addr) (e_2 : Addr) (e_3 : Addr) (p0 : Int32) (p1 : Int32) (p2 : Int32) (p3 : Int32) (h0 : Heap) (n0 : Nat) (FF : Facts Z Z.heap a_ONE a_ZTT e_2 e_3) (OO : Old Z n0 h0) (hk0 : (p0 &&& (3 : Int32)) = (3 : Int32)) (hd0 : p1 < p2) (hd1 : ¬ (p1 < p3)) (hd2 : ¬ (p3 < p1)) :
    MetFree l x (head1 (Jvm.Cond.code x code maxLocals ret :: ws) room_1) (fun a U => a = #[(.int p0), (.int p1), (.int p2), (.int p3)] ∧ Z.Warmed39 U.vm ∧ U.heap = h0) (fun _ _ _ _ _ => True) (fun _ U o U' => ∃ v L, o = .returned v ∧ (v = some (.int (1 : Int32)) ∧ Fr n0 L) ∧ FrameEnd U o U' L room_1.cells room_1.slots) := by
  refine MetFree.of_bodySF (plainFor_of_name pn_0) hisR ?_
  intro p e s m args below meth c s₁ Bd hml0 hP hK
  obtain ⟨rfl, hZ, hh⟩ := hP
  have hx := Bd.exec
  have hby := Bd.bytes
  have hml : c.maxLocals = 8 := hml0
  have hown : s.vm.findClass "com/example/deferra/deferra/crediting/DailyAmountsIsEmptyPinLaw" = some m.cls := findClass_of_methodNamed Bd.named
  have X0 : Stand p l e room_1 s m #[(.int p0), (.int p1), (.int p2), (.int p3)] below meth c s₁ [] 0 0 := Stand.of_body Bd
  have e0 : s₁.heap = h0 := by rw [← hh, Bd.state]; rfl
  have N0 := Fr.nil n0
  have pre0 : ∀ t, Steps p.tables e below (s₁.setTop (mkF m 0 #[iv p0, iv p1, iv p2, iv p3, .unset, .unset, .unset, .unset] [])) t → Steps p.tables e below (s₁.setTop (entryFrame m #[(.int p0), (.int p1), (.int p2), (.int p3)] maxLocals)) t := fun t k => castTop (ef_0 m p0 p1 p2 p3) k
  obtain ⟨T1, h1, lc1, b1, b2, b3, kb2, kb3, X1, e1, N1, K1, sp1_b1, sp1_b2, sp1_b3, ne1_b1_b2, ne1_b1_b3, ne1_b2_b3, R1_0, R1_1, R1_2, R1_3, R1_4, R1_5, R1_6, R1_7, R1_8, st1⟩ := sg_18 hw a_ONE a_ZTT e_2 e_3 p0 p1 p2 p3 FF X0 hx hZ hby hml hown e0 N0 OO hk0
  have g2 : n0 ≤ b1 := Nat.le_trans (own_le OO) sp1_b1
  have g3 : n0 ≤ b2 := Nat.le_trans (own_le OO) sp1_b2
  have g4 : n0 ≤ b3 := Nat.le_trans (own_le OO) sp1_b3
  have O1 := Old.keep OO K1 all0
  obtain ⟨T5, h5, lc5, X5, e5, N5, K5, R5_0, R5_1, R5_2, R5_3, R5_4, R5_5, R5_6, R5_7, R5_8, st5⟩ := sg_19 hw a_ONE a_ZTT e_2 e_3 (0 : Int32) (0 : Int32) (0 : Int32) (0 : Int32) p1 p0 p2 p3 b1 b2 b3 kb2 kb3 FF X1 hx hZ hby hml hown e1 N1 O1 R1_1 R1_3 R1_5 R1_2 R1_7 R1_8 R1_0 R1_4 R1_6 g3 ne1_b1_b2 (Ne.symm ne1_b2_b3) g4 ne1_b1_b3 g2
  have O5 := Old.keep O1 K5 (allS g2 (allS g4 (allS g3 all0)))
  obtain ⟨T6, h6, lc6, X6, e6, N6, K6, R6_0, R6_1, R6_2, R6_3, R6_4, R6_5, R6_6, R6_7, R6_8, st6⟩ := sg_20 hw a_ONE a_ZTT e_2 e_3 p1 p2 (0 : Int32) (0 : Int32) (0 : Int32) p0 p1 p3 b1 b2 b3 kb2 kb3 FF X5 hx hZ hby hml hown e5 N5 O5 R5_0 R5_1 R5_7 R5_2 R5_4 R5_5 R5_3 R5_8 R5_6 g3 ne1_b1_b2 (Ne.symm ne1_b2_b3) g4 ne1_b1_b3 g2 hd0
  have O6 := Old.keep O5 K6 (allS g2 (allS g4 (allS g3 all0)))
  obtain ⟨T7, h7, lc7, X7, e7, N7, K7, R7_0, R7_1, R7_2, st7⟩ := sg_27 hw a_ONE a_ZTT e_2 e_3 p1 p3 p2 (0 : Int32) (0 : Int32) p0 p1 p2 b1 b2 b3 kb2 kb3 FF X6 hx hZ hby hml hown e6 N6 O6 R6_0 R6_1 R6_7 R6_2 R6_4 R6_5 R6_6 g4 R6_3 ne1_b1_b3 hd1 hd2
  have O7 := Old.keep O6 K7 (allS g4 all0)
  have F9 : Fld Z h7 b1 "com/example/deferra/deferra/crediting/DailyAmounts" "size" "I" (.int 2) := (Fld.keep R6_1 K7 (ninS ne1_b1_b3 nin0))
  have F10 : Exa Z h7 b1 "com/example/deferra/deferra/crediting/DailyAmounts" := (Exa.keep R6_3 K7)
  obtain ⟨T8, h8, lc8, X8, e8, N8, K8, st8⟩ := sg_25 hw a_ONE a_ZTT e_2 e_3 p0 p1 p2 p3 b1 FF X7 hx hZ hby hml hown e7 N7 O7 F9 F10
  have O8 := Old.keep O7 K8 all0
  obtain ⟨fs, hr, hrun, hended, hW, hsame⟩ := X8.leave (v := some (.int 1)) (fun h => by rw [Bd.returns] at h; cases h)
  refine ⟨_, _, pre0 _ ?_, hrun, hended, _, _, rfl, ?_, ⟨_, rfl⟩, hW, hsame.mono (by decide) (by decide)⟩
  · show Steps p.tables e below (s₁.setTop (mkF m 0 #[iv p0, iv p1, iv p2, iv p3, .unset, .unset, .unset, .unset] [])) _
    refine st1 _ ?_
    show Steps p.tables e below (T1.setTop (mkF m 37 #[iv p0, iv p1, iv p2, iv p3, iv 3, rv b1, iv 1, .unset] [])) _
    refine st5 _ ?_
    show Steps p.tables e below (T5.setTop (mkF m 72 #[iv p0, iv p1, iv p2, iv p3, iv 3, rv b1, iv 1, .unset] [])) _
    refine st6 _ ?_
    show Steps p.tables e below (T6.setTop (mkF m 107 #[iv p0, iv p1, iv p2, iv p3, iv 3, rv b1, iv 1, .unset] [])) _
    refine st7 _ ?_
    show Steps p.tables e below (T7.setTop (mkF m 142 #[iv p0, iv p1, iv p2, iv p3, iv 3, rv b1, iv 1, .unset] [])) _
    refine st8 _ ?_
    exact retN X8 hx (t := .boolean) Bd.returns (by simp) (hb hby at_192) hr
  · exact ⟨rfl, N8⟩
set_option maxRecDepth 65536 in
set_option maxHeartbeats 40000000 in
theorem sg_28 {p : Program} {l : Launch} {e : Env} {s : State} {m : MethodId} {args : Array Value} {below : List Frame} {meth : Method} {c : Code} {T0 : State} {locs : List Loc} {Z : State} {a0 : Array Value} {h0 : Heap} {n0 : Nat} (hw : ∀ d ∈ tables_1, d.before a0 Z = true) (a_ONE : Addr) (a_ZTT : Addr) (e_2 : Addr) (e_3 : Addr) (t0 : Int32) (t1 : Int32) (t2 : Int32) (t3 : Int32) (t4 : Int32) (t5 : Int32) (t6 : Int32) (t7 : Int32) (o0 : Addr) (o1 : Addr) (o2 : Addr) (j0 : ClassId) (j1 : ClassId) (FF : Facts Z Z.heap a_ONE a_ZTT e_2 e_3)
    (X0 : Stand p l e room_1 s m args below meth c T0 locs 3 11) (hx : p.tables.exec = Jvm.exec) (hZ : Z.Warmed39 s.vm) (hby : c.code = code) (hml : c.maxLocals = 8) (hown : s.vm.findClass "com/example/deferra/deferra/crediting/DailyAmountsIsEmptyPinLaw" = some m.cls) (e0 : T0.heap = h0) (N0 : Fr n0 locs) (OO : Old Z n0 h0) (f0 : Fld Z h0 o0 "com/example/deferra/deferra/crediting/DailyAmounts" "days" "[I" (.ref o1)) (f1 : Fld Z h0 o0 "com/example/deferra/deferra/crediting/DailyAmounts" "size" "I" (.int 1)) (f2 : Arv Z h0 o1 j0 .int (4 : Int32) [(.int t0), (.int t2), (.int t3), (.int t4)] (.int 0)) (f3 : Fld Z h0 o0 "com/example/deferra/deferra/crediting/DailyAmounts" "amounts" "[Ljava/math/BigDecimal;" (.ref o2)) (f4 : Arv Z h0 o2 j1 (.object "java/math/BigDecimal") (4 : Int32) [(.ref a_ONE), .null, .null, .null] .null) (f5 : Ovr Z j1 "java/math/BigDecimal") (f6 : Exa Z h0 o0 "com/example/deferra/deferra/crediting/DailyAmounts") (f7 : Exa Z h0 o1 "[I") (f8 : Exa Z h0 o2 "[Ljava/math/BigDecimal;") (u0 : n0 ≤ o1) (v0 : o0 ≠ o1) (v1 : o2 ≠ o1) (u1 : n0 ≤ o2) (v2 : o0 ≠ o2) (u2 : n0 ≤ o0) (hq0 : ¬ (t0 < t1)) (hq1 : t1 < t0) :
    ∃ (T' : State) (h' : Heap) (lc : List Loc), Stand p l e room_1 s m args below meth c T' lc 3 11 ∧ T'.heap = h' ∧ Fr n0 lc ∧ Keep h0 h' [o0, o2, o1] ∧ Fld Z h' o0 "com/example/deferra/deferra/crediting/DailyAmounts" "days" "[I" (.ref o1) ∧ Fld Z h' o0 "com/example/deferra/deferra/crediting/DailyAmounts" "size" "I" (.int 2) ∧ Fld Z h' o0 "com/example/deferra/deferra/crediting/DailyAmounts" "amounts" "[Ljava/math/BigDecimal;" (.ref o2) ∧ Exa Z h' o0 "com/example/deferra/deferra/crediting/DailyAmounts" ∧ Arv Z h' o2 j1 (.object "java/math/BigDecimal") (4 : Int32) [(.ref a_ONE), (.ref a_ONE), .null, .null] .null ∧ Ovr Z j1 "java/math/BigDecimal" ∧ Exa Z h' o2 "[Ljava/math/BigDecimal;" ∧ Arv Z h' o1 j0 .int (4 : Int32) [(.int t1), (.int t0), (.int t3), (.int t4)] (.int 0) ∧ Exa Z h' o1 "[I" ∧
      ∀ target, Steps p.tables e below (T'.setTop (mkF m 107 #[iv t5, iv t6, iv t1, iv t7, iv 3, rv o0, iv 1, .unset] [])) target → Steps p.tables e below (T0.setTop (mkF m 72 #[iv t5, iv t6, iv t1, iv t7, iv 3, rv o0, iv 1, .unset] [])) target := by
  obtain ⟨T1, X1, e1, st1⟩ := getS2 X0 hx hZ hown (host := "") (Or.inl (w_28 hw)) Via.refl e0 (Sta.ext OO.2 (fx_S_ONE FF)) (g := (mkF m 81 #[iv t5, iv t6, iv t1, iv t7, iv 3, rv o0, iv 1, .unset] [(.int t1), (.ref o0)])) rfl (hb hby at_81)
  obtain ⟨cq2, kq2, q2a, q2b, q2c⟩ := isOf hZ e1 f6
  obtain ⟨_, _, ⟨T2, L2, k2, n2⟩, -, X2, ⟨Lc2, hQ2, l2, y2, z2⟩, st2⟩ := X1.virtualBack hx (y := (⟨"com/example/deferra/deferra/crediting/DailyAmounts", "add", "(ILjava/math/BigDecimal;)V"⟩ : MethodName)) (z := (⟨"com/example/deferra/deferra/crediting/DailyAmounts", "add", "(ILjava/math/BigDecimal;)V"⟩ : MethodName)) hown (mvT hZ (w_30 hw)) (mvT hZ (w_31 hw)) (notFace_of_selects (args := #[]) (mvT hZ (w_33 hw))) (mvT hZ (w_33 hw)) (mvT hZ (w_32 hw)) (by decide) (backOf (W := 0) (rm5_2 l Z a0 hw [] a_ONE a_ZTT e_2 e_3 t0 t1 t2 t3 t4 o0 o1 o2 j0 j1 h0 n0 FF OO f0 f1 f2 u0 f3 v0 f4 v1 f5 u1 v2 f6 u2 f7 f8 hq0 hq1) hZ (w_34 hw) (w_2 hw) (by decide) (by decide)) q2a q2c (g := (mkF m 84 #[iv t5, iv t6, iv t1, iv t7, iv 3, rv o0, iv 1, .unset] [(.ref a_ONE), (.int t1), (.ref o0)])) rfl (by rw [hml]; rfl) (Steps.refl _) (argsL := [(.int t1), (.ref a_ONE)]) (rest := []) (lenOf pd_5 rfl) rfl (by show 2 * 0 + _ ≤ _; exact Nat.le_of_eq rfl) (hb hby at_84) (fun _ _ => ⟨rfl, e1, (by decide : 3 + 0 ≤ _), (by decide : 11 + 0 ≤ _)⟩)
  dsimp only [Pt.U, Pt.locs, Pt.cells, Pt.slots] at X2 l2 y2 z2 st2 hQ2
  subst l2 y2 z2
  obtain ⟨h2, e2⟩ : ∃ z, T2.heap = z := ⟨_, rfl⟩
  rw [e2] at hQ2
  obtain ⟨rfl, N2q, K2, R2_0, R2_1, R2_2, R2_3, R2_4, R2_5, R2_6, R2_7, R2_8⟩ := hQ2
  have N2 := Fr.app N0 N2q
  have O2 := Old.keep OO K2 (allS u0 (allS u1 (allS u2 all0)))
  have KK2 : Keep h0 h2 [o0, o2, o1] := Keep.trans (Keep.refl h0 [o0, o2, o1]) K2 (allS (Or.inl (List.mem_of_getElem? (i := 2) rfl)) (allS (Or.inl (List.mem_of_getElem? (i := 1) rfl)) (allS (Or.inl (List.mem_of_getElem? (i := 0) rfl)) all0)))
  obtain ⟨cq3, kq3, q3a, q3b, q3c⟩ := isOf hZ e2 R2_8
  obtain ⟨_, _, ⟨T3, L3, k3, n3⟩, -, X3, ⟨Lc3, hQ3, l3, y3, z3⟩, st3⟩ := X2.virtualBack hx (y := (⟨"com/example/deferra/deferra/crediting/DailyAmounts", "isEmpty", "()Z"⟩ : MethodName)) (z := (⟨"com/example/deferra/deferra/crediting/DailyAmounts", "isEmpty", "()Z"⟩ : MethodName)) hown (mvT hZ (w_16 hw)) (mvT hZ (w_17 hw)) (notFace_of_selects (args := #[]) (mvT hZ (w_19 hw))) (mvT hZ (w_19 hw)) (mvT hZ (w_18 hw)) (by decide) (backOf (W := 0) (rm3_2 l Z a0 hw [] a_ONE a_ZTT e_2 e_3 o0 h2 n0 FF O2 R2_6) hZ (w_20 hw) (w_2 hw) (by decide) (by decide)) q3a q3c (g := (mkF m 94 #[iv t5, iv t6, iv t1, iv t7, iv 3, rv o0, iv 1, .unset] [(.ref o0)])) rfl (by rw [hml]; rfl) (Steps.refl _) (argsL := []) (rest := []) (lenOf pd_1 rfl) rfl (by show 2 * 0 + _ ≤ _; exact Nat.le_of_eq rfl) (hb hby at_94) (fun _ _ => ⟨rfl, e2, (by decide : 3 + 0 ≤ _), (by decide : 11 + 0 ≤ _)⟩)
  dsimp only [Pt.U, Pt.locs, Pt.cells, Pt.slots] at X3 l3 y3 z3 st3 hQ3
  subst l3 y3 z3
  obtain ⟨rfl, N3q, e3⟩ := hQ3
  have N3 := Fr.app N2 N3q
  refine ⟨T3, h2, _, X3, e3, N3, KK2, R2_5, R2_6, R2_7, R2_8, R2_2, R2_3, R2_4, R2_0, R2_1, fun target kt => ?_⟩
  show Steps p.tables e below (T0.setTop (mkF m 72 #[iv t5, iv t6, iv t1, iv t7, iv 3, rv o0, iv 1, .unset] [])) _
  refine XS.iload X0.here hx rfl (hb hby at_72) rfl ?_
  refine XS.iconst X0.here hx rfl (hb hby at_74) ?_
  refine XS.icmpNo X0.here hx rfl (hb hby at_75) rfl (by decide) ?_
  refine XS.aload X0.here hx rfl (hb hby at_78) rfl rfl ?_
  show Steps p.tables e below (T0.setTop (mkF m 80 #[iv t5, iv t6, iv t1, iv t7, iv 3, rv o0, iv 1, .unset] [(.ref o0)])) _
  refine XS.iloadN X0.here hx rfl (hb hby at_80) rfl ?_
  refine st1 _ ?_
  refine st2.trans ?_
  refine XS.iload X2.here hx rfl (hb hby at_87) rfl ?_
  show Steps p.tables e below (T2.setTop (mkF m 89 #[iv t5, iv t6, iv t1, iv t7, iv 3, rv o0, iv 1, .unset] [(.int 1)])) _
  refine XS.ifNo X2.here hx rfl (hb hby at_89) rfl (by decide) ?_
  refine XS.aload X2.here hx rfl (hb hby at_92) rfl rfl ?_
  refine st3.trans ?_
  refine XS.ifNo X3.here hx rfl (hb hby at_97) rfl (by decide) ?_
  show Steps p.tables e below (T3.setTop (mkF m 100 #[iv t5, iv t6, iv t1, iv t7, iv 3, rv o0, iv 1, .unset] [])) _
  refine XS.iconst X3.here hx rfl (hb hby at_100) ?_
  refine XS.goto X3.here hx rfl (pc0 := 101) (pc' := 105) rfl (hb hby at_101) (by decide) (by decide) ?_
  refine XS.istore X3.here hx rfl (hb hby at_105) rfl (l' := #[iv t5, iv t6, iv t1, iv t7, iv 3, rv o0, iv 1, .unset]) rfl ?_
  exact kt
set_option maxRecDepth 65536 in
set_option maxHeartbeats 40000000 in
theorem rm0_10 (l : Launch) (Z : State) (a0 : Array Value) (hw : ∀ d ∈ tables_1, d.before a0 Z = true) (ws : List Jvm.Cond) (a_ONE : Addr) (a_ZTT : Addr) (e_2 : Addr) (e_3 : Addr) (p0 : Int32) (p1 : Int32) (p2 : Int32) (p3 : Int32) (h0 : Heap) (n0 : Nat) (FF : Facts Z Z.heap a_ONE a_ZTT e_2 e_3) (OO : Old Z n0 h0) (hk0 : (p0 &&& (3 : Int32)) = (3 : Int32)) (hd0 : ¬ (p1 < p2)) (hd1 : p2 < p1) (hd2 : p2 < p3) (hd3 : p1 < p3) :
    MetFree l x (head1 (Jvm.Cond.code x code maxLocals ret :: ws) room_1) (fun a U => a = #[(.int p0), (.int p1), (.int p2), (.int p3)] ∧ Z.Warmed39 U.vm ∧ U.heap = h0) (fun _ _ _ _ _ => True) (fun _ U o U' => ∃ v L, o = .returned v ∧ (v = some (.int (1 : Int32)) ∧ Fr n0 L) ∧ FrameEnd U o U' L room_1.cells room_1.slots) := by
  refine MetFree.of_bodySF (plainFor_of_name pn_0) hisR ?_
  intro p e s m args below meth c s₁ Bd hml0 hP hK
  obtain ⟨rfl, hZ, hh⟩ := hP
  have hx := Bd.exec
  have hby := Bd.bytes
  have hml : c.maxLocals = 8 := hml0
  have hown : s.vm.findClass "com/example/deferra/deferra/crediting/DailyAmountsIsEmptyPinLaw" = some m.cls := findClass_of_methodNamed Bd.named
  have X0 : Stand p l e room_1 s m #[(.int p0), (.int p1), (.int p2), (.int p3)] below meth c s₁ [] 0 0 := Stand.of_body Bd
  have e0 : s₁.heap = h0 := by rw [← hh, Bd.state]; rfl
  have N0 := Fr.nil n0
  have pre0 : ∀ t, Steps p.tables e below (s₁.setTop (mkF m 0 #[iv p0, iv p1, iv p2, iv p3, .unset, .unset, .unset, .unset] [])) t → Steps p.tables e below (s₁.setTop (entryFrame m #[(.int p0), (.int p1), (.int p2), (.int p3)] maxLocals)) t := fun t k => castTop (ef_0 m p0 p1 p2 p3) k
  obtain ⟨T1, h1, lc1, b1, b2, b3, kb2, kb3, X1, e1, N1, K1, sp1_b1, sp1_b2, sp1_b3, ne1_b1_b2, ne1_b1_b3, ne1_b2_b3, R1_0, R1_1, R1_2, R1_3, R1_4, R1_5, R1_6, R1_7, R1_8, st1⟩ := sg_18 hw a_ONE a_ZTT e_2 e_3 p0 p1 p2 p3 FF X0 hx hZ hby hml hown e0 N0 OO hk0
  have g2 : n0 ≤ b1 := Nat.le_trans (own_le OO) sp1_b1
  have g3 : n0 ≤ b2 := Nat.le_trans (own_le OO) sp1_b2
  have g4 : n0 ≤ b3 := Nat.le_trans (own_le OO) sp1_b3
  have O1 := Old.keep OO K1 all0
  obtain ⟨T5, h5, lc5, X5, e5, N5, K5, R5_0, R5_1, R5_2, R5_3, R5_4, R5_5, R5_6, R5_7, R5_8, st5⟩ := sg_19 hw a_ONE a_ZTT e_2 e_3 (0 : Int32) (0 : Int32) (0 : Int32) (0 : Int32) p1 p0 p2 p3 b1 b2 b3 kb2 kb3 FF X1 hx hZ hby hml hown e1 N1 O1 R1_1 R1_3 R1_5 R1_2 R1_7 R1_8 R1_0 R1_4 R1_6 g3 ne1_b1_b2 (Ne.symm ne1_b2_b3) g4 ne1_b1_b3 g2
  have O5 := Old.keep O1 K5 (allS g2 (allS g4 (allS g3 all0)))
  obtain ⟨T6, h6, lc6, X6, e6, N6, K6, R6_0, R6_1, R6_2, R6_3, R6_4, R6_5, R6_6, R6_7, R6_8, st6⟩ := sg_28 hw a_ONE a_ZTT e_2 e_3 p1 p2 (0 : Int32) (0 : Int32) (0 : Int32) p0 p1 p3 b1 b2 b3 kb2 kb3 FF X5 hx hZ hby hml hown e5 N5 O5 R5_0 R5_1 R5_7 R5_2 R5_4 R5_5 R5_3 R5_8 R5_6 g3 ne1_b1_b2 (Ne.symm ne1_b2_b3) g4 ne1_b1_b3 g2 hd0 hd1
  have O6 := Old.keep O5 K6 (allS g2 (allS g4 (allS g3 all0)))
  obtain ⟨T7, h7, lc7, X7, e7, N7, K7, R7_0, R7_1, R7_2, R7_3, R7_4, R7_5, R7_6, R7_7, R7_8, st7⟩ := sg_21 hw a_ONE a_ZTT e_2 e_3 p2 p3 p1 (0 : Int32) (0 : Int32) p0 p1 p2 b1 b2 b3 kb2 kb3 FF X6 hx hZ hby hml hown e6 N6 O6 R6_0 R6_1 R6_7 R6_2 R6_4 R6_5 R6_3 R6_8 R6_6 g3 ne1_b1_b2 (Ne.symm ne1_b2_b3) g4 ne1_b1_b3 g2 hd2 hd3
  have O7 := Old.keep O6 K7 (allS g2 (allS g4 (allS g3 all0)))
  obtain ⟨T8, h8, lc8, X8, e8, N8, K8, st8⟩ := sg_22 hw a_ONE a_ZTT e_2 e_3 p0 p1 p2 p3 b1 FF X7 hx hZ hby hml hown e7 N7 O7 R7_1 R7_3
  have O8 := Old.keep O7 K8 all0
  obtain ⟨fs, hr, hrun, hended, hW, hsame⟩ := X8.leave (v := some (.int 1)) (fun h => by rw [Bd.returns] at h; cases h)
  refine ⟨_, _, pre0 _ ?_, hrun, hended, _, _, rfl, ?_, ⟨_, rfl⟩, hW, hsame.mono (by decide) (by decide)⟩
  · show Steps p.tables e below (s₁.setTop (mkF m 0 #[iv p0, iv p1, iv p2, iv p3, .unset, .unset, .unset, .unset] [])) _
    refine st1 _ ?_
    show Steps p.tables e below (T1.setTop (mkF m 37 #[iv p0, iv p1, iv p2, iv p3, iv 3, rv b1, iv 1, .unset] [])) _
    refine st5 _ ?_
    show Steps p.tables e below (T5.setTop (mkF m 72 #[iv p0, iv p1, iv p2, iv p3, iv 3, rv b1, iv 1, .unset] [])) _
    refine st6 _ ?_
    show Steps p.tables e below (T6.setTop (mkF m 107 #[iv p0, iv p1, iv p2, iv p3, iv 3, rv b1, iv 1, .unset] [])) _
    refine st7 _ ?_
    show Steps p.tables e below (T7.setTop (mkF m 142 #[iv p0, iv p1, iv p2, iv p3, iv 3, rv b1, iv 1, .unset] [])) _
    refine st8 _ ?_
    exact retN X8 hx (t := .boolean) Bd.returns (by simp) (hb hby at_192) hr
  · exact ⟨rfl, N8⟩
set_option maxRecDepth 65536 in
set_option maxHeartbeats 40000000 in
theorem rm0_11 (l : Launch) (Z : State) (a0 : Array Value) (hw : ∀ d ∈ tables_1, d.before a0 Z = true) (ws : List Jvm.Cond) (a_ONE : Addr) (a_ZTT : Addr) (e_2 : Addr) (e_3 : Addr) (p0 : Int32) (p1 : Int32) (p2 : Int32) (p3 : Int32) (h0 : Heap) (n0 : Nat) (FF : Facts Z Z.heap a_ONE a_ZTT e_2 e_3) (OO : Old Z n0 h0) (hk0 : (p0 &&& (3 : Int32)) = (3 : Int32)) (hd0 : ¬ (p1 < p2)) (hd1 : p2 < p1) (hd2 : p2 < p3) (hd3 : ¬ (p1 < p3)) (hd4 : p3 < p1) :
    MetFree l x (head1 (Jvm.Cond.code x code maxLocals ret :: ws) room_1) (fun a U => a = #[(.int p0), (.int p1), (.int p2), (.int p3)] ∧ Z.Warmed39 U.vm ∧ U.heap = h0) (fun _ _ _ _ _ => True) (fun _ U o U' => ∃ v L, o = .returned v ∧ (v = some (.int (1 : Int32)) ∧ Fr n0 L) ∧ FrameEnd U o U' L room_1.cells room_1.slots) := by
  refine MetFree.of_bodySF (plainFor_of_name pn_0) hisR ?_
  intro p e s m args below meth c s₁ Bd hml0 hP hK
  obtain ⟨rfl, hZ, hh⟩ := hP
  have hx := Bd.exec
  have hby := Bd.bytes
  have hml : c.maxLocals = 8 := hml0
  have hown : s.vm.findClass "com/example/deferra/deferra/crediting/DailyAmountsIsEmptyPinLaw" = some m.cls := findClass_of_methodNamed Bd.named
  have X0 : Stand p l e room_1 s m #[(.int p0), (.int p1), (.int p2), (.int p3)] below meth c s₁ [] 0 0 := Stand.of_body Bd
  have e0 : s₁.heap = h0 := by rw [← hh, Bd.state]; rfl
  have N0 := Fr.nil n0
  have pre0 : ∀ t, Steps p.tables e below (s₁.setTop (mkF m 0 #[iv p0, iv p1, iv p2, iv p3, .unset, .unset, .unset, .unset] [])) t → Steps p.tables e below (s₁.setTop (entryFrame m #[(.int p0), (.int p1), (.int p2), (.int p3)] maxLocals)) t := fun t k => castTop (ef_0 m p0 p1 p2 p3) k
  obtain ⟨T1, h1, lc1, b1, b2, b3, kb2, kb3, X1, e1, N1, K1, sp1_b1, sp1_b2, sp1_b3, ne1_b1_b2, ne1_b1_b3, ne1_b2_b3, R1_0, R1_1, R1_2, R1_3, R1_4, R1_5, R1_6, R1_7, R1_8, st1⟩ := sg_18 hw a_ONE a_ZTT e_2 e_3 p0 p1 p2 p3 FF X0 hx hZ hby hml hown e0 N0 OO hk0
  have g2 : n0 ≤ b1 := Nat.le_trans (own_le OO) sp1_b1
  have g3 : n0 ≤ b2 := Nat.le_trans (own_le OO) sp1_b2
  have g4 : n0 ≤ b3 := Nat.le_trans (own_le OO) sp1_b3
  have O1 := Old.keep OO K1 all0
  obtain ⟨T5, h5, lc5, X5, e5, N5, K5, R5_0, R5_1, R5_2, R5_3, R5_4, R5_5, R5_6, R5_7, R5_8, st5⟩ := sg_19 hw a_ONE a_ZTT e_2 e_3 (0 : Int32) (0 : Int32) (0 : Int32) (0 : Int32) p1 p0 p2 p3 b1 b2 b3 kb2 kb3 FF X1 hx hZ hby hml hown e1 N1 O1 R1_1 R1_3 R1_5 R1_2 R1_7 R1_8 R1_0 R1_4 R1_6 g3 ne1_b1_b2 (Ne.symm ne1_b2_b3) g4 ne1_b1_b3 g2
  have O5 := Old.keep O1 K5 (allS g2 (allS g4 (allS g3 all0)))
  obtain ⟨T6, h6, lc6, X6, e6, N6, K6, R6_0, R6_1, R6_2, R6_3, R6_4, R6_5, R6_6, R6_7, R6_8, st6⟩ := sg_28 hw a_ONE a_ZTT e_2 e_3 p1 p2 (0 : Int32) (0 : Int32) (0 : Int32) p0 p1 p3 b1 b2 b3 kb2 kb3 FF X5 hx hZ hby hml hown e5 N5 O5 R5_0 R5_1 R5_7 R5_2 R5_4 R5_5 R5_3 R5_8 R5_6 g3 ne1_b1_b2 (Ne.symm ne1_b2_b3) g4 ne1_b1_b3 g2 hd0 hd1
  have O6 := Old.keep O5 K6 (allS g2 (allS g4 (allS g3 all0)))
  obtain ⟨T7, h7, lc7, X7, e7, N7, K7, R7_0, R7_1, R7_2, R7_3, R7_4, R7_5, R7_6, R7_7, R7_8, st7⟩ := sg_23 hw a_ONE a_ZTT e_2 e_3 p2 p3 p1 (0 : Int32) (0 : Int32) p0 p1 p2 b1 b2 b3 kb2 kb3 FF X6 hx hZ hby hml hown e6 N6 O6 R6_0 R6_1 R6_7 R6_2 R6_4 R6_5 R6_3 R6_8 R6_6 g3 ne1_b1_b2 (Ne.symm ne1_b2_b3) g4 ne1_b1_b3 g2 hd2 hd3 hd4
  have O7 := Old.keep O6 K7 (allS g2 (allS g4 (allS g3 all0)))
  obtain ⟨T8, h8, lc8, X8, e8, N8, K8, st8⟩ := sg_22 hw a_ONE a_ZTT e_2 e_3 p0 p1 p2 p3 b1 FF X7 hx hZ hby hml hown e7 N7 O7 R7_1 R7_3
  have O8 := Old.keep O7 K8 all0
  obtain ⟨fs, hr, hrun, hended, hW, hsame⟩ := X8.leave (v := some (.int 1)) (fun h => by rw [Bd.returns] at h; cases h)
  refine ⟨_, _, pre0 _ ?_, hrun, hended, _, _, rfl, ?_, ⟨_, rfl⟩, hW, hsame.mono (by decide) (by decide)⟩
  · show Steps p.tables e below (s₁.setTop (mkF m 0 #[iv p0, iv p1, iv p2, iv p3, .unset, .unset, .unset, .unset] [])) _
    refine st1 _ ?_
    show Steps p.tables e below (T1.setTop (mkF m 37 #[iv p0, iv p1, iv p2, iv p3, iv 3, rv b1, iv 1, .unset] [])) _
    refine st5 _ ?_
    show Steps p.tables e below (T5.setTop (mkF m 72 #[iv p0, iv p1, iv p2, iv p3, iv 3, rv b1, iv 1, .unset] [])) _
    refine st6 _ ?_
    show Steps p.tables e below (T6.setTop (mkF m 107 #[iv p0, iv p1, iv p2, iv p3, iv 3, rv b1, iv 1, .unset] [])) _
    refine st7 _ ?_
    show Steps p.tables e below (T7.setTop (mkF m 142 #[iv p0, iv p1, iv p2, iv p3, iv 3, rv b1, iv 1, .unset] [])) _
    refine st8 _ ?_
    exact retN X8 hx (t := .boolean) Bd.returns (by simp) (hb hby at_192) hr
  · exact ⟨rfl, N8⟩
set_option maxRecDepth 65536 in
set_option maxHeartbeats 40000000 in
theorem rm0_12 (l : Launch) (Z : State) (a0 : Array Value) (hw : ∀ d ∈ tables_1, d.before a0 Z = true) (ws : List Jvm.Cond) (a_ONE : Addr) (a_ZTT : Addr) (e_2 : Addr) (e_3 : Addr) (p0 : Int32) (p1 : Int32) (p2 : Int32) (p3 : Int32) (h0 : Heap) (n0 : Nat) (FF : Facts Z Z.heap a_ONE a_ZTT e_2 e_3) (OO : Old Z n0 h0) (hk0 : (p0 &&& (3 : Int32)) = (3 : Int32)) (hd0 : ¬ (p1 < p2)) (hd1 : p2 < p1) (hd2 : p2 < p3) (hd3 : ¬ (p1 < p3)) (hd4 : ¬ (p3 < p1)) :
    MetFree l x (head1 (Jvm.Cond.code x code maxLocals ret :: ws) room_1) (fun a U => a = #[(.int p0), (.int p1), (.int p2), (.int p3)] ∧ Z.Warmed39 U.vm ∧ U.heap = h0) (fun _ _ _ _ _ => True) (fun _ U o U' => ∃ v L, o = .returned v ∧ (v = some (.int (1 : Int32)) ∧ Fr n0 L) ∧ FrameEnd U o U' L room_1.cells room_1.slots) := by
  refine MetFree.of_bodySF (plainFor_of_name pn_0) hisR ?_
  intro p e s m args below meth c s₁ Bd hml0 hP hK
  obtain ⟨rfl, hZ, hh⟩ := hP
  have hx := Bd.exec
  have hby := Bd.bytes
  have hml : c.maxLocals = 8 := hml0
  have hown : s.vm.findClass "com/example/deferra/deferra/crediting/DailyAmountsIsEmptyPinLaw" = some m.cls := findClass_of_methodNamed Bd.named
  have X0 : Stand p l e room_1 s m #[(.int p0), (.int p1), (.int p2), (.int p3)] below meth c s₁ [] 0 0 := Stand.of_body Bd
  have e0 : s₁.heap = h0 := by rw [← hh, Bd.state]; rfl
  have N0 := Fr.nil n0
  have pre0 : ∀ t, Steps p.tables e below (s₁.setTop (mkF m 0 #[iv p0, iv p1, iv p2, iv p3, .unset, .unset, .unset, .unset] [])) t → Steps p.tables e below (s₁.setTop (entryFrame m #[(.int p0), (.int p1), (.int p2), (.int p3)] maxLocals)) t := fun t k => castTop (ef_0 m p0 p1 p2 p3) k
  obtain ⟨T1, h1, lc1, b1, b2, b3, kb2, kb3, X1, e1, N1, K1, sp1_b1, sp1_b2, sp1_b3, ne1_b1_b2, ne1_b1_b3, ne1_b2_b3, R1_0, R1_1, R1_2, R1_3, R1_4, R1_5, R1_6, R1_7, R1_8, st1⟩ := sg_18 hw a_ONE a_ZTT e_2 e_3 p0 p1 p2 p3 FF X0 hx hZ hby hml hown e0 N0 OO hk0
  have g2 : n0 ≤ b1 := Nat.le_trans (own_le OO) sp1_b1
  have g3 : n0 ≤ b2 := Nat.le_trans (own_le OO) sp1_b2
  have g4 : n0 ≤ b3 := Nat.le_trans (own_le OO) sp1_b3
  have O1 := Old.keep OO K1 all0
  obtain ⟨T5, h5, lc5, X5, e5, N5, K5, R5_0, R5_1, R5_2, R5_3, R5_4, R5_5, R5_6, R5_7, R5_8, st5⟩ := sg_19 hw a_ONE a_ZTT e_2 e_3 (0 : Int32) (0 : Int32) (0 : Int32) (0 : Int32) p1 p0 p2 p3 b1 b2 b3 kb2 kb3 FF X1 hx hZ hby hml hown e1 N1 O1 R1_1 R1_3 R1_5 R1_2 R1_7 R1_8 R1_0 R1_4 R1_6 g3 ne1_b1_b2 (Ne.symm ne1_b2_b3) g4 ne1_b1_b3 g2
  have O5 := Old.keep O1 K5 (allS g2 (allS g4 (allS g3 all0)))
  obtain ⟨T6, h6, lc6, X6, e6, N6, K6, R6_0, R6_1, R6_2, R6_3, R6_4, R6_5, R6_6, R6_7, R6_8, st6⟩ := sg_28 hw a_ONE a_ZTT e_2 e_3 p1 p2 (0 : Int32) (0 : Int32) (0 : Int32) p0 p1 p3 b1 b2 b3 kb2 kb3 FF X5 hx hZ hby hml hown e5 N5 O5 R5_0 R5_1 R5_7 R5_2 R5_4 R5_5 R5_3 R5_8 R5_6 g3 ne1_b1_b2 (Ne.symm ne1_b2_b3) g4 ne1_b1_b3 g2 hd0 hd1
  have O6 := Old.keep O5 K6 (allS g2 (allS g4 (allS g3 all0)))
  obtain ⟨T7, h7, lc7, X7, e7, N7, K7, R7_0, R7_1, R7_2, st7⟩ := sg_24 hw a_ONE a_ZTT e_2 e_3 p2 p3 p1 (0 : Int32) (0 : Int32) p0 p1 p2 b1 b2 b3 kb2 kb3 FF X6 hx hZ hby hml hown e6 N6 O6 R6_0 R6_1 R6_7 R6_2 R6_4 R6_5 R6_6 g4 R6_3 ne1_b1_b3 hd2 hd3 hd4
  have O7 := Old.keep O6 K7 (allS g4 all0)
  have F9 : Fld Z h7 b1 "com/example/deferra/deferra/crediting/DailyAmounts" "size" "I" (.int 2) := (Fld.keep R6_1 K7 (ninS ne1_b1_b3 nin0))
  have F10 : Exa Z h7 b1 "com/example/deferra/deferra/crediting/DailyAmounts" := (Exa.keep R6_3 K7)
  obtain ⟨T8, h8, lc8, X8, e8, N8, K8, st8⟩ := sg_25 hw a_ONE a_ZTT e_2 e_3 p0 p1 p2 p3 b1 FF X7 hx hZ hby hml hown e7 N7 O7 F9 F10
  have O8 := Old.keep O7 K8 all0
  obtain ⟨fs, hr, hrun, hended, hW, hsame⟩ := X8.leave (v := some (.int 1)) (fun h => by rw [Bd.returns] at h; cases h)
  refine ⟨_, _, pre0 _ ?_, hrun, hended, _, _, rfl, ?_, ⟨_, rfl⟩, hW, hsame.mono (by decide) (by decide)⟩
  · show Steps p.tables e below (s₁.setTop (mkF m 0 #[iv p0, iv p1, iv p2, iv p3, .unset, .unset, .unset, .unset] [])) _
    refine st1 _ ?_
    show Steps p.tables e below (T1.setTop (mkF m 37 #[iv p0, iv p1, iv p2, iv p3, iv 3, rv b1, iv 1, .unset] [])) _
    refine st5 _ ?_
    show Steps p.tables e below (T5.setTop (mkF m 72 #[iv p0, iv p1, iv p2, iv p3, iv 3, rv b1, iv 1, .unset] [])) _
    refine st6 _ ?_
    show Steps p.tables e below (T6.setTop (mkF m 107 #[iv p0, iv p1, iv p2, iv p3, iv 3, rv b1, iv 1, .unset] [])) _
    refine st7 _ ?_
    show Steps p.tables e below (T7.setTop (mkF m 142 #[iv p0, iv p1, iv p2, iv p3, iv 3, rv b1, iv 1, .unset] [])) _
    refine st8 _ ?_
    exact retN X8 hx (t := .boolean) Bd.returns (by simp) (hb hby at_192) hr
  · exact ⟨rfl, N8⟩
set_option maxRecDepth 65536 in
set_option maxHeartbeats 40000000 in
theorem rm0_13 (l : Launch) (Z : State) (a0 : Array Value) (hw : ∀ d ∈ tables_1, d.before a0 Z = true) (ws : List Jvm.Cond) (a_ONE : Addr) (a_ZTT : Addr) (e_2 : Addr) (e_3 : Addr) (p0 : Int32) (p1 : Int32) (p2 : Int32) (p3 : Int32) (h0 : Heap) (n0 : Nat) (FF : Facts Z Z.heap a_ONE a_ZTT e_2 e_3) (OO : Old Z n0 h0) (hk0 : (p0 &&& (3 : Int32)) = (3 : Int32)) (hd0 : ¬ (p1 < p2)) (hd1 : p2 < p1) (hd2 : ¬ (p2 < p3)) (hd3 : p3 < p2) :
    MetFree l x (head1 (Jvm.Cond.code x code maxLocals ret :: ws) room_1) (fun a U => a = #[(.int p0), (.int p1), (.int p2), (.int p3)] ∧ Z.Warmed39 U.vm ∧ U.heap = h0) (fun _ _ _ _ _ => True) (fun _ U o U' => ∃ v L, o = .returned v ∧ (v = some (.int (1 : Int32)) ∧ Fr n0 L) ∧ FrameEnd U o U' L room_1.cells room_1.slots) := by
  refine MetFree.of_bodySF (plainFor_of_name pn_0) hisR ?_
  intro p e s m args below meth c s₁ Bd hml0 hP hK
  obtain ⟨rfl, hZ, hh⟩ := hP
  have hx := Bd.exec
  have hby := Bd.bytes
  have hml : c.maxLocals = 8 := hml0
  have hown : s.vm.findClass "com/example/deferra/deferra/crediting/DailyAmountsIsEmptyPinLaw" = some m.cls := findClass_of_methodNamed Bd.named
  have X0 : Stand p l e room_1 s m #[(.int p0), (.int p1), (.int p2), (.int p3)] below meth c s₁ [] 0 0 := Stand.of_body Bd
  have e0 : s₁.heap = h0 := by rw [← hh, Bd.state]; rfl
  have N0 := Fr.nil n0
  have pre0 : ∀ t, Steps p.tables e below (s₁.setTop (mkF m 0 #[iv p0, iv p1, iv p2, iv p3, .unset, .unset, .unset, .unset] [])) t → Steps p.tables e below (s₁.setTop (entryFrame m #[(.int p0), (.int p1), (.int p2), (.int p3)] maxLocals)) t := fun t k => castTop (ef_0 m p0 p1 p2 p3) k
  obtain ⟨T1, h1, lc1, b1, b2, b3, kb2, kb3, X1, e1, N1, K1, sp1_b1, sp1_b2, sp1_b3, ne1_b1_b2, ne1_b1_b3, ne1_b2_b3, R1_0, R1_1, R1_2, R1_3, R1_4, R1_5, R1_6, R1_7, R1_8, st1⟩ := sg_18 hw a_ONE a_ZTT e_2 e_3 p0 p1 p2 p3 FF X0 hx hZ hby hml hown e0 N0 OO hk0
  have g2 : n0 ≤ b1 := Nat.le_trans (own_le OO) sp1_b1
  have g3 : n0 ≤ b2 := Nat.le_trans (own_le OO) sp1_b2
  have g4 : n0 ≤ b3 := Nat.le_trans (own_le OO) sp1_b3
  have O1 := Old.keep OO K1 all0
  obtain ⟨T5, h5, lc5, X5, e5, N5, K5, R5_0, R5_1, R5_2, R5_3, R5_4, R5_5, R5_6, R5_7, R5_8, st5⟩ := sg_19 hw a_ONE a_ZTT e_2 e_3 (0 : Int32) (0 : Int32) (0 : Int32) (0 : Int32) p1 p0 p2 p3 b1 b2 b3 kb2 kb3 FF X1 hx hZ hby hml hown e1 N1 O1 R1_1 R1_3 R1_5 R1_2 R1_7 R1_8 R1_0 R1_4 R1_6 g3 ne1_b1_b2 (Ne.symm ne1_b2_b3) g4 ne1_b1_b3 g2
  have O5 := Old.keep O1 K5 (allS g2 (allS g4 (allS g3 all0)))
  obtain ⟨T6, h6, lc6, X6, e6, N6, K6, R6_0, R6_1, R6_2, R6_3, R6_4, R6_5, R6_6, R6_7, R6_8, st6⟩ := sg_28 hw a_ONE a_ZTT e_2 e_3 p1 p2 (0 : Int32) (0 : Int32) (0 : Int32) p0 p1 p3 b1 b2 b3 kb2 kb3 FF X5 hx hZ hby hml hown e5 N5 O5 R5_0 R5_1 R5_7 R5_2 R5_4 R5_5 R5_3 R5_8 R5_6 g3 ne1_b1_b2 (Ne.symm ne1_b2_b3) g4 ne1_b1_b3 g2 hd0 hd1
  have O6 := Old.keep O5 K6 (allS g2 (allS g4 (allS g3 all0)))
  obtain ⟨T7, h7, lc7, X7, e7, N7, K7, R7_0, R7_1, R7_2, R7_3, R7_4, R7_5, R7_6, R7_7, R7_8, st7⟩ := sg_26 hw a_ONE a_ZTT e_2 e_3 p2 p3 p1 (0 : Int32) (0 : Int32) p0 p1 p2 b1 b2 b3 kb2 kb3 FF X6 hx hZ hby hml hown e6 N6 O6 R6_0 R6_1 R6_7 R6_2 R6_4 R6_5 R6_3 R6_8 R6_6 g3 ne1_b1_b2 (Ne.symm ne1_b2_b3) g4 ne1_b1_b3 g2 hd2 hd3
  have O7 := Old.keep O6 K7 (allS g2 (allS g4 (allS g3 all0)))
  obtain ⟨T8, h8, lc8, X8, e8, N8, K8, st8⟩ := sg_22 hw a_ONE a_ZTT e_2 e_3 p0 p1 p2 p3 b1 FF X7 hx hZ hby hml hown e7 N7 O7 R7_1 R7_3
  have O8 := Old.keep O7 K8 all0
  obtain ⟨fs, hr, hrun, hended, hW, hsame⟩ := X8.leave (v := some (.int 1)) (fun h => by rw [Bd.returns] at h; cases h)
  refine ⟨_, _, pre0 _ ?_, hrun, hended, _, _, rfl, ?_, ⟨_, rfl⟩, hW, hsame.mono (by decide) (by decide)⟩
  · show Steps p.tables e below (s₁.setTop (mkF m 0 #[iv p0, iv p1, iv p2, iv p3, .unset, .unset, .unset, .unset] [])) _
    refine st1 _ ?_
    show Steps p.tables e below (T1.setTop (mkF m 37 #[iv p0, iv p1, iv p2, iv p3, iv 3, rv b1, iv 1, .unset] [])) _
    refine st5 _ ?_
    show Steps p.tables e below (T5.setTop (mkF m 72 #[iv p0, iv p1, iv p2, iv p3, iv 3, rv b1, iv 1, .unset] [])) _
    refine st6 _ ?_
    show Steps p.tables e below (T6.setTop (mkF m 107 #[iv p0, iv p1, iv p2, iv p3, iv 3, rv b1, iv 1, .unset] [])) _
    refine st7 _ ?_
    show Steps p.tables e below (T7.setTop (mkF m 142 #[iv p0, iv p1, iv p2, iv p3, iv 3, rv b1, iv 1, .unset] [])) _
    refine st8 _ ?_
    exact retN X8 hx (t := .boolean) Bd.returns (by simp) (hb hby at_192) hr
  · exact ⟨rfl, N8⟩
set_option maxRecDepth 65536 in
set_option maxHeartbeats 40000000 in
theorem rm0_14 (l : Launch) (Z : State) (a0 : Array Value) (hw : ∀ d ∈ tables_1, d.before a0 Z = true) (ws : List Jvm.Cond) (a_ONE : Addr) (a_ZTT : Addr) (e_2 : Addr) (e_3 : Addr) (p0 : Int32) (p1 : Int32) (p2 : Int32) (p3 : Int32) (h0 : Heap) (n0 : Nat) (FF : Facts Z Z.heap a_ONE a_ZTT e_2 e_3) (OO : Old Z n0 h0) (hk0 : (p0 &&& (3 : Int32)) = (3 : Int32)) (hd0 : ¬ (p1 < p2)) (hd1 : p2 < p1) (hd2 : ¬ (p2 < p3)) (hd3 : ¬ (p3 < p2)) :
    MetFree l x (head1 (Jvm.Cond.code x code maxLocals ret :: ws) room_1) (fun a U => a = #[(.int p0), (.int p1), (.int p2), (.int p3)] ∧ Z.Warmed39 U.vm ∧ U.heap = h0) (fun _ _ _ _ _ => True) (fun _ U o U' => ∃ v L, o = .returned v ∧ (v = some (.int (1 : Int32)) ∧ Fr n0 L) ∧ FrameEnd U o U' L room_1.cells room_1.slots) := by
  refine MetFree.of_bodySF (plainFor_of_name pn_0) hisR ?_
  intro p e s m args below meth c s₁ Bd hml0 hP hK
  obtain ⟨rfl, hZ, hh⟩ := hP
  have hx := Bd.exec
  have hby := Bd.bytes
  have hml : c.maxLocals = 8 := hml0
  have hown : s.vm.findClass "com/example/deferra/deferra/crediting/DailyAmountsIsEmptyPinLaw" = some m.cls := findClass_of_methodNamed Bd.named
  have X0 : Stand p l e room_1 s m #[(.int p0), (.int p1), (.int p2), (.int p3)] below meth c s₁ [] 0 0 := Stand.of_body Bd
  have e0 : s₁.heap = h0 := by rw [← hh, Bd.state]; rfl
  have N0 := Fr.nil n0
  have pre0 : ∀ t, Steps p.tables e below (s₁.setTop (mkF m 0 #[iv p0, iv p1, iv p2, iv p3, .unset, .unset, .unset, .unset] [])) t → Steps p.tables e below (s₁.setTop (entryFrame m #[(.int p0), (.int p1), (.int p2), (.int p3)] maxLocals)) t := fun t k => castTop (ef_0 m p0 p1 p2 p3) k
  obtain ⟨T1, h1, lc1, b1, b2, b3, kb2, kb3, X1, e1, N1, K1, sp1_b1, sp1_b2, sp1_b3, ne1_b1_b2, ne1_b1_b3, ne1_b2_b3, R1_0, R1_1, R1_2, R1_3, R1_4, R1_5, R1_6, R1_7, R1_8, st1⟩ := sg_18 hw a_ONE a_ZTT e_2 e_3 p0 p1 p2 p3 FF X0 hx hZ hby hml hown e0 N0 OO hk0
  have g2 : n0 ≤ b1 := Nat.le_trans (own_le OO) sp1_b1
  have g3 : n0 ≤ b2 := Nat.le_trans (own_le OO) sp1_b2
  have g4 : n0 ≤ b3 := Nat.le_trans (own_le OO) sp1_b3
  have O1 := Old.keep OO K1 all0
  obtain ⟨T5, h5, lc5, X5, e5, N5, K5, R5_0, R5_1, R5_2, R5_3, R5_4, R5_5, R5_6, R5_7, R5_8, st5⟩ := sg_19 hw a_ONE a_ZTT e_2 e_3 (0 : Int32) (0 : Int32) (0 : Int32) (0 : Int32) p1 p0 p2 p3 b1 b2 b3 kb2 kb3 FF X1 hx hZ hby hml hown e1 N1 O1 R1_1 R1_3 R1_5 R1_2 R1_7 R1_8 R1_0 R1_4 R1_6 g3 ne1_b1_b2 (Ne.symm ne1_b2_b3) g4 ne1_b1_b3 g2
  have O5 := Old.keep O1 K5 (allS g2 (allS g4 (allS g3 all0)))
  obtain ⟨T6, h6, lc6, X6, e6, N6, K6, R6_0, R6_1, R6_2, R6_3, R6_4, R6_5, R6_6, R6_7, R6_8, st6⟩ := sg_28 hw a_ONE a_ZTT e_2 e_3 p1 p2 (0 : Int32) (0 : Int32) (0 : Int32) p0 p1 p3 b1 b2 b3 kb2 kb3 FF X5 hx hZ hby hml hown e5 N5 O5 R5_0 R5_1 R5_7 R5_2 R5_4 R5_5 R5_3 R5_8 R5_6 g3 ne1_b1_b2 (Ne.symm ne1_b2_b3) g4 ne1_b1_b3 g2 hd0 hd1
  have O6 := Old.keep O5 K6 (allS g2 (allS g4 (allS g3 all0)))
  obtain ⟨T7, h7, lc7, X7, e7, N7, K7, R7_0, R7_1, R7_2, st7⟩ := sg_27 hw a_ONE a_ZTT e_2 e_3 p2 p3 p1 (0 : Int32) (0 : Int32) p0 p1 p2 b1 b2 b3 kb2 kb3 FF X6 hx hZ hby hml hown e6 N6 O6 R6_0 R6_1 R6_7 R6_2 R6_4 R6_5 R6_6 g4 R6_3 ne1_b1_b3 hd2 hd3
  have O7 := Old.keep O6 K7 (allS g4 all0)
  have F9 : Fld Z h7 b1 "com/example/deferra/deferra/crediting/DailyAmounts" "size" "I" (.int 2) := (Fld.keep R6_1 K7 (ninS ne1_b1_b3 nin0))
  have F10 : Exa Z h7 b1 "com/example/deferra/deferra/crediting/DailyAmounts" := (Exa.keep R6_3 K7)
  obtain ⟨T8, h8, lc8, X8, e8, N8, K8, st8⟩ := sg_25 hw a_ONE a_ZTT e_2 e_3 p0 p1 p2 p3 b1 FF X7 hx hZ hby hml hown e7 N7 O7 F9 F10
  have O8 := Old.keep O7 K8 all0
  obtain ⟨fs, hr, hrun, hended, hW, hsame⟩ := X8.leave (v := some (.int 1)) (fun h => by rw [Bd.returns] at h; cases h)
  refine ⟨_, _, pre0 _ ?_, hrun, hended, _, _, rfl, ?_, ⟨_, rfl⟩, hW, hsame.mono (by decide) (by decide)⟩
  · show Steps p.tables e below (s₁.setTop (mkF m 0 #[iv p0, iv p1, iv p2, iv p3, .unset, .unset, .unset, .unset] [])) _
    refine st1 _ ?_
    show Steps p.tables e below (T1.setTop (mkF m 37 #[iv p0, iv p1, iv p2, iv p3, iv 3, rv b1, iv 1, .unset] [])) _
    refine st5 _ ?_
    show Steps p.tables e below (T5.setTop (mkF m 72 #[iv p0, iv p1, iv p2, iv p3, iv 3, rv b1, iv 1, .unset] [])) _
    refine st6 _ ?_
    show Steps p.tables e below (T6.setTop (mkF m 107 #[iv p0, iv p1, iv p2, iv p3, iv 3, rv b1, iv 1, .unset] [])) _
    refine st7 _ ?_
    show Steps p.tables e below (T7.setTop (mkF m 142 #[iv p0, iv p1, iv p2, iv p3, iv 3, rv b1, iv 1, .unset] [])) _
    refine st8 _ ?_
    exact retN X8 hx (t := .boolean) Bd.returns (by simp) (hb hby at_192) hr
  · exact ⟨rfl, N8⟩
set_option maxRecDepth 65536 in
set_option maxHeartbeats 40000000 in
theorem sg_29 {p : Program} {l : Launch} {e : Env} {s : State} {m : MethodId} {args : Array Value} {below : List Frame} {meth : Method} {c : Code} {T0 : State} {locs : List Loc} {Z : State} {a0 : Array Value} {h0 : Heap} {n0 : Nat} (hw : ∀ d ∈ tables_1, d.before a0 Z = true) (a_ONE : Addr) (a_ZTT : Addr) (e_2 : Addr) (e_3 : Addr) (t0 : Int32) (t1 : Int32) (t2 : Int32) (t3 : Int32) (t4 : Int32) (t5 : Int32) (t6 : Int32) (t7 : Int32) (o0 : Addr) (o1 : Addr) (o2 : Addr) (j0 : ClassId) (j1 : ClassId) (FF : Facts Z Z.heap a_ONE a_ZTT e_2 e_3)
    (X0 : Stand p l e room_1 s m args below meth c T0 locs 3 11) (hx : p.tables.exec = Jvm.exec) (hZ : Z.Warmed39 s.vm) (hby : c.code = code) (hml : c.maxLocals = 8) (hown : s.vm.findClass "com/example/deferra/deferra/crediting/DailyAmountsIsEmptyPinLaw" = some m.cls) (e0 : T0.heap = h0) (N0 : Fr n0 locs) (OO : Old Z n0 h0) (f0 : Fld Z h0 o0 "com/example/deferra/deferra/crediting/DailyAmounts" "days" "[I" (.ref o1)) (f1 : Fld Z h0 o0 "com/example/deferra/deferra/crediting/DailyAmounts" "size" "I" (.int 1)) (f2 : Arv Z h0 o1 j0 .int (4 : Int32) [(.int t0), (.int t2), (.int t3), (.int t4)] (.int 0)) (f3 : Fld Z h0 o0 "com/example/deferra/deferra/crediting/DailyAmounts" "amounts" "[Ljava/math/BigDecimal;" (.ref o2)) (f4 : Arv Z h0 o2 j1 (.object "java/math/BigDecimal") (4 : Int32) [(.ref a_ONE), .null, .null, .null] .null) (f5 : Ovr Z j1 "java/math/BigDecimal") (f6 : Exa Z h0 o2 "[Ljava/math/BigDecimal;") (u0 : n0 ≤ o2) (f7 : Exa Z h0 o0 "com/example/deferra/deferra/crediting/DailyAmounts") (v0 : o0 ≠ o2) (hq0 : ¬ (t0 < t1)) (hq1 : ¬ (t1 < t0)) :
    ∃ (T' : State) (h' : Heap) (lc : List Loc), Stand p l e room_1 s m args below meth c T' lc 3 11 ∧ T'.heap = h' ∧ Fr n0 lc ∧ Keep h0 h' [o2] ∧ Arv Z h' o2 j1 (.object "java/math/BigDecimal") (4 : Int32) [(.ref e_2), .null, .null, .null] .null ∧ Ovr Z j1 "java/math/BigDecimal" ∧ Exa Z h' o2 "[Ljava/math/BigDecimal;" ∧
      ∀ target, Steps p.tables e below (T'.setTop (mkF m 107 #[iv t5, iv t6, iv t1, iv t7, iv 3, rv o0, iv 1, .unset] [])) target → Steps p.tables e below (T0.setTop (mkF m 72 #[iv t5, iv t6, iv t1, iv t7, iv 3, rv o0, iv 1, .unset] [])) target := by
  obtain ⟨T1, X1, e1, st1⟩ := getS2 X0 hx hZ hown (host := "") (Or.inl (w_28 hw)) Via.refl e0 (Sta.ext OO.2 (fx_S_ONE FF)) (g := (mkF m 81 #[iv t5, iv t6, iv t1, iv t7, iv 3, rv o0, iv 1, .unset] [(.int t1), (.ref o0)])) rfl (hb hby at_81)
  obtain ⟨cq2, kq2, q2a, q2b, q2c⟩ := isOf hZ e1 f7
  obtain ⟨_, _, ⟨T2, L2, k2, n2⟩, -, X2, ⟨Lc2, hQ2, l2, y2, z2⟩, st2⟩ := X1.virtualBack hx (y := (⟨"com/example/deferra/deferra/crediting/DailyAmounts", "add", "(ILjava/math/BigDecimal;)V"⟩ : MethodName)) (z := (⟨"com/example/deferra/deferra/crediting/DailyAmounts", "add", "(ILjava/math/BigDecimal;)V"⟩ : MethodName)) hown (mvT hZ (w_30 hw)) (mvT hZ (w_31 hw)) (notFace_of_selects (args := #[]) (mvT hZ (w_33 hw))) (mvT hZ (w_33 hw)) (mvT hZ (w_32 hw)) (by decide) (backOf (W := 0) (rm5_3 l Z a0 hw [] a_ONE a_ZTT e_2 e_3 t0 t1 t2 t3 t4 o0 o1 o2 j0 j1 h0 n0 FF OO f0 f1 f2 f3 f4 f5 u0 f6 hq0 hq1) hZ (w_34 hw) (w_2 hw) (by decide) (by decide)) q2a q2c (g := (mkF m 84 #[iv t5, iv t6, iv t1, iv t7, iv 3, rv o0, iv 1, .unset] [(.ref a_ONE), (.int t1), (.ref o0)])) rfl (by rw [hml]; rfl) (Steps.refl _) (argsL := [(.int t1), (.ref a_ONE)]) (rest := []) (lenOf pd_5 rfl) rfl (by show 2 * 0 + _ ≤ _; exact Nat.le_of_eq rfl) (hb hby at_84) (fun _ _ => ⟨rfl, e1, (by decide : 3 + 0 ≤ _), (by decide : 11 + 0 ≤ _)⟩)
  dsimp only [Pt.U, Pt.locs, Pt.cells, Pt.slots] at X2 l2 y2 z2 st2 hQ2
  subst l2 y2 z2
  obtain ⟨h2, e2⟩ : ∃ z, T2.heap = z := ⟨_, rfl⟩
  rw [e2] at hQ2
  obtain ⟨rfl, N2q, K2, R2_0, R2_1, R2_2⟩ := hQ2
  have N2 := Fr.app N0 N2q
  have O2 := Old.keep OO K2 (allS u0 all0)
  have KK2 : Keep h0 h2 [o2] := Keep.trans (Keep.refl h0 [o2]) K2 (allS (Or.inl (List.mem_of_getElem? (i := 0) rfl)) all0)
  have F4 : Fld Z h2 o0 "com/example/deferra/deferra/crediting/DailyAmounts" "size" "I" (.int 1) := (Fld.keep f1 K2 (ninS v0 nin0))
  have F5 : Exa Z h2 o0 "com/example/deferra/deferra/crediting/DailyAmounts" := (Exa.keep f7 K2)
  obtain ⟨cq3, kq3, q3a, q3b, q3c⟩ := isOf hZ e2 F5
  obtain ⟨_, _, ⟨T3, L3, k3, n3⟩, -, X3, ⟨Lc3, hQ3, l3, y3, z3⟩, st3⟩ := X2.virtualBack hx (y := (⟨"com/example/deferra/deferra/crediting/DailyAmounts", "isEmpty", "()Z"⟩ : MethodName)) (z := (⟨"com/example/deferra/deferra/crediting/DailyAmounts", "isEmpty", "()Z"⟩ : MethodName)) hown (mvT hZ (w_16 hw)) (mvT hZ (w_17 hw)) (notFace_of_selects (args := #[]) (mvT hZ (w_19 hw))) (mvT hZ (w_19 hw)) (mvT hZ (w_18 hw)) (by decide) (backOf (W := 0) (rm3_1 l Z a0 hw [] a_ONE a_ZTT e_2 e_3 o0 h2 n0 FF O2 F4) hZ (w_20 hw) (w_2 hw) (by decide) (by decide)) q3a q3c (g := (mkF m 94 #[iv t5, iv t6, iv t1, iv t7, iv 3, rv o0, iv 1, .unset] [(.ref o0)])) rfl (by rw [hml]; rfl) (Steps.refl _) (argsL := []) (rest := []) (lenOf pd_1 rfl) rfl (by show 2 * 0 + _ ≤ _; exact Nat.le_of_eq rfl) (hb hby at_94) (fun _ _ => ⟨rfl, e2, (by decide : 3 + 0 ≤ _), (by decide : 11 + 0 ≤ _)⟩)
  dsimp only [Pt.U, Pt.locs, Pt.cells, Pt.slots] at X3 l3 y3 z3 st3 hQ3
  subst l3 y3 z3
  obtain ⟨rfl, N3q, e3⟩ := hQ3
  have N3 := Fr.app N2 N3q
  refine ⟨T3, h2, _, X3, e3, N3, KK2, R2_0, R2_1, R2_2, fun target kt => ?_⟩
  show Steps p.tables e below (T0.setTop (mkF m 72 #[iv t5, iv t6, iv t1, iv t7, iv 3, rv o0, iv 1, .unset] [])) _
  refine XS.iload X0.here hx rfl (hb hby at_72) rfl ?_
  refine XS.iconst X0.here hx rfl (hb hby at_74) ?_
  refine XS.icmpNo X0.here hx rfl (hb hby at_75) rfl (by decide) ?_
  refine XS.aload X0.here hx rfl (hb hby at_78) rfl rfl ?_
  show Steps p.tables e below (T0.setTop (mkF m 80 #[iv t5, iv t6, iv t1, iv t7, iv 3, rv o0, iv 1, .unset] [(.ref o0)])) _
  refine XS.iloadN X0.here hx rfl (hb hby at_80) rfl ?_
  refine st1 _ ?_
  refine st2.trans ?_
  refine XS.iload X2.here hx rfl (hb hby at_87) rfl ?_
  show Steps p.tables e below (T2.setTop (mkF m 89 #[iv t5, iv t6, iv t1, iv t7, iv 3, rv o0, iv 1, .unset] [(.int 1)])) _
  refine XS.ifNo X2.here hx rfl (hb hby at_89) rfl (by decide) ?_
  refine XS.aload X2.here hx rfl (hb hby at_92) rfl rfl ?_
  refine st3.trans ?_
  refine XS.ifNo X3.here hx rfl (hb hby at_97) rfl (by decide) ?_
  show Steps p.tables e below (T3.setTop (mkF m 100 #[iv t5, iv t6, iv t1, iv t7, iv 3, rv o0, iv 1, .unset] [])) _
  refine XS.iconst X3.here hx rfl (hb hby at_100) ?_
  refine XS.goto X3.here hx rfl (pc0 := 101) (pc' := 105) rfl (hb hby at_101) (by decide) (by decide) ?_
  refine XS.istore X3.here hx rfl (hb hby at_105) rfl (l' := #[iv t5, iv t6, iv t1, iv t7, iv 3, rv o0, iv 1, .unset]) rfl ?_
  exact kt
def Q5_9 (Z : State) (a_ONE : Addr) (a_ZTT : Addr) (e_2 : Addr) (e_3 : Addr) (t0 : Int32) (t1 : Int32) (t2 : Int32) (t3 : Int32) (t4 : Int32) (o0 : Addr) (o1 : Addr) (o2 : Addr) (j0 : ClassId) (j1 : ClassId) (h0 : Heap) (n0 : Nat) (v : Option Value) (h : Heap) (L : List Loc) : Prop := v = none ∧ Fr n0 L ∧ Keep h0 h [o1, o2, o0] ∧ Arv Z h o1 j0 .int (4 : Int32) [(.int t0), (.int t1), (.int t3), (.int t4)] (.int 0) ∧ Exa Z h o1 "[I" ∧ Arv Z h o2 j1 (.object "java/math/BigDecimal") (4 : Int32) [(.ref e_2), (.ref a_ONE), .null, .null] .null ∧ Ovr Z j1 "java/math/BigDecimal" ∧ Exa Z h o2 "[Ljava/math/BigDecimal;" ∧ Fld Z h o0 "com/example/deferra/deferra/crediting/DailyAmounts" "days" "[I" (.ref o1) ∧ Fld Z h o0 "com/example/deferra/deferra/crediting/DailyAmounts" "size" "I" (.int 2) ∧ Fld Z h o0 "com/example/deferra/deferra/crediting/DailyAmounts" "amounts" "[Ljava/math/BigDecimal;" (.ref o2) ∧ Exa Z h o0 "com/example/deferra/deferra/crediting/DailyAmounts"
set_option maxRecDepth 65536 in
set_option maxHeartbeats 40000000 in
theorem rm5_9 (l : Launch) (Z : State) (a0 : Array Value) (hw : ∀ d ∈ tables_1, d.before a0 Z = true) (ws : List Jvm.Cond) (a_ONE : Addr) (a_ZTT : Addr) (e_2 : Addr) (e_3 : Addr) (t0 : Int32) (t1 : Int32) (t2 : Int32) (t3 : Int32) (t4 : Int32) (o0 : Addr) (o1 : Addr) (o2 : Addr) (j0 : ClassId) (j1 : ClassId) (h0 : Heap) (n0 : Nat) (FF : Facts Z Z.heap a_ONE a_ZTT e_2 e_3) (OO : Old Z n0 h0) (f0 : Fld Z h0 o0 "com/example/deferra/deferra/crediting/DailyAmounts" "days" "[I" (.ref o1)) (f1 : Fld Z h0 o0 "com/example/deferra/deferra/crediting/DailyAmounts" "size" "I" (.int 1)) (f2 : Arv Z h0 o1 j0 .int (4 : Int32) [(.int t0), (.int t2), (.int t3), (.int t4)] (.int 0)) (u0 : n0 ≤ o1) (f3 : Fld Z h0 o0 "com/example/deferra/deferra/crediting/DailyAmounts" "amounts" "[Ljava/math/BigDecimal;" (.ref o2)) (v0 : o0 ≠ o1) (f4 : Arv Z h0 o2 j1 (.object "java/math/BigDecimal") (4 : Int32) [(.ref e_2), .null, .null, .null] .null) (v1 : o2 ≠ o1) (u1 : n0 ≤ o2) (v2 : o0 ≠ o2) (f5 : Ovr Z j1 "java/math/BigDecimal") (f6 : Exa Z h0 o0 "com/example/deferra/deferra/crediting/DailyAmounts") (u2 : n0 ≤ o0) (f7 : Exa Z h0 o1 "[I") (f8 : Exa Z h0 o2 "[Ljava/math/BigDecimal;") (hq0 : t0 < t1) :
    MetFree l (⟨"com/example/deferra/deferra/crediting/DailyAmounts", "add", "(ILjava/math/BigDecimal;)V"⟩ : MethodName) (head1 (Jvm.Cond.code (⟨"com/example/deferra/deferra/crediting/DailyAmounts", "add", "(ILjava/math/BigDecimal;)V"⟩ : MethodName) prog_24_method_2_code 5 none :: ws) ({ frames := 2, cells := 0, slots := 0, locals := 34 } : Room)) (fun a U => a = #[(.ref o0), (.int t1), (.ref a_ONE)] ∧ Z.Warmed39 U.vm ∧ U.heap = h0) (fun _ _ _ _ _ => True) (fun _ U o U' => ∃ v L, o = .returned v ∧ Q5_9 Z a_ONE a_ZTT e_2 e_3 t0 t1 t2 t3 t4 o0 o1 o2 j0 j1 h0 n0 v U'.heap L ∧ FrameEnd U o U' L ({ frames := 2, cells := 0, slots := 0, locals := 34 } : Room).cells ({ frames := 2, cells := 0, slots := 0, locals := 34 } : Room).slots) := by
  refine MetFree.of_bodySF (plainFor_of_name pn_5) hisR ?_
  intro p e s m args below meth c s₁ Bd hml0 hP hK
  obtain ⟨rfl, hZ, hh⟩ := hP
  have hx := Bd.exec
  have hby := Bd.bytes
  have hml : c.maxLocals = 5 := hml0
  have hown : s.vm.findClass "com/example/deferra/deferra/crediting/DailyAmounts" = some m.cls := findClass_of_methodNamed Bd.named
  have X0 : Stand p l e ({ frames := 2, cells := 0, slots := 0, locals := 34 } : Room) s m #[(.ref o0), (.int t1), (.ref a_ONE)] below meth c s₁ [] 0 0 := Stand.of_body Bd
  have e0 : s₁.heap = h0 := by rw [← hh, Bd.state]; rfl
  have N0 := Fr.nil n0
  have pre0 : ∀ t, Steps p.tables e below (s₁.setTop (mkF m 0 #[rv o0, iv t1, rv a_ONE, .unset, .unset] [])) t → Steps p.tables e below (s₁.setTop (entryFrame m #[(.ref o0), (.int t1), (.ref a_ONE)] 5)) t := fun t k => castTop (ef_5 m o0 t1 a_ONE) k
  obtain ⟨T1, X1, e1, st1⟩ := getF X0 hx hZ hown (host := "") (Or.inl (w_10 hw)) Via.refl e0 f0 (g := (mkF m 1 #[rv o0, iv t1, rv a_ONE, .unset, .unset] [(.ref o0)])) rfl rfl (hb hby d5_1)
  obtain ⟨T2, X2, e2, st2⟩ := getF X1 hx hZ hown (host := "") (Or.inl (w_21 hw)) Via.refl e1 f1 (g := (mkF m 6 #[rv o0, iv t1, rv a_ONE, .unset, .unset] [(.ref o0), (.int 0), (.ref o1)])) rfl rfl (hb hby d5_6)
  obtain ⟨_, _, ⟨T3, L3, k3, n3⟩, -, X3, ⟨Lc3, hQ3, l3, y3, z3⟩, st3⟩ := Jvm.LawKit.callS X2 hx (y := (⟨"java/util/Arrays", "binarySearch", "([IIII)I"⟩ : MethodName)) hown (mvT hZ (w_35 hw)) (mvT hZ (w_36 hw)) (mvT hZ (w_37 hw)) (mvT hZ (w_38 hw)) (by decide) (backOf (W := 0) (rm6_1 l Z a0 hw [] a_ONE a_ZTT e_2 e_3 t0 t1 t2 t3 t4 o1 j0 h0 n0 FF OO f2 hq0) hZ (w_38 hw) (w_37 hw) (by decide) (by decide)) (g := (mkF m 10 #[rv o0, iv t1, rv a_ONE, .unset, .unset] [(.int t1), (.int 1), (.int 0), (.ref o1)])) rfl (by rw [hml]; rfl) (argsL := [(.ref o1), (.int 0), (.int 1), (.int t1)]) (rest := []) (lenOf pd_4 rfl) rfl (by show 2 * 0 + _ ≤ _; exact Nat.le_of_eq rfl) (hb hby d5_10) (fun _ _ => ⟨rfl, e2, (by decide : 0 + 0 ≤ _), (by decide : 0 + 0 ≤ _)⟩)
  dsimp only [Pt.U, Pt.locs, Pt.cells, Pt.slots] at X3 l3 y3 z3 st3 hQ3
  subst l3 y3 z3
  obtain ⟨rfl, N3q, e3⟩ := hQ3
  have N3 := Fr.app N0 N3q
  obtain ⟨T4, X4, e4, st4⟩ := getF X3 hx hZ hown (host := "") (Or.inl (w_21 hw)) Via.refl e3 f1 (g := (mkF m 42 #[rv o0, iv t1, rv a_ONE, iv (-2), iv 1] [(.ref o0)])) rfl rfl (hb hby d5_42)
  obtain ⟨T5, X5, e5, st5⟩ := getF X4 hx hZ hown (host := "") (Or.inl (w_10 hw)) Via.refl e4 f0 (g := (mkF m 46 #[rv o0, iv t1, rv a_ONE, iv (-2), iv 1] [(.ref o0), (.int 1)])) rfl rfl (hb hby d5_46)
  obtain ⟨c6, r6, q6, S6, M6, H6, G6⟩ := id f2
  obtain ⟨T7, X7, e7, st7⟩ := getF X5 hx hZ hown (host := "") (Or.inl (w_10 hw)) Via.refl e5 f0 (g := (mkF m 91 #[rv o0, iv t1, rv a_ONE, iv (-2), iv 1] [(.ref o0)])) rfl rfl (hb hby d5_91)
  obtain ⟨T8, X8, e8, st8⟩ := getF X7 hx hZ hown (host := "") (Or.inl (w_10 hw)) Via.refl e7 f0 (g := (mkF m 97 #[rv o0, iv t1, rv a_ONE, iv (-2), iv 1] [(.ref o0), (.int 1), (.ref o1)])) rfl rfl (hb hby d5_97)
  obtain ⟨T9, X9, e9, st9⟩ := getF X8 hx hZ hown (host := "") (Or.inl (w_21 hw)) Via.refl e8 f1 (g := (mkF m 105 #[rv o0, iv t1, rv a_ONE, iv (-2), iv 1] [(.ref o0), (.int 2), (.ref o1), (.int 1), (.ref o1)])) rfl rfl (hb hby d5_105)
  obtain ⟨T10, h10, L10, X10, e10, N10, K10, V10, st10⟩ := cpA X9 hx hZ hown (w_45 hw) (w_48 hw) (w_46 hw) (w_47 hw) e9 f2 f2 (us := []) (Or.inl ⟨rfl, rfl⟩) (by decide) (by decide) (by decide) (by decide) (by decide) rfl (Nat.le_of_ble_eq_true rfl) N3 u0 (g := (mkF m 111 #[rv o0, iv t1, rv a_ONE, iv (-2), iv 1] [(.int 0), (.int 2), (.ref o1), (.int 1), (.ref o1)])) rfl (by rw [hml]; rfl) (rest := []) rfl (hb hby d5_111) (by decide) (W := 0) (by show 2 * 0 + _ ≤ _; exact Nat.le_of_eq rfl) (by decide)
  have O10 := Old.keep OO K10 (allS u0 all0)
  have KK10 : Keep h0 h10 [o1, o2, o0] := Keep.trans (Keep.refl h0 [o1, o2, o0]) K10 (allS (Or.inl (List.mem_of_getElem? (i := 0) rfl)) all0)
  have F11 : Arv Z h10 o1 j0 .int (4 : Int32) [(.int t0), (.int t2), (.int t3), (.int t4)] (.int 0) := V10
  have F12 : Fld Z h10 o0 "com/example/deferra/deferra/crediting/DailyAmounts" "amounts" "[Ljava/math/BigDecimal;" (.ref o2) := (Fld.keep f3 K10 (ninS v0 nin0))
  obtain ⟨T13, X13, e13, st13⟩ := getF X10 hx hZ hown (host := "") (Or.inl (w_14 hw)) Via.refl e10 F12 (g := (mkF m 115 #[rv o0, iv t1, rv a_ONE, iv (-2), iv 1] [(.ref o0)])) rfl rfl (hb hby d5_115)
  obtain ⟨T14, X14, e14, st14⟩ := getF X13 hx hZ hown (host := "") (Or.inl (w_14 hw)) Via.refl e13 F12 (g := (mkF m 121 #[rv o0, iv t1, rv a_ONE, iv (-2), iv 1] [(.ref o0), (.int 1), (.ref o2)])) rfl rfl (hb hby d5_121)
  have F15 : Fld Z h10 o0 "com/example/deferra/deferra/crediting/DailyAmounts" "size" "I" (.int 1) := (Fld.keep f1 K10 (ninS v0 nin0))
  obtain ⟨T16, X16, e16, st16⟩ := getF X14 hx hZ hown (host := "") (Or.inl (w_21 hw)) Via.refl e14 F15 (g := (mkF m 129 #[rv o0, iv t1, rv a_ONE, iv (-2), iv 1] [(.ref o0), (.int 2), (.ref o2), (.int 1), (.ref o2)])) rfl rfl (hb hby d5_129)
  have F17 : Arv Z h10 o2 j1 (.object "java/math/BigDecimal") (4 : Int32) [(.ref e_2), .null, .null, .null] .null := (Arv.keep f4 K10 (ninS v1 nin0))
  obtain ⟨c18, r18, q18, S18, M18, H18, G18⟩ := id F17
  obtain ⟨T19, h19, L19, X19, e19, N19, K19, V19, st19⟩ := cpA X16 hx hZ hown (w_45 hw) (w_48 hw) (w_46 hw) (w_47 hw) e16 F17 F17 (us := []) (Or.inr ⟨rfl, rfl, (trivial : StoL Z h10 o2 [])⟩) (by decide) (by decide) (by decide) (by decide) (by decide) rfl (Nat.le_of_ble_eq_true rfl) N10 u1 (g := (mkF m 135 #[rv o0, iv t1, rv a_ONE, iv (-2), iv 1] [(.int 0), (.int 2), (.ref o2), (.int 1), (.ref o2)])) rfl (by rw [hml]; rfl) (rest := []) rfl (hb hby d5_135) (by decide) (W := 0) (by show 2 * 0 + _ ≤ _; exact Nat.le_of_eq rfl) (by decide)
  have O19 := Old.keep O10 K19 (allS u1 all0)
  have KK19 : Keep h0 h19 [o1, o2, o0] := Keep.trans KK10 K19 (allS (Or.inl (List.mem_of_getElem? (i := 1) rfl)) all0)
  have F20 : Arv Z h19 o2 j1 (.object "java/math/BigDecimal") (4 : Int32) [(.ref e_2), .null, .null, .null] .null := V19
  have F21 : Fld Z h19 o0 "com/example/deferra/deferra/crediting/DailyAmounts" "days" "[I" (.ref o1) := (Fld.keep (Fld.keep f0 K10 (ninS v0 nin0)) K19 (ninS v2 nin0))
  obtain ⟨T22, X22, e22, st22⟩ := getF X19 hx hZ hown (host := "") (Or.inl (w_10 hw)) Via.refl e19 F21 (g := (mkF m 139 #[rv o0, iv t1, rv a_ONE, iv (-2), iv 1] [(.ref o0)])) rfl rfl (hb hby d5_139)
  have F24 : Arv Z h19 o1 j0 .int (4 : Int32) [(.int t0), (.int t2), (.int t3), (.int t4)] (.int 0) := (Arv.keep F11 K19 (ninS (Ne.symm v1) nin0))
  obtain ⟨c23, r23, q23, S23, M23, H23, G23⟩ := id F24
  have i25 : ¬ ((1 : Int32) < 0 ∨ c23.slots.size ≤ ((1 : Int32)).toNatClampNeg) := inb_of S23 ⟨by decide, by decide⟩
  obtain ⟨T26, h26, X26, e26, W26, st26⟩ := stI X22 hx hZ e22 r23 (j := (1 : Int32)) i25 (g := (mkF m 145 #[rv o0, iv t1, rv a_ONE, iv (-2), iv 1] [(.int t1), (.int 1), (.ref o1)])) rfl rfl (hb hby d5_145)
  have O26 := Old.wr O19 W26 u0
  have KK26 : Keep h0 h26 [o1, o2, o0] := Keep.wr KK19 W26 (Or.inl (List.mem_of_getElem? (i := 0) rfl))
  have N26 := Fr.snoc X26 N19 u0
  have F27 : Arv Z h26 o1 j0 .int (4 : Int32) [(.int t0), (.int t1), (.int t3), (.int t4)] (.int 0) := Arv.set r23 q23 S23 M23 H23 G23 rfl W26 1 rfl (Nat.le_of_ble_eq_true rfl)
  have F28 : Fld Z h26 o0 "com/example/deferra/deferra/crediting/DailyAmounts" "amounts" "[Ljava/math/BigDecimal;" (.ref o2) := (Fld.other W26 (Fld.keep F12 K19 (ninS v2 nin0)) (Or.inl v0))
  obtain ⟨T29, X29, e29, st29⟩ := getF X26 hx hZ hown (host := "") (Or.inl (w_14 hw)) Via.refl e26 F28 (g := (mkF m 147 #[rv o0, iv t1, rv a_ONE, iv (-2), iv 1] [(.ref o0)])) rfl rfl (hb hby d5_147)
  have F31 : Arv Z h26 o2 j1 (.object "java/math/BigDecimal") (4 : Int32) [(.ref e_2), .null, .null, .null] .null := (Arv.other F20 W26 v1)
  obtain ⟨c30, r30, q30, S30, M30, H30, G30⟩ := id F31
  have i32 : ¬ ((1 : Int32) < 0 ∨ c30.slots.size ≤ ((1 : Int32)).toNatClampNeg) := inb_of S30 ⟨by decide, by decide⟩
  obtain ⟨T33, h33, X33, e33, W33, st33⟩ := stR X29 hx hZ e29 r30 (j := (1 : Int32)) i32 rfl (Sto.ofV r30 q30 f5 (Ins.self (Exa.ext O26.2 (fx_E_a_ONE FF)))) (g := (mkF m 153 #[rv o0, iv t1, rv a_ONE, iv (-2), iv 1] [(.ref a_ONE), (.int 1), (.ref o2)])) rfl rfl (hb hby d5_153)
  have O33 := Old.wr O26 W33 u1
  have KK33 : Keep h0 h33 [o1, o2, o0] := Keep.wr KK26 W33 (Or.inl (List.mem_of_getElem? (i := 1) rfl))
  have N33 := Fr.snoc X33 N26 u1
  have F34 : Arv Z h33 o2 j1 (.object "java/math/BigDecimal") (4 : Int32) [(.ref e_2), (.ref a_ONE), .null, .null] .null := Arv.set r30 q30 S30 M30 H30 G30 rfl W33 1 rfl (Nat.le_of_ble_eq_true rfl)
  have F35 : Fld Z h33 o0 "com/example/deferra/deferra/crediting/DailyAmounts" "size" "I" (.int 1) := (Fld.other W33 (Fld.other W26 (Fld.keep F15 K19 (ninS v2 nin0)) (Or.inl v0)) (Or.inl v2))
  obtain ⟨T36, X36, e36, st36⟩ := getF X33 hx hZ hown (host := "") (Or.inl (w_21 hw)) Via.refl e33 F35 (g := (mkF m 156 #[rv o0, iv t1, rv a_ONE, iv (-2), iv 1] [(.ref o0), (.ref o0)])) rfl rfl (hb hby d5_156)
  have F37 : Exa Z h33 o0 "com/example/deferra/deferra/crediting/DailyAmounts" := (Exa.wr W33 (Exa.wr W26 (Exa.keep (Exa.keep f6 K10) K19)))
  obtain ⟨T38, h38, X38, e38, W38, st38⟩ := putF X36 hx hZ hown (host := "") (Or.inl (w_21 hw)) Via.refl e36 F35 F37 (Or.inl (w_22 hw)) (w_1 hw) (ty := .int) (by decide) rfl rfl (g := (mkF m 161 #[rv o0, iv t1, rv a_ONE, iv (-2), iv 1] [(.int 2), (.ref o0)])) rfl rfl (hb hby d5_161)
  have O38 := Old.wr O33 W38 u2
  have KK38 : Keep h0 h38 [o1, o2, o0] := Keep.wr KK33 W38 (Or.inl (List.mem_of_getElem? (i := 2) rfl))
  have N38 := Fr.snoc X38 N33 u2
  have F39 : Fld Z h38 o0 "com/example/deferra/deferra/crediting/DailyAmounts" "size" "I" (.int 2) := Fld.same W38 F35
  have F40 : Arv Z h38 o1 j0 .int (4 : Int32) [(.int t0), (.int t1), (.int t3), (.int t4)] (.int 0) := (Arv.other (Arv.other F27 W33 (Ne.symm v1)) W38 (Ne.symm v0))
  have F41 : Exa Z h38 o1 "[I" := (Exa.wr W38 (Exa.wr W33 (Exa.wr W26 (Exa.keep (Exa.keep f7 K10) K19))))
  have F42 : Arv Z h38 o2 j1 (.object "java/math/BigDecimal") (4 : Int32) [(.ref e_2), (.ref a_ONE), .null, .null] .null := (Arv.other F34 W38 (Ne.symm v2))
  have F43 : Exa Z h38 o2 "[Ljava/math/BigDecimal;" := (Exa.wr W38 (Exa.wr W33 (Exa.wr W26 (Exa.keep (Exa.keep f8 K10) K19))))
  have F44 : Fld Z h38 o0 "com/example/deferra/deferra/crediting/DailyAmounts" "days" "[I" (.ref o1) := (Fld.other W38 (Fld.other W33 (Fld.other W26 F21 (Or.inl v0)) (Or.inl v2)) (Or.inr (slot_ne (Or.inl (w_11 hw)) (Or.inl (w_22 hw)) (by decide) (t := (.array .int)) (t' := .int) (by decide) (by decide))))
  have F45 : Fld Z h38 o0 "com/example/deferra/deferra/crediting/DailyAmounts" "amounts" "[Ljava/math/BigDecimal;" (.ref o2) := (Fld.other W38 (Fld.other W33 F28 (Or.inl v2)) (Or.inr (slot_ne (Or.inl (w_15 hw)) (Or.inl (w_22 hw)) (by decide) (t := (.array (.object "java/math/BigDecimal"))) (t' := .int) (by decide) (by decide))))
  have F46 : Exa Z h38 o0 "com/example/deferra/deferra/crediting/DailyAmounts" := (Exa.wr W38 F37)
  obtain ⟨fs, hr, hrun, hended, hW, hsame⟩ := X38.leave (v := none) (fun _ => rfl)
  refine ⟨_, _, pre0 _ ?_, hrun, hended, _, _, rfl, ?_, ⟨_, rfl⟩, hW, hsame.mono (by decide) (by decide)⟩
  · show Steps p.tables e below (s₁.setTop (mkF m 0 #[rv o0, iv t1, rv a_ONE, .unset, .unset] [])) _
    refine XS.aloadN X0.here hx rfl (hb hby d5_0) rfl rfl ?_
    refine st1 _ ?_
    refine XS.iconst X1.here hx rfl (hb hby d5_4) ?_
    refine XS.aloadN X1.here hx rfl (hb hby d5_5) rfl rfl ?_
    show Steps p.tables e below (T1.setTop (mkF m 6 #[rv o0, iv t1, rv a_ONE, .unset, .unset] [(.ref o0), (.int 0), (.ref o1)])) _
    refine st2 _ ?_
    refine XS.iloadN X2.here hx rfl (hb hby d5_9) rfl ?_
    refine st3 _ ?_
    refine XS.istoreN X3.here hx rfl (hb hby d5_13) rfl (l' := #[rv o0, iv t1, rv a_ONE, iv (-2), .unset]) rfl ?_
    show Steps p.tables e below (T3.setTop (mkF m 14 #[rv o0, iv t1, rv a_ONE, iv (-2), .unset] [])) _
    refine XS.iloadN X3.here hx rfl (hb hby d5_14) rfl ?_
    refine XS.ifYes X3.here hx rfl (pc0 := 15) (pc' := 35) rfl (hb hby d5_15) rfl (by decide) (by decide) (by decide) ?_
    refine XS.iloadN X3.here hx rfl (hb hby d5_35) rfl ?_
    refine XS.ineg X3.here hx rfl (hb hby d5_36) rfl ?_
    show Steps p.tables e below (T3.setTop (mkF m 37 #[rv o0, iv t1, rv a_ONE, iv (-2), .unset] [(.int (-(-2 : Int32)))])) _
    rw [(by decide : (-(-2 : Int32)) = (2 : Int32))]
    refine XS.iconst X3.here hx rfl (hb hby d5_37) ?_
    refine XS.isub X3.here hx rfl (hb hby d5_38) rfl ?_
    show Steps p.tables e below (T3.setTop (mkF m 39 #[rv o0, iv t1, rv a_ONE, iv (-2), .unset] [(.int ((2 : Int32) - (1 : Int32)))])) _
    rw [(by decide : ((2 : Int32) - (1 : Int32)) = (1 : Int32))]
    refine XS.istore X3.here hx rfl (hb hby d5_39) rfl (l' := #[rv o0, iv t1, rv a_ONE, iv (-2), iv 1]) rfl ?_
    refine XS.aloadN X3.here hx rfl (hb hby d5_41) rfl rfl ?_
    refine st4 _ ?_
    show Steps p.tables e below (T4.setTop (mkF m 45 #[rv o0, iv t1, rv a_ONE, iv (-2), iv 1] [(.int 1)])) _
    refine XS.aloadN X4.here hx rfl (hb hby d5_45) rfl rfl ?_
    refine st5 _ ?_
    refine X5.arraylength hx (by rw [e5]; exact r6.1) (State.isArrayOf_alike hZ.alike r6.2.1) (g := (mkF m 49 #[rv o0, iv t1, rv a_ONE, iv (-2), iv 1] [(.ref o1), (.int 1)])) rfl rfl (hb hby d5_49) _ ?_
    rw [len_of S6 M6]
    show Steps p.tables e below (T5.setTop (mkF m 50 #[rv o0, iv t1, rv a_ONE, iv (-2), iv 1] [(.int 4), (.int 1)])) _
    refine XS.icmpYes X5.here hx rfl (pc0 := 50) (pc' := 90) rfl (hb hby d5_50) rfl (by decide) (by decide) (by decide) ?_
    refine XS.aloadN X5.here hx rfl (hb hby d5_90) rfl rfl ?_
    refine st7 _ ?_
    refine XS.iload X7.here hx rfl (hb hby d5_94) rfl ?_
    show Steps p.tables e below (T7.setTop (mkF m 96 #[rv o0, iv t1, rv a_ONE, iv (-2), iv 1] [(.int 1), (.ref o1)])) _
    refine XS.aloadN X7.here hx rfl (hb hby d5_96) rfl rfl ?_
    refine st8 _ ?_
    refine XS.iload X8.here hx rfl (hb hby d5_100) rfl ?_
    refine XS.iconst X8.here hx rfl (hb hby d5_102) ?_
    show Steps p.tables e below (T8.setTop (mkF m 103 #[rv o0, iv t1, rv a_ONE, iv (-2), iv 1] [(.int 1), (.int 1), (.ref o1), (.int 1), (.ref o1)])) _
    refine XS.iadd X8.here hx rfl (hb hby d5_103) rfl ?_
    show Steps p.tables e below (T8.setTop (mkF m 104 #[rv o0, iv t1, rv a_ONE, iv (-2), iv 1] [(.int ((1 : Int32) + (1 : Int32))), (.ref o1), (.int 1), (.ref o1)])) _
    rw [(by decide : ((1 : Int32) + (1 : Int32)) = (2 : Int32))]
    refine XS.aloadN X8.here hx rfl (hb hby d5_104) rfl rfl ?_
    refine st9 _ ?_
    refine XS.iload X9.here hx rfl (hb hby d5_108) rfl ?_
    show Steps p.tables e below (T9.setTop (mkF m 110 #[rv o0, iv t1, rv a_ONE, iv (-2), iv 1] [(.int 1), (.int 1), (.int 2), (.ref o1), (.int 1), (.ref o1)])) _
    refine XS.isub X9.here hx rfl (hb hby d5_110) rfl ?_
    show Steps p.tables e below (T9.setTop (mkF m 111 #[rv o0, iv t1, rv a_ONE, iv (-2), iv 1] [(.int ((1 : Int32) - (1 : Int32))), (.int 2), (.ref o1), (.int 1), (.ref o1)])) _
    rw [(by decide : ((1 : Int32) - (1 : Int32)) = (0 : Int32))]
    refine st10 _ ?_
    refine XS.aloadN X10.here hx rfl (hb hby d5_114) rfl rfl ?_
    refine st13 _ ?_
    show Steps p.tables e below (T13.setTop (mkF m 118 #[rv o0, iv t1, rv a_ONE, iv (-2), iv 1] [(.ref o2)])) _
    refine XS.iload X13.here hx rfl (hb hby d5_118) rfl ?_
    refine XS.aloadN X13.here hx rfl (hb hby d5_120) rfl rfl ?_
    refine st14 _ ?_
    refine XS.iload X14.here hx rfl (hb hby d5_124) rfl ?_
    show Steps p.tables e below (T14.setTop (mkF m 126 #[rv o0, iv t1, rv a_ONE, iv (-2), iv 1] [(.int 1), (.ref o2), (.int 1), (.ref o2)])) _
    refine XS.iconst X14.here hx rfl (hb hby d5_126) ?_
    refine XS.iadd X14.here hx rfl (hb hby d5_127) rfl ?_
    show Steps p.tables e below (T14.setTop (mkF m 128 #[rv o0, iv t1, rv a_ONE, iv (-2), iv 1] [(.int ((1 : Int32) + (1 : Int32))), (.ref o2), (.int 1), (.ref o2)])) _
    rw [(by decide : ((1 : Int32) + (1 : Int32)) = (2 : Int32))]
    refine XS.aloadN X14.here hx rfl (hb hby d5_128) rfl rfl ?_
    refine st16 _ ?_
    refine XS.iload X16.here hx rfl (hb hby d5_132) rfl ?_
    show Steps p.tables e below (T16.setTop (mkF m 134 #[rv o0, iv t1, rv a_ONE, iv (-2), iv 1] [(.int 1), (.int 1), (.int 2), (.ref o2), (.int 1), (.ref o2)])) _
    refine XS.isub X16.here hx rfl (hb hby d5_134) rfl ?_
    show Steps p.tables e below (T16.setTop (mkF m 135 #[rv o0, iv t1, rv a_ONE, iv (-2), iv 1] [(.int ((1 : Int32) - (1 : Int32))), (.int 2), (.ref o2), (.int 1), (.ref o2)])) _
    rw [(by decide : ((1 : Int32) - (1 : Int32)) = (0 : Int32))]
    refine st19 _ ?_
    refine XS.aloadN X19.here hx rfl (hb hby d5_138) rfl rfl ?_
    refine st22 _ ?_
    show Steps p.tables e below (T22.setTop (mkF m 142 #[rv o0, iv t1, rv a_ONE, iv (-2), iv 1] [(.ref o1)])) _
    refine XS.iload X22.here hx rfl (hb hby d5_142) rfl ?_
    refine XS.iloadN X22.here hx rfl (hb hby d5_144) rfl ?_
    refine st26 _ ?_
    refine XS.aloadN X26.here hx rfl (hb hby d5_146) rfl rfl ?_
    show Steps p.tables e below (T26.setTop (mkF m 147 #[rv o0, iv t1, rv a_ONE, iv (-2), iv 1] [(.ref o0)])) _
    refine st29 _ ?_
    refine XS.iload X29.here hx rfl (hb hby d5_150) rfl ?_
    refine XS.aloadN X29.here hx rfl (hb hby d5_152) rfl rfl ?_
    refine st33 _ ?_
    show Steps p.tables e below (T33.setTop (mkF m 154 #[rv o0, iv t1, rv a_ONE, iv (-2), iv 1] [])) _
    refine XS.aloadN X33.here hx rfl (hb hby d5_154) rfl rfl ?_
    refine XS.dup X33.here hx rfl (hb hby d5_155) rfl rfl ?_
    refine st36 _ ?_
    refine XS.iconst X36.here hx rfl (hb hby d5_159) ?_
    show Steps p.tables e below (T36.setTop (mkF m 160 #[rv o0, iv t1, rv a_ONE, iv (-2), iv 1] [(.int 1), (.int 1), (.ref o0)])) _
    refine XS.iadd X36.here hx rfl (hb hby d5_160) rfl ?_
    show Steps p.tables e below (T36.setTop (mkF m 161 #[rv o0, iv t1, rv a_ONE, iv (-2), iv 1] [(.int ((1 : Int32) + (1 : Int32))), (.ref o0)])) _
    rw [(by decide : ((1 : Int32) + (1 : Int32)) = (2 : Int32))]
    refine st38 _ ?_
    exact X38.returnOut hx Bd.returns (hb hby d5_164) hr
  · show Q5_9 Z a_ONE a_ZTT e_2 e_3 t0 t1 t2 t3 t4 o0 o1 o2 j0 j1 h0 n0 _ T38.heap _
    rw [e38]
    exact ⟨rfl, N38, KK38, F40, F41, F42, f5, F43, F44, F39, F45, F46⟩
set_option maxRecDepth 65536 in
set_option maxHeartbeats 40000000 in
theorem sg_30 {p : Program} {l : Launch} {e : Env} {s : State} {m : MethodId} {args : Array Value} {below : List Frame} {meth : Method} {c : Code} {T0 : State} {locs : List Loc} {Z : State} {a0 : Array Value} {h0 : Heap} {n0 : Nat} (hw : ∀ d ∈ tables_1, d.before a0 Z = true) (a_ONE : Addr) (a_ZTT : Addr) (e_2 : Addr) (e_3 : Addr) (t0 : Int32) (t1 : Int32) (t2 : Int32) (t3 : Int32) (t4 : Int32) (t5 : Int32) (t6 : Int32) (t7 : Int32) (o0 : Addr) (o1 : Addr) (o2 : Addr) (j0 : ClassId) (j1 : ClassId) (FF : Facts Z Z.heap a_ONE a_ZTT e_2 e_3)
    (X0 : Stand p l e room_1 s m args below meth c T0 locs 3 11) (hx : p.tables.exec = Jvm.exec) (hZ : Z.Warmed39 s.vm) (hby : c.code = code) (hml : c.maxLocals = 8) (hown : s.vm.findClass "com/example/deferra/deferra/crediting/DailyAmountsIsEmptyPinLaw" = some m.cls) (e0 : T0.heap = h0) (N0 : Fr n0 locs) (OO : Old Z n0 h0) (f0 : Fld Z h0 o0 "com/example/deferra/deferra/crediting/DailyAmounts" "days" "[I" (.ref o1)) (f1 : Fld Z h0 o0 "com/example/deferra/deferra/crediting/DailyAmounts" "size" "I" (.int 1)) (f2 : Arv Z h0 o1 j0 .int (4 : Int32) [(.int t0), (.int t2), (.int t3), (.int t4)] (.int 0)) (f3 : Fld Z h0 o0 "com/example/deferra/deferra/crediting/DailyAmounts" "amounts" "[Ljava/math/BigDecimal;" (.ref o2)) (f4 : Arv Z h0 o2 j1 (.object "java/math/BigDecimal") (4 : Int32) [(.ref e_2), .null, .null, .null] .null) (f5 : Ovr Z j1 "java/math/BigDecimal") (f6 : Exa Z h0 o0 "com/example/deferra/deferra/crediting/DailyAmounts") (f7 : Exa Z h0 o1 "[I") (f8 : Exa Z h0 o2 "[Ljava/math/BigDecimal;") (u0 : n0 ≤ o1) (v0 : o0 ≠ o1) (v1 : o2 ≠ o1) (u1 : n0 ≤ o2) (v2 : o0 ≠ o2) (u2 : n0 ≤ o0) (hq0 : t0 < t1) :
    ∃ (T' : State) (h' : Heap) (lc : List Loc), Stand p l e room_1 s m args below meth c T' lc 3 11 ∧ T'.heap = h' ∧ Fr n0 lc ∧ Keep h0 h' [o0, o2, o1] ∧ Fld Z h' o0 "com/example/deferra/deferra/crediting/DailyAmounts" "days" "[I" (.ref o1) ∧ Fld Z h' o0 "com/example/deferra/deferra/crediting/DailyAmounts" "size" "I" (.int 2) ∧ Fld Z h' o0 "com/example/deferra/deferra/crediting/DailyAmounts" "amounts" "[Ljava/math/BigDecimal;" (.ref o2) ∧ Exa Z h' o0 "com/example/deferra/deferra/crediting/DailyAmounts" ∧ Arv Z h' o2 j1 (.object "java/math/BigDecimal") (4 : Int32) [(.ref e_2), (.ref a_ONE), .null, .null] .null ∧ Ovr Z j1 "java/math/BigDecimal" ∧ Exa Z h' o2 "[Ljava/math/BigDecimal;" ∧ Arv Z h' o1 j0 .int (4 : Int32) [(.int t0), (.int t1), (.int t3), (.int t4)] (.int 0) ∧ Exa Z h' o1 "[I" ∧
      ∀ target, Steps p.tables e below (T'.setTop (mkF m 142 #[iv t5, iv t6, iv t7, iv t1, iv 3, rv o0, iv 1, .unset] [])) target → Steps p.tables e below (T0.setTop (mkF m 107 #[iv t5, iv t6, iv t7, iv t1, iv 3, rv o0, iv 1, .unset] [])) target := by
  obtain ⟨T1, X1, e1, st1⟩ := getS2 X0 hx hZ hown (host := "") (Or.inl (w_28 hw)) Via.refl e0 (Sta.ext OO.2 (fx_S_ONE FF)) (g := (mkF m 116 #[iv t5, iv t6, iv t7, iv t1, iv 3, rv o0, iv 1, .unset] [(.int t1), (.ref o0)])) rfl (hb hby at_116)
  obtain ⟨cq2, kq2, q2a, q2b, q2c⟩ := isOf hZ e1 f6
  obtain ⟨_, _, ⟨T2, L2, k2, n2⟩, -, X2, ⟨Lc2, hQ2, l2, y2, z2⟩, st2⟩ := X1.virtualBack hx (y := (⟨"com/example/deferra/deferra/crediting/DailyAmounts", "add", "(ILjava/math/BigDecimal;)V"⟩ : MethodName)) (z := (⟨"com/example/deferra/deferra/crediting/DailyAmounts", "add", "(ILjava/math/BigDecimal;)V"⟩ : MethodName)) hown (mvT hZ (w_30 hw)) (mvT hZ (w_31 hw)) (notFace_of_selects (args := #[]) (mvT hZ (w_33 hw))) (mvT hZ (w_33 hw)) (mvT hZ (w_32 hw)) (by decide) (backOf (W := 0) (rm5_9 l Z a0 hw [] a_ONE a_ZTT e_2 e_3 t0 t1 t2 t3 t4 o0 o1 o2 j0 j1 h0 n0 FF OO f0 f1 f2 u0 f3 v0 f4 v1 u1 v2 f5 f6 u2 f7 f8 hq0) hZ (w_34 hw) (w_2 hw) (by decide) (by decide)) q2a q2c (g := (mkF m 119 #[iv t5, iv t6, iv t7, iv t1, iv 3, rv o0, iv 1, .unset] [(.ref a_ONE), (.int t1), (.ref o0)])) rfl (by rw [hml]; rfl) (Steps.refl _) (argsL := [(.int t1), (.ref a_ONE)]) (rest := []) (lenOf pd_5 rfl) rfl (by show 2 * 0 + _ ≤ _; exact Nat.le_of_eq rfl) (hb hby at_119) (fun _ _ => ⟨rfl, e1, (by decide : 3 + 0 ≤ _), (by decide : 11 + 0 ≤ _)⟩)
  dsimp only [Pt.U, Pt.locs, Pt.cells, Pt.slots] at X2 l2 y2 z2 st2 hQ2
  subst l2 y2 z2
  obtain ⟨h2, e2⟩ : ∃ z, T2.heap = z := ⟨_, rfl⟩
  rw [e2] at hQ2
  obtain ⟨rfl, N2q, K2, R2_0, R2_1, R2_2, R2_3, R2_4, R2_5, R2_6, R2_7, R2_8⟩ := hQ2
  have N2 := Fr.app N0 N2q
  have O2 := Old.keep OO K2 (allS u0 (allS u1 (allS u2 all0)))
  have KK2 : Keep h0 h2 [o0, o2, o1] := Keep.trans (Keep.refl h0 [o0, o2, o1]) K2 (allS (Or.inl (List.mem_of_getElem? (i := 2) rfl)) (allS (Or.inl (List.mem_of_getElem? (i := 1) rfl)) (allS (Or.inl (List.mem_of_getElem? (i := 0) rfl)) all0)))
  obtain ⟨cq3, kq3, q3a, q3b, q3c⟩ := isOf hZ e2 R2_8
  obtain ⟨_, _, ⟨T3, L3, k3, n3⟩, -, X3, ⟨Lc3, hQ3, l3, y3, z3⟩, st3⟩ := X2.virtualBack hx (y := (⟨"com/example/deferra/deferra/crediting/DailyAmounts", "isEmpty", "()Z"⟩ : MethodName)) (z := (⟨"com/example/deferra/deferra/crediting/DailyAmounts", "isEmpty", "()Z"⟩ : MethodName)) hown (mvT hZ (w_16 hw)) (mvT hZ (w_17 hw)) (notFace_of_selects (args := #[]) (mvT hZ (w_19 hw))) (mvT hZ (w_19 hw)) (mvT hZ (w_18 hw)) (by decide) (backOf (W := 0) (rm3_2 l Z a0 hw [] a_ONE a_ZTT e_2 e_3 o0 h2 n0 FF O2 R2_6) hZ (w_20 hw) (w_2 hw) (by decide) (by decide)) q3a q3c (g := (mkF m 129 #[iv t5, iv t6, iv t7, iv t1, iv 3, rv o0, iv 1, .unset] [(.ref o0)])) rfl (by rw [hml]; rfl) (Steps.refl _) (argsL := []) (rest := []) (lenOf pd_1 rfl) rfl (by show 2 * 0 + _ ≤ _; exact Nat.le_of_eq rfl) (hb hby at_129) (fun _ _ => ⟨rfl, e2, (by decide : 3 + 0 ≤ _), (by decide : 11 + 0 ≤ _)⟩)
  dsimp only [Pt.U, Pt.locs, Pt.cells, Pt.slots] at X3 l3 y3 z3 st3 hQ3
  subst l3 y3 z3
  obtain ⟨rfl, N3q, e3⟩ := hQ3
  have N3 := Fr.app N2 N3q
  refine ⟨T3, h2, _, X3, e3, N3, KK2, R2_5, R2_6, R2_7, R2_8, R2_2, R2_3, R2_4, R2_0, R2_1, fun target kt => ?_⟩
  show Steps p.tables e below (T0.setTop (mkF m 107 #[iv t5, iv t6, iv t7, iv t1, iv 3, rv o0, iv 1, .unset] [])) _
  refine XS.iload X0.here hx rfl (hb hby at_107) rfl ?_
  refine XS.iconst X0.here hx rfl (hb hby at_109) ?_
  refine XS.icmpNo X0.here hx rfl (hb hby at_110) rfl (by decide) ?_
  refine XS.aload X0.here hx rfl (hb hby at_113) rfl rfl ?_
  show Steps p.tables e below (T0.setTop (mkF m 115 #[iv t5, iv t6, iv t7, iv t1, iv 3, rv o0, iv 1, .unset] [(.ref o0)])) _
  refine XS.iloadN X0.here hx rfl (hb hby at_115) rfl ?_
  refine st1 _ ?_
  refine st2.trans ?_
  refine XS.iload X2.here hx rfl (hb hby at_122) rfl ?_
  show Steps p.tables e below (T2.setTop (mkF m 124 #[iv t5, iv t6, iv t7, iv t1, iv 3, rv o0, iv 1, .unset] [(.int 1)])) _
  refine XS.ifNo X2.here hx rfl (hb hby at_124) rfl (by decide) ?_
  refine XS.aload X2.here hx rfl (hb hby at_127) rfl rfl ?_
  refine st3.trans ?_
  refine XS.ifNo X3.here hx rfl (hb hby at_132) rfl (by decide) ?_
  show Steps p.tables e below (T3.setTop (mkF m 135 #[iv t5, iv t6, iv t7, iv t1, iv 3, rv o0, iv 1, .unset] [])) _
  refine XS.iconst X3.here hx rfl (hb hby at_135) ?_
  refine XS.goto X3.here hx rfl (pc0 := 136) (pc' := 140) rfl (hb hby at_136) (by decide) (by decide) ?_
  refine XS.istore X3.here hx rfl (hb hby at_140) rfl (l' := #[iv t5, iv t6, iv t7, iv t1, iv 3, rv o0, iv 1, .unset]) rfl ?_
  exact kt
set_option maxRecDepth 65536 in
set_option maxHeartbeats 40000000 in
theorem rm0_15 (l : Launch) (Z : State) (a0 : Array Value) (hw : ∀ d ∈ tables_1, d.before a0 Z = true) (ws : List Jvm.Cond) (a_ONE : Addr) (a_ZTT : Addr) (e_2 : Addr) (e_3 : Addr) (p0 : Int32) (p1 : Int32) (p2 : Int32) (p3 : Int32) (h0 : Heap) (n0 : Nat) (FF : Facts Z Z.heap a_ONE a_ZTT e_2 e_3) (OO : Old Z n0 h0) (hk0 : (p0 &&& (3 : Int32)) = (3 : Int32)) (hd0 : ¬ (p1 < p2)) (hd1 : ¬ (p2 < p1)) (hd2 : p1 < p3) :
    MetFree l x (head1 (Jvm.Cond.code x code maxLocals ret :: ws) room_1) (fun a U => a = #[(.int p0), (.int p1), (.int p2), (.int p3)] ∧ Z.Warmed39 U.vm ∧ U.heap = h0) (fun _ _ _ _ _ => True) (fun _ U o U' => ∃ v L, o = .returned v ∧ (v = some (.int (1 : Int32)) ∧ Fr n0 L) ∧ FrameEnd U o U' L room_1.cells room_1.slots) := by
  refine MetFree.of_bodySF (plainFor_of_name pn_0) hisR ?_
  intro p e s m args below meth c s₁ Bd hml0 hP hK
  obtain ⟨rfl, hZ, hh⟩ := hP
  have hx := Bd.exec
  have hby := Bd.bytes
  have hml : c.maxLocals = 8 := hml0
  have hown : s.vm.findClass "com/example/deferra/deferra/crediting/DailyAmountsIsEmptyPinLaw" = some m.cls := findClass_of_methodNamed Bd.named
  have X0 : Stand p l e room_1 s m #[(.int p0), (.int p1), (.int p2), (.int p3)] below meth c s₁ [] 0 0 := Stand.of_body Bd
  have e0 : s₁.heap = h0 := by rw [← hh, Bd.state]; rfl
  have N0 := Fr.nil n0
  have pre0 : ∀ t, Steps p.tables e below (s₁.setTop (mkF m 0 #[iv p0, iv p1, iv p2, iv p3, .unset, .unset, .unset, .unset] [])) t → Steps p.tables e below (s₁.setTop (entryFrame m #[(.int p0), (.int p1), (.int p2), (.int p3)] maxLocals)) t := fun t k => castTop (ef_0 m p0 p1 p2 p3) k
  obtain ⟨T1, h1, lc1, b1, b2, b3, kb2, kb3, X1, e1, N1, K1, sp1_b1, sp1_b2, sp1_b3, ne1_b1_b2, ne1_b1_b3, ne1_b2_b3, R1_0, R1_1, R1_2, R1_3, R1_4, R1_5, R1_6, R1_7, R1_8, st1⟩ := sg_18 hw a_ONE a_ZTT e_2 e_3 p0 p1 p2 p3 FF X0 hx hZ hby hml hown e0 N0 OO hk0
  have g2 : n0 ≤ b1 := Nat.le_trans (own_le OO) sp1_b1
  have g3 : n0 ≤ b2 := Nat.le_trans (own_le OO) sp1_b2
  have g4 : n0 ≤ b3 := Nat.le_trans (own_le OO) sp1_b3
  have O1 := Old.keep OO K1 all0
  obtain ⟨T5, h5, lc5, X5, e5, N5, K5, R5_0, R5_1, R5_2, R5_3, R5_4, R5_5, R5_6, R5_7, R5_8, st5⟩ := sg_19 hw a_ONE a_ZTT e_2 e_3 (0 : Int32) (0 : Int32) (0 : Int32) (0 : Int32) p1 p0 p2 p3 b1 b2 b3 kb2 kb3 FF X1 hx hZ hby hml hown e1 N1 O1 R1_1 R1_3 R1_5 R1_2 R1_7 R1_8 R1_0 R1_4 R1_6 g3 ne1_b1_b2 (Ne.symm ne1_b2_b3) g4 ne1_b1_b3 g2
  have O5 := Old.keep O1 K5 (allS g2 (allS g4 (allS g3 all0)))
  obtain ⟨T6, h6, lc6, X6, e6, N6, K6, R6_0, R6_1, R6_2, st6⟩ := sg_29 hw a_ONE a_ZTT e_2 e_3 p1 p2 (0 : Int32) (0 : Int32) (0 : Int32) p0 p1 p3 b1 b2 b3 kb2 kb3 FF X5 hx hZ hby hml hown e5 N5 O5 R5_0 R5_1 R5_7 R5_2 R5_4 R5_5 R5_6 g4 R5_3 ne1_b1_b3 hd0 hd1
  have O6 := Old.keep O5 K6 (allS g4 all0)
  have F8 : Fld Z h6 b1 "com/example/deferra/deferra/crediting/DailyAmounts" "days" "[I" (.ref b2) := (Fld.keep R5_0 K6 (ninS ne1_b1_b3 nin0))
  have F9 : Fld Z h6 b1 "com/example/deferra/deferra/crediting/DailyAmounts" "size" "I" (.int 1) := (Fld.keep R5_1 K6 (ninS ne1_b1_b3 nin0))
  have F10 : Arv Z h6 b2 kb2 .int (4 : Int32) [(.int p1), (.int 0), (.int 0), (.int 0)] (.int 0) := (Arv.keep R5_7 K6 (ninS ne1_b2_b3 nin0))
  have F11 : Fld Z h6 b1 "com/example/deferra/deferra/crediting/DailyAmounts" "amounts" "[Ljava/math/BigDecimal;" (.ref b3) := (Fld.keep R5_2 K6 (ninS ne1_b1_b3 nin0))
  have F12 : Exa Z h6 b1 "com/example/deferra/deferra/crediting/DailyAmounts" := (Exa.keep R5_3 K6)
  have F13 : Exa Z h6 b2 "[I" := (Exa.keep R5_8 K6)
  obtain ⟨T7, h7, lc7, X7, e7, N7, K7, R7_0, R7_1, R7_2, R7_3, R7_4, R7_5, R7_6, R7_7, R7_8, st7⟩ := sg_30 hw a_ONE a_ZTT e_2 e_3 p1 p3 (0 : Int32) (0 : Int32) (0 : Int32) p0 p1 p2 b1 b2 b3 kb2 kb3 FF X6 hx hZ hby hml hown e6 N6 O6 F8 F9 F10 F11 R6_0 R6_1 F12 F13 R6_2 g3 ne1_b1_b2 (Ne.symm ne1_b2_b3) g4 ne1_b1_b3 g2 hd2
  have O7 := Old.keep O6 K7 (allS g2 (allS g4 (allS g3 all0)))
  obtain ⟨T14, h14, lc14, X14, e14, N14, K14, st14⟩ := sg_25 hw a_ONE a_ZTT e_2 e_3 p0 p1 p2 p3 b1 FF X7 hx hZ hby hml hown e7 N7 O7 R7_1 R7_3
  have O14 := Old.keep O7 K14 all0
  obtain ⟨fs, hr, hrun, hended, hW, hsame⟩ := X14.leave (v := some (.int 1)) (fun h => by rw [Bd.returns] at h; cases h)
  refine ⟨_, _, pre0 _ ?_, hrun, hended, _, _, rfl, ?_, ⟨_, rfl⟩, hW, hsame.mono (by decide) (by decide)⟩
  · show Steps p.tables e below (s₁.setTop (mkF m 0 #[iv p0, iv p1, iv p2, iv p3, .unset, .unset, .unset, .unset] [])) _
    refine st1 _ ?_
    show Steps p.tables e below (T1.setTop (mkF m 37 #[iv p0, iv p1, iv p2, iv p3, iv 3, rv b1, iv 1, .unset] [])) _
    refine st5 _ ?_
    show Steps p.tables e below (T5.setTop (mkF m 72 #[iv p0, iv p1, iv p2, iv p3, iv 3, rv b1, iv 1, .unset] [])) _
    refine st6 _ ?_
    show Steps p.tables e below (T6.setTop (mkF m 107 #[iv p0, iv p1, iv p2, iv p3, iv 3, rv b1, iv 1, .unset] [])) _
    refine st7 _ ?_
    show Steps p.tables e below (T7.setTop (mkF m 142 #[iv p0, iv p1, iv p2, iv p3, iv 3, rv b1, iv 1, .unset] [])) _
    refine st14 _ ?_
    exact retN X14 hx (t := .boolean) Bd.returns (by simp) (hb hby at_192) hr
  · exact ⟨rfl, N14⟩
def Q5_10 (Z : State) (a_ONE : Addr) (a_ZTT : Addr) (e_2 : Addr) (e_3 : Addr) (t0 : Int32) (t1 : Int32) (t2 : Int32) (t3 : Int32) (t4 : Int32) (o0 : Addr) (o1 : Addr) (o2 : Addr) (j0 : ClassId) (j1 : ClassId) (h0 : Heap) (n0 : Nat) (v : Option Value) (h : Heap) (L : List Loc) : Prop := v = none ∧ Fr n0 L ∧ Keep h0 h [o1, o2, o0] ∧ Arv Z h o1 j0 .int (4 : Int32) [(.int t1), (.int t0), (.int t3), (.int t4)] (.int 0) ∧ Exa Z h o1 "[I" ∧ Arv Z h o2 j1 (.object "java/math/BigDecimal") (4 : Int32) [(.ref a_ONE), (.ref e_2), .null, .null] .null ∧ Ovr Z j1 "java/math/BigDecimal" ∧ Exa Z h o2 "[Ljava/math/BigDecimal;" ∧ Fld Z h o0 "com/example/deferra/deferra/crediting/DailyAmounts" "days" "[I" (.ref o1) ∧ Fld Z h o0 "com/example/deferra/deferra/crediting/DailyAmounts" "size" "I" (.int 2) ∧ Fld Z h o0 "com/example/deferra/deferra/crediting/DailyAmounts" "amounts" "[Ljava/math/BigDecimal;" (.ref o2) ∧ Exa Z h o0 "com/example/deferra/deferra/crediting/DailyAmounts"
set_option maxRecDepth 65536 in
set_option maxHeartbeats 40000000 in
theorem rm5_10 (l : Launch) (Z : State) (a0 : Array Value) (hw : ∀ d ∈ tables_1, d.before a0 Z = true) (ws : List Jvm.Cond) (a_ONE : Addr) (a_ZTT : Addr) (e_2 : Addr) (e_3 : Addr) (t0 : Int32) (t1 : Int32) (t2 : Int32) (t3 : Int32) (t4 : Int32) (o0 : Addr) (o1 : Addr) (o2 : Addr) (j0 : ClassId) (j1 : ClassId) (h0 : Heap) (n0 : Nat) (FF : Facts Z Z.heap a_ONE a_ZTT e_2 e_3) (OO : Old Z n0 h0) (f0 : Fld Z h0 o0 "com/example/deferra/deferra/crediting/DailyAmounts" "days" "[I" (.ref o1)) (f1 : Fld Z h0 o0 "com/example/deferra/deferra/crediting/DailyAmounts" "size" "I" (.int 1)) (f2 : Arv Z h0 o1 j0 .int (4 : Int32) [(.int t0), (.int t2), (.int t3), (.int t4)] (.int 0)) (u0 : n0 ≤ o1) (f3 : Fld Z h0 o0 "com/example/deferra/deferra/crediting/DailyAmounts" "amounts" "[Ljava/math/BigDecimal;" (.ref o2)) (v0 : o0 ≠ o1) (f4 : Arv Z h0 o2 j1 (.object "java/math/BigDecimal") (4 : Int32) [(.ref e_2), .null, .null, .null] .null) (v1 : o2 ≠ o1) (f5 : Ovr Z j1 "java/math/BigDecimal") (u1 : n0 ≤ o2) (v2 : o0 ≠ o2) (f6 : Exa Z h0 o0 "com/example/deferra/deferra/crediting/DailyAmounts") (u2 : n0 ≤ o0) (f7 : Exa Z h0 o1 "[I") (f8 : Exa Z h0 o2 "[Ljava/math/BigDecimal;") (hq0 : ¬ (t0 < t1)) (hq1 : t1 < t0) :
    MetFree l (⟨"com/example/deferra/deferra/crediting/DailyAmounts", "add", "(ILjava/math/BigDecimal;)V"⟩ : MethodName) (head1 (Jvm.Cond.code (⟨"com/example/deferra/deferra/crediting/DailyAmounts", "add", "(ILjava/math/BigDecimal;)V"⟩ : MethodName) prog_24_method_2_code 5 none :: ws) ({ frames := 2, cells := 0, slots := 0, locals := 34 } : Room)) (fun a U => a = #[(.ref o0), (.int t1), (.ref a_ONE)] ∧ Z.Warmed39 U.vm ∧ U.heap = h0) (fun _ _ _ _ _ => True) (fun _ U o U' => ∃ v L, o = .returned v ∧ Q5_10 Z a_ONE a_ZTT e_2 e_3 t0 t1 t2 t3 t4 o0 o1 o2 j0 j1 h0 n0 v U'.heap L ∧ FrameEnd U o U' L ({ frames := 2, cells := 0, slots := 0, locals := 34 } : Room).cells ({ frames := 2, cells := 0, slots := 0, locals := 34 } : Room).slots) := by
  refine MetFree.of_bodySF (plainFor_of_name pn_5) hisR ?_
  intro p e s m args below meth c s₁ Bd hml0 hP hK
  obtain ⟨rfl, hZ, hh⟩ := hP
  have hx := Bd.exec
  have hby := Bd.bytes
  have hml : c.maxLocals = 5 := hml0
  have hown : s.vm.findClass "com/example/deferra/deferra/crediting/DailyAmounts" = some m.cls := findClass_of_methodNamed Bd.named
  have X0 : Stand p l e ({ frames := 2, cells := 0, slots := 0, locals := 34 } : Room) s m #[(.ref o0), (.int t1), (.ref a_ONE)] below meth c s₁ [] 0 0 := Stand.of_body Bd
  have e0 : s₁.heap = h0 := by rw [← hh, Bd.state]; rfl
  have N0 := Fr.nil n0
  have pre0 : ∀ t, Steps p.tables e below (s₁.setTop (mkF m 0 #[rv o0, iv t1, rv a_ONE, .unset, .unset] [])) t → Steps p.tables e below (s₁.setTop (entryFrame m #[(.ref o0), (.int t1), (.ref a_ONE)] 5)) t := fun t k => castTop (ef_5 m o0 t1 a_ONE) k
  obtain ⟨T1, X1, e1, st1⟩ := getF X0 hx hZ hown (host := "") (Or.inl (w_10 hw)) Via.refl e0 f0 (g := (mkF m 1 #[rv o0, iv t1, rv a_ONE, .unset, .unset] [(.ref o0)])) rfl rfl (hb hby d5_1)
  obtain ⟨T2, X2, e2, st2⟩ := getF X1 hx hZ hown (host := "") (Or.inl (w_21 hw)) Via.refl e1 f1 (g := (mkF m 6 #[rv o0, iv t1, rv a_ONE, .unset, .unset] [(.ref o0), (.int 0), (.ref o1)])) rfl rfl (hb hby d5_6)
  obtain ⟨_, _, ⟨T3, L3, k3, n3⟩, -, X3, ⟨Lc3, hQ3, l3, y3, z3⟩, st3⟩ := Jvm.LawKit.callS X2 hx (y := (⟨"java/util/Arrays", "binarySearch", "([IIII)I"⟩ : MethodName)) hown (mvT hZ (w_35 hw)) (mvT hZ (w_36 hw)) (mvT hZ (w_37 hw)) (mvT hZ (w_38 hw)) (by decide) (backOf (W := 0) (rm6_2 l Z a0 hw [] a_ONE a_ZTT e_2 e_3 t0 t1 t2 t3 t4 o1 j0 h0 n0 FF OO f2 hq0 hq1) hZ (w_38 hw) (w_37 hw) (by decide) (by decide)) (g := (mkF m 10 #[rv o0, iv t1, rv a_ONE, .unset, .unset] [(.int t1), (.int 1), (.int 0), (.ref o1)])) rfl (by rw [hml]; rfl) (argsL := [(.ref o1), (.int 0), (.int 1), (.int t1)]) (rest := []) (lenOf pd_4 rfl) rfl (by show 2 * 0 + _ ≤ _; exact Nat.le_of_eq rfl) (hb hby d5_10) (fun _ _ => ⟨rfl, e2, (by decide : 0 + 0 ≤ _), (by decide : 0 + 0 ≤ _)⟩)
  dsimp only [Pt.U, Pt.locs, Pt.cells, Pt.slots] at X3 l3 y3 z3 st3 hQ3
  subst l3 y3 z3
  obtain ⟨rfl, N3q, e3⟩ := hQ3
  have N3 := Fr.app N0 N3q
  obtain ⟨T4, X4, e4, st4⟩ := getF X3 hx hZ hown (host := "") (Or.inl (w_21 hw)) Via.refl e3 f1 (g := (mkF m 42 #[rv o0, iv t1, rv a_ONE, iv (-1), iv 0] [(.ref o0)])) rfl rfl (hb hby d5_42)
  obtain ⟨T5, X5, e5, st5⟩ := getF X4 hx hZ hown (host := "") (Or.inl (w_10 hw)) Via.refl e4 f0 (g := (mkF m 46 #[rv o0, iv t1, rv a_ONE, iv (-1), iv 0] [(.ref o0), (.int 1)])) rfl rfl (hb hby d5_46)
  obtain ⟨c6, r6, q6, S6, M6, H6, G6⟩ := id f2
  obtain ⟨T7, X7, e7, st7⟩ := getF X5 hx hZ hown (host := "") (Or.inl (w_10 hw)) Via.refl e5 f0 (g := (mkF m 91 #[rv o0, iv t1, rv a_ONE, iv (-1), iv 0] [(.ref o0)])) rfl rfl (hb hby d5_91)
  obtain ⟨T8, X8, e8, st8⟩ := getF X7 hx hZ hown (host := "") (Or.inl (w_10 hw)) Via.refl e7 f0 (g := (mkF m 97 #[rv o0, iv t1, rv a_ONE, iv (-1), iv 0] [(.ref o0), (.int 0), (.ref o1)])) rfl rfl (hb hby d5_97)
  obtain ⟨T9, X9, e9, st9⟩ := getF X8 hx hZ hown (host := "") (Or.inl (w_21 hw)) Via.refl e8 f1 (g := (mkF m 105 #[rv o0, iv t1, rv a_ONE, iv (-1), iv 0] [(.ref o0), (.int 1), (.ref o1), (.int 0), (.ref o1)])) rfl rfl (hb hby d5_105)
  obtain ⟨T10, h10, L10, X10, e10, N10, K10, V10, st10⟩ := cpA X9 hx hZ hown (w_45 hw) (w_48 hw) (w_46 hw) (w_47 hw) e9 f2 f2 (us := [(.int t0)]) (Or.inl ⟨rfl, rfl⟩) (by decide) (by decide) (by decide) (by decide) (by decide) rfl (Nat.le_of_ble_eq_true rfl) N3 u0 (g := (mkF m 111 #[rv o0, iv t1, rv a_ONE, iv (-1), iv 0] [(.int 1), (.int 1), (.ref o1), (.int 0), (.ref o1)])) rfl (by rw [hml]; rfl) (rest := []) rfl (hb hby d5_111) (by decide) (W := 0) (by show 2 * 0 + _ ≤ _; exact Nat.le_of_eq rfl) (by decide)
  have O10 := Old.keep OO K10 (allS u0 all0)
  have KK10 : Keep h0 h10 [o1, o2, o0] := Keep.trans (Keep.refl h0 [o1, o2, o0]) K10 (allS (Or.inl (List.mem_of_getElem? (i := 0) rfl)) all0)
  have F11 : Arv Z h10 o1 j0 .int (4 : Int32) [(.int t0), (.int t0), (.int t3), (.int t4)] (.int 0) := V10
  have F12 : Fld Z h10 o0 "com/example/deferra/deferra/crediting/DailyAmounts" "amounts" "[Ljava/math/BigDecimal;" (.ref o2) := (Fld.keep f3 K10 (ninS v0 nin0))
  obtain ⟨T13, X13, e13, st13⟩ := getF X10 hx hZ hown (host := "") (Or.inl (w_14 hw)) Via.refl e10 F12 (g := (mkF m 115 #[rv o0, iv t1, rv a_ONE, iv (-1), iv 0] [(.ref o0)])) rfl rfl (hb hby d5_115)
  obtain ⟨T14, X14, e14, st14⟩ := getF X13 hx hZ hown (host := "") (Or.inl (w_14 hw)) Via.refl e13 F12 (g := (mkF m 121 #[rv o0, iv t1, rv a_ONE, iv (-1), iv 0] [(.ref o0), (.int 0), (.ref o2)])) rfl rfl (hb hby d5_121)
  have F15 : Fld Z h10 o0 "com/example/deferra/deferra/crediting/DailyAmounts" "size" "I" (.int 1) := (Fld.keep f1 K10 (ninS v0 nin0))
  obtain ⟨T16, X16, e16, st16⟩ := getF X14 hx hZ hown (host := "") (Or.inl (w_21 hw)) Via.refl e14 F15 (g := (mkF m 129 #[rv o0, iv t1, rv a_ONE, iv (-1), iv 0] [(.ref o0), (.int 1), (.ref o2), (.int 0), (.ref o2)])) rfl rfl (hb hby d5_129)
  have F17 : Arv Z h10 o2 j1 (.object "java/math/BigDecimal") (4 : Int32) [(.ref e_2), .null, .null, .null] .null := (Arv.keep f4 K10 (ninS v1 nin0))
  obtain ⟨c18, r18, q18, S18, M18, H18, G18⟩ := id F17
  obtain ⟨T19, h19, L19, X19, e19, N19, K19, V19, st19⟩ := cpA X16 hx hZ hown (w_45 hw) (w_48 hw) (w_46 hw) (w_47 hw) e16 F17 F17 (us := [(.ref e_2)]) (Or.inr ⟨rfl, rfl, (⟨(Sto.ofV r18 q18 f5 (Ins.self (Exa.ext O10.2 (fx_E_e_2 FF)))), trivial⟩ : StoL Z h10 o2 [(.ref e_2)])⟩) (by decide) (by decide) (by decide) (by decide) (by decide) rfl (Nat.le_of_ble_eq_true rfl) N10 u1 (g := (mkF m 135 #[rv o0, iv t1, rv a_ONE, iv (-1), iv 0] [(.int 1), (.int 1), (.ref o2), (.int 0), (.ref o2)])) rfl (by rw [hml]; rfl) (rest := []) rfl (hb hby d5_135) (by decide) (W := 0) (by show 2 * 0 + _ ≤ _; exact Nat.le_of_eq rfl) (by decide)
  have O19 := Old.keep O10 K19 (allS u1 all0)
  have KK19 : Keep h0 h19 [o1, o2, o0] := Keep.trans KK10 K19 (allS (Or.inl (List.mem_of_getElem? (i := 1) rfl)) all0)
  have F20 : Arv Z h19 o2 j1 (.object "java/math/BigDecimal") (4 : Int32) [(.ref e_2), (.ref e_2), .null, .null] .null := V19
  have F21 : Fld Z h19 o0 "com/example/deferra/deferra/crediting/DailyAmounts" "days" "[I" (.ref o1) := (Fld.keep (Fld.keep f0 K10 (ninS v0 nin0)) K19 (ninS v2 nin0))
  obtain ⟨T22, X22, e22, st22⟩ := getF X19 hx hZ hown (host := "") (Or.inl (w_10 hw)) Via.refl e19 F21 (g := (mkF m 139 #[rv o0, iv t1, rv a_ONE, iv (-1), iv 0] [(.ref o0)])) rfl rfl (hb hby d5_139)
  have F24 : Arv Z h19 o1 j0 .int (4 : Int32) [(.int t0), (.int t0), (.int t3), (.int t4)] (.int 0) := (Arv.keep F11 K19 (ninS (Ne.symm v1) nin0))
  obtain ⟨c23, r23, q23, S23, M23, H23, G23⟩ := id F24
  have i25 : ¬ ((0 : Int32) < 0 ∨ c23.slots.size ≤ ((0 : Int32)).toNatClampNeg) := inb_of S23 ⟨by decide, by decide⟩
  obtain ⟨T26, h26, X26, e26, W26, st26⟩ := stI X22 hx hZ e22 r23 (j := (0 : Int32)) i25 (g := (mkF m 145 #[rv o0, iv t1, rv a_ONE, iv (-1), iv 0] [(.int t1), (.int 0), (.ref o1)])) rfl rfl (hb hby d5_145)
  have O26 := Old.wr O19 W26 u0
  have KK26 : Keep h0 h26 [o1, o2, o0] := Keep.wr KK19 W26 (Or.inl (List.mem_of_getElem? (i := 0) rfl))
  have N26 := Fr.snoc X26 N19 u0
  have F27 : Arv Z h26 o1 j0 .int (4 : Int32) [(.int t1), (.int t0), (.int t3), (.int t4)] (.int 0) := Arv.set r23 q23 S23 M23 H23 G23 rfl W26 0 rfl (Nat.le_of_ble_eq_true rfl)
  have F28 : Fld Z h26 o0 "com/example/deferra/deferra/crediting/DailyAmounts" "amounts" "[Ljava/math/BigDecimal;" (.ref o2) := (Fld.other W26 (Fld.keep F12 K19 (ninS v2 nin0)) (Or.inl v0))
  obtain ⟨T29, X29, e29, st29⟩ := getF X26 hx hZ hown (host := "") (Or.inl (w_14 hw)) Via.refl e26 F28 (g := (mkF m 147 #[rv o0, iv t1, rv a_ONE, iv (-1), iv 0] [(.ref o0)])) rfl rfl (hb hby d5_147)
  have F31 : Arv Z h26 o2 j1 (.object "java/math/BigDecimal") (4 : Int32) [(.ref e_2), (.ref e_2), .null, .null] .null := (Arv.other F20 W26 v1)
  obtain ⟨c30, r30, q30, S30, M30, H30, G30⟩ := id F31
  have i32 : ¬ ((0 : Int32) < 0 ∨ c30.slots.size ≤ ((0 : Int32)).toNatClampNeg) := inb_of S30 ⟨by decide, by decide⟩
  obtain ⟨T33, h33, X33, e33, W33, st33⟩ := stR X29 hx hZ e29 r30 (j := (0 : Int32)) i32 rfl (Sto.ofV r30 q30 f5 (Ins.self (Exa.ext O26.2 (fx_E_a_ONE FF)))) (g := (mkF m 153 #[rv o0, iv t1, rv a_ONE, iv (-1), iv 0] [(.ref a_ONE), (.int 0), (.ref o2)])) rfl rfl (hb hby d5_153)
  have O33 := Old.wr O26 W33 u1
  have KK33 : Keep h0 h33 [o1, o2, o0] := Keep.wr KK26 W33 (Or.inl (List.mem_of_getElem? (i := 1) rfl))
  have N33 := Fr.snoc X33 N26 u1
  have F34 : Arv Z h33 o2 j1 (.object "java/math/BigDecimal") (4 : Int32) [(.ref a_ONE), (.ref e_2), .null, .null] .null := Arv.set r30 q30 S30 M30 H30 G30 rfl W33 0 rfl (Nat.le_of_ble_eq_true rfl)
  have F35 : Fld Z h33 o0 "com/example/deferra/deferra/crediting/DailyAmounts" "size" "I" (.int 1) := (Fld.other W33 (Fld.other W26 (Fld.keep F15 K19 (ninS v2 nin0)) (Or.inl v0)) (Or.inl v2))
  obtain ⟨T36, X36, e36, st36⟩ := getF X33 hx hZ hown (host := "") (Or.inl (w_21 hw)) Via.refl e33 F35 (g := (mkF m 156 #[rv o0, iv t1, rv a_ONE, iv (-1), iv 0] [(.ref o0), (.ref o0)])) rfl rfl (hb hby d5_156)
  have F37 : Exa Z h33 o0 "com/example/deferra/deferra/crediting/DailyAmounts" := (Exa.wr W33 (Exa.wr W26 (Exa.keep (Exa.keep f6 K10) K19)))
  obtain ⟨T38, h38, X38, e38, W38, st38⟩ := putF X36 hx hZ hown (host := "") (Or.inl (w_21 hw)) Via.refl e36 F35 F37 (Or.inl (w_22 hw)) (w_1 hw) (ty := .int) (by decide) rfl rfl (g := (mkF m 161 #[rv o0, iv t1, rv a_ONE, iv (-1), iv 0] [(.int 2), (.ref o0)])) rfl rfl (hb hby d5_161)
  have O38 := Old.wr O33 W38 u2
  have KK38 : Keep h0 h38 [o1, o2, o0] := Keep.wr KK33 W38 (Or.inl (List.mem_of_getElem? (i := 2) rfl))
  have N38 := Fr.snoc X38 N33 u2
  have F39 : Fld Z h38 o0 "com/example/deferra/deferra/crediting/DailyAmounts" "size" "I" (.int 2) := Fld.same W38 F35
  have F40 : Arv Z h38 o1 j0 .int (4 : Int32) [(.int t1), (.int t0), (.int t3), (.int t4)] (.int 0) := (Arv.other (Arv.other F27 W33 (Ne.symm v1)) W38 (Ne.symm v0))
  have F41 : Exa Z h38 o1 "[I" := (Exa.wr W38 (Exa.wr W33 (Exa.wr W26 (Exa.keep (Exa.keep f7 K10) K19))))
  have F42 : Arv Z h38 o2 j1 (.object "java/math/BigDecimal") (4 : Int32) [(.ref a_ONE), (.ref e_2), .null, .null] .null := (Arv.other F34 W38 (Ne.symm v2))
  have F43 : Exa Z h38 o2 "[Ljava/math/BigDecimal;" := (Exa.wr W38 (Exa.wr W33 (Exa.wr W26 (Exa.keep (Exa.keep f8 K10) K19))))
  have F44 : Fld Z h38 o0 "com/example/deferra/deferra/crediting/DailyAmounts" "days" "[I" (.ref o1) := (Fld.other W38 (Fld.other W33 (Fld.other W26 F21 (Or.inl v0)) (Or.inl v2)) (Or.inr (slot_ne (Or.inl (w_11 hw)) (Or.inl (w_22 hw)) (by decide) (t := (.array .int)) (t' := .int) (by decide) (by decide))))
  have F45 : Fld Z h38 o0 "com/example/deferra/deferra/crediting/DailyAmounts" "amounts" "[Ljava/math/BigDecimal;" (.ref o2) := (Fld.other W38 (Fld.other W33 F28 (Or.inl v2)) (Or.inr (slot_ne (Or.inl (w_15 hw)) (Or.inl (w_22 hw)) (by decide) (t := (.array (.object "java/math/BigDecimal"))) (t' := .int) (by decide) (by decide))))
  have F46 : Exa Z h38 o0 "com/example/deferra/deferra/crediting/DailyAmounts" := (Exa.wr W38 F37)
  obtain ⟨fs, hr, hrun, hended, hW, hsame⟩ := X38.leave (v := none) (fun _ => rfl)
  refine ⟨_, _, pre0 _ ?_, hrun, hended, _, _, rfl, ?_, ⟨_, rfl⟩, hW, hsame.mono (by decide) (by decide)⟩
  · show Steps p.tables e below (s₁.setTop (mkF m 0 #[rv o0, iv t1, rv a_ONE, .unset, .unset] [])) _
    refine XS.aloadN X0.here hx rfl (hb hby d5_0) rfl rfl ?_
    refine st1 _ ?_
    refine XS.iconst X1.here hx rfl (hb hby d5_4) ?_
    refine XS.aloadN X1.here hx rfl (hb hby d5_5) rfl rfl ?_
    show Steps p.tables e below (T1.setTop (mkF m 6 #[rv o0, iv t1, rv a_ONE, .unset, .unset] [(.ref o0), (.int 0), (.ref o1)])) _
    refine st2 _ ?_
    refine XS.iloadN X2.here hx rfl (hb hby d5_9) rfl ?_
    refine st3 _ ?_
    refine XS.istoreN X3.here hx rfl (hb hby d5_13) rfl (l' := #[rv o0, iv t1, rv a_ONE, iv (-1), .unset]) rfl ?_
    show Steps p.tables e below (T3.setTop (mkF m 14 #[rv o0, iv t1, rv a_ONE, iv (-1), .unset] [])) _
    refine XS.iloadN X3.here hx rfl (hb hby d5_14) rfl ?_
    refine XS.ifYes X3.here hx rfl (pc0 := 15) (pc' := 35) rfl (hb hby d5_15) rfl (by decide) (by decide) (by decide) ?_
    refine XS.iloadN X3.here hx rfl (hb hby d5_35) rfl ?_
    refine XS.ineg X3.here hx rfl (hb hby d5_36) rfl ?_
    show Steps p.tables e below (T3.setTop (mkF m 37 #[rv o0, iv t1, rv a_ONE, iv (-1), .unset] [(.int (-(-1 : Int32)))])) _
    rw [(by decide : (-(-1 : Int32)) = (1 : Int32))]
    refine XS.iconst X3.here hx rfl (hb hby d5_37) ?_
    refine XS.isub X3.here hx rfl (hb hby d5_38) rfl ?_
    show Steps p.tables e below (T3.setTop (mkF m 39 #[rv o0, iv t1, rv a_ONE, iv (-1), .unset] [(.int ((1 : Int32) - (1 : Int32)))])) _
    rw [(by decide : ((1 : Int32) - (1 : Int32)) = (0 : Int32))]
    refine XS.istore X3.here hx rfl (hb hby d5_39) rfl (l' := #[rv o0, iv t1, rv a_ONE, iv (-1), iv 0]) rfl ?_
    refine XS.aloadN X3.here hx rfl (hb hby d5_41) rfl rfl ?_
    refine st4 _ ?_
    show Steps p.tables e below (T4.setTop (mkF m 45 #[rv o0, iv t1, rv a_ONE, iv (-1), iv 0] [(.int 1)])) _
    refine XS.aloadN X4.here hx rfl (hb hby d5_45) rfl rfl ?_
    refine st5 _ ?_
    refine X5.arraylength hx (by rw [e5]; exact r6.1) (State.isArrayOf_alike hZ.alike r6.2.1) (g := (mkF m 49 #[rv o0, iv t1, rv a_ONE, iv (-1), iv 0] [(.ref o1), (.int 1)])) rfl rfl (hb hby d5_49) _ ?_
    rw [len_of S6 M6]
    show Steps p.tables e below (T5.setTop (mkF m 50 #[rv o0, iv t1, rv a_ONE, iv (-1), iv 0] [(.int 4), (.int 1)])) _
    refine XS.icmpYes X5.here hx rfl (pc0 := 50) (pc' := 90) rfl (hb hby d5_50) rfl (by decide) (by decide) (by decide) ?_
    refine XS.aloadN X5.here hx rfl (hb hby d5_90) rfl rfl ?_
    refine st7 _ ?_
    refine XS.iload X7.here hx rfl (hb hby d5_94) rfl ?_
    show Steps p.tables e below (T7.setTop (mkF m 96 #[rv o0, iv t1, rv a_ONE, iv (-1), iv 0] [(.int 0), (.ref o1)])) _
    refine XS.aloadN X7.here hx rfl (hb hby d5_96) rfl rfl ?_
    refine st8 _ ?_
    refine XS.iload X8.here hx rfl (hb hby d5_100) rfl ?_
    refine XS.iconst X8.here hx rfl (hb hby d5_102) ?_
    show Steps p.tables e below (T8.setTop (mkF m 103 #[rv o0, iv t1, rv a_ONE, iv (-1), iv 0] [(.int 1), (.int 0), (.ref o1), (.int 0), (.ref o1)])) _
    refine XS.iadd X8.here hx rfl (hb hby d5_103) rfl ?_
    show Steps p.tables e below (T8.setTop (mkF m 104 #[rv o0, iv t1, rv a_ONE, iv (-1), iv 0] [(.int ((0 : Int32) + (1 : Int32))), (.ref o1), (.int 0), (.ref o1)])) _
    rw [(by decide : ((0 : Int32) + (1 : Int32)) = (1 : Int32))]
    refine XS.aloadN X8.here hx rfl (hb hby d5_104) rfl rfl ?_
    refine st9 _ ?_
    refine XS.iload X9.here hx rfl (hb hby d5_108) rfl ?_
    show Steps p.tables e below (T9.setTop (mkF m 110 #[rv o0, iv t1, rv a_ONE, iv (-1), iv 0] [(.int 0), (.int 1), (.int 1), (.ref o1), (.int 0), (.ref o1)])) _
    refine XS.isub X9.here hx rfl (hb hby d5_110) rfl ?_
    show Steps p.tables e below (T9.setTop (mkF m 111 #[rv o0, iv t1, rv a_ONE, iv (-1), iv 0] [(.int ((1 : Int32) - (0 : Int32))), (.int 1), (.ref o1), (.int 0), (.ref o1)])) _
    rw [(by decide : ((1 : Int32) - (0 : Int32)) = (1 : Int32))]
    refine st10 _ ?_
    refine XS.aloadN X10.here hx rfl (hb hby d5_114) rfl rfl ?_
    refine st13 _ ?_
    show Steps p.tables e below (T13.setTop (mkF m 118 #[rv o0, iv t1, rv a_ONE, iv (-1), iv 0] [(.ref o2)])) _
    refine XS.iload X13.here hx rfl (hb hby d5_118) rfl ?_
    refine XS.aloadN X13.here hx rfl (hb hby d5_120) rfl rfl ?_
    refine st14 _ ?_
    refine XS.iload X14.here hx rfl (hb hby d5_124) rfl ?_
    show Steps p.tables e below (T14.setTop (mkF m 126 #[rv o0, iv t1, rv a_ONE, iv (-1), iv 0] [(.int 0), (.ref o2), (.int 0), (.ref o2)])) _
    refine XS.iconst X14.here hx rfl (hb hby d5_126) ?_
    refine XS.iadd X14.here hx rfl (hb hby d5_127) rfl ?_
    show Steps p.tables e below (T14.setTop (mkF m 128 #[rv o0, iv t1, rv a_ONE, iv (-1), iv 0] [(.int ((0 : Int32) + (1 : Int32))), (.ref o2), (.int 0), (.ref o2)])) _
    rw [(by decide : ((0 : Int32) + (1 : Int32)) = (1 : Int32))]
    refine XS.aloadN X14.here hx rfl (hb hby d5_128) rfl rfl ?_
    refine st16 _ ?_
    refine XS.iload X16.here hx rfl (hb hby d5_132) rfl ?_
    show Steps p.tables e below (T16.setTop (mkF m 134 #[rv o0, iv t1, rv a_ONE, iv (-1), iv 0] [(.int 0), (.int 1), (.int 1), (.ref o2), (.int 0), (.ref o2)])) _
    refine XS.isub X16.here hx rfl (hb hby d5_134) rfl ?_
    show Steps p.tables e below (T16.setTop (mkF m 135 #[rv o0, iv t1, rv a_ONE, iv (-1), iv 0] [(.int ((1 : Int32) - (0 : Int32))), (.int 1), (.ref o2), (.int 0), (.ref o2)])) _
    rw [(by decide : ((1 : Int32) - (0 : Int32)) = (1 : Int32))]
    refine st19 _ ?_
    refine XS.aloadN X19.here hx rfl (hb hby d5_138) rfl rfl ?_
    refine st22 _ ?_
    show Steps p.tables e below (T22.setTop (mkF m 142 #[rv o0, iv t1, rv a_ONE, iv (-1), iv 0] [(.ref o1)])) _
    refine XS.iload X22.here hx rfl (hb hby d5_142) rfl ?_
    refine XS.iloadN X22.here hx rfl (hb hby d5_144) rfl ?_
    refine st26 _ ?_
    refine XS.aloadN X26.here hx rfl (hb hby d5_146) rfl rfl ?_
    show Steps p.tables e below (T26.setTop (mkF m 147 #[rv o0, iv t1, rv a_ONE, iv (-1), iv 0] [(.ref o0)])) _
    refine st29 _ ?_
    refine XS.iload X29.here hx rfl (hb hby d5_150) rfl ?_
    refine XS.aloadN X29.here hx rfl (hb hby d5_152) rfl rfl ?_
    refine st33 _ ?_
    show Steps p.tables e below (T33.setTop (mkF m 154 #[rv o0, iv t1, rv a_ONE, iv (-1), iv 0] [])) _
    refine XS.aloadN X33.here hx rfl (hb hby d5_154) rfl rfl ?_
    refine XS.dup X33.here hx rfl (hb hby d5_155) rfl rfl ?_
    refine st36 _ ?_
    refine XS.iconst X36.here hx rfl (hb hby d5_159) ?_
    show Steps p.tables e below (T36.setTop (mkF m 160 #[rv o0, iv t1, rv a_ONE, iv (-1), iv 0] [(.int 1), (.int 1), (.ref o0)])) _
    refine XS.iadd X36.here hx rfl (hb hby d5_160) rfl ?_
    show Steps p.tables e below (T36.setTop (mkF m 161 #[rv o0, iv t1, rv a_ONE, iv (-1), iv 0] [(.int ((1 : Int32) + (1 : Int32))), (.ref o0)])) _
    rw [(by decide : ((1 : Int32) + (1 : Int32)) = (2 : Int32))]
    refine st38 _ ?_
    exact X38.returnOut hx Bd.returns (hb hby d5_164) hr
  · show Q5_10 Z a_ONE a_ZTT e_2 e_3 t0 t1 t2 t3 t4 o0 o1 o2 j0 j1 h0 n0 _ T38.heap _
    rw [e38]
    exact ⟨rfl, N38, KK38, F40, F41, F42, f5, F43, F44, F39, F45, F46⟩
set_option maxRecDepth 65536 in
set_option maxHeartbeats 40000000 in
theorem sg_31 {p : Program} {l : Launch} {e : Env} {s : State} {m : MethodId} {args : Array Value} {below : List Frame} {meth : Method} {c : Code} {T0 : State} {locs : List Loc} {Z : State} {a0 : Array Value} {h0 : Heap} {n0 : Nat} (hw : ∀ d ∈ tables_1, d.before a0 Z = true) (a_ONE : Addr) (a_ZTT : Addr) (e_2 : Addr) (e_3 : Addr) (t0 : Int32) (t1 : Int32) (t2 : Int32) (t3 : Int32) (t4 : Int32) (t5 : Int32) (t6 : Int32) (t7 : Int32) (o0 : Addr) (o1 : Addr) (o2 : Addr) (j0 : ClassId) (j1 : ClassId) (FF : Facts Z Z.heap a_ONE a_ZTT e_2 e_3)
    (X0 : Stand p l e room_1 s m args below meth c T0 locs 3 11) (hx : p.tables.exec = Jvm.exec) (hZ : Z.Warmed39 s.vm) (hby : c.code = code) (hml : c.maxLocals = 8) (hown : s.vm.findClass "com/example/deferra/deferra/crediting/DailyAmountsIsEmptyPinLaw" = some m.cls) (e0 : T0.heap = h0) (N0 : Fr n0 locs) (OO : Old Z n0 h0) (f0 : Fld Z h0 o0 "com/example/deferra/deferra/crediting/DailyAmounts" "days" "[I" (.ref o1)) (f1 : Fld Z h0 o0 "com/example/deferra/deferra/crediting/DailyAmounts" "size" "I" (.int 1)) (f2 : Arv Z h0 o1 j0 .int (4 : Int32) [(.int t0), (.int t2), (.int t3), (.int t4)] (.int 0)) (f3 : Fld Z h0 o0 "com/example/deferra/deferra/crediting/DailyAmounts" "amounts" "[Ljava/math/BigDecimal;" (.ref o2)) (f4 : Arv Z h0 o2 j1 (.object "java/math/BigDecimal") (4 : Int32) [(.ref e_2), .null, .null, .null] .null) (f5 : Ovr Z j1 "java/math/BigDecimal") (f6 : Exa Z h0 o0 "com/example/deferra/deferra/crediting/DailyAmounts") (f7 : Exa Z h0 o1 "[I") (f8 : Exa Z h0 o2 "[Ljava/math/BigDecimal;") (u0 : n0 ≤ o1) (v0 : o0 ≠ o1) (v1 : o2 ≠ o1) (u1 : n0 ≤ o2) (v2 : o0 ≠ o2) (u2 : n0 ≤ o0) (hq0 : ¬ (t0 < t1)) (hq1 : t1 < t0) :
    ∃ (T' : State) (h' : Heap) (lc : List Loc), Stand p l e room_1 s m args below meth c T' lc 3 11 ∧ T'.heap = h' ∧ Fr n0 lc ∧ Keep h0 h' [o0, o2, o1] ∧ Fld Z h' o0 "com/example/deferra/deferra/crediting/DailyAmounts" "days" "[I" (.ref o1) ∧ Fld Z h' o0 "com/example/deferra/deferra/crediting/DailyAmounts" "size" "I" (.int 2) ∧ Fld Z h' o0 "com/example/deferra/deferra/crediting/DailyAmounts" "amounts" "[Ljava/math/BigDecimal;" (.ref o2) ∧ Exa Z h' o0 "com/example/deferra/deferra/crediting/DailyAmounts" ∧ Arv Z h' o2 j1 (.object "java/math/BigDecimal") (4 : Int32) [(.ref a_ONE), (.ref e_2), .null, .null] .null ∧ Ovr Z j1 "java/math/BigDecimal" ∧ Exa Z h' o2 "[Ljava/math/BigDecimal;" ∧ Arv Z h' o1 j0 .int (4 : Int32) [(.int t1), (.int t0), (.int t3), (.int t4)] (.int 0) ∧ Exa Z h' o1 "[I" ∧
      ∀ target, Steps p.tables e below (T'.setTop (mkF m 142 #[iv t5, iv t6, iv t7, iv t1, iv 3, rv o0, iv 1, .unset] [])) target → Steps p.tables e below (T0.setTop (mkF m 107 #[iv t5, iv t6, iv t7, iv t1, iv 3, rv o0, iv 1, .unset] [])) target := by
  obtain ⟨T1, X1, e1, st1⟩ := getS2 X0 hx hZ hown (host := "") (Or.inl (w_28 hw)) Via.refl e0 (Sta.ext OO.2 (fx_S_ONE FF)) (g := (mkF m 116 #[iv t5, iv t6, iv t7, iv t1, iv 3, rv o0, iv 1, .unset] [(.int t1), (.ref o0)])) rfl (hb hby at_116)
  obtain ⟨cq2, kq2, q2a, q2b, q2c⟩ := isOf hZ e1 f6
  obtain ⟨_, _, ⟨T2, L2, k2, n2⟩, -, X2, ⟨Lc2, hQ2, l2, y2, z2⟩, st2⟩ := X1.virtualBack hx (y := (⟨"com/example/deferra/deferra/crediting/DailyAmounts", "add", "(ILjava/math/BigDecimal;)V"⟩ : MethodName)) (z := (⟨"com/example/deferra/deferra/crediting/DailyAmounts", "add", "(ILjava/math/BigDecimal;)V"⟩ : MethodName)) hown (mvT hZ (w_30 hw)) (mvT hZ (w_31 hw)) (notFace_of_selects (args := #[]) (mvT hZ (w_33 hw))) (mvT hZ (w_33 hw)) (mvT hZ (w_32 hw)) (by decide) (backOf (W := 0) (rm5_10 l Z a0 hw [] a_ONE a_ZTT e_2 e_3 t0 t1 t2 t3 t4 o0 o1 o2 j0 j1 h0 n0 FF OO f0 f1 f2 u0 f3 v0 f4 v1 f5 u1 v2 f6 u2 f7 f8 hq0 hq1) hZ (w_34 hw) (w_2 hw) (by decide) (by decide)) q2a q2c (g := (mkF m 119 #[iv t5, iv t6, iv t7, iv t1, iv 3, rv o0, iv 1, .unset] [(.ref a_ONE), (.int t1), (.ref o0)])) rfl (by rw [hml]; rfl) (Steps.refl _) (argsL := [(.int t1), (.ref a_ONE)]) (rest := []) (lenOf pd_5 rfl) rfl (by show 2 * 0 + _ ≤ _; exact Nat.le_of_eq rfl) (hb hby at_119) (fun _ _ => ⟨rfl, e1, (by decide : 3 + 0 ≤ _), (by decide : 11 + 0 ≤ _)⟩)
  dsimp only [Pt.U, Pt.locs, Pt.cells, Pt.slots] at X2 l2 y2 z2 st2 hQ2
  subst l2 y2 z2
  obtain ⟨h2, e2⟩ : ∃ z, T2.heap = z := ⟨_, rfl⟩
  rw [e2] at hQ2
  obtain ⟨rfl, N2q, K2, R2_0, R2_1, R2_2, R2_3, R2_4, R2_5, R2_6, R2_7, R2_8⟩ := hQ2
  have N2 := Fr.app N0 N2q
  have O2 := Old.keep OO K2 (allS u0 (allS u1 (allS u2 all0)))
  have KK2 : Keep h0 h2 [o0, o2, o1] := Keep.trans (Keep.refl h0 [o0, o2, o1]) K2 (allS (Or.inl (List.mem_of_getElem? (i := 2) rfl)) (allS (Or.inl (List.mem_of_getElem? (i := 1) rfl)) (allS (Or.inl (List.mem_of_getElem? (i := 0) rfl)) all0)))
  obtain ⟨cq3, kq3, q3a, q3b, q3c⟩ := isOf hZ e2 R2_8
  obtain ⟨_, _, ⟨T3, L3, k3, n3⟩, -, X3, ⟨Lc3, hQ3, l3, y3, z3⟩, st3⟩ := X2.virtualBack hx (y := (⟨"com/example/deferra/deferra/crediting/DailyAmounts", "isEmpty", "()Z"⟩ : MethodName)) (z := (⟨"com/example/deferra/deferra/crediting/DailyAmounts", "isEmpty", "()Z"⟩ : MethodName)) hown (mvT hZ (w_16 hw)) (mvT hZ (w_17 hw)) (notFace_of_selects (args := #[]) (mvT hZ (w_19 hw))) (mvT hZ (w_19 hw)) (mvT hZ (w_18 hw)) (by decide) (backOf (W := 0) (rm3_2 l Z a0 hw [] a_ONE a_ZTT e_2 e_3 o0 h2 n0 FF O2 R2_6) hZ (w_20 hw) (w_2 hw) (by decide) (by decide)) q3a q3c (g := (mkF m 129 #[iv t5, iv t6, iv t7, iv t1, iv 3, rv o0, iv 1, .unset] [(.ref o0)])) rfl (by rw [hml]; rfl) (Steps.refl _) (argsL := []) (rest := []) (lenOf pd_1 rfl) rfl (by show 2 * 0 + _ ≤ _; exact Nat.le_of_eq rfl) (hb hby at_129) (fun _ _ => ⟨rfl, e2, (by decide : 3 + 0 ≤ _), (by decide : 11 + 0 ≤ _)⟩)
  dsimp only [Pt.U, Pt.locs, Pt.cells, Pt.slots] at X3 l3 y3 z3 st3 hQ3
  subst l3 y3 z3
  obtain ⟨rfl, N3q, e3⟩ := hQ3
  have N3 := Fr.app N2 N3q
  refine ⟨T3, h2, _, X3, e3, N3, KK2, R2_5, R2_6, R2_7, R2_8, R2_2, R2_3, R2_4, R2_0, R2_1, fun target kt => ?_⟩
  show Steps p.tables e below (T0.setTop (mkF m 107 #[iv t5, iv t6, iv t7, iv t1, iv 3, rv o0, iv 1, .unset] [])) _
  refine XS.iload X0.here hx rfl (hb hby at_107) rfl ?_
  refine XS.iconst X0.here hx rfl (hb hby at_109) ?_
  refine XS.icmpNo X0.here hx rfl (hb hby at_110) rfl (by decide) ?_
  refine XS.aload X0.here hx rfl (hb hby at_113) rfl rfl ?_
  show Steps p.tables e below (T0.setTop (mkF m 115 #[iv t5, iv t6, iv t7, iv t1, iv 3, rv o0, iv 1, .unset] [(.ref o0)])) _
  refine XS.iloadN X0.here hx rfl (hb hby at_115) rfl ?_
  refine st1 _ ?_
  refine st2.trans ?_
  refine XS.iload X2.here hx rfl (hb hby at_122) rfl ?_
  show Steps p.tables e below (T2.setTop (mkF m 124 #[iv t5, iv t6, iv t7, iv t1, iv 3, rv o0, iv 1, .unset] [(.int 1)])) _
  refine XS.ifNo X2.here hx rfl (hb hby at_124) rfl (by decide) ?_
  refine XS.aload X2.here hx rfl (hb hby at_127) rfl rfl ?_
  refine st3.trans ?_
  refine XS.ifNo X3.here hx rfl (hb hby at_132) rfl (by decide) ?_
  show Steps p.tables e below (T3.setTop (mkF m 135 #[iv t5, iv t6, iv t7, iv t1, iv 3, rv o0, iv 1, .unset] [])) _
  refine XS.iconst X3.here hx rfl (hb hby at_135) ?_
  refine XS.goto X3.here hx rfl (pc0 := 136) (pc' := 140) rfl (hb hby at_136) (by decide) (by decide) ?_
  refine XS.istore X3.here hx rfl (hb hby at_140) rfl (l' := #[iv t5, iv t6, iv t7, iv t1, iv 3, rv o0, iv 1, .unset]) rfl ?_
  exact kt
set_option maxRecDepth 65536 in
set_option maxHeartbeats 40000000 in
theorem rm0_16 (l : Launch) (Z : State) (a0 : Array Value) (hw : ∀ d ∈ tables_1, d.before a0 Z = true) (ws : List Jvm.Cond) (a_ONE : Addr) (a_ZTT : Addr) (e_2 : Addr) (e_3 : Addr) (p0 : Int32) (p1 : Int32) (p2 : Int32) (p3 : Int32) (h0 : Heap) (n0 : Nat) (FF : Facts Z Z.heap a_ONE a_ZTT e_2 e_3) (OO : Old Z n0 h0) (hk0 : (p0 &&& (3 : Int32)) = (3 : Int32)) (hd0 : ¬ (p1 < p2)) (hd1 : ¬ (p2 < p1)) (hd2 : ¬ (p1 < p3)) (hd3 : p3 < p1) :
    MetFree l x (head1 (Jvm.Cond.code x code maxLocals ret :: ws) room_1) (fun a U => a = #[(.int p0), (.int p1), (.int p2), (.int p3)] ∧ Z.Warmed39 U.vm ∧ U.heap = h0) (fun _ _ _ _ _ => True) (fun _ U o U' => ∃ v L, o = .returned v ∧ (v = some (.int (1 : Int32)) ∧ Fr n0 L) ∧ FrameEnd U o U' L room_1.cells room_1.slots) := by
  refine MetFree.of_bodySF (plainFor_of_name pn_0) hisR ?_
  intro p e s m args below meth c s₁ Bd hml0 hP hK
  obtain ⟨rfl, hZ, hh⟩ := hP
  have hx := Bd.exec
  have hby := Bd.bytes
  have hml : c.maxLocals = 8 := hml0
  have hown : s.vm.findClass "com/example/deferra/deferra/crediting/DailyAmountsIsEmptyPinLaw" = some m.cls := findClass_of_methodNamed Bd.named
  have X0 : Stand p l e room_1 s m #[(.int p0), (.int p1), (.int p2), (.int p3)] below meth c s₁ [] 0 0 := Stand.of_body Bd
  have e0 : s₁.heap = h0 := by rw [← hh, Bd.state]; rfl
  have N0 := Fr.nil n0
  have pre0 : ∀ t, Steps p.tables e below (s₁.setTop (mkF m 0 #[iv p0, iv p1, iv p2, iv p3, .unset, .unset, .unset, .unset] [])) t → Steps p.tables e below (s₁.setTop (entryFrame m #[(.int p0), (.int p1), (.int p2), (.int p3)] maxLocals)) t := fun t k => castTop (ef_0 m p0 p1 p2 p3) k
  obtain ⟨T1, h1, lc1, b1, b2, b3, kb2, kb3, X1, e1, N1, K1, sp1_b1, sp1_b2, sp1_b3, ne1_b1_b2, ne1_b1_b3, ne1_b2_b3, R1_0, R1_1, R1_2, R1_3, R1_4, R1_5, R1_6, R1_7, R1_8, st1⟩ := sg_18 hw a_ONE a_ZTT e_2 e_3 p0 p1 p2 p3 FF X0 hx hZ hby hml hown e0 N0 OO hk0
  have g2 : n0 ≤ b1 := Nat.le_trans (own_le OO) sp1_b1
  have g3 : n0 ≤ b2 := Nat.le_trans (own_le OO) sp1_b2
  have g4 : n0 ≤ b3 := Nat.le_trans (own_le OO) sp1_b3
  have O1 := Old.keep OO K1 all0
  obtain ⟨T5, h5, lc5, X5, e5, N5, K5, R5_0, R5_1, R5_2, R5_3, R5_4, R5_5, R5_6, R5_7, R5_8, st5⟩ := sg_19 hw a_ONE a_ZTT e_2 e_3 (0 : Int32) (0 : Int32) (0 : Int32) (0 : Int32) p1 p0 p2 p3 b1 b2 b3 kb2 kb3 FF X1 hx hZ hby hml hown e1 N1 O1 R1_1 R1_3 R1_5 R1_2 R1_7 R1_8 R1_0 R1_4 R1_6 g3 ne1_b1_b2 (Ne.symm ne1_b2_b3) g4 ne1_b1_b3 g2
  have O5 := Old.keep O1 K5 (allS g2 (allS g4 (allS g3 all0)))
  obtain ⟨T6, h6, lc6, X6, e6, N6, K6, R6_0, R6_1, R6_2, st6⟩ := sg_29 hw a_ONE a_ZTT e_2 e_3 p1 p2 (0 : Int32) (0 : Int32) (0 : Int32) p0 p1 p3 b1 b2 b3 kb2 kb3 FF X5 hx hZ hby hml hown e5 N5 O5 R5_0 R5_1 R5_7 R5_2 R5_4 R5_5 R5_6 g4 R5_3 ne1_b1_b3 hd0 hd1
  have O6 := Old.keep O5 K6 (allS g4 all0)
  have F8 : Fld Z h6 b1 "com/example/deferra/deferra/crediting/DailyAmounts" "days" "[I" (.ref b2) := (Fld.keep R5_0 K6 (ninS ne1_b1_b3 nin0))
  have F9 : Fld Z h6 b1 "com/example/deferra/deferra/crediting/DailyAmounts" "size" "I" (.int 1) := (Fld.keep R5_1 K6 (ninS ne1_b1_b3 nin0))
  have F10 : Arv Z h6 b2 kb2 .int (4 : Int32) [(.int p1), (.int 0), (.int 0), (.int 0)] (.int 0) := (Arv.keep R5_7 K6 (ninS ne1_b2_b3 nin0))
  have F11 : Fld Z h6 b1 "com/example/deferra/deferra/crediting/DailyAmounts" "amounts" "[Ljava/math/BigDecimal;" (.ref b3) := (Fld.keep R5_2 K6 (ninS ne1_b1_b3 nin0))
  have F12 : Exa Z h6 b1 "com/example/deferra/deferra/crediting/DailyAmounts" := (Exa.keep R5_3 K6)
  have F13 : Exa Z h6 b2 "[I" := (Exa.keep R5_8 K6)
  obtain ⟨T7, h7, lc7, X7, e7, N7, K7, R7_0, R7_1, R7_2, R7_3, R7_4, R7_5, R7_6, R7_7, R7_8, st7⟩ := sg_31 hw a_ONE a_ZTT e_2 e_3 p1 p3 (0 : Int32) (0 : Int32) (0 : Int32) p0 p1 p2 b1 b2 b3 kb2 kb3 FF X6 hx hZ hby hml hown e6 N6 O6 F8 F9 F10 F11 R6_0 R6_1 F12 F13 R6_2 g3 ne1_b1_b2 (Ne.symm ne1_b2_b3) g4 ne1_b1_b3 g2 hd2 hd3
  have O7 := Old.keep O6 K7 (allS g2 (allS g4 (allS g3 all0)))
  obtain ⟨T14, h14, lc14, X14, e14, N14, K14, st14⟩ := sg_25 hw a_ONE a_ZTT e_2 e_3 p0 p1 p2 p3 b1 FF X7 hx hZ hby hml hown e7 N7 O7 R7_1 R7_3
  have O14 := Old.keep O7 K14 all0
  obtain ⟨fs, hr, hrun, hended, hW, hsame⟩ := X14.leave (v := some (.int 1)) (fun h => by rw [Bd.returns] at h; cases h)
  refine ⟨_, _, pre0 _ ?_, hrun, hended, _, _, rfl, ?_, ⟨_, rfl⟩, hW, hsame.mono (by decide) (by decide)⟩
  · show Steps p.tables e below (s₁.setTop (mkF m 0 #[iv p0, iv p1, iv p2, iv p3, .unset, .unset, .unset, .unset] [])) _
    refine st1 _ ?_
    show Steps p.tables e below (T1.setTop (mkF m 37 #[iv p0, iv p1, iv p2, iv p3, iv 3, rv b1, iv 1, .unset] [])) _
    refine st5 _ ?_
    show Steps p.tables e below (T5.setTop (mkF m 72 #[iv p0, iv p1, iv p2, iv p3, iv 3, rv b1, iv 1, .unset] [])) _
    refine st6 _ ?_
    show Steps p.tables e below (T6.setTop (mkF m 107 #[iv p0, iv p1, iv p2, iv p3, iv 3, rv b1, iv 1, .unset] [])) _
    refine st7 _ ?_
    show Steps p.tables e below (T7.setTop (mkF m 142 #[iv p0, iv p1, iv p2, iv p3, iv 3, rv b1, iv 1, .unset] [])) _
    refine st14 _ ?_
    exact retN X14 hx (t := .boolean) Bd.returns (by simp) (hb hby at_192) hr
  · exact ⟨rfl, N14⟩
def Q12_1 (Z : State) (a_ONE : Addr) (a_ZTT : Addr) (e_2 : Addr) (e_3 : Addr) (h0 : Heap) (n0 : Nat) (v : Option Value) (h : Heap) (L : List Loc) : Prop := v = some (.long 3) ∧ Fr n0 L ∧ h = h0
set_option maxRecDepth 65536 in
set_option maxHeartbeats 40000000 in
theorem rm12_1 (l : Launch) (Z : State) (a0 : Array Value) (hw : ∀ d ∈ tables_1, d.before a0 Z = true) (ws : List Jvm.Cond) (a_ONE : Addr) (a_ZTT : Addr) (e_2 : Addr) (e_3 : Addr) (h0 : Heap) (n0 : Nat) (FF : Facts Z Z.heap a_ONE a_ZTT e_2 e_3) (OO : Old Z n0 h0) :
    MetFree l (⟨"java/math/BigDecimal", "add", "(JJ)J"⟩ : MethodName) (head1 (Jvm.Cond.code (⟨"java/math/BigDecimal", "add", "(JJ)J"⟩ : MethodName) jdk_17_method_132_code 6 (some .long) :: ws) ({ frames := 0, cells := 0, slots := 0, locals := 0 } : Room)) (fun a U => a = #[(.long 2), (.long 1)] ∧ Z.Warmed39 U.vm ∧ U.heap = h0) (fun _ _ _ _ _ => True) (fun _ U o U' => ∃ v L, o = .returned v ∧ Q12_1 Z a_ONE a_ZTT e_2 e_3 h0 n0 v U'.heap L ∧ FrameEnd U o U' L ({ frames := 0, cells := 0, slots := 0, locals := 0 } : Room).cells ({ frames := 0, cells := 0, slots := 0, locals := 0 } : Room).slots) := by
  refine MetFree.of_bodySF (plainFor_of_name pn_12) hisR ?_
  intro p e s m args below meth c s₁ Bd hml0 hP hK
  obtain ⟨rfl, hZ, hh⟩ := hP
  have hx := Bd.exec
  have hby := Bd.bytes
  have hml : c.maxLocals = 6 := hml0
  have hown : s.vm.findClass "java/math/BigDecimal" = some m.cls := findClass_of_methodNamed Bd.named
  have X0 : Stand p l e ({ frames := 0, cells := 0, slots := 0, locals := 0 } : Room) s m #[(.long 2), (.long 1)] below meth c s₁ [] 0 0 := Stand.of_body Bd
  have e0 : s₁.heap = h0 := by rw [← hh, Bd.state]; rfl
  have N0 := Fr.nil n0
  have pre0 : ∀ t, Steps p.tables e below (s₁.setTop (mkF m 0 #[.val (.long 2), .second, .val (.long 1), .second, .unset, .unset] [])) t → Steps p.tables e below (s₁.setTop (entryFrame m #[(.long 2), (.long 1)] 6)) t := fun t k => castTop (ef_12 m 2 1) k
  obtain ⟨fs, hr, hrun, hended, hW, hsame⟩ := X0.leave (v := some (.long 3)) (fun h => by rw [Bd.returns] at h; cases h)
  refine ⟨_, _, pre0 _ ?_, hrun, hended, _, _, rfl, ?_, ⟨_, rfl⟩, hW, hsame.mono (by decide) (by decide)⟩
  · show Steps p.tables e below (s₁.setTop (mkF m 0 #[.val (.long 2), .second, .val (.long 1), .second, .unset, .unset] [])) _
    refine XS.lloadN X0.here hx rfl (hb hby d12_0) rfl ?_
    refine XS.lloadN X0.here hx rfl (hb hby d12_1) rfl ?_
    refine XS.ladd X0.here hx rfl (hb hby d12_2) rfl ?_
    show Steps p.tables e below (s₁.setTop (mkF m 3 #[.val (.long 2), .second, .val (.long 1), .second, .unset, .unset] [(.long ((2 : Int64) + (1 : Int64)))])) _
    rw [(by decide : ((2 : Int64) + (1 : Int64)) = (3 : Int64))]
    refine XS.lstore X0.here hx rfl (hb hby d12_3) rfl (l' := #[.val (.long 2), .second, .val (.long 1), .second, .val (.long 3), .second]) rfl ?_
    refine XS.lload X0.here hx rfl (hb hby d12_5) rfl ?_
    refine XS.lloadN X0.here hx rfl (hb hby d12_7) rfl ?_
    show Steps p.tables e below (s₁.setTop (mkF m 8 #[.val (.long 2), .second, .val (.long 1), .second, .val (.long 3), .second] [(.long 2), (.long 3)])) _
    refine XS.lxor X0.here hx rfl (hb hby d12_8) rfl ?_
    show Steps p.tables e below (s₁.setTop (mkF m 9 #[.val (.long 2), .second, .val (.long 1), .second, .val (.long 3), .second] [(.long ((3 : Int64) ^^^ (2 : Int64)))])) _
    rw [(by decide : ((3 : Int64) ^^^ (2 : Int64)) = (1 : Int64))]
    refine XS.lload X0.here hx rfl (hb hby d12_9) rfl ?_
    refine XS.lloadN X0.here hx rfl (hb hby d12_11) rfl ?_
    refine XS.lxor X0.here hx rfl (hb hby d12_12) rfl ?_
    show Steps p.tables e below (s₁.setTop (mkF m 13 #[.val (.long 2), .second, .val (.long 1), .second, .val (.long 3), .second] [(.long ((3 : Int64) ^^^ (1 : Int64))), (.long 1)])) _
    rw [(by decide : ((3 : Int64) ^^^ (1 : Int64)) = (2 : Int64))]
    refine XS.land X0.here hx rfl (hb hby d12_13) rfl ?_
    show Steps p.tables e below (s₁.setTop (mkF m 14 #[.val (.long 2), .second, .val (.long 1), .second, .val (.long 3), .second] [(.long ((1 : Int64) &&& (2 : Int64)))])) _
    rw [(by decide : ((1 : Int64) &&& (2 : Int64)) = (0 : Int64))]
    refine XS.lconst X0.here hx rfl (hb hby d12_14) ?_
    refine XS.lcmp X0.here hx rfl (hb hby d12_15) rfl ?_
    show Steps p.tables e below (s₁.setTop (mkF m 16 #[.val (.long 2), .second, .val (.long 1), .second, .val (.long 3), .second] [(.int (if (0 : Int64) > (0 : Int64) then 1 else if (0 : Int64) = (0 : Int64) then 0 else -1))])) _
    rw [(by decide : (if (0 : Int64) > (0 : Int64) then 1 else if (0 : Int64) = (0 : Int64) then 0 else -1) = (0 : Int32))]
    refine XS.ifNo X0.here hx rfl (hb hby d12_16) rfl (by decide) ?_
    refine XS.lload X0.here hx rfl (hb hby d12_19) rfl ?_
    exact retOut X0 hx Bd.returns rfl (Or.inr (Or.inl ⟨rfl, rfl, _, rfl⟩)) (hb hby d12_21) hr
  · show Q12_1 Z a_ONE a_ZTT e_2 e_3 h0 n0 _ s₁.heap _
    exact ⟨rfl, N0, e0⟩
def Q14_1 (Z : State) (a_ONE : Addr) (a_ZTT : Addr) (e_2 : Addr) (e_3 : Addr) (h0 : Heap) (n0 : Nat) (v : Option Value) (h : Heap) (L : List Loc) : Prop := v = some (.ref e_3) ∧ Fr n0 L ∧ h = h0
set_option maxRecDepth 65536 in
set_option maxHeartbeats 40000000 in
theorem rm14_1 (l : Launch) (Z : State) (a0 : Array Value) (hw : ∀ d ∈ tables_1, d.before a0 Z = true) (ws : List Jvm.Cond) (a_ONE : Addr) (a_ZTT : Addr) (e_2 : Addr) (e_3 : Addr) (h0 : Heap) (n0 : Nat) (FF : Facts Z Z.heap a_ONE a_ZTT e_2 e_3) (OO : Old Z n0 h0) :
    MetFree l (⟨"java/math/BigDecimal", "valueOf", "(J)Ljava/math/BigDecimal;"⟩ : MethodName) (head1 (Jvm.Cond.code (⟨"java/math/BigDecimal", "valueOf", "(J)Ljava/math/BigDecimal;"⟩ : MethodName) jdk_17_method_21_code 2 (some (.object "java/math/BigDecimal")) :: ws) ({ frames := 0, cells := 0, slots := 0, locals := 0 } : Room)) (fun a U => a = #[(.long 3)] ∧ Z.Warmed39 U.vm ∧ U.heap = h0) (fun _ _ _ _ _ => True) (fun _ U o U' => ∃ v L, o = .returned v ∧ Q14_1 Z a_ONE a_ZTT e_2 e_3 h0 n0 v U'.heap L ∧ FrameEnd U o U' L ({ frames := 0, cells := 0, slots := 0, locals := 0 } : Room).cells ({ frames := 0, cells := 0, slots := 0, locals := 0 } : Room).slots) := by
  refine MetFree.of_bodySF (plainFor_of_name pn_14) hisR ?_
  intro p e s m args below meth c s₁ Bd hml0 hP hK
  obtain ⟨rfl, hZ, hh⟩ := hP
  have hx := Bd.exec
  have hby := Bd.bytes
  have hml : c.maxLocals = 2 := hml0
  have hown : s.vm.findClass "java/math/BigDecimal" = some m.cls := findClass_of_methodNamed Bd.named
  have X0 : Stand p l e ({ frames := 0, cells := 0, slots := 0, locals := 0 } : Room) s m #[(.long 3)] below meth c s₁ [] 0 0 := Stand.of_body Bd
  have e0 : s₁.heap = h0 := by rw [← hh, Bd.state]; rfl
  have N0 := Fr.nil n0
  have pre0 : ∀ t, Steps p.tables e below (s₁.setTop (mkF m 0 #[.val (.long 3), .second] [])) t → Steps p.tables e below (s₁.setTop (entryFrame m #[(.long 3)] 2)) t := fun t k => castTop (ef_14 m 3) k
  obtain ⟨T1, X1, e1, st1⟩ := getS2 X0 hx hZ hown (host := "") (Or.inl (w_75 hw)) Via.refl e0 (Sta.ext OO.2 (fx_S_ZERO_THROUGH_TEN FF)) (g := (mkF m 7 #[.val (.long 3), .second] [(.long 3)])) rfl (hb hby d14_7)
  obtain ⟨c2, r2, S2⟩ := own_Ar.ext OO.2 (fx_len_ZTT FF)
  obtain ⟨T3, X3, e3, st3⟩ := getS2 X1 hx hZ hown (host := "") (Or.inl (w_75 hw)) Via.refl e1 (Sta.ext OO.2 (fx_S_ZERO_THROUGH_TEN FF)) (g := (mkF m 16 #[.val (.long 3), .second] [])) rfl (hb hby d14_16)
  obtain ⟨c4, r4, i4, y4⟩ := own_El.ext OO.2 (fx_el_3 FF)
  obtain ⟨fs, hr, hrun, hended, hW, hsame⟩ := X3.leave (v := some (.ref e_3)) (fun h => by rw [Bd.returns] at h; cases h)
  refine ⟨_, _, pre0 _ ?_, hrun, hended, _, _, rfl, ?_, ⟨_, rfl⟩, hW, hsame.mono (by decide) (by decide)⟩
  · show Steps p.tables e below (s₁.setTop (mkF m 0 #[.val (.long 3), .second] [])) _
    refine XS.lloadN X0.here hx rfl (hb hby d14_0) rfl ?_
    refine XS.lconst X0.here hx rfl (hb hby d14_1) ?_
    refine XS.lcmp X0.here hx rfl (hb hby d14_2) rfl ?_
    show Steps p.tables e below (s₁.setTop (mkF m 3 #[.val (.long 3), .second] [(.int (if (3 : Int64) > (0 : Int64) then 1 else if (3 : Int64) = (0 : Int64) then 0 else -1))])) _
    rw [(by decide : (if (3 : Int64) > (0 : Int64) then 1 else if (3 : Int64) = (0 : Int64) then 0 else -1) = (1 : Int32))]
    refine XS.ifNo X0.here hx rfl (hb hby d14_3) rfl (by decide) ?_
    refine XS.lloadN X0.here hx rfl (hb hby d14_6) rfl ?_
    refine st1 _ ?_
    show Steps p.tables e below (T1.setTop (mkF m 10 #[.val (.long 3), .second] [(.ref a_ZTT), (.long 3)])) _
    refine X1.arraylength hx (by rw [e1]; exact r2.1) (State.isArrayOf_alike hZ.alike r2.2.1) (g := (mkF m 10 #[.val (.long 3), .second] [(.ref a_ZTT), (.long 3)])) rfl rfl (hb hby d14_10) _ ?_
    rw [S2]
    refine XS.i2l X1.here hx rfl (hb hby d14_11) rfl ?_
    show Steps p.tables e below (T1.setTop (mkF m 12 #[.val (.long 3), .second] [(.long ((11 : Int32).toInt64)), (.long 3)])) _
    rw [(by decide : ((11 : Int32).toInt64) = (11 : Int64))]
    refine XS.lcmp X1.here hx rfl (hb hby d14_12) rfl ?_
    show Steps p.tables e below (T1.setTop (mkF m 13 #[.val (.long 3), .second] [(.int (if (3 : Int64) > (11 : Int64) then 1 else if (3 : Int64) = (11 : Int64) then 0 else -1))])) _
    rw [(by decide : (if (3 : Int64) > (11 : Int64) then 1 else if (3 : Int64) = (11 : Int64) then 0 else -1) = (-1 : Int32))]
    refine XS.ifNo X1.here hx rfl (hb hby d14_13) rfl (by decide) ?_
    refine st3 _ ?_
    refine XS.lloadN X3.here hx rfl (hb hby d14_19) rfl ?_
    show Steps p.tables e below (T3.setTop (mkF m 20 #[.val (.long 3), .second] [(.long 3), (.ref a_ZTT)])) _
    refine XS.l2i X3.here hx rfl (hb hby d14_20) rfl ?_
    show Steps p.tables e below (T3.setTop (mkF m 21 #[.val (.long 3), .second] [(.int ((3 : Int64).toInt32)), (.ref a_ZTT)])) _
    rw [(by decide : ((3 : Int64).toInt32) = (3 : Int32))]
    refine X3.aaload hx (j := (3 : Int32)) (v := (.ref e_3)) (by rw [e3]; exact r4.1) (State.isArrayOf_alike hZ.alike r4.2.1) rfl r4.2.2 i4 y4 (g := (mkF m 21 #[.val (.long 3), .second] [(.int 3), (.ref a_ZTT)])) rfl rfl (hb hby d14_21) _ ?_
    exact retOut X3 hx Bd.returns rfl (Or.inr (Or.inr (Or.inr (Or.inr ⟨rfl, rfl, rfl⟩)))) (hb hby d14_22) hr
  · show Q14_1 Z a_ONE a_ZTT e_2 e_3 h0 n0 _ T3.heap _
    exact ⟨rfl, N0, e3⟩
def Q13_1 (Z : State) (a_ONE : Addr) (a_ZTT : Addr) (e_2 : Addr) (e_3 : Addr) (h0 : Heap) (n0 : Nat) (v : Option Value) (h : Heap) (L : List Loc) : Prop := v = some (.ref e_3) ∧ Fr n0 L ∧ h = h0
set_option maxRecDepth 65536 in
set_option maxHeartbeats 40000000 in
theorem rm13_1 (l : Launch) (Z : State) (a0 : Array Value) (hw : ∀ d ∈ tables_1, d.before a0 Z = true) (ws : List Jvm.Cond) (a_ONE : Addr) (a_ZTT : Addr) (e_2 : Addr) (e_3 : Addr) (h0 : Heap) (n0 : Nat) (FF : Facts Z Z.heap a_ONE a_ZTT e_2 e_3) (OO : Old Z n0 h0) :
    MetFree l (⟨"java/math/BigDecimal", "valueOf", "(JI)Ljava/math/BigDecimal;"⟩ : MethodName) (head1 (Jvm.Cond.code (⟨"java/math/BigDecimal", "valueOf", "(JI)Ljava/math/BigDecimal;"⟩ : MethodName) jdk_17_method_20_code 3 (some (.object "java/math/BigDecimal")) :: ws) ({ frames := 1, cells := 0, slots := 0, locals := 13 } : Room)) (fun a U => a = #[(.long 3), (.int 0)] ∧ Z.Warmed39 U.vm ∧ U.heap = h0) (fun _ _ _ _ _ => True) (fun _ U o U' => ∃ v L, o = .returned v ∧ Q13_1 Z a_ONE a_ZTT e_2 e_3 h0 n0 v U'.heap L ∧ FrameEnd U o U' L ({ frames := 1, cells := 0, slots := 0, locals := 13 } : Room).cells ({ frames := 1, cells := 0, slots := 0, locals := 13 } : Room).slots) := by
  refine MetFree.of_bodySF (plainFor_of_name pn_13) hisR ?_
  intro p e s m args below meth c s₁ Bd hml0 hP hK
  obtain ⟨rfl, hZ, hh⟩ := hP
  have hx := Bd.exec
  have hby := Bd.bytes
  have hml : c.maxLocals = 3 := hml0
  have hown : s.vm.findClass "java/math/BigDecimal" = some m.cls := findClass_of_methodNamed Bd.named
  have X0 : Stand p l e ({ frames := 1, cells := 0, slots := 0, locals := 13 } : Room) s m #[(.long 3), (.int 0)] below meth c s₁ [] 0 0 := Stand.of_body Bd
  have e0 : s₁.heap = h0 := by rw [← hh, Bd.state]; rfl
  have N0 := Fr.nil n0
  have pre0 : ∀ t, Steps p.tables e below (s₁.setTop (mkF m 0 #[.val (.long 3), .second, iv 0] [])) t → Steps p.tables e below (s₁.setTop (entryFrame m #[(.long 3), (.int 0)] 3)) t := fun t k => castTop (ef_13 m 3 0) k
  obtain ⟨_, _, ⟨T1, L1, k1, n1⟩, -, X1, ⟨Lc1, hQ1, l1, y1, z1⟩, st1⟩ := Jvm.LawKit.callS X0 hx (y := (⟨"java/math/BigDecimal", "valueOf", "(J)Ljava/math/BigDecimal;"⟩ : MethodName)) hown (mvT hZ (w_72 hw)) (mvT hZ (w_73 hw)) (mvT hZ (w_29 hw)) (mvT hZ (w_74 hw)) (by decide) (backOf (W := 0) (rm14_1 l Z a0 hw [] a_ONE a_ZTT e_2 e_3 h0 n0 FF OO) hZ (w_74 hw) (w_29 hw) (by decide) (by decide)) (g := (mkF m 5 #[.val (.long 3), .second, iv 0] [(.long 3)])) rfl (by rw [hml]; rfl) (argsL := [(.long 3)]) (rest := []) (lenOf pd_7 rfl) rfl (by show 2 * 0 + _ ≤ _; exact Nat.le_of_eq rfl) (hb hby d13_5) (fun _ _ => ⟨rfl, e0, (by decide : 0 + 0 ≤ _), (by decide : 0 + 0 ≤ _)⟩)
  dsimp only [Pt.U, Pt.locs, Pt.cells, Pt.slots] at X1 l1 y1 z1 st1 hQ1
  subst l1 y1 z1
  obtain ⟨rfl, N1q, e1⟩ := hQ1
  have N1 := Fr.app N0 N1q
  obtain ⟨fs, hr, hrun, hended, hW, hsame⟩ := X1.leave (v := some (.ref e_3)) (fun h => by rw [Bd.returns] at h; cases h)
  refine ⟨_, _, pre0 _ ?_, hrun, hended, _, _, rfl, ?_, ⟨_, rfl⟩, hW, hsame.mono (by decide) (by decide)⟩
  · show Steps p.tables e below (s₁.setTop (mkF m 0 #[.val (.long 3), .second, iv 0] [])) _
    refine XS.iloadN X0.here hx rfl (hb hby d13_0) rfl ?_
    refine XS.ifNo X0.here hx rfl (hb hby d13_1) rfl (by decide) ?_
    refine XS.lloadN X0.here hx rfl (hb hby d13_4) rfl ?_
    refine st1 _ ?_
    show Steps p.tables e below (T1.setTop (mkF m 8 #[.val (.long 3), .second, iv 0] [(.ref e_3)])) _
    exact retOut X1 hx Bd.returns rfl (Or.inr (Or.inr (Or.inr (Or.inr ⟨rfl, rfl, rfl⟩)))) (hb hby d13_8) hr
  · show Q13_1 Z a_ONE a_ZTT e_2 e_3 h0 n0 _ T1.heap _
    exact ⟨rfl, N1, e1⟩
def Q11_1 (Z : State) (a_ONE : Addr) (a_ZTT : Addr) (e_2 : Addr) (e_3 : Addr) (h0 : Heap) (n0 : Nat) (v : Option Value) (h : Heap) (L : List Loc) : Prop := v = some (.ref e_3) ∧ Fr n0 L ∧ h = h0
set_option maxRecDepth 65536 in
set_option maxHeartbeats 40000000 in
theorem rm11_1 (l : Launch) (Z : State) (a0 : Array Value) (hw : ∀ d ∈ tables_1, d.before a0 Z = true) (ws : List Jvm.Cond) (a_ONE : Addr) (a_ZTT : Addr) (e_2 : Addr) (e_3 : Addr) (h0 : Heap) (n0 : Nat) (FF : Facts Z Z.heap a_ONE a_ZTT e_2 e_3) (OO : Old Z n0 h0) :
    MetFree l (⟨"java/math/BigDecimal", "add", "(JJI)Ljava/math/BigDecimal;"⟩ : MethodName) (head1 (Jvm.Cond.code (⟨"java/math/BigDecimal", "add", "(JJI)Ljava/math/BigDecimal;"⟩ : MethodName) jdk_17_method_133_code 7 (some (.object "java/math/BigDecimal")) :: ws) ({ frames := 2, cells := 0, slots := 0, locals := 27 } : Room)) (fun a U => a = #[(.long 2), (.long 1), (.int 0)] ∧ Z.Warmed39 U.vm ∧ U.heap = h0) (fun _ _ _ _ _ => True) (fun _ U o U' => ∃ v L, o = .returned v ∧ Q11_1 Z a_ONE a_ZTT e_2 e_3 h0 n0 v U'.heap L ∧ FrameEnd U o U' L ({ frames := 2, cells := 0, slots := 0, locals := 27 } : Room).cells ({ frames := 2, cells := 0, slots := 0, locals := 27 } : Room).slots) := by
  refine MetFree.of_bodySF (plainFor_of_name pn_11) hisR ?_
  intro p e s m args below meth c s₁ Bd hml0 hP hK
  obtain ⟨rfl, hZ, hh⟩ := hP
  have hx := Bd.exec
  have hby := Bd.bytes
  have hml : c.maxLocals = 7 := hml0
  have hown : s.vm.findClass "java/math/BigDecimal" = some m.cls := findClass_of_methodNamed Bd.named
  have X0 : Stand p l e ({ frames := 2, cells := 0, slots := 0, locals := 27 } : Room) s m #[(.long 2), (.long 1), (.int 0)] below meth c s₁ [] 0 0 := Stand.of_body Bd
  have e0 : s₁.heap = h0 := by rw [← hh, Bd.state]; rfl
  have N0 := Fr.nil n0
  have pre0 : ∀ t, Steps p.tables e below (s₁.setTop (mkF m 0 #[.val (.long 2), .second, .val (.long 1), .second, iv 0, .unset, .unset] [])) t → Steps p.tables e below (s₁.setTop (entryFrame m #[(.long 2), (.long 1), (.int 0)] 7)) t := fun t k => castTop (ef_11 m 2 1 0) k
  obtain ⟨_, _, ⟨T1, L1, k1, n1⟩, -, X1, ⟨Lc1, hQ1, l1, y1, z1⟩, st1⟩ := Jvm.LawKit.callS X0 hx (y := (⟨"java/math/BigDecimal", "add", "(JJ)J"⟩ : MethodName)) hown (mvT hZ (w_66 hw)) (mvT hZ (w_67 hw)) (mvT hZ (w_29 hw)) (mvT hZ (w_68 hw)) (by decide) (backOf (W := 0) (rm12_1 l Z a0 hw [] a_ONE a_ZTT e_2 e_3 h0 n0 FF OO) hZ (w_68 hw) (w_29 hw) (by decide) (by decide)) (g := (mkF m 2 #[.val (.long 2), .second, .val (.long 1), .second, iv 0, .unset, .unset] [(.long 1), (.long 2)])) rfl (by rw [hml]; rfl) (argsL := [(.long 2), (.long 1)]) (rest := []) (lenOf pd_6 rfl) rfl (by show 2 * 0 + _ ≤ _; exact Nat.le_of_eq rfl) (hb hby d11_2) (fun _ _ => ⟨rfl, e0, (by decide : 0 + 0 ≤ _), (by decide : 0 + 0 ≤ _)⟩)
  dsimp only [Pt.U, Pt.locs, Pt.cells, Pt.slots] at X1 l1 y1 z1 st1 hQ1
  subst l1 y1 z1
  obtain ⟨rfl, N1q, e1⟩ := hQ1
  have N1 := Fr.app N0 N1q
  obtain ⟨_, _, ⟨T2, L2, k2, n2⟩, -, X2, ⟨Lc2, hQ2, l2, y2, z2⟩, st2⟩ := Jvm.LawKit.callS X1 hx (y := (⟨"java/math/BigDecimal", "valueOf", "(JI)Ljava/math/BigDecimal;"⟩ : MethodName)) hown (mvT hZ (w_69 hw)) (mvT hZ (w_70 hw)) (mvT hZ (w_29 hw)) (mvT hZ (w_71 hw)) (by decide) (backOf (W := 0) (rm13_1 l Z a0 hw [] a_ONE a_ZTT e_2 e_3 h0 n0 FF OO) hZ (w_71 hw) (w_29 hw) (by decide) (by decide)) (g := (mkF m 20 #[.val (.long 2), .second, .val (.long 1), .second, iv 0, .val (.long 3), .second] [(.int 0), (.long 3)])) rfl (by rw [hml]; rfl) (argsL := [(.long 3), (.int 0)]) (rest := []) (lenOf pd_8 rfl) rfl (by show 2 * 0 + _ ≤ _; exact Nat.le_of_eq rfl) (hb hby d11_20) (fun _ _ => ⟨rfl, e1, (by decide : 0 + 0 ≤ _), (by decide : 0 + 0 ≤ _)⟩)
  dsimp only [Pt.U, Pt.locs, Pt.cells, Pt.slots] at X2 l2 y2 z2 st2 hQ2
  subst l2 y2 z2
  obtain ⟨rfl, N2q, e2⟩ := hQ2
  have N2 := Fr.app N1 N2q
  obtain ⟨fs, hr, hrun, hended, hW, hsame⟩ := X2.leave (v := some (.ref e_3)) (fun h => by rw [Bd.returns] at h; cases h)
  refine ⟨_, _, pre0 _ ?_, hrun, hended, _, _, rfl, ?_, ⟨_, rfl⟩, hW, hsame.mono (by decide) (by decide)⟩
  · show Steps p.tables e below (s₁.setTop (mkF m 0 #[.val (.long 2), .second, .val (.long 1), .second, iv 0, .unset, .unset] [])) _
    refine XS.lloadN X0.here hx rfl (hb hby d11_0) rfl ?_
    refine XS.lloadN X0.here hx rfl (hb hby d11_1) rfl ?_
    refine st1 _ ?_
    refine XS.lstore X1.here hx rfl (hb hby d11_5) rfl (l' := #[.val (.long 2), .second, .val (.long 1), .second, iv 0, .val (.long 3), .second]) rfl ?_
    show Steps p.tables e below (T1.setTop (mkF m 7 #[.val (.long 2), .second, .val (.long 1), .second, iv 0, .val (.long 3), .second] [])) _
    refine XS.lload X1.here hx rfl (hb hby d11_7) rfl ?_
    refine X1.ldc2Long hx hown (mvT hZ (w_57 hw)) (g := (mkF m 9 #[.val (.long 2), .second, .val (.long 1), .second, iv 0, .val (.long 3), .second] [(.long 3)])) rfl (hb hby d11_9) _ ?_
    refine XS.lcmp X1.here hx rfl (hb hby d11_12) rfl ?_
    show Steps p.tables e below (T1.setTop (mkF m 13 #[.val (.long 2), .second, .val (.long 1), .second, iv 0, .val (.long 3), .second] [(.int (if (3 : Int64) > (-9223372036854775808 : Int64) then 1 else if (3 : Int64) = (-9223372036854775808 : Int64) then 0 else -1))])) _
    rw [(by decide : (if (3 : Int64) > (-9223372036854775808 : Int64) then 1 else if (3 : Int64) = (-9223372036854775808 : Int64) then 0 else -1) = (1 : Int32))]
    refine XS.ifNo X1.here hx rfl (hb hby d11_13) rfl (by decide) ?_
    refine XS.lload X1.here hx rfl (hb hby d11_16) rfl ?_
    refine XS.iload X1.here hx rfl (hb hby d11_18) rfl ?_
    show Steps p.tables e below (T1.setTop (mkF m 20 #[.val (.long 2), .second, .val (.long 1), .second, iv 0, .val (.long 3), .second] [(.int 0), (.long 3)])) _
    refine st2 _ ?_
    exact retOut X2 hx Bd.returns rfl (Or.inr (Or.inr (Or.inr (Or.inr ⟨rfl, rfl, rfl⟩)))) (hb hby d11_23) hr
  · show Q11_1 Z a_ONE a_ZTT e_2 e_3 h0 n0 _ T2.heap _
    exact ⟨rfl, N2, e2⟩
def Q10_1 (Z : State) (a_ONE : Addr) (a_ZTT : Addr) (e_2 : Addr) (e_3 : Addr) (h0 : Heap) (n0 : Nat) (v : Option Value) (h : Heap) (L : List Loc) : Prop := v = some (.ref e_3) ∧ Fr n0 L ∧ h = h0
set_option maxRecDepth 65536 in
set_option maxHeartbeats 40000000 in
theorem rm10_1 (l : Launch) (Z : State) (a0 : Array Value) (hw : ∀ d ∈ tables_1, d.before a0 Z = true) (ws : List Jvm.Cond) (a_ONE : Addr) (a_ZTT : Addr) (e_2 : Addr) (e_3 : Addr) (h0 : Heap) (n0 : Nat) (FF : Facts Z Z.heap a_ONE a_ZTT e_2 e_3) (OO : Old Z n0 h0) :
    MetFree l (⟨"java/math/BigDecimal", "add", "(JIJI)Ljava/math/BigDecimal;"⟩ : MethodName) (head1 (Jvm.Cond.code (⟨"java/math/BigDecimal", "add", "(JIJI)Ljava/math/BigDecimal;"⟩ : MethodName) jdk_17_method_134_code 12 (some (.object "java/math/BigDecimal")) :: ws) ({ frames := 3, cells := 0, slots := 0, locals := 45 } : Room)) (fun a U => a = #[(.long 2), (.int 0), (.long 1), (.int 0)] ∧ Z.Warmed39 U.vm ∧ U.heap = h0) (fun _ _ _ _ _ => True) (fun _ U o U' => ∃ v L, o = .returned v ∧ Q10_1 Z a_ONE a_ZTT e_2 e_3 h0 n0 v U'.heap L ∧ FrameEnd U o U' L ({ frames := 3, cells := 0, slots := 0, locals := 45 } : Room).cells ({ frames := 3, cells := 0, slots := 0, locals := 45 } : Room).slots) := by
  refine MetFree.of_bodySF (plainFor_of_name pn_10) hisR ?_
  intro p e s m args below meth c s₁ Bd hml0 hP hK
  obtain ⟨rfl, hZ, hh⟩ := hP
  have hx := Bd.exec
  have hby := Bd.bytes
  have hml : c.maxLocals = 12 := hml0
  have hown : s.vm.findClass "java/math/BigDecimal" = some m.cls := findClass_of_methodNamed Bd.named
  have X0 : Stand p l e ({ frames := 3, cells := 0, slots := 0, locals := 45 } : Room) s m #[(.long 2), (.int 0), (.long 1), (.int 0)] below meth c s₁ [] 0 0 := Stand.of_body Bd
  have e0 : s₁.heap = h0 := by rw [← hh, Bd.state]; rfl
  have N0 := Fr.nil n0
  have pre0 : ∀ t, Steps p.tables e below (s₁.setTop (mkF m 0 #[.val (.long 2), .second, iv 0, .val (.long 1), .second, iv 0, .unset, .unset, .unset, .unset, .unset, .unset] [])) t → Steps p.tables e below (s₁.setTop (entryFrame m #[(.long 2), (.int 0), (.long 1), (.int 0)] 12)) t := fun t k => castTop (ef_10 m 2 0 1 0) k
  obtain ⟨_, _, ⟨T1, L1, k1, n1⟩, -, X1, ⟨Lc1, hQ1, l1, y1, z1⟩, st1⟩ := Jvm.LawKit.callS X0 hx (y := (⟨"java/math/BigDecimal", "add", "(JJI)Ljava/math/BigDecimal;"⟩ : MethodName)) hown (mvT hZ (w_63 hw)) (mvT hZ (w_64 hw)) (mvT hZ (w_29 hw)) (mvT hZ (w_65 hw)) (by decide) (backOf (W := 0) (rm11_1 l Z a0 hw [] a_ONE a_ZTT e_2 e_3 h0 n0 FF OO) hZ (w_65 hw) (w_29 hw) (by decide) (by decide)) (g := (mkF m 18 #[.val (.long 2), .second, iv 0, .val (.long 1), .second, iv 0, .val (.long 0), .second, .unset, .unset, .unset, .unset] [(.int 0), (.long 1), (.long 2)])) rfl (by rw [hml]; rfl) (argsL := [(.long 2), (.long 1), (.int 0)]) (rest := []) (lenOf pd_9 rfl) rfl (by show 2 * 0 + _ ≤ _; exact Nat.le_of_eq rfl) (hb hby d10_18) (fun _ _ => ⟨rfl, e0, (by decide : 0 + 0 ≤ _), (by decide : 0 + 0 ≤ _)⟩)
  dsimp only [Pt.U, Pt.locs, Pt.cells, Pt.slots] at X1 l1 y1 z1 st1 hQ1
  subst l1 y1 z1
  obtain ⟨rfl, N1q, e1⟩ := hQ1
  have N1 := Fr.app N0 N1q
  obtain ⟨fs, hr, hrun, hended, hW, hsame⟩ := X1.leave (v := some (.ref e_3)) (fun h => by rw [Bd.returns] at h; cases h)
  refine ⟨_, _, pre0 _ ?_, hrun, hended, _, _, rfl, ?_, ⟨_, rfl⟩, hW, hsame.mono (by decide) (by decide)⟩
  · show Steps p.tables e below (s₁.setTop (mkF m 0 #[.val (.long 2), .second, iv 0, .val (.long 1), .second, iv 0, .unset, .unset, .unset, .unset, .unset, .unset] [])) _
    refine XS.iloadN X0.here hx rfl (hb hby d10_0) rfl ?_
    refine XS.i2l X0.here hx rfl (hb hby d10_1) rfl ?_
    show Steps p.tables e below (s₁.setTop (mkF m 2 #[.val (.long 2), .second, iv 0, .val (.long 1), .second, iv 0, .unset, .unset, .unset, .unset, .unset, .unset] [(.long ((0 : Int32).toInt64))])) _
    rw [(by decide : ((0 : Int32).toInt64) = (0 : Int64))]
    refine XS.iload X0.here hx rfl (hb hby d10_2) rfl ?_
    refine XS.i2l X0.here hx rfl (hb hby d10_4) rfl ?_
    show Steps p.tables e below (s₁.setTop (mkF m 5 #[.val (.long 2), .second, iv 0, .val (.long 1), .second, iv 0, .unset, .unset, .unset, .unset, .unset, .unset] [(.long ((0 : Int32).toInt64)), (.long 0)])) _
    rw [(by decide : ((0 : Int32).toInt64) = (0 : Int64))]
    refine XS.lsub X0.here hx rfl (hb hby d10_5) rfl ?_
    show Steps p.tables e below (s₁.setTop (mkF m 6 #[.val (.long 2), .second, iv 0, .val (.long 1), .second, iv 0, .unset, .unset, .unset, .unset, .unset, .unset] [(.long ((0 : Int64) - (0 : Int64)))])) _
    rw [(by decide : ((0 : Int64) - (0 : Int64)) = (0 : Int64))]
    refine XS.lstore X0.here hx rfl (hb hby d10_6) rfl (l' := #[.val (.long 2), .second, iv 0, .val (.long 1), .second, iv 0, .val (.long 0), .second, .unset, .unset, .unset, .unset]) rfl ?_
    refine XS.lload X0.here hx rfl (hb hby d10_8) rfl ?_
    refine XS.lconst X0.here hx rfl (hb hby d10_10) ?_
    show Steps p.tables e below (s₁.setTop (mkF m 11 #[.val (.long 2), .second, iv 0, .val (.long 1), .second, iv 0, .val (.long 0), .second, .unset, .unset, .unset, .unset] [(.long 0), (.long 0)])) _
    refine XS.lcmp X0.here hx rfl (hb hby d10_11) rfl ?_
    show Steps p.tables e below (s₁.setTop (mkF m 12 #[.val (.long 2), .second, iv 0, .val (.long 1), .second, iv 0, .val (.long 0), .second, .unset, .unset, .unset, .unset] [(.int (if (0 : Int64) > (0 : Int64) then 1 else if (0 : Int64) = (0 : Int64) then 0 else -1))])) _
    rw [(by decide : (if (0 : Int64) > (0 : Int64) then 1 else if (0 : Int64) = (0 : Int64) then 0 else -1) = (0 : Int32))]
    refine XS.ifNo X0.here hx rfl (hb hby d10_12) rfl (by decide) ?_
    refine XS.lloadN X0.here hx rfl (hb hby d10_15) rfl ?_
    refine XS.lloadN X0.here hx rfl (hb hby d10_16) rfl ?_
    show Steps p.tables e below (s₁.setTop (mkF m 17 #[.val (.long 2), .second, iv 0, .val (.long 1), .second, iv 0, .val (.long 0), .second, .unset, .unset, .unset, .unset] [(.long 1), (.long 2)])) _
    refine XS.iloadN X0.here hx rfl (hb hby d10_17) rfl ?_
    refine st1 _ ?_
    exact retOut X1 hx Bd.returns rfl (Or.inr (Or.inr (Or.inr (Or.inr ⟨rfl, rfl, rfl⟩)))) (hb hby d10_21) hr
  · show Q10_1 Z a_ONE a_ZTT e_2 e_3 h0 n0 _ T1.heap _
    exact ⟨rfl, N1, e1⟩
def Q9_1 (Z : State) (a_ONE : Addr) (a_ZTT : Addr) (e_2 : Addr) (e_3 : Addr) (h0 : Heap) (n0 : Nat) (v : Option Value) (h : Heap) (L : List Loc) : Prop := v = some (.ref e_3) ∧ Fr n0 L ∧ h = h0
set_option maxRecDepth 65536 in
set_option maxHeartbeats 40000000 in
theorem rm9_1 (l : Launch) (Z : State) (a0 : Array Value) (hw : ∀ d ∈ tables_1, d.before a0 Z = true) (ws : List Jvm.Cond) (a_ONE : Addr) (a_ZTT : Addr) (e_2 : Addr) (e_3 : Addr) (h0 : Heap) (n0 : Nat) (FF : Facts Z Z.heap a_ONE a_ZTT e_2 e_3) (OO : Old Z n0 h0) :
    MetFree l (⟨"java/math/BigDecimal", "add", "(Ljava/math/BigDecimal;)Ljava/math/BigDecimal;"⟩ : MethodName) (head1 (Jvm.Cond.code (⟨"java/math/BigDecimal", "add", "(Ljava/math/BigDecimal;)Ljava/math/BigDecimal;"⟩ : MethodName) jdk_17_method_26_code 2 (some (.object "java/math/BigDecimal")) :: ws) ({ frames := 4, cells := 0, slots := 0, locals := 68 } : Room)) (fun a U => a = #[(.ref e_2), (.ref a_ONE)] ∧ Z.Warmed39 U.vm ∧ U.heap = h0) (fun _ _ _ _ _ => True) (fun _ U o U' => ∃ v L, o = .returned v ∧ Q9_1 Z a_ONE a_ZTT e_2 e_3 h0 n0 v U'.heap L ∧ FrameEnd U o U' L ({ frames := 4, cells := 0, slots := 0, locals := 68 } : Room).cells ({ frames := 4, cells := 0, slots := 0, locals := 68 } : Room).slots) := by
  refine MetFree.of_bodySF (plainFor_of_name pn_9) hisR ?_
  intro p e s m args below meth c s₁ Bd hml0 hP hK
  obtain ⟨rfl, hZ, hh⟩ := hP
  have hx := Bd.exec
  have hby := Bd.bytes
  have hml : c.maxLocals = 2 := hml0
  have hown : s.vm.findClass "java/math/BigDecimal" = some m.cls := findClass_of_methodNamed Bd.named
  have X0 : Stand p l e ({ frames := 4, cells := 0, slots := 0, locals := 68 } : Room) s m #[(.ref e_2), (.ref a_ONE)] below meth c s₁ [] 0 0 := Stand.of_body Bd
  have e0 : s₁.heap = h0 := by rw [← hh, Bd.state]; rfl
  have N0 := Fr.nil n0
  have pre0 : ∀ t, Steps p.tables e below (s₁.setTop (mkF m 0 #[rv e_2, rv a_ONE] [])) t → Steps p.tables e below (s₁.setTop (entryFrame m #[(.ref e_2), (.ref a_ONE)] 2)) t := fun t k => castTop (ef_9 m e_2 a_ONE) k
  obtain ⟨T1, X1, e1, st1⟩ := getF X0 hx hZ hown (host := "") (Or.inl (w_55 hw)) Via.refl e0 (Fld.ext OO.2 (fx_F_e_2_intCompact FF)) (g := (mkF m 1 #[rv e_2, rv a_ONE] [(.ref e_2)])) rfl rfl (hb hby d9_1)
  obtain ⟨T2, X2, e2, st2⟩ := getF X1 hx hZ hown (host := "") (Or.inl (w_55 hw)) Via.refl e1 (Fld.ext OO.2 (fx_F_a_ONE_intCompact FF)) (g := (mkF m 12 #[rv e_2, rv a_ONE] [(.ref a_ONE)])) rfl rfl (hb hby d9_12)
  obtain ⟨T3, X3, e3, st3⟩ := getF X2 hx hZ hown (host := "") (Or.inl (w_55 hw)) Via.refl e2 (Fld.ext OO.2 (fx_F_e_2_intCompact FF)) (g := (mkF m 23 #[rv e_2, rv a_ONE] [(.ref e_2)])) rfl rfl (hb hby d9_23)
  obtain ⟨T4, X4, e4, st4⟩ := getF X3 hx hZ hown (host := "") (Or.inl (w_58 hw)) Via.refl e3 (Fld.ext OO.2 (fx_F_e_2_scale FF)) (g := (mkF m 27 #[rv e_2, rv a_ONE] [(.ref e_2), (.long 2)])) rfl rfl (hb hby d9_27)
  obtain ⟨T5, X5, e5, st5⟩ := getF X4 hx hZ hown (host := "") (Or.inl (w_55 hw)) Via.refl e4 (Fld.ext OO.2 (fx_F_a_ONE_intCompact FF)) (g := (mkF m 31 #[rv e_2, rv a_ONE] [(.ref a_ONE), (.int 0), (.long 2)])) rfl rfl (hb hby d9_31)
  obtain ⟨T6, X6, e6, st6⟩ := getF X5 hx hZ hown (host := "") (Or.inl (w_58 hw)) Via.refl e5 (Fld.ext OO.2 (fx_F_a_ONE_scale FF)) (g := (mkF m 35 #[rv e_2, rv a_ONE] [(.ref a_ONE), (.long 1), (.int 0), (.long 2)])) rfl rfl (hb hby d9_35)
  obtain ⟨_, _, ⟨T7, L7, k7, n7⟩, -, X7, ⟨Lc7, hQ7, l7, y7, z7⟩, st7⟩ := Jvm.LawKit.callS X6 hx (y := (⟨"java/math/BigDecimal", "add", "(JIJI)Ljava/math/BigDecimal;"⟩ : MethodName)) hown (mvT hZ (w_60 hw)) (mvT hZ (w_61 hw)) (mvT hZ (w_29 hw)) (mvT hZ (w_62 hw)) (by decide) (backOf (W := 0) (rm10_1 l Z a0 hw [] a_ONE a_ZTT e_2 e_3 h0 n0 FF OO) hZ (w_62 hw) (w_29 hw) (by decide) (by decide)) (g := (mkF m 38 #[rv e_2, rv a_ONE] [(.int 0), (.long 1), (.int 0), (.long 2)])) rfl (by rw [hml]; rfl) (argsL := [(.long 2), (.int 0), (.long 1), (.int 0)]) (rest := []) (lenOf pd_10 rfl) rfl (by show 2 * 0 + _ ≤ _; exact Nat.le_of_eq rfl) (hb hby d9_38) (fun _ _ => ⟨rfl, e6, (by decide : 0 + 0 ≤ _), (by decide : 0 + 0 ≤ _)⟩)
  dsimp only [Pt.U, Pt.locs, Pt.cells, Pt.slots] at X7 l7 y7 z7 st7 hQ7
  subst l7 y7 z7
  obtain ⟨rfl, N7q, e7⟩ := hQ7
  have N7 := Fr.app N0 N7q
  obtain ⟨fs, hr, hrun, hended, hW, hsame⟩ := X7.leave (v := some (.ref e_3)) (fun h => by rw [Bd.returns] at h; cases h)
  refine ⟨_, _, pre0 _ ?_, hrun, hended, _, _, rfl, ?_, ⟨_, rfl⟩, hW, hsame.mono (by decide) (by decide)⟩
  · show Steps p.tables e below (s₁.setTop (mkF m 0 #[rv e_2, rv a_ONE] [])) _
    refine XS.aloadN X0.here hx rfl (hb hby d9_0) rfl rfl ?_
    refine st1 _ ?_
    refine X1.ldc2Long hx hown (mvT hZ (w_57 hw)) (g := (mkF m 4 #[rv e_2, rv a_ONE] [(.long 2)])) rfl (hb hby d9_4) _ ?_
    refine XS.lcmp X1.here hx rfl (hb hby d9_7) rfl ?_
    show Steps p.tables e below (T1.setTop (mkF m 8 #[rv e_2, rv a_ONE] [(.int (if (2 : Int64) > (-9223372036854775808 : Int64) then 1 else if (2 : Int64) = (-9223372036854775808 : Int64) then 0 else -1))])) _
    rw [(by decide : (if (2 : Int64) > (-9223372036854775808 : Int64) then 1 else if (2 : Int64) = (-9223372036854775808 : Int64) then 0 else -1) = (1 : Int32))]
    refine XS.ifNo X1.here hx rfl (hb hby d9_8) rfl (by decide) ?_
    refine XS.aloadN X1.here hx rfl (hb hby d9_11) rfl rfl ?_
    refine st2 _ ?_
    show Steps p.tables e below (T2.setTop (mkF m 15 #[rv e_2, rv a_ONE] [(.long 1)])) _
    refine X2.ldc2Long hx hown (mvT hZ (w_57 hw)) (g := (mkF m 15 #[rv e_2, rv a_ONE] [(.long 1)])) rfl (hb hby d9_15) _ ?_
    refine XS.lcmp X2.here hx rfl (hb hby d9_18) rfl ?_
    show Steps p.tables e below (T2.setTop (mkF m 19 #[rv e_2, rv a_ONE] [(.int (if (1 : Int64) > (-9223372036854775808 : Int64) then 1 else if (1 : Int64) = (-9223372036854775808 : Int64) then 0 else -1))])) _
    rw [(by decide : (if (1 : Int64) > (-9223372036854775808 : Int64) then 1 else if (1 : Int64) = (-9223372036854775808 : Int64) then 0 else -1) = (1 : Int32))]
    refine XS.ifNo X2.here hx rfl (hb hby d9_19) rfl (by decide) ?_
    refine XS.aloadN X2.here hx rfl (hb hby d9_22) rfl rfl ?_
    refine st3 _ ?_
    show Steps p.tables e below (T3.setTop (mkF m 26 #[rv e_2, rv a_ONE] [(.long 2)])) _
    refine XS.aloadN X3.here hx rfl (hb hby d9_26) rfl rfl ?_
    refine st4 _ ?_
    refine XS.aloadN X4.here hx rfl (hb hby d9_30) rfl rfl ?_
    refine st5 _ ?_
    show Steps p.tables e below (T5.setTop (mkF m 34 #[rv e_2, rv a_ONE] [(.long 1), (.int 0), (.long 2)])) _
    refine XS.aloadN X5.here hx rfl (hb hby d9_34) rfl rfl ?_
    refine st6 _ ?_
    refine st7 _ ?_
    exact retOut X7 hx Bd.returns rfl (Or.inr (Or.inr (Or.inr (Or.inr ⟨rfl, rfl, rfl⟩)))) (hb hby d9_41) hr
  · show Q9_1 Z a_ONE a_ZTT e_2 e_3 h0 n0 _ T7.heap _
    exact ⟨rfl, N7, e7⟩
def Q5_11 (Z : State) (a_ONE : Addr) (a_ZTT : Addr) (e_2 : Addr) (e_3 : Addr) (t0 : Int32) (t1 : Int32) (t2 : Int32) (t3 : Int32) (t4 : Int32) (o0 : Addr) (o1 : Addr) (o2 : Addr) (j0 : ClassId) (j1 : ClassId) (h0 : Heap) (n0 : Nat) (v : Option Value) (h : Heap) (L : List Loc) : Prop := v = none ∧ Fr n0 L ∧ Keep h0 h [o2] ∧ Arv Z h o2 j1 (.object "java/math/BigDecimal") (4 : Int32) [(.ref e_3), .null, .null, .null] .null ∧ Ovr Z j1 "java/math/BigDecimal" ∧ Exa Z h o2 "[Ljava/math/BigDecimal;"
set_option maxRecDepth 65536 in
set_option maxHeartbeats 40000000 in
theorem rm5_11 (l : Launch) (Z : State) (a0 : Array Value) (hw : ∀ d ∈ tables_1, d.before a0 Z = true) (ws : List Jvm.Cond) (a_ONE : Addr) (a_ZTT : Addr) (e_2 : Addr) (e_3 : Addr) (t0 : Int32) (t1 : Int32) (t2 : Int32) (t3 : Int32) (t4 : Int32) (o0 : Addr) (o1 : Addr) (o2 : Addr) (j0 : ClassId) (j1 : ClassId) (h0 : Heap) (n0 : Nat) (FF : Facts Z Z.heap a_ONE a_ZTT e_2 e_3) (OO : Old Z n0 h0) (f0 : Fld Z h0 o0 "com/example/deferra/deferra/crediting/DailyAmounts" "days" "[I" (.ref o1)) (f1 : Fld Z h0 o0 "com/example/deferra/deferra/crediting/DailyAmounts" "size" "I" (.int 1)) (f2 : Arv Z h0 o1 j0 .int (4 : Int32) [(.int t0), (.int t2), (.int t3), (.int t4)] (.int 0)) (f3 : Fld Z h0 o0 "com/example/deferra/deferra/crediting/DailyAmounts" "amounts" "[Ljava/math/BigDecimal;" (.ref o2)) (f4 : Arv Z h0 o2 j1 (.object "java/math/BigDecimal") (4 : Int32) [(.ref e_2), .null, .null, .null] .null) (f5 : Ovr Z j1 "java/math/BigDecimal") (u0 : n0 ≤ o2) (f6 : Exa Z h0 o2 "[Ljava/math/BigDecimal;") (hq0 : ¬ (t0 < t1)) (hq1 : ¬ (t1 < t0)) :
    MetFree l (⟨"com/example/deferra/deferra/crediting/DailyAmounts", "add", "(ILjava/math/BigDecimal;)V"⟩ : MethodName) (head1 (Jvm.Cond.code (⟨"com/example/deferra/deferra/crediting/DailyAmounts", "add", "(ILjava/math/BigDecimal;)V"⟩ : MethodName) prog_24_method_2_code 5 none :: ws) ({ frames := 5, cells := 0, slots := 0, locals := 83 } : Room)) (fun a U => a = #[(.ref o0), (.int t1), (.ref a_ONE)] ∧ Z.Warmed39 U.vm ∧ U.heap = h0) (fun _ _ _ _ _ => True) (fun _ U o U' => ∃ v L, o = .returned v ∧ Q5_11 Z a_ONE a_ZTT e_2 e_3 t0 t1 t2 t3 t4 o0 o1 o2 j0 j1 h0 n0 v U'.heap L ∧ FrameEnd U o U' L ({ frames := 5, cells := 0, slots := 0, locals := 83 } : Room).cells ({ frames := 5, cells := 0, slots := 0, locals := 83 } : Room).slots) := by
  refine MetFree.of_bodySF (plainFor_of_name pn_5) hisR ?_
  intro p e s m args below meth c s₁ Bd hml0 hP hK
  obtain ⟨rfl, hZ, hh⟩ := hP
  have hx := Bd.exec
  have hby := Bd.bytes
  have hml : c.maxLocals = 5 := hml0
  have hown : s.vm.findClass "com/example/deferra/deferra/crediting/DailyAmounts" = some m.cls := findClass_of_methodNamed Bd.named
  have X0 : Stand p l e ({ frames := 5, cells := 0, slots := 0, locals := 83 } : Room) s m #[(.ref o0), (.int t1), (.ref a_ONE)] below meth c s₁ [] 0 0 := Stand.of_body Bd
  have e0 : s₁.heap = h0 := by rw [← hh, Bd.state]; rfl
  have N0 := Fr.nil n0
  have pre0 : ∀ t, Steps p.tables e below (s₁.setTop (mkF m 0 #[rv o0, iv t1, rv a_ONE, .unset, .unset] [])) t → Steps p.tables e below (s₁.setTop (entryFrame m #[(.ref o0), (.int t1), (.ref a_ONE)] 5)) t := fun t k => castTop (ef_5 m o0 t1 a_ONE) k
  obtain ⟨T1, X1, e1, st1⟩ := getF X0 hx hZ hown (host := "") (Or.inl (w_10 hw)) Via.refl e0 f0 (g := (mkF m 1 #[rv o0, iv t1, rv a_ONE, .unset, .unset] [(.ref o0)])) rfl rfl (hb hby d5_1)
  obtain ⟨T2, X2, e2, st2⟩ := getF X1 hx hZ hown (host := "") (Or.inl (w_21 hw)) Via.refl e1 f1 (g := (mkF m 6 #[rv o0, iv t1, rv a_ONE, .unset, .unset] [(.ref o0), (.int 0), (.ref o1)])) rfl rfl (hb hby d5_6)
  obtain ⟨_, _, ⟨T3, L3, k3, n3⟩, -, X3, ⟨Lc3, hQ3, l3, y3, z3⟩, st3⟩ := Jvm.LawKit.callS X2 hx (y := (⟨"java/util/Arrays", "binarySearch", "([IIII)I"⟩ : MethodName)) hown (mvT hZ (w_35 hw)) (mvT hZ (w_36 hw)) (mvT hZ (w_37 hw)) (mvT hZ (w_38 hw)) (by decide) (backOf (W := 0) (rm6_3 l Z a0 hw [] a_ONE a_ZTT e_2 e_3 t0 t1 t2 t3 t4 o1 j0 h0 n0 FF OO f2 hq0 hq1) hZ (w_38 hw) (w_37 hw) (by decide) (by decide)) (g := (mkF m 10 #[rv o0, iv t1, rv a_ONE, .unset, .unset] [(.int t1), (.int 1), (.int 0), (.ref o1)])) rfl (by rw [hml]; rfl) (argsL := [(.ref o1), (.int 0), (.int 1), (.int t1)]) (rest := []) (lenOf pd_4 rfl) rfl (by show 2 * 0 + _ ≤ _; exact Nat.le_of_eq rfl) (hb hby d5_10) (fun _ _ => ⟨rfl, e2, (by decide : 0 + 0 ≤ _), (by decide : 0 + 0 ≤ _)⟩)
  dsimp only [Pt.U, Pt.locs, Pt.cells, Pt.slots] at X3 l3 y3 z3 st3 hQ3
  subst l3 y3 z3
  obtain ⟨rfl, N3q, e3⟩ := hQ3
  have N3 := Fr.app N0 N3q
  obtain ⟨T4, X4, e4, st4⟩ := getF X3 hx hZ hown (host := "") (Or.inl (w_14 hw)) Via.refl e3 f3 (g := (mkF m 19 #[rv o0, iv t1, rv a_ONE, iv 0, .unset] [(.ref o0)])) rfl rfl (hb hby d5_19)
  obtain ⟨T5, X5, e5, st5⟩ := getF X4 hx hZ hown (host := "") (Or.inl (w_14 hw)) Via.refl e4 f3 (g := (mkF m 24 #[rv o0, iv t1, rv a_ONE, iv 0, .unset] [(.ref o0), (.int 0), (.ref o2)])) rfl rfl (hb hby d5_24)
  obtain ⟨c6, r6, q6, S6, M6, H6, G6⟩ := id f4
  have i7 : ¬ ((0 : Int32) < 0 ∨ c6.slots.size ≤ ((0 : Int32)).toNatClampNeg) := inb_of S6 ⟨by decide, by decide⟩
  have y8 : c6.slots[((0 : Int32)).toNatClampNeg]? = some (.ref e_2) := H6 0 (by rw [S6]; decide)
  obtain ⟨cq9, kq9, q9a, q9b, q9c⟩ := isOf hZ e5 (Exa.ext OO.2 (fx_E_e_2 FF))
  obtain ⟨_, _, ⟨T9, L9, k9, n9⟩, -, X9, ⟨Lc9, hQ9, l9, y9, z9⟩, st9⟩ := X5.virtualBack hx (y := (⟨"java/math/BigDecimal", "add", "(Ljava/math/BigDecimal;)Ljava/math/BigDecimal;"⟩ : MethodName)) (z := (⟨"java/math/BigDecimal", "add", "(Ljava/math/BigDecimal;)Ljava/math/BigDecimal;"⟩ : MethodName)) hown (mvT hZ (w_50 hw)) (mvT hZ (w_51 hw)) (notFace_of_selects (args := #[]) (mvT hZ (w_53 hw))) (mvT hZ (w_53 hw)) (mvT hZ (w_52 hw)) (by decide) (backOf (W := 2) (rm9_1 l Z a0 hw [] a_ONE a_ZTT e_2 e_3 h0 n0 FF OO) hZ (w_54 hw) (w_29 hw) (by decide) (by decide)) q9a q9c (g := (mkF m 30 #[rv o0, iv t1, rv a_ONE, iv 0, .unset] [(.ref a_ONE), (.ref e_2), (.int 0), (.ref o2)])) rfl (by rw [hml]; rfl) (Steps.refl _) (argsL := [(.ref a_ONE)]) (rest := [(.int 0), (.ref o2)]) (lenOf pd_11 rfl) rfl (by show 2 * 0 + _ ≤ _; exact Nat.le_of_eq rfl) (hb hby d5_30) (fun _ _ => ⟨rfl, e5, (by decide : 0 + 0 ≤ _), (by decide : 0 + 0 ≤ _)⟩)
  dsimp only [Pt.U, Pt.locs, Pt.cells, Pt.slots] at X9 l9 y9 z9 st9 hQ9
  subst l9 y9 z9
  obtain ⟨rfl, N9q, e9⟩ := hQ9
  have N9 := Fr.app N3 N9q
  obtain ⟨c10, r10, q10, S10, M10, H10, G10⟩ := id f4
  have i11 : ¬ ((0 : Int32) < 0 ∨ c10.slots.size ≤ ((0 : Int32)).toNatClampNeg) := inb_of S10 ⟨by decide, by decide⟩
  obtain ⟨T12, h12, X12, e12, W12, st12⟩ := stR X9 hx hZ e9 r10 (j := (0 : Int32)) i11 rfl (Sto.ofV r10 q10 f5 (Ins.self (Exa.ext OO.2 (fx_E_e_3 FF)))) (g := (mkF m 33 #[rv o0, iv t1, rv a_ONE, iv 0, .unset] [(.ref e_3), (.int 0), (.ref o2)])) rfl rfl (hb hby d5_33)
  have O12 := Old.wr OO W12 u0
  have KK12 : Keep h0 h12 [o2] := Keep.wr (Keep.refl h0 [o2]) W12 (Or.inl (List.mem_of_getElem? (i := 0) rfl))
  have N12 := Fr.snoc X12 N9 u0
  have F13 : Arv Z h12 o2 j1 (.object "java/math/BigDecimal") (4 : Int32) [(.ref e_3), .null, .null, .null] .null := Arv.set r10 q10 S10 M10 H10 G10 rfl W12 0 rfl (Nat.le_of_ble_eq_true rfl)
  have F14 : Exa Z h12 o2 "[Ljava/math/BigDecimal;" := (Exa.wr W12 f6)
  obtain ⟨fs, hr, hrun, hended, hW, hsame⟩ := X12.leave (v := none) (fun _ => rfl)
  refine ⟨_, _, pre0 _ ?_, hrun, hended, _, _, rfl, ?_, ⟨_, rfl⟩, hW, hsame.mono (by decide) (by decide)⟩
  · show Steps p.tables e below (s₁.setTop (mkF m 0 #[rv o0, iv t1, rv a_ONE, .unset, .unset] [])) _
    refine XS.aloadN X0.here hx rfl (hb hby d5_0) rfl rfl ?_
    refine st1 _ ?_
    refine XS.iconst X1.here hx rfl (hb hby d5_4) ?_
    refine XS.aloadN X1.here hx rfl (hb hby d5_5) rfl rfl ?_
    show Steps p.tables e below (T1.setTop (mkF m 6 #[rv o0, iv t1, rv a_ONE, .unset, .unset] [(.ref o0), (.int 0), (.ref o1)])) _
    refine st2 _ ?_
    refine XS.iloadN X2.here hx rfl (hb hby d5_9) rfl ?_
    refine st3 _ ?_
    refine XS.istoreN X3.here hx rfl (hb hby d5_13) rfl (l' := #[rv o0, iv t1, rv a_ONE, iv 0, .unset]) rfl ?_
    show Steps p.tables e below (T3.setTop (mkF m 14 #[rv o0, iv t1, rv a_ONE, iv 0, .unset] [])) _
    refine XS.iloadN X3.here hx rfl (hb hby d5_14) rfl ?_
    refine XS.ifNo X3.here hx rfl (hb hby d5_15) rfl (by decide) ?_
    refine XS.aloadN X3.here hx rfl (hb hby d5_18) rfl rfl ?_
    refine st4 _ ?_
    show Steps p.tables e below (T4.setTop (mkF m 22 #[rv o0, iv t1, rv a_ONE, iv 0, .unset] [(.ref o2)])) _
    refine XS.iloadN X4.here hx rfl (hb hby d5_22) rfl ?_
    refine XS.aloadN X4.here hx rfl (hb hby d5_23) rfl rfl ?_
    refine st5 _ ?_
    refine XS.iloadN X5.here hx rfl (hb hby d5_27) rfl ?_
    show Steps p.tables e below (T5.setTop (mkF m 28 #[rv o0, iv t1, rv a_ONE, iv 0, .unset] [(.int 0), (.ref o2), (.int 0), (.ref o2)])) _
    refine X5.aaload hx (j := (0 : Int32)) (v := (.ref e_2)) (by rw [e5]; exact r6.1) (State.isArrayOf_alike hZ.alike r6.2.1) rfl r6.2.2 i7 y8 (g := (mkF m 28 #[rv o0, iv t1, rv a_ONE, iv 0, .unset] [(.int 0), (.ref o2), (.int 0), (.ref o2)])) rfl rfl (hb hby d5_28) _ ?_
    refine XS.aloadN X5.here hx rfl (hb hby d5_29) rfl rfl ?_
    refine st9.trans ?_
    refine st12 _ ?_
    show Steps p.tables e below (T12.setTop (mkF m 34 #[rv o0, iv t1, rv a_ONE, iv 0, .unset] [])) _
    exact X12.returnOut hx Bd.returns (hb hby d5_34) hr
  · show Q5_11 Z a_ONE a_ZTT e_2 e_3 t0 t1 t2 t3 t4 o0 o1 o2 j0 j1 h0 n0 _ T12.heap _
    rw [e12]
    exact ⟨rfl, N12, KK12, F13, f5, F14⟩
set_option maxRecDepth 65536 in
set_option maxHeartbeats 40000000 in
theorem sg_32 {p : Program} {l : Launch} {e : Env} {s : State} {m : MethodId} {args : Array Value} {below : List Frame} {meth : Method} {c : Code} {T0 : State} {locs : List Loc} {Z : State} {a0 : Array Value} {h0 : Heap} {n0 : Nat} (hw : ∀ d ∈ tables_1, d.before a0 Z = true) (a_ONE : Addr) (a_ZTT : Addr) (e_2 : Addr) (e_3 : Addr) (t0 : Int32) (t1 : Int32) (t2 : Int32) (t3 : Int32) (t4 : Int32) (t5 : Int32) (t6 : Int32) (t7 : Int32) (o0 : Addr) (o1 : Addr) (o2 : Addr) (j0 : ClassId) (j1 : ClassId) (FF : Facts Z Z.heap a_ONE a_ZTT e_2 e_3)
    (X0 : Stand p l e room_1 s m args below meth c T0 locs 3 11) (hx : p.tables.exec = Jvm.exec) (hZ : Z.Warmed39 s.vm) (hby : c.code = code) (hml : c.maxLocals = 8) (hown : s.vm.findClass "com/example/deferra/deferra/crediting/DailyAmountsIsEmptyPinLaw" = some m.cls) (e0 : T0.heap = h0) (N0 : Fr n0 locs) (OO : Old Z n0 h0) (f0 : Fld Z h0 o0 "com/example/deferra/deferra/crediting/DailyAmounts" "days" "[I" (.ref o1)) (f1 : Fld Z h0 o0 "com/example/deferra/deferra/crediting/DailyAmounts" "size" "I" (.int 1)) (f2 : Arv Z h0 o1 j0 .int (4 : Int32) [(.int t0), (.int t2), (.int t3), (.int t4)] (.int 0)) (f3 : Fld Z h0 o0 "com/example/deferra/deferra/crediting/DailyAmounts" "amounts" "[Ljava/math/BigDecimal;" (.ref o2)) (f4 : Arv Z h0 o2 j1 (.object "java/math/BigDecimal") (4 : Int32) [(.ref e_2), .null, .null, .null] .null) (f5 : Ovr Z j1 "java/math/BigDecimal") (f6 : Exa Z h0 o2 "[Ljava/math/BigDecimal;") (u0 : n0 ≤ o2) (f7 : Exa Z h0 o0 "com/example/deferra/deferra/crediting/DailyAmounts") (v0 : o0 ≠ o2) (hq0 : ¬ (t0 < t1)) (hq1 : ¬ (t1 < t0)) :
    ∃ (T' : State) (h' : Heap) (lc : List Loc), Stand p l e room_1 s m args below meth c T' lc 3 11 ∧ T'.heap = h' ∧ Fr n0 lc ∧ Keep h0 h' [o2] ∧ Arv Z h' o2 j1 (.object "java/math/BigDecimal") (4 : Int32) [(.ref e_3), .null, .null, .null] .null ∧ Ovr Z j1 "java/math/BigDecimal" ∧ Exa Z h' o2 "[Ljava/math/BigDecimal;" ∧
      ∀ target, Steps p.tables e below (T'.setTop (mkF m 142 #[iv t5, iv t6, iv t7, iv t1, iv 3, rv o0, iv 1, .unset] [])) target → Steps p.tables e below (T0.setTop (mkF m 107 #[iv t5, iv t6, iv t7, iv t1, iv 3, rv o0, iv 1, .unset] [])) target := by
  obtain ⟨T1, X1, e1, st1⟩ := getS2 X0 hx hZ hown (host := "") (Or.inl (w_28 hw)) Via.refl e0 (Sta.ext OO.2 (fx_S_ONE FF)) (g := (mkF m 116 #[iv t5, iv t6, iv t7, iv t1, iv 3, rv o0, iv 1, .unset] [(.int t1), (.ref o0)])) rfl (hb hby at_116)
  obtain ⟨cq2, kq2, q2a, q2b, q2c⟩ := isOf hZ e1 f7
  obtain ⟨_, _, ⟨T2, L2, k2, n2⟩, -, X2, ⟨Lc2, hQ2, l2, y2, z2⟩, st2⟩ := X1.virtualBack hx (y := (⟨"com/example/deferra/deferra/crediting/DailyAmounts", "add", "(ILjava/math/BigDecimal;)V"⟩ : MethodName)) (z := (⟨"com/example/deferra/deferra/crediting/DailyAmounts", "add", "(ILjava/math/BigDecimal;)V"⟩ : MethodName)) hown (mvT hZ (w_30 hw)) (mvT hZ (w_31 hw)) (notFace_of_selects (args := #[]) (mvT hZ (w_33 hw))) (mvT hZ (w_33 hw)) (mvT hZ (w_32 hw)) (by decide) (backOf (W := 0) (rm5_11 l Z a0 hw [] a_ONE a_ZTT e_2 e_3 t0 t1 t2 t3 t4 o0 o1 o2 j0 j1 h0 n0 FF OO f0 f1 f2 f3 f4 f5 u0 f6 hq0 hq1) hZ (w_34 hw) (w_2 hw) (by decide) (by decide)) q2a q2c (g := (mkF m 119 #[iv t5, iv t6, iv t7, iv t1, iv 3, rv o0, iv 1, .unset] [(.ref a_ONE), (.int t1), (.ref o0)])) rfl (by rw [hml]; rfl) (Steps.refl _) (argsL := [(.int t1), (.ref a_ONE)]) (rest := []) (lenOf pd_5 rfl) rfl (by show 2 * 0 + _ ≤ _; exact Nat.le_of_eq rfl) (hb hby at_119) (fun _ _ => ⟨rfl, e1, (by decide : 3 + 0 ≤ _), (by decide : 11 + 0 ≤ _)⟩)
  dsimp only [Pt.U, Pt.locs, Pt.cells, Pt.slots] at X2 l2 y2 z2 st2 hQ2
  subst l2 y2 z2
  obtain ⟨h2, e2⟩ : ∃ z, T2.heap = z := ⟨_, rfl⟩
  rw [e2] at hQ2
  obtain ⟨rfl, N2q, K2, R2_0, R2_1, R2_2⟩ := hQ2
  have N2 := Fr.app N0 N2q
  have O2 := Old.keep OO K2 (allS u0 all0)
  have KK2 : Keep h0 h2 [o2] := Keep.trans (Keep.refl h0 [o2]) K2 (allS (Or.inl (List.mem_of_getElem? (i := 0) rfl)) all0)
  have F4 : Fld Z h2 o0 "com/example/deferra/deferra/crediting/DailyAmounts" "size" "I" (.int 1) := (Fld.keep f1 K2 (ninS v0 nin0))
  have F5 : Exa Z h2 o0 "com/example/deferra/deferra/crediting/DailyAmounts" := (Exa.keep f7 K2)
  obtain ⟨cq3, kq3, q3a, q3b, q3c⟩ := isOf hZ e2 F5
  obtain ⟨_, _, ⟨T3, L3, k3, n3⟩, -, X3, ⟨Lc3, hQ3, l3, y3, z3⟩, st3⟩ := X2.virtualBack hx (y := (⟨"com/example/deferra/deferra/crediting/DailyAmounts", "isEmpty", "()Z"⟩ : MethodName)) (z := (⟨"com/example/deferra/deferra/crediting/DailyAmounts", "isEmpty", "()Z"⟩ : MethodName)) hown (mvT hZ (w_16 hw)) (mvT hZ (w_17 hw)) (notFace_of_selects (args := #[]) (mvT hZ (w_19 hw))) (mvT hZ (w_19 hw)) (mvT hZ (w_18 hw)) (by decide) (backOf (W := 0) (rm3_1 l Z a0 hw [] a_ONE a_ZTT e_2 e_3 o0 h2 n0 FF O2 F4) hZ (w_20 hw) (w_2 hw) (by decide) (by decide)) q3a q3c (g := (mkF m 129 #[iv t5, iv t6, iv t7, iv t1, iv 3, rv o0, iv 1, .unset] [(.ref o0)])) rfl (by rw [hml]; rfl) (Steps.refl _) (argsL := []) (rest := []) (lenOf pd_1 rfl) rfl (by show 2 * 0 + _ ≤ _; exact Nat.le_of_eq rfl) (hb hby at_129) (fun _ _ => ⟨rfl, e2, (by decide : 3 + 0 ≤ _), (by decide : 11 + 0 ≤ _)⟩)
  dsimp only [Pt.U, Pt.locs, Pt.cells, Pt.slots] at X3 l3 y3 z3 st3 hQ3
  subst l3 y3 z3
  obtain ⟨rfl, N3q, e3⟩ := hQ3
  have N3 := Fr.app N2 N3q
  refine ⟨T3, h2, _, X3, e3, N3, KK2, R2_0, R2_1, R2_2, fun target kt => ?_⟩
  show Steps p.tables e below (T0.setTop (mkF m 107 #[iv t5, iv t6, iv t7, iv t1, iv 3, rv o0, iv 1, .unset] [])) _
  refine XS.iload X0.here hx rfl (hb hby at_107) rfl ?_
  refine XS.iconst X0.here hx rfl (hb hby at_109) ?_
  refine XS.icmpNo X0.here hx rfl (hb hby at_110) rfl (by decide) ?_
  refine XS.aload X0.here hx rfl (hb hby at_113) rfl rfl ?_
  show Steps p.tables e below (T0.setTop (mkF m 115 #[iv t5, iv t6, iv t7, iv t1, iv 3, rv o0, iv 1, .unset] [(.ref o0)])) _
  refine XS.iloadN X0.here hx rfl (hb hby at_115) rfl ?_
  refine st1 _ ?_
  refine st2.trans ?_
  refine XS.iload X2.here hx rfl (hb hby at_122) rfl ?_
  show Steps p.tables e below (T2.setTop (mkF m 124 #[iv t5, iv t6, iv t7, iv t1, iv 3, rv o0, iv 1, .unset] [(.int 1)])) _
  refine XS.ifNo X2.here hx rfl (hb hby at_124) rfl (by decide) ?_
  refine XS.aload X2.here hx rfl (hb hby at_127) rfl rfl ?_
  refine st3.trans ?_
  refine XS.ifNo X3.here hx rfl (hb hby at_132) rfl (by decide) ?_
  show Steps p.tables e below (T3.setTop (mkF m 135 #[iv t5, iv t6, iv t7, iv t1, iv 3, rv o0, iv 1, .unset] [])) _
  refine XS.iconst X3.here hx rfl (hb hby at_135) ?_
  refine XS.goto X3.here hx rfl (pc0 := 136) (pc' := 140) rfl (hb hby at_136) (by decide) (by decide) ?_
  refine XS.istore X3.here hx rfl (hb hby at_140) rfl (l' := #[iv t5, iv t6, iv t7, iv t1, iv 3, rv o0, iv 1, .unset]) rfl ?_
  exact kt
set_option maxRecDepth 65536 in
set_option maxHeartbeats 40000000 in
theorem sg_33 {p : Program} {l : Launch} {e : Env} {s : State} {m : MethodId} {args : Array Value} {below : List Frame} {meth : Method} {c : Code} {T0 : State} {locs : List Loc} {Z : State} {a0 : Array Value} {h0 : Heap} {n0 : Nat} (hw : ∀ d ∈ tables_1, d.before a0 Z = true) (a_ONE : Addr) (a_ZTT : Addr) (e_2 : Addr) (e_3 : Addr) (t0 : Int32) (t1 : Int32) (t2 : Int32) (t3 : Int32) (o0 : Addr) (FF : Facts Z Z.heap a_ONE a_ZTT e_2 e_3)
    (X0 : Stand p l e room_1 s m args below meth c T0 locs 3 11) (hx : p.tables.exec = Jvm.exec) (hZ : Z.Warmed39 s.vm) (hby : c.code = code) (hml : c.maxLocals = 8) (hown : s.vm.findClass "com/example/deferra/deferra/crediting/DailyAmountsIsEmptyPinLaw" = some m.cls) (e0 : T0.heap = h0) (N0 : Fr n0 locs) (OO : Old Z n0 h0) (f0 : Fld Z h0 o0 "com/example/deferra/deferra/crediting/DailyAmounts" "size" "I" (.int 1)) (f1 : Exa Z h0 o0 "com/example/deferra/deferra/crediting/DailyAmounts") :
    ∃ (T' : State) (h' : Heap) (lc : List Loc), Stand p l e room_1 s m args below meth c T' lc 3 11 ∧ T'.heap = h' ∧ Fr n0 lc ∧ Keep h0 h' [] ∧
      ∀ target, Steps p.tables e below (T'.setTop (mkF m 192 #[iv t0, iv t1, iv t2, iv t3, iv 3, rv o0, iv 1, iv 0] [(.int 1)])) target → Steps p.tables e below (T0.setTop (mkF m 142 #[iv t0, iv t1, iv t2, iv t3, iv 3, rv o0, iv 1, .unset] [])) target := by
  obtain ⟨cq1, kq1, q1a, q1b, q1c⟩ := isOf hZ e0 f1
  obtain ⟨_, _, ⟨T1, L1, k1, n1⟩, -, X1, ⟨Lc1, hQ1, l1, y1, z1⟩, st1⟩ := X0.virtualBack hx (y := (⟨"com/example/deferra/deferra/crediting/DailyAmounts", "isEmpty", "()Z"⟩ : MethodName)) (z := (⟨"com/example/deferra/deferra/crediting/DailyAmounts", "isEmpty", "()Z"⟩ : MethodName)) hown (mvT hZ (w_16 hw)) (mvT hZ (w_17 hw)) (notFace_of_selects (args := #[]) (mvT hZ (w_19 hw))) (mvT hZ (w_19 hw)) (mvT hZ (w_18 hw)) (by decide) (backOf (W := 0) (rm3_1 l Z a0 hw [] a_ONE a_ZTT e_2 e_3 o0 h0 n0 FF OO f0) hZ (w_20 hw) (w_2 hw) (by decide) (by decide)) q1a q1c (g := (mkF m 144 #[iv t0, iv t1, iv t2, iv t3, iv 3, rv o0, iv 1, .unset] [(.ref o0)])) rfl (by rw [hml]; rfl) (Steps.refl _) (argsL := []) (rest := []) (lenOf pd_1 rfl) rfl (by show 2 * 0 + _ ≤ _; exact Nat.le_of_eq rfl) (hb hby at_144) (fun _ _ => ⟨rfl, e0, (by decide : 3 + 0 ≤ _), (by decide : 11 + 0 ≤ _)⟩)
  dsimp only [Pt.U, Pt.locs, Pt.cells, Pt.slots] at X1 l1 y1 z1 st1 hQ1
  subst l1 y1 z1
  obtain ⟨rfl, N1q, e1⟩ := hQ1
  have N1 := Fr.app N0 N1q
  obtain ⟨cq2, kq2, q2a, q2b, q2c⟩ := isOf hZ e1 f1
  obtain ⟨_, _, ⟨T2, L2, k2, n2⟩, -, X2, ⟨Lc2, hQ2, l2, y2, z2⟩, st2⟩ := X1.virtualBack hx (y := (⟨"com/example/deferra/deferra/crediting/DailyAmounts", "size", "()I"⟩ : MethodName)) (z := (⟨"com/example/deferra/deferra/crediting/DailyAmounts", "size", "()I"⟩ : MethodName)) hown (mvT hZ (w_23 hw)) (mvT hZ (w_24 hw)) (notFace_of_selects (args := #[]) (mvT hZ (w_26 hw))) (mvT hZ (w_26 hw)) (mvT hZ (w_25 hw)) (by decide) (backOf (W := 1) (rm4_0 l Z a0 hw [] a_ONE a_ZTT e_2 e_3 (1 : Int32) o0 h0 n0 FF OO f0) hZ (w_27 hw) (w_2 hw) (by decide) (by decide)) q2a q2c (g := (mkF m 158 #[iv t0, iv t1, iv t2, iv t3, iv 3, rv o0, iv 1, iv 0] [(.ref o0), (.int 0)])) rfl (by rw [hml]; rfl) (Steps.refl _) (argsL := []) (rest := [(.int 0)]) (lenOf pd_2 rfl) rfl (by show 2 * 0 + _ ≤ _; exact Nat.le_of_eq rfl) (hb hby at_158) (fun _ _ => ⟨rfl, e1, (by decide : 3 + 0 ≤ _), (by decide : 11 + 0 ≤ _)⟩)
  dsimp only [Pt.U, Pt.locs, Pt.cells, Pt.slots] at X2 l2 y2 z2 st2 hQ2
  subst l2 y2 z2
  obtain ⟨rfl, N2q, e2⟩ := hQ2
  have N2 := Fr.app N1 N2q
  refine ⟨T2, h0, _, X2, e2, N2, (Keep.refl h0 []), fun target kt => ?_⟩
  show Steps p.tables e below (T0.setTop (mkF m 142 #[iv t0, iv t1, iv t2, iv t3, iv 3, rv o0, iv 1, .unset] [])) _
  refine XS.aload X0.here hx rfl (hb hby at_142) rfl rfl ?_
  refine st1.trans ?_
  refine XS.istore X1.here hx rfl (hb hby at_147) rfl (l' := #[iv t0, iv t1, iv t2, iv t3, iv 3, rv o0, iv 1, iv 0]) rfl ?_
  refine XS.iload X1.here hx rfl (hb hby at_149) rfl ?_
  show Steps p.tables e below (T1.setTop (mkF m 151 #[iv t0, iv t1, iv t2, iv t3, iv 3, rv o0, iv 1, iv 0] [(.int 1)])) _
  refine XS.ifNo X1.here hx rfl (hb hby at_151) rfl (by decide) ?_
  refine XS.iload X1.here hx rfl (hb hby at_154) rfl ?_
  refine XS.aload X1.here hx rfl (hb hby at_156) rfl rfl ?_
  refine st2.trans ?_
  show Steps p.tables e below (T2.setTop (mkF m 161 #[iv t0, iv t1, iv t2, iv t3, iv 3, rv o0, iv 1, iv 0] [(.int 1), (.int 0)])) _
  refine XS.ifYes X2.here hx rfl (pc0 := 161) (pc' := 168) rfl (hb hby at_161) rfl (by decide) (by decide) (by decide) ?_
  refine XS.iconst X2.here hx rfl (hb hby at_168) ?_
  refine XS.icmpNo X2.here hx rfl (hb hby at_169) rfl (by decide) ?_
  refine XS.iload X2.here hx rfl (hb hby at_172) rfl ?_
  show Steps p.tables e below (T2.setTop (mkF m 174 #[iv t0, iv t1, iv t2, iv t3, iv 3, rv o0, iv 1, iv 0] [(.int 0)])) _
  refine XS.iload X2.here hx rfl (hb hby at_174) rfl ?_
  refine XS.ifYes X2.here hx rfl (pc0 := 176) (pc' := 183) rfl (hb hby at_176) rfl (by decide) (by decide) (by decide) ?_
  refine XS.iconst X2.here hx rfl (hb hby at_183) ?_
  refine XS.icmpNo X2.here hx rfl (hb hby at_184) rfl (by decide) ?_
  show Steps p.tables e below (T2.setTop (mkF m 187 #[iv t0, iv t1, iv t2, iv t3, iv 3, rv o0, iv 1, iv 0] [])) _
  refine XS.iconst X2.here hx rfl (hb hby at_187) ?_
  refine XS.goto X2.here hx rfl (pc0 := 188) (pc' := 192) rfl (hb hby at_188) (by decide) (by decide) ?_
  exact kt
set_option maxRecDepth 65536 in
set_option maxHeartbeats 40000000 in
theorem rm0_17 (l : Launch) (Z : State) (a0 : Array Value) (hw : ∀ d ∈ tables_1, d.before a0 Z = true) (ws : List Jvm.Cond) (a_ONE : Addr) (a_ZTT : Addr) (e_2 : Addr) (e_3 : Addr) (p0 : Int32) (p1 : Int32) (p2 : Int32) (p3 : Int32) (h0 : Heap) (n0 : Nat) (FF : Facts Z Z.heap a_ONE a_ZTT e_2 e_3) (OO : Old Z n0 h0) (hk0 : (p0 &&& (3 : Int32)) = (3 : Int32)) (hd0 : ¬ (p1 < p2)) (hd1 : ¬ (p2 < p1)) (hd2 : ¬ (p1 < p3)) (hd3 : ¬ (p3 < p1)) :
    MetFree l x (head1 (Jvm.Cond.code x code maxLocals ret :: ws) room_1) (fun a U => a = #[(.int p0), (.int p1), (.int p2), (.int p3)] ∧ Z.Warmed39 U.vm ∧ U.heap = h0) (fun _ _ _ _ _ => True) (fun _ U o U' => ∃ v L, o = .returned v ∧ (v = some (.int (1 : Int32)) ∧ Fr n0 L) ∧ FrameEnd U o U' L room_1.cells room_1.slots) := by
  refine MetFree.of_bodySF (plainFor_of_name pn_0) hisR ?_
  intro p e s m args below meth c s₁ Bd hml0 hP hK
  obtain ⟨rfl, hZ, hh⟩ := hP
  have hx := Bd.exec
  have hby := Bd.bytes
  have hml : c.maxLocals = 8 := hml0
  have hown : s.vm.findClass "com/example/deferra/deferra/crediting/DailyAmountsIsEmptyPinLaw" = some m.cls := findClass_of_methodNamed Bd.named
  have X0 : Stand p l e room_1 s m #[(.int p0), (.int p1), (.int p2), (.int p3)] below meth c s₁ [] 0 0 := Stand.of_body Bd
  have e0 : s₁.heap = h0 := by rw [← hh, Bd.state]; rfl
  have N0 := Fr.nil n0
  have pre0 : ∀ t, Steps p.tables e below (s₁.setTop (mkF m 0 #[iv p0, iv p1, iv p2, iv p3, .unset, .unset, .unset, .unset] [])) t → Steps p.tables e below (s₁.setTop (entryFrame m #[(.int p0), (.int p1), (.int p2), (.int p3)] maxLocals)) t := fun t k => castTop (ef_0 m p0 p1 p2 p3) k
  obtain ⟨T1, h1, lc1, b1, b2, b3, kb2, kb3, X1, e1, N1, K1, sp1_b1, sp1_b2, sp1_b3, ne1_b1_b2, ne1_b1_b3, ne1_b2_b3, R1_0, R1_1, R1_2, R1_3, R1_4, R1_5, R1_6, R1_7, R1_8, st1⟩ := sg_18 hw a_ONE a_ZTT e_2 e_3 p0 p1 p2 p3 FF X0 hx hZ hby hml hown e0 N0 OO hk0
  have g2 : n0 ≤ b1 := Nat.le_trans (own_le OO) sp1_b1
  have g3 : n0 ≤ b2 := Nat.le_trans (own_le OO) sp1_b2
  have g4 : n0 ≤ b3 := Nat.le_trans (own_le OO) sp1_b3
  have O1 := Old.keep OO K1 all0
  obtain ⟨T5, h5, lc5, X5, e5, N5, K5, R5_0, R5_1, R5_2, R5_3, R5_4, R5_5, R5_6, R5_7, R5_8, st5⟩ := sg_19 hw a_ONE a_ZTT e_2 e_3 (0 : Int32) (0 : Int32) (0 : Int32) (0 : Int32) p1 p0 p2 p3 b1 b2 b3 kb2 kb3 FF X1 hx hZ hby hml hown e1 N1 O1 R1_1 R1_3 R1_5 R1_2 R1_7 R1_8 R1_0 R1_4 R1_6 g3 ne1_b1_b2 (Ne.symm ne1_b2_b3) g4 ne1_b1_b3 g2
  have O5 := Old.keep O1 K5 (allS g2 (allS g4 (allS g3 all0)))
  obtain ⟨T6, h6, lc6, X6, e6, N6, K6, R6_0, R6_1, R6_2, st6⟩ := sg_29 hw a_ONE a_ZTT e_2 e_3 p1 p2 (0 : Int32) (0 : Int32) (0 : Int32) p0 p1 p3 b1 b2 b3 kb2 kb3 FF X5 hx hZ hby hml hown e5 N5 O5 R5_0 R5_1 R5_7 R5_2 R5_4 R5_5 R5_6 g4 R5_3 ne1_b1_b3 hd0 hd1
  have O6 := Old.keep O5 K6 (allS g4 all0)
  have F8 : Fld Z h6 b1 "com/example/deferra/deferra/crediting/DailyAmounts" "days" "[I" (.ref b2) := (Fld.keep R5_0 K6 (ninS ne1_b1_b3 nin0))
  have F9 : Fld Z h6 b1 "com/example/deferra/deferra/crediting/DailyAmounts" "size" "I" (.int 1) := (Fld.keep R5_1 K6 (ninS ne1_b1_b3 nin0))
  have F10 : Arv Z h6 b2 kb2 .int (4 : Int32) [(.int p1), (.int 0), (.int 0), (.int 0)] (.int 0) := (Arv.keep R5_7 K6 (ninS ne1_b2_b3 nin0))
  have F11 : Fld Z h6 b1 "com/example/deferra/deferra/crediting/DailyAmounts" "amounts" "[Ljava/math/BigDecimal;" (.ref b3) := (Fld.keep R5_2 K6 (ninS ne1_b1_b3 nin0))
  have F12 : Exa Z h6 b1 "com/example/deferra/deferra/crediting/DailyAmounts" := (Exa.keep R5_3 K6)
  obtain ⟨T7, h7, lc7, X7, e7, N7, K7, R7_0, R7_1, R7_2, st7⟩ := sg_32 hw a_ONE a_ZTT e_2 e_3 p1 p3 (0 : Int32) (0 : Int32) (0 : Int32) p0 p1 p2 b1 b2 b3 kb2 kb3 FF X6 hx hZ hby hml hown e6 N6 O6 F8 F9 F10 F11 R6_0 R6_1 R6_2 g4 F12 ne1_b1_b3 hd2 hd3
  have O7 := Old.keep O6 K7 (allS g4 all0)
  have F14 : Fld Z h7 b1 "com/example/deferra/deferra/crediting/DailyAmounts" "size" "I" (.int 1) := (Fld.keep F9 K7 (ninS ne1_b1_b3 nin0))
  have F15 : Exa Z h7 b1 "com/example/deferra/deferra/crediting/DailyAmounts" := (Exa.keep F12 K7)
  obtain ⟨T13, h13, lc13, X13, e13, N13, K13, st13⟩ := sg_33 hw a_ONE a_ZTT e_2 e_3 p0 p1 p2 p3 b1 FF X7 hx hZ hby hml hown e7 N7 O7 F14 F15
  have O13 := Old.keep O7 K13 all0
  obtain ⟨fs, hr, hrun, hended, hW, hsame⟩ := X13.leave (v := some (.int 1)) (fun h => by rw [Bd.returns] at h; cases h)
  refine ⟨_, _, pre0 _ ?_, hrun, hended, _, _, rfl, ?_, ⟨_, rfl⟩, hW, hsame.mono (by decide) (by decide)⟩
  · show Steps p.tables e below (s₁.setTop (mkF m 0 #[iv p0, iv p1, iv p2, iv p3, .unset, .unset, .unset, .unset] [])) _
    refine st1 _ ?_
    show Steps p.tables e below (T1.setTop (mkF m 37 #[iv p0, iv p1, iv p2, iv p3, iv 3, rv b1, iv 1, .unset] [])) _
    refine st5 _ ?_
    show Steps p.tables e below (T5.setTop (mkF m 72 #[iv p0, iv p1, iv p2, iv p3, iv 3, rv b1, iv 1, .unset] [])) _
    refine st6 _ ?_
    show Steps p.tables e below (T6.setTop (mkF m 107 #[iv p0, iv p1, iv p2, iv p3, iv 3, rv b1, iv 1, .unset] [])) _
    refine st7 _ ?_
    show Steps p.tables e below (T7.setTop (mkF m 142 #[iv p0, iv p1, iv p2, iv p3, iv 3, rv b1, iv 1, .unset] [])) _
    refine st13 _ ?_
    exact retN X13 hx (t := .boolean) Bd.returns (by simp) (hb hby at_192) hr
  · exact ⟨rfl, N13⟩
theorem rm0 (l : Launch) (Z : State) (a0 : Array Value) (hw : ∀ d ∈ tables_1, d.before a0 Z = true) (ws : List Jvm.Cond) (a_ONE : Addr) (a_ZTT : Addr) (e_2 : Addr) (e_3 : Addr) (p0 p1 p2 p3 : Int32) (h0 : Heap) (n0 : Nat) (FF : Facts Z Z.heap a_ONE a_ZTT e_2 e_3) (OO : Old Z n0 h0) :
    MetFree l x (head1 (Jvm.Cond.code x code maxLocals ret :: ws) room_1) (fun a U => a = #[(.int p0), (.int p1), (.int p2), (.int p3)] ∧ Z.Warmed39 U.vm ∧ U.heap = h0) (fun _ _ _ _ _ => True) (fun _ U o U' => ∃ v L, o = .returned v ∧ (v = some (.int (1 : Int32)) ∧ Fr n0 L) ∧ FrameEnd U o U' L room_1.cells room_1.slots) := by
  rcases own_split0 p0 with hk0 | hk0 | hk0 | hk0
  · exact rm0_0 l Z a0 hw ws a_ONE a_ZTT e_2 e_3 p0 p1 p2 p3 h0 n0 FF OO hk0
  · exact rm0_1 l Z a0 hw ws a_ONE a_ZTT e_2 e_3 p0 p1 p2 p3 h0 n0 FF OO hk0
  · by_cases hd0 : p1 < p2
    · exact rm0_2 l Z a0 hw ws a_ONE a_ZTT e_2 e_3 p0 p1 p2 p3 h0 n0 FF OO hk0 hd0
    · by_cases hd1 : p2 < p1
      · exact rm0_3 l Z a0 hw ws a_ONE a_ZTT e_2 e_3 p0 p1 p2 p3 h0 n0 FF OO hk0 hd0 hd1
      · exact rm0_4 l Z a0 hw ws a_ONE a_ZTT e_2 e_3 p0 p1 p2 p3 h0 n0 FF OO hk0 hd0 hd1
  · by_cases hd0 : p1 < p2
    · by_cases hd1 : p1 < p3
      · by_cases hd2 : p2 < p3
        · exact rm0_5 l Z a0 hw ws a_ONE a_ZTT e_2 e_3 p0 p1 p2 p3 h0 n0 FF OO hk0 hd0 hd1 hd2
        · by_cases hd3 : p3 < p2
          · exact rm0_6 l Z a0 hw ws a_ONE a_ZTT e_2 e_3 p0 p1 p2 p3 h0 n0 FF OO hk0 hd0 hd1 hd2 hd3
          · exact rm0_7 l Z a0 hw ws a_ONE a_ZTT e_2 e_3 p0 p1 p2 p3 h0 n0 FF OO hk0 hd0 hd1 hd2 hd3
      · by_cases hd2 : p3 < p1
        · exact rm0_8 l Z a0 hw ws a_ONE a_ZTT e_2 e_3 p0 p1 p2 p3 h0 n0 FF OO hk0 hd0 hd1 hd2
        · exact rm0_9 l Z a0 hw ws a_ONE a_ZTT e_2 e_3 p0 p1 p2 p3 h0 n0 FF OO hk0 hd0 hd1 hd2
    · by_cases hd1 : p2 < p1
      · by_cases hd2 : p2 < p3
        · by_cases hd3 : p1 < p3
          · exact rm0_10 l Z a0 hw ws a_ONE a_ZTT e_2 e_3 p0 p1 p2 p3 h0 n0 FF OO hk0 hd0 hd1 hd2 hd3
          · by_cases hd4 : p3 < p1
            · exact rm0_11 l Z a0 hw ws a_ONE a_ZTT e_2 e_3 p0 p1 p2 p3 h0 n0 FF OO hk0 hd0 hd1 hd2 hd3 hd4
            · exact rm0_12 l Z a0 hw ws a_ONE a_ZTT e_2 e_3 p0 p1 p2 p3 h0 n0 FF OO hk0 hd0 hd1 hd2 hd3 hd4
        · by_cases hd3 : p3 < p2
          · exact rm0_13 l Z a0 hw ws a_ONE a_ZTT e_2 e_3 p0 p1 p2 p3 h0 n0 FF OO hk0 hd0 hd1 hd2 hd3
          · exact rm0_14 l Z a0 hw ws a_ONE a_ZTT e_2 e_3 p0 p1 p2 p3 h0 n0 FF OO hk0 hd0 hd1 hd2 hd3
      · by_cases hd2 : p1 < p3
        · exact rm0_15 l Z a0 hw ws a_ONE a_ZTT e_2 e_3 p0 p1 p2 p3 h0 n0 FF OO hk0 hd0 hd1 hd2
        · by_cases hd3 : p3 < p1
          · exact rm0_16 l Z a0 hw ws a_ONE a_ZTT e_2 e_3 p0 p1 p2 p3 h0 n0 FF OO hk0 hd0 hd1 hd2 hd3
          · exact rm0_17 l Z a0 hw ws a_ONE a_ZTT e_2 e_3 p0 p1 p2 p3 h0 n0 FF OO hk0 hd0 hd1 hd2 hd3
set_option maxRecDepth 65536 in
set_option maxHeartbeats 40000000 in
theorem comes_1 {Post : Tables → Env → Array Value → State → Outcome → State → Prop} (hpost : ∀ tb e args s v u, (limb_1_1.after args s (.returned v) u = true ∧ limb_1_2.after args s (.returned v) u = true ∧ True) → FrameEnd s (.returned v) u (Jvm.fieldLocs frame_1_writes args s ++ Jvm.arrayLocs frame_1_arrays args s ++ Jvm.staticLocs frame_1_statics s) 16 128 → Post tb e args s (.returned v) u) :
    ArmFor flags0 classFile x code maxLocals ret World_1 tables_1 room_1 Calls_1 rest_1 Pre_1 Post := by
  intro l hfl _ _ p e ha hc hk s m args below hf hA hF happ hP
  obtain ⟨hcalls, hrest, hpre⟩ := hP
  obtain ⟨-, -, -, hnamed, -, -, -, hat⟩ := (Spec.applies_iff hf).mp happ
  obtain ⟨hg, hn⟩ := and_e (Cond.before_iff.mp (show (Jvm.Cond.and given_1 narrow_1).before args s = true from hpre))
  obtain ⟨gc, gr0⟩ := and_e hg
  obtain ⟨gi0, gr1⟩ := and_e gr0
  obtain ⟨gi1, gr2⟩ := and_e gr1
  obtain ⟨gi2, gr3⟩ := and_e gr2
  obtain ⟨w0, w1, w2, w3, rfl⟩ : ∃ w0 w1 w2 w3 : Value, args = #[w0, w1, w2, w3] := by
    have hs : args.size = 4 := by simpa [Cond.value, given_1] using gc
    obtain ⟨L⟩ := args
    match L, hs with
    | [w0, w1, w2, w3], _ => exact ⟨w0, w1, w2, w3, rfl⟩
  have hw := fun d (hd : d ∈ tables_1) => atoms_spec (ws := Jvm.Cond.code x code maxLocals ret :: tables_1) hat d (List.mem_cons_of_mem _ hd)
  obtain ⟨i0, ei0⟩ := is_v gi0
  obtain rfl : w0 = (.int i0) := Option.some.inj ei0
  obtain ⟨i1, ei1⟩ := is_v gi1
  obtain rfl : w1 = (.int i1) := Option.some.inj ei1
  obtain ⟨i2, ei2⟩ := is_v gi2
  obtain rfl : w2 = (.int i2) := Option.some.inj ei2
  obtain ⟨i3, ei3⟩ := is_v gr3
  obtain rfl : w3 = (.int i3) := Option.some.inj ei3
  obtain ⟨hsets, hown0⟩ := atoms_of _ (rest_1_c_eq ▸ (show rest_1_c.before _ s = true from hrest))
  obtain ⟨a_ONE, ev_a_ONE⟩ := exa_v (Cond.before_iff.mp (hsets _ (List.mem_of_getElem? (i := 4) rfl)))
  obtain ⟨a_ZTT, ev_a_ZTT⟩ := arr_v (Cond.before_iff.mp (hsets _ (List.mem_of_getElem? (i := 32) rfl)))
  obtain ⟨c_ZTT, A_ZTT⟩ := Arr.start ev_a_ZTT (Cond.before_iff.mp (hsets _ (List.mem_of_getElem? (i := 32) rfl)))
  obtain ⟨e_2, ev_e_2⟩ := exa_v (Cond.before_iff.mp (hsets _ (List.mem_of_getElem? (i := 56) rfl)))
  obtain ⟨e_3, ev_e_3⟩ := exa_v (Cond.before_iff.mp (hsets _ (List.mem_of_getElem? (i := 65) rfl)))
  have FF : Facts s s.heap a_ONE a_ZTT e_2 e_3 := ⟨Sta.start ev_a_ONE (Or.inl (hsets _ (List.mem_of_getElem? (i := 1) rfl))), Sta.start ev_a_ZTT (Or.inl (hsets _ (List.mem_of_getElem? (i := 15) rfl))), Exa.start ev_a_ONE (Cond.before_iff.mp (hsets _ (List.mem_of_getElem? (i := 4) rfl))), Fld.start ((fld_at ev_a_ONE).symm.trans (own_eqi (Cond.before_iff.mp (hsets _ (List.mem_of_getElem? (i := 5) rfl))))), Fld.start ((fld_at ev_a_ONE).symm.trans (own_eqL (Cond.before_iff.mp (hsets _ (List.mem_of_getElem? (i := 6) rfl))))), own_Ar.start ev_a_ZTT A_ZTT (own_eqi (Cond.before_iff.mp (hsets _ (List.mem_of_getElem? (i := 34) rfl)))), Exa.start ev_e_2 (Cond.before_iff.mp (hsets _ (List.mem_of_getElem? (i := 56) rfl))), Fld.start ((fld_at ev_e_2).symm.trans (own_eqi (Cond.before_iff.mp (hsets _ (List.mem_of_getElem? (i := 57) rfl))))), Fld.start ((fld_at ev_e_2).symm.trans (own_eqL (Cond.before_iff.mp (hsets _ (List.mem_of_getElem? (i := 58) rfl))))), own_El.start ev_a_ZTT A_ZTT ev_e_2, Exa.start ev_e_3 (Cond.before_iff.mp (hsets _ (List.mem_of_getElem? (i := 65) rfl))), Fld.start ((fld_at ev_e_3).symm.trans (own_eqi (Cond.before_iff.mp (hsets _ (List.mem_of_getElem? (i := 66) rfl))))), Fld.start ((fld_at ev_e_3).symm.trans (own_eqL (Cond.before_iff.mp (hsets _ (List.mem_of_getElem? (i := 67) rfl))))), own_El.start ev_a_ZTT A_ZTT ev_e_3⟩
  obtain ⟨n, o, h1, h2, h3, _, L, rfl, ⟨rfl, N⟩, hq⟩ := rm0 l s _ hw tables_1 a_ONE a_ZTT e_2 e_3 i0 i1 i2 i3 s.heap s.heap.size FF (Old.start s) p e ha hc hk s m _ below hf ((Spec.applies_iff_loose hf).mp happ).1 ⟨rfl, State.Warmed39.refl s, rfl⟩ trivial
  refine ⟨n, _, h1, h2, h3, hpost _ _ _ _ _ _ ⟨Cond.after_iff.mpr rfl, Cond.after_iff.mpr (eq_i res_at (Term.int_eval (1)) rfl), trivial⟩ ⟨hq.1, hq.2.1, (hq.2.2.sift fun y hy => Or.inr (N y hy)).mono (by decide) (by decide)⟩⟩
theorem main_1_1 : Claimed_1_1 := comes_1 fun _ _ _ _ _ _ h hF => ⟨h.1, hF⟩
theorem main_1_2 : Claimed_1_2 := comes_1 fun _ _ _ _ _ _ h hF => ⟨h.2.1, hF⟩
end Jvm.Pilot.@@N@@
namespace Jvm.Pilot.@@N@@
open Jvm Jvm.ClassFile Sem Op Lib Jvm.Free Jvm.Stand Jvm.Pilot.@@N@@.Jvm.D
/-! MADE BY PROGRAM (witnessworld.py) out of the Statement's table words and the real class files: 16 classes; the members and pool entries that the words name. The judged class is class 1, her method 1. -/
namespace start1
open Jvm.ClassFile
def u (s : String) : CpInfo := .utf8 (stringToUtf16 s)
/-- a pool by its gaps: so many unusable entries, then the entry; so many at the end -/
def gap : Nat → List CpInfo → List CpInfo
  | 0, r => r
  | n + 1, r => .unusable :: gap n r
def poolList (es : List (Nat × CpInfo)) (last : Nat) : List CpInfo := es.foldr (fun e r => gap e.1 (e.2 :: r)) (gap last [])
def pool (es : List (Nat × CpInfo)) (last : Nat) : Array CpInfo := ⟨poolList es last⟩
def fileOf (pool : Array CpInfo) (this : Nat) (attrs : Array Attribute := #[]) (ms : Array MethodInfo := #[]) (fl : Nat := 33) (sup : Nat := 0) (ifs : Array Nat := #[]) (fds : Array FieldInfo := #[]) : ClassFile where
  minorVersion := 0
  majorVersion := 65
  constantPool := pool
  accessFlags := fl
  thisClass := this
  superClass := sup
  interfaces := ifs
  fields := fds
  methods := ms
  attributes := attrs
def plain (name : String) (sup : Option ClassId) : Class where
  name := name
  kind := .ordinary
  loader := none
  accessFlags := 33
  super := sup
  interfaces := #[]
  cf := none
  fields := #[]
  methods := #[]
  instanceTypes := #[]
  staticTypes := #[]
  resolved := #[]
  callSites := []
  init := .initialized
  statics := none
  mirror := none

def pool0 : Array CpInfo := pool [(5, u "<init>"), (0, u "()V"), (1, .class_ 10), (1, u "java/lang/Object")] 113

def k0c0 : Code := { maxStack := 0, maxLocals := 1, code := object_method_1_code, exceptionTable := #[], attributes := #[] }
def k0m0 : Method := { name := "<init>", desc := "()V", sig := { parameters := [], returnType := none }, accessFlags := 1, code := some k0c0 }
/-- java/lang/Object -/
def k0 : Class := { plain "java/lang/Object" none with
  accessFlags := 33
  interfaces := #[]
  cf := some (fileOf pool0 8 #[] #[{ accessFlags := 1, nameIndex := 5, descriptorIndex := 6, attributes := #[] }] 33 0 #[] #[])
  fields := #[]
  methods := #[k0m0]
  instanceTypes := #[]
  staticTypes := #[]
  resolved := Array.replicate 124 none
  statics := none }

def pool1 : Array CpInfo := pool [(2, .class_ 4), (0, .nameAndType 5 6), (0, u "java/lang/Object"), (0, u "<init>"), (0, u "()V"), (0, .class_ 8), (0, u "com/example/deferra/deferra/crediting/DailyAmounts"), (0, .methodref 7 3), (0, .methodref 7 11), (0, .nameAndType 12 13), (0, u "isEmpty"), (0, u "()Z"), (0, .methodref 7 15), (0, .nameAndType 16 17), (0, u "size"), (0, u "()I"), (0, .fieldref 19 20), (0, .class_ 21), (0, .nameAndType 22 23), (0, u "java/math/BigDecimal"), (0, u "ONE"), (0, u "Ljava/math/BigDecimal;"), (0, .methodref 7 25), (0, .nameAndType 26 27), (0, u "add"), (0, u "(ILjava/math/BigDecimal;)V"), (0, .class_ 29), (0, u "com/example/deferra/deferra/crediting/DailyAmountsIsEmptyPinLaw"), (2, u "law"), (0, u "(IIII)Z")] 3

def k1m0 : Method := { name := "<init>", desc := "()V", sig := { parameters := [], returnType := none }, accessFlags := 1, code := none }
def k1c1 : Code := { maxStack := 3, maxLocals := 8, code := code, exceptionTable := #[], attributes := #[] }
def k1m1 : Method := { name := "law", desc := "(IIII)Z", sig := { parameters := [.int, .int, .int, .int], returnType := some .boolean }, accessFlags := 9, code := some k1c1 }
/-- com/example/deferra/deferra/crediting/DailyAmountsIsEmptyPinLaw -/
def k1 : Class := { plain "com/example/deferra/deferra/crediting/DailyAmountsIsEmptyPinLaw" (some 0) with
  accessFlags := 49
  interfaces := #[]
  cf := some (fileOf pool1 28 #[] #[{ accessFlags := 1, nameIndex := 5, descriptorIndex := 6, attributes := #[] }, { accessFlags := 9, nameIndex := 32, descriptorIndex := 33, attributes := #[] }] 49 2 #[] #[])
  fields := #[]
  methods := #[k1m0, k1m1]
  instanceTypes := #[]
  staticTypes := #[]
  resolved := Array.replicate 37 none
  statics := none }

def pool2 : Array CpInfo := pool [(1, .methodref 2 3), (0, .class_ 4), (0, .nameAndType 5 6), (0, u "java/lang/Object"), (0, u "<init>"), (0, u "()V"), (0, .fieldref 8 9), (0, .class_ 10), (0, .nameAndType 11 12), (0, u "com/example/deferra/deferra/crediting/DailyAmounts"), (0, u "days"), (0, u "[I"), (0, .class_ 14), (0, u "java/math/BigDecimal"), (0, .fieldref 8 16), (0, .nameAndType 17 18), (0, u "amounts"), (0, u "[Ljava/math/BigDecimal;"), (0, .fieldref 8 20), (0, .nameAndType 21 22), (0, u "size"), (0, u "I"), (0, .methodref 24 25), (0, .class_ 26), (0, .nameAndType 27 28), (0, u "java/util/Arrays"), (0, u "binarySearch"), (0, u "([IIII)I"), (0, .methodref 13 30), (0, .nameAndType 31 32), (0, u "add"), (0, u "(Ljava/math/BigDecimal;)Ljava/math/BigDecimal;"), (8, .methodref 42 43), (0, .class_ 44), (0, .nameAndType 45 46), (0, u "java/lang/System"), (0, u "arraycopy"), (0, u "(Ljava/lang/Object;ILjava/lang/Object;II)V"), (10, u "(ILjava/math/BigDecimal;)V"), (1, u "isEmpty"), (0, u "()Z"), (0, u "()I")] 6

def k2c0 : Code := { maxStack := 2, maxLocals := 1, code := prog_24_method_1_code, exceptionTable := #[], attributes := #[] }
def k2m0 : Method := { name := "<init>", desc := "()V", sig := { parameters := [], returnType := none }, accessFlags := 0, code := some k2c0 }
def k2c1 : Code := { maxStack := 6, maxLocals := 5, code := prog_24_method_2_code, exceptionTable := #[], attributes := #[] }
def k2m1 : Method := { name := "add", desc := "(ILjava/math/BigDecimal;)V", sig := { parameters := [.int, (.object "java/math/BigDecimal")], returnType := none }, accessFlags := 0, code := some k2c1 }
def k2c2 : Code := { maxStack := 1, maxLocals := 1, code := prog_24_method_3_code, exceptionTable := #[], attributes := #[] }
def k2m2 : Method := { name := "isEmpty", desc := "()Z", sig := { parameters := [], returnType := some .boolean }, accessFlags := 0, code := some k2c2 }
def k2c3 : Code := { maxStack := 1, maxLocals := 1, code := prog_24_method_4_code, exceptionTable := #[], attributes := #[] }
def k2m3 : Method := { name := "size", desc := "()I", sig := { parameters := [], returnType := some .int }, accessFlags := 0, code := some k2c3 }
/-- com/example/deferra/deferra/crediting/DailyAmounts -/
def k2 : Class := { plain "com/example/deferra/deferra/crediting/DailyAmounts" (some 0) with
  accessFlags := 48
  interfaces := #[]
  cf := some (fileOf pool2 8 #[] #[{ accessFlags := 0, nameIndex := 5, descriptorIndex := 6, attributes := #[] }, { accessFlags := 0, nameIndex := 31, descriptorIndex := 57, attributes := #[] }, { accessFlags := 0, nameIndex := 59, descriptorIndex := 60, attributes := #[] }, { accessFlags := 0, nameIndex := 21, descriptorIndex := 61, attributes := #[] }] 48 2 #[] #[{ accessFlags := 2, nameIndex := 11, descriptorIndex := 12, attributes := #[] }, { accessFlags := 2, nameIndex := 17, descriptorIndex := 18, attributes := #[] }, { accessFlags := 2, nameIndex := 21, descriptorIndex := 22, attributes := #[] }])
  fields := #[{ name := "days", type := (.array .int), accessFlags := 2, slot := 0, constantValue := 0 }, { name := "amounts", type := (.array (.object "java/math/BigDecimal")), accessFlags := 2, slot := 1, constantValue := 0 }, { name := "size", type := .int, accessFlags := 2, slot := 2, constantValue := 0 }]
  methods := #[k2m0, k2m1, k2m2, k2m3]
  instanceTypes := #[(.array .int), (.array (.object "java/math/BigDecimal")), .int]
  staticTypes := #[]
  resolved := Array.replicate 68 none
  statics := none }

def pool3 : Array CpInfo := pool [(1, .class_ 2), (0, u "java/io/Serializable"), (0, .class_ 4), (0, u "java/lang/Object")] 2

/-- java/io/Serializable -/
def k3 : Class := { plain "java/io/Serializable" (some 0) with
  accessFlags := 1537
  interfaces := #[]
  cf := some (fileOf pool3 1 #[] #[] 1537 3 #[] #[])
  fields := #[]
  methods := #[]
  instanceTypes := #[]
  staticTypes := #[]
  resolved := Array.replicate 7 none
  statics := none }

def pool4 : Array CpInfo := pool [(2, .class_ 4), (1, u "java/lang/Object"), (0, u "<init>"), (0, u "()V"), (1, .class_ 10), (1, u "java/lang/Number"), (2, .class_ 14), (0, u "java/io/Serializable"), (0, u "serialVersionUID"), (0, u "J")] 20

def k4m0 : Method := { name := "<init>", desc := "()V", sig := { parameters := [], returnType := none }, accessFlags := 1, code := none }
/-- java/lang/Number -/
def k4 : Class := { plain "java/lang/Number" (some 0) with
  accessFlags := 1057
  interfaces := #[3]
  cf := some (fileOf pool4 8 #[] #[{ accessFlags := 1, nameIndex := 5, descriptorIndex := 6, attributes := #[] }] 1057 2 #[13] #[{ accessFlags := 26, nameIndex := 15, descriptorIndex := 16, attributes := #[] }])
  fields := #[{ name := "serialVersionUID", type := .long, accessFlags := 26, slot := 0, constantValue := 0 }]
  methods := #[k4m0]
  instanceTypes := #[]
  staticTypes := #[.long]
  resolved := Array.replicate 37 none
  statics := none }

def pool5 : Array CpInfo := pool [(1, .class_ 2), (0, u "java/lang/Comparable"), (0, .class_ 4), (0, u "java/lang/Object")] 7

/-- java/lang/Comparable -/
def k5 : Class := { plain "java/lang/Comparable" (some 0) with
  accessFlags := 1537
  interfaces := #[]
  cf := some (fileOf pool5 1 #[] #[] 1537 3 #[] #[])
  fields := #[]
  methods := #[]
  instanceTypes := #[]
  staticTypes := #[]
  resolved := Array.replicate 12 none
  statics := none }

def pool6 : Array CpInfo := pool [(3, .class_ 4), (0, u "java/math/BigDecimal"), (7, .class_ 14), (1, u "java/lang/Number"), (2, .fieldref 3 18), (0, .nameAndType 19 20), (0, u "scale"), (0, u "I"), (2, u "precision"), (0, .fieldref 3 25), (0, .nameAndType 26 27), (0, u "intCompact"), (0, u "J"), (2, u "intVal"), (0, u "Ljava/math/BigInteger;"), (65, u "LONG_TEN_POWERS_TABLE"), (0, u "[J"), (26, .long 9223372036854775808), (61, u "ZERO"), (2, u "INFLATED_BIGINT"), (4, u "valueOf"), (10, u "TWO"), (29, .methodref 3 237), (0, .nameAndType 195 238), (0, u "(J)Ljava/math/BigDecimal;"), (7, .fieldref 3 247), (0, .nameAndType 248 249), (0, u "ZERO_THROUGH_TEN"), (0, u "[Ljava/math/BigDecimal;"), (2, u "ZERO_SCALED_BY"), (4, .methodref 3 258), (0, .nameAndType 259 260), (0, u "add"), (0, u "(JIJI)Ljava/math/BigDecimal;"), (8, u "(Ljava/math/BigDecimal;)Ljava/math/BigDecimal;"), (43, u "$assertionsDisabled"), (0, u "Z"), (7, u "(JJ)J"), (5, .methodref 3 329), (0, .nameAndType 195 330), (0, u "(JI)Ljava/math/BigDecimal;"), (13, u "(JJI)Ljava/math/BigDecimal;"), (133, u "ONE_TENTH"), (0, u "Ljava/math/BigDecimal;"), (5, u "TEN"), (14, .class_ 502), (1, u "java/math/BigDecimal$1"), (15, u "ONE_HALF"), (16, u "ONE"), (107, u "stringCache"), (0, u "Ljava/lang/String;"), (52, .class_ 699), (1, u "java/math/BigDecimal$LongOverflow"), (8, u "FLOAT_10_POW"), (0, u "[F"), (39, u "DOUBLE_10_POW"), (0, u "[D"), (19, .class_ 772), (1, u "java/math/BigDecimal$StringBuilderHelper"), (35, u "BIG_TEN_POWERS_TABLE_MAX"), (2, u "BIG_TEN_POWERS_TABLE"), (0, u "[Ljava/math/BigInteger;"), (14, u "THRESHOLDS_TABLE"), (23, .class_ 853), (1, u "java/math/BigDecimal$UnsafeHolder"), (142, .methodref 3 997), (0, .nameAndType 259 322), (2, .methodref 3 1001), (0, .nameAndType 259 344), (66, u "LONGLONG_TEN_POWERS_TABLE"), (0, u "[[J"), (112, u "BIG_TEN_POWERS_TABLE_INITLEN"), (113, .class_ 1297), (0, u "java/lang/Comparable"), (0, u "L"), (0, u "D"), (1, u "P_F"), (1, u "Q_MIN_F"), (1, u "Q_MAX_F"), (1, u "P_D"), (1, u "Q_MIN_D"), (1, u "Q_MAX_D"), (1, u "INFLATED"), (0, u "MAX_COMPACT_DIGITS"), (1, u "serialVersionUID"), (2, u "HALF_LONG_MAX_VALUE"), (0, u "HALF_LONG_MIN_VALUE"), (0, u "ROUND_UP"), (6, u "ROUND_DOWN"), (1, u "ROUND_CEILING"), (1, u "ROUND_FLOOR"), (1, u "ROUND_HALF_UP"), (1, u "ROUND_HALF_DOWN"), (1, u "ROUND_HALF_EVEN"), (1, u "ROUND_UNNECESSARY"), (1, u "DIV_NUM_BASE")] 294

def k6c0 : Code := { maxStack := 7, maxLocals := 3, code := jdk_17_method_20_code, exceptionTable := #[], attributes := #[] }
def k6m0 : Method := { name := "valueOf", desc := "(JI)Ljava/math/BigDecimal;", sig := { parameters := [.long, .int], returnType := some (.object "java/math/BigDecimal") }, accessFlags := 9, code := some k6c0 }
def k6c1 : Code := { maxStack := 7, maxLocals := 2, code := jdk_17_method_21_code, exceptionTable := #[], attributes := #[] }
def k6m1 : Method := { name := "valueOf", desc := "(J)Ljava/math/BigDecimal;", sig := { parameters := [.long], returnType := some (.object "java/math/BigDecimal") }, accessFlags := 9, code := some k6c1 }
def k6c2 : Code := { maxStack := 6, maxLocals := 2, code := jdk_17_method_26_code, exceptionTable := #[], attributes := #[] }
def k6m2 : Method := { name := "add", desc := "(Ljava/math/BigDecimal;)Ljava/math/BigDecimal;", sig := { parameters := [(.object "java/math/BigDecimal")], returnType := some (.object "java/math/BigDecimal") }, accessFlags := 1, code := some k6c2 }
def k6c3 : Code := { maxStack := 6, maxLocals := 6, code := jdk_17_method_132_code, exceptionTable := #[], attributes := #[] }
def k6m3 : Method := { name := "add", desc := "(JJ)J", sig := { parameters := [.long, .long], returnType := some .long }, accessFlags := 10, code := some k6c3 }
def k6c4 : Code := { maxStack := 5, maxLocals := 7, code := jdk_17_method_133_code, exceptionTable := #[], attributes := #[] }
def k6m4 : Method := { name := "add", desc := "(JJI)Ljava/math/BigDecimal;", sig := { parameters := [.long, .long, .int], returnType := some (.object "java/math/BigDecimal") }, accessFlags := 10, code := some k6c4 }
def k6c5 : Code := { maxStack := 7, maxLocals := 12, code := jdk_17_method_134_code, exceptionTable := #[], attributes := #[] }
def k6m5 : Method := { name := "add", desc := "(JIJI)Ljava/math/BigDecimal;", sig := { parameters := [.long, .int, .long, .int], returnType := some (.object "java/math/BigDecimal") }, accessFlags := 10, code := some k6c5 }
/-- java/math/BigDecimal -/
def k6 : Class := { plain "java/math/BigDecimal" (some 4) with
  accessFlags := 33
  interfaces := #[5]
  cf := some (fileOf pool6 3 #[.nestMembers #[500, 851, 770, 697]] #[{ accessFlags := 9, nameIndex := 195, descriptorIndex := 330, attributes := #[] }, { accessFlags := 9, nameIndex := 195, descriptorIndex := 238, attributes := #[] }, { accessFlags := 1, nameIndex := 259, descriptorIndex := 269, attributes := #[] }, { accessFlags := 10, nameIndex := 259, descriptorIndex := 322, attributes := #[] }, { accessFlags := 10, nameIndex := 259, descriptorIndex := 344, attributes := #[] }, { accessFlags := 10, nameIndex := 259, descriptorIndex := 260, attributes := #[] }] 33 12 #[1296] #[{ accessFlags := 26, nameIndex := 1298, descriptorIndex := 1299, attributes := #[] }, { accessFlags := 26, nameIndex := 1301, descriptorIndex := 20, attributes := #[] }, { accessFlags := 26, nameIndex := 1303, descriptorIndex := 20, attributes := #[] }, { accessFlags := 26, nameIndex := 1305, descriptorIndex := 20, attributes := #[] }, { accessFlags := 26, nameIndex := 1307, descriptorIndex := 20, attributes := #[] }, { accessFlags := 26, nameIndex := 1309, descriptorIndex := 20, attributes := #[] }, { accessFlags := 26, nameIndex := 1311, descriptorIndex := 20, attributes := #[] }, { accessFlags := 18, nameIndex := 30, descriptorIndex := 31, attributes := #[] }, { accessFlags := 18, nameIndex := 19, descriptorIndex := 20, attributes := #[] }, { accessFlags := 130, nameIndex := 23, descriptorIndex := 20, attributes := #[] }, { accessFlags := 130, nameIndex := 643, descriptorIndex := 644, attributes := #[] }, { accessFlags := 24, nameIndex := 1313, descriptorIndex := 27, attributes := #[] }, { accessFlags := 26, nameIndex := 190, descriptorIndex := 31, attributes := #[] }, { accessFlags := 146, nameIndex := 26, descriptorIndex := 27, attributes := #[] }, { accessFlags := 26, nameIndex := 1314, descriptorIndex := 20, attributes := #[] }, { accessFlags := 26, nameIndex := 1316, descriptorIndex := 27, attributes := #[] }, { accessFlags := 26, nameIndex := 248, descriptorIndex := 249, attributes := #[] }, { accessFlags := 26, nameIndex := 252, descriptorIndex := 249, attributes := #[] }, { accessFlags := 26, nameIndex := 1319, descriptorIndex := 27, attributes := #[] }, { accessFlags := 26, nameIndex := 1320, descriptorIndex := 27, attributes := #[] }, { accessFlags := 25, nameIndex := 187, descriptorIndex := 479, attributes := #[] }, { accessFlags := 25, nameIndex := 535, descriptorIndex := 479, attributes := #[] }, { accessFlags := 25, nameIndex := 206, descriptorIndex := 479, attributes := #[] }, { accessFlags := 25, nameIndex := 485, descriptorIndex := 479, attributes := #[] }, { accessFlags := 26, nameIndex := 478, descriptorIndex := 479, attributes := #[] }, { accessFlags := 26, nameIndex := 518, descriptorIndex := 479, attributes := #[] }, { accessFlags := 25, nameIndex := 1321, descriptorIndex := 20, attributes := #[] }, { accessFlags := 25, nameIndex := 1328, descriptorIndex := 20, attributes := #[] }, { accessFlags := 25, nameIndex := 1330, descriptorIndex := 20, attributes := #[] }, { accessFlags := 25, nameIndex := 1332, descriptorIndex := 20, attributes := #[] }, { accessFlags := 25, nameIndex := 1334, descriptorIndex := 20, attributes := #[] }, { accessFlags := 25, nameIndex := 1336, descriptorIndex := 20, attributes := #[] }, { accessFlags := 25, nameIndex := 1338, descriptorIndex := 20, attributes := #[] }, { accessFlags := 25, nameIndex := 1340, descriptorIndex := 20, attributes := #[] }, { accessFlags := 26, nameIndex := 749, descriptorIndex := 750, attributes := #[] }, { accessFlags := 26, nameIndex := 708, descriptorIndex := 709, attributes := #[] }, { accessFlags := 26, nameIndex := 97, descriptorIndex := 98, attributes := #[] }, { accessFlags := 74, nameIndex := 811, descriptorIndex := 812, attributes := #[] }, { accessFlags := 26, nameIndex := 1182, descriptorIndex := 20, attributes := #[] }, { accessFlags := 26, nameIndex := 808, descriptorIndex := 20, attributes := #[] }, { accessFlags := 26, nameIndex := 827, descriptorIndex := 98, attributes := #[] }, { accessFlags := 26, nameIndex := 1342, descriptorIndex := 27, attributes := #[] }, { accessFlags := 26, nameIndex := 1068, descriptorIndex := 1069, attributes := #[] }, { accessFlags := 4120, nameIndex := 313, descriptorIndex := 314, attributes := #[] }])
  fields := #[{ name := "L", type := .double, accessFlags := 26, slot := 0, constantValue := 0 }, { name := "P_F", type := .int, accessFlags := 26, slot := 1, constantValue := 0 }, { name := "Q_MIN_F", type := .int, accessFlags := 26, slot := 2, constantValue := 0 }, { name := "Q_MAX_F", type := .int, accessFlags := 26, slot := 3, constantValue := 0 }, { name := "P_D", type := .int, accessFlags := 26, slot := 4, constantValue := 0 }, { name := "Q_MIN_D", type := .int, accessFlags := 26, slot := 5, constantValue := 0 }, { name := "Q_MAX_D", type := .int, accessFlags := 26, slot := 6, constantValue := 0 }, { name := "intVal", type := (.object "java/math/BigInteger"), accessFlags := 18, slot := 0, constantValue := 0 }, { name := "scale", type := .int, accessFlags := 18, slot := 1, constantValue := 0 }, { name := "precision", type := .int, accessFlags := 130, slot := 2, constantValue := 0 }, { name := "stringCache", type := (.object "java/lang/String"), accessFlags := 130, slot := 3, constantValue := 0 }, { name := "INFLATED", type := .long, accessFlags := 24, slot := 7, constantValue := 0 }, { name := "INFLATED_BIGINT", type := (.object "java/math/BigInteger"), accessFlags := 26, slot := 8, constantValue := 0 }, { name := "intCompact", type := .long, accessFlags := 146, slot := 4, constantValue := 0 }, { name := "MAX_COMPACT_DIGITS", type := .int, accessFlags := 26, slot := 9, constantValue := 0 }, { name := "serialVersionUID", type := .long, accessFlags := 26, slot := 10, constantValue := 0 }, { name := "ZERO_THROUGH_TEN", type := (.array (.object "java/math/BigDecimal")), accessFlags := 26, slot := 11, constantValue := 0 }, { name := "ZERO_SCALED_BY", type := (.array (.object "java/math/BigDecimal")), accessFlags := 26, slot := 12, constantValue := 0 }, { name := "HALF_LONG_MAX_VALUE", type := .long, accessFlags := 26, slot := 13, constantValue := 0 }, { name := "HALF_LONG_MIN_VALUE", type := .long, accessFlags := 26, slot := 14, constantValue := 0 }, { name := "ZERO", type := (.object "java/math/BigDecimal"), accessFlags := 25, slot := 15, constantValue := 0 }, { name := "ONE", type := (.object "java/math/BigDecimal"), accessFlags := 25, slot := 16, constantValue := 0 }, { name := "TWO", type := (.object "java/math/BigDecimal"), accessFlags := 25, slot := 17, constantValue := 0 }, { name := "TEN", type := (.object "java/math/BigDecimal"), accessFlags := 25, slot := 18, constantValue := 0 }, { name := "ONE_TENTH", type := (.object "java/math/BigDecimal"), accessFlags := 26, slot := 19, constantValue := 0 }, { name := "ONE_HALF", type := (.object "java/math/BigDecimal"), accessFlags := 26, slot := 20, constantValue := 0 }, { name := "ROUND_UP", type := .int, accessFlags := 25, slot := 21, constantValue := 0 }, { name := "ROUND_DOWN", type := .int, accessFlags := 25, slot := 22, constantValue := 0 }, { name := "ROUND_CEILING", type := .int, accessFlags := 25, slot := 23, constantValue := 0 }, { name := "ROUND_FLOOR", type := .int, accessFlags := 25, slot := 24, constantValue := 0 }, { name := "ROUND_HALF_UP", type := .int, accessFlags := 25, slot := 25, constantValue := 0 }, { name := "ROUND_HALF_DOWN", type := .int, accessFlags := 25, slot := 26, constantValue := 0 }, { name := "ROUND_HALF_EVEN", type := .int, accessFlags := 25, slot := 27, constantValue := 0 }, { name := "ROUND_UNNECESSARY", type := .int, accessFlags := 25, slot := 28, constantValue := 0 }, { name := "DOUBLE_10_POW", type := (.array .double), accessFlags := 26, slot := 29, constantValue := 0 }, { name := "FLOAT_10_POW", type := (.array .float), accessFlags := 26, slot := 30, constantValue := 0 }, { name := "LONG_TEN_POWERS_TABLE", type := (.array .long), accessFlags := 26, slot := 31, constantValue := 0 }, { name := "BIG_TEN_POWERS_TABLE", type := (.array (.object "java/math/BigInteger")), accessFlags := 74, slot := 32, constantValue := 0 }, { name := "BIG_TEN_POWERS_TABLE_INITLEN", type := .int, accessFlags := 26, slot := 33, constantValue := 0 }, { name := "BIG_TEN_POWERS_TABLE_MAX", type := .int, accessFlags := 26, slot := 34, constantValue := 0 }, { name := "THRESHOLDS_TABLE", type := (.array .long), accessFlags := 26, slot := 35, constantValue := 0 }, { name := "DIV_NUM_BASE", type := .long, accessFlags := 26, slot := 36, constantValue := 0 }, { name := "LONGLONG_TEN_POWERS_TABLE", type := (.array (.array .long)), accessFlags := 26, slot := 37, constantValue := 0 }, { name := "$assertionsDisabled", type := .boolean, accessFlags := 4120, slot := 38, constantValue := 0 }]
  methods := #[k6m0, k6m1, k6m2, k6m3, k6m4, k6m5]
  instanceTypes := #[(.object "java/math/BigInteger"), .int, .int, (.object "java/lang/String"), .long]
  staticTypes := #[.double, .int, .int, .int, .int, .int, .int, .long, (.object "java/math/BigInteger"), .int, .long, (.array (.object "java/math/BigDecimal")), (.array (.object "java/math/BigDecimal")), .long, .long, (.object "java/math/BigDecimal"), (.object "java/math/BigDecimal"), (.object "java/math/BigDecimal"), (.object "java/math/BigDecimal"), (.object "java/math/BigDecimal"), (.object "java/math/BigDecimal"), .int, .int, .int, .int, .int, .int, .int, .int, (.array .double), (.array .float), (.array .long), (.array (.object "java/math/BigInteger")), .int, .int, (.array .long), .long, (.array (.array .long)), .boolean]
  resolved := Array.replicate 1637 none
  statics := some 0 }

def pool7 : Array CpInfo := pool [(2, .class_ 4), (1, u "java/lang/Object"), (0, u "<init>"), (0, u "()V"), (6, .methodref 14 15), (0, .class_ 16), (0, .nameAndType 17 18), (0, u "java/util/Arrays"), (0, u "rangeCheck"), (0, u "(III)V"), (55, .class_ 76), (1, u "java/util/Arrays$NaturalOrder"), (36, .class_ 115), (1, u "java/util/Arrays$LegacyMergeSort"), (1, u "Z"), (89, u "binarySearch0"), (1, .methodref 14 210), (0, .nameAndType 207 211), (0, u "([IIII)I"), (163, .class_ 376), (0, u "java/util/Arrays$ArrayList"), (68, u "$assertionsDisabled"), (269, u "MIN_ARRAY_SORT_GRAN"), (0, u "I"), (2, u "INSERTIONSORT_THRESHOLD"), (74, u "binarySearch"), (180, .class_ 976), (0, u "java/util/Arrays$ArrayItr")] 52

def k7m0 : Method := { name := "<init>", desc := "()V", sig := { parameters := [], returnType := none }, accessFlags := 2, code := none }
def k7c1 : Code := { maxStack := 4, maxLocals := 3, code := jdk_65_method_30_code, exceptionTable := #[], attributes := #[] }
def k7m1 : Method := { name := "rangeCheck", desc := "(III)V", sig := { parameters := [.int, .int, .int], returnType := none }, accessFlags := 8, code := some k7c1 }
def k7c2 : Code := { maxStack := 4, maxLocals := 4, code := jdk_65_method_58_code, exceptionTable := #[], attributes := #[] }
def k7m2 : Method := { name := "binarySearch", desc := "([IIII)I", sig := { parameters := [(.array .int), .int, .int, .int], returnType := some .int }, accessFlags := 9, code := some k7c2 }
def k7c3 : Code := { maxStack := 2, maxLocals := 8, code := jdk_65_method_59_code, exceptionTable := #[], attributes := #[] }
def k7m3 : Method := { name := "binarySearch0", desc := "([IIII)I", sig := { parameters := [(.array .int), .int, .int, .int], returnType := some .int }, accessFlags := 10, code := some k7c3 }
/-- java/util/Arrays -/
def k7 : Class := { plain "java/util/Arrays" (some 0) with
  accessFlags := 49
  interfaces := #[]
  cf := some (fileOf pool7 14 #[.nestMembers #[975, 375, 113, 74]] #[{ accessFlags := 2, nameIndex := 5, descriptorIndex := 6, attributes := #[] }, { accessFlags := 8, nameIndex := 17, descriptorIndex := 18, attributes := #[] }, { accessFlags := 9, nameIndex := 794, descriptorIndex := 211, attributes := #[] }, { accessFlags := 10, nameIndex := 207, descriptorIndex := 211, attributes := #[] }] 49 2 #[] #[{ accessFlags := 26, nameIndex := 715, descriptorIndex := 716, attributes := #[] }, { accessFlags := 26, nameIndex := 719, descriptorIndex := 716, attributes := #[] }, { accessFlags := 4120, nameIndex := 445, descriptorIndex := 117, attributes := #[] }])
  fields := #[{ name := "MIN_ARRAY_SORT_GRAN", type := .int, accessFlags := 26, slot := 0, constantValue := 0 }, { name := "INSERTIONSORT_THRESHOLD", type := .int, accessFlags := 26, slot := 1, constantValue := 0 }, { name := "$assertionsDisabled", type := .boolean, accessFlags := 4120, slot := 2, constantValue := 0 }]
  methods := #[k7m0, k7m1, k7m2, k7m3]
  instanceTypes := #[]
  staticTypes := #[.int, .int, .boolean]
  resolved := Array.replicate 1029 none
  statics := none }

def pool8 : Array CpInfo := pool [(2, .class_ 4), (1, u "java/lang/Object"), (0, u "<init>"), (0, u "()V"), (1, .class_ 10), (1, u "java/lang/System"), (0, u "allowSecurityManager"), (0, u "I"), (16, u "cons"), (0, u "Ljava/io/Console;"), (77, .class_ 110), (1, u "java/lang/System$CallersHolder"), (43, u "initialErrStream"), (0, u "Ljava/io/PrintStream;"), (19, u "security"), (0, u "Ljava/lang/SecurityManager;"), (31, .class_ 209), (0, u "java/lang/System$1"), (7, u "props"), (0, u "Ljava/util/Properties;"), (2, u "lineSeparator"), (0, u "Ljava/lang/String;"), (96, .class_ 321), (1, u "java/lang/System$LoggerFinder"), (5, .class_ 328), (0, u "java/lang/System$Logger"), (67, u "err"), (2, u "out"), (91, u "notSupportedJnuEncoding"), (15, u "in"), (17, u "initialIn"), (0, u "Ljava/io/InputStream;"), (35, u "bootLayer"), (0, u "Ljava/lang/ModuleLayer;"), (99, .class_ 664), (0, u "java/lang/System$2"), (9, u "NEVER"), (2, u "MAYBE"), (49, u "arraycopy"), (0, u "(Ljava/lang/Object;ILjava/lang/Object;II)V"), (72, .class_ 802), (0, u "java/lang/System$Logger$Level")] 31

def k8m0 : Method := { name := "<init>", desc := "()V", sig := { parameters := [], returnType := none }, accessFlags := 2, code := none }
def k8m1 : Method := { name := "arraycopy", desc := "(Ljava/lang/Object;ILjava/lang/Object;II)V", sig := { parameters := [(.object "java/lang/Object"), .int, (.object "java/lang/Object"), .int, .int], returnType := none }, accessFlags := 265, code := none }
/-- java/lang/System -/
def k8 : Class := { plain "java/lang/System" (some 0) with
  accessFlags := 49
  interfaces := #[]
  cf := some (fileOf pool8 8 #[.nestMembers #[319, 327, 801, 108, 663, 208]] #[{ accessFlags := 2, nameIndex := 5, descriptorIndex := 6, attributes := #[] }, { accessFlags := 265, nameIndex := 727, descriptorIndex := 728, attributes := #[] }] 49 2 #[] #[{ accessFlags := 25, nameIndex := 507, descriptorIndex := 526, attributes := #[] }, { accessFlags := 25, nameIndex := 399, descriptorIndex := 155, attributes := #[] }, { accessFlags := 25, nameIndex := 396, descriptorIndex := 155, attributes := #[] }, { accessFlags := 10, nameIndex := 525, descriptorIndex := 526, attributes := #[] }, { accessFlags := 26, nameIndex := 674, descriptorIndex := 12, attributes := #[] }, { accessFlags := 26, nameIndex := 677, descriptorIndex := 12, attributes := #[] }, { accessFlags := 10, nameIndex := 11, descriptorIndex := 12, attributes := #[] }, { accessFlags := 74, nameIndex := 175, descriptorIndex := 176, attributes := #[] }, { accessFlags := 10, nameIndex := 491, descriptorIndex := 222, attributes := #[] }, { accessFlags := 74, nameIndex := 29, descriptorIndex := 30, attributes := #[] }, { accessFlags := 74, nameIndex := 154, descriptorIndex := 155, attributes := #[] }, { accessFlags := 10, nameIndex := 217, descriptorIndex := 218, attributes := #[] }, { accessFlags := 10, nameIndex := 221, descriptorIndex := 222, attributes := #[] }, { accessFlags := 8, nameIndex := 562, descriptorIndex := 563, attributes := #[] }])
  fields := #[{ name := "in", type := (.object "java/io/InputStream"), accessFlags := 25, slot := 0, constantValue := 0 }, { name := "out", type := (.object "java/io/PrintStream"), accessFlags := 25, slot := 1, constantValue := 0 }, { name := "err", type := (.object "java/io/PrintStream"), accessFlags := 25, slot := 2, constantValue := 0 }, { name := "initialIn", type := (.object "java/io/InputStream"), accessFlags := 10, slot := 3, constantValue := 0 }, { name := "NEVER", type := .int, accessFlags := 26, slot := 4, constantValue := 0 }, { name := "MAYBE", type := .int, accessFlags := 26, slot := 5, constantValue := 0 }, { name := "allowSecurityManager", type := .int, accessFlags := 10, slot := 6, constantValue := 0 }, { name := "security", type := (.object "java/lang/SecurityManager"), accessFlags := 74, slot := 7, constantValue := 0 }, { name := "notSupportedJnuEncoding", type := (.object "java/lang/String"), accessFlags := 10, slot := 8, constantValue := 0 }, { name := "cons", type := (.object "java/io/Console"), accessFlags := 74, slot := 9, constantValue := 0 }, { name := "initialErrStream", type := (.object "java/io/PrintStream"), accessFlags := 74, slot := 10, constantValue := 0 }, { name := "props", type := (.object "java/util/Properties"), accessFlags := 10, slot := 11, constantValue := 0 }, { name := "lineSeparator", type := (.object "java/lang/String"), accessFlags := 10, slot := 12, constantValue := 0 }, { name := "bootLayer", type := (.object "java/lang/ModuleLayer"), accessFlags := 8, slot := 13, constantValue := 0 }]
  methods := #[k8m0, k8m1]
  instanceTypes := #[]
  staticTypes := #[(.object "java/io/InputStream"), (.object "java/io/PrintStream"), (.object "java/io/PrintStream"), (.object "java/io/InputStream"), .int, .int, .int, (.object "java/lang/SecurityManager"), (.object "java/lang/String"), (.object "java/io/Console"), (.object "java/io/PrintStream"), (.object "java/util/Properties"), (.object "java/lang/String"), (.object "java/lang/ModuleLayer")]
  resolved := Array.replicate 834 none
  statics := none }

def pool9 : Array CpInfo := pool [(4, .class_ 6), (1, u "java/lang/Number"), (16, .class_ 25), (1, u "java/math/BigInteger"), (0, u "ZERO"), (0, u "Ljava/math/BigInteger;"), (2, u "mag"), (0, u "[I"), (2, u "signum"), (0, u "I"), (59, u "bitsPerDigit"), (0, u "[J"), (9, u "digitsPerInt"), (12, u "intRadix"), (60, u "SMALL_PRIME_PRODUCT"), (79, u "ONE"), (6, u "TWO"), (43, u "$assertionsDisabled"), (0, u "Z"), (36, u "posConst"), (0, u "[Ljava/math/BigInteger;"), (4, u "negConst"), (116, .class_ 474), (1, u "java/math/BigInteger$RecursiveOp"), (106, u "NEGATIVE_ONE"), (91, u "bnExpModThreshTable"), (72, u "lowestSetBitPlusTwo"), (2, u "bitLengthPlusOne"), (2, u "bitCountPlusOne"), (6, u "LOG_TWO"), (0, u "D"), (2, u "logCache"), (0, u "[D"), (13, u "NUM_ZEROS"), (2, u "ZEROS"), (0, u "Ljava/lang/String;"), (9, u "longRadix"), (5, u "digitsPerLong"), (22, u "powerCache"), (0, u "[[Ljava/math/BigInteger;"), (45, u "firstNonzeroIntNumPlusTwo"), (38, .class_ 909), (1, u "java/math/BigInteger$UnsafeHolder"), (141, u "TEN"), (106, u "serialPersistentFields"), (0, u "[Ljava/io/ObjectStreamField;"), (0, .class_ 1161), (0, u "java/lang/Comparable"), (0, u "LONG_MASK"), (0, u "J"), (1, u "MAX_MAG_LENGTH"), (0, u "PRIME_SEARCH_BIT_LENGTH_LIMIT"), (1, u "KARATSUBA_THRESHOLD"), (1, u "TOOM_COOK_THRESHOLD"), (1, u "KARATSUBA_SQUARE_THRESHOLD"), (1, u "TOOM_COOK_SQUARE_THRESHOLD"), (1, u "BURNIKEL_ZIEGLER_THRESHOLD"), (0, u "BURNIKEL_ZIEGLER_OFFSET"), (1, u "SCHOENHAGE_BASE_CONVERSION_THRESHOLD"), (1, u "MULTIPLY_SQUARE_THRESHOLD"), (0, u "MONTGOMERY_INTRINSIC_THRESHOLD"), (1, u "SMALL_PRIME_THRESHOLD"), (1, u "DEFAULT_PRIME_CERTAINTY"), (1, u "MAX_CONSTANT"), (3, u "serialVersionUID"), (338, .class_ 1532), (0, u "java/math/BigInteger$RecursiveOp$RecursiveSquare"), (0, .class_ 1534), (0, u "java/math/BigInteger$RecursiveOp$RecursiveMultiply")] 7

/-- java/math/BigInteger -/
def k9 : Class := { plain "java/math/BigInteger" (some 4) with
  accessFlags := 33
  interfaces := #[5]
  cf := some (fileOf pool9 23 #[.nestMembers #[907, 472, 1531, 1533]] #[] 33 4 #[1160] #[{ accessFlags := 16, nameIndex := 34, descriptorIndex := 35, attributes := #[] }, { accessFlags := 16, nameIndex := 30, descriptorIndex := 31, attributes := #[] }, { accessFlags := 2, nameIndex := 752, descriptorIndex := 35, attributes := #[] }, { accessFlags := 2, nameIndex := 749, descriptorIndex := 35, attributes := #[] }, { accessFlags := 2, nameIndex := 746, descriptorIndex := 35, attributes := #[] }, { accessFlags := 2, nameIndex := 868, descriptorIndex := 35, attributes := #[] }, { accessFlags := 24, nameIndex := 1162, descriptorIndex := 1163, attributes := #[] }, { accessFlags := 26, nameIndex := 1165, descriptorIndex := 35, attributes := #[] }, { accessFlags := 26, nameIndex := 1166, descriptorIndex := 35, attributes := #[] }, { accessFlags := 26, nameIndex := 1168, descriptorIndex := 35, attributes := #[] }, { accessFlags := 26, nameIndex := 1170, descriptorIndex := 35, attributes := #[] }, { accessFlags := 26, nameIndex := 1172, descriptorIndex := 35, attributes := #[] }, { accessFlags := 26, nameIndex := 1174, descriptorIndex := 35, attributes := #[] }, { accessFlags := 24, nameIndex := 1176, descriptorIndex := 35, attributes := #[] }, { accessFlags := 24, nameIndex := 1177, descriptorIndex := 35, attributes := #[] }, { accessFlags := 26, nameIndex := 1179, descriptorIndex := 35, attributes := #[] }, { accessFlags := 26, nameIndex := 1181, descriptorIndex := 35, attributes := #[] }, { accessFlags := 26, nameIndex := 1182, descriptorIndex := 35, attributes := #[] }, { accessFlags := 10, nameIndex := 95, descriptorIndex := 96, attributes := #[] }, { accessFlags := 26, nameIndex := 1184, descriptorIndex := 35, attributes := #[] }, { accessFlags := 26, nameIndex := 1186, descriptorIndex := 35, attributes := #[] }, { accessFlags := 26, nameIndex := 180, descriptorIndex := 27, attributes := #[] }, { accessFlags := 26, nameIndex := 1188, descriptorIndex := 35, attributes := #[] }, { accessFlags := 26, nameIndex := 349, descriptorIndex := 350, attributes := #[] }, { accessFlags := 26, nameIndex := 355, descriptorIndex := 350, attributes := #[] }, { accessFlags := 74, nameIndex := 821, descriptorIndex := 822, attributes := #[] }, { accessFlags := 26, nameIndex := 763, descriptorIndex := 764, attributes := #[] }, { accessFlags := 26, nameIndex := 759, descriptorIndex := 760, attributes := #[] }, { accessFlags := 25, nameIndex := 26, descriptorIndex := 27, attributes := #[] }, { accessFlags := 25, nameIndex := 260, descriptorIndex := 27, attributes := #[] }, { accessFlags := 25, nameIndex := 267, descriptorIndex := 27, attributes := #[] }, { accessFlags := 26, nameIndex := 581, descriptorIndex := 27, attributes := #[] }, { accessFlags := 25, nameIndex := 1051, descriptorIndex := 27, attributes := #[] }, { accessFlags := 8, nameIndex := 673, descriptorIndex := 31, attributes := #[] }, { accessFlags := 10, nameIndex := 778, descriptorIndex := 35, attributes := #[] }, { accessFlags := 26, nameIndex := 781, descriptorIndex := 782, attributes := #[] }, { accessFlags := 10, nameIndex := 798, descriptorIndex := 31, attributes := #[] }, { accessFlags := 10, nameIndex := 792, descriptorIndex := 350, attributes := #[] }, { accessFlags := 10, nameIndex := 106, descriptorIndex := 31, attributes := #[] }, { accessFlags := 10, nameIndex := 119, descriptorIndex := 31, attributes := #[] }, { accessFlags := 26, nameIndex := 1192, descriptorIndex := 1163, attributes := #[] }, { accessFlags := 26, nameIndex := 1158, descriptorIndex := 1159, attributes := #[] }, { accessFlags := 4120, nameIndex := 311, descriptorIndex := 312, attributes := #[] }])
  fields := #[{ name := "signum", type := .int, accessFlags := 16, slot := 0, constantValue := 0 }, { name := "mag", type := (.array .int), accessFlags := 16, slot := 1, constantValue := 0 }, { name := "bitCountPlusOne", type := .int, accessFlags := 2, slot := 2, constantValue := 0 }, { name := "bitLengthPlusOne", type := .int, accessFlags := 2, slot := 3, constantValue := 0 }, { name := "lowestSetBitPlusTwo", type := .int, accessFlags := 2, slot := 4, constantValue := 0 }, { name := "firstNonzeroIntNumPlusTwo", type := .int, accessFlags := 2, slot := 5, constantValue := 0 }, { name := "LONG_MASK", type := .long, accessFlags := 24, slot := 0, constantValue := 0 }, { name := "MAX_MAG_LENGTH", type := .int, accessFlags := 26, slot := 1, constantValue := 0 }, { name := "PRIME_SEARCH_BIT_LENGTH_LIMIT", type := .int, accessFlags := 26, slot := 2, constantValue := 0 }, { name := "KARATSUBA_THRESHOLD", type := .int, accessFlags := 26, slot := 3, constantValue := 0 }, { name := "TOOM_COOK_THRESHOLD", type := .int, accessFlags := 26, slot := 4, constantValue := 0 }, { name := "KARATSUBA_SQUARE_THRESHOLD", type := .int, accessFlags := 26, slot := 5, constantValue := 0 }, { name := "TOOM_COOK_SQUARE_THRESHOLD", type := .int, accessFlags := 26, slot := 6, constantValue := 0 }, { name := "BURNIKEL_ZIEGLER_THRESHOLD", type := .int, accessFlags := 24, slot := 7, constantValue := 0 }, { name := "BURNIKEL_ZIEGLER_OFFSET", type := .int, accessFlags := 24, slot := 8, constantValue := 0 }, { name := "SCHOENHAGE_BASE_CONVERSION_THRESHOLD", type := .int, accessFlags := 26, slot := 9, constantValue := 0 }, { name := "MULTIPLY_SQUARE_THRESHOLD", type := .int, accessFlags := 26, slot := 10, constantValue := 0 }, { name := "MONTGOMERY_INTRINSIC_THRESHOLD", type := .int, accessFlags := 26, slot := 11, constantValue := 0 }, { name := "bitsPerDigit", type := (.array .long), accessFlags := 10, slot := 12, constantValue := 0 }, { name := "SMALL_PRIME_THRESHOLD", type := .int, accessFlags := 26, slot := 13, constantValue := 0 }, { name := "DEFAULT_PRIME_CERTAINTY", type := .int, accessFlags := 26, slot := 14, constantValue := 0 }, { name := "SMALL_PRIME_PRODUCT", type := (.object "java/math/BigInteger"), accessFlags := 26, slot := 15, constantValue := 0 }, { name := "MAX_CONSTANT", type := .int, accessFlags := 26, slot := 16, constantValue := 0 }, { name := "posConst", type := (.array (.object "java/math/BigInteger")), accessFlags := 26, slot := 17, constantValue := 0 }, { name := "negConst", type := (.array (.object "java/math/BigInteger")), accessFlags := 26, slot := 18, constantValue := 0 }, { name := "powerCache", type := (.array (.array (.object "java/math/BigInteger"))), accessFlags := 74, slot := 19, constantValue := 0 }, { name := "logCache", type := (.array .double), accessFlags := 26, slot := 20, constantValue := 0 }, { name := "LOG_TWO", type := .double, accessFlags := 26, slot := 21, constantValue := 0 }, { name := "ZERO", type := (.object "java/math/BigInteger"), accessFlags := 25, slot := 22, constantValue := 0 }, { name := "ONE", type := (.object "java/math/BigInteger"), accessFlags := 25, slot := 23, constantValue := 0 }, { name := "TWO", type := (.object "java/math/BigInteger"), accessFlags := 25, slot := 24, constantValue := 0 }, { name := "NEGATIVE_ONE", type := (.object "java/math/BigInteger"), accessFlags := 26, slot := 25, constantValue := 0 }, { name := "TEN", type := (.object "java/math/BigInteger"), accessFlags := 25, slot := 26, constantValue := 0 }, { name := "bnExpModThreshTable", type := (.array .int), accessFlags := 8, slot := 27, constantValue := 0 }, { name := "NUM_ZEROS", type := .int, accessFlags := 10, slot := 28, constantValue := 0 }, { name := "ZEROS", type := (.object "java/lang/String"), accessFlags := 26, slot := 29, constantValue := 0 }, { name := "digitsPerLong", type := (.array .int), accessFlags := 10, slot := 30, constantValue := 0 }, { name := "longRadix", type := (.array (.object "java/math/BigInteger")), accessFlags := 10, slot := 31, constantValue := 0 }, { name := "digitsPerInt", type := (.array .int), accessFlags := 10, slot := 32, constantValue := 0 }, { name := "intRadix", type := (.array .int), accessFlags := 10, slot := 33, constantValue := 0 }, { name := "serialVersionUID", type := .long, accessFlags := 26, slot := 34, constantValue := 0 }, { name := "serialPersistentFields", type := (.array (.object "java/io/ObjectStreamField")), accessFlags := 26, slot := 35, constantValue := 0 }, { name := "$assertionsDisabled", type := .boolean, accessFlags := 4120, slot := 36, constantValue := 0 }]
  methods := #[]
  instanceTypes := #[.int, (.array .int), .int, .int, .int, .int]
  staticTypes := #[.long, .int, .int, .int, .int, .int, .int, .int, .int, .int, .int, .int, (.array .long), .int, .int, (.object "java/math/BigInteger"), .int, (.array (.object "java/math/BigInteger")), (.array (.object "java/math/BigInteger")), (.array (.array (.object "java/math/BigInteger"))), (.array .double), .double, (.object "java/math/BigInteger"), (.object "java/math/BigInteger"), (.object "java/math/BigInteger"), (.object "java/math/BigInteger"), (.object "java/math/BigInteger"), (.array .int), .int, (.object "java/lang/String"), (.array .int), (.array (.object "java/math/BigInteger")), (.array .int), (.array .int), .long, (.array (.object "java/io/ObjectStreamField")), .boolean]
  resolved := Array.replicate 1542 none
  statics := some 1 }

def pool10 : Array CpInfo := pool [(1, u "java/lang/Cloneable"), (0, .class_ 1), (0, u "java/lang/Object"), (0, .class_ 3)] 3

/-- java/lang/Cloneable -/
def k10 : Class := { plain "java/lang/Cloneable" (some 0) with
  accessFlags := 1537
  interfaces := #[]
  cf := some (fileOf pool10 2 #[] #[] 1537 4 #[] #[])
  fields := #[]
  methods := #[]
  instanceTypes := #[]
  staticTypes := #[]
  resolved := Array.replicate 8 none
  statics := none }

/-- the primitive byte -/
def k11 : Class := { plain "byte" none with kind := .primitive 'B', accessFlags := 0x411 }
/-- [B -/
def k12 : Class := { plain "[B" (some 0) with kind := .array 11 .byte, interfaces := #[10, 3], accessFlags := 1041 }

/-- the primitive int -/
def k13 : Class := { plain "int" none with kind := .primitive 'I', accessFlags := 0x411 }
/-- [I -/
def k14 : Class := { plain "[I" (some 0) with kind := .array 13 .int, interfaces := #[10, 3], accessFlags := 1041 }

/-- [Ljava/math/BigDecimal; -/
def k15 : Class := { plain "[Ljava/math/BigDecimal;" (some 0) with kind := .array 6 (.object "java/math/BigDecimal"), interfaces := #[10, 3], accessFlags := 1041 }

def heap : Heap := #[{ cls := 6, slots := #[.double 0, .int 0, .int 0, .int 0, .int 0, .int 0, .int 0, .long 0, .null, .int 0, .long 0, .ref 2, .null, .long 0, .long 0, .ref 3, .ref 4, .ref 5, .ref 13, .null, .null, .int 0, .int 0, .int 0, .int 0, .int 0, .int 0, .int 0, .int 0, .null, .null, .null, .null, .int 0, .int 0, .null, .long 0, .null, .int 0], vm := .statics 6 },
  { cls := 9, slots := #[.long 0, .int 0, .int 0, .int 0, .int 0, .int 0, .int 0, .int 0, .int 0, .int 0, .int 0, .int 0, .null, .int 0, .int 0, .null, .int 0, .null, .null, .null, .null, .double 0, .ref 14, .ref 15, .ref 16, .null, .ref 24, .null, .int 0, .null, .null, .null, .null, .null, .long 0, .null, .int 0], vm := .statics 9 },
  { cls := 15, slots := #[.ref 3, .ref 4, .ref 5, .ref 6, .ref 7, .ref 8, .ref 9, .ref 10, .ref 11, .ref 12, .ref 13], vm := .none },
  { cls := 6, slots := #[.ref 14, .int 0, .int 0, .null, .long 0], vm := .none },
  { cls := 6, slots := #[.ref 15, .int 0, .int 0, .null, .long 1], vm := .none },
  { cls := 6, slots := #[.ref 16, .int 0, .int 0, .null, .long 2], vm := .none },
  { cls := 6, slots := #[.ref 17, .int 0, .int 0, .null, .long 3], vm := .none },
  { cls := 6, slots := #[.ref 18, .int 0, .int 0, .null, .long 4], vm := .none },
  { cls := 6, slots := #[.ref 19, .int 0, .int 0, .null, .long 5], vm := .none },
  { cls := 6, slots := #[.ref 20, .int 0, .int 0, .null, .long 6], vm := .none },
  { cls := 6, slots := #[.ref 21, .int 0, .int 0, .null, .long 7], vm := .none },
  { cls := 6, slots := #[.ref 22, .int 0, .int 0, .null, .long 8], vm := .none },
  { cls := 6, slots := #[.ref 23, .int 0, .int 0, .null, .long 9], vm := .none },
  { cls := 6, slots := #[.ref 24, .int 0, .int 0, .null, .long 10], vm := .none },
  { cls := 9, slots := #[.int 0, .ref 25, .int 0, .int 0, .int 0, .int 0], vm := .none },
  { cls := 9, slots := #[.int 1, .ref 26, .int 0, .int 0, .int 0, .int 0], vm := .none },
  { cls := 9, slots := #[.int 1, .ref 27, .int 0, .int 0, .int 0, .int 0], vm := .none },
  { cls := 9, slots := #[.int 1, .ref 28, .int 0, .int 0, .int 0, .int 0], vm := .none },
  { cls := 9, slots := #[.int 1, .ref 29, .int 0, .int 0, .int 0, .int 0], vm := .none },
  { cls := 9, slots := #[.int 1, .ref 30, .int 0, .int 0, .int 0, .int 0], vm := .none },
  { cls := 9, slots := #[.int 1, .ref 31, .int 0, .int 0, .int 0, .int 0], vm := .none },
  { cls := 9, slots := #[.int 1, .ref 32, .int 0, .int 0, .int 0, .int 0], vm := .none },
  { cls := 9, slots := #[.int 1, .ref 33, .int 0, .int 0, .int 0, .int 0], vm := .none },
  { cls := 9, slots := #[.int 1, .ref 34, .int 0, .int 0, .int 0, .int 0], vm := .none },
  { cls := 9, slots := #[.int 1, .ref 35, .int 0, .int 0, .int 0, .int 0], vm := .none },
  { cls := 14, slots := #[], vm := .none },
  { cls := 14, slots := #[.int 1], vm := .none },
  { cls := 14, slots := #[.int 2], vm := .none },
  { cls := 14, slots := #[.int 3], vm := .none },
  { cls := 14, slots := #[.int 4], vm := .none },
  { cls := 14, slots := #[.int 5], vm := .none },
  { cls := 14, slots := #[.int 6], vm := .none },
  { cls := 14, slots := #[.int 7], vm := .none },
  { cls := 14, slots := #[.int 8], vm := .none },
  { cls := 14, slots := #[.int 9], vm := .none },
  { cls := 14, slots := #[.int 10], vm := .none }]
def classes : Array Class := #[k0, k1, k2, k3, k4, k5, k6, k7, k8, k9, k10, k11, k12, k13, k14, k15]
def interned : List (Array UInt16 × Addr) := []
def slotsUsed : Nat := 218
def theMethod : MethodId := ⟨1, 1⟩
def args0 : Array Value := #[.int 5, .int 5, .int 5, .int 5]
def aboutOver (below : List Frame) : State where
  vm := { classes := classes, interned := interned.toArray }
  heap := heap
  slotsUsed := slotsUsed
  threads := #[{ frames := .invoking theMethod args0 :: below }]
def below0 : List Frame := [.native { method := ⟨0, 0⟩, args := #[] }]
def about1 : State := aboutOver below0
def p0 : Program := .bare "" "" ""
def e0 : Env := launch0.env 0 0 0
theorem w_frames : about1.frames = Frame.invoking theMethod args0 :: below0 := rfl
set_option maxRecDepth 65536 in
theorem w_args : argsFit about1.vm theMethod args0 = true := by decide +kernel
set_option maxRecDepth 65536 in
theorem w_heap : heapFits about1 = true := by decide +kernel
set_option maxRecDepth 65536 in
theorem w_runnable : about1.curStatus? = some .runnable := by decide +kernel
set_option maxRecDepth 65536 in
theorem w_alone : about1.alone = true := by decide +kernel
set_option maxRecDepth 65536 in
theorem w_named : about1.methodNamed? x = some theMethod := by decide +kernel
set_option maxRecDepth 65536 in
theorem w_hears : about1.hears theMethod below0 = true := by decide +kernel
set_option maxRecDepth 65536 in
theorem w_ripe : about1.ripe theMethod args0 below0 = true := by decide +kernel
theorem w_running : about1.status = .running := rfl
set_option maxRecDepth 65536 in
theorem w_room : about1.hasRoom e0.platform room_1 = true :=
  launch0.hasRoom_least _ room_1 (by decide +kernel) (by decide +kernel) (by decide +kernel) (by decide +kernel) (by decide +kernel) (by decide +kernel)
theorem allAtoms_all (ts : List Jvm.Cond) (a : Array Jvm.Value) (st : Jvm.State) : (allAtoms ts).before a st = ts.all (fun c => c.before a st) := by
  induction ts with
  | nil => rfl
  | cons c t ih =>
    show (Jvm.Cond.and c (allAtoms t)).before a st = _
    rw [Jvm.Cond.before_and, ih, List.all_cons]
def words1 : List Jvm.Cond := Jvm.Cond.code x code maxLocals ret :: tables_1
/-- a 'code' word, met by the world's own term for the bytes: nothing is compared byte by byte -/
theorem code_word {y : MethodName} {bytes : ByteArray} {mx : Nat} {rt : Option FieldType} {a : Array Value} {s : State} {m : MethodId} {meth : Method} {c : Code} (h1 : s.methodNamed? y = some m) (h2 : s.vm.method? m = some meth) (h3 : meth.code = some c) (h4 : c.code = bytes)
    (h5 : (c.maxLocals == mx && c.exceptionTable.isEmpty && decide (c.maxStack ≤ mostOperands) && decide (meth.sig.returnType = rt) && !meth.locks && decide (parseMethodDescriptor y.desc = some meth.sig)) = true) : (Jvm.Cond.code y bytes mx rt).before a s = true := by
  simp only [Bool.and_eq_true, beq_iff_eq, Bool.not_eq_true', decide_eq_true_eq] at h5
  obtain ⟨⟨⟨⟨⟨g1, g2⟩, g3⟩, g4⟩, g5⟩, g6⟩ := h5
  simp [Cond.before, Cond.holds, Cond.value, h1, h2, h3, h4, g1, g2, g3, g4, g5, g6]
def isCode : Jvm.Cond → Bool
  | .code _ _ _ _ => true
  | _ => false
theorem all_split {L : List Jvm.Cond} {P : Jvm.Cond → Bool} (h1 : L.all (fun c => isCode c || P c) = true) (h2 : ∀ c ∈ L.filter isCode, P c = true) : L.all P = true := by
  refine List.all_eq_true.mpr fun c hc => ?_
  have h := List.all_eq_true.mp h1 c hc
  rcases Bool.eq_false_or_eq_true (isCode c) with hi | hi
  · exact h2 c (List.mem_filter.mpr ⟨hc, hi⟩)
  · simpa [hi] using h
set_option maxRecDepth 65536 in
theorem w_c0 : (Jvm.Cond.code x code maxLocals ret).before args0 about1 = true := code_word (m := ⟨1, 1⟩) (meth := k1m1) (c := k1c1) (by decide +kernel) rfl rfl rfl (by decide +kernel)
set_option maxRecDepth 65536 in
theorem w_c1 : (Jvm.Cond.code ({ cls := "com/example/deferra/deferra/crediting/DailyAmounts", name := "<init>", desc := "()V" } : Jvm.MethodName) prog_24_method_1_code (1 : Nat) (Option.none : Option Jvm.ClassFile.FieldType)).before args0 about1 = true := code_word (m := ⟨2, 0⟩) (meth := k2m0) (c := k2c0) (by decide +kernel) rfl rfl rfl (by decide +kernel)
set_option maxRecDepth 65536 in
theorem w_c2 : (Jvm.Cond.code ({ cls := "java/lang/Object", name := "<init>", desc := "()V" } : Jvm.MethodName) object_method_1_code (1 : Nat) (Option.none : Option Jvm.ClassFile.FieldType)).before args0 about1 = true := code_word (m := ⟨0, 0⟩) (meth := k0m0) (c := k0c0) (by decide +kernel) rfl rfl rfl (by decide +kernel)
set_option maxRecDepth 65536 in
theorem w_c3 : (Jvm.Cond.code ({ cls := "com/example/deferra/deferra/crediting/DailyAmounts", name := "isEmpty", desc := "()Z" } : Jvm.MethodName) prog_24_method_3_code (1 : Nat) (Option.some Jvm.ClassFile.FieldType.boolean)).before args0 about1 = true := code_word (m := ⟨2, 2⟩) (meth := k2m2) (c := k2c2) (by decide +kernel) rfl rfl rfl (by decide +kernel)
set_option maxRecDepth 65536 in
theorem w_c4 : (Jvm.Cond.code ({ cls := "com/example/deferra/deferra/crediting/DailyAmounts", name := "size", desc := "()I" } : Jvm.MethodName) prog_24_method_4_code (1 : Nat) (Option.some Jvm.ClassFile.FieldType.int)).before args0 about1 = true := code_word (m := ⟨2, 3⟩) (meth := k2m3) (c := k2c3) (by decide +kernel) rfl rfl rfl (by decide +kernel)
set_option maxRecDepth 65536 in
theorem w_c5 : (Jvm.Cond.code ({ cls := "com/example/deferra/deferra/crediting/DailyAmounts", name := "add", desc := "(ILjava/math/BigDecimal;)V" } : Jvm.MethodName) prog_24_method_2_code (5 : Nat) (Option.none : Option Jvm.ClassFile.FieldType)).before args0 about1 = true := code_word (m := ⟨2, 1⟩) (meth := k2m1) (c := k2c1) (by decide +kernel) rfl rfl rfl (by decide +kernel)
set_option maxRecDepth 65536 in
theorem w_c6 : (Jvm.Cond.code ({ cls := "java/util/Arrays", name := "binarySearch", desc := "([IIII)I" } : Jvm.MethodName) jdk_65_method_58_code (4 : Nat) (Option.some Jvm.ClassFile.FieldType.int)).before args0 about1 = true := code_word (m := ⟨7, 2⟩) (meth := k7m2) (c := k7c2) (by decide +kernel) rfl rfl rfl (by decide +kernel)
set_option maxRecDepth 65536 in
theorem w_c7 : (Jvm.Cond.code ({ cls := "java/util/Arrays", name := "rangeCheck", desc := "(III)V" } : Jvm.MethodName) jdk_65_method_30_code (3 : Nat) (Option.none : Option Jvm.ClassFile.FieldType)).before args0 about1 = true := code_word (m := ⟨7, 1⟩) (meth := k7m1) (c := k7c1) (by decide +kernel) rfl rfl rfl (by decide +kernel)
set_option maxRecDepth 65536 in
theorem w_c8 : (Jvm.Cond.code ({ cls := "java/util/Arrays", name := "binarySearch0", desc := "([IIII)I" } : Jvm.MethodName) jdk_65_method_59_code (8 : Nat) (Option.some Jvm.ClassFile.FieldType.int)).before args0 about1 = true := code_word (m := ⟨7, 3⟩) (meth := k7m3) (c := k7c3) (by decide +kernel) rfl rfl rfl (by decide +kernel)
set_option maxRecDepth 65536 in
theorem w_c9 : (Jvm.Cond.code ({ cls := "java/math/BigDecimal", name := "add", desc := "(Ljava/math/BigDecimal;)Ljava/math/BigDecimal;" } : Jvm.MethodName) jdk_17_method_26_code (2 : Nat) (Option.some (Jvm.ClassFile.FieldType.object "java/math/BigDecimal"))).before args0 about1 = true := code_word (m := ⟨6, 2⟩) (meth := k6m2) (c := k6c2) (by decide +kernel) rfl rfl rfl (by decide +kernel)
set_option maxRecDepth 65536 in
theorem w_c10 : (Jvm.Cond.code ({ cls := "java/math/BigDecimal", name := "add", desc := "(JIJI)Ljava/math/BigDecimal;" } : Jvm.MethodName) jdk_17_method_134_code (12 : Nat) (Option.some (Jvm.ClassFile.FieldType.object "java/math/BigDecimal"))).before args0 about1 = true := code_word (m := ⟨6, 5⟩) (meth := k6m5) (c := k6c5) (by decide +kernel) rfl rfl rfl (by decide +kernel)
set_option maxRecDepth 65536 in
theorem w_c11 : (Jvm.Cond.code ({ cls := "java/math/BigDecimal", name := "add", desc := "(JJI)Ljava/math/BigDecimal;" } : Jvm.MethodName) jdk_17_method_133_code (7 : Nat) (Option.some (Jvm.ClassFile.FieldType.object "java/math/BigDecimal"))).before args0 about1 = true := code_word (m := ⟨6, 4⟩) (meth := k6m4) (c := k6c4) (by decide +kernel) rfl rfl rfl (by decide +kernel)
set_option maxRecDepth 65536 in
theorem w_c12 : (Jvm.Cond.code ({ cls := "java/math/BigDecimal", name := "add", desc := "(JJ)J" } : Jvm.MethodName) jdk_17_method_132_code (6 : Nat) (Option.some Jvm.ClassFile.FieldType.long)).before args0 about1 = true := code_word (m := ⟨6, 3⟩) (meth := k6m3) (c := k6c3) (by decide +kernel) rfl rfl rfl (by decide +kernel)
set_option maxRecDepth 65536 in
theorem w_c13 : (Jvm.Cond.code ({ cls := "java/math/BigDecimal", name := "valueOf", desc := "(JI)Ljava/math/BigDecimal;" } : Jvm.MethodName) jdk_17_method_20_code (3 : Nat) (Option.some (Jvm.ClassFile.FieldType.object "java/math/BigDecimal"))).before args0 about1 = true := code_word (m := ⟨6, 0⟩) (meth := k6m0) (c := k6c0) (by decide +kernel) rfl rfl rfl (by decide +kernel)
set_option maxRecDepth 65536 in
theorem w_c14 : (Jvm.Cond.code ({ cls := "java/math/BigDecimal", name := "valueOf", desc := "(J)Ljava/math/BigDecimal;" } : Jvm.MethodName) jdk_17_method_21_code (2 : Nat) (Option.some (Jvm.ClassFile.FieldType.object "java/math/BigDecimal"))).before args0 about1 = true := code_word (m := ⟨6, 1⟩) (meth := k6m1) (c := k6c1) (by decide +kernel) rfl rfl rfl (by decide +kernel)
def codes1 : List Jvm.Cond := [Jvm.Cond.code x code maxLocals ret, Jvm.Cond.code ({ cls := "com/example/deferra/deferra/crediting/DailyAmounts", name := "<init>", desc := "()V" } : Jvm.MethodName) prog_24_method_1_code (1 : Nat) (Option.none : Option Jvm.ClassFile.FieldType), Jvm.Cond.code ({ cls := "java/lang/Object", name := "<init>", desc := "()V" } : Jvm.MethodName) object_method_1_code (1 : Nat) (Option.none : Option Jvm.ClassFile.FieldType), Jvm.Cond.code ({ cls := "com/example/deferra/deferra/crediting/DailyAmounts", name := "isEmpty", desc := "()Z" } : Jvm.MethodName) prog_24_method_3_code (1 : Nat) (Option.some Jvm.ClassFile.FieldType.boolean), Jvm.Cond.code ({ cls := "com/example/deferra/deferra/crediting/DailyAmounts", name := "size", desc := "()I" } : Jvm.MethodName) prog_24_method_4_code (1 : Nat) (Option.some Jvm.ClassFile.FieldType.int), Jvm.Cond.code ({ cls := "com/example/deferra/deferra/crediting/DailyAmounts", name := "add", desc := "(ILjava/math/BigDecimal;)V" } : Jvm.MethodName) prog_24_method_2_code (5 : Nat) (Option.none : Option Jvm.ClassFile.FieldType), Jvm.Cond.code ({ cls := "java/util/Arrays", name := "binarySearch", desc := "([IIII)I" } : Jvm.MethodName) jdk_65_method_58_code (4 : Nat) (Option.some Jvm.ClassFile.FieldType.int), Jvm.Cond.code ({ cls := "java/util/Arrays", name := "rangeCheck", desc := "(III)V" } : Jvm.MethodName) jdk_65_method_30_code (3 : Nat) (Option.none : Option Jvm.ClassFile.FieldType), Jvm.Cond.code ({ cls := "java/util/Arrays", name := "binarySearch0", desc := "([IIII)I" } : Jvm.MethodName) jdk_65_method_59_code (8 : Nat) (Option.some Jvm.ClassFile.FieldType.int), Jvm.Cond.code ({ cls := "java/math/BigDecimal", name := "add", desc := "(Ljava/math/BigDecimal;)Ljava/math/BigDecimal;" } : Jvm.MethodName) jdk_17_method_26_code (2 : Nat) (Option.some (Jvm.ClassFile.FieldType.object "java/math/BigDecimal")), Jvm.Cond.code ({ cls := "java/math/BigDecimal", name := "add", desc := "(JIJI)Ljava/math/BigDecimal;" } : Jvm.MethodName) jdk_17_method_134_code (12 : Nat) (Option.some (Jvm.ClassFile.FieldType.object "java/math/BigDecimal")), Jvm.Cond.code ({ cls := "java/math/BigDecimal", name := "add", desc := "(JJI)Ljava/math/BigDecimal;" } : Jvm.MethodName) jdk_17_method_133_code (7 : Nat) (Option.some (Jvm.ClassFile.FieldType.object "java/math/BigDecimal")), Jvm.Cond.code ({ cls := "java/math/BigDecimal", name := "add", desc := "(JJ)J" } : Jvm.MethodName) jdk_17_method_132_code (6 : Nat) (Option.some Jvm.ClassFile.FieldType.long), Jvm.Cond.code ({ cls := "java/math/BigDecimal", name := "valueOf", desc := "(JI)Ljava/math/BigDecimal;" } : Jvm.MethodName) jdk_17_method_20_code (3 : Nat) (Option.some (Jvm.ClassFile.FieldType.object "java/math/BigDecimal")), Jvm.Cond.code ({ cls := "java/math/BigDecimal", name := "valueOf", desc := "(J)Ljava/math/BigDecimal;" } : Jvm.MethodName) jdk_17_method_21_code (2 : Nat) (Option.some (Jvm.ClassFile.FieldType.object "java/math/BigDecimal"))]
set_option maxRecDepth 65536 in
theorem codes_eq : words1.filter isCode = codes1 := rfl
theorem w_codes : ∀ c ∈ words1.filter isCode, c.before args0 about1 = true := by
  rw [codes_eq]
  intro c hc
  simp only [codes1, List.mem_cons, List.not_mem_nil, or_false] at hc
  rcases hc with rfl | rfl | rfl | rfl | rfl | rfl | rfl | rfl | rfl | rfl | rfl | rfl | rfl | rfl | rfl
  · exact w_c0
  · exact w_c1
  · exact w_c2
  · exact w_c3
  · exact w_c4
  · exact w_c5
  · exact w_c6
  · exact w_c7
  · exact w_c8
  · exact w_c9
  · exact w_c10
  · exact w_c11
  · exact w_c12
  · exact w_c13
  · exact w_c14
set_option maxRecDepth 65536 in
theorem w_t1 : (words1.take 24).all (fun c => isCode c || c.before args0 about1) = true := by decide +kernel
set_option maxRecDepth 65536 in
theorem w_t2 : ((words1.drop 24).take 24).all (fun c => isCode c || c.before args0 about1) = true := by decide +kernel
set_option maxRecDepth 65536 in
theorem w_t3 : (((words1.drop 24).drop 24).take 24).all (fun c => isCode c || c.before args0 about1) = true := by decide +kernel
set_option maxRecDepth 65536 in
theorem w_t4 : (((words1.drop 24).drop 24).drop 24).all (fun c => isCode c || c.before args0 about1) = true := by decide +kernel
theorem w_tables : (allAtoms (Jvm.Cond.code x code maxLocals ret :: tables_1)).before args0 about1 = true := by
  rw [allAtoms_all]
  show words1.all (fun c => c.before args0 about1) = true
  refine all_split ?_ w_codes
  rw [← List.take_append_drop 24 words1, List.all_append, w_t1, ← List.take_append_drop 24 (words1.drop 24), List.all_append, w_t2, ← List.take_append_drop 24 ((words1.drop 24).drop 24), List.all_append, w_t3, w_t4]
  rfl
set_option maxRecDepth 65536 in
theorem w_rest : rest_1_c.before args0 about1 = true := by decide +kernel
set_option maxRecDepth 65536 in
theorem w_case : (Jvm.Cond.and given_1 narrow_1).before args0 about1 = true := by decide +kernel
theorem w_applies : (headSpec (Jvm.Cond.code x code maxLocals ret :: tables_1) room_1).applies x e0.platform about1 = true :=
  (Spec.applies_iff w_frames).mpr ⟨w_running, w_runnable, w_alone, w_named, w_hears, w_ripe, w_room, w_tables⟩
theorem atStart : AtStart classFile x code maxLocals ret World_1 tables_1 room_1 Calls_1 rest_1 Pre_1 launch0 p0 e0 about1 theMethod args0 below0 :=
  ⟨lists_1, trivial, launch0.admits_env _ _ _, launch0.least_env, fairChoices_fair.cas, fairChoices_fair.clock, w_frames, w_args, w_heap, w_applies, trivial, w_rest, w_case⟩
end start1
theorem witness_1 : WitnessClaimed_1 := ⟨start1.p0, start1.e0, start1.about1, start1.theMethod, start1.args0, start1.below0, start1.atStart⟩
end Jvm.Pilot.@@N@@

import JvmDerived
import JvmDerived.Pilot.@@N@@Statement
import JvmDerived.Pilot.@@N@@Code
set_option linter.unusedVariables false
set_option linter.unusedSimpArgs false
namespace Jvm.Pilot.@@N@@
open Jvm Jvm.ClassFile Sem Op Lib Jvm.Free Jvm.Stand Jvm.LawKit Jvm.RoadKit Bundle Jvm.Pilot.@@N@@.Jvm.D
theorem own_lit {r c : Int32} {v : Int} (e : c.toInt = v) (h : r.toInt = v) : r = c := Int32.toInt_inj.mp (h.trans e.symm)
theorem own_eqi {args : Array Value} {first s : State} {o : Option Outcome} {idx : List Nat} {t : Jvm.Term} {n : Int32} (h : (Jvm.Cond.eq t (Jvm.Term.int n)).value args first o s idx = some true) : t.eval args first o idx s = some (.int n) := by
  obtain ⟨x, y, h1, h2, h3, -⟩ := cmp_v (Or.inl h)
  have h4 := h2.symm.trans (Term.int_eval n)
  cases h4
  cases x with
  | int i => have h5 := gotT (Cond.eq_ints h1 h2) h; rw [h1, h5]
  | _ => first | (obtain ⟨z, hz⟩ := h3; cases hz; done) | exact absurd h3.2 (by simp [Value.isRef])
def own_Q (w : Value) (h0 : Heap) (n0 : Nat) (v : Option Value) (h : Heap) (L : List Loc) : Prop := v = some w ∧ Fr n0 L ∧ h = h0
theorem own_split0 (p0 : Int32) : ((p0 &&& (2147483647 : Int32)) % (5 : Int32)) = (0 : Int32) ∨ ((p0 &&& (2147483647 : Int32)) % (5 : Int32)) = (1 : Int32) ∨ ((p0 &&& (2147483647 : Int32)) % (5 : Int32)) = (2 : Int32) ∨ ((p0 &&& (2147483647 : Int32)) % (5 : Int32)) = (3 : Int32) ∨ ((p0 &&& (2147483647 : Int32)) % (5 : Int32)) = (4 : Int32) := by
  have h1 := c_mask p0 (2147483647 : Int32) 31 (by decide) (by decide)
  have h0 : 0 ≤ (p0 &&& (2147483647 : Int32)).toInt := by rw [h1]; exact Int.emod_nonneg _ (by decide)
  have h2 := (c_irem (p0 &&& (2147483647 : Int32)) (5 : Int32) 5 rfl).1 h0
  have h3 : ((p0 &&& (2147483647 : Int32)) % (5 : Int32)).toInt = 0 ∨ ((p0 &&& (2147483647 : Int32)) % (5 : Int32)).toInt = 1 ∨ ((p0 &&& (2147483647 : Int32)) % (5 : Int32)).toInt = 2 ∨ ((p0 &&& (2147483647 : Int32)) % (5 : Int32)).toInt = 3 ∨ ((p0 &&& (2147483647 : Int32)) % (5 : Int32)).toInt = 4 := by omega
  rcases h3 with h | h | h | h | h
  · exact Or.inl (own_lit rfl h)
  · exact Or.inr (Or.inl (own_lit rfl h))
  · exact Or.inr (Or.inr (Or.inl (own_lit rfl h)))
  · exact Or.inr (Or.inr (Or.inr (Or.inl (own_lit rfl h))))
  · exact Or.inr (Or.inr (Or.inr (Or.inr (own_lit rfl h))))
def Facts (Z : State) (h : Heap) (a_READ a_COMMIT a_ABORT a_WRITE a_INCREMENT : Addr) : Prop :=
  Sta Z h "com/example/schedulock/schedulock/schedule/OperationKind" "READ" "Lcom/example/schedulock/schedulock/schedule/OperationKind;" (.ref a_READ) ∧
  Exa Z h a_READ "com/example/schedulock/schedulock/schedule/OperationKind" ∧
  Sta Z h "com/example/schedulock/schedulock/schedule/OperationKind" "COMMIT" "Lcom/example/schedulock/schedulock/schedule/OperationKind;" (.ref a_COMMIT) ∧
  Exa Z h a_COMMIT "com/example/schedulock/schedulock/schedule/OperationKind" ∧
  Fld Z h a_READ "java/lang/Enum" "ordinal" "I" (.int (0 : Int32)) ∧
  Fld Z h a_COMMIT "java/lang/Enum" "ordinal" "I" (.int (3 : Int32)) ∧
  Sta Z h "com/example/schedulock/schedulock/schedule/OperationKind" "ABORT" "Lcom/example/schedulock/schedulock/schedule/OperationKind;" (.ref a_ABORT) ∧
  Exa Z h a_ABORT "com/example/schedulock/schedulock/schedule/OperationKind" ∧
  Fld Z h a_ABORT "java/lang/Enum" "ordinal" "I" (.int (4 : Int32)) ∧
  Fld Z h a_READ "com/example/schedulock/schedulock/schedule/OperationKind" "takesItem" "Z" (.int (1 : Int32)) ∧
  Fld Z h a_COMMIT "com/example/schedulock/schedulock/schedule/OperationKind" "takesItem" "Z" (.int (0 : Int32)) ∧
  Sta Z h "com/example/schedulock/schedulock/schedule/OperationKind" "WRITE" "Lcom/example/schedulock/schedulock/schedule/OperationKind;" (.ref a_WRITE) ∧
  Exa Z h a_WRITE "com/example/schedulock/schedulock/schedule/OperationKind" ∧
  Fld Z h a_WRITE "java/lang/Enum" "ordinal" "I" (.int (1 : Int32)) ∧
  Fld Z h a_WRITE "com/example/schedulock/schedulock/schedule/OperationKind" "takesItem" "Z" (.int (1 : Int32)) ∧
  Fld Z h a_ABORT "com/example/schedulock/schedulock/schedule/OperationKind" "takesItem" "Z" (.int (0 : Int32)) ∧
  Sta Z h "com/example/schedulock/schedulock/schedule/OperationKind" "INCREMENT" "Lcom/example/schedulock/schedulock/schedule/OperationKind;" (.ref a_INCREMENT) ∧
  Exa Z h a_INCREMENT "com/example/schedulock/schedulock/schedule/OperationKind" ∧
  Fld Z h a_INCREMENT "java/lang/Enum" "ordinal" "I" (.int (2 : Int32)) ∧
  Fld Z h a_INCREMENT "com/example/schedulock/schedulock/schedule/OperationKind" "takesItem" "Z" (.int (1 : Int32))
theorem fx_S_READ {Z : State} {h : Heap} {a_READ a_COMMIT a_ABORT a_WRITE a_INCREMENT : Addr} (F : Facts Z h a_READ a_COMMIT a_ABORT a_WRITE a_INCREMENT) : Sta Z h "com/example/schedulock/schedulock/schedule/OperationKind" "READ" "Lcom/example/schedulock/schedulock/schedule/OperationKind;" (.ref a_READ) := F.1
theorem fx_E_READ {Z : State} {h : Heap} {a_READ a_COMMIT a_ABORT a_WRITE a_INCREMENT : Addr} (F : Facts Z h a_READ a_COMMIT a_ABORT a_WRITE a_INCREMENT) : Exa Z h a_READ "com/example/schedulock/schedulock/schedule/OperationKind" := F.2.1
theorem fx_S_COMMIT {Z : State} {h : Heap} {a_READ a_COMMIT a_ABORT a_WRITE a_INCREMENT : Addr} (F : Facts Z h a_READ a_COMMIT a_ABORT a_WRITE a_INCREMENT) : Sta Z h "com/example/schedulock/schedulock/schedule/OperationKind" "COMMIT" "Lcom/example/schedulock/schedulock/schedule/OperationKind;" (.ref a_COMMIT) := F.2.2.1
theorem fx_E_COMMIT {Z : State} {h : Heap} {a_READ a_COMMIT a_ABORT a_WRITE a_INCREMENT : Addr} (F : Facts Z h a_READ a_COMMIT a_ABORT a_WRITE a_INCREMENT) : Exa Z h a_COMMIT "com/example/schedulock/schedulock/schedule/OperationKind" := F.2.2.2.1
theorem fx_F_READ_ordinal {Z : State} {h : Heap} {a_READ a_COMMIT a_ABORT a_WRITE a_INCREMENT : Addr} (F : Facts Z h a_READ a_COMMIT a_ABORT a_WRITE a_INCREMENT) : Fld Z h a_READ "java/lang/Enum" "ordinal" "I" (.int (0 : Int32)) := F.2.2.2.2.1
theorem fx_F_COMMIT_ordinal {Z : State} {h : Heap} {a_READ a_COMMIT a_ABORT a_WRITE a_INCREMENT : Addr} (F : Facts Z h a_READ a_COMMIT a_ABORT a_WRITE a_INCREMENT) : Fld Z h a_COMMIT "java/lang/Enum" "ordinal" "I" (.int (3 : Int32)) := F.2.2.2.2.2.1
theorem fx_S_ABORT {Z : State} {h : Heap} {a_READ a_COMMIT a_ABORT a_WRITE a_INCREMENT : Addr} (F : Facts Z h a_READ a_COMMIT a_ABORT a_WRITE a_INCREMENT) : Sta Z h "com/example/schedulock/schedulock/schedule/OperationKind" "ABORT" "Lcom/example/schedulock/schedulock/schedule/OperationKind;" (.ref a_ABORT) := F.2.2.2.2.2.2.1
theorem fx_E_ABORT {Z : State} {h : Heap} {a_READ a_COMMIT a_ABORT a_WRITE a_INCREMENT : Addr} (F : Facts Z h a_READ a_COMMIT a_ABORT a_WRITE a_INCREMENT) : Exa Z h a_ABORT "com/example/schedulock/schedulock/schedule/OperationKind" := F.2.2.2.2.2.2.2.1
theorem fx_F_ABORT_ordinal {Z : State} {h : Heap} {a_READ a_COMMIT a_ABORT a_WRITE a_INCREMENT : Addr} (F : Facts Z h a_READ a_COMMIT a_ABORT a_WRITE a_INCREMENT) : Fld Z h a_ABORT "java/lang/Enum" "ordinal" "I" (.int (4 : Int32)) := F.2.2.2.2.2.2.2.2.1
theorem fx_F_READ_takesItem {Z : State} {h : Heap} {a_READ a_COMMIT a_ABORT a_WRITE a_INCREMENT : Addr} (F : Facts Z h a_READ a_COMMIT a_ABORT a_WRITE a_INCREMENT) : Fld Z h a_READ "com/example/schedulock/schedulock/schedule/OperationKind" "takesItem" "Z" (.int (1 : Int32)) := F.2.2.2.2.2.2.2.2.2.1
theorem fx_F_COMMIT_takesItem {Z : State} {h : Heap} {a_READ a_COMMIT a_ABORT a_WRITE a_INCREMENT : Addr} (F : Facts Z h a_READ a_COMMIT a_ABORT a_WRITE a_INCREMENT) : Fld Z h a_COMMIT "com/example/schedulock/schedulock/schedule/OperationKind" "takesItem" "Z" (.int (0 : Int32)) := F.2.2.2.2.2.2.2.2.2.2.1
theorem fx_S_WRITE {Z : State} {h : Heap} {a_READ a_COMMIT a_ABORT a_WRITE a_INCREMENT : Addr} (F : Facts Z h a_READ a_COMMIT a_ABORT a_WRITE a_INCREMENT) : Sta Z h "com/example/schedulock/schedulock/schedule/OperationKind" "WRITE" "Lcom/example/schedulock/schedulock/schedule/OperationKind;" (.ref a_WRITE) := F.2.2.2.2.2.2.2.2.2.2.2.1
theorem fx_E_WRITE {Z : State} {h : Heap} {a_READ a_COMMIT a_ABORT a_WRITE a_INCREMENT : Addr} (F : Facts Z h a_READ a_COMMIT a_ABORT a_WRITE a_INCREMENT) : Exa Z h a_WRITE "com/example/schedulock/schedulock/schedule/OperationKind" := F.2.2.2.2.2.2.2.2.2.2.2.2.1
theorem fx_F_WRITE_ordinal {Z : State} {h : Heap} {a_READ a_COMMIT a_ABORT a_WRITE a_INCREMENT : Addr} (F : Facts Z h a_READ a_COMMIT a_ABORT a_WRITE a_INCREMENT) : Fld Z h a_WRITE "java/lang/Enum" "ordinal" "I" (.int (1 : Int32)) := F.2.2.2.2.2.2.2.2.2.2.2.2.2.1
theorem fx_F_WRITE_takesItem {Z : State} {h : Heap} {a_READ a_COMMIT a_ABORT a_WRITE a_INCREMENT : Addr} (F : Facts Z h a_READ a_COMMIT a_ABORT a_WRITE a_INCREMENT) : Fld Z h a_WRITE "com/example/schedulock/schedulock/schedule/OperationKind" "takesItem" "Z" (.int (1 : Int32)) := F.2.2.2.2.2.2.2.2.2.2.2.2.2.2.1
theorem fx_F_ABORT_takesItem {Z : State} {h : Heap} {a_READ a_COMMIT a_ABORT a_WRITE a_INCREMENT : Addr} (F : Facts Z h a_READ a_COMMIT a_ABORT a_WRITE a_INCREMENT) : Fld Z h a_ABORT "com/example/schedulock/schedulock/schedule/OperationKind" "takesItem" "Z" (.int (0 : Int32)) := F.2.2.2.2.2.2.2.2.2.2.2.2.2.2.2.1
theorem fx_S_INCREMENT {Z : State} {h : Heap} {a_READ a_COMMIT a_ABORT a_WRITE a_INCREMENT : Addr} (F : Facts Z h a_READ a_COMMIT a_ABORT a_WRITE a_INCREMENT) : Sta Z h "com/example/schedulock/schedulock/schedule/OperationKind" "INCREMENT" "Lcom/example/schedulock/schedulock/schedule/OperationKind;" (.ref a_INCREMENT) := F.2.2.2.2.2.2.2.2.2.2.2.2.2.2.2.2.1
theorem fx_E_INCREMENT {Z : State} {h : Heap} {a_READ a_COMMIT a_ABORT a_WRITE a_INCREMENT : Addr} (F : Facts Z h a_READ a_COMMIT a_ABORT a_WRITE a_INCREMENT) : Exa Z h a_INCREMENT "com/example/schedulock/schedulock/schedule/OperationKind" := F.2.2.2.2.2.2.2.2.2.2.2.2.2.2.2.2.2.1
theorem fx_F_INCREMENT_ordinal {Z : State} {h : Heap} {a_READ a_COMMIT a_ABORT a_WRITE a_INCREMENT : Addr} (F : Facts Z h a_READ a_COMMIT a_ABORT a_WRITE a_INCREMENT) : Fld Z h a_INCREMENT "java/lang/Enum" "ordinal" "I" (.int (2 : Int32)) := F.2.2.2.2.2.2.2.2.2.2.2.2.2.2.2.2.2.2.1
theorem fx_F_INCREMENT_takesItem {Z : State} {h : Heap} {a_READ a_COMMIT a_ABORT a_WRITE a_INCREMENT : Addr} (F : Facts Z h a_READ a_COMMIT a_ABORT a_WRITE a_INCREMENT) : Fld Z h a_INCREMENT "com/example/schedulock/schedulock/schedule/OperationKind" "takesItem" "Z" (.int (1 : Int32)) := F.2.2.2.2.2.2.2.2.2.2.2.2.2.2.2.2.2.2.2
theorem Facts.ext {Z : State} {h h' : Heap} {a_READ a_COMMIT a_ABORT a_WRITE a_INCREMENT : Addr} (F : Facts Z h a_READ a_COMMIT a_ABORT a_WRITE a_INCREMENT) (E : Ext h h') : Facts Z h' a_READ a_COMMIT a_ABORT a_WRITE a_INCREMENT := ⟨Sta.ext E (fx_S_READ F), Exa.ext E (fx_E_READ F), Sta.ext E (fx_S_COMMIT F), Exa.ext E (fx_E_COMMIT F), Fld.ext E (fx_F_READ_ordinal F), Fld.ext E (fx_F_COMMIT_ordinal F), Sta.ext E (fx_S_ABORT F), Exa.ext E (fx_E_ABORT F), Fld.ext E (fx_F_ABORT_ordinal F), Fld.ext E (fx_F_READ_takesItem F), Fld.ext E (fx_F_COMMIT_takesItem F), Sta.ext E (fx_S_WRITE F), Exa.ext E (fx_E_WRITE F), Fld.ext E (fx_F_WRITE_ordinal F), Fld.ext E (fx_F_WRITE_takesItem F), Fld.ext E (fx_F_ABORT_takesItem F), Sta.ext E (fx_S_INCREMENT F), Exa.ext E (fx_E_INCREMENT F), Fld.ext E (fx_F_INCREMENT_ordinal F), Fld.ext E (fx_F_INCREMENT_takesItem F)⟩
theorem Facts.wr {Z : State} {h h' : Heap} {a_READ a_COMMIT a_ABORT a_WRITE a_INCREMENT : Addr} {h0 : Heap} {b : Addr} {sl : Nat} {v : Value} (F0 : Facts Z h0 a_READ a_COMMIT a_ABORT a_WRITE a_INCREMENT) (F : Facts Z h a_READ a_COMMIT a_ABORT a_WRITE a_INCREMENT) (W : Wr h h' b sl v) (q : h0.size ≤ b) : Facts Z h' a_READ a_COMMIT a_ABORT a_WRITE a_INCREMENT := ⟨Sta.wr W (fx_S_READ F), Exa.wr W (fx_E_READ F), Sta.wr W (fx_S_COMMIT F), Exa.wr W (fx_E_COMMIT F), Fld.other W (fx_F_READ_ordinal F) (Or.inl (Nat.ne_of_lt (Nat.lt_of_lt_of_le (fx_E_READ F0).lt q))), Fld.other W (fx_F_COMMIT_ordinal F) (Or.inl (Nat.ne_of_lt (Nat.lt_of_lt_of_le (fx_E_COMMIT F0).lt q))), Sta.wr W (fx_S_ABORT F), Exa.wr W (fx_E_ABORT F), Fld.other W (fx_F_ABORT_ordinal F) (Or.inl (Nat.ne_of_lt (Nat.lt_of_lt_of_le (fx_E_ABORT F0).lt q))), Fld.other W (fx_F_READ_takesItem F) (Or.inl (Nat.ne_of_lt (Nat.lt_of_lt_of_le (fx_E_READ F0).lt q))), Fld.other W (fx_F_COMMIT_takesItem F) (Or.inl (Nat.ne_of_lt (Nat.lt_of_lt_of_le (fx_E_COMMIT F0).lt q))), Sta.wr W (fx_S_WRITE F), Exa.wr W (fx_E_WRITE F), Fld.other W (fx_F_WRITE_ordinal F) (Or.inl (Nat.ne_of_lt (Nat.lt_of_lt_of_le (fx_E_WRITE F0).lt q))), Fld.other W (fx_F_WRITE_takesItem F) (Or.inl (Nat.ne_of_lt (Nat.lt_of_lt_of_le (fx_E_WRITE F0).lt q))), Fld.other W (fx_F_ABORT_takesItem F) (Or.inl (Nat.ne_of_lt (Nat.lt_of_lt_of_le (fx_E_ABORT F0).lt q))), Sta.wr W (fx_S_INCREMENT F), Exa.wr W (fx_E_INCREMENT F), Fld.other W (fx_F_INCREMENT_ordinal F) (Or.inl (Nat.ne_of_lt (Nat.lt_of_lt_of_le (fx_E_INCREMENT F0).lt q))), Fld.other W (fx_F_INCREMENT_takesItem F) (Or.inl (Nat.ne_of_lt (Nat.lt_of_lt_of_le (fx_E_INCREMENT F0).lt q)))⟩
theorem pn_0 : plainName "com/example/schedulock/schedulock/schedule/OperationKindEndsTransactionPinLaw" = true := by first | (simp [plainName, overriddenIn]; done) | decide +kernel
theorem ef_0 (m : MethodId) (x0 : Int32) : entryFrame m #[(.int x0)] maxLocals = mkF m 0 #[.val (.int x0), .unset, .unset, .unset, .unset] [] := by first | (simp [entryFrame, mkF, argsToLocals, Value.category, maxLocals]; done) | rfl
theorem d1_0 : decode prog_31_method_6_code 0 = .ok (.aload_n 0, 1) := by decide +kernel
theorem d1_1 : decode prog_31_method_6_code 1 = .ok (.getstatic 13, 3) := by decide +kernel
theorem d1_4 : decode prog_31_method_6_code 4 = .ok (.if_acmp .eq 10, 3) := by decide +kernel
theorem d1_7 : decode prog_31_method_6_code 7 = .ok (.aload_n 0, 1) := by decide +kernel
theorem d1_8 : decode prog_31_method_6_code 8 = .ok (.getstatic 16, 3) := by decide +kernel
theorem d1_11 : decode prog_31_method_6_code 11 = .ok (.if_acmp .ne 7, 3) := by decide +kernel
theorem d1_14 : decode prog_31_method_6_code 14 = .ok (.iconst 1, 1) := by decide +kernel
theorem d1_15 : decode prog_31_method_6_code 15 = .ok (.goto 4, 3) := by decide +kernel
theorem d1_18 : decode prog_31_method_6_code 18 = .ok (.iconst 0, 1) := by decide +kernel
theorem d1_19 : decode prog_31_method_6_code 19 = .ok (.ireturn, 1) := by decide +kernel
theorem pn_1 : plainName "com/example/schedulock/schedulock/schedule/OperationKind" = true := by first | (simp [plainName, overriddenIn]; done) | decide +kernel
theorem ef_1 (m : MethodId) (x0 : Addr) : entryFrame m #[(.ref x0)] 1 = mkF m 0 #[.val (.ref x0)] [] := by first | (simp [entryFrame, mkF, argsToLocals, Value.category]; done) | rfl
theorem d2_0 : decode prog_31_method_4_code 0 = .ok (.aload_n 0, 1) := by decide +kernel
theorem d2_1 : decode prog_31_method_4_code 1 = .ok (.getfield 42, 3) := by decide +kernel
theorem d2_4 : decode prog_31_method_4_code 4 = .ok (.ireturn, 1) := by decide +kernel
theorem pn_2 : plainName "com/example/schedulock/schedulock/schedule/OperationKind" = true := by first | (simp [plainName, overriddenIn]; done) | decide +kernel
theorem ef_2 (m : MethodId) (x0 : Addr) : entryFrame m #[(.ref x0)] 1 = mkF m 0 #[.val (.ref x0)] [] := by first | (simp [entryFrame, mkF, argsToLocals, Value.category]; done) | rfl
theorem pd_0 : parseMethodDescriptor "()Z" = some ⟨[], some .boolean⟩ := by decide +kernel
set_option maxRecDepth 65536 in
set_option maxHeartbeats 40000000 in
theorem rm1_0 (l : Launch) (Z : State) (a0 : Array Value) (hw : ∀ d ∈ tables_1, d.before a0 Z = true) (ws : List Jvm.Cond) (p0 : Int32) (a_READ a_COMMIT a_ABORT a_WRITE a_INCREMENT : Addr) (h0 : Heap) (n0 : Nat) (Z0 : n0 ≤ h0.size) (FF : Facts Z h0 a_READ a_COMMIT a_ABORT a_WRITE a_INCREMENT) :
    MetFree l (⟨"com/example/schedulock/schedulock/schedule/OperationKind", "endsTransaction", "()Z"⟩ : MethodName) (head1 (Jvm.Cond.code (⟨"com/example/schedulock/schedulock/schedule/OperationKind", "endsTransaction", "()Z"⟩ : MethodName) prog_31_method_6_code 1 (some .boolean) :: ws) ({ frames := 0, cells := 0, slots := 0, locals := 0 } : Room)) (fun a U => a = #[(.ref a_READ)] ∧ Z.Warmed39 U.vm ∧ U.heap = h0) (fun _ _ _ _ _ => True) (fun _ U o U' => ∃ v L, o = .returned v ∧ own_Q (.int (0 : Int32)) h0 n0 v U'.heap L ∧ FrameEnd U o U' L ({ frames := 0, cells := 0, slots := 0, locals := 0 } : Room).cells ({ frames := 0, cells := 0, slots := 0, locals := 0 } : Room).slots) := by
  refine MetFree.of_bodySF (plainFor_of_name pn_1) hisR ?_
  intro p e s m args below meth c s₁ Bd hml0 hP hK
  obtain ⟨rfl, hZ, hh⟩ := hP
  have hx := Bd.exec
  have hby := Bd.bytes
  have hml : c.maxLocals = 1 := hml0
  have hown : s.vm.findClass "com/example/schedulock/schedulock/schedule/OperationKind" = some m.cls := findClass_of_methodNamed Bd.named
  have X0 : Stand p l e ({ frames := 0, cells := 0, slots := 0, locals := 0 } : Room) s m #[(.ref a_READ)] below meth c s₁ [] 0 0 := Stand.of_body Bd
  have e0 : s₁.heap = h0 := by rw [← hh, Bd.state]; rfl
  have N0 := Fr.nil n0
  have pre0 : ∀ t, Steps p.tables e below (s₁.setTop (mkF m 0 #[.val (.ref a_READ)] [])) t → Steps p.tables e below (s₁.setTop (entryFrame m #[(.ref a_READ)] 1)) t := fun t k => castTop (ef_1 m a_READ) k
  obtain ⟨T1, X1, e1, st1⟩ := getS2 X0 hx hZ hown (host := "") (Or.inl (hw _ (List.mem_of_getElem? (i := 9) rfl))) Via.refl e0 (fx_S_COMMIT FF) (g := (mkF m 1 #[.val (.ref a_READ)] [(.ref a_READ)])) rfl (hb hby d1_1)
  obtain ⟨T2, X2, e2, st2⟩ := getS2 X1 hx hZ hown (host := "") (Or.inl (hw _ (List.mem_of_getElem? (i := 11) rfl))) Via.refl e1 (fx_S_ABORT FF) (g := (mkF m 8 #[.val (.ref a_READ)] [(.ref a_READ)])) rfl (hb hby d1_8)
  obtain ⟨fs, hr, hrun, hended, hW, hsame⟩ := X2.leave (v := some (.int (0 : Int32))) (fun h => by rw [Bd.returns] at h; cases h)
  refine ⟨_, _, pre0 _ ?_, hrun, hended, _, _, rfl, ?_, ⟨_, rfl⟩, hW, hsame.mono (by decide) (by decide)⟩
  · show Steps p.tables e below (s₁.setTop (mkF m 0 #[.val (.ref a_READ)] [])) _
    refine XS.aloadN X0.here hx rfl (hb hby d1_0) rfl rfl ?_
    show Steps p.tables e below (s₁.setTop (mkF m 1 #[.val (.ref a_READ)] [(.ref a_READ)])) _
    refine st1 _ ?_
    show Steps p.tables e below (T1.setTop (mkF m 4 #[.val (.ref a_READ)] [(.ref a_COMMIT), (.ref a_READ)])) _
    refine Jvm.RoadKit.acmp (g := (mkF m 4 #[.val (.ref a_READ)] [(.ref a_COMMIT), (.ref a_READ)])) X1 hx rfl rfl rfl (pc0 := 4) (pc' := 7) (same := false) rfl (hb hby d1_4) rfl (decide_eq_false fun q => Fld.ne (fx_F_READ_ordinal FF) (fx_F_COMMIT_ordinal FF) (by decide) (Value.ref.inj q)) (by decide) (by decide) ?_
    show Steps p.tables e below (T1.setTop (mkF m 7 #[.val (.ref a_READ)] [])) _
    refine XS.aloadN X1.here hx rfl (hb hby d1_7) rfl rfl ?_
    show Steps p.tables e below (T1.setTop (mkF m 8 #[.val (.ref a_READ)] [(.ref a_READ)])) _
    refine st2 _ ?_
    show Steps p.tables e below (T2.setTop (mkF m 11 #[.val (.ref a_READ)] [(.ref a_ABORT), (.ref a_READ)])) _
    refine Jvm.RoadKit.acmp (g := (mkF m 11 #[.val (.ref a_READ)] [(.ref a_ABORT), (.ref a_READ)])) X2 hx rfl rfl rfl (pc0 := 11) (pc' := 18) (same := false) rfl (hb hby d1_11) rfl (decide_eq_false fun q => Fld.ne (fx_F_READ_ordinal FF) (fx_F_ABORT_ordinal FF) (by decide) (Value.ref.inj q)) (by decide) (by decide) ?_
    show Steps p.tables e below (T2.setTop (mkF m 18 #[.val (.ref a_READ)] [])) _
    refine XS.iconst X2.here hx rfl (hb hby d1_18) ?_
    show Steps p.tables e below (T2.setTop (mkF m 19 #[.val (.ref a_READ)] [(.int (0 : Int32))])) _
    exact retN X2 hx (t := .boolean) Bd.returns (by simp) (hb hby d1_19) hr
  · show own_Q _ _ _ _ T2.heap _
    exact ⟨rfl, N0, e2⟩
set_option maxRecDepth 65536 in
set_option maxHeartbeats 40000000 in
theorem rm2_0 (l : Launch) (Z : State) (a0 : Array Value) (hw : ∀ d ∈ tables_1, d.before a0 Z = true) (ws : List Jvm.Cond) (p0 : Int32) (a_READ a_COMMIT a_ABORT a_WRITE a_INCREMENT : Addr) (h0 : Heap) (n0 : Nat) (Z0 : n0 ≤ h0.size) (FF : Facts Z h0 a_READ a_COMMIT a_ABORT a_WRITE a_INCREMENT) :
    MetFree l (⟨"com/example/schedulock/schedulock/schedule/OperationKind", "takesItem", "()Z"⟩ : MethodName) (head1 (Jvm.Cond.code (⟨"com/example/schedulock/schedulock/schedule/OperationKind", "takesItem", "()Z"⟩ : MethodName) prog_31_method_4_code 1 (some .boolean) :: ws) ({ frames := 0, cells := 0, slots := 0, locals := 0 } : Room)) (fun a U => a = #[(.ref a_READ)] ∧ Z.Warmed39 U.vm ∧ U.heap = h0) (fun _ _ _ _ _ => True) (fun _ U o U' => ∃ v L, o = .returned v ∧ own_Q (.int (1 : Int32)) h0 n0 v U'.heap L ∧ FrameEnd U o U' L ({ frames := 0, cells := 0, slots := 0, locals := 0 } : Room).cells ({ frames := 0, cells := 0, slots := 0, locals := 0 } : Room).slots) := by
  refine MetFree.of_bodySF (plainFor_of_name pn_2) hisR ?_
  intro p e s m args below meth c s₁ Bd hml0 hP hK
  obtain ⟨rfl, hZ, hh⟩ := hP
  have hx := Bd.exec
  have hby := Bd.bytes
  have hml : c.maxLocals = 1 := hml0
  have hown : s.vm.findClass "com/example/schedulock/schedulock/schedule/OperationKind" = some m.cls := findClass_of_methodNamed Bd.named
  have X0 : Stand p l e ({ frames := 0, cells := 0, slots := 0, locals := 0 } : Room) s m #[(.ref a_READ)] below meth c s₁ [] 0 0 := Stand.of_body Bd
  have e0 : s₁.heap = h0 := by rw [← hh, Bd.state]; rfl
  have N0 := Fr.nil n0
  have pre0 : ∀ t, Steps p.tables e below (s₁.setTop (mkF m 0 #[.val (.ref a_READ)] [])) t → Steps p.tables e below (s₁.setTop (entryFrame m #[(.ref a_READ)] 1)) t := fun t k => castTop (ef_2 m a_READ) k
  obtain ⟨T1, X1, e1, st1⟩ := getF X0 hx hZ hown (host := "") (Or.inl (hw _ (List.mem_of_getElem? (i := 18) rfl))) Via.refl e0 (fx_F_READ_takesItem FF) (g := (mkF m 1 #[.val (.ref a_READ)] [(.ref a_READ)])) rfl rfl (hb hby d2_1)
  obtain ⟨fs, hr, hrun, hended, hW, hsame⟩ := X1.leave (v := some (.int (1 : Int32))) (fun h => by rw [Bd.returns] at h; cases h)
  refine ⟨_, _, pre0 _ ?_, hrun, hended, _, _, rfl, ?_, ⟨_, rfl⟩, hW, hsame.mono (by decide) (by decide)⟩
  · show Steps p.tables e below (s₁.setTop (mkF m 0 #[.val (.ref a_READ)] [])) _
    refine XS.aloadN X0.here hx rfl (hb hby d2_0) rfl rfl ?_
    show Steps p.tables e below (s₁.setTop (mkF m 1 #[.val (.ref a_READ)] [(.ref a_READ)])) _
    refine st1 _ ?_
    show Steps p.tables e below (T1.setTop (mkF m 4 #[.val (.ref a_READ)] [(.int (1 : Int32))])) _
    exact retN X1 hx (t := .boolean) Bd.returns (by simp) (hb hby d2_4) hr
  · show own_Q _ _ _ _ T1.heap _
    exact ⟨rfl, N0, e1⟩
set_option maxRecDepth 65536 in
set_option maxHeartbeats 40000000 in
theorem rm0_0 (l : Launch) (Z : State) (a0 : Array Value) (hw : ∀ d ∈ tables_1, d.before a0 Z = true) (ws : List Jvm.Cond) (p0 : Int32) (a_READ a_COMMIT a_ABORT a_WRITE a_INCREMENT : Addr) (h0 : Heap) (n0 : Nat) (Z0 : n0 ≤ h0.size) (FF : Facts Z h0 a_READ a_COMMIT a_ABORT a_WRITE a_INCREMENT) (hk0 : ((p0 &&& (2147483647 : Int32)) % (5 : Int32)) = (0 : Int32)) :
    MetFree l x (head1 (Jvm.Cond.code x code maxLocals ret :: ws) room_1) (fun a U => a = #[(.int p0)] ∧ Z.Warmed39 U.vm ∧ U.heap = h0) (fun _ _ _ _ _ => True) (fun _ U o U' => ∃ v L, o = .returned v ∧ (v = some (.int (1 : Int32)) ∧ Fr n0 L) ∧ FrameEnd U o U' L room_1.cells room_1.slots) := by
  refine MetFree.of_bodySF (plainFor_of_name pn_0) hisR ?_
  intro p e s m args below meth c s₁ Bd hml0 hP hK
  obtain ⟨rfl, hZ, hh⟩ := hP
  have hx := Bd.exec
  have hby := Bd.bytes
  have hml : c.maxLocals = 5 := hml0
  have hown : s.vm.findClass "com/example/schedulock/schedulock/schedule/OperationKindEndsTransactionPinLaw" = some m.cls := findClass_of_methodNamed Bd.named
  have X0 : Stand p l e room_1 s m #[(.int p0)] below meth c s₁ [] 0 0 := Stand.of_body Bd
  have e0 : s₁.heap = h0 := by rw [← hh, Bd.state]; rfl
  have N0 := Fr.nil n0
  have pre0 : ∀ t, Steps p.tables e below (s₁.setTop (mkF m 0 #[.val (.int p0), .unset, .unset, .unset, .unset] [])) t → Steps p.tables e below (s₁.setTop (entryFrame m #[(.int p0)] maxLocals)) t := fun t k => castTop (ef_0 m p0) k
  obtain ⟨T1, X1, e1, st1⟩ := getS2 X0 hx hZ hown (host := "") (Or.inl (hw _ (List.mem_of_getElem? (i := 1) rfl))) Via.refl e0 (fx_S_READ FF) (g := (mkF m 11 #[.val (.int p0), .val (.int (0 : Int32)), .unset, .unset, .unset] [])) rfl (hb hby at_11)
  obtain ⟨cq2, kq2, q2a, q2b, q2c⟩ := isOf hZ e1 (fx_E_READ FF)
  obtain ⟨_, _, ⟨T2, L2, k2, n2⟩, -, X2, ⟨Lc2, hQ2, l2, y2, z2⟩, st2⟩ := X1.virtualBack hx (y := (⟨"com/example/schedulock/schedulock/schedule/OperationKind", "endsTransaction", "()Z"⟩ : MethodName)) (z := (⟨"com/example/schedulock/schedulock/schedule/OperationKind", "endsTransaction", "()Z"⟩ : MethodName)) hown (mvT hZ (hw _ (List.mem_of_getElem? (i := 4) rfl))) (mvT hZ (hw _ (List.mem_of_getElem? (i := 5) rfl))) (notFace_of_selects (args := #[]) (mvT hZ (hw _ (List.mem_of_getElem? (i := 7) rfl)))) (mvT hZ (hw _ (List.mem_of_getElem? (i := 7) rfl))) (mvT hZ (hw _ (List.mem_of_getElem? (i := 6) rfl))) (by decide) (backOf (W := 0) (rm1_0 l Z a0 hw [] p0 a_READ a_COMMIT a_ABORT a_WRITE a_INCREMENT h0 n0 (Nat.le_trans Z0 (Nat.le_refl _)) FF) hZ (hw _ (List.mem_of_getElem? (i := 8) rfl)) (hw _ (List.mem_of_getElem? (i := 2) rfl)) (by decide) (by decide)) q2a q2c (g := (mkF m 69 #[.val (.int p0), .val (.int (0 : Int32)), .val (.ref a_READ), .val (.int (0 : Int32)), .unset] [(.ref a_READ)])) rfl (by rw [hml]; rfl) (Steps.refl _) (argsL := []) (rest := []) (lenOf pd_0 rfl) rfl (by show 2 * 0 + _ ≤ _; exact Nat.le_of_eq rfl) (hb hby at_69) (fun _ _ => ⟨rfl, e1, (by decide : 0 + 0 ≤ _), (by decide : 0 + 0 ≤ _)⟩)
  dsimp only [Pt.U, Pt.locs, Pt.cells, Pt.slots] at X2 l2 y2 z2 st2 hQ2
  subst l2 y2 z2
  obtain ⟨rfl, N2q, e2⟩ := hQ2
  have N2 := Fr.app N0 N2q
  obtain ⟨cq3, kq3, q3a, q3b, q3c⟩ := isOf hZ e2 (fx_E_READ FF)
  obtain ⟨_, _, ⟨T3, L3, k3, n3⟩, -, X3, ⟨Lc3, hQ3, l3, y3, z3⟩, st3⟩ := X2.virtualBack hx (y := (⟨"com/example/schedulock/schedulock/schedule/OperationKind", "takesItem", "()Z"⟩ : MethodName)) (z := (⟨"com/example/schedulock/schedulock/schedule/OperationKind", "takesItem", "()Z"⟩ : MethodName)) hown (mvT hZ (hw _ (List.mem_of_getElem? (i := 13) rfl))) (mvT hZ (hw _ (List.mem_of_getElem? (i := 14) rfl))) (notFace_of_selects (args := #[]) (mvT hZ (hw _ (List.mem_of_getElem? (i := 16) rfl)))) (mvT hZ (hw _ (List.mem_of_getElem? (i := 16) rfl))) (mvT hZ (hw _ (List.mem_of_getElem? (i := 15) rfl))) (by decide) (backOf (W := 1) (rm2_0 l Z a0 hw [] p0 a_READ a_COMMIT a_ABORT a_WRITE a_INCREMENT h0 n0 (Nat.le_trans Z0 (Nat.le_refl _)) FF) hZ (hw _ (List.mem_of_getElem? (i := 17) rfl)) (hw _ (List.mem_of_getElem? (i := 2) rfl)) (by decide) (by decide)) q3a q3c (g := (mkF m 83 #[.val (.int p0), .val (.int (0 : Int32)), .val (.ref a_READ), .val (.int (0 : Int32)), .val (.int (0 : Int32))] [(.ref a_READ), (.int (0 : Int32))])) rfl (by rw [hml]; rfl) (Steps.refl _) (argsL := []) (rest := [(.int (0 : Int32))]) (lenOf pd_0 rfl) rfl (by show 2 * 0 + _ ≤ _; exact Nat.le_of_eq rfl) (hb hby at_83) (fun _ _ => ⟨rfl, e2, (by decide : 0 + 0 ≤ _), (by decide : 0 + 0 ≤ _)⟩)
  dsimp only [Pt.U, Pt.locs, Pt.cells, Pt.slots] at X3 l3 y3 z3 st3 hQ3
  subst l3 y3 z3
  obtain ⟨rfl, N3q, e3⟩ := hQ3
  have N3 := Fr.app N2 N3q
  obtain ⟨fs, hr, hrun, hended, hW, hsame⟩ := X3.leave (v := some (.int (1 : Int32))) (fun h => by rw [Bd.returns] at h; cases h)
  refine ⟨_, _, pre0 _ ?_, hrun, hended, _, _, rfl, ?_, ⟨_, rfl⟩, hW, hsame.mono (by decide) (by decide)⟩
  · show Steps p.tables e below (s₁.setTop (mkF m 0 #[.val (.int p0), .unset, .unset, .unset, .unset] [])) _
    refine XS.iloadN X0.here hx rfl (hb hby at_0) rfl ?_
    show Steps p.tables e below (s₁.setTop (mkF m 1 #[.val (.int p0), .unset, .unset, .unset, .unset] [(.int p0)])) _
    refine X0.ldcInt hx hown (mvT hZ (hw _ (List.mem_of_getElem? (i := 0) rfl))) (g := (mkF m 1 #[.val (.int p0), .unset, .unset, .unset, .unset] [(.int p0)])) rfl (hb hby at_1) _ ?_
    show Steps p.tables e below (s₁.setTop (mkF m 3 #[.val (.int p0), .unset, .unset, .unset, .unset] [(.int (2147483647 : Int32)), (.int p0)])) _
    refine XS.iand X0.here hx rfl (hb hby at_3) rfl ?_
    show Steps p.tables e below (s₁.setTop (mkF m 4 #[.val (.int p0), .unset, .unset, .unset, .unset] [(.int (p0 &&& (2147483647 : Int32)))])) _
    refine XS.iconst X0.here hx rfl (hb hby at_4) ?_
    show Steps p.tables e below (s₁.setTop (mkF m 5 #[.val (.int p0), .unset, .unset, .unset, .unset] [(.int (5 : Int32)), (.int (p0 &&& (2147483647 : Int32)))])) _
    refine iremM X0 hx rfl (hb hby at_5) rfl (by decide) ?_
    show Steps p.tables e below (s₁.setTop (mkF m 6 #[.val (.int p0), .unset, .unset, .unset, .unset] [(.int ((p0 &&& (2147483647 : Int32)) % (5 : Int32)))])) _
    rw [hk0]
    show Steps p.tables e below (s₁.setTop (mkF m 6 #[.val (.int p0), .unset, .unset, .unset, .unset] [(.int (0 : Int32))])) _
    refine XS.istoreN X0.here hx rfl (hb hby at_6) rfl (l' := #[.val (.int p0), .val (.int (0 : Int32)), .unset, .unset, .unset]) rfl ?_
    show Steps p.tables e below (s₁.setTop (mkF m 7 #[.val (.int p0), .val (.int (0 : Int32)), .unset, .unset, .unset] [])) _
    refine XS.iloadN X0.here hx rfl (hb hby at_7) rfl ?_
    show Steps p.tables e below (s₁.setTop (mkF m 8 #[.val (.int p0), .val (.int (0 : Int32)), .unset, .unset, .unset] [(.int (0 : Int32))])) _
    refine XS.ifNo X0.here hx rfl (hb hby at_8) rfl (by decide) ?_
    show Steps p.tables e below (s₁.setTop (mkF m 11 #[.val (.int p0), .val (.int (0 : Int32)), .unset, .unset, .unset] [])) _
    refine st1 _ ?_
    show Steps p.tables e below (T1.setTop (mkF m 14 #[.val (.int p0), .val (.int (0 : Int32)), .unset, .unset, .unset] [(.ref a_READ)])) _
    refine XS.astoreN X1.here hx rfl (hb hby at_14) rfl rfl (l' := #[.val (.int p0), .val (.int (0 : Int32)), .val (.ref a_READ), .unset, .unset]) rfl ?_
    show Steps p.tables e below (T1.setTop (mkF m 15 #[.val (.int p0), .val (.int (0 : Int32)), .val (.ref a_READ), .unset, .unset] [])) _
    refine XS.iconst X1.here hx rfl (hb hby at_15) ?_
    show Steps p.tables e below (T1.setTop (mkF m 16 #[.val (.int p0), .val (.int (0 : Int32)), .val (.ref a_READ), .unset, .unset] [(.int (0 : Int32))])) _
    refine XS.istoreN X1.here hx rfl (hb hby at_16) rfl (l' := #[.val (.int p0), .val (.int (0 : Int32)), .val (.ref a_READ), .val (.int (0 : Int32)), .unset]) rfl ?_
    show Steps p.tables e below (T1.setTop (mkF m 17 #[.val (.int p0), .val (.int (0 : Int32)), .val (.ref a_READ), .val (.int (0 : Int32)), .unset] [])) _
    refine XS.goto X1.here hx rfl (pc0 := 17) (pc' := 68) rfl (hb hby at_17) (by decide) (by decide) ?_
    show Steps p.tables e below (T1.setTop (mkF m 68 #[.val (.int p0), .val (.int (0 : Int32)), .val (.ref a_READ), .val (.int (0 : Int32)), .unset] [])) _
    refine XS.aloadN X1.here hx rfl (hb hby at_68) rfl rfl ?_
    show Steps p.tables e below (T1.setTop (mkF m 69 #[.val (.int p0), .val (.int (0 : Int32)), .val (.ref a_READ), .val (.int (0 : Int32)), .unset] [(.ref a_READ)])) _
    refine st2.trans ?_
    show Steps p.tables e below (T2.setTop (mkF m 72 #[.val (.int p0), .val (.int (0 : Int32)), .val (.ref a_READ), .val (.int (0 : Int32)), .unset] [(.int (0 : Int32))])) _
    refine XS.istore X2.here hx rfl (hb hby at_72) rfl (l' := #[.val (.int p0), .val (.int (0 : Int32)), .val (.ref a_READ), .val (.int (0 : Int32)), .val (.int (0 : Int32))]) rfl ?_
    show Steps p.tables e below (T2.setTop (mkF m 74 #[.val (.int p0), .val (.int (0 : Int32)), .val (.ref a_READ), .val (.int (0 : Int32)), .val (.int (0 : Int32))] [])) _
    refine XS.iload X2.here hx rfl (hb hby at_74) rfl ?_
    show Steps p.tables e below (T2.setTop (mkF m 76 #[.val (.int p0), .val (.int (0 : Int32)), .val (.ref a_READ), .val (.int (0 : Int32)), .val (.int (0 : Int32))] [(.int (0 : Int32))])) _
    refine XS.iloadN X2.here hx rfl (hb hby at_76) rfl ?_
    show Steps p.tables e below (T2.setTop (mkF m 77 #[.val (.int p0), .val (.int (0 : Int32)), .val (.ref a_READ), .val (.int (0 : Int32)), .val (.int (0 : Int32))] [(.int (0 : Int32)), (.int (0 : Int32))])) _
    refine XS.icmpNo X2.here hx rfl (hb hby at_77) rfl (by decide) ?_
    show Steps p.tables e below (T2.setTop (mkF m 80 #[.val (.int p0), .val (.int (0 : Int32)), .val (.ref a_READ), .val (.int (0 : Int32)), .val (.int (0 : Int32))] [])) _
    refine XS.iload X2.here hx rfl (hb hby at_80) rfl ?_
    show Steps p.tables e below (T2.setTop (mkF m 82 #[.val (.int p0), .val (.int (0 : Int32)), .val (.ref a_READ), .val (.int (0 : Int32)), .val (.int (0 : Int32))] [(.int (0 : Int32))])) _
    refine XS.aloadN X2.here hx rfl (hb hby at_82) rfl rfl ?_
    show Steps p.tables e below (T2.setTop (mkF m 83 #[.val (.int p0), .val (.int (0 : Int32)), .val (.ref a_READ), .val (.int (0 : Int32)), .val (.int (0 : Int32))] [(.ref a_READ), (.int (0 : Int32))])) _
    refine st3.trans ?_
    show Steps p.tables e below (T3.setTop (mkF m 86 #[.val (.int p0), .val (.int (0 : Int32)), .val (.ref a_READ), .val (.int (0 : Int32)), .val (.int (0 : Int32))] [(.int (1 : Int32)), (.int (0 : Int32))])) _
    refine XS.ifYes X3.here hx rfl (pc0 := 86) (pc' := 93) rfl (hb hby at_86) rfl (by decide) (by decide) (by decide) ?_
    show Steps p.tables e below (T3.setTop (mkF m 93 #[.val (.int p0), .val (.int (0 : Int32)), .val (.ref a_READ), .val (.int (0 : Int32)), .val (.int (0 : Int32))] [(.int (0 : Int32))])) _
    refine XS.iconst X3.here hx rfl (hb hby at_93) ?_
    show Steps p.tables e below (T3.setTop (mkF m 94 #[.val (.int p0), .val (.int (0 : Int32)), .val (.ref a_READ), .val (.int (0 : Int32)), .val (.int (0 : Int32))] [(.int (0 : Int32)), (.int (0 : Int32))])) _
    refine XS.icmpNo X3.here hx rfl (hb hby at_94) rfl (by decide) ?_
    show Steps p.tables e below (T3.setTop (mkF m 97 #[.val (.int p0), .val (.int (0 : Int32)), .val (.ref a_READ), .val (.int (0 : Int32)), .val (.int (0 : Int32))] [])) _
    refine XS.iconst X3.here hx rfl (hb hby at_97) ?_
    show Steps p.tables e below (T3.setTop (mkF m 98 #[.val (.int p0), .val (.int (0 : Int32)), .val (.ref a_READ), .val (.int (0 : Int32)), .val (.int (0 : Int32))] [(.int (1 : Int32))])) _
    refine XS.goto X3.here hx rfl (pc0 := 98) (pc' := 102) rfl (hb hby at_98) (by decide) (by decide) ?_
    show Steps p.tables e below (T3.setTop (mkF m 102 #[.val (.int p0), .val (.int (0 : Int32)), .val (.ref a_READ), .val (.int (0 : Int32)), .val (.int (0 : Int32))] [(.int (1 : Int32))])) _
    exact retN X3 hx (t := .boolean) Bd.returns (by simp) (hb hby at_102) hr
  · exact ⟨rfl, N3⟩
set_option maxRecDepth 65536 in
set_option maxHeartbeats 40000000 in
theorem rm1_1 (l : Launch) (Z : State) (a0 : Array Value) (hw : ∀ d ∈ tables_1, d.before a0 Z = true) (ws : List Jvm.Cond) (p0 : Int32) (a_READ a_COMMIT a_ABORT a_WRITE a_INCREMENT : Addr) (h0 : Heap) (n0 : Nat) (Z0 : n0 ≤ h0.size) (FF : Facts Z h0 a_READ a_COMMIT a_ABORT a_WRITE a_INCREMENT) :
    MetFree l (⟨"com/example/schedulock/schedulock/schedule/OperationKind", "endsTransaction", "()Z"⟩ : MethodName) (head1 (Jvm.Cond.code (⟨"com/example/schedulock/schedulock/schedule/OperationKind", "endsTransaction", "()Z"⟩ : MethodName) prog_31_method_6_code 1 (some .boolean) :: ws) ({ frames := 0, cells := 0, slots := 0, locals := 0 } : Room)) (fun a U => a = #[(.ref a_WRITE)] ∧ Z.Warmed39 U.vm ∧ U.heap = h0) (fun _ _ _ _ _ => True) (fun _ U o U' => ∃ v L, o = .returned v ∧ own_Q (.int (0 : Int32)) h0 n0 v U'.heap L ∧ FrameEnd U o U' L ({ frames := 0, cells := 0, slots := 0, locals := 0 } : Room).cells ({ frames := 0, cells := 0, slots := 0, locals := 0 } : Room).slots) := by
  refine MetFree.of_bodySF (plainFor_of_name pn_1) hisR ?_
  intro p e s m args below meth c s₁ Bd hml0 hP hK
  obtain ⟨rfl, hZ, hh⟩ := hP
  have hx := Bd.exec
  have hby := Bd.bytes
  have hml : c.maxLocals = 1 := hml0
  have hown : s.vm.findClass "com/example/schedulock/schedulock/schedule/OperationKind" = some m.cls := findClass_of_methodNamed Bd.named
  have X0 : Stand p l e ({ frames := 0, cells := 0, slots := 0, locals := 0 } : Room) s m #[(.ref a_WRITE)] below meth c s₁ [] 0 0 := Stand.of_body Bd
  have e0 : s₁.heap = h0 := by rw [← hh, Bd.state]; rfl
  have N0 := Fr.nil n0
  have pre0 : ∀ t, Steps p.tables e below (s₁.setTop (mkF m 0 #[.val (.ref a_WRITE)] [])) t → Steps p.tables e below (s₁.setTop (entryFrame m #[(.ref a_WRITE)] 1)) t := fun t k => castTop (ef_1 m a_WRITE) k
  obtain ⟨T1, X1, e1, st1⟩ := getS2 X0 hx hZ hown (host := "") (Or.inl (hw _ (List.mem_of_getElem? (i := 9) rfl))) Via.refl e0 (fx_S_COMMIT FF) (g := (mkF m 1 #[.val (.ref a_WRITE)] [(.ref a_WRITE)])) rfl (hb hby d1_1)
  obtain ⟨T2, X2, e2, st2⟩ := getS2 X1 hx hZ hown (host := "") (Or.inl (hw _ (List.mem_of_getElem? (i := 11) rfl))) Via.refl e1 (fx_S_ABORT FF) (g := (mkF m 8 #[.val (.ref a_WRITE)] [(.ref a_WRITE)])) rfl (hb hby d1_8)
  obtain ⟨fs, hr, hrun, hended, hW, hsame⟩ := X2.leave (v := some (.int (0 : Int32))) (fun h => by rw [Bd.returns] at h; cases h)
  refine ⟨_, _, pre0 _ ?_, hrun, hended, _, _, rfl, ?_, ⟨_, rfl⟩, hW, hsame.mono (by decide) (by decide)⟩
  · show Steps p.tables e below (s₁.setTop (mkF m 0 #[.val (.ref a_WRITE)] [])) _
    refine XS.aloadN X0.here hx rfl (hb hby d1_0) rfl rfl ?_
    show Steps p.tables e below (s₁.setTop (mkF m 1 #[.val (.ref a_WRITE)] [(.ref a_WRITE)])) _
    refine st1 _ ?_
    show Steps p.tables e below (T1.setTop (mkF m 4 #[.val (.ref a_WRITE)] [(.ref a_COMMIT), (.ref a_WRITE)])) _
    refine Jvm.RoadKit.acmp (g := (mkF m 4 #[.val (.ref a_WRITE)] [(.ref a_COMMIT), (.ref a_WRITE)])) X1 hx rfl rfl rfl (pc0 := 4) (pc' := 7) (same := false) rfl (hb hby d1_4) rfl (decide_eq_false fun q => Fld.ne (fx_F_WRITE_ordinal FF) (fx_F_COMMIT_ordinal FF) (by decide) (Value.ref.inj q)) (by decide) (by decide) ?_
    show Steps p.tables e below (T1.setTop (mkF m 7 #[.val (.ref a_WRITE)] [])) _
    refine XS.aloadN X1.here hx rfl (hb hby d1_7) rfl rfl ?_
    show Steps p.tables e below (T1.setTop (mkF m 8 #[.val (.ref a_WRITE)] [(.ref a_WRITE)])) _
    refine st2 _ ?_
    show Steps p.tables e below (T2.setTop (mkF m 11 #[.val (.ref a_WRITE)] [(.ref a_ABORT), (.ref a_WRITE)])) _
    refine Jvm.RoadKit.acmp (g := (mkF m 11 #[.val (.ref a_WRITE)] [(.ref a_ABORT), (.ref a_WRITE)])) X2 hx rfl rfl rfl (pc0 := 11) (pc' := 18) (same := false) rfl (hb hby d1_11) rfl (decide_eq_false fun q => Fld.ne (fx_F_WRITE_ordinal FF) (fx_F_ABORT_ordinal FF) (by decide) (Value.ref.inj q)) (by decide) (by decide) ?_
    show Steps p.tables e below (T2.setTop (mkF m 18 #[.val (.ref a_WRITE)] [])) _
    refine XS.iconst X2.here hx rfl (hb hby d1_18) ?_
    show Steps p.tables e below (T2.setTop (mkF m 19 #[.val (.ref a_WRITE)] [(.int (0 : Int32))])) _
    exact retN X2 hx (t := .boolean) Bd.returns (by simp) (hb hby d1_19) hr
  · show own_Q _ _ _ _ T2.heap _
    exact ⟨rfl, N0, e2⟩
set_option maxRecDepth 65536 in
set_option maxHeartbeats 40000000 in
theorem rm2_1 (l : Launch) (Z : State) (a0 : Array Value) (hw : ∀ d ∈ tables_1, d.before a0 Z = true) (ws : List Jvm.Cond) (p0 : Int32) (a_READ a_COMMIT a_ABORT a_WRITE a_INCREMENT : Addr) (h0 : Heap) (n0 : Nat) (Z0 : n0 ≤ h0.size) (FF : Facts Z h0 a_READ a_COMMIT a_ABORT a_WRITE a_INCREMENT) :
    MetFree l (⟨"com/example/schedulock/schedulock/schedule/OperationKind", "takesItem", "()Z"⟩ : MethodName) (head1 (Jvm.Cond.code (⟨"com/example/schedulock/schedulock/schedule/OperationKind", "takesItem", "()Z"⟩ : MethodName) prog_31_method_4_code 1 (some .boolean) :: ws) ({ frames := 0, cells := 0, slots := 0, locals := 0 } : Room)) (fun a U => a = #[(.ref a_WRITE)] ∧ Z.Warmed39 U.vm ∧ U.heap = h0) (fun _ _ _ _ _ => True) (fun _ U o U' => ∃ v L, o = .returned v ∧ own_Q (.int (1 : Int32)) h0 n0 v U'.heap L ∧ FrameEnd U o U' L ({ frames := 0, cells := 0, slots := 0, locals := 0 } : Room).cells ({ frames := 0, cells := 0, slots := 0, locals := 0 } : Room).slots) := by
  refine MetFree.of_bodySF (plainFor_of_name pn_2) hisR ?_
  intro p e s m args below meth c s₁ Bd hml0 hP hK
  obtain ⟨rfl, hZ, hh⟩ := hP
  have hx := Bd.exec
  have hby := Bd.bytes
  have hml : c.maxLocals = 1 := hml0
  have hown : s.vm.findClass "com/example/schedulock/schedulock/schedule/OperationKind" = some m.cls := findClass_of_methodNamed Bd.named
  have X0 : Stand p l e ({ frames := 0, cells := 0, slots := 0, locals := 0 } : Room) s m #[(.ref a_WRITE)] below meth c s₁ [] 0 0 := Stand.of_body Bd
  have e0 : s₁.heap = h0 := by rw [← hh, Bd.state]; rfl
  have N0 := Fr.nil n0
  have pre0 : ∀ t, Steps p.tables e below (s₁.setTop (mkF m 0 #[.val (.ref a_WRITE)] [])) t → Steps p.tables e below (s₁.setTop (entryFrame m #[(.ref a_WRITE)] 1)) t := fun t k => castTop (ef_2 m a_WRITE) k
  obtain ⟨T1, X1, e1, st1⟩ := getF X0 hx hZ hown (host := "") (Or.inl (hw _ (List.mem_of_getElem? (i := 18) rfl))) Via.refl e0 (fx_F_WRITE_takesItem FF) (g := (mkF m 1 #[.val (.ref a_WRITE)] [(.ref a_WRITE)])) rfl rfl (hb hby d2_1)
  obtain ⟨fs, hr, hrun, hended, hW, hsame⟩ := X1.leave (v := some (.int (1 : Int32))) (fun h => by rw [Bd.returns] at h; cases h)
  refine ⟨_, _, pre0 _ ?_, hrun, hended, _, _, rfl, ?_, ⟨_, rfl⟩, hW, hsame.mono (by decide) (by decide)⟩
  · show Steps p.tables e below (s₁.setTop (mkF m 0 #[.val (.ref a_WRITE)] [])) _
    refine XS.aloadN X0.here hx rfl (hb hby d2_0) rfl rfl ?_
    show Steps p.tables e below (s₁.setTop (mkF m 1 #[.val (.ref a_WRITE)] [(.ref a_WRITE)])) _
    refine st1 _ ?_
    show Steps p.tables e below (T1.setTop (mkF m 4 #[.val (.ref a_WRITE)] [(.int (1 : Int32))])) _
    exact retN X1 hx (t := .boolean) Bd.returns (by simp) (hb hby d2_4) hr
  · show own_Q _ _ _ _ T1.heap _
    exact ⟨rfl, N0, e1⟩
set_option maxRecDepth 65536 in
set_option maxHeartbeats 40000000 in
theorem rm0_1 (l : Launch) (Z : State) (a0 : Array Value) (hw : ∀ d ∈ tables_1, d.before a0 Z = true) (ws : List Jvm.Cond) (p0 : Int32) (a_READ a_COMMIT a_ABORT a_WRITE a_INCREMENT : Addr) (h0 : Heap) (n0 : Nat) (Z0 : n0 ≤ h0.size) (FF : Facts Z h0 a_READ a_COMMIT a_ABORT a_WRITE a_INCREMENT) (hk0 : ((p0 &&& (2147483647 : Int32)) % (5 : Int32)) = (1 : Int32)) :
    MetFree l x (head1 (Jvm.Cond.code x code maxLocals ret :: ws) room_1) (fun a U => a = #[(.int p0)] ∧ Z.Warmed39 U.vm ∧ U.heap = h0) (fun _ _ _ _ _ => True) (fun _ U o U' => ∃ v L, o = .returned v ∧ (v = some (.int (1 : Int32)) ∧ Fr n0 L) ∧ FrameEnd U o U' L room_1.cells room_1.slots) := by
  refine MetFree.of_bodySF (plainFor_of_name pn_0) hisR ?_
  intro p e s m args below meth c s₁ Bd hml0 hP hK
  obtain ⟨rfl, hZ, hh⟩ := hP
  have hx := Bd.exec
  have hby := Bd.bytes
  have hml : c.maxLocals = 5 := hml0
  have hown : s.vm.findClass "com/example/schedulock/schedulock/schedule/OperationKindEndsTransactionPinLaw" = some m.cls := findClass_of_methodNamed Bd.named
  have X0 : Stand p l e room_1 s m #[(.int p0)] below meth c s₁ [] 0 0 := Stand.of_body Bd
  have e0 : s₁.heap = h0 := by rw [← hh, Bd.state]; rfl
  have N0 := Fr.nil n0
  have pre0 : ∀ t, Steps p.tables e below (s₁.setTop (mkF m 0 #[.val (.int p0), .unset, .unset, .unset, .unset] [])) t → Steps p.tables e below (s₁.setTop (entryFrame m #[(.int p0)] maxLocals)) t := fun t k => castTop (ef_0 m p0) k
  obtain ⟨T1, X1, e1, st1⟩ := getS2 X0 hx hZ hown (host := "") (Or.inl (hw _ (List.mem_of_getElem? (i := 21) rfl))) Via.refl e0 (fx_S_WRITE FF) (g := (mkF m 25 #[.val (.int p0), .val (.int (1 : Int32)), .unset, .unset, .unset] [])) rfl (hb hby at_25)
  obtain ⟨cq2, kq2, q2a, q2b, q2c⟩ := isOf hZ e1 (fx_E_WRITE FF)
  obtain ⟨_, _, ⟨T2, L2, k2, n2⟩, -, X2, ⟨Lc2, hQ2, l2, y2, z2⟩, st2⟩ := X1.virtualBack hx (y := (⟨"com/example/schedulock/schedulock/schedule/OperationKind", "endsTransaction", "()Z"⟩ : MethodName)) (z := (⟨"com/example/schedulock/schedulock/schedule/OperationKind", "endsTransaction", "()Z"⟩ : MethodName)) hown (mvT hZ (hw _ (List.mem_of_getElem? (i := 4) rfl))) (mvT hZ (hw _ (List.mem_of_getElem? (i := 5) rfl))) (notFace_of_selects (args := #[]) (mvT hZ (hw _ (List.mem_of_getElem? (i := 7) rfl)))) (mvT hZ (hw _ (List.mem_of_getElem? (i := 7) rfl))) (mvT hZ (hw _ (List.mem_of_getElem? (i := 6) rfl))) (by decide) (backOf (W := 0) (rm1_1 l Z a0 hw [] p0 a_READ a_COMMIT a_ABORT a_WRITE a_INCREMENT h0 n0 (Nat.le_trans Z0 (Nat.le_refl _)) FF) hZ (hw _ (List.mem_of_getElem? (i := 8) rfl)) (hw _ (List.mem_of_getElem? (i := 2) rfl)) (by decide) (by decide)) q2a q2c (g := (mkF m 69 #[.val (.int p0), .val (.int (1 : Int32)), .val (.ref a_WRITE), .val (.int (0 : Int32)), .unset] [(.ref a_WRITE)])) rfl (by rw [hml]; rfl) (Steps.refl _) (argsL := []) (rest := []) (lenOf pd_0 rfl) rfl (by show 2 * 0 + _ ≤ _; exact Nat.le_of_eq rfl) (hb hby at_69) (fun _ _ => ⟨rfl, e1, (by decide : 0 + 0 ≤ _), (by decide : 0 + 0 ≤ _)⟩)
  dsimp only [Pt.U, Pt.locs, Pt.cells, Pt.slots] at X2 l2 y2 z2 st2 hQ2
  subst l2 y2 z2
  obtain ⟨rfl, N2q, e2⟩ := hQ2
  have N2 := Fr.app N0 N2q
  obtain ⟨cq3, kq3, q3a, q3b, q3c⟩ := isOf hZ e2 (fx_E_WRITE FF)
  obtain ⟨_, _, ⟨T3, L3, k3, n3⟩, -, X3, ⟨Lc3, hQ3, l3, y3, z3⟩, st3⟩ := X2.virtualBack hx (y := (⟨"com/example/schedulock/schedulock/schedule/OperationKind", "takesItem", "()Z"⟩ : MethodName)) (z := (⟨"com/example/schedulock/schedulock/schedule/OperationKind", "takesItem", "()Z"⟩ : MethodName)) hown (mvT hZ (hw _ (List.mem_of_getElem? (i := 13) rfl))) (mvT hZ (hw _ (List.mem_of_getElem? (i := 14) rfl))) (notFace_of_selects (args := #[]) (mvT hZ (hw _ (List.mem_of_getElem? (i := 16) rfl)))) (mvT hZ (hw _ (List.mem_of_getElem? (i := 16) rfl))) (mvT hZ (hw _ (List.mem_of_getElem? (i := 15) rfl))) (by decide) (backOf (W := 1) (rm2_1 l Z a0 hw [] p0 a_READ a_COMMIT a_ABORT a_WRITE a_INCREMENT h0 n0 (Nat.le_trans Z0 (Nat.le_refl _)) FF) hZ (hw _ (List.mem_of_getElem? (i := 17) rfl)) (hw _ (List.mem_of_getElem? (i := 2) rfl)) (by decide) (by decide)) q3a q3c (g := (mkF m 83 #[.val (.int p0), .val (.int (1 : Int32)), .val (.ref a_WRITE), .val (.int (0 : Int32)), .val (.int (0 : Int32))] [(.ref a_WRITE), (.int (0 : Int32))])) rfl (by rw [hml]; rfl) (Steps.refl _) (argsL := []) (rest := [(.int (0 : Int32))]) (lenOf pd_0 rfl) rfl (by show 2 * 0 + _ ≤ _; exact Nat.le_of_eq rfl) (hb hby at_83) (fun _ _ => ⟨rfl, e2, (by decide : 0 + 0 ≤ _), (by decide : 0 + 0 ≤ _)⟩)
  dsimp only [Pt.U, Pt.locs, Pt.cells, Pt.slots] at X3 l3 y3 z3 st3 hQ3
  subst l3 y3 z3
  obtain ⟨rfl, N3q, e3⟩ := hQ3
  have N3 := Fr.app N2 N3q
  obtain ⟨fs, hr, hrun, hended, hW, hsame⟩ := X3.leave (v := some (.int (1 : Int32))) (fun h => by rw [Bd.returns] at h; cases h)
  refine ⟨_, _, pre0 _ ?_, hrun, hended, _, _, rfl, ?_, ⟨_, rfl⟩, hW, hsame.mono (by decide) (by decide)⟩
  · show Steps p.tables e below (s₁.setTop (mkF m 0 #[.val (.int p0), .unset, .unset, .unset, .unset] [])) _
    refine XS.iloadN X0.here hx rfl (hb hby at_0) rfl ?_
    show Steps p.tables e below (s₁.setTop (mkF m 1 #[.val (.int p0), .unset, .unset, .unset, .unset] [(.int p0)])) _
    refine X0.ldcInt hx hown (mvT hZ (hw _ (List.mem_of_getElem? (i := 0) rfl))) (g := (mkF m 1 #[.val (.int p0), .unset, .unset, .unset, .unset] [(.int p0)])) rfl (hb hby at_1) _ ?_
    show Steps p.tables e below (s₁.setTop (mkF m 3 #[.val (.int p0), .unset, .unset, .unset, .unset] [(.int (2147483647 : Int32)), (.int p0)])) _
    refine XS.iand X0.here hx rfl (hb hby at_3) rfl ?_
    show Steps p.tables e below (s₁.setTop (mkF m 4 #[.val (.int p0), .unset, .unset, .unset, .unset] [(.int (p0 &&& (2147483647 : Int32)))])) _
    refine XS.iconst X0.here hx rfl (hb hby at_4) ?_
    show Steps p.tables e below (s₁.setTop (mkF m 5 #[.val (.int p0), .unset, .unset, .unset, .unset] [(.int (5 : Int32)), (.int (p0 &&& (2147483647 : Int32)))])) _
    refine iremM X0 hx rfl (hb hby at_5) rfl (by decide) ?_
    show Steps p.tables e below (s₁.setTop (mkF m 6 #[.val (.int p0), .unset, .unset, .unset, .unset] [(.int ((p0 &&& (2147483647 : Int32)) % (5 : Int32)))])) _
    rw [hk0]
    show Steps p.tables e below (s₁.setTop (mkF m 6 #[.val (.int p0), .unset, .unset, .unset, .unset] [(.int (1 : Int32))])) _
    refine XS.istoreN X0.here hx rfl (hb hby at_6) rfl (l' := #[.val (.int p0), .val (.int (1 : Int32)), .unset, .unset, .unset]) rfl ?_
    show Steps p.tables e below (s₁.setTop (mkF m 7 #[.val (.int p0), .val (.int (1 : Int32)), .unset, .unset, .unset] [])) _
    refine XS.iloadN X0.here hx rfl (hb hby at_7) rfl ?_
    show Steps p.tables e below (s₁.setTop (mkF m 8 #[.val (.int p0), .val (.int (1 : Int32)), .unset, .unset, .unset] [(.int (1 : Int32))])) _
    refine XS.ifYes X0.here hx rfl (pc0 := 8) (pc' := 20) rfl (hb hby at_8) rfl (by decide) (by decide) (by decide) ?_
    show Steps p.tables e below (s₁.setTop (mkF m 20 #[.val (.int p0), .val (.int (1 : Int32)), .unset, .unset, .unset] [])) _
    refine XS.iloadN X0.here hx rfl (hb hby at_20) rfl ?_
    show Steps p.tables e below (s₁.setTop (mkF m 21 #[.val (.int p0), .val (.int (1 : Int32)), .unset, .unset, .unset] [(.int (1 : Int32))])) _
    refine XS.iconst X0.here hx rfl (hb hby at_21) ?_
    show Steps p.tables e below (s₁.setTop (mkF m 22 #[.val (.int p0), .val (.int (1 : Int32)), .unset, .unset, .unset] [(.int (1 : Int32)), (.int (1 : Int32))])) _
    refine XS.icmpNo X0.here hx rfl (hb hby at_22) rfl (by decide) ?_
    show Steps p.tables e below (s₁.setTop (mkF m 25 #[.val (.int p0), .val (.int (1 : Int32)), .unset, .unset, .unset] [])) _
    refine st1 _ ?_
    show Steps p.tables e below (T1.setTop (mkF m 28 #[.val (.int p0), .val (.int (1 : Int32)), .unset, .unset, .unset] [(.ref a_WRITE)])) _
    refine XS.astoreN X1.here hx rfl (hb hby at_28) rfl rfl (l' := #[.val (.int p0), .val (.int (1 : Int32)), .val (.ref a_WRITE), .unset, .unset]) rfl ?_
    show Steps p.tables e below (T1.setTop (mkF m 29 #[.val (.int p0), .val (.int (1 : Int32)), .val (.ref a_WRITE), .unset, .unset] [])) _
    refine XS.iconst X1.here hx rfl (hb hby at_29) ?_
    show Steps p.tables e below (T1.setTop (mkF m 30 #[.val (.int p0), .val (.int (1 : Int32)), .val (.ref a_WRITE), .unset, .unset] [(.int (0 : Int32))])) _
    refine XS.istoreN X1.here hx rfl (hb hby at_30) rfl (l' := #[.val (.int p0), .val (.int (1 : Int32)), .val (.ref a_WRITE), .val (.int (0 : Int32)), .unset]) rfl ?_
    show Steps p.tables e below (T1.setTop (mkF m 31 #[.val (.int p0), .val (.int (1 : Int32)), .val (.ref a_WRITE), .val (.int (0 : Int32)), .unset] [])) _
    refine XS.goto X1.here hx rfl (pc0 := 31) (pc' := 68) rfl (hb hby at_31) (by decide) (by decide) ?_
    show Steps p.tables e below (T1.setTop (mkF m 68 #[.val (.int p0), .val (.int (1 : Int32)), .val (.ref a_WRITE), .val (.int (0 : Int32)), .unset] [])) _
    refine XS.aloadN X1.here hx rfl (hb hby at_68) rfl rfl ?_
    show Steps p.tables e below (T1.setTop (mkF m 69 #[.val (.int p0), .val (.int (1 : Int32)), .val (.ref a_WRITE), .val (.int (0 : Int32)), .unset] [(.ref a_WRITE)])) _
    refine st2.trans ?_
    show Steps p.tables e below (T2.setTop (mkF m 72 #[.val (.int p0), .val (.int (1 : Int32)), .val (.ref a_WRITE), .val (.int (0 : Int32)), .unset] [(.int (0 : Int32))])) _
    refine XS.istore X2.here hx rfl (hb hby at_72) rfl (l' := #[.val (.int p0), .val (.int (1 : Int32)), .val (.ref a_WRITE), .val (.int (0 : Int32)), .val (.int (0 : Int32))]) rfl ?_
    show Steps p.tables e below (T2.setTop (mkF m 74 #[.val (.int p0), .val (.int (1 : Int32)), .val (.ref a_WRITE), .val (.int (0 : Int32)), .val (.int (0 : Int32))] [])) _
    refine XS.iload X2.here hx rfl (hb hby at_74) rfl ?_
    show Steps p.tables e below (T2.setTop (mkF m 76 #[.val (.int p0), .val (.int (1 : Int32)), .val (.ref a_WRITE), .val (.int (0 : Int32)), .val (.int (0 : Int32))] [(.int (0 : Int32))])) _
    refine XS.iloadN X2.here hx rfl (hb hby at_76) rfl ?_
    show Steps p.tables e below (T2.setTop (mkF m 77 #[.val (.int p0), .val (.int (1 : Int32)), .val (.ref a_WRITE), .val (.int (0 : Int32)), .val (.int (0 : Int32))] [(.int (0 : Int32)), (.int (0 : Int32))])) _
    refine XS.icmpNo X2.here hx rfl (hb hby at_77) rfl (by decide) ?_
    show Steps p.tables e below (T2.setTop (mkF m 80 #[.val (.int p0), .val (.int (1 : Int32)), .val (.ref a_WRITE), .val (.int (0 : Int32)), .val (.int (0 : Int32))] [])) _
    refine XS.iload X2.here hx rfl (hb hby at_80) rfl ?_
    show Steps p.tables e below (T2.setTop (mkF m 82 #[.val (.int p0), .val (.int (1 : Int32)), .val (.ref a_WRITE), .val (.int (0 : Int32)), .val (.int (0 : Int32))] [(.int (0 : Int32))])) _
    refine XS.aloadN X2.here hx rfl (hb hby at_82) rfl rfl ?_
    show Steps p.tables e below (T2.setTop (mkF m 83 #[.val (.int p0), .val (.int (1 : Int32)), .val (.ref a_WRITE), .val (.int (0 : Int32)), .val (.int (0 : Int32))] [(.ref a_WRITE), (.int (0 : Int32))])) _
    refine st3.trans ?_
    show Steps p.tables e below (T3.setTop (mkF m 86 #[.val (.int p0), .val (.int (1 : Int32)), .val (.ref a_WRITE), .val (.int (0 : Int32)), .val (.int (0 : Int32))] [(.int (1 : Int32)), (.int (0 : Int32))])) _
    refine XS.ifYes X3.here hx rfl (pc0 := 86) (pc' := 93) rfl (hb hby at_86) rfl (by decide) (by decide) (by decide) ?_
    show Steps p.tables e below (T3.setTop (mkF m 93 #[.val (.int p0), .val (.int (1 : Int32)), .val (.ref a_WRITE), .val (.int (0 : Int32)), .val (.int (0 : Int32))] [(.int (0 : Int32))])) _
    refine XS.iconst X3.here hx rfl (hb hby at_93) ?_
    show Steps p.tables e below (T3.setTop (mkF m 94 #[.val (.int p0), .val (.int (1 : Int32)), .val (.ref a_WRITE), .val (.int (0 : Int32)), .val (.int (0 : Int32))] [(.int (0 : Int32)), (.int (0 : Int32))])) _
    refine XS.icmpNo X3.here hx rfl (hb hby at_94) rfl (by decide) ?_
    show Steps p.tables e below (T3.setTop (mkF m 97 #[.val (.int p0), .val (.int (1 : Int32)), .val (.ref a_WRITE), .val (.int (0 : Int32)), .val (.int (0 : Int32))] [])) _
    refine XS.iconst X3.here hx rfl (hb hby at_97) ?_
    show Steps p.tables e below (T3.setTop (mkF m 98 #[.val (.int p0), .val (.int (1 : Int32)), .val (.ref a_WRITE), .val (.int (0 : Int32)), .val (.int (0 : Int32))] [(.int (1 : Int32))])) _
    refine XS.goto X3.here hx rfl (pc0 := 98) (pc' := 102) rfl (hb hby at_98) (by decide) (by decide) ?_
    show Steps p.tables e below (T3.setTop (mkF m 102 #[.val (.int p0), .val (.int (1 : Int32)), .val (.ref a_WRITE), .val (.int (0 : Int32)), .val (.int (0 : Int32))] [(.int (1 : Int32))])) _
    exact retN X3 hx (t := .boolean) Bd.returns (by simp) (hb hby at_102) hr
  · exact ⟨rfl, N3⟩
set_option maxRecDepth 65536 in
set_option maxHeartbeats 40000000 in
theorem rm1_2 (l : Launch) (Z : State) (a0 : Array Value) (hw : ∀ d ∈ tables_1, d.before a0 Z = true) (ws : List Jvm.Cond) (p0 : Int32) (a_READ a_COMMIT a_ABORT a_WRITE a_INCREMENT : Addr) (h0 : Heap) (n0 : Nat) (Z0 : n0 ≤ h0.size) (FF : Facts Z h0 a_READ a_COMMIT a_ABORT a_WRITE a_INCREMENT) :
    MetFree l (⟨"com/example/schedulock/schedulock/schedule/OperationKind", "endsTransaction", "()Z"⟩ : MethodName) (head1 (Jvm.Cond.code (⟨"com/example/schedulock/schedulock/schedule/OperationKind", "endsTransaction", "()Z"⟩ : MethodName) prog_31_method_6_code 1 (some .boolean) :: ws) ({ frames := 0, cells := 0, slots := 0, locals := 0 } : Room)) (fun a U => a = #[(.ref a_INCREMENT)] ∧ Z.Warmed39 U.vm ∧ U.heap = h0) (fun _ _ _ _ _ => True) (fun _ U o U' => ∃ v L, o = .returned v ∧ own_Q (.int (0 : Int32)) h0 n0 v U'.heap L ∧ FrameEnd U o U' L ({ frames := 0, cells := 0, slots := 0, locals := 0 } : Room).cells ({ frames := 0, cells := 0, slots := 0, locals := 0 } : Room).slots) := by
  refine MetFree.of_bodySF (plainFor_of_name pn_1) hisR ?_
  intro p e s m args below meth c s₁ Bd hml0 hP hK
  obtain ⟨rfl, hZ, hh⟩ := hP
  have hx := Bd.exec
  have hby := Bd.bytes
  have hml : c.maxLocals = 1 := hml0
  have hown : s.vm.findClass "com/example/schedulock/schedulock/schedule/OperationKind" = some m.cls := findClass_of_methodNamed Bd.named
  have X0 : Stand p l e ({ frames := 0, cells := 0, slots := 0, locals := 0 } : Room) s m #[(.ref a_INCREMENT)] below meth c s₁ [] 0 0 := Stand.of_body Bd
  have e0 : s₁.heap = h0 := by rw [← hh, Bd.state]; rfl
  have N0 := Fr.nil n0
  have pre0 : ∀ t, Steps p.tables e below (s₁.setTop (mkF m 0 #[.val (.ref a_INCREMENT)] [])) t → Steps p.tables e below (s₁.setTop (entryFrame m #[(.ref a_INCREMENT)] 1)) t := fun t k => castTop (ef_1 m a_INCREMENT) k
  obtain ⟨T1, X1, e1, st1⟩ := getS2 X0 hx hZ hown (host := "") (Or.inl (hw _ (List.mem_of_getElem? (i := 9) rfl))) Via.refl e0 (fx_S_COMMIT FF) (g := (mkF m 1 #[.val (.ref a_INCREMENT)] [(.ref a_INCREMENT)])) rfl (hb hby d1_1)
  obtain ⟨T2, X2, e2, st2⟩ := getS2 X1 hx hZ hown (host := "") (Or.inl (hw _ (List.mem_of_getElem? (i := 11) rfl))) Via.refl e1 (fx_S_ABORT FF) (g := (mkF m 8 #[.val (.ref a_INCREMENT)] [(.ref a_INCREMENT)])) rfl (hb hby d1_8)
  obtain ⟨fs, hr, hrun, hended, hW, hsame⟩ := X2.leave (v := some (.int (0 : Int32))) (fun h => by rw [Bd.returns] at h; cases h)
  refine ⟨_, _, pre0 _ ?_, hrun, hended, _, _, rfl, ?_, ⟨_, rfl⟩, hW, hsame.mono (by decide) (by decide)⟩
  · show Steps p.tables e below (s₁.setTop (mkF m 0 #[.val (.ref a_INCREMENT)] [])) _
    refine XS.aloadN X0.here hx rfl (hb hby d1_0) rfl rfl ?_
    show Steps p.tables e below (s₁.setTop (mkF m 1 #[.val (.ref a_INCREMENT)] [(.ref a_INCREMENT)])) _
    refine st1 _ ?_
    show Steps p.tables e below (T1.setTop (mkF m 4 #[.val (.ref a_INCREMENT)] [(.ref a_COMMIT), (.ref a_INCREMENT)])) _
    refine Jvm.RoadKit.acmp (g := (mkF m 4 #[.val (.ref a_INCREMENT)] [(.ref a_COMMIT), (.ref a_INCREMENT)])) X1 hx rfl rfl rfl (pc0 := 4) (pc' := 7) (same := false) rfl (hb hby d1_4) rfl (decide_eq_false fun q => Fld.ne (fx_F_INCREMENT_ordinal FF) (fx_F_COMMIT_ordinal FF) (by decide) (Value.ref.inj q)) (by decide) (by decide) ?_
    show Steps p.tables e below (T1.setTop (mkF m 7 #[.val (.ref a_INCREMENT)] [])) _
    refine XS.aloadN X1.here hx rfl (hb hby d1_7) rfl rfl ?_
    show Steps p.tables e below (T1.setTop (mkF m 8 #[.val (.ref a_INCREMENT)] [(.ref a_INCREMENT)])) _
    refine st2 _ ?_
    show Steps p.tables e below (T2.setTop (mkF m 11 #[.val (.ref a_INCREMENT)] [(.ref a_ABORT), (.ref a_INCREMENT)])) _
    refine Jvm.RoadKit.acmp (g := (mkF m 11 #[.val (.ref a_INCREMENT)] [(.ref a_ABORT), (.ref a_INCREMENT)])) X2 hx rfl rfl rfl (pc0 := 11) (pc' := 18) (same := false) rfl (hb hby d1_11) rfl (decide_eq_false fun q => Fld.ne (fx_F_INCREMENT_ordinal FF) (fx_F_ABORT_ordinal FF) (by decide) (Value.ref.inj q)) (by decide) (by decide) ?_
    show Steps p.tables e below (T2.setTop (mkF m 18 #[.val (.ref a_INCREMENT)] [])) _
    refine XS.iconst X2.here hx rfl (hb hby d1_18) ?_
    show Steps p.tables e below (T2.setTop (mkF m 19 #[.val (.ref a_INCREMENT)] [(.int (0 : Int32))])) _
    exact retN X2 hx (t := .boolean) Bd.returns (by simp) (hb hby d1_19) hr
  · show own_Q _ _ _ _ T2.heap _
    exact ⟨rfl, N0, e2⟩
set_option maxRecDepth 65536 in
set_option maxHeartbeats 40000000 in
theorem rm2_2 (l : Launch) (Z : State) (a0 : Array Value) (hw : ∀ d ∈ tables_1, d.before a0 Z = true) (ws : List Jvm.Cond) (p0 : Int32) (a_READ a_COMMIT a_ABORT a_WRITE a_INCREMENT : Addr) (h0 : Heap) (n0 : Nat) (Z0 : n0 ≤ h0.size) (FF : Facts Z h0 a_READ a_COMMIT a_ABORT a_WRITE a_INCREMENT) :
    MetFree l (⟨"com/example/schedulock/schedulock/schedule/OperationKind", "takesItem", "()Z"⟩ : MethodName) (head1 (Jvm.Cond.code (⟨"com/example/schedulock/schedulock/schedule/OperationKind", "takesItem", "()Z"⟩ : MethodName) prog_31_method_4_code 1 (some .boolean) :: ws) ({ frames := 0, cells := 0, slots := 0, locals := 0 } : Room)) (fun a U => a = #[(.ref a_INCREMENT)] ∧ Z.Warmed39 U.vm ∧ U.heap = h0) (fun _ _ _ _ _ => True) (fun _ U o U' => ∃ v L, o = .returned v ∧ own_Q (.int (1 : Int32)) h0 n0 v U'.heap L ∧ FrameEnd U o U' L ({ frames := 0, cells := 0, slots := 0, locals := 0 } : Room).cells ({ frames := 0, cells := 0, slots := 0, locals := 0 } : Room).slots) := by
  refine MetFree.of_bodySF (plainFor_of_name pn_2) hisR ?_
  intro p e s m args below meth c s₁ Bd hml0 hP hK
  obtain ⟨rfl, hZ, hh⟩ := hP
  have hx := Bd.exec
  have hby := Bd.bytes
  have hml : c.maxLocals = 1 := hml0
  have hown : s.vm.findClass "com/example/schedulock/schedulock/schedule/OperationKind" = some m.cls := findClass_of_methodNamed Bd.named
  have X0 : Stand p l e ({ frames := 0, cells := 0, slots := 0, locals := 0 } : Room) s m #[(.ref a_INCREMENT)] below meth c s₁ [] 0 0 := Stand.of_body Bd
  have e0 : s₁.heap = h0 := by rw [← hh, Bd.state]; rfl
  have N0 := Fr.nil n0
  have pre0 : ∀ t, Steps p.tables e below (s₁.setTop (mkF m 0 #[.val (.ref a_INCREMENT)] [])) t → Steps p.tables e below (s₁.setTop (entryFrame m #[(.ref a_INCREMENT)] 1)) t := fun t k => castTop (ef_2 m a_INCREMENT) k
  obtain ⟨T1, X1, e1, st1⟩ := getF X0 hx hZ hown (host := "") (Or.inl (hw _ (List.mem_of_getElem? (i := 18) rfl))) Via.refl e0 (fx_F_INCREMENT_takesItem FF) (g := (mkF m 1 #[.val (.ref a_INCREMENT)] [(.ref a_INCREMENT)])) rfl rfl (hb hby d2_1)
  obtain ⟨fs, hr, hrun, hended, hW, hsame⟩ := X1.leave (v := some (.int (1 : Int32))) (fun h => by rw [Bd.returns] at h; cases h)
  refine ⟨_, _, pre0 _ ?_, hrun, hended, _, _, rfl, ?_, ⟨_, rfl⟩, hW, hsame.mono (by decide) (by decide)⟩
  · show Steps p.tables e below (s₁.setTop (mkF m 0 #[.val (.ref a_INCREMENT)] [])) _
    refine XS.aloadN X0.here hx rfl (hb hby d2_0) rfl rfl ?_
    show Steps p.tables e below (s₁.setTop (mkF m 1 #[.val (.ref a_INCREMENT)] [(.ref a_INCREMENT)])) _
    refine st1 _ ?_
    show Steps p.tables e below (T1.setTop (mkF m 4 #[.val (.ref a_INCREMENT)] [(.int (1 : Int32))])) _
    exact retN X1 hx (t := .boolean) Bd.returns (by simp) (hb hby d2_4) hr
  · show own_Q _ _ _ _ T1.heap _
    exact ⟨rfl, N0, e1⟩
set_option maxRecDepth 65536 in
set_option maxHeartbeats 40000000 in
theorem rm0_2 (l : Launch) (Z : State) (a0 : Array Value) (hw : ∀ d ∈ tables_1, d.before a0 Z = true) (ws : List Jvm.Cond) (p0 : Int32) (a_READ a_COMMIT a_ABORT a_WRITE a_INCREMENT : Addr) (h0 : Heap) (n0 : Nat) (Z0 : n0 ≤ h0.size) (FF : Facts Z h0 a_READ a_COMMIT a_ABORT a_WRITE a_INCREMENT) (hk0 : ((p0 &&& (2147483647 : Int32)) % (5 : Int32)) = (2 : Int32)) :
    MetFree l x (head1 (Jvm.Cond.code x code maxLocals ret :: ws) room_1) (fun a U => a = #[(.int p0)] ∧ Z.Warmed39 U.vm ∧ U.heap = h0) (fun _ _ _ _ _ => True) (fun _ U o U' => ∃ v L, o = .returned v ∧ (v = some (.int (1 : Int32)) ∧ Fr n0 L) ∧ FrameEnd U o U' L room_1.cells room_1.slots) := by
  refine MetFree.of_bodySF (plainFor_of_name pn_0) hisR ?_
  intro p e s m args below meth c s₁ Bd hml0 hP hK
  obtain ⟨rfl, hZ, hh⟩ := hP
  have hx := Bd.exec
  have hby := Bd.bytes
  have hml : c.maxLocals = 5 := hml0
  have hown : s.vm.findClass "com/example/schedulock/schedulock/schedule/OperationKindEndsTransactionPinLaw" = some m.cls := findClass_of_methodNamed Bd.named
  have X0 : Stand p l e room_1 s m #[(.int p0)] below meth c s₁ [] 0 0 := Stand.of_body Bd
  have e0 : s₁.heap = h0 := by rw [← hh, Bd.state]; rfl
  have N0 := Fr.nil n0
  have pre0 : ∀ t, Steps p.tables e below (s₁.setTop (mkF m 0 #[.val (.int p0), .unset, .unset, .unset, .unset] [])) t → Steps p.tables e below (s₁.setTop (entryFrame m #[(.int p0)] maxLocals)) t := fun t k => castTop (ef_0 m p0) k
  obtain ⟨T1, X1, e1, st1⟩ := getS2 X0 hx hZ hown (host := "") (Or.inl (hw _ (List.mem_of_getElem? (i := 24) rfl))) Via.refl e0 (fx_S_INCREMENT FF) (g := (mkF m 39 #[.val (.int p0), .val (.int (2 : Int32)), .unset, .unset, .unset] [])) rfl (hb hby at_39)
  obtain ⟨cq2, kq2, q2a, q2b, q2c⟩ := isOf hZ e1 (fx_E_INCREMENT FF)
  obtain ⟨_, _, ⟨T2, L2, k2, n2⟩, -, X2, ⟨Lc2, hQ2, l2, y2, z2⟩, st2⟩ := X1.virtualBack hx (y := (⟨"com/example/schedulock/schedulock/schedule/OperationKind", "endsTransaction", "()Z"⟩ : MethodName)) (z := (⟨"com/example/schedulock/schedulock/schedule/OperationKind", "endsTransaction", "()Z"⟩ : MethodName)) hown (mvT hZ (hw _ (List.mem_of_getElem? (i := 4) rfl))) (mvT hZ (hw _ (List.mem_of_getElem? (i := 5) rfl))) (notFace_of_selects (args := #[]) (mvT hZ (hw _ (List.mem_of_getElem? (i := 7) rfl)))) (mvT hZ (hw _ (List.mem_of_getElem? (i := 7) rfl))) (mvT hZ (hw _ (List.mem_of_getElem? (i := 6) rfl))) (by decide) (backOf (W := 0) (rm1_2 l Z a0 hw [] p0 a_READ a_COMMIT a_ABORT a_WRITE a_INCREMENT h0 n0 (Nat.le_trans Z0 (Nat.le_refl _)) FF) hZ (hw _ (List.mem_of_getElem? (i := 8) rfl)) (hw _ (List.mem_of_getElem? (i := 2) rfl)) (by decide) (by decide)) q2a q2c (g := (mkF m 69 #[.val (.int p0), .val (.int (2 : Int32)), .val (.ref a_INCREMENT), .val (.int (0 : Int32)), .unset] [(.ref a_INCREMENT)])) rfl (by rw [hml]; rfl) (Steps.refl _) (argsL := []) (rest := []) (lenOf pd_0 rfl) rfl (by show 2 * 0 + _ ≤ _; exact Nat.le_of_eq rfl) (hb hby at_69) (fun _ _ => ⟨rfl, e1, (by decide : 0 + 0 ≤ _), (by decide : 0 + 0 ≤ _)⟩)
  dsimp only [Pt.U, Pt.locs, Pt.cells, Pt.slots] at X2 l2 y2 z2 st2 hQ2
  subst l2 y2 z2
  obtain ⟨rfl, N2q, e2⟩ := hQ2
  have N2 := Fr.app N0 N2q
  obtain ⟨cq3, kq3, q3a, q3b, q3c⟩ := isOf hZ e2 (fx_E_INCREMENT FF)
  obtain ⟨_, _, ⟨T3, L3, k3, n3⟩, -, X3, ⟨Lc3, hQ3, l3, y3, z3⟩, st3⟩ := X2.virtualBack hx (y := (⟨"com/example/schedulock/schedulock/schedule/OperationKind", "takesItem", "()Z"⟩ : MethodName)) (z := (⟨"com/example/schedulock/schedulock/schedule/OperationKind", "takesItem", "()Z"⟩ : MethodName)) hown (mvT hZ (hw _ (List.mem_of_getElem? (i := 13) rfl))) (mvT hZ (hw _ (List.mem_of_getElem? (i := 14) rfl))) (notFace_of_selects (args := #[]) (mvT hZ (hw _ (List.mem_of_getElem? (i := 16) rfl)))) (mvT hZ (hw _ (List.mem_of_getElem? (i := 16) rfl))) (mvT hZ (hw _ (List.mem_of_getElem? (i := 15) rfl))) (by decide) (backOf (W := 1) (rm2_2 l Z a0 hw [] p0 a_READ a_COMMIT a_ABORT a_WRITE a_INCREMENT h0 n0 (Nat.le_trans Z0 (Nat.le_refl _)) FF) hZ (hw _ (List.mem_of_getElem? (i := 17) rfl)) (hw _ (List.mem_of_getElem? (i := 2) rfl)) (by decide) (by decide)) q3a q3c (g := (mkF m 83 #[.val (.int p0), .val (.int (2 : Int32)), .val (.ref a_INCREMENT), .val (.int (0 : Int32)), .val (.int (0 : Int32))] [(.ref a_INCREMENT), (.int (0 : Int32))])) rfl (by rw [hml]; rfl) (Steps.refl _) (argsL := []) (rest := [(.int (0 : Int32))]) (lenOf pd_0 rfl) rfl (by show 2 * 0 + _ ≤ _; exact Nat.le_of_eq rfl) (hb hby at_83) (fun _ _ => ⟨rfl, e2, (by decide : 0 + 0 ≤ _), (by decide : 0 + 0 ≤ _)⟩)
  dsimp only [Pt.U, Pt.locs, Pt.cells, Pt.slots] at X3 l3 y3 z3 st3 hQ3
  subst l3 y3 z3
  obtain ⟨rfl, N3q, e3⟩ := hQ3
  have N3 := Fr.app N2 N3q
  obtain ⟨fs, hr, hrun, hended, hW, hsame⟩ := X3.leave (v := some (.int (1 : Int32))) (fun h => by rw [Bd.returns] at h; cases h)
  refine ⟨_, _, pre0 _ ?_, hrun, hended, _, _, rfl, ?_, ⟨_, rfl⟩, hW, hsame.mono (by decide) (by decide)⟩
  · show Steps p.tables e below (s₁.setTop (mkF m 0 #[.val (.int p0), .unset, .unset, .unset, .unset] [])) _
    refine XS.iloadN X0.here hx rfl (hb hby at_0) rfl ?_
    show Steps p.tables e below (s₁.setTop (mkF m 1 #[.val (.int p0), .unset, .unset, .unset, .unset] [(.int p0)])) _
    refine X0.ldcInt hx hown (mvT hZ (hw _ (List.mem_of_getElem? (i := 0) rfl))) (g := (mkF m 1 #[.val (.int p0), .unset, .unset, .unset, .unset] [(.int p0)])) rfl (hb hby at_1) _ ?_
    show Steps p.tables e below (s₁.setTop (mkF m 3 #[.val (.int p0), .unset, .unset, .unset, .unset] [(.int (2147483647 : Int32)), (.int p0)])) _
    refine XS.iand X0.here hx rfl (hb hby at_3) rfl ?_
    show Steps p.tables e below (s₁.setTop (mkF m 4 #[.val (.int p0), .unset, .unset, .unset, .unset] [(.int (p0 &&& (2147483647 : Int32)))])) _
    refine XS.iconst X0.here hx rfl (hb hby at_4) ?_
    show Steps p.tables e below (s₁.setTop (mkF m 5 #[.val (.int p0), .unset, .unset, .unset, .unset] [(.int (5 : Int32)), (.int (p0 &&& (2147483647 : Int32)))])) _
    refine iremM X0 hx rfl (hb hby at_5) rfl (by decide) ?_
    show Steps p.tables e below (s₁.setTop (mkF m 6 #[.val (.int p0), .unset, .unset, .unset, .unset] [(.int ((p0 &&& (2147483647 : Int32)) % (5 : Int32)))])) _
    rw [hk0]
    show Steps p.tables e below (s₁.setTop (mkF m 6 #[.val (.int p0), .unset, .unset, .unset, .unset] [(.int (2 : Int32))])) _
    refine XS.istoreN X0.here hx rfl (hb hby at_6) rfl (l' := #[.val (.int p0), .val (.int (2 : Int32)), .unset, .unset, .unset]) rfl ?_
    show Steps p.tables e below (s₁.setTop (mkF m 7 #[.val (.int p0), .val (.int (2 : Int32)), .unset, .unset, .unset] [])) _
    refine XS.iloadN X0.here hx rfl (hb hby at_7) rfl ?_
    show Steps p.tables e below (s₁.setTop (mkF m 8 #[.val (.int p0), .val (.int (2 : Int32)), .unset, .unset, .unset] [(.int (2 : Int32))])) _
    refine XS.ifYes X0.here hx rfl (pc0 := 8) (pc' := 20) rfl (hb hby at_8) rfl (by decide) (by decide) (by decide) ?_
    show Steps p.tables e below (s₁.setTop (mkF m 20 #[.val (.int p0), .val (.int (2 : Int32)), .unset, .unset, .unset] [])) _
    refine XS.iloadN X0.here hx rfl (hb hby at_20) rfl ?_
    show Steps p.tables e below (s₁.setTop (mkF m 21 #[.val (.int p0), .val (.int (2 : Int32)), .unset, .unset, .unset] [(.int (2 : Int32))])) _
    refine XS.iconst X0.here hx rfl (hb hby at_21) ?_
    show Steps p.tables e below (s₁.setTop (mkF m 22 #[.val (.int p0), .val (.int (2 : Int32)), .unset, .unset, .unset] [(.int (1 : Int32)), (.int (2 : Int32))])) _
    refine XS.icmpYes X0.here hx rfl (pc0 := 22) (pc' := 34) rfl (hb hby at_22) rfl (by decide) (by decide) (by decide) ?_
    show Steps p.tables e below (s₁.setTop (mkF m 34 #[.val (.int p0), .val (.int (2 : Int32)), .unset, .unset, .unset] [])) _
    refine XS.iloadN X0.here hx rfl (hb hby at_34) rfl ?_
    show Steps p.tables e below (s₁.setTop (mkF m 35 #[.val (.int p0), .val (.int (2 : Int32)), .unset, .unset, .unset] [(.int (2 : Int32))])) _
    refine XS.iconst X0.here hx rfl (hb hby at_35) ?_
    show Steps p.tables e below (s₁.setTop (mkF m 36 #[.val (.int p0), .val (.int (2 : Int32)), .unset, .unset, .unset] [(.int (2 : Int32)), (.int (2 : Int32))])) _
    refine XS.icmpNo X0.here hx rfl (hb hby at_36) rfl (by decide) ?_
    show Steps p.tables e below (s₁.setTop (mkF m 39 #[.val (.int p0), .val (.int (2 : Int32)), .unset, .unset, .unset] [])) _
    refine st1 _ ?_
    show Steps p.tables e below (T1.setTop (mkF m 42 #[.val (.int p0), .val (.int (2 : Int32)), .unset, .unset, .unset] [(.ref a_INCREMENT)])) _
    refine XS.astoreN X1.here hx rfl (hb hby at_42) rfl rfl (l' := #[.val (.int p0), .val (.int (2 : Int32)), .val (.ref a_INCREMENT), .unset, .unset]) rfl ?_
    show Steps p.tables e below (T1.setTop (mkF m 43 #[.val (.int p0), .val (.int (2 : Int32)), .val (.ref a_INCREMENT), .unset, .unset] [])) _
    refine XS.iconst X1.here hx rfl (hb hby at_43) ?_
    show Steps p.tables e below (T1.setTop (mkF m 44 #[.val (.int p0), .val (.int (2 : Int32)), .val (.ref a_INCREMENT), .unset, .unset] [(.int (0 : Int32))])) _
    refine XS.istoreN X1.here hx rfl (hb hby at_44) rfl (l' := #[.val (.int p0), .val (.int (2 : Int32)), .val (.ref a_INCREMENT), .val (.int (0 : Int32)), .unset]) rfl ?_
    show Steps p.tables e below (T1.setTop (mkF m 45 #[.val (.int p0), .val (.int (2 : Int32)), .val (.ref a_INCREMENT), .val (.int (0 : Int32)), .unset] [])) _
    refine XS.goto X1.here hx rfl (pc0 := 45) (pc' := 68) rfl (hb hby at_45) (by decide) (by decide) ?_
    show Steps p.tables e below (T1.setTop (mkF m 68 #[.val (.int p0), .val (.int (2 : Int32)), .val (.ref a_INCREMENT), .val (.int (0 : Int32)), .unset] [])) _
    refine XS.aloadN X1.here hx rfl (hb hby at_68) rfl rfl ?_
    show Steps p.tables e below (T1.setTop (mkF m 69 #[.val (.int p0), .val (.int (2 : Int32)), .val (.ref a_INCREMENT), .val (.int (0 : Int32)), .unset] [(.ref a_INCREMENT)])) _
    refine st2.trans ?_
    show Steps p.tables e below (T2.setTop (mkF m 72 #[.val (.int p0), .val (.int (2 : Int32)), .val (.ref a_INCREMENT), .val (.int (0 : Int32)), .unset] [(.int (0 : Int32))])) _
    refine XS.istore X2.here hx rfl (hb hby at_72) rfl (l' := #[.val (.int p0), .val (.int (2 : Int32)), .val (.ref a_INCREMENT), .val (.int (0 : Int32)), .val (.int (0 : Int32))]) rfl ?_
    show Steps p.tables e below (T2.setTop (mkF m 74 #[.val (.int p0), .val (.int (2 : Int32)), .val (.ref a_INCREMENT), .val (.int (0 : Int32)), .val (.int (0 : Int32))] [])) _
    refine XS.iload X2.here hx rfl (hb hby at_74) rfl ?_
    show Steps p.tables e below (T2.setTop (mkF m 76 #[.val (.int p0), .val (.int (2 : Int32)), .val (.ref a_INCREMENT), .val (.int (0 : Int32)), .val (.int (0 : Int32))] [(.int (0 : Int32))])) _
    refine XS.iloadN X2.here hx rfl (hb hby at_76) rfl ?_
    show Steps p.tables e below (T2.setTop (mkF m 77 #[.val (.int p0), .val (.int (2 : Int32)), .val (.ref a_INCREMENT), .val (.int (0 : Int32)), .val (.int (0 : Int32))] [(.int (0 : Int32)), (.int (0 : Int32))])) _
    refine XS.icmpNo X2.here hx rfl (hb hby at_77) rfl (by decide) ?_
    show Steps p.tables e below (T2.setTop (mkF m 80 #[.val (.int p0), .val (.int (2 : Int32)), .val (.ref a_INCREMENT), .val (.int (0 : Int32)), .val (.int (0 : Int32))] [])) _
    refine XS.iload X2.here hx rfl (hb hby at_80) rfl ?_
    show Steps p.tables e below (T2.setTop (mkF m 82 #[.val (.int p0), .val (.int (2 : Int32)), .val (.ref a_INCREMENT), .val (.int (0 : Int32)), .val (.int (0 : Int32))] [(.int (0 : Int32))])) _
    refine XS.aloadN X2.here hx rfl (hb hby at_82) rfl rfl ?_
    show Steps p.tables e below (T2.setTop (mkF m 83 #[.val (.int p0), .val (.int (2 : Int32)), .val (.ref a_INCREMENT), .val (.int (0 : Int32)), .val (.int (0 : Int32))] [(.ref a_INCREMENT), (.int (0 : Int32))])) _
    refine st3.trans ?_
    show Steps p.tables e below (T3.setTop (mkF m 86 #[.val (.int p0), .val (.int (2 : Int32)), .val (.ref a_INCREMENT), .val (.int (0 : Int32)), .val (.int (0 : Int32))] [(.int (1 : Int32)), (.int (0 : Int32))])) _
    refine XS.ifYes X3.here hx rfl (pc0 := 86) (pc' := 93) rfl (hb hby at_86) rfl (by decide) (by decide) (by decide) ?_
    show Steps p.tables e below (T3.setTop (mkF m 93 #[.val (.int p0), .val (.int (2 : Int32)), .val (.ref a_INCREMENT), .val (.int (0 : Int32)), .val (.int (0 : Int32))] [(.int (0 : Int32))])) _
    refine XS.iconst X3.here hx rfl (hb hby at_93) ?_
    show Steps p.tables e below (T3.setTop (mkF m 94 #[.val (.int p0), .val (.int (2 : Int32)), .val (.ref a_INCREMENT), .val (.int (0 : Int32)), .val (.int (0 : Int32))] [(.int (0 : Int32)), (.int (0 : Int32))])) _
    refine XS.icmpNo X3.here hx rfl (hb hby at_94) rfl (by decide) ?_
    show Steps p.tables e below (T3.setTop (mkF m 97 #[.val (.int p0), .val (.int (2 : Int32)), .val (.ref a_INCREMENT), .val (.int (0 : Int32)), .val (.int (0 : Int32))] [])) _
    refine XS.iconst X3.here hx rfl (hb hby at_97) ?_
    show Steps p.tables e below (T3.setTop (mkF m 98 #[.val (.int p0), .val (.int (2 : Int32)), .val (.ref a_INCREMENT), .val (.int (0 : Int32)), .val (.int (0 : Int32))] [(.int (1 : Int32))])) _
    refine XS.goto X3.here hx rfl (pc0 := 98) (pc' := 102) rfl (hb hby at_98) (by decide) (by decide) ?_
    show Steps p.tables e below (T3.setTop (mkF m 102 #[.val (.int p0), .val (.int (2 : Int32)), .val (.ref a_INCREMENT), .val (.int (0 : Int32)), .val (.int (0 : Int32))] [(.int (1 : Int32))])) _
    exact retN X3 hx (t := .boolean) Bd.returns (by simp) (hb hby at_102) hr
  · exact ⟨rfl, N3⟩
set_option maxRecDepth 65536 in
set_option maxHeartbeats 40000000 in
theorem rm1_3 (l : Launch) (Z : State) (a0 : Array Value) (hw : ∀ d ∈ tables_1, d.before a0 Z = true) (ws : List Jvm.Cond) (p0 : Int32) (a_READ a_COMMIT a_ABORT a_WRITE a_INCREMENT : Addr) (h0 : Heap) (n0 : Nat) (Z0 : n0 ≤ h0.size) (FF : Facts Z h0 a_READ a_COMMIT a_ABORT a_WRITE a_INCREMENT) :
    MetFree l (⟨"com/example/schedulock/schedulock/schedule/OperationKind", "endsTransaction", "()Z"⟩ : MethodName) (head1 (Jvm.Cond.code (⟨"com/example/schedulock/schedulock/schedule/OperationKind", "endsTransaction", "()Z"⟩ : MethodName) prog_31_method_6_code 1 (some .boolean) :: ws) ({ frames := 0, cells := 0, slots := 0, locals := 0 } : Room)) (fun a U => a = #[(.ref a_COMMIT)] ∧ Z.Warmed39 U.vm ∧ U.heap = h0) (fun _ _ _ _ _ => True) (fun _ U o U' => ∃ v L, o = .returned v ∧ own_Q (.int (1 : Int32)) h0 n0 v U'.heap L ∧ FrameEnd U o U' L ({ frames := 0, cells := 0, slots := 0, locals := 0 } : Room).cells ({ frames := 0, cells := 0, slots := 0, locals := 0 } : Room).slots) := by
  refine MetFree.of_bodySF (plainFor_of_name pn_1) hisR ?_
  intro p e s m args below meth c s₁ Bd hml0 hP hK
  obtain ⟨rfl, hZ, hh⟩ := hP
  have hx := Bd.exec
  have hby := Bd.bytes
  have hml : c.maxLocals = 1 := hml0
  have hown : s.vm.findClass "com/example/schedulock/schedulock/schedule/OperationKind" = some m.cls := findClass_of_methodNamed Bd.named
  have X0 : Stand p l e ({ frames := 0, cells := 0, slots := 0, locals := 0 } : Room) s m #[(.ref a_COMMIT)] below meth c s₁ [] 0 0 := Stand.of_body Bd
  have e0 : s₁.heap = h0 := by rw [← hh, Bd.state]; rfl
  have N0 := Fr.nil n0
  have pre0 : ∀ t, Steps p.tables e below (s₁.setTop (mkF m 0 #[.val (.ref a_COMMIT)] [])) t → Steps p.tables e below (s₁.setTop (entryFrame m #[(.ref a_COMMIT)] 1)) t := fun t k => castTop (ef_1 m a_COMMIT) k
  obtain ⟨T1, X1, e1, st1⟩ := getS2 X0 hx hZ hown (host := "") (Or.inl (hw _ (List.mem_of_getElem? (i := 9) rfl))) Via.refl e0 (fx_S_COMMIT FF) (g := (mkF m 1 #[.val (.ref a_COMMIT)] [(.ref a_COMMIT)])) rfl (hb hby d1_1)
  obtain ⟨fs, hr, hrun, hended, hW, hsame⟩ := X1.leave (v := some (.int (1 : Int32))) (fun h => by rw [Bd.returns] at h; cases h)
  refine ⟨_, _, pre0 _ ?_, hrun, hended, _, _, rfl, ?_, ⟨_, rfl⟩, hW, hsame.mono (by decide) (by decide)⟩
  · show Steps p.tables e below (s₁.setTop (mkF m 0 #[.val (.ref a_COMMIT)] [])) _
    refine XS.aloadN X0.here hx rfl (hb hby d1_0) rfl rfl ?_
    show Steps p.tables e below (s₁.setTop (mkF m 1 #[.val (.ref a_COMMIT)] [(.ref a_COMMIT)])) _
    refine st1 _ ?_
    show Steps p.tables e below (T1.setTop (mkF m 4 #[.val (.ref a_COMMIT)] [(.ref a_COMMIT), (.ref a_COMMIT)])) _
    refine Jvm.RoadKit.acmp (g := (mkF m 4 #[.val (.ref a_COMMIT)] [(.ref a_COMMIT), (.ref a_COMMIT)])) X1 hx rfl rfl rfl (pc0 := 4) (pc' := 14) (same := true) rfl (hb hby d1_4) rfl (decide_eq_true rfl) (by decide) (by decide) ?_
    show Steps p.tables e below (T1.setTop (mkF m 14 #[.val (.ref a_COMMIT)] [])) _
    refine XS.iconst X1.here hx rfl (hb hby d1_14) ?_
    show Steps p.tables e below (T1.setTop (mkF m 15 #[.val (.ref a_COMMIT)] [(.int (1 : Int32))])) _
    refine XS.goto X1.here hx rfl (pc0 := 15) (pc' := 19) rfl (hb hby d1_15) (by decide) (by decide) ?_
    show Steps p.tables e below (T1.setTop (mkF m 19 #[.val (.ref a_COMMIT)] [(.int (1 : Int32))])) _
    exact retN X1 hx (t := .boolean) Bd.returns (by simp) (hb hby d1_19) hr
  · show own_Q _ _ _ _ T1.heap _
    exact ⟨rfl, N0, e1⟩
set_option maxRecDepth 65536 in
set_option maxHeartbeats 40000000 in
theorem rm2_3 (l : Launch) (Z : State) (a0 : Array Value) (hw : ∀ d ∈ tables_1, d.before a0 Z = true) (ws : List Jvm.Cond) (p0 : Int32) (a_READ a_COMMIT a_ABORT a_WRITE a_INCREMENT : Addr) (h0 : Heap) (n0 : Nat) (Z0 : n0 ≤ h0.size) (FF : Facts Z h0 a_READ a_COMMIT a_ABORT a_WRITE a_INCREMENT) :
    MetFree l (⟨"com/example/schedulock/schedulock/schedule/OperationKind", "takesItem", "()Z"⟩ : MethodName) (head1 (Jvm.Cond.code (⟨"com/example/schedulock/schedulock/schedule/OperationKind", "takesItem", "()Z"⟩ : MethodName) prog_31_method_4_code 1 (some .boolean) :: ws) ({ frames := 0, cells := 0, slots := 0, locals := 0 } : Room)) (fun a U => a = #[(.ref a_COMMIT)] ∧ Z.Warmed39 U.vm ∧ U.heap = h0) (fun _ _ _ _ _ => True) (fun _ U o U' => ∃ v L, o = .returned v ∧ own_Q (.int (0 : Int32)) h0 n0 v U'.heap L ∧ FrameEnd U o U' L ({ frames := 0, cells := 0, slots := 0, locals := 0 } : Room).cells ({ frames := 0, cells := 0, slots := 0, locals := 0 } : Room).slots) := by
  refine MetFree.of_bodySF (plainFor_of_name pn_2) hisR ?_
  intro p e s m args below meth c s₁ Bd hml0 hP hK
  obtain ⟨rfl, hZ, hh⟩ := hP
  have hx := Bd.exec
  have hby := Bd.bytes
  have hml : c.maxLocals = 1 := hml0
  have hown : s.vm.findClass "com/example/schedulock/schedulock/schedule/OperationKind" = some m.cls := findClass_of_methodNamed Bd.named
  have X0 : Stand p l e ({ frames := 0, cells := 0, slots := 0, locals := 0 } : Room) s m #[(.ref a_COMMIT)] below meth c s₁ [] 0 0 := Stand.of_body Bd
  have e0 : s₁.heap = h0 := by rw [← hh, Bd.state]; rfl
  have N0 := Fr.nil n0
  have pre0 : ∀ t, Steps p.tables e below (s₁.setTop (mkF m 0 #[.val (.ref a_COMMIT)] [])) t → Steps p.tables e below (s₁.setTop (entryFrame m #[(.ref a_COMMIT)] 1)) t := fun t k => castTop (ef_2 m a_COMMIT) k
  obtain ⟨T1, X1, e1, st1⟩ := getF X0 hx hZ hown (host := "") (Or.inl (hw _ (List.mem_of_getElem? (i := 18) rfl))) Via.refl e0 (fx_F_COMMIT_takesItem FF) (g := (mkF m 1 #[.val (.ref a_COMMIT)] [(.ref a_COMMIT)])) rfl rfl (hb hby d2_1)
  obtain ⟨fs, hr, hrun, hended, hW, hsame⟩ := X1.leave (v := some (.int (0 : Int32))) (fun h => by rw [Bd.returns] at h; cases h)
  refine ⟨_, _, pre0 _ ?_, hrun, hended, _, _, rfl, ?_, ⟨_, rfl⟩, hW, hsame.mono (by decide) (by decide)⟩
  · show Steps p.tables e below (s₁.setTop (mkF m 0 #[.val (.ref a_COMMIT)] [])) _
    refine XS.aloadN X0.here hx rfl (hb hby d2_0) rfl rfl ?_
    show Steps p.tables e below (s₁.setTop (mkF m 1 #[.val (.ref a_COMMIT)] [(.ref a_COMMIT)])) _
    refine st1 _ ?_
    show Steps p.tables e below (T1.setTop (mkF m 4 #[.val (.ref a_COMMIT)] [(.int (0 : Int32))])) _
    exact retN X1 hx (t := .boolean) Bd.returns (by simp) (hb hby d2_4) hr
  · show own_Q _ _ _ _ T1.heap _
    exact ⟨rfl, N0, e1⟩
set_option maxRecDepth 65536 in
set_option maxHeartbeats 40000000 in
theorem rm0_3 (l : Launch) (Z : State) (a0 : Array Value) (hw : ∀ d ∈ tables_1, d.before a0 Z = true) (ws : List Jvm.Cond) (p0 : Int32) (a_READ a_COMMIT a_ABORT a_WRITE a_INCREMENT : Addr) (h0 : Heap) (n0 : Nat) (Z0 : n0 ≤ h0.size) (FF : Facts Z h0 a_READ a_COMMIT a_ABORT a_WRITE a_INCREMENT) (hk0 : ((p0 &&& (2147483647 : Int32)) % (5 : Int32)) = (3 : Int32)) :
    MetFree l x (head1 (Jvm.Cond.code x code maxLocals ret :: ws) room_1) (fun a U => a = #[(.int p0)] ∧ Z.Warmed39 U.vm ∧ U.heap = h0) (fun _ _ _ _ _ => True) (fun _ U o U' => ∃ v L, o = .returned v ∧ (v = some (.int (1 : Int32)) ∧ Fr n0 L) ∧ FrameEnd U o U' L room_1.cells room_1.slots) := by
  refine MetFree.of_bodySF (plainFor_of_name pn_0) hisR ?_
  intro p e s m args below meth c s₁ Bd hml0 hP hK
  obtain ⟨rfl, hZ, hh⟩ := hP
  have hx := Bd.exec
  have hby := Bd.bytes
  have hml : c.maxLocals = 5 := hml0
  have hown : s.vm.findClass "com/example/schedulock/schedulock/schedule/OperationKindEndsTransactionPinLaw" = some m.cls := findClass_of_methodNamed Bd.named
  have X0 : Stand p l e room_1 s m #[(.int p0)] below meth c s₁ [] 0 0 := Stand.of_body Bd
  have e0 : s₁.heap = h0 := by rw [← hh, Bd.state]; rfl
  have N0 := Fr.nil n0
  have pre0 : ∀ t, Steps p.tables e below (s₁.setTop (mkF m 0 #[.val (.int p0), .unset, .unset, .unset, .unset] [])) t → Steps p.tables e below (s₁.setTop (entryFrame m #[(.int p0)] maxLocals)) t := fun t k => castTop (ef_0 m p0) k
  obtain ⟨T1, X1, e1, st1⟩ := getS2 X0 hx hZ hown (host := "") (Or.inl (hw _ (List.mem_of_getElem? (i := 20) rfl))) Via.refl e0 (fx_S_COMMIT FF) (g := (mkF m 53 #[.val (.int p0), .val (.int (3 : Int32)), .unset, .unset, .unset] [])) rfl (hb hby at_53)
  obtain ⟨cq2, kq2, q2a, q2b, q2c⟩ := isOf hZ e1 (fx_E_COMMIT FF)
  obtain ⟨_, _, ⟨T2, L2, k2, n2⟩, -, X2, ⟨Lc2, hQ2, l2, y2, z2⟩, st2⟩ := X1.virtualBack hx (y := (⟨"com/example/schedulock/schedulock/schedule/OperationKind", "endsTransaction", "()Z"⟩ : MethodName)) (z := (⟨"com/example/schedulock/schedulock/schedule/OperationKind", "endsTransaction", "()Z"⟩ : MethodName)) hown (mvT hZ (hw _ (List.mem_of_getElem? (i := 4) rfl))) (mvT hZ (hw _ (List.mem_of_getElem? (i := 5) rfl))) (notFace_of_selects (args := #[]) (mvT hZ (hw _ (List.mem_of_getElem? (i := 7) rfl)))) (mvT hZ (hw _ (List.mem_of_getElem? (i := 7) rfl))) (mvT hZ (hw _ (List.mem_of_getElem? (i := 6) rfl))) (by decide) (backOf (W := 0) (rm1_3 l Z a0 hw [] p0 a_READ a_COMMIT a_ABORT a_WRITE a_INCREMENT h0 n0 (Nat.le_trans Z0 (Nat.le_refl _)) FF) hZ (hw _ (List.mem_of_getElem? (i := 8) rfl)) (hw _ (List.mem_of_getElem? (i := 2) rfl)) (by decide) (by decide)) q2a q2c (g := (mkF m 69 #[.val (.int p0), .val (.int (3 : Int32)), .val (.ref a_COMMIT), .val (.int (1 : Int32)), .unset] [(.ref a_COMMIT)])) rfl (by rw [hml]; rfl) (Steps.refl _) (argsL := []) (rest := []) (lenOf pd_0 rfl) rfl (by show 2 * 0 + _ ≤ _; exact Nat.le_of_eq rfl) (hb hby at_69) (fun _ _ => ⟨rfl, e1, (by decide : 0 + 0 ≤ _), (by decide : 0 + 0 ≤ _)⟩)
  dsimp only [Pt.U, Pt.locs, Pt.cells, Pt.slots] at X2 l2 y2 z2 st2 hQ2
  subst l2 y2 z2
  obtain ⟨rfl, N2q, e2⟩ := hQ2
  have N2 := Fr.app N0 N2q
  obtain ⟨cq3, kq3, q3a, q3b, q3c⟩ := isOf hZ e2 (fx_E_COMMIT FF)
  obtain ⟨_, _, ⟨T3, L3, k3, n3⟩, -, X3, ⟨Lc3, hQ3, l3, y3, z3⟩, st3⟩ := X2.virtualBack hx (y := (⟨"com/example/schedulock/schedulock/schedule/OperationKind", "takesItem", "()Z"⟩ : MethodName)) (z := (⟨"com/example/schedulock/schedulock/schedule/OperationKind", "takesItem", "()Z"⟩ : MethodName)) hown (mvT hZ (hw _ (List.mem_of_getElem? (i := 13) rfl))) (mvT hZ (hw _ (List.mem_of_getElem? (i := 14) rfl))) (notFace_of_selects (args := #[]) (mvT hZ (hw _ (List.mem_of_getElem? (i := 16) rfl)))) (mvT hZ (hw _ (List.mem_of_getElem? (i := 16) rfl))) (mvT hZ (hw _ (List.mem_of_getElem? (i := 15) rfl))) (by decide) (backOf (W := 1) (rm2_3 l Z a0 hw [] p0 a_READ a_COMMIT a_ABORT a_WRITE a_INCREMENT h0 n0 (Nat.le_trans Z0 (Nat.le_refl _)) FF) hZ (hw _ (List.mem_of_getElem? (i := 17) rfl)) (hw _ (List.mem_of_getElem? (i := 2) rfl)) (by decide) (by decide)) q3a q3c (g := (mkF m 83 #[.val (.int p0), .val (.int (3 : Int32)), .val (.ref a_COMMIT), .val (.int (1 : Int32)), .val (.int (1 : Int32))] [(.ref a_COMMIT), (.int (1 : Int32))])) rfl (by rw [hml]; rfl) (Steps.refl _) (argsL := []) (rest := [(.int (1 : Int32))]) (lenOf pd_0 rfl) rfl (by show 2 * 0 + _ ≤ _; exact Nat.le_of_eq rfl) (hb hby at_83) (fun _ _ => ⟨rfl, e2, (by decide : 0 + 0 ≤ _), (by decide : 0 + 0 ≤ _)⟩)
  dsimp only [Pt.U, Pt.locs, Pt.cells, Pt.slots] at X3 l3 y3 z3 st3 hQ3
  subst l3 y3 z3
  obtain ⟨rfl, N3q, e3⟩ := hQ3
  have N3 := Fr.app N2 N3q
  obtain ⟨fs, hr, hrun, hended, hW, hsame⟩ := X3.leave (v := some (.int (1 : Int32))) (fun h => by rw [Bd.returns] at h; cases h)
  refine ⟨_, _, pre0 _ ?_, hrun, hended, _, _, rfl, ?_, ⟨_, rfl⟩, hW, hsame.mono (by decide) (by decide)⟩
  · show Steps p.tables e below (s₁.setTop (mkF m 0 #[.val (.int p0), .unset, .unset, .unset, .unset] [])) _
    refine XS.iloadN X0.here hx rfl (hb hby at_0) rfl ?_
    show Steps p.tables e below (s₁.setTop (mkF m 1 #[.val (.int p0), .unset, .unset, .unset, .unset] [(.int p0)])) _
    refine X0.ldcInt hx hown (mvT hZ (hw _ (List.mem_of_getElem? (i := 0) rfl))) (g := (mkF m 1 #[.val (.int p0), .unset, .unset, .unset, .unset] [(.int p0)])) rfl (hb hby at_1) _ ?_
    show Steps p.tables e below (s₁.setTop (mkF m 3 #[.val (.int p0), .unset, .unset, .unset, .unset] [(.int (2147483647 : Int32)), (.int p0)])) _
    refine XS.iand X0.here hx rfl (hb hby at_3) rfl ?_
    show Steps p.tables e below (s₁.setTop (mkF m 4 #[.val (.int p0), .unset, .unset, .unset, .unset] [(.int (p0 &&& (2147483647 : Int32)))])) _
    refine XS.iconst X0.here hx rfl (hb hby at_4) ?_
    show Steps p.tables e below (s₁.setTop (mkF m 5 #[.val (.int p0), .unset, .unset, .unset, .unset] [(.int (5 : Int32)), (.int (p0 &&& (2147483647 : Int32)))])) _
    refine iremM X0 hx rfl (hb hby at_5) rfl (by decide) ?_
    show Steps p.tables e below (s₁.setTop (mkF m 6 #[.val (.int p0), .unset, .unset, .unset, .unset] [(.int ((p0 &&& (2147483647 : Int32)) % (5 : Int32)))])) _
    rw [hk0]
    show Steps p.tables e below (s₁.setTop (mkF m 6 #[.val (.int p0), .unset, .unset, .unset, .unset] [(.int (3 : Int32))])) _
    refine XS.istoreN X0.here hx rfl (hb hby at_6) rfl (l' := #[.val (.int p0), .val (.int (3 : Int32)), .unset, .unset, .unset]) rfl ?_
    show Steps p.tables e below (s₁.setTop (mkF m 7 #[.val (.int p0), .val (.int (3 : Int32)), .unset, .unset, .unset] [])) _
    refine XS.iloadN X0.here hx rfl (hb hby at_7) rfl ?_
    show Steps p.tables e below (s₁.setTop (mkF m 8 #[.val (.int p0), .val (.int (3 : Int32)), .unset, .unset, .unset] [(.int (3 : Int32))])) _
    refine XS.ifYes X0.here hx rfl (pc0 := 8) (pc' := 20) rfl (hb hby at_8) rfl (by decide) (by decide) (by decide) ?_
    show Steps p.tables e below (s₁.setTop (mkF m 20 #[.val (.int p0), .val (.int (3 : Int32)), .unset, .unset, .unset] [])) _
    refine XS.iloadN X0.here hx rfl (hb hby at_20) rfl ?_
    show Steps p.tables e below (s₁.setTop (mkF m 21 #[.val (.int p0), .val (.int (3 : Int32)), .unset, .unset, .unset] [(.int (3 : Int32))])) _
    refine XS.iconst X0.here hx rfl (hb hby at_21) ?_
    show Steps p.tables e below (s₁.setTop (mkF m 22 #[.val (.int p0), .val (.int (3 : Int32)), .unset, .unset, .unset] [(.int (1 : Int32)), (.int (3 : Int32))])) _
    refine XS.icmpYes X0.here hx rfl (pc0 := 22) (pc' := 34) rfl (hb hby at_22) rfl (by decide) (by decide) (by decide) ?_
    show Steps p.tables e below (s₁.setTop (mkF m 34 #[.val (.int p0), .val (.int (3 : Int32)), .unset, .unset, .unset] [])) _
    refine XS.iloadN X0.here hx rfl (hb hby at_34) rfl ?_
    show Steps p.tables e below (s₁.setTop (mkF m 35 #[.val (.int p0), .val (.int (3 : Int32)), .unset, .unset, .unset] [(.int (3 : Int32))])) _
    refine XS.iconst X0.here hx rfl (hb hby at_35) ?_
    show Steps p.tables e below (s₁.setTop (mkF m 36 #[.val (.int p0), .val (.int (3 : Int32)), .unset, .unset, .unset] [(.int (2 : Int32)), (.int (3 : Int32))])) _
    refine XS.icmpYes X0.here hx rfl (pc0 := 36) (pc' := 48) rfl (hb hby at_36) rfl (by decide) (by decide) (by decide) ?_
    show Steps p.tables e below (s₁.setTop (mkF m 48 #[.val (.int p0), .val (.int (3 : Int32)), .unset, .unset, .unset] [])) _
    refine XS.iloadN X0.here hx rfl (hb hby at_48) rfl ?_
    show Steps p.tables e below (s₁.setTop (mkF m 49 #[.val (.int p0), .val (.int (3 : Int32)), .unset, .unset, .unset] [(.int (3 : Int32))])) _
    refine XS.iconst X0.here hx rfl (hb hby at_49) ?_
    show Steps p.tables e below (s₁.setTop (mkF m 50 #[.val (.int p0), .val (.int (3 : Int32)), .unset, .unset, .unset] [(.int (3 : Int32)), (.int (3 : Int32))])) _
    refine XS.icmpNo X0.here hx rfl (hb hby at_50) rfl (by decide) ?_
    show Steps p.tables e below (s₁.setTop (mkF m 53 #[.val (.int p0), .val (.int (3 : Int32)), .unset, .unset, .unset] [])) _
    refine st1 _ ?_
    show Steps p.tables e below (T1.setTop (mkF m 56 #[.val (.int p0), .val (.int (3 : Int32)), .unset, .unset, .unset] [(.ref a_COMMIT)])) _
    refine XS.astoreN X1.here hx rfl (hb hby at_56) rfl rfl (l' := #[.val (.int p0), .val (.int (3 : Int32)), .val (.ref a_COMMIT), .unset, .unset]) rfl ?_
    show Steps p.tables e below (T1.setTop (mkF m 57 #[.val (.int p0), .val (.int (3 : Int32)), .val (.ref a_COMMIT), .unset, .unset] [])) _
    refine XS.iconst X1.here hx rfl (hb hby at_57) ?_
    show Steps p.tables e below (T1.setTop (mkF m 58 #[.val (.int p0), .val (.int (3 : Int32)), .val (.ref a_COMMIT), .unset, .unset] [(.int (1 : Int32))])) _
    refine XS.istoreN X1.here hx rfl (hb hby at_58) rfl (l' := #[.val (.int p0), .val (.int (3 : Int32)), .val (.ref a_COMMIT), .val (.int (1 : Int32)), .unset]) rfl ?_
    show Steps p.tables e below (T1.setTop (mkF m 59 #[.val (.int p0), .val (.int (3 : Int32)), .val (.ref a_COMMIT), .val (.int (1 : Int32)), .unset] [])) _
    refine XS.goto X1.here hx rfl (pc0 := 59) (pc' := 68) rfl (hb hby at_59) (by decide) (by decide) ?_
    show Steps p.tables e below (T1.setTop (mkF m 68 #[.val (.int p0), .val (.int (3 : Int32)), .val (.ref a_COMMIT), .val (.int (1 : Int32)), .unset] [])) _
    refine XS.aloadN X1.here hx rfl (hb hby at_68) rfl rfl ?_
    show Steps p.tables e below (T1.setTop (mkF m 69 #[.val (.int p0), .val (.int (3 : Int32)), .val (.ref a_COMMIT), .val (.int (1 : Int32)), .unset] [(.ref a_COMMIT)])) _
    refine st2.trans ?_
    show Steps p.tables e below (T2.setTop (mkF m 72 #[.val (.int p0), .val (.int (3 : Int32)), .val (.ref a_COMMIT), .val (.int (1 : Int32)), .unset] [(.int (1 : Int32))])) _
    refine XS.istore X2.here hx rfl (hb hby at_72) rfl (l' := #[.val (.int p0), .val (.int (3 : Int32)), .val (.ref a_COMMIT), .val (.int (1 : Int32)), .val (.int (1 : Int32))]) rfl ?_
    show Steps p.tables e below (T2.setTop (mkF m 74 #[.val (.int p0), .val (.int (3 : Int32)), .val (.ref a_COMMIT), .val (.int (1 : Int32)), .val (.int (1 : Int32))] [])) _
    refine XS.iload X2.here hx rfl (hb hby at_74) rfl ?_
    show Steps p.tables e below (T2.setTop (mkF m 76 #[.val (.int p0), .val (.int (3 : Int32)), .val (.ref a_COMMIT), .val (.int (1 : Int32)), .val (.int (1 : Int32))] [(.int (1 : Int32))])) _
    refine XS.iloadN X2.here hx rfl (hb hby at_76) rfl ?_
    show Steps p.tables e below (T2.setTop (mkF m 77 #[.val (.int p0), .val (.int (3 : Int32)), .val (.ref a_COMMIT), .val (.int (1 : Int32)), .val (.int (1 : Int32))] [(.int (1 : Int32)), (.int (1 : Int32))])) _
    refine XS.icmpNo X2.here hx rfl (hb hby at_77) rfl (by decide) ?_
    show Steps p.tables e below (T2.setTop (mkF m 80 #[.val (.int p0), .val (.int (3 : Int32)), .val (.ref a_COMMIT), .val (.int (1 : Int32)), .val (.int (1 : Int32))] [])) _
    refine XS.iload X2.here hx rfl (hb hby at_80) rfl ?_
    show Steps p.tables e below (T2.setTop (mkF m 82 #[.val (.int p0), .val (.int (3 : Int32)), .val (.ref a_COMMIT), .val (.int (1 : Int32)), .val (.int (1 : Int32))] [(.int (1 : Int32))])) _
    refine XS.aloadN X2.here hx rfl (hb hby at_82) rfl rfl ?_
    show Steps p.tables e below (T2.setTop (mkF m 83 #[.val (.int p0), .val (.int (3 : Int32)), .val (.ref a_COMMIT), .val (.int (1 : Int32)), .val (.int (1 : Int32))] [(.ref a_COMMIT), (.int (1 : Int32))])) _
    refine st3.trans ?_
    show Steps p.tables e below (T3.setTop (mkF m 86 #[.val (.int p0), .val (.int (3 : Int32)), .val (.ref a_COMMIT), .val (.int (1 : Int32)), .val (.int (1 : Int32))] [(.int (0 : Int32)), (.int (1 : Int32))])) _
    refine XS.ifNo X3.here hx rfl (hb hby at_86) rfl (by decide) ?_
    show Steps p.tables e below (T3.setTop (mkF m 89 #[.val (.int p0), .val (.int (3 : Int32)), .val (.ref a_COMMIT), .val (.int (1 : Int32)), .val (.int (1 : Int32))] [(.int (1 : Int32))])) _
    refine XS.iconst X3.here hx rfl (hb hby at_89) ?_
    show Steps p.tables e below (T3.setTop (mkF m 90 #[.val (.int p0), .val (.int (3 : Int32)), .val (.ref a_COMMIT), .val (.int (1 : Int32)), .val (.int (1 : Int32))] [(.int (1 : Int32)), (.int (1 : Int32))])) _
    refine XS.goto X3.here hx rfl (pc0 := 90) (pc' := 94) rfl (hb hby at_90) (by decide) (by decide) ?_
    show Steps p.tables e below (T3.setTop (mkF m 94 #[.val (.int p0), .val (.int (3 : Int32)), .val (.ref a_COMMIT), .val (.int (1 : Int32)), .val (.int (1 : Int32))] [(.int (1 : Int32)), (.int (1 : Int32))])) _
    refine XS.icmpNo X3.here hx rfl (hb hby at_94) rfl (by decide) ?_
    show Steps p.tables e below (T3.setTop (mkF m 97 #[.val (.int p0), .val (.int (3 : Int32)), .val (.ref a_COMMIT), .val (.int (1 : Int32)), .val (.int (1 : Int32))] [])) _
    refine XS.iconst X3.here hx rfl (hb hby at_97) ?_
    show Steps p.tables e below (T3.setTop (mkF m 98 #[.val (.int p0), .val (.int (3 : Int32)), .val (.ref a_COMMIT), .val (.int (1 : Int32)), .val (.int (1 : Int32))] [(.int (1 : Int32))])) _
    refine XS.goto X3.here hx rfl (pc0 := 98) (pc' := 102) rfl (hb hby at_98) (by decide) (by decide) ?_
    show Steps p.tables e below (T3.setTop (mkF m 102 #[.val (.int p0), .val (.int (3 : Int32)), .val (.ref a_COMMIT), .val (.int (1 : Int32)), .val (.int (1 : Int32))] [(.int (1 : Int32))])) _
    exact retN X3 hx (t := .boolean) Bd.returns (by simp) (hb hby at_102) hr
  · exact ⟨rfl, N3⟩
set_option maxRecDepth 65536 in
set_option maxHeartbeats 40000000 in
theorem rm1_4 (l : Launch) (Z : State) (a0 : Array Value) (hw : ∀ d ∈ tables_1, d.before a0 Z = true) (ws : List Jvm.Cond) (p0 : Int32) (a_READ a_COMMIT a_ABORT a_WRITE a_INCREMENT : Addr) (h0 : Heap) (n0 : Nat) (Z0 : n0 ≤ h0.size) (FF : Facts Z h0 a_READ a_COMMIT a_ABORT a_WRITE a_INCREMENT) :
    MetFree l (⟨"com/example/schedulock/schedulock/schedule/OperationKind", "endsTransaction", "()Z"⟩ : MethodName) (head1 (Jvm.Cond.code (⟨"com/example/schedulock/schedulock/schedule/OperationKind", "endsTransaction", "()Z"⟩ : MethodName) prog_31_method_6_code 1 (some .boolean) :: ws) ({ frames := 0, cells := 0, slots := 0, locals := 0 } : Room)) (fun a U => a = #[(.ref a_ABORT)] ∧ Z.Warmed39 U.vm ∧ U.heap = h0) (fun _ _ _ _ _ => True) (fun _ U o U' => ∃ v L, o = .returned v ∧ own_Q (.int (1 : Int32)) h0 n0 v U'.heap L ∧ FrameEnd U o U' L ({ frames := 0, cells := 0, slots := 0, locals := 0 } : Room).cells ({ frames := 0, cells := 0, slots := 0, locals := 0 } : Room).slots) := by
  refine MetFree.of_bodySF (plainFor_of_name pn_1) hisR ?_
  intro p e s m args below meth c s₁ Bd hml0 hP hK
  obtain ⟨rfl, hZ, hh⟩ := hP
  have hx := Bd.exec
  have hby := Bd.bytes
  have hml : c.maxLocals = 1 := hml0
  have hown : s.vm.findClass "com/example/schedulock/schedulock/schedule/OperationKind" = some m.cls := findClass_of_methodNamed Bd.named
  have X0 : Stand p l e ({ frames := 0, cells := 0, slots := 0, locals := 0 } : Room) s m #[(.ref a_ABORT)] below meth c s₁ [] 0 0 := Stand.of_body Bd
  have e0 : s₁.heap = h0 := by rw [← hh, Bd.state]; rfl
  have N0 := Fr.nil n0
  have pre0 : ∀ t, Steps p.tables e below (s₁.setTop (mkF m 0 #[.val (.ref a_ABORT)] [])) t → Steps p.tables e below (s₁.setTop (entryFrame m #[(.ref a_ABORT)] 1)) t := fun t k => castTop (ef_1 m a_ABORT) k
  obtain ⟨T1, X1, e1, st1⟩ := getS2 X0 hx hZ hown (host := "") (Or.inl (hw _ (List.mem_of_getElem? (i := 9) rfl))) Via.refl e0 (fx_S_COMMIT FF) (g := (mkF m 1 #[.val (.ref a_ABORT)] [(.ref a_ABORT)])) rfl (hb hby d1_1)
  obtain ⟨T2, X2, e2, st2⟩ := getS2 X1 hx hZ hown (host := "") (Or.inl (hw _ (List.mem_of_getElem? (i := 11) rfl))) Via.refl e1 (fx_S_ABORT FF) (g := (mkF m 8 #[.val (.ref a_ABORT)] [(.ref a_ABORT)])) rfl (hb hby d1_8)
  obtain ⟨fs, hr, hrun, hended, hW, hsame⟩ := X2.leave (v := some (.int (1 : Int32))) (fun h => by rw [Bd.returns] at h; cases h)
  refine ⟨_, _, pre0 _ ?_, hrun, hended, _, _, rfl, ?_, ⟨_, rfl⟩, hW, hsame.mono (by decide) (by decide)⟩
  · show Steps p.tables e below (s₁.setTop (mkF m 0 #[.val (.ref a_ABORT)] [])) _
    refine XS.aloadN X0.here hx rfl (hb hby d1_0) rfl rfl ?_
    show Steps p.tables e below (s₁.setTop (mkF m 1 #[.val (.ref a_ABORT)] [(.ref a_ABORT)])) _
    refine st1 _ ?_
    show Steps p.tables e below (T1.setTop (mkF m 4 #[.val (.ref a_ABORT)] [(.ref a_COMMIT), (.ref a_ABORT)])) _
    refine Jvm.RoadKit.acmp (g := (mkF m 4 #[.val (.ref a_ABORT)] [(.ref a_COMMIT), (.ref a_ABORT)])) X1 hx rfl rfl rfl (pc0 := 4) (pc' := 7) (same := false) rfl (hb hby d1_4) rfl (decide_eq_false fun q => Fld.ne (fx_F_ABORT_ordinal FF) (fx_F_COMMIT_ordinal FF) (by decide) (Value.ref.inj q)) (by decide) (by decide) ?_
    show Steps p.tables e below (T1.setTop (mkF m 7 #[.val (.ref a_ABORT)] [])) _
    refine XS.aloadN X1.here hx rfl (hb hby d1_7) rfl rfl ?_
    show Steps p.tables e below (T1.setTop (mkF m 8 #[.val (.ref a_ABORT)] [(.ref a_ABORT)])) _
    refine st2 _ ?_
    show Steps p.tables e below (T2.setTop (mkF m 11 #[.val (.ref a_ABORT)] [(.ref a_ABORT), (.ref a_ABORT)])) _
    refine Jvm.RoadKit.acmp (g := (mkF m 11 #[.val (.ref a_ABORT)] [(.ref a_ABORT), (.ref a_ABORT)])) X2 hx rfl rfl rfl (pc0 := 11) (pc' := 14) (same := true) rfl (hb hby d1_11) rfl (decide_eq_true rfl) (by decide) (by decide) ?_
    show Steps p.tables e below (T2.setTop (mkF m 14 #[.val (.ref a_ABORT)] [])) _
    refine XS.iconst X2.here hx rfl (hb hby d1_14) ?_
    show Steps p.tables e below (T2.setTop (mkF m 15 #[.val (.ref a_ABORT)] [(.int (1 : Int32))])) _
    refine XS.goto X2.here hx rfl (pc0 := 15) (pc' := 19) rfl (hb hby d1_15) (by decide) (by decide) ?_
    show Steps p.tables e below (T2.setTop (mkF m 19 #[.val (.ref a_ABORT)] [(.int (1 : Int32))])) _
    exact retN X2 hx (t := .boolean) Bd.returns (by simp) (hb hby d1_19) hr
  · show own_Q _ _ _ _ T2.heap _
    exact ⟨rfl, N0, e2⟩
set_option maxRecDepth 65536 in
set_option maxHeartbeats 40000000 in
theorem rm2_4 (l : Launch) (Z : State) (a0 : Array Value) (hw : ∀ d ∈ tables_1, d.before a0 Z = true) (ws : List Jvm.Cond) (p0 : Int32) (a_READ a_COMMIT a_ABORT a_WRITE a_INCREMENT : Addr) (h0 : Heap) (n0 : Nat) (Z0 : n0 ≤ h0.size) (FF : Facts Z h0 a_READ a_COMMIT a_ABORT a_WRITE a_INCREMENT) :
    MetFree l (⟨"com/example/schedulock/schedulock/schedule/OperationKind", "takesItem", "()Z"⟩ : MethodName) (head1 (Jvm.Cond.code (⟨"com/example/schedulock/schedulock/schedule/OperationKind", "takesItem", "()Z"⟩ : MethodName) prog_31_method_4_code 1 (some .boolean) :: ws) ({ frames := 0, cells := 0, slots := 0, locals := 0 } : Room)) (fun a U => a = #[(.ref a_ABORT)] ∧ Z.Warmed39 U.vm ∧ U.heap = h0) (fun _ _ _ _ _ => True) (fun _ U o U' => ∃ v L, o = .returned v ∧ own_Q (.int (0 : Int32)) h0 n0 v U'.heap L ∧ FrameEnd U o U' L ({ frames := 0, cells := 0, slots := 0, locals := 0 } : Room).cells ({ frames := 0, cells := 0, slots := 0, locals := 0 } : Room).slots) := by
  refine MetFree.of_bodySF (plainFor_of_name pn_2) hisR ?_
  intro p e s m args below meth c s₁ Bd hml0 hP hK
  obtain ⟨rfl, hZ, hh⟩ := hP
  have hx := Bd.exec
  have hby := Bd.bytes
  have hml : c.maxLocals = 1 := hml0
  have hown : s.vm.findClass "com/example/schedulock/schedulock/schedule/OperationKind" = some m.cls := findClass_of_methodNamed Bd.named
  have X0 : Stand p l e ({ frames := 0, cells := 0, slots := 0, locals := 0 } : Room) s m #[(.ref a_ABORT)] below meth c s₁ [] 0 0 := Stand.of_body Bd
  have e0 : s₁.heap = h0 := by rw [← hh, Bd.state]; rfl
  have N0 := Fr.nil n0
  have pre0 : ∀ t, Steps p.tables e below (s₁.setTop (mkF m 0 #[.val (.ref a_ABORT)] [])) t → Steps p.tables e below (s₁.setTop (entryFrame m #[(.ref a_ABORT)] 1)) t := fun t k => castTop (ef_2 m a_ABORT) k
  obtain ⟨T1, X1, e1, st1⟩ := getF X0 hx hZ hown (host := "") (Or.inl (hw _ (List.mem_of_getElem? (i := 18) rfl))) Via.refl e0 (fx_F_ABORT_takesItem FF) (g := (mkF m 1 #[.val (.ref a_ABORT)] [(.ref a_ABORT)])) rfl rfl (hb hby d2_1)
  obtain ⟨fs, hr, hrun, hended, hW, hsame⟩ := X1.leave (v := some (.int (0 : Int32))) (fun h => by rw [Bd.returns] at h; cases h)
  refine ⟨_, _, pre0 _ ?_, hrun, hended, _, _, rfl, ?_, ⟨_, rfl⟩, hW, hsame.mono (by decide) (by decide)⟩
  · show Steps p.tables e below (s₁.setTop (mkF m 0 #[.val (.ref a_ABORT)] [])) _
    refine XS.aloadN X0.here hx rfl (hb hby d2_0) rfl rfl ?_
    show Steps p.tables e below (s₁.setTop (mkF m 1 #[.val (.ref a_ABORT)] [(.ref a_ABORT)])) _
    refine st1 _ ?_
    show Steps p.tables e below (T1.setTop (mkF m 4 #[.val (.ref a_ABORT)] [(.int (0 : Int32))])) _
    exact retN X1 hx (t := .boolean) Bd.returns (by simp) (hb hby d2_4) hr
  · show own_Q _ _ _ _ T1.heap _
    exact ⟨rfl, N0, e1⟩
set_option maxRecDepth 65536 in
set_option maxHeartbeats 40000000 in
theorem rm0_4 (l : Launch) (Z : State) (a0 : Array Value) (hw : ∀ d ∈ tables_1, d.before a0 Z = true) (ws : List Jvm.Cond) (p0 : Int32) (a_READ a_COMMIT a_ABORT a_WRITE a_INCREMENT : Addr) (h0 : Heap) (n0 : Nat) (Z0 : n0 ≤ h0.size) (FF : Facts Z h0 a_READ a_COMMIT a_ABORT a_WRITE a_INCREMENT) (hk0 : ((p0 &&& (2147483647 : Int32)) % (5 : Int32)) = (4 : Int32)) :
    MetFree l x (head1 (Jvm.Cond.code x code maxLocals ret :: ws) room_1) (fun a U => a = #[(.int p0)] ∧ Z.Warmed39 U.vm ∧ U.heap = h0) (fun _ _ _ _ _ => True) (fun _ U o U' => ∃ v L, o = .returned v ∧ (v = some (.int (1 : Int32)) ∧ Fr n0 L) ∧ FrameEnd U o U' L room_1.cells room_1.slots) := by
  refine MetFree.of_bodySF (plainFor_of_name pn_0) hisR ?_
  intro p e s m args below meth c s₁ Bd hml0 hP hK
  obtain ⟨rfl, hZ, hh⟩ := hP
  have hx := Bd.exec
  have hby := Bd.bytes
  have hml : c.maxLocals = 5 := hml0
  have hown : s.vm.findClass "com/example/schedulock/schedulock/schedule/OperationKindEndsTransactionPinLaw" = some m.cls := findClass_of_methodNamed Bd.named
  have X0 : Stand p l e room_1 s m #[(.int p0)] below meth c s₁ [] 0 0 := Stand.of_body Bd
  have e0 : s₁.heap = h0 := by rw [← hh, Bd.state]; rfl
  have N0 := Fr.nil n0
  have pre0 : ∀ t, Steps p.tables e below (s₁.setTop (mkF m 0 #[.val (.int p0), .unset, .unset, .unset, .unset] [])) t → Steps p.tables e below (s₁.setTop (entryFrame m #[(.int p0)] maxLocals)) t := fun t k => castTop (ef_0 m p0) k
  obtain ⟨T1, X1, e1, st1⟩ := getS2 X0 hx hZ hown (host := "") (Or.inl (hw _ (List.mem_of_getElem? (i := 23) rfl))) Via.refl e0 (fx_S_ABORT FF) (g := (mkF m 62 #[.val (.int p0), .val (.int (4 : Int32)), .unset, .unset, .unset] [])) rfl (hb hby at_62)
  obtain ⟨cq2, kq2, q2a, q2b, q2c⟩ := isOf hZ e1 (fx_E_ABORT FF)
  obtain ⟨_, _, ⟨T2, L2, k2, n2⟩, -, X2, ⟨Lc2, hQ2, l2, y2, z2⟩, st2⟩ := X1.virtualBack hx (y := (⟨"com/example/schedulock/schedulock/schedule/OperationKind", "endsTransaction", "()Z"⟩ : MethodName)) (z := (⟨"com/example/schedulock/schedulock/schedule/OperationKind", "endsTransaction", "()Z"⟩ : MethodName)) hown (mvT hZ (hw _ (List.mem_of_getElem? (i := 4) rfl))) (mvT hZ (hw _ (List.mem_of_getElem? (i := 5) rfl))) (notFace_of_selects (args := #[]) (mvT hZ (hw _ (List.mem_of_getElem? (i := 7) rfl)))) (mvT hZ (hw _ (List.mem_of_getElem? (i := 7) rfl))) (mvT hZ (hw _ (List.mem_of_getElem? (i := 6) rfl))) (by decide) (backOf (W := 0) (rm1_4 l Z a0 hw [] p0 a_READ a_COMMIT a_ABORT a_WRITE a_INCREMENT h0 n0 (Nat.le_trans Z0 (Nat.le_refl _)) FF) hZ (hw _ (List.mem_of_getElem? (i := 8) rfl)) (hw _ (List.mem_of_getElem? (i := 2) rfl)) (by decide) (by decide)) q2a q2c (g := (mkF m 69 #[.val (.int p0), .val (.int (4 : Int32)), .val (.ref a_ABORT), .val (.int (1 : Int32)), .unset] [(.ref a_ABORT)])) rfl (by rw [hml]; rfl) (Steps.refl _) (argsL := []) (rest := []) (lenOf pd_0 rfl) rfl (by show 2 * 0 + _ ≤ _; exact Nat.le_of_eq rfl) (hb hby at_69) (fun _ _ => ⟨rfl, e1, (by decide : 0 + 0 ≤ _), (by decide : 0 + 0 ≤ _)⟩)
  dsimp only [Pt.U, Pt.locs, Pt.cells, Pt.slots] at X2 l2 y2 z2 st2 hQ2
  subst l2 y2 z2
  obtain ⟨rfl, N2q, e2⟩ := hQ2
  have N2 := Fr.app N0 N2q
  obtain ⟨cq3, kq3, q3a, q3b, q3c⟩ := isOf hZ e2 (fx_E_ABORT FF)
  obtain ⟨_, _, ⟨T3, L3, k3, n3⟩, -, X3, ⟨Lc3, hQ3, l3, y3, z3⟩, st3⟩ := X2.virtualBack hx (y := (⟨"com/example/schedulock/schedulock/schedule/OperationKind", "takesItem", "()Z"⟩ : MethodName)) (z := (⟨"com/example/schedulock/schedulock/schedule/OperationKind", "takesItem", "()Z"⟩ : MethodName)) hown (mvT hZ (hw _ (List.mem_of_getElem? (i := 13) rfl))) (mvT hZ (hw _ (List.mem_of_getElem? (i := 14) rfl))) (notFace_of_selects (args := #[]) (mvT hZ (hw _ (List.mem_of_getElem? (i := 16) rfl)))) (mvT hZ (hw _ (List.mem_of_getElem? (i := 16) rfl))) (mvT hZ (hw _ (List.mem_of_getElem? (i := 15) rfl))) (by decide) (backOf (W := 1) (rm2_4 l Z a0 hw [] p0 a_READ a_COMMIT a_ABORT a_WRITE a_INCREMENT h0 n0 (Nat.le_trans Z0 (Nat.le_refl _)) FF) hZ (hw _ (List.mem_of_getElem? (i := 17) rfl)) (hw _ (List.mem_of_getElem? (i := 2) rfl)) (by decide) (by decide)) q3a q3c (g := (mkF m 83 #[.val (.int p0), .val (.int (4 : Int32)), .val (.ref a_ABORT), .val (.int (1 : Int32)), .val (.int (1 : Int32))] [(.ref a_ABORT), (.int (1 : Int32))])) rfl (by rw [hml]; rfl) (Steps.refl _) (argsL := []) (rest := [(.int (1 : Int32))]) (lenOf pd_0 rfl) rfl (by show 2 * 0 + _ ≤ _; exact Nat.le_of_eq rfl) (hb hby at_83) (fun _ _ => ⟨rfl, e2, (by decide : 0 + 0 ≤ _), (by decide : 0 + 0 ≤ _)⟩)
  dsimp only [Pt.U, Pt.locs, Pt.cells, Pt.slots] at X3 l3 y3 z3 st3 hQ3
  subst l3 y3 z3
  obtain ⟨rfl, N3q, e3⟩ := hQ3
  have N3 := Fr.app N2 N3q
  obtain ⟨fs, hr, hrun, hended, hW, hsame⟩ := X3.leave (v := some (.int (1 : Int32))) (fun h => by rw [Bd.returns] at h; cases h)
  refine ⟨_, _, pre0 _ ?_, hrun, hended, _, _, rfl, ?_, ⟨_, rfl⟩, hW, hsame.mono (by decide) (by decide)⟩
  · show Steps p.tables e below (s₁.setTop (mkF m 0 #[.val (.int p0), .unset, .unset, .unset, .unset] [])) _
    refine XS.iloadN X0.here hx rfl (hb hby at_0) rfl ?_
    show Steps p.tables e below (s₁.setTop (mkF m 1 #[.val (.int p0), .unset, .unset, .unset, .unset] [(.int p0)])) _
    refine X0.ldcInt hx hown (mvT hZ (hw _ (List.mem_of_getElem? (i := 0) rfl))) (g := (mkF m 1 #[.val (.int p0), .unset, .unset, .unset, .unset] [(.int p0)])) rfl (hb hby at_1) _ ?_
    show Steps p.tables e below (s₁.setTop (mkF m 3 #[.val (.int p0), .unset, .unset, .unset, .unset] [(.int (2147483647 : Int32)), (.int p0)])) _
    refine XS.iand X0.here hx rfl (hb hby at_3) rfl ?_
    show Steps p.tables e below (s₁.setTop (mkF m 4 #[.val (.int p0), .unset, .unset, .unset, .unset] [(.int (p0 &&& (2147483647 : Int32)))])) _
    refine XS.iconst X0.here hx rfl (hb hby at_4) ?_
    show Steps p.tables e below (s₁.setTop (mkF m 5 #[.val (.int p0), .unset, .unset, .unset, .unset] [(.int (5 : Int32)), (.int (p0 &&& (2147483647 : Int32)))])) _
    refine iremM X0 hx rfl (hb hby at_5) rfl (by decide) ?_
    show Steps p.tables e below (s₁.setTop (mkF m 6 #[.val (.int p0), .unset, .unset, .unset, .unset] [(.int ((p0 &&& (2147483647 : Int32)) % (5 : Int32)))])) _
    rw [hk0]
    show Steps p.tables e below (s₁.setTop (mkF m 6 #[.val (.int p0), .unset, .unset, .unset, .unset] [(.int (4 : Int32))])) _
    refine XS.istoreN X0.here hx rfl (hb hby at_6) rfl (l' := #[.val (.int p0), .val (.int (4 : Int32)), .unset, .unset, .unset]) rfl ?_
    show Steps p.tables e below (s₁.setTop (mkF m 7 #[.val (.int p0), .val (.int (4 : Int32)), .unset, .unset, .unset] [])) _
    refine XS.iloadN X0.here hx rfl (hb hby at_7) rfl ?_
    show Steps p.tables e below (s₁.setTop (mkF m 8 #[.val (.int p0), .val (.int (4 : Int32)), .unset, .unset, .unset] [(.int (4 : Int32))])) _
    refine XS.ifYes X0.here hx rfl (pc0 := 8) (pc' := 20) rfl (hb hby at_8) rfl (by decide) (by decide) (by decide) ?_
    show Steps p.tables e below (s₁.setTop (mkF m 20 #[.val (.int p0), .val (.int (4 : Int32)), .unset, .unset, .unset] [])) _
    refine XS.iloadN X0.here hx rfl (hb hby at_20) rfl ?_
    show Steps p.tables e below (s₁.setTop (mkF m 21 #[.val (.int p0), .val (.int (4 : Int32)), .unset, .unset, .unset] [(.int (4 : Int32))])) _
    refine XS.iconst X0.here hx rfl (hb hby at_21) ?_
    show Steps p.tables e below (s₁.setTop (mkF m 22 #[.val (.int p0), .val (.int (4 : Int32)), .unset, .unset, .unset] [(.int (1 : Int32)), (.int (4 : Int32))])) _
    refine XS.icmpYes X0.here hx rfl (pc0 := 22) (pc' := 34) rfl (hb hby at_22) rfl (by decide) (by decide) (by decide) ?_
    show Steps p.tables e below (s₁.setTop (mkF m 34 #[.val (.int p0), .val (.int (4 : Int32)), .unset, .unset, .unset] [])) _
    refine XS.iloadN X0.here hx rfl (hb hby at_34) rfl ?_
    show Steps p.tables e below (s₁.setTop (mkF m 35 #[.val (.int p0), .val (.int (4 : Int32)), .unset, .unset, .unset] [(.int (4 : Int32))])) _
    refine XS.iconst X0.here hx rfl (hb hby at_35) ?_
    show Steps p.tables e below (s₁.setTop (mkF m 36 #[.val (.int p0), .val (.int (4 : Int32)), .unset, .unset, .unset] [(.int (2 : Int32)), (.int (4 : Int32))])) _
    refine XS.icmpYes X0.here hx rfl (pc0 := 36) (pc' := 48) rfl (hb hby at_36) rfl (by decide) (by decide) (by decide) ?_
    show Steps p.tables e below (s₁.setTop (mkF m 48 #[.val (.int p0), .val (.int (4 : Int32)), .unset, .unset, .unset] [])) _
    refine XS.iloadN X0.here hx rfl (hb hby at_48) rfl ?_
    show Steps p.tables e below (s₁.setTop (mkF m 49 #[.val (.int p0), .val (.int (4 : Int32)), .unset, .unset, .unset] [(.int (4 : Int32))])) _
    refine XS.iconst X0.here hx rfl (hb hby at_49) ?_
    show Steps p.tables e below (s₁.setTop (mkF m 50 #[.val (.int p0), .val (.int (4 : Int32)), .unset, .unset, .unset] [(.int (3 : Int32)), (.int (4 : Int32))])) _
    refine XS.icmpYes X0.here hx rfl (pc0 := 50) (pc' := 62) rfl (hb hby at_50) rfl (by decide) (by decide) (by decide) ?_
    show Steps p.tables e below (s₁.setTop (mkF m 62 #[.val (.int p0), .val (.int (4 : Int32)), .unset, .unset, .unset] [])) _
    refine st1 _ ?_
    show Steps p.tables e below (T1.setTop (mkF m 65 #[.val (.int p0), .val (.int (4 : Int32)), .unset, .unset, .unset] [(.ref a_ABORT)])) _
    refine XS.astoreN X1.here hx rfl (hb hby at_65) rfl rfl (l' := #[.val (.int p0), .val (.int (4 : Int32)), .val (.ref a_ABORT), .unset, .unset]) rfl ?_
    show Steps p.tables e below (T1.setTop (mkF m 66 #[.val (.int p0), .val (.int (4 : Int32)), .val (.ref a_ABORT), .unset, .unset] [])) _
    refine XS.iconst X1.here hx rfl (hb hby at_66) ?_
    show Steps p.tables e below (T1.setTop (mkF m 67 #[.val (.int p0), .val (.int (4 : Int32)), .val (.ref a_ABORT), .unset, .unset] [(.int (1 : Int32))])) _
    refine XS.istoreN X1.here hx rfl (hb hby at_67) rfl (l' := #[.val (.int p0), .val (.int (4 : Int32)), .val (.ref a_ABORT), .val (.int (1 : Int32)), .unset]) rfl ?_
    show Steps p.tables e below (T1.setTop (mkF m 68 #[.val (.int p0), .val (.int (4 : Int32)), .val (.ref a_ABORT), .val (.int (1 : Int32)), .unset] [])) _
    refine XS.aloadN X1.here hx rfl (hb hby at_68) rfl rfl ?_
    show Steps p.tables e below (T1.setTop (mkF m 69 #[.val (.int p0), .val (.int (4 : Int32)), .val (.ref a_ABORT), .val (.int (1 : Int32)), .unset] [(.ref a_ABORT)])) _
    refine st2.trans ?_
    show Steps p.tables e below (T2.setTop (mkF m 72 #[.val (.int p0), .val (.int (4 : Int32)), .val (.ref a_ABORT), .val (.int (1 : Int32)), .unset] [(.int (1 : Int32))])) _
    refine XS.istore X2.here hx rfl (hb hby at_72) rfl (l' := #[.val (.int p0), .val (.int (4 : Int32)), .val (.ref a_ABORT), .val (.int (1 : Int32)), .val (.int (1 : Int32))]) rfl ?_
    show Steps p.tables e below (T2.setTop (mkF m 74 #[.val (.int p0), .val (.int (4 : Int32)), .val (.ref a_ABORT), .val (.int (1 : Int32)), .val (.int (1 : Int32))] [])) _
    refine XS.iload X2.here hx rfl (hb hby at_74) rfl ?_
    show Steps p.tables e below (T2.setTop (mkF m 76 #[.val (.int p0), .val (.int (4 : Int32)), .val (.ref a_ABORT), .val (.int (1 : Int32)), .val (.int (1 : Int32))] [(.int (1 : Int32))])) _
    refine XS.iloadN X2.here hx rfl (hb hby at_76) rfl ?_
    show Steps p.tables e below (T2.setTop (mkF m 77 #[.val (.int p0), .val (.int (4 : Int32)), .val (.ref a_ABORT), .val (.int (1 : Int32)), .val (.int (1 : Int32))] [(.int (1 : Int32)), (.int (1 : Int32))])) _
    refine XS.icmpNo X2.here hx rfl (hb hby at_77) rfl (by decide) ?_
    show Steps p.tables e below (T2.setTop (mkF m 80 #[.val (.int p0), .val (.int (4 : Int32)), .val (.ref a_ABORT), .val (.int (1 : Int32)), .val (.int (1 : Int32))] [])) _
    refine XS.iload X2.here hx rfl (hb hby at_80) rfl ?_
    show Steps p.tables e below (T2.setTop (mkF m 82 #[.val (.int p0), .val (.int (4 : Int32)), .val (.ref a_ABORT), .val (.int (1 : Int32)), .val (.int (1 : Int32))] [(.int (1 : Int32))])) _
    refine XS.aloadN X2.here hx rfl (hb hby at_82) rfl rfl ?_
    show Steps p.tables e below (T2.setTop (mkF m 83 #[.val (.int p0), .val (.int (4 : Int32)), .val (.ref a_ABORT), .val (.int (1 : Int32)), .val (.int (1 : Int32))] [(.ref a_ABORT), (.int (1 : Int32))])) _
    refine st3.trans ?_
    show Steps p.tables e below (T3.setTop (mkF m 86 #[.val (.int p0), .val (.int (4 : Int32)), .val (.ref a_ABORT), .val (.int (1 : Int32)), .val (.int (1 : Int32))] [(.int (0 : Int32)), (.int (1 : Int32))])) _
    refine XS.ifNo X3.here hx rfl (hb hby at_86) rfl (by decide) ?_
    show Steps p.tables e below (T3.setTop (mkF m 89 #[.val (.int p0), .val (.int (4 : Int32)), .val (.ref a_ABORT), .val (.int (1 : Int32)), .val (.int (1 : Int32))] [(.int (1 : Int32))])) _
    refine XS.iconst X3.here hx rfl (hb hby at_89) ?_
    show Steps p.tables e below (T3.setTop (mkF m 90 #[.val (.int p0), .val (.int (4 : Int32)), .val (.ref a_ABORT), .val (.int (1 : Int32)), .val (.int (1 : Int32))] [(.int (1 : Int32)), (.int (1 : Int32))])) _
    refine XS.goto X3.here hx rfl (pc0 := 90) (pc' := 94) rfl (hb hby at_90) (by decide) (by decide) ?_
    show Steps p.tables e below (T3.setTop (mkF m 94 #[.val (.int p0), .val (.int (4 : Int32)), .val (.ref a_ABORT), .val (.int (1 : Int32)), .val (.int (1 : Int32))] [(.int (1 : Int32)), (.int (1 : Int32))])) _
    refine XS.icmpNo X3.here hx rfl (hb hby at_94) rfl (by decide) ?_
    show Steps p.tables e below (T3.setTop (mkF m 97 #[.val (.int p0), .val (.int (4 : Int32)), .val (.ref a_ABORT), .val (.int (1 : Int32)), .val (.int (1 : Int32))] [])) _
    refine XS.iconst X3.here hx rfl (hb hby at_97) ?_
    show Steps p.tables e below (T3.setTop (mkF m 98 #[.val (.int p0), .val (.int (4 : Int32)), .val (.ref a_ABORT), .val (.int (1 : Int32)), .val (.int (1 : Int32))] [(.int (1 : Int32))])) _
    refine XS.goto X3.here hx rfl (pc0 := 98) (pc' := 102) rfl (hb hby at_98) (by decide) (by decide) ?_
    show Steps p.tables e below (T3.setTop (mkF m 102 #[.val (.int p0), .val (.int (4 : Int32)), .val (.ref a_ABORT), .val (.int (1 : Int32)), .val (.int (1 : Int32))] [(.int (1 : Int32))])) _
    exact retN X3 hx (t := .boolean) Bd.returns (by simp) (hb hby at_102) hr
  · exact ⟨rfl, N3⟩
theorem rm0 (l : Launch) (Z : State) (a0 : Array Value) (hw : ∀ d ∈ tables_1, d.before a0 Z = true) (ws : List Jvm.Cond) (p0 : Int32) (a_READ a_COMMIT a_ABORT a_WRITE a_INCREMENT : Addr) (h0 : Heap) (n0 : Nat) (Z0 : n0 ≤ h0.size) (FF : Facts Z h0 a_READ a_COMMIT a_ABORT a_WRITE a_INCREMENT) :
    MetFree l x (head1 (Jvm.Cond.code x code maxLocals ret :: ws) room_1) (fun a U => a = #[(.int p0)] ∧ Z.Warmed39 U.vm ∧ U.heap = h0) (fun _ _ _ _ _ => True) (fun _ U o U' => ∃ v L, o = .returned v ∧ (v = some (.int (1 : Int32)) ∧ Fr n0 L) ∧ FrameEnd U o U' L room_1.cells room_1.slots) := by
  rcases own_split0 p0 with hk0 | hk0 | hk0 | hk0 | hk0
  · exact rm0_0 l Z a0 hw ws p0 a_READ a_COMMIT a_ABORT a_WRITE a_INCREMENT h0 n0 Z0 FF hk0
  · exact rm0_1 l Z a0 hw ws p0 a_READ a_COMMIT a_ABORT a_WRITE a_INCREMENT h0 n0 Z0 FF hk0
  · exact rm0_2 l Z a0 hw ws p0 a_READ a_COMMIT a_ABORT a_WRITE a_INCREMENT h0 n0 Z0 FF hk0
  · exact rm0_3 l Z a0 hw ws p0 a_READ a_COMMIT a_ABORT a_WRITE a_INCREMENT h0 n0 Z0 FF hk0
  · exact rm0_4 l Z a0 hw ws p0 a_READ a_COMMIT a_ABORT a_WRITE a_INCREMENT h0 n0 Z0 FF hk0
set_option maxRecDepth 65536 in
set_option maxHeartbeats 40000000 in
theorem comes_1 {Post : Tables → Env → Array Value → State → Outcome → State → Prop} (hpost : ∀ tb e args s v u, (limb_1_1.after args s (.returned v) u = true ∧ limb_1_2.after args s (.returned v) u = true ∧ True) → FrameEnd s (.returned v) u (Jvm.fieldLocs frame_1_writes args s ++ Jvm.arrayLocs frame_1_arrays args s ++ Jvm.staticLocs frame_1_statics s) 0 0 → Post tb e args s (.returned v) u) :
    ArmFor flags0 classFile x code maxLocals ret World_1 tables_1 room_1 Calls_1 rest_1 Pre_1 Post := by
  intro l hfl _ _ p e ha hc hk s m args below hf hA hF happ hP
  obtain ⟨hcalls, hrest, hpre⟩ := hP
  obtain ⟨-, -, -, hnamed, -, -, -, hat⟩ := (Spec.applies_iff hf).mp happ
  obtain ⟨hg, hn⟩ := and_e (Cond.before_iff.mp (show (Jvm.Cond.and given_1 narrow_1).before args s = true from hpre))
  obtain ⟨gc, gr0⟩ := and_e hg
  obtain ⟨w0, rfl⟩ : ∃ w0 : Value, args = #[w0] := by
    have hs : args.size = 1 := by simpa [Cond.value, given_1] using gc
    obtain ⟨L⟩ := args
    match L, hs with
    | [w0], _ => exact ⟨w0, rfl⟩
  have hw := fun d (hd : d ∈ tables_1) => atoms_spec (ws := Jvm.Cond.code x code maxLocals ret :: tables_1) hat d (List.mem_cons_of_mem _ hd)
  obtain ⟨i0, ei0⟩ := is_v gr0
  obtain rfl : w0 = (.int i0) := Option.some.inj ei0
  obtain ⟨na1, nb1⟩ := and_e hn
  obtain ⟨na2, nb2⟩ := and_e nb1
  obtain ⟨na3, nb3⟩ := and_e nb2
  obtain ⟨na4, nb4⟩ := and_e nb3
  obtain ⟨na5, nb5⟩ := and_e nb4
  obtain ⟨na6, nb6⟩ := and_e nb5
  obtain ⟨na7, nb7⟩ := and_e nb6
  obtain ⟨na8, nb8⟩ := and_e nb7
  obtain ⟨na9, nb9⟩ := and_e nb8
  obtain ⟨na10, nb10⟩ := and_e nb9
  obtain ⟨na11, nb11⟩ := and_e nb10
  obtain ⟨na12, nb12⟩ := and_e nb11
  obtain ⟨na13, nb13⟩ := and_e nb12
  obtain ⟨na14, nb14⟩ := and_e nb13
  obtain ⟨a_READ, ev_a_READ⟩ := exa_v na1
  obtain ⟨a_COMMIT, ev_a_COMMIT⟩ := exa_v na2
  obtain ⟨a_ABORT, ev_a_ABORT⟩ := exa_v na5
  obtain ⟨a_WRITE, ev_a_WRITE⟩ := exa_v na9
  obtain ⟨a_INCREMENT, ev_a_INCREMENT⟩ := exa_v na13
  have FF : Facts s s.heap a_READ a_COMMIT a_ABORT a_WRITE a_INCREMENT := ⟨Sta.start ev_a_READ (Or.inr ⟨(hw _ (List.mem_of_getElem? (i := 2) rfl)), (hw _ (List.mem_of_getElem? (i := 3) rfl))⟩), Exa.start ev_a_READ na1, Sta.start ev_a_COMMIT (Or.inr ⟨(hw _ (List.mem_of_getElem? (i := 2) rfl)), (hw _ (List.mem_of_getElem? (i := 10) rfl))⟩), Exa.start ev_a_COMMIT na2, Fld.start ((fld_at ev_a_READ).symm.trans (own_eqi na3)), Fld.start ((fld_at ev_a_COMMIT).symm.trans (own_eqi na4)), Sta.start ev_a_ABORT (Or.inr ⟨(hw _ (List.mem_of_getElem? (i := 2) rfl)), (hw _ (List.mem_of_getElem? (i := 12) rfl))⟩), Exa.start ev_a_ABORT na5, Fld.start ((fld_at ev_a_ABORT).symm.trans (own_eqi na6)), Fld.start ((fld_at ev_a_READ).symm.trans (own_eqi na7)), Fld.start ((fld_at ev_a_COMMIT).symm.trans (own_eqi na8)), Sta.start ev_a_WRITE (Or.inr ⟨(hw _ (List.mem_of_getElem? (i := 2) rfl)), (hw _ (List.mem_of_getElem? (i := 22) rfl))⟩), Exa.start ev_a_WRITE na9, Fld.start ((fld_at ev_a_WRITE).symm.trans (own_eqi na10)), Fld.start ((fld_at ev_a_WRITE).symm.trans (own_eqi na11)), Fld.start ((fld_at ev_a_ABORT).symm.trans (own_eqi na12)), Sta.start ev_a_INCREMENT (Or.inr ⟨(hw _ (List.mem_of_getElem? (i := 2) rfl)), (hw _ (List.mem_of_getElem? (i := 25) rfl))⟩), Exa.start ev_a_INCREMENT na13, Fld.start ((fld_at ev_a_INCREMENT).symm.trans (own_eqi na14)), Fld.start ((fld_at ev_a_INCREMENT).symm.trans (own_eqi nb14))⟩
  obtain ⟨n, o, h1, h2, h3, _, L, rfl, ⟨rfl, N⟩, hq⟩ := rm0 l s _ hw tables_1 i0 a_READ a_COMMIT a_ABORT a_WRITE a_INCREMENT s.heap s.heap.size (Nat.le_refl _) FF p e ha hc hk s m _ below hf ((Spec.applies_iff_loose hf).mp happ).1 ⟨rfl, State.Warmed39.refl s, rfl⟩ trivial
  refine ⟨n, _, h1, h2, h3, hpost _ _ _ _ _ _ ⟨Cond.after_iff.mpr rfl, Cond.after_iff.mpr (eq_i res_at (Term.int_eval (1)) rfl), trivial⟩ ⟨hq.1, hq.2.1, (hq.2.2.sift fun y hy => Or.inr (N y hy)).mono (by decide) (by decide)⟩⟩
theorem main_1_1 : Claimed_1_1 := comes_1 fun _ _ _ _ _ _ h hF => ⟨h.1, hF⟩
theorem main_1_2 : Claimed_1_2 := comes_1 fun _ _ _ _ _ _ h hF => ⟨h.2.1, hF⟩
end Jvm.Pilot.@@N@@
namespace Jvm.Pilot.@@N@@
open Jvm Jvm.ClassFile Sem Op Lib Jvm.Free Jvm.Stand Jvm.Pilot.@@N@@.Jvm.D
/-! MADE BY PROGRAM (witnessworld.py) out of the Statement's table words and the real class files: 12 classes; the members and pool entries that the words name. The judged class is class 1, her method 1. -/
namespace start1
open Jvm.ClassFile
def u (s : String) : CpInfo := .utf8 (stringToUtf16 s)
/-- a pool by its gaps: so many unusable entries, then the entry; so many at the end -/
def gap : Nat → List CpInfo → List CpInfo
  | 0, r => r
  | n + 1, r => .unusable :: gap n r
def poolList (es : List (Nat × CpInfo)) (last : Nat) : List CpInfo := es.foldr (fun e r => gap e.1 (e.2 :: r)) (gap last [])
def pool (es : List (Nat × CpInfo)) (last : Nat) : Array CpInfo := ⟨poolList es last⟩
def fileOf (pool : Array CpInfo) (this : Nat) (attrs : Array Attribute := #[]) (ms : Array MethodInfo := #[]) (fl : Nat := 33) (sup : Nat := 0) (ifs : Array Nat := #[]) (fds : Array FieldInfo := #[]) : ClassFile where
  minorVersion := 0
  majorVersion := 65
  constantPool := pool
  accessFlags := fl
  thisClass := this
  superClass := sup
  interfaces := ifs
  fields := fds
  methods := ms
  attributes := attrs
def plain (name : String) (sup : Option ClassId) : Class where
  name := name
  kind := .ordinary
  loader := none
  accessFlags := 33
  super := sup
  interfaces := #[]
  cf := none
  fields := #[]
  methods := #[]
  instanceTypes := #[]
  staticTypes := #[]
  resolved := #[]
  callSites := []
  init := .initialized
  statics := none
  mirror := none

def pool0 : Array CpInfo := pool [(5, u "<init>"), (0, u "()V"), (1, .class_ 10), (1, u "java/lang/Object")] 113

def k0m0 : Method := { name := "<init>", desc := "()V", sig := { parameters := [], returnType := none }, accessFlags := 1, code := none }
/-- java/lang/Object -/
def k0 : Class := { plain "java/lang/Object" none with
  accessFlags := 33
  interfaces := #[]
  cf := some (fileOf pool0 8 #[] #[{ accessFlags := 1, nameIndex := 5, descriptorIndex := 6, attributes := #[] }] 33 0 #[] #[])
  fields := #[]
  methods := #[k0m0]
  instanceTypes := #[]
  staticTypes := #[]
  resolved := Array.replicate 124 none
  statics := none }

def pool1 : Array CpInfo := pool [(2, .class_ 4), (1, u "java/lang/Object"), (0, u "<init>"), (0, u "()V"), (0, .integer 2147483647), (0, .fieldref 9 10), (0, .class_ 11), (0, .nameAndType 12 13), (0, u "com/example/schedulock/schedulock/schedule/OperationKind"), (0, u "READ"), (0, u "Lcom/example/schedulock/schedulock/schedule/OperationKind;"), (0, .fieldref 9 15), (0, .nameAndType 16 13), (0, u "WRITE"), (0, .fieldref 9 18), (0, .nameAndType 19 13), (0, u "INCREMENT"), (0, .fieldref 9 21), (0, .nameAndType 22 13), (0, u "COMMIT"), (0, .fieldref 9 24), (0, .nameAndType 25 13), (0, u "ABORT"), (0, .methodref 9 27), (0, .nameAndType 28 29), (0, u "endsTransaction"), (0, u "()Z"), (0, .methodref 9 31), (0, .nameAndType 32 29), (0, u "takesItem"), (0, .class_ 34), (0, u "com/example/schedulock/schedulock/schedule/OperationKindEndsTransactionPinLaw"), (2, u "law"), (0, u "(I)Z")] 3

def k1m0 : Method := { name := "<init>", desc := "()V", sig := { parameters := [], returnType := none }, accessFlags := 2, code := none }
def k1c1 : Code := { maxStack := 2, maxLocals := 5, code := code, exceptionTable := #[], attributes := #[] }
def k1m1 : Method := { name := "law", desc := "(I)Z", sig := { parameters := [.int], returnType := some .boolean }, accessFlags := 9, code := some k1c1 }
/-- com/example/schedulock/schedulock/schedule/OperationKindEndsTransactionPinLaw -/
def k1 : Class := { plain "com/example/schedulock/schedulock/schedule/OperationKindEndsTransactionPinLaw" (some 0) with
  accessFlags := 49
  interfaces := #[]
  cf := some (fileOf pool1 33 #[] #[{ accessFlags := 2, nameIndex := 5, descriptorIndex := 6, attributes := #[] }, { accessFlags := 9, nameIndex := 37, descriptorIndex := 38, attributes := #[] }] 49 2 #[] #[])
  fields := #[]
  methods := #[k1m0, k1m1]
  instanceTypes := #[]
  staticTypes := #[]
  resolved := Array.replicate 42 none
  statics := none }

def pool2 : Array CpInfo := pool [(1, .class_ 2), (0, u "java/lang/constant/Constable"), (0, .class_ 4), (0, u "java/lang/Object")] 6

/-- java/lang/constant/Constable -/
def k2 : Class := { plain "java/lang/constant/Constable" (some 0) with
  accessFlags := 1537
  interfaces := #[]
  cf := some (fileOf pool2 1 #[] #[] 1537 3 #[] #[])
  fields := #[]
  methods := #[]
  instanceTypes := #[]
  staticTypes := #[]
  resolved := Array.replicate 11 none
  statics := none }

def pool3 : Array CpInfo := pool [(1, .class_ 2), (0, u "java/lang/Comparable"), (0, .class_ 4), (0, u "java/lang/Object")] 7

/-- java/lang/Comparable -/
def k3 : Class := { plain "java/lang/Comparable" (some 0) with
  accessFlags := 1537
  interfaces := #[]
  cf := some (fileOf pool3 1 #[] #[] 1537 3 #[] #[])
  fields := #[]
  methods := #[]
  instanceTypes := #[]
  staticTypes := #[]
  resolved := Array.replicate 12 none
  statics := none }

def pool4 : Array CpInfo := pool [(1, .class_ 2), (0, u "java/io/Serializable"), (0, .class_ 4), (0, u "java/lang/Object")] 2

/-- java/io/Serializable -/
def k4 : Class := { plain "java/io/Serializable" (some 0) with
  accessFlags := 1537
  interfaces := #[]
  cf := some (fileOf pool4 1 #[] #[] 1537 3 #[] #[])
  fields := #[]
  methods := #[]
  instanceTypes := #[]
  staticTypes := #[]
  resolved := Array.replicate 7 none
  statics := none }

def pool5 : Array CpInfo := pool [(2, .class_ 4), (1, u "java/lang/Enum"), (0, u "name"), (0, u "Ljava/lang/String;"), (2, u "ordinal"), (0, u "I"), (1, .class_ 14), (1, u "java/lang/Object"), (4, u "hash"), (86, .class_ 108), (1, u "java/lang/Enum$EnumDesc"), (2, .class_ 112), (0, u "java/lang/constant/Constable"), (0, .class_ 114), (0, u "java/lang/Comparable"), (0, .class_ 116), (0, u "java/io/Serializable")] 87

/-- java/lang/Enum -/
def k5 : Class := { plain "java/lang/Enum" (some 0) with
  accessFlags := 1057
  interfaces := #[2, 3, 4]
  cf := some (fileOf pool5 2 #[.nestMembers #[106]] #[] 1057 12 #[111, 113, 115] #[{ accessFlags := 18, nameIndex := 5, descriptorIndex := 6, attributes := #[] }, { accessFlags := 18, nameIndex := 9, descriptorIndex := 10, attributes := #[] }, { accessFlags := 2, nameIndex := 19, descriptorIndex := 10, attributes := #[] }])
  fields := #[{ name := "name", type := (.object "java/lang/String"), accessFlags := 18, slot := 0, constantValue := 0 }, { name := "ordinal", type := .int, accessFlags := 18, slot := 1, constantValue := 0 }, { name := "hash", type := .int, accessFlags := 2, slot := 2, constantValue := 0 }]
  methods := #[]
  instanceTypes := #[(.object "java/lang/String"), .int, .int]
  staticTypes := #[]
  resolved := Array.replicate 204 none
  statics := none }

def pool6 : Array CpInfo := pool [(1, .class_ 2), (0, u "com/example/schedulock/schedulock/schedule/OperationKind"), (2, u "READ"), (0, u "Lcom/example/schedulock/schedulock/schedule/OperationKind;"), (2, u "WRITE"), (2, u "INCREMENT"), (0, .fieldref 1 14), (0, .nameAndType 15 6), (0, u "COMMIT"), (0, .fieldref 1 17), (0, .nameAndType 18 6), (0, u "ABORT"), (2, u "$VALUES"), (0, u "[Lcom/example/schedulock/schedulock/schedule/OperationKind;"), (6, .class_ 31), (1, u "java/lang/Enum"), (8, u "symbol"), (0, u "Ljava/lang/String;"), (0, .fieldref 1 43), (0, .nameAndType 44 45), (0, u "takesItem"), (0, u "Z"), (2, u "commutesWithItself"), (59, u "()Z"), (3, u "endsTransaction")] 8

def k6c0 : Code := { maxStack := 1, maxLocals := 1, code := prog_31_method_4_code, exceptionTable := #[], attributes := #[] }
def k6m0 : Method := { name := "takesItem", desc := "()Z", sig := { parameters := [], returnType := some .boolean }, accessFlags := 1, code := some k6c0 }
def k6c1 : Code := { maxStack := 2, maxLocals := 1, code := prog_31_method_6_code, exceptionTable := #[], attributes := #[] }
def k6m1 : Method := { name := "endsTransaction", desc := "()Z", sig := { parameters := [], returnType := some .boolean }, accessFlags := 1, code := some k6c1 }
/-- com/example/schedulock/schedulock/schedule/OperationKind -/
def k6 : Class := { plain "com/example/schedulock/schedulock/schedule/OperationKind" (some 5) with
  accessFlags := 16433
  interfaces := #[]
  cf := some (fileOf pool6 1 #[] #[{ accessFlags := 1, nameIndex := 44, descriptorIndex := 108, attributes := #[] }, { accessFlags := 1, nameIndex := 112, descriptorIndex := 108, attributes := #[] }] 16433 29 #[] #[{ accessFlags := 16409, nameIndex := 5, descriptorIndex := 6, attributes := #[] }, { accessFlags := 16409, nameIndex := 9, descriptorIndex := 6, attributes := #[] }, { accessFlags := 16409, nameIndex := 12, descriptorIndex := 6, attributes := #[] }, { accessFlags := 16409, nameIndex := 15, descriptorIndex := 6, attributes := #[] }, { accessFlags := 16409, nameIndex := 18, descriptorIndex := 6, attributes := #[] }, { accessFlags := 18, nameIndex := 40, descriptorIndex := 41, attributes := #[] }, { accessFlags := 18, nameIndex := 44, descriptorIndex := 45, attributes := #[] }, { accessFlags := 18, nameIndex := 48, descriptorIndex := 45, attributes := #[] }, { accessFlags := 4122, nameIndex := 21, descriptorIndex := 22, attributes := #[] }])
  fields := #[{ name := "READ", type := (.object "com/example/schedulock/schedulock/schedule/OperationKind"), accessFlags := 16409, slot := 0, constantValue := 0 }, { name := "WRITE", type := (.object "com/example/schedulock/schedulock/schedule/OperationKind"), accessFlags := 16409, slot := 1, constantValue := 0 }, { name := "INCREMENT", type := (.object "com/example/schedulock/schedulock/schedule/OperationKind"), accessFlags := 16409, slot := 2, constantValue := 0 }, { name := "COMMIT", type := (.object "com/example/schedulock/schedulock/schedule/OperationKind"), accessFlags := 16409, slot := 3, constantValue := 0 }, { name := "ABORT", type := (.object "com/example/schedulock/schedulock/schedule/OperationKind"), accessFlags := 16409, slot := 4, constantValue := 0 }, { name := "symbol", type := (.object "java/lang/String"), accessFlags := 18, slot := 3, constantValue := 0 }, { name := "takesItem", type := .boolean, accessFlags := 18, slot := 4, constantValue := 0 }, { name := "commutesWithItself", type := .boolean, accessFlags := 18, slot := 5, constantValue := 0 }, { name := "$VALUES", type := (.array (.object "com/example/schedulock/schedulock/schedule/OperationKind")), accessFlags := 4122, slot := 5, constantValue := 0 }]
  methods := #[k6m0, k6m1]
  instanceTypes := #[(.object "java/lang/String"), .int, .int, (.object "java/lang/String"), .boolean, .boolean]
  staticTypes := #[(.object "com/example/schedulock/schedulock/schedule/OperationKind"), (.object "com/example/schedulock/schedulock/schedule/OperationKind"), (.object "com/example/schedulock/schedulock/schedule/OperationKind"), (.object "com/example/schedulock/schedulock/schedule/OperationKind"), (.object "com/example/schedulock/schedulock/schedule/OperationKind"), (.array (.object "com/example/schedulock/schedulock/schedule/OperationKind"))]
  resolved := Array.replicate 121 none
  statics := some 0 }

def pool7 : Array CpInfo := pool [(1, u "java/lang/Cloneable"), (0, .class_ 1), (0, u "java/lang/Object"), (0, .class_ 3)] 3

/-- java/lang/Cloneable -/
def k7 : Class := { plain "java/lang/Cloneable" (some 0) with
  accessFlags := 1537
  interfaces := #[]
  cf := some (fileOf pool7 2 #[] #[] 1537 4 #[] #[])
  fields := #[]
  methods := #[]
  instanceTypes := #[]
  staticTypes := #[]
  resolved := Array.replicate 8 none
  statics := none }

/-- the primitive byte -/
def k8 : Class := { plain "byte" none with kind := .primitive 'B', accessFlags := 0x411 }
/-- [B -/
def k9 : Class := { plain "[B" (some 0) with kind := .array 8 .byte, interfaces := #[7, 4], accessFlags := 1041 }

/-- the primitive int -/
def k10 : Class := { plain "int" none with kind := .primitive 'I', accessFlags := 0x411 }
/-- [I -/
def k11 : Class := { plain "[I" (some 0) with kind := .array 10 .int, interfaces := #[7, 4], accessFlags := 1041 }

def heap : Heap := #[{ cls := 6, slots := #[.ref 1, .ref 4, .ref 5, .ref 2, .ref 3, .null], vm := .statics 6 },
  { cls := 6, slots := #[.null, .int 0, .int 0, .null, .int 1, .int 0], vm := .none },
  { cls := 6, slots := #[.null, .int 3, .int 0, .null, .int 0, .int 0], vm := .none },
  { cls := 6, slots := #[.null, .int 4, .int 0, .null, .int 0, .int 0], vm := .none },
  { cls := 6, slots := #[.null, .int 1, .int 0, .null, .int 1, .int 0], vm := .none },
  { cls := 6, slots := #[.null, .int 2, .int 0, .null, .int 1, .int 0], vm := .none }]
def classes : Array Class := #[k0, k1, k2, k3, k4, k5, k6, k7, k8, k9, k10, k11]
def interned : List (Array UInt16 × Addr) := []
def slotsUsed : Nat := 36
def theMethod : MethodId := ⟨1, 1⟩
def args0 : Array Value := #[.int 5]
def aboutOver (below : List Frame) : State where
  vm := { classes := classes, interned := interned.toArray }
  heap := heap
  slotsUsed := slotsUsed
  threads := #[{ frames := .invoking theMethod args0 :: below }]
def below0 : List Frame := [.native { method := ⟨0, 0⟩, args := #[] }]
def about1 : State := aboutOver below0
def p0 : Program := .bare "" "" ""
def e0 : Env := launch0.env 0 0 0
theorem w_frames : about1.frames = Frame.invoking theMethod args0 :: below0 := rfl
set_option maxRecDepth 65536 in
theorem w_args : argsFit about1.vm theMethod args0 = true := by decide +kernel
set_option maxRecDepth 65536 in
theorem w_heap : heapFits about1 = true := by decide +kernel
set_option maxRecDepth 65536 in
theorem w_runnable : about1.curStatus? = some .runnable := by decide +kernel
set_option maxRecDepth 65536 in
theorem w_alone : about1.alone = true := by decide +kernel
set_option maxRecDepth 65536 in
theorem w_named : about1.methodNamed? x = some theMethod := by decide +kernel
set_option maxRecDepth 65536 in
theorem w_hears : about1.hears theMethod below0 = true := by decide +kernel
set_option maxRecDepth 65536 in
theorem w_ripe : about1.ripe theMethod args0 below0 = true := by decide +kernel
theorem w_running : about1.status = .running := rfl
set_option maxRecDepth 65536 in
theorem w_room : about1.hasRoom e0.platform room_1 = true :=
  launch0.hasRoom_least _ room_1 (by decide +kernel) (by decide +kernel) (by decide +kernel) (by decide +kernel) (by decide +kernel) (by decide +kernel)
theorem allAtoms_all (ts : List Jvm.Cond) (a : Array Jvm.Value) (st : Jvm.State) : (allAtoms ts).before a st = ts.all (fun c => c.before a st) := by
  induction ts with
  | nil => rfl
  | cons c t ih =>
    show (Jvm.Cond.and c (allAtoms t)).before a st = _
    rw [Jvm.Cond.before_and, ih, List.all_cons]
def words1 : List Jvm.Cond := Jvm.Cond.code x code maxLocals ret :: tables_1
/-- a 'code' word, met by the world's own term for the bytes: nothing is compared byte by byte -/
theorem code_word {y : MethodName} {bytes : ByteArray} {mx : Nat} {rt : Option FieldType} {a : Array Value} {s : State} {m : MethodId} {meth : Method} {c : Code} (h1 : s.methodNamed? y = some m) (h2 : s.vm.method? m = some meth) (h3 : meth.code = some c) (h4 : c.code = bytes)
    (h5 : (c.maxLocals == mx && c.exceptionTable.isEmpty && decide (c.maxStack ≤ mostOperands) && decide (meth.sig.returnType = rt) && !meth.locks && decide (parseMethodDescriptor y.desc = some meth.sig)) = true) : (Jvm.Cond.code y bytes mx rt).before a s = true := by
  simp only [Bool.and_eq_true, beq_iff_eq, Bool.not_eq_true', decide_eq_true_eq] at h5
  obtain ⟨⟨⟨⟨⟨g1, g2⟩, g3⟩, g4⟩, g5⟩, g6⟩ := h5
  simp [Cond.before, Cond.holds, Cond.value, h1, h2, h3, h4, g1, g2, g3, g4, g5, g6]
def isCode : Jvm.Cond → Bool
  | .code _ _ _ _ => true
  | _ => false
theorem all_split {L : List Jvm.Cond} {P : Jvm.Cond → Bool} (h1 : L.all (fun c => isCode c || P c) = true) (h2 : ∀ c ∈ L.filter isCode, P c = true) : L.all P = true := by
  refine List.all_eq_true.mpr fun c hc => ?_
  have h := List.all_eq_true.mp h1 c hc
  rcases Bool.eq_false_or_eq_true (isCode c) with hi | hi
  · exact h2 c (List.mem_filter.mpr ⟨hc, hi⟩)
  · simpa [hi] using h
set_option maxRecDepth 65536 in
theorem w_c0 : (Jvm.Cond.code x code maxLocals ret).before args0 about1 = true := code_word (m := ⟨1, 1⟩) (meth := k1m1) (c := k1c1) (by decide +kernel) rfl rfl rfl (by decide +kernel)
set_option maxRecDepth 65536 in
theorem w_c1 : (Jvm.Cond.code ({ cls := "com/example/schedulock/schedulock/schedule/OperationKind", name := "endsTransaction", desc := "()Z" } : Jvm.MethodName) prog_31_method_6_code (1 : Nat) (Option.some Jvm.ClassFile.FieldType.boolean)).before args0 about1 = true := code_word (m := ⟨6, 1⟩) (meth := k6m1) (c := k6c1) (by decide +kernel) rfl rfl rfl (by decide +kernel)
set_option maxRecDepth 65536 in
theorem w_c2 : (Jvm.Cond.code ({ cls := "com/example/schedulock/schedulock/schedule/OperationKind", name := "takesItem", desc := "()Z" } : Jvm.MethodName) prog_31_method_4_code (1 : Nat) (Option.some Jvm.ClassFile.FieldType.boolean)).before args0 about1 = true := code_word (m := ⟨6, 0⟩) (meth := k6m0) (c := k6c0) (by decide +kernel) rfl rfl rfl (by decide +kernel)
def codes1 : List Jvm.Cond := [Jvm.Cond.code x code maxLocals ret, Jvm.Cond.code ({ cls := "com/example/schedulock/schedulock/schedule/OperationKind", name := "endsTransaction", desc := "()Z" } : Jvm.MethodName) prog_31_method_6_code (1 : Nat) (Option.some Jvm.ClassFile.FieldType.boolean), Jvm.Cond.code ({ cls := "com/example/schedulock/schedulock/schedule/OperationKind", name := "takesItem", desc := "()Z" } : Jvm.MethodName) prog_31_method_4_code (1 : Nat) (Option.some Jvm.ClassFile.FieldType.boolean)]
set_option maxRecDepth 65536 in
theorem codes_eq : words1.filter isCode = codes1 := rfl
theorem w_codes : ∀ c ∈ words1.filter isCode, c.before args0 about1 = true := by
  rw [codes_eq]
  intro c hc
  simp only [codes1, List.mem_cons, List.not_mem_nil, or_false] at hc
  rcases hc with rfl | rfl | rfl
  · exact w_c0
  · exact w_c1
  · exact w_c2
set_option maxRecDepth 65536 in
theorem w_t1 : (words1.take 24).all (fun c => isCode c || c.before args0 about1) = true := by decide +kernel
set_option maxRecDepth 65536 in
theorem w_t2 : (words1.drop 24).all (fun c => isCode c || c.before args0 about1) = true := by decide +kernel
theorem w_tables : (allAtoms (Jvm.Cond.code x code maxLocals ret :: tables_1)).before args0 about1 = true := by
  rw [allAtoms_all]
  show words1.all (fun c => c.before args0 about1) = true
  refine all_split ?_ w_codes
  rw [← List.take_append_drop 24 words1, List.all_append, w_t1, w_t2]
  rfl
set_option maxRecDepth 65536 in
theorem w_case : (Jvm.Cond.and given_1 narrow_1).before args0 about1 = true := by decide +kernel
theorem w_applies : (headSpec (Jvm.Cond.code x code maxLocals ret :: tables_1) room_1).applies x e0.platform about1 = true :=
  (Spec.applies_iff w_frames).mpr ⟨w_running, w_runnable, w_alone, w_named, w_hears, w_ripe, w_room, w_tables⟩
theorem atStart : AtStart classFile x code maxLocals ret World_1 tables_1 room_1 Calls_1 rest_1 Pre_1 launch0 p0 e0 about1 theMethod args0 below0 :=
  ⟨lists_1, trivial, launch0.admits_env _ _ _, launch0.least_env, fairChoices_fair.cas, fairChoices_fair.clock, w_frames, w_args, w_heap, w_applies, trivial, trivial, w_case⟩
end start1
theorem witness_1 : WitnessClaimed_1 := ⟨start1.p0, start1.e0, start1.about1, start1.theMethod, start1.args0, start1.below0, start1.atStart⟩
end Jvm.Pilot.@@N@@
